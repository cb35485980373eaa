import JvmDerived
import JvmDerived.Pilot.@@N@@Statement
import JvmDerived.Pilot.@@N@@Code
set_option linter.unusedVariables false
set_option linter.unusedSimpArgs false
namespace Jvm.Pilot.@@N@@
open Jvm Jvm.ClassFile Sem Op Lib Jvm.Free Jvm.Stand Jvm.LawKit Jvm.RoadKit Bundle Jvm.Pilot.@@N@@.Jvm.D
section OwnGo
variable {p : Program} {l : Launch} {e : Env} {R : Room} {s : State} {m : MethodId} {args : Array Value} {below : List Frame} {meth : Method} {c : Code} {T : State} {locs : List Loc} {cells slots : Nat}
/-- from S the run ends, returned, with Q -/
def own_Go (p : Program) (e : Env) (below : List Frame) (s : State) (Q : Option Value → Heap → List Loc → Prop) (cs ss : Nat) (S : State) : Prop :=
  ∃ (U : State) (o : Outcome), Steps p.tables e below S U ∧ U.status = .running ∧ Ended U below o ∧ ∃ v L, o = .returned v ∧ Q v U.heap L ∧ FrameEnd s o U L cs ss
variable {Q : Option Value → Heap → List Loc → Prop} {cs ss : Nat} {S S' : State}
theorem own_via (st : ∀ t, Steps p.tables e below S' t → Steps p.tables e below S t) (k : own_Go p e below s Q cs ss S') : own_Go p e below s Q cs ss S := by
  obtain ⟨U, o, h, r⟩ := k; exact ⟨U, o, st U h, r⟩
theorem own_viaT (st : Steps p.tables e below S S') (k : own_Go p e below s Q cs ss S') : own_Go p e below s Q cs ss S := own_via (fun _ h => st.trans h) k
theorem own_goV (X : Stand p l e R s m args below meth c T locs cells slots) (hx : p.tables.exec = Jvm.exec) {pc : Nat} {Ls : Array Slot} (hret : meth.sig.returnType = none) (hd : decode c.code pc = .ok (.return_, 1)) (hk : meth.locks = false) (hc : cells ≤ cs) (hs : slots ≤ ss) (hQ : Q none T.heap locs) :
    own_Go p e below s Q cs ss (T.setTop (mkF m pc Ls [])) := by
  obtain ⟨fs, hr, hrun, hended, hW, hsame⟩ := X.leave (v := none) (fun _ => rfl) hk
  exact ⟨_, _, X.returnOut hx hret hd hr, hrun, hended, _, _, rfl, hQ, ⟨_, rfl⟩, hW, hsame.mono hc hs⟩
theorem own_goN (X : Stand p l e R s m args below meth c T locs cells slots) (hx : p.tables.exec = Jvm.exec) {pc : Nat} {Ls : Array Slot} {z : Int32} {t : FieldType} {rest : List Value} (hret : meth.sig.returnType = some t) (ht : t = .boolean ∨ t = .byte ∨ t = .char ∨ t = .short) (hd : decode c.code pc = .ok (.ireturn, 1)) (hk : meth.locks = false) (hc : cells ≤ cs) (hs : slots ≤ ss) (hQ : Q (some (.int (nar t z))) T.heap locs) :
    own_Go p e below s Q cs ss (T.setTop (mkF m pc Ls (.int z :: rest))) := by
  obtain ⟨fs, hr, hrun, hended, hW, hsame⟩ := X.leave (v := some (.int (nar t z))) (fun h => by rw [hret] at h; cases h) hk
  exact ⟨_, _, retN X hx hret ht hd hr, hrun, hended, _, _, rfl, hQ, ⟨_, rfl⟩, hW, hsame.mono hc hs⟩
theorem own_goI (X : Stand p l e R s m args below meth c T locs cells slots) (hx : p.tables.exec = Jvm.exec) {pc : Nat} {Ls : Array Slot} {z : Int32} (hret : meth.sig.returnType = some .int) (hd : decode c.code pc = .ok (.ireturn, 1)) (hk : meth.locks = false) (hc : cells ≤ cs) (hs : slots ≤ ss) (hQ : Q (some (.int z)) T.heap locs) :
    own_Go p e below s Q cs ss (T.setTop (mkF m pc Ls [.int z])) := by
  obtain ⟨fs, hr, hrun, hended, hW, hsame⟩ := X.leave (v := some (.int z)) (fun h => by rw [hret] at h; cases h) hk
  exact ⟨_, _, X.ireturnOut hx hret rfl (Or.inl rfl) hd hr, hrun, hended, _, _, rfl, hQ, ⟨_, rfl⟩, hW, hsame.mono hc hs⟩
theorem own_goJ (X : Stand p l e R s m args below meth c T locs cells slots) (hx : p.tables.exec = Jvm.exec) {pc : Nat} {Ls : Array Slot} {z : Int64} (hret : meth.sig.returnType = some .long) (hd : decode c.code pc = .ok (.lreturn, 1)) (hk : meth.locks = false) (hc : cells ≤ cs) (hs : slots ≤ ss) (hQ : Q (some (.long z)) T.heap locs) :
    own_Go p e below s Q cs ss (T.setTop (mkF m pc Ls [.long z])) := by
  obtain ⟨fs, hr, hrun, hended, hW, hsame⟩ := X.leave (v := some (.long z)) (fun h => by rw [hret] at h; cases h) hk
  exact ⟨_, _, X.lreturnOut hx hret hd hr, hrun, hended, _, _, rfl, hQ, ⟨_, rfl⟩, hW, hsame.mono hc hs⟩
theorem own_goA (X : Stand p l e R s m args below meth c T locs cells slots) (hx : p.tables.exec = Jvm.exec) {pc : Nat} {Ls : Array Slot} {w : Value} {t : FieldType} (hw : w.isRef = true) (hret : meth.sig.returnType = some t) (ht : t.isReference = true) (hd : decode c.code pc = .ok (.areturn, 1)) (hk : meth.locks = false) (hc : cells ≤ cs) (hs : slots ≤ ss) (hQ : Q (some w) T.heap locs) :
    own_Go p e below s Q cs ss (T.setTop (mkF m pc Ls [w])) := by
  obtain ⟨fs, hr, hrun, hended, hW, hsame⟩ := X.leave (v := some w) (fun h => by rw [hret] at h; cases h) hk
  exact ⟨_, _, X.areturnOut hx hw hret ht hd hr, hrun, hended, _, _, rfl, hQ, ⟨_, rfl⟩, hW, hsame.mono hc hs⟩
theorem own_selP {s : State} {args : Array Value} {y y' : MethodName} (hs : (Cond.selects y'.cls y' y').before args s = true) (hc : y'.cls = y.cls) (hpriv : s.PrivateAt y) (hinst : (Cond.instanceMethod y).before args s = true) (hy : y.cls ≠ "java/lang/invoke/MethodHandle" ∧ y.cls ≠ "java/lang/invoke/VarHandle") : (Cond.selects y.cls y y).before args s = true := by
  obtain ⟨c2, r2, m2, -, -, q3, -, kP, hkP, hkPi⟩ := Cond.selects_spec hs
  exact selects_self_of_private (hc ▸ findClass_of_methodNamed q3) hkP hkPi hpriv hinst hy
end OwnGo
def o_i2l (x : Int32) : Int64 := x.toInt64
def o_l2i (x : Int64) : Int32 := x.toInt32
def o_i2b (x : Int32) : Int32 := x.toInt8.toInt32
def o_i2s (x : Int32) : Int32 := x.toInt16.toInt32
def o_i2c (x : Int32) : Int32 := x.toUInt32.toUInt16.toUInt32.toInt32
def o_ishl (x y : Int32) : Int32 := x <<< (y &&& 31)
def o_ishr (x y : Int32) : Int32 := x >>> (y &&& 31)
def o_iushr (x y : Int32) : Int32 := (x.toUInt32 >>> (y &&& 31).toUInt32).toInt32
def o_lshl (x : Int64) (y : Int32) : Int64 := x <<< (y &&& 0x3f).toInt64
def o_lshr (x : Int64) (y : Int32) : Int64 := x >>> (y &&& 0x3f).toInt64
def o_lushr (x : Int64) (y : Int32) : Int64 := (x.toUInt64 >>> (y &&& 0x3f).toInt64.toUInt64).toInt64
def o_irem (x y : Int32) : Int32 := x - (x / y) * y
def o_lrem (x y : Int64) : Int64 := x - (x / y) * y
def o_d0 : UInt64 := FP.dconst0
def o_d1 : UInt64 := FP.dconst1
theorem d1_0 : decode method_2_code 0 = .ok (.iload_n 0, 1) := by decide +kernel
theorem d1_1 : decode method_2_code 1 = .ok (.ldc 7, 2) := by decide +kernel
theorem d1_3 : decode method_2_code 3 = .ok (.iand, 1) := by decide +kernel
theorem d1_4 : decode method_2_code 4 = .ok (.bipush 6, 2) := by decide +kernel
theorem d1_6 : decode method_2_code 6 = .ok (.irem, 1) := by decide +kernel
theorem d1_7 : decode method_2_code 7 = .ok (.istore_n 1, 1) := by decide +kernel
theorem d1_8 : decode method_2_code 8 = .ok (.iload_n 1, 1) := by decide +kernel
theorem d1_9 : decode method_2_code 9 = .ok (.ifCond .ne 7, 3) := by decide +kernel
theorem d1_12 : decode method_2_code 12 = .ok (.getstatic 8, 3) := by decide +kernel
theorem d1_15 : decode method_2_code 15 = .ok (.areturn, 1) := by decide +kernel
theorem d1_16 : decode method_2_code 16 = .ok (.iload_n 1, 1) := by decide +kernel
theorem d1_17 : decode method_2_code 17 = .ok (.iconst 1, 1) := by decide +kernel
theorem d1_18 : decode method_2_code 18 = .ok (.if_icmp .ne 7, 3) := by decide +kernel
theorem d1_21 : decode method_2_code 21 = .ok (.getstatic 14, 3) := by decide +kernel
theorem d1_24 : decode method_2_code 24 = .ok (.areturn, 1) := by decide +kernel
theorem d1_25 : decode method_2_code 25 = .ok (.iload_n 1, 1) := by decide +kernel
theorem d1_26 : decode method_2_code 26 = .ok (.iconst 2, 1) := by decide +kernel
theorem d1_27 : decode method_2_code 27 = .ok (.if_icmp .ne 7, 3) := by decide +kernel
theorem d1_30 : decode method_2_code 30 = .ok (.getstatic 17, 3) := by decide +kernel
theorem d1_33 : decode method_2_code 33 = .ok (.areturn, 1) := by decide +kernel
theorem d1_34 : decode method_2_code 34 = .ok (.iload_n 1, 1) := by decide +kernel
theorem d1_35 : decode method_2_code 35 = .ok (.iconst 3, 1) := by decide +kernel
theorem d1_36 : decode method_2_code 36 = .ok (.if_icmp .ne 7, 3) := by decide +kernel
theorem d1_39 : decode method_2_code 39 = .ok (.getstatic 20, 3) := by decide +kernel
theorem d1_42 : decode method_2_code 42 = .ok (.areturn, 1) := by decide +kernel
theorem d1_43 : decode method_2_code 43 = .ok (.iload_n 1, 1) := by decide +kernel
theorem d1_44 : decode method_2_code 44 = .ok (.iconst 4, 1) := by decide +kernel
theorem d1_45 : decode method_2_code 45 = .ok (.if_icmp .ne 7, 3) := by decide +kernel
theorem d1_48 : decode method_2_code 48 = .ok (.getstatic 23, 3) := by decide +kernel
theorem d1_51 : decode method_2_code 51 = .ok (.areturn, 1) := by decide +kernel
theorem d1_52 : decode method_2_code 52 = .ok (.getstatic 26, 3) := by decide +kernel
theorem d1_55 : decode method_2_code 55 = .ok (.areturn, 1) := by decide +kernel
def own_pick (p_ : Int32) (ea0 : Addr) (ea1 : Addr) (ea2 : Addr) (ea3 : Addr) (ea4 : Addr) (ea5 : Addr) : Addr := (if (o_irem (p_ &&& (2147483647 : Int32)) (6 : Int32)) = (0 : Int32) then ea0 else (if (o_irem (p_ &&& (2147483647 : Int32)) (6 : Int32)) = (1 : Int32) then ea1 else (if (o_irem (p_ &&& (2147483647 : Int32)) (6 : Int32)) = (2 : Int32) then ea2 else (if (o_irem (p_ &&& (2147483647 : Int32)) (6 : Int32)) = (3 : Int32) then ea3 else (if (o_irem (p_ &&& (2147483647 : Int32)) (6 : Int32)) = (4 : Int32) then ea4 else ea5)))))
theorem pn_0 : plainName "com/example/trajectory/trajectory/model/OperatorOrdersPinLaw" = true := by first | (simp [plainName, overriddenIn]; done) | decide +kernel
theorem ef_1 (m : MethodId) (x0 : Int32) : entryFrame m #[(.int x0)] 2 = mkF m 0 #[.val (.int x0), .unset] [] := by first | (simp [entryFrame, mkF, argsToLocals, Value.category]; done) | rfl
def Q1 (Z : State) (p_ : Int32) (ea0 : Addr) (ea1 : Addr) (ea2 : Addr) (ea3 : Addr) (ea4 : Addr) (ea5 : Addr) (h0 : Heap) (n0 : Nat) (v : Option Value) (h : Heap) (L : List Loc) : Prop := v = some (.ref (own_pick p_ ea0 ea1 ea2 ea3 ea4 ea5)) ∧ Fr n0 L ∧ h = h0
set_option maxRecDepth 65536 in
set_option maxHeartbeats 40000000 in
theorem rm1 (l : Launch) (Z : State) (a0 : Array Value) (hw : ∀ d ∈ tables_1, d.before a0 Z = true) (ws : List Jvm.Cond) (p_ : Int32) (ea0 : Addr) (ea1 : Addr) (ea2 : Addr) (ea3 : Addr) (ea4 : Addr) (ea5 : Addr) (h0 : Heap) (n0 : Nat) (Z0 : n0 ≤ h0.size) (O0 : Old Z n0 h0) (S_EQUALS : Sta Z Z.heap "com/example/trajectory/trajectory/model/Condition$Operator" "EQUALS" "Lcom/example/trajectory/trajectory/model/Condition$Operator;" (.ref ea0)) (S_NOT_EQUALS : Sta Z Z.heap "com/example/trajectory/trajectory/model/Condition$Operator" "NOT_EQUALS" "Lcom/example/trajectory/trajectory/model/Condition$Operator;" (.ref ea1)) (S_LESS_THAN : Sta Z Z.heap "com/example/trajectory/trajectory/model/Condition$Operator" "LESS_THAN" "Lcom/example/trajectory/trajectory/model/Condition$Operator;" (.ref ea2)) (S_AT_MOST : Sta Z Z.heap "com/example/trajectory/trajectory/model/Condition$Operator" "AT_MOST" "Lcom/example/trajectory/trajectory/model/Condition$Operator;" (.ref ea3)) (S_GREATER_THAN : Sta Z Z.heap "com/example/trajectory/trajectory/model/Condition$Operator" "GREATER_THAN" "Lcom/example/trajectory/trajectory/model/Condition$Operator;" (.ref ea4)) (S_AT_LEAST : Sta Z Z.heap "com/example/trajectory/trajectory/model/Condition$Operator" "AT_LEAST" "Lcom/example/trajectory/trajectory/model/Condition$Operator;" (.ref ea5)) :
    MetFree l (⟨"com/example/trajectory/trajectory/model/OperatorOrdersPinLaw", "pick", "(I)Lcom/example/trajectory/trajectory/model/Condition$Operator;"⟩ : MethodName) (head1 (Jvm.Cond.code (⟨"com/example/trajectory/trajectory/model/OperatorOrdersPinLaw", "pick", "(I)Lcom/example/trajectory/trajectory/model/Condition$Operator;"⟩ : MethodName) method_2_code 2 (some (.object "com/example/trajectory/trajectory/model/Condition$Operator")) :: ws) ({ frames := 0, cells := 0, slots := 0, locals := 0 } : Room)) (fun q_ U => q_ = #[(.int p_)] ∧ Z.Warmed39 U.vm ∧ U.heap = h0) (fun _ _ _ _ _ => True) (fun _ U o U' => ∃ v L, o = .returned v ∧ Q1 Z p_ ea0 ea1 ea2 ea3 ea4 ea5 h0 n0 v U'.heap L ∧ FrameEnd U o U' L ({ frames := 0, cells := 0, slots := 0, locals := 0 } : Room).cells ({ frames := 0, cells := 0, slots := 0, locals := 0 } : Room).slots) := by
  refine MetFree.of_bodySF (plainFor_of_name pn_0) hisR ?_
  intro p e s m args below meth c s₁ Bd hml0 hP hK
  obtain ⟨rfl, hZ, hh⟩ := hP
  have hx := Bd.exec
  have hby := Bd.bytes
  have hml : c.maxLocals = 2 := hml0
  have hown : s.vm.findClass "com/example/trajectory/trajectory/model/OperatorOrdersPinLaw" = some m.cls := findClass_of_methodNamed Bd.named
  have hnm := (name_of_methodNamed Bd.named Bd.method).1
  have X0 : Stand p l e ({ frames := 0, cells := 0, slots := 0, locals := 0 } : Room) s m #[(.int p_)] below meth c s₁ [] 0 0 := Stand.of_body Bd
  have e0 : s₁.heap = h0 := by rw [← hh, Bd.state]; rfl
  have N0 := Fr.nil n0
  show own_Go p e below s (Q1 Z p_ ea0 ea1 ea2 ea3 ea4 ea5 h0 n0) ({ frames := 0, cells := 0, slots := 0, locals := 0 } : Room).cells ({ frames := 0, cells := 0, slots := 0, locals := 0 } : Room).slots (s₁.setTop (entryFrame m #[(.int p_)] 2))
  refine own_via (fun t k => castTop (ef_1 m p_) k) ?_
  show own_Go p e below s _ _ _ (s₁.setTop (mkF m 0 #[.val (.int p_), .unset] []))
  refine own_via (fun _ k => XS.iloadN X0.here hx rfl (hb hby d1_0) rfl k) ?_
  show own_Go p e below s _ _ _ (s₁.setTop (mkF m 1 #[.val (.int p_), .unset] [(.int p_)]))
  refine own_via (fun _ k => X0.ldcInt hx hown (mvT hZ (hw _ (List.mem_of_getElem? (i := 4) rfl))) (g := (mkF m 1 #[.val (.int p_), .unset] [(.int p_)])) rfl (hb hby d1_1) _ k) ?_
  show own_Go p e below s _ _ _ (s₁.setTop (mkF m 3 #[.val (.int p_), .unset] [(.int (2147483647 : Int32)), (.int p_)]))
  refine own_via (fun _ k => XS.iand X0.here hx rfl (hb hby d1_3) rfl k) ?_
  show own_Go p e below s _ _ _ (s₁.setTop (mkF m 4 #[.val (.int p_), .unset] [(.int (p_ &&& (2147483647 : Int32)))]))
  refine own_via (fun _ k => XS.bipush X0.here hx rfl (hb hby d1_4) k) ?_
  show own_Go p e below s _ _ _ (s₁.setTop (mkF m 6 #[.val (.int p_), .unset] [(.int (6 : Int32)), (.int (p_ &&& (2147483647 : Int32)))]))
  refine own_via (fun _ k => XS.irem X0.here hx rfl (hb hby d1_6) rfl (by decide) k) ?_
  show own_Go p e below s _ _ _ (s₁.setTop (mkF m 7 #[.val (.int p_), .unset] [(.int (o_irem (p_ &&& (2147483647 : Int32)) (6 : Int32)))]))
  refine own_via (fun _ k => XS.istoreN X0.here hx rfl (hb hby d1_7) rfl (l' := #[.val (.int p_), .val (.int (o_irem (p_ &&& (2147483647 : Int32)) (6 : Int32)))]) rfl k) ?_
  show own_Go p e below s _ _ _ (s₁.setTop (mkF m 8 #[.val (.int p_), .val (.int (o_irem (p_ &&& (2147483647 : Int32)) (6 : Int32)))] []))
  refine own_via (fun _ k => XS.iloadN X0.here hx rfl (hb hby d1_8) rfl k) ?_
  show own_Go p e below s _ _ _ (s₁.setTop (mkF m 9 #[.val (.int p_), .val (.int (o_irem (p_ &&& (2147483647 : Int32)) (6 : Int32)))] [(.int (o_irem (p_ &&& (2147483647 : Int32)) (6 : Int32)))]))
  by_cases hc1 : (o_irem (p_ &&& (2147483647 : Int32)) (6 : Int32)) = (0 : Int32)
  · refine own_via (fun _ k => XS.ifNo X0.here hx rfl (hb hby d1_9) rfl (Jvm.Free.XT.i0_ne_f hc1) k) ?_
    show own_Go p e below s _ _ _ (s₁.setTop (mkF m 12 #[.val (.int p_), .val (.int (o_irem (p_ &&& (2147483647 : Int32)) (6 : Int32)))] []))
    have F2 := S_EQUALS.ext O0.2
    obtain ⟨T3, X3, e3, st3⟩ := getS2 X0 hx hZ hown (host := "") (Or.inl (hw _ (List.mem_of_getElem? (i := 5) rfl))) Via.refl e0 F2 (g := (mkF m 12 #[.val (.int p_), .val (.int (o_irem (p_ &&& (2147483647 : Int32)) (6 : Int32)))] [])) rfl (hb hby d1_12)
    refine own_via st3 ?_
    show own_Go p e below s _ _ _ (T3.setTop (mkF m 15 #[.val (.int p_), .val (.int (o_irem (p_ &&& (2147483647 : Int32)) (6 : Int32)))] [(.ref ea0)]))
    exact own_goA X3 hx rfl Bd.returns rfl (hb hby d1_15) Bd.notSynchronized (by decide) (by decide) (by rw [e3]; exact ⟨by rw [own_pick, if_pos hc1] <;> rfl, N0, rfl⟩)
  · refine own_via (fun _ k => XS.ifYes X0.here hx rfl (pc0 := 9) (pc' := 16) rfl (hb hby d1_9) rfl (Jvm.Free.XT.i0_ne_t hc1) (by decide) (by decide) k) ?_
    show own_Go p e below s _ _ _ (s₁.setTop (mkF m 16 #[.val (.int p_), .val (.int (o_irem (p_ &&& (2147483647 : Int32)) (6 : Int32)))] []))
    refine own_via (fun _ k => XS.iloadN X0.here hx rfl (hb hby d1_16) rfl k) ?_
    show own_Go p e below s _ _ _ (s₁.setTop (mkF m 17 #[.val (.int p_), .val (.int (o_irem (p_ &&& (2147483647 : Int32)) (6 : Int32)))] [(.int (o_irem (p_ &&& (2147483647 : Int32)) (6 : Int32)))]))
    refine own_via (fun _ k => XS.iconst X0.here hx rfl (hb hby d1_17) k) ?_
    show own_Go p e below s _ _ _ (s₁.setTop (mkF m 18 #[.val (.int p_), .val (.int (o_irem (p_ &&& (2147483647 : Int32)) (6 : Int32)))] [(.int (1 : Int32)), (.int (o_irem (p_ &&& (2147483647 : Int32)) (6 : Int32)))]))
    by_cases hc4 : (o_irem (p_ &&& (2147483647 : Int32)) (6 : Int32)) = (1 : Int32)
    · refine own_via (fun _ k => XS.icmpNo X0.here hx rfl (hb hby d1_18) rfl (Jvm.Free.XT.ii_ne_f hc4) k) ?_
      show own_Go p e below s _ _ _ (s₁.setTop (mkF m 21 #[.val (.int p_), .val (.int (o_irem (p_ &&& (2147483647 : Int32)) (6 : Int32)))] []))
      have F5 := S_NOT_EQUALS.ext O0.2
      obtain ⟨T6, X6, e6, st6⟩ := getS2 X0 hx hZ hown (host := "") (Or.inl (hw _ (List.mem_of_getElem? (i := 71) rfl))) Via.refl e0 F5 (g := (mkF m 21 #[.val (.int p_), .val (.int (o_irem (p_ &&& (2147483647 : Int32)) (6 : Int32)))] [])) rfl (hb hby d1_21)
      refine own_via st6 ?_
      show own_Go p e below s _ _ _ (T6.setTop (mkF m 24 #[.val (.int p_), .val (.int (o_irem (p_ &&& (2147483647 : Int32)) (6 : Int32)))] [(.ref ea1)]))
      exact own_goA X6 hx rfl Bd.returns rfl (hb hby d1_24) Bd.notSynchronized (by decide) (by decide) (by rw [e6]; exact ⟨by rw [own_pick, if_neg hc1, if_pos hc4] <;> rfl, N0, rfl⟩)
    · refine own_via (fun _ k => XS.icmpYes X0.here hx rfl (pc0 := 18) (pc' := 25) rfl (hb hby d1_18) rfl (Jvm.Free.XT.ii_ne_t hc4) (by decide) (by decide) k) ?_
      show own_Go p e below s _ _ _ (s₁.setTop (mkF m 25 #[.val (.int p_), .val (.int (o_irem (p_ &&& (2147483647 : Int32)) (6 : Int32)))] []))
      refine own_via (fun _ k => XS.iloadN X0.here hx rfl (hb hby d1_25) rfl k) ?_
      show own_Go p e below s _ _ _ (s₁.setTop (mkF m 26 #[.val (.int p_), .val (.int (o_irem (p_ &&& (2147483647 : Int32)) (6 : Int32)))] [(.int (o_irem (p_ &&& (2147483647 : Int32)) (6 : Int32)))]))
      refine own_via (fun _ k => XS.iconst X0.here hx rfl (hb hby d1_26) k) ?_
      show own_Go p e below s _ _ _ (s₁.setTop (mkF m 27 #[.val (.int p_), .val (.int (o_irem (p_ &&& (2147483647 : Int32)) (6 : Int32)))] [(.int (2 : Int32)), (.int (o_irem (p_ &&& (2147483647 : Int32)) (6 : Int32)))]))
      by_cases hc7 : (o_irem (p_ &&& (2147483647 : Int32)) (6 : Int32)) = (2 : Int32)
      · refine own_via (fun _ k => XS.icmpNo X0.here hx rfl (hb hby d1_27) rfl (Jvm.Free.XT.ii_ne_f hc7) k) ?_
        show own_Go p e below s _ _ _ (s₁.setTop (mkF m 30 #[.val (.int p_), .val (.int (o_irem (p_ &&& (2147483647 : Int32)) (6 : Int32)))] []))
        have F8 := S_LESS_THAN.ext O0.2
        obtain ⟨T9, X9, e9, st9⟩ := getS2 X0 hx hZ hown (host := "") (Or.inl (hw _ (List.mem_of_getElem? (i := 69) rfl))) Via.refl e0 F8 (g := (mkF m 30 #[.val (.int p_), .val (.int (o_irem (p_ &&& (2147483647 : Int32)) (6 : Int32)))] [])) rfl (hb hby d1_30)
        refine own_via st9 ?_
        show own_Go p e below s _ _ _ (T9.setTop (mkF m 33 #[.val (.int p_), .val (.int (o_irem (p_ &&& (2147483647 : Int32)) (6 : Int32)))] [(.ref ea2)]))
        exact own_goA X9 hx rfl Bd.returns rfl (hb hby d1_33) Bd.notSynchronized (by decide) (by decide) (by rw [e9]; exact ⟨by rw [own_pick, if_neg hc1, if_neg hc4, if_pos hc7] <;> rfl, N0, rfl⟩)
      · refine own_via (fun _ k => XS.icmpYes X0.here hx rfl (pc0 := 27) (pc' := 34) rfl (hb hby d1_27) rfl (Jvm.Free.XT.ii_ne_t hc7) (by decide) (by decide) k) ?_
        show own_Go p e below s _ _ _ (s₁.setTop (mkF m 34 #[.val (.int p_), .val (.int (o_irem (p_ &&& (2147483647 : Int32)) (6 : Int32)))] []))
        refine own_via (fun _ k => XS.iloadN X0.here hx rfl (hb hby d1_34) rfl k) ?_
        show own_Go p e below s _ _ _ (s₁.setTop (mkF m 35 #[.val (.int p_), .val (.int (o_irem (p_ &&& (2147483647 : Int32)) (6 : Int32)))] [(.int (o_irem (p_ &&& (2147483647 : Int32)) (6 : Int32)))]))
        refine own_via (fun _ k => XS.iconst X0.here hx rfl (hb hby d1_35) k) ?_
        show own_Go p e below s _ _ _ (s₁.setTop (mkF m 36 #[.val (.int p_), .val (.int (o_irem (p_ &&& (2147483647 : Int32)) (6 : Int32)))] [(.int (3 : Int32)), (.int (o_irem (p_ &&& (2147483647 : Int32)) (6 : Int32)))]))
        by_cases hc10 : (o_irem (p_ &&& (2147483647 : Int32)) (6 : Int32)) = (3 : Int32)
        · refine own_via (fun _ k => XS.icmpNo X0.here hx rfl (hb hby d1_36) rfl (Jvm.Free.XT.ii_ne_f hc10) k) ?_
          show own_Go p e below s _ _ _ (s₁.setTop (mkF m 39 #[.val (.int p_), .val (.int (o_irem (p_ &&& (2147483647 : Int32)) (6 : Int32)))] []))
          have F11 := S_AT_MOST.ext O0.2
          obtain ⟨T12, X12, e12, st12⟩ := getS2 X0 hx hZ hown (host := "") (Or.inl (hw _ (List.mem_of_getElem? (i := 67) rfl))) Via.refl e0 F11 (g := (mkF m 39 #[.val (.int p_), .val (.int (o_irem (p_ &&& (2147483647 : Int32)) (6 : Int32)))] [])) rfl (hb hby d1_39)
          refine own_via st12 ?_
          show own_Go p e below s _ _ _ (T12.setTop (mkF m 42 #[.val (.int p_), .val (.int (o_irem (p_ &&& (2147483647 : Int32)) (6 : Int32)))] [(.ref ea3)]))
          exact own_goA X12 hx rfl Bd.returns rfl (hb hby d1_42) Bd.notSynchronized (by decide) (by decide) (by rw [e12]; exact ⟨by rw [own_pick, if_neg hc1, if_neg hc4, if_neg hc7, if_pos hc10] <;> rfl, N0, rfl⟩)
        · refine own_via (fun _ k => XS.icmpYes X0.here hx rfl (pc0 := 36) (pc' := 43) rfl (hb hby d1_36) rfl (Jvm.Free.XT.ii_ne_t hc10) (by decide) (by decide) k) ?_
          show own_Go p e below s _ _ _ (s₁.setTop (mkF m 43 #[.val (.int p_), .val (.int (o_irem (p_ &&& (2147483647 : Int32)) (6 : Int32)))] []))
          refine own_via (fun _ k => XS.iloadN X0.here hx rfl (hb hby d1_43) rfl k) ?_
          show own_Go p e below s _ _ _ (s₁.setTop (mkF m 44 #[.val (.int p_), .val (.int (o_irem (p_ &&& (2147483647 : Int32)) (6 : Int32)))] [(.int (o_irem (p_ &&& (2147483647 : Int32)) (6 : Int32)))]))
          refine own_via (fun _ k => XS.iconst X0.here hx rfl (hb hby d1_44) k) ?_
          show own_Go p e below s _ _ _ (s₁.setTop (mkF m 45 #[.val (.int p_), .val (.int (o_irem (p_ &&& (2147483647 : Int32)) (6 : Int32)))] [(.int (4 : Int32)), (.int (o_irem (p_ &&& (2147483647 : Int32)) (6 : Int32)))]))
          by_cases hc13 : (o_irem (p_ &&& (2147483647 : Int32)) (6 : Int32)) = (4 : Int32)
          · refine own_via (fun _ k => XS.icmpNo X0.here hx rfl (hb hby d1_45) rfl (Jvm.Free.XT.ii_ne_f hc13) k) ?_
            show own_Go p e below s _ _ _ (s₁.setTop (mkF m 48 #[.val (.int p_), .val (.int (o_irem (p_ &&& (2147483647 : Int32)) (6 : Int32)))] []))
            have F14 := S_GREATER_THAN.ext O0.2
            obtain ⟨T15, X15, e15, st15⟩ := getS2 X0 hx hZ hown (host := "") (Or.inl (hw _ (List.mem_of_getElem? (i := 63) rfl))) Via.refl e0 F14 (g := (mkF m 48 #[.val (.int p_), .val (.int (o_irem (p_ &&& (2147483647 : Int32)) (6 : Int32)))] [])) rfl (hb hby d1_48)
            refine own_via st15 ?_
            show own_Go p e below s _ _ _ (T15.setTop (mkF m 51 #[.val (.int p_), .val (.int (o_irem (p_ &&& (2147483647 : Int32)) (6 : Int32)))] [(.ref ea4)]))
            exact own_goA X15 hx rfl Bd.returns rfl (hb hby d1_51) Bd.notSynchronized (by decide) (by decide) (by rw [e15]; exact ⟨by rw [own_pick, if_neg hc1, if_neg hc4, if_neg hc7, if_neg hc10, if_pos hc13] <;> rfl, N0, rfl⟩)
          · refine own_via (fun _ k => XS.icmpYes X0.here hx rfl (pc0 := 45) (pc' := 52) rfl (hb hby d1_45) rfl (Jvm.Free.XT.ii_ne_t hc13) (by decide) (by decide) k) ?_
            show own_Go p e below s _ _ _ (s₁.setTop (mkF m 52 #[.val (.int p_), .val (.int (o_irem (p_ &&& (2147483647 : Int32)) (6 : Int32)))] []))
            have F16 := S_AT_LEAST.ext O0.2
            obtain ⟨T17, X17, e17, st17⟩ := getS2 X0 hx hZ hown (host := "") (Or.inl (hw _ (List.mem_of_getElem? (i := 72) rfl))) Via.refl e0 F16 (g := (mkF m 52 #[.val (.int p_), .val (.int (o_irem (p_ &&& (2147483647 : Int32)) (6 : Int32)))] [])) rfl (hb hby d1_52)
            refine own_via st17 ?_
            show own_Go p e below s _ _ _ (T17.setTop (mkF m 55 #[.val (.int p_), .val (.int (o_irem (p_ &&& (2147483647 : Int32)) (6 : Int32)))] [(.ref ea5)]))
            exact own_goA X17 hx rfl Bd.returns rfl (hb hby d1_55) Bd.notSynchronized (by decide) (by decide) (by rw [e17]; exact ⟨by rw [own_pick, if_neg hc1, if_neg hc4, if_neg hc7, if_neg hc10, if_neg hc13] <;> rfl, N0, rfl⟩)
theorem d2_0 : decode prog_14_method_5_code 0 = .ok (.aload_n 0, 1) := by decide +kernel
theorem d2_1 : decode prog_14_method_5_code 1 = .ok (.getstatic 3, 3) := by decide +kernel
theorem d2_4 : decode prog_14_method_5_code 4 = .ok (.if_acmp .eq 14, 3) := by decide +kernel
theorem d2_18 : decode prog_14_method_5_code 18 = .ok (.iconst 0, 1) := by decide +kernel
theorem d2_19 : decode prog_14_method_5_code 19 = .ok (.ireturn, 1) := by decide +kernel
theorem d2_7 : decode prog_14_method_5_code 7 = .ok (.aload_n 0, 1) := by decide +kernel
theorem d2_8 : decode prog_14_method_5_code 8 = .ok (.getstatic 7, 3) := by decide +kernel
theorem d2_11 : decode prog_14_method_5_code 11 = .ok (.if_acmp .eq 7, 3) := by decide +kernel
theorem d2_14 : decode prog_14_method_5_code 14 = .ok (.iconst 1, 1) := by decide +kernel
theorem d2_15 : decode prog_14_method_5_code 15 = .ok (.goto 4, 3) := by decide +kernel
def own_ord (a : Addr) (ea0 : Addr) (ea1 : Addr) : Int32 := (if a = ea0 then (0 : Int32) else (if a = ea1 then (0 : Int32) else (1 : Int32)))
theorem pn_1 : plainName "com/example/trajectory/trajectory/model/Condition$Operator" = true := by first | (simp [plainName, overriddenIn]; done) | decide +kernel
theorem ef_2 (m : MethodId) (x0 : Addr) : entryFrame m #[(.ref x0)] 1 = mkF m 0 #[.val (.ref x0)] [] := by first | (simp [entryFrame, mkF, argsToLocals, Value.category]; done) | rfl
def Q2 (Z : State) (a : Addr) (ea0 : Addr) (ea1 : Addr) (h0 : Heap) (n0 : Nat) (v : Option Value) (h : Heap) (L : List Loc) : Prop := v = some (.int (own_ord a ea0 ea1)) ∧ Fr n0 L ∧ h = h0
set_option maxRecDepth 65536 in
set_option maxHeartbeats 40000000 in
theorem rm2 (l : Launch) (Z : State) (a0 : Array Value) (hw : ∀ d ∈ tables_1, d.before a0 Z = true) (ws : List Jvm.Cond) (a : Addr) (ea0 : Addr) (ea1 : Addr) (h0 : Heap) (n0 : Nat) (Z0 : n0 ≤ h0.size) (O0 : Old Z n0 h0) (S_EQUALS : Sta Z Z.heap "com/example/trajectory/trajectory/model/Condition$Operator" "EQUALS" "Lcom/example/trajectory/trajectory/model/Condition$Operator;" (.ref ea0)) (S_NOT_EQUALS : Sta Z Z.heap "com/example/trajectory/trajectory/model/Condition$Operator" "NOT_EQUALS" "Lcom/example/trajectory/trajectory/model/Condition$Operator;" (.ref ea1)) :
    MetFree l (⟨"com/example/trajectory/trajectory/model/Condition$Operator", "orders", "()Z"⟩ : MethodName) (head1 (Jvm.Cond.code (⟨"com/example/trajectory/trajectory/model/Condition$Operator", "orders", "()Z"⟩ : MethodName) prog_14_method_5_code 1 (some .boolean) :: ws) ({ frames := 0, cells := 0, slots := 0, locals := 0 } : Room)) (fun q_ U => q_ = #[(.ref a)] ∧ Z.Warmed39 U.vm ∧ U.heap = h0) (fun _ _ _ _ _ => True) (fun _ U o U' => ∃ v L, o = .returned v ∧ Q2 Z a ea0 ea1 h0 n0 v U'.heap L ∧ FrameEnd U o U' L ({ frames := 0, cells := 0, slots := 0, locals := 0 } : Room).cells ({ frames := 0, cells := 0, slots := 0, locals := 0 } : Room).slots) := by
  refine MetFree.of_bodySF (plainFor_of_name pn_1) hisR ?_
  intro p e s m args below meth c s₁ Bd hml0 hP hK
  obtain ⟨rfl, hZ, hh⟩ := hP
  have hx := Bd.exec
  have hby := Bd.bytes
  have hml : c.maxLocals = 1 := hml0
  have hown : s.vm.findClass "com/example/trajectory/trajectory/model/Condition$Operator" = some m.cls := findClass_of_methodNamed Bd.named
  have hnm := (name_of_methodNamed Bd.named Bd.method).1
  have X0 : Stand p l e ({ frames := 0, cells := 0, slots := 0, locals := 0 } : Room) s m #[(.ref a)] below meth c s₁ [] 0 0 := Stand.of_body Bd
  have e0 : s₁.heap = h0 := by rw [← hh, Bd.state]; rfl
  have N0 := Fr.nil n0
  show own_Go p e below s (Q2 Z a ea0 ea1 h0 n0) ({ frames := 0, cells := 0, slots := 0, locals := 0 } : Room).cells ({ frames := 0, cells := 0, slots := 0, locals := 0 } : Room).slots (s₁.setTop (entryFrame m #[(.ref a)] 1))
  refine own_via (fun t k => castTop (ef_2 m a) k) ?_
  show own_Go p e below s _ _ _ (s₁.setTop (mkF m 0 #[.val (.ref a)] []))
  refine own_via (fun _ k => XS.aloadN X0.here hx rfl (hb hby d2_0) rfl rfl k) ?_
  show own_Go p e below s _ _ _ (s₁.setTop (mkF m 1 #[.val (.ref a)] [(.ref a)]))
  have F1 := S_EQUALS.ext O0.2
  obtain ⟨T2, X2, e2, st2⟩ := getS2 X0 hx hZ hown (host := "") (Or.inl (hw _ (List.mem_of_getElem? (i := 13) rfl))) Via.refl e0 F1 (g := (mkF m 1 #[.val (.ref a)] [(.ref a)])) rfl (hb hby d2_1)
  refine own_via st2 ?_
  show own_Go p e below s _ _ _ (T2.setTop (mkF m 4 #[.val (.ref a)] [(.ref ea0), (.ref a)]))
  by_cases hc3 : a = ea0
  · refine own_via (fun _ k => Jvm.RoadKit.acmp (g := (mkF m 4 #[.val (.ref a)] [(.ref ea0), (.ref a)])) X2 hx rfl rfl rfl (pc0 := 4) (pc' := 18) (same := true) rfl (hb hby d2_4) rfl (decide_eq_true (congrArg Value.ref hc3)) (by decide) (by decide) k) ?_
    show own_Go p e below s _ _ _ (T2.setTop (mkF m 18 #[.val (.ref a)] []))
    refine own_via (fun _ k => XS.iconst X2.here hx rfl (hb hby d2_18) k) ?_
    show own_Go p e below s _ _ _ (T2.setTop (mkF m 19 #[.val (.ref a)] [(.int (0 : Int32))]))
    exact own_goN X2 hx (t := .boolean) Bd.returns (by simp) (hb hby d2_19) Bd.notSynchronized (by decide) (by decide) (by rw [e2]; exact ⟨by rw [own_ord, if_pos hc3] <;> rfl, N0, rfl⟩)
  · refine own_via (fun _ k => Jvm.RoadKit.acmp (g := (mkF m 4 #[.val (.ref a)] [(.ref ea0), (.ref a)])) X2 hx rfl rfl rfl (pc0 := 4) (pc' := 7) (same := false) rfl (hb hby d2_4) rfl (decide_eq_false fun q => hc3 (Value.ref.inj q)) (by decide) (by decide) k) ?_
    show own_Go p e below s _ _ _ (T2.setTop (mkF m 7 #[.val (.ref a)] []))
    refine own_via (fun _ k => XS.aloadN X2.here hx rfl (hb hby d2_7) rfl rfl k) ?_
    show own_Go p e below s _ _ _ (T2.setTop (mkF m 8 #[.val (.ref a)] [(.ref a)]))
    have F4 := S_NOT_EQUALS.ext O0.2
    obtain ⟨T5, X5, e5, st5⟩ := getS2 X2 hx hZ hown (host := "") (Or.inl (hw _ (List.mem_of_getElem? (i := 65) rfl))) Via.refl e2 F4 (g := (mkF m 8 #[.val (.ref a)] [(.ref a)])) rfl (hb hby d2_8)
    refine own_via st5 ?_
    show own_Go p e below s _ _ _ (T5.setTop (mkF m 11 #[.val (.ref a)] [(.ref ea1), (.ref a)]))
    by_cases hc6 : a = ea1
    · refine own_via (fun _ k => Jvm.RoadKit.acmp (g := (mkF m 11 #[.val (.ref a)] [(.ref ea1), (.ref a)])) X5 hx rfl rfl rfl (pc0 := 11) (pc' := 18) (same := true) rfl (hb hby d2_11) rfl (decide_eq_true (congrArg Value.ref hc6)) (by decide) (by decide) k) ?_
      show own_Go p e below s _ _ _ (T5.setTop (mkF m 18 #[.val (.ref a)] []))
      refine own_via (fun _ k => XS.iconst X5.here hx rfl (hb hby d2_18) k) ?_
      show own_Go p e below s _ _ _ (T5.setTop (mkF m 19 #[.val (.ref a)] [(.int (0 : Int32))]))
      exact own_goN X5 hx (t := .boolean) Bd.returns (by simp) (hb hby d2_19) Bd.notSynchronized (by decide) (by decide) (by rw [e5]; exact ⟨by rw [own_ord, if_neg hc3, if_pos hc6] <;> rfl, N0, rfl⟩)
    · refine own_via (fun _ k => Jvm.RoadKit.acmp (g := (mkF m 11 #[.val (.ref a)] [(.ref ea1), (.ref a)])) X5 hx rfl rfl rfl (pc0 := 11) (pc' := 14) (same := false) rfl (hb hby d2_11) rfl (decide_eq_false fun q => hc6 (Value.ref.inj q)) (by decide) (by decide) k) ?_
      show own_Go p e below s _ _ _ (T5.setTop (mkF m 14 #[.val (.ref a)] []))
      refine own_via (fun _ k => XS.iconst X5.here hx rfl (hb hby d2_14) k) ?_
      show own_Go p e below s _ _ _ (T5.setTop (mkF m 15 #[.val (.ref a)] [(.int (1 : Int32))]))
      refine own_via (fun _ k => XS.goto X5.here hx rfl (pc0 := 15) (pc' := 19) rfl (hb hby d2_15) (by decide) (by decide) k) ?_
      show own_Go p e below s _ _ _ (T5.setTop (mkF m 19 #[.val (.ref a)] [(.int (1 : Int32))]))
      exact own_goN X5 hx (t := .boolean) Bd.returns (by simp) (hb hby d2_19) Bd.notSynchronized (by decide) (by decide) (by rw [e5]; exact ⟨by rw [own_ord, if_neg hc3, if_neg hc6] <;> rfl, N0, rfl⟩)
theorem d3_0 : decode prog_14_method_4_code 0 = .ok (.aload_n 0, 1) := by decide +kernel
theorem d3_1 : decode prog_14_method_4_code 1 = .ok (.getfield 41, 3) := by decide +kernel
theorem d3_4 : decode prog_14_method_4_code 4 = .ok (.areturn, 1) := by decide +kernel
theorem ef_3 (m : MethodId) (x0 : Addr) : entryFrame m #[(.ref x0)] 1 = mkF m 0 #[.val (.ref x0)] [] := by first | (simp [entryFrame, mkF, argsToLocals, Value.category]; done) | rfl
def Q3 (Z : State) (a : Addr) (s_ : Addr) (h0 : Heap) (n0 : Nat) (v : Option Value) (h : Heap) (L : List Loc) : Prop := v = some (.ref s_) ∧ Fr n0 L ∧ h = h0
set_option maxRecDepth 65536 in
set_option maxHeartbeats 40000000 in
theorem rm3 (l : Launch) (Z : State) (a0 : Array Value) (hw : ∀ d ∈ tables_1, d.before a0 Z = true) (ws : List Jvm.Cond) (a : Addr) (s_ : Addr) (h0 : Heap) (n0 : Nat) (Z0 : n0 ≤ h0.size) (O0 : Old Z n0 h0) (F_symbol_a : Fld Z Z.heap a "com/example/trajectory/trajectory/model/Condition$Operator" "symbol" "Ljava/lang/String;" (.ref s_)) :
    MetFree l (⟨"com/example/trajectory/trajectory/model/Condition$Operator", "symbol", "()Ljava/lang/String;"⟩ : MethodName) (head1 (Jvm.Cond.code (⟨"com/example/trajectory/trajectory/model/Condition$Operator", "symbol", "()Ljava/lang/String;"⟩ : MethodName) prog_14_method_4_code 1 (some (.object "java/lang/String")) :: ws) ({ frames := 0, cells := 0, slots := 0, locals := 0 } : Room)) (fun q_ U => q_ = #[(.ref a)] ∧ Z.Warmed39 U.vm ∧ U.heap = h0) (fun _ _ _ _ _ => True) (fun _ U o U' => ∃ v L, o = .returned v ∧ Q3 Z a s_ h0 n0 v U'.heap L ∧ FrameEnd U o U' L ({ frames := 0, cells := 0, slots := 0, locals := 0 } : Room).cells ({ frames := 0, cells := 0, slots := 0, locals := 0 } : Room).slots) := by
  refine MetFree.of_bodySF (plainFor_of_name pn_1) hisR ?_
  intro p e s m args below meth c s₁ Bd hml0 hP hK
  obtain ⟨rfl, hZ, hh⟩ := hP
  have hx := Bd.exec
  have hby := Bd.bytes
  have hml : c.maxLocals = 1 := hml0
  have hown : s.vm.findClass "com/example/trajectory/trajectory/model/Condition$Operator" = some m.cls := findClass_of_methodNamed Bd.named
  have hnm := (name_of_methodNamed Bd.named Bd.method).1
  have X0 : Stand p l e ({ frames := 0, cells := 0, slots := 0, locals := 0 } : Room) s m #[(.ref a)] below meth c s₁ [] 0 0 := Stand.of_body Bd
  have e0 : s₁.heap = h0 := by rw [← hh, Bd.state]; rfl
  have N0 := Fr.nil n0
  show own_Go p e below s (Q3 Z a s_ h0 n0) ({ frames := 0, cells := 0, slots := 0, locals := 0 } : Room).cells ({ frames := 0, cells := 0, slots := 0, locals := 0 } : Room).slots (s₁.setTop (entryFrame m #[(.ref a)] 1))
  refine own_via (fun t k => castTop (ef_3 m a) k) ?_
  show own_Go p e below s _ _ _ (s₁.setTop (mkF m 0 #[.val (.ref a)] []))
  refine own_via (fun _ k => XS.aloadN X0.here hx rfl (hb hby d3_0) rfl rfl k) ?_
  show own_Go p e below s _ _ _ (s₁.setTop (mkF m 1 #[.val (.ref a)] [(.ref a)]))
  have F1 := F_symbol_a.ext O0.2
  obtain ⟨T2, X2, e2, st2⟩ := getF X0 hx hZ hown (host := "") (Or.inl (hw _ (List.mem_of_getElem? (i := 19) rfl))) Via.refl e0 F1 (g := (mkF m 1 #[.val (.ref a)] [(.ref a)])) rfl rfl (hb hby d3_1)
  refine own_via st2 ?_
  show own_Go p e below s _ _ _ (T2.setTop (mkF m 4 #[.val (.ref a)] [(.ref s_)]))
  exact own_goA X2 hx rfl Bd.returns rfl (hb hby d3_4) Bd.notSynchronized (by decide) (by decide) (by rw [e2]; exact ⟨rfl, N0, rfl⟩)
theorem d5_0 : decode jdk_42_method_154_code 0 = .ok (.getstatic 38, 3) := by decide +kernel
theorem d5_3 : decode jdk_42_method_154_code 3 = .ok (.ifCond .eq 14, 3) := by decide +kernel
theorem d5_6 : decode jdk_42_method_154_code 6 = .ok (.aload_n 0, 1) := by decide +kernel
theorem d5_7 : decode jdk_42_method_154_code 7 = .ok (.getfield 15, 3) := by decide +kernel
theorem d5_10 : decode jdk_42_method_154_code 10 = .ok (.ifCond .ne 7, 3) := by decide +kernel
theorem d5_13 : decode jdk_42_method_154_code 13 = .ok (.iconst 1, 1) := by decide +kernel
theorem d5_14 : decode jdk_42_method_154_code 14 = .ok (.goto 4, 3) := by decide +kernel
theorem d5_18 : decode jdk_42_method_154_code 18 = .ok (.ireturn, 1) := by decide +kernel
theorem pn_2 : plainName "java/lang/String" = true := by first | (simp [plainName, overriddenIn]; done) | decide +kernel
theorem ef_5 (m : MethodId) (x0 : Addr) : entryFrame m #[(.ref x0)] 1 = mkF m 0 #[.val (.ref x0)] [] := by first | (simp [entryFrame, mkF, argsToLocals, Value.category]; done) | rfl
def Q5 (Z : State) (a : Addr) (cs_ : Int32) (h0 : Heap) (n0 : Nat) (v : Option Value) (h : Heap) (L : List Loc) : Prop := v = some (.int (1 : Int32)) ∧ Fr n0 L ∧ h = h0
set_option maxRecDepth 65536 in
set_option maxHeartbeats 40000000 in
theorem rm5 (l : Launch) (Z : State) (a0 : Array Value) (hw : ∀ d ∈ tables_1, d.before a0 Z = true) (ws : List Jvm.Cond) (a : Addr) (cs_ : Int32) (h0 : Heap) (n0 : Nat) (Z0 : n0 ≤ h0.size) (O0 : Old Z n0 h0) (S_COMPACT_STRINGS : Sta Z Z.heap "java/lang/String" "COMPACT_STRINGS" "Z" (.int cs_)) (F_coder_a : Fld Z Z.heap a "java/lang/String" "coder" "B" (.int (0 : Int32))) (hp2 : ¬ cs_ = (0 : Int32)) :
    MetFree l (⟨"java/lang/String", "isLatin1", "()Z"⟩ : MethodName) (head1 (Jvm.Cond.code (⟨"java/lang/String", "isLatin1", "()Z"⟩ : MethodName) jdk_42_method_154_code 1 (some .boolean) :: ws) ({ frames := 0, cells := 0, slots := 0, locals := 0 } : Room)) (fun q_ U => q_ = #[(.ref a)] ∧ Z.Warmed39 U.vm ∧ U.heap = h0) (fun _ _ _ _ _ => True) (fun _ U o U' => ∃ v L, o = .returned v ∧ Q5 Z a cs_ h0 n0 v U'.heap L ∧ FrameEnd U o U' L ({ frames := 0, cells := 0, slots := 0, locals := 0 } : Room).cells ({ frames := 0, cells := 0, slots := 0, locals := 0 } : Room).slots) := by
  refine MetFree.of_bodySF (plainFor_of_name pn_2) hisR ?_
  intro p e s m args below meth c s₁ Bd hml0 hP hK
  obtain ⟨rfl, hZ, hh⟩ := hP
  have hx := Bd.exec
  have hby := Bd.bytes
  have hml : c.maxLocals = 1 := hml0
  have hown : s.vm.findClass "java/lang/String" = some m.cls := findClass_of_methodNamed Bd.named
  have hnm := (name_of_methodNamed Bd.named Bd.method).1
  have X0 : Stand p l e ({ frames := 0, cells := 0, slots := 0, locals := 0 } : Room) s m #[(.ref a)] below meth c s₁ [] 0 0 := Stand.of_body Bd
  have e0 : s₁.heap = h0 := by rw [← hh, Bd.state]; rfl
  have N0 := Fr.nil n0
  show own_Go p e below s (Q5 Z a cs_ h0 n0) ({ frames := 0, cells := 0, slots := 0, locals := 0 } : Room).cells ({ frames := 0, cells := 0, slots := 0, locals := 0 } : Room).slots (s₁.setTop (entryFrame m #[(.ref a)] 1))
  refine own_via (fun t k => castTop (ef_5 m a) k) ?_
  show own_Go p e below s _ _ _ (s₁.setTop (mkF m 0 #[.val (.ref a)] []))
  have F1 := S_COMPACT_STRINGS.ext O0.2
  obtain ⟨T2, X2, e2, st2⟩ := getS2 X0 hx hZ hown (host := "") (Or.inl (hw _ (List.mem_of_getElem? (i := 32) rfl))) Via.refl e0 F1 (g := (mkF m 0 #[.val (.ref a)] [])) rfl (hb hby d5_0)
  refine own_via st2 ?_
  show own_Go p e below s _ _ _ (T2.setTop (mkF m 3 #[.val (.ref a)] [(.int cs_)]))
  have hc3 : ¬ (cs_ = (0 : Int32)) := hp2
  refine own_via (fun _ k => XS.ifNo X2.here hx rfl (hb hby d5_3) rfl (Jvm.Free.XT.i0_eq_f hc3) k) ?_
  show own_Go p e below s _ _ _ (T2.setTop (mkF m 6 #[.val (.ref a)] []))
  refine own_via (fun _ k => XS.aloadN X2.here hx rfl (hb hby d5_6) rfl rfl k) ?_
  show own_Go p e below s _ _ _ (T2.setTop (mkF m 7 #[.val (.ref a)] [(.ref a)]))
  have F4 := F_coder_a.ext O0.2
  obtain ⟨T5, X5, e5, st5⟩ := getF X2 hx hZ hown (host := "") (Or.inl (hw _ (List.mem_of_getElem? (i := 33) rfl))) Via.refl e2 F4 (g := (mkF m 7 #[.val (.ref a)] [(.ref a)])) rfl rfl (hb hby d5_7)
  refine own_via st5 ?_
  show own_Go p e below s _ _ _ (T5.setTop (mkF m 10 #[.val (.ref a)] [(.int (0 : Int32))]))
  refine own_via (fun _ k => XS.ifNo X5.here hx rfl (hb hby d5_10) rfl (Jvm.Free.XT.i0_ne_f (by decide)) k) ?_
  show own_Go p e below s _ _ _ (T5.setTop (mkF m 13 #[.val (.ref a)] []))
  refine own_via (fun _ k => XS.iconst X5.here hx rfl (hb hby d5_13) k) ?_
  show own_Go p e below s _ _ _ (T5.setTop (mkF m 14 #[.val (.ref a)] [(.int (1 : Int32))]))
  refine own_via (fun _ k => XS.goto X5.here hx rfl (pc0 := 14) (pc' := 18) rfl (hb hby d5_14) (by decide) (by decide) k) ?_
  show own_Go p e below s _ _ _ (T5.setTop (mkF m 18 #[.val (.ref a)] [(.int (1 : Int32))]))
  exact own_goN X5 hx (t := .boolean) Bd.returns (by simp) (hb hby d5_18) Bd.notSynchronized (by decide) (by decide) (by rw [e5]; exact ⟨rfl, N0, rfl⟩)
theorem d8_0 : decode jdk_41_method_11_code 0 = .ok (.iload_n 0, 1) := by decide +kernel
theorem d8_1 : decode jdk_41_method_11_code 1 = .ok (.ifCond .lt 8, 3) := by decide +kernel
theorem d8_4 : decode jdk_41_method_11_code 4 = .ok (.iload_n 0, 1) := by decide +kernel
theorem d8_5 : decode jdk_41_method_11_code 5 = .ok (.iload_n 1, 1) := by decide +kernel
theorem d8_6 : decode jdk_41_method_11_code 6 = .ok (.if_icmp .lt 10, 3) := by decide +kernel
theorem d8_16 : decode jdk_41_method_11_code 16 = .ok (.iload_n 0, 1) := by decide +kernel
theorem d8_17 : decode jdk_41_method_11_code 17 = .ok (.ireturn, 1) := by decide +kernel
theorem pn_3 : plainName "jdk/internal/util/Preconditions" = true := by first | (simp [plainName, overriddenIn]; done) | decide +kernel
theorem ef_ckN (m : MethodId) (x0 : Int32) (x1 : Int32) : entryFrame m #[(.int x0), (.int x1), .null] 3 = mkF m 0 #[.val (.int x0), .val (.int x1), .val .null] [] := by first | (simp [entryFrame, mkF, argsToLocals, Value.category]; done) | rfl
def QckN (Z : State) (pi_ : Int32) (pn_ : Int32) (h0 : Heap) (n0 : Nat) (v : Option Value) (h : Heap) (L : List Loc) : Prop := v = some (.int pi_) ∧ Fr n0 L ∧ h = h0
set_option maxRecDepth 65536 in
set_option maxHeartbeats 40000000 in
theorem rmckN (l : Launch) (Z : State) (a0 : Array Value) (hw : ∀ d ∈ tables_1, d.before a0 Z = true) (ws : List Jvm.Cond) (pi_ : Int32) (pn_ : Int32) (h0 : Heap) (n0 : Nat) (Z0 : n0 ≤ h0.size) (hp0 : ¬ pi_ < (0 : Int32)) (hp1 : pi_ < pn_) :
    MetFree l (⟨"jdk/internal/util/Preconditions", "checkIndex", "(IILjava/util/function/BiFunction;)I"⟩ : MethodName) (head1 (Jvm.Cond.code (⟨"jdk/internal/util/Preconditions", "checkIndex", "(IILjava/util/function/BiFunction;)I"⟩ : MethodName) jdk_41_method_11_code 3 (some .int) :: ws) ({ frames := 0, cells := 0, slots := 0, locals := 0 } : Room)) (fun q_ U => q_ = #[(.int pi_), (.int pn_), .null] ∧ Z.Warmed39 U.vm ∧ U.heap = h0) (fun _ _ _ _ _ => True) (fun _ U o U' => ∃ v L, o = .returned v ∧ QckN Z pi_ pn_ h0 n0 v U'.heap L ∧ FrameEnd U o U' L ({ frames := 0, cells := 0, slots := 0, locals := 0 } : Room).cells ({ frames := 0, cells := 0, slots := 0, locals := 0 } : Room).slots) := by
  refine MetFree.of_bodySF (plainFor_of_name pn_3) hisR ?_
  intro p e s m args below meth c s₁ Bd hml0 hP hK
  obtain ⟨rfl, hZ, hh⟩ := hP
  have hx := Bd.exec
  have hby := Bd.bytes
  have hml : c.maxLocals = 3 := hml0
  have hown : s.vm.findClass "jdk/internal/util/Preconditions" = some m.cls := findClass_of_methodNamed Bd.named
  have hnm := (name_of_methodNamed Bd.named Bd.method).1
  have X0 : Stand p l e ({ frames := 0, cells := 0, slots := 0, locals := 0 } : Room) s m #[(.int pi_), (.int pn_), .null] below meth c s₁ [] 0 0 := Stand.of_body Bd
  have e0 : s₁.heap = h0 := by rw [← hh, Bd.state]; rfl
  have N0 := Fr.nil n0
  show own_Go p e below s (QckN Z pi_ pn_ h0 n0) ({ frames := 0, cells := 0, slots := 0, locals := 0 } : Room).cells ({ frames := 0, cells := 0, slots := 0, locals := 0 } : Room).slots (s₁.setTop (entryFrame m #[(.int pi_), (.int pn_), .null] 3))
  refine own_via (fun t k => castTop (ef_ckN m pi_ pn_) k) ?_
  show own_Go p e below s _ _ _ (s₁.setTop (mkF m 0 #[.val (.int pi_), .val (.int pn_), .val .null] []))
  refine own_via (fun _ k => XS.iloadN X0.here hx rfl (hb hby d8_0) rfl k) ?_
  show own_Go p e below s _ _ _ (s₁.setTop (mkF m 1 #[.val (.int pi_), .val (.int pn_), .val .null] [(.int pi_)]))
  have hc1 : ¬ (pi_ < (0 : Int32)) := hp0
  refine own_via (fun _ k => XS.ifNo X0.here hx rfl (hb hby d8_1) rfl (Jvm.Free.XT.i0_lt_f hc1) k) ?_
  show own_Go p e below s _ _ _ (s₁.setTop (mkF m 4 #[.val (.int pi_), .val (.int pn_), .val .null] []))
  refine own_via (fun _ k => XS.iloadN X0.here hx rfl (hb hby d8_4) rfl k) ?_
  show own_Go p e below s _ _ _ (s₁.setTop (mkF m 5 #[.val (.int pi_), .val (.int pn_), .val .null] [(.int pi_)]))
  refine own_via (fun _ k => XS.iloadN X0.here hx rfl (hb hby d8_5) rfl k) ?_
  show own_Go p e below s _ _ _ (s₁.setTop (mkF m 6 #[.val (.int pi_), .val (.int pn_), .val .null] [(.int pn_), (.int pi_)]))
  have hc2 : pi_ < pn_ := hp1
  refine own_via (fun _ k => XS.icmpYes X0.here hx rfl (pc0 := 6) (pc' := 16) rfl (hb hby d8_6) rfl (Jvm.Free.XT.ii_lt_t hc2) (by decide) (by decide) k) ?_
  show own_Go p e below s _ _ _ (s₁.setTop (mkF m 16 #[.val (.int pi_), .val (.int pn_), .val .null] []))
  refine own_via (fun _ k => XS.iloadN X0.here hx rfl (hb hby d8_16) rfl k) ?_
  show own_Go p e below s _ _ _ (s₁.setTop (mkF m 17 #[.val (.int pi_), .val (.int pn_), .val .null] [(.int pi_)]))
  exact own_goI X0 hx Bd.returns (hb hby d8_17) Bd.notSynchronized (by decide) (by decide) (by rw [e0]; exact ⟨rfl, N0, rfl⟩)
theorem ef_ckR (m : MethodId) (x0 : Int32) (x1 : Int32) (x2 : Addr) : entryFrame m #[(.int x0), (.int x1), (.ref x2)] 3 = mkF m 0 #[.val (.int x0), .val (.int x1), .val (.ref x2)] [] := by first | (simp [entryFrame, mkF, argsToLocals, Value.category]; done) | rfl
def QckR (Z : State) (pi_ : Int32) (pn_ : Int32) (fa_ : Addr) (h0 : Heap) (n0 : Nat) (v : Option Value) (h : Heap) (L : List Loc) : Prop := v = some (.int pi_) ∧ Fr n0 L ∧ h = h0
set_option maxRecDepth 65536 in
set_option maxHeartbeats 40000000 in
theorem rmckR (l : Launch) (Z : State) (a0 : Array Value) (hw : ∀ d ∈ tables_1, d.before a0 Z = true) (ws : List Jvm.Cond) (pi_ : Int32) (pn_ : Int32) (fa_ : Addr) (h0 : Heap) (n0 : Nat) (Z0 : n0 ≤ h0.size) (hp0 : ¬ pi_ < (0 : Int32)) (hp1 : pi_ < pn_) :
    MetFree l (⟨"jdk/internal/util/Preconditions", "checkIndex", "(IILjava/util/function/BiFunction;)I"⟩ : MethodName) (head1 (Jvm.Cond.code (⟨"jdk/internal/util/Preconditions", "checkIndex", "(IILjava/util/function/BiFunction;)I"⟩ : MethodName) jdk_41_method_11_code 3 (some .int) :: ws) ({ frames := 0, cells := 0, slots := 0, locals := 0 } : Room)) (fun q_ U => q_ = #[(.int pi_), (.int pn_), (.ref fa_)] ∧ Z.Warmed39 U.vm ∧ U.heap = h0) (fun _ _ _ _ _ => True) (fun _ U o U' => ∃ v L, o = .returned v ∧ QckR Z pi_ pn_ fa_ h0 n0 v U'.heap L ∧ FrameEnd U o U' L ({ frames := 0, cells := 0, slots := 0, locals := 0 } : Room).cells ({ frames := 0, cells := 0, slots := 0, locals := 0 } : Room).slots) := by
  refine MetFree.of_bodySF (plainFor_of_name pn_3) hisR ?_
  intro p e s m args below meth c s₁ Bd hml0 hP hK
  obtain ⟨rfl, hZ, hh⟩ := hP
  have hx := Bd.exec
  have hby := Bd.bytes
  have hml : c.maxLocals = 3 := hml0
  have hown : s.vm.findClass "jdk/internal/util/Preconditions" = some m.cls := findClass_of_methodNamed Bd.named
  have hnm := (name_of_methodNamed Bd.named Bd.method).1
  have X0 : Stand p l e ({ frames := 0, cells := 0, slots := 0, locals := 0 } : Room) s m #[(.int pi_), (.int pn_), (.ref fa_)] below meth c s₁ [] 0 0 := Stand.of_body Bd
  have e0 : s₁.heap = h0 := by rw [← hh, Bd.state]; rfl
  have N0 := Fr.nil n0
  show own_Go p e below s (QckR Z pi_ pn_ fa_ h0 n0) ({ frames := 0, cells := 0, slots := 0, locals := 0 } : Room).cells ({ frames := 0, cells := 0, slots := 0, locals := 0 } : Room).slots (s₁.setTop (entryFrame m #[(.int pi_), (.int pn_), (.ref fa_)] 3))
  refine own_via (fun t k => castTop (ef_ckR m pi_ pn_ fa_) k) ?_
  show own_Go p e below s _ _ _ (s₁.setTop (mkF m 0 #[.val (.int pi_), .val (.int pn_), .val (.ref fa_)] []))
  refine own_via (fun _ k => XS.iloadN X0.here hx rfl (hb hby d8_0) rfl k) ?_
  show own_Go p e below s _ _ _ (s₁.setTop (mkF m 1 #[.val (.int pi_), .val (.int pn_), .val (.ref fa_)] [(.int pi_)]))
  have hc1 : ¬ (pi_ < (0 : Int32)) := hp0
  refine own_via (fun _ k => XS.ifNo X0.here hx rfl (hb hby d8_1) rfl (Jvm.Free.XT.i0_lt_f hc1) k) ?_
  show own_Go p e below s _ _ _ (s₁.setTop (mkF m 4 #[.val (.int pi_), .val (.int pn_), .val (.ref fa_)] []))
  refine own_via (fun _ k => XS.iloadN X0.here hx rfl (hb hby d8_4) rfl k) ?_
  show own_Go p e below s _ _ _ (s₁.setTop (mkF m 5 #[.val (.int pi_), .val (.int pn_), .val (.ref fa_)] [(.int pi_)]))
  refine own_via (fun _ k => XS.iloadN X0.here hx rfl (hb hby d8_5) rfl k) ?_
  show own_Go p e below s _ _ _ (s₁.setTop (mkF m 6 #[.val (.int pi_), .val (.int pn_), .val (.ref fa_)] [(.int pn_), (.int pi_)]))
  have hc2 : pi_ < pn_ := hp1
  refine own_via (fun _ k => XS.icmpYes X0.here hx rfl (pc0 := 6) (pc' := 16) rfl (hb hby d8_6) rfl (Jvm.Free.XT.ii_lt_t hc2) (by decide) (by decide) k) ?_
  show own_Go p e below s _ _ _ (s₁.setTop (mkF m 16 #[.val (.int pi_), .val (.int pn_), .val (.ref fa_)] []))
  refine own_via (fun _ k => XS.iloadN X0.here hx rfl (hb hby d8_16) rfl k) ?_
  show own_Go p e below s _ _ _ (s₁.setTop (mkF m 17 #[.val (.int pi_), .val (.int pn_), .val (.ref fa_)] [(.int pi_)]))
  exact own_goI X0 hx Bd.returns (hb hby d8_17) Bd.notSynchronized (by decide) (by decide) (by rw [e0]; exact ⟨rfl, N0, rfl⟩)
theorem d7_0 : decode jdk_42_method_155_code 0 = .ok (.iload_n 0, 1) := by decide +kernel
theorem d7_1 : decode jdk_42_method_155_code 1 = .ok (.iload_n 1, 1) := by decide +kernel
theorem d7_2 : decode jdk_42_method_155_code 2 = .ok (.getstatic 1053, 3) := by decide +kernel
theorem pd_0 : parseMethodDescriptor "(IILjava/util/function/BiFunction;)I" = some ⟨[.int, .int, (.object "java/util/function/BiFunction")], some .int⟩ := by decide +kernel
theorem d7_5 : decode jdk_42_method_155_code 5 = .ok (.invokestatic 1059, 3) := by decide +kernel
theorem d7_8 : decode jdk_42_method_155_code 8 = .ok (.pop, 1) := by decide +kernel
theorem d7_9 : decode jdk_42_method_155_code 9 = .ok (.return_, 1) := by decide +kernel
theorem ef_7 (m : MethodId) (x0 : Int32) (x1 : Int32) : entryFrame m #[(.int x0), (.int x1)] 2 = mkF m 0 #[.val (.int x0), .val (.int x1)] [] := by first | (simp [entryFrame, mkF, argsToLocals, Value.category]; done) | rfl
def Q7 (Z : State) (pi_ : Int32) (pn_ : Int32) (fm_ : Value) (h0 : Heap) (n0 : Nat) (v : Option Value) (h : Heap) (L : List Loc) : Prop := v = none ∧ Fr n0 L ∧ h = h0
set_option maxRecDepth 65536 in
set_option maxHeartbeats 40000000 in
theorem rm7 (l : Launch) (Z : State) (a0 : Array Value) (hw : ∀ d ∈ tables_1, d.before a0 Z = true) (ws : List Jvm.Cond) (pi_ : Int32) (pn_ : Int32) (fm_ : Value) (h0 : Heap) (n0 : Nat) (Z0 : n0 ≤ h0.size) (O0 : Old Z n0 h0) (S_SIOOBE_FORMATTER : Sta Z Z.heap "jdk/internal/util/Preconditions" "SIOOBE_FORMATTER" "Ljava/util/function/BiFunction;" fm_) (hp1 : ¬ pi_ < (0 : Int32)) (hp2 : pi_ < pn_) (hp3 : fm_.isRef = true) :
    MetFree l (⟨"java/lang/String", "checkIndex", "(II)V"⟩ : MethodName) (head1 (Jvm.Cond.code (⟨"java/lang/String", "checkIndex", "(II)V"⟩ : MethodName) jdk_42_method_155_code 2 none :: ws) ({ frames := 1, cells := 0, slots := 0, locals := 14 } : Room)) (fun q_ U => q_ = #[(.int pi_), (.int pn_)] ∧ Z.Warmed39 U.vm ∧ U.heap = h0) (fun _ _ _ _ _ => True) (fun _ U o U' => ∃ v L, o = .returned v ∧ Q7 Z pi_ pn_ fm_ h0 n0 v U'.heap L ∧ FrameEnd U o U' L ({ frames := 1, cells := 0, slots := 0, locals := 14 } : Room).cells ({ frames := 1, cells := 0, slots := 0, locals := 14 } : Room).slots) := by
  refine MetFree.of_bodySF (plainFor_of_name pn_2) hisR ?_
  intro p e s m args below meth c s₁ Bd hml0 hP hK
  obtain ⟨rfl, hZ, hh⟩ := hP
  have hx := Bd.exec
  have hby := Bd.bytes
  have hml : c.maxLocals = 2 := hml0
  have hown : s.vm.findClass "java/lang/String" = some m.cls := findClass_of_methodNamed Bd.named
  have hnm := (name_of_methodNamed Bd.named Bd.method).1
  have X0 : Stand p l e ({ frames := 1, cells := 0, slots := 0, locals := 14 } : Room) s m #[(.int pi_), (.int pn_)] below meth c s₁ [] 0 0 := Stand.of_body Bd
  have e0 : s₁.heap = h0 := by rw [← hh, Bd.state]; rfl
  have N0 := Fr.nil n0
  show own_Go p e below s (Q7 Z pi_ pn_ fm_ h0 n0) ({ frames := 1, cells := 0, slots := 0, locals := 14 } : Room).cells ({ frames := 1, cells := 0, slots := 0, locals := 14 } : Room).slots (s₁.setTop (entryFrame m #[(.int pi_), (.int pn_)] 2))
  refine own_via (fun t k => castTop (ef_7 m pi_ pn_) k) ?_
  show own_Go p e below s _ _ _ (s₁.setTop (mkF m 0 #[.val (.int pi_), .val (.int pn_)] []))
  rcases Jvm.Free.XT.refc hp3 with rfl | ⟨fa, rfl⟩
  · show own_Go p e below s _ _ _ (s₁.setTop (mkF m 0 #[.val (.int pi_), .val (.int pn_)] []))
    refine own_via (fun _ k => XS.iloadN X0.here hx rfl (hb hby d7_0) rfl k) ?_
    show own_Go p e below s _ _ _ (s₁.setTop (mkF m 1 #[.val (.int pi_), .val (.int pn_)] [(.int pi_)]))
    refine own_via (fun _ k => XS.iloadN X0.here hx rfl (hb hby d7_1) rfl k) ?_
    show own_Go p e below s _ _ _ (s₁.setTop (mkF m 2 #[.val (.int pi_), .val (.int pn_)] [(.int pn_), (.int pi_)]))
    have F1 := S_SIOOBE_FORMATTER.ext O0.2
    obtain ⟨T2, X2, e2, st2⟩ := getS2 X0 hx hZ hown (host := "") (Or.inl (hw _ (List.mem_of_getElem? (i := 44) rfl))) Via.refl e0 F1 (g := (mkF m 2 #[.val (.int pi_), .val (.int pn_)] [(.int pn_), (.int pi_)])) rfl (hb hby d7_2)
    refine own_via st2 ?_
    show own_Go p e below s _ _ _ (T2.setTop (mkF m 5 #[.val (.int pi_), .val (.int pn_)] [.null, (.int pn_), (.int pi_)]))
    obtain ⟨_, _, ⟨T3, L3, k3, n3⟩, -, X3, ⟨Lc3, hQ3, l3, y3, z3⟩, st3⟩ := Jvm.LawKit.callS X2 hx (y := (⟨"jdk/internal/util/Preconditions", "checkIndex", "(IILjava/util/function/BiFunction;)I"⟩ : MethodName)) hown (mvT hZ (hw _ (List.mem_of_getElem? (i := 46) rfl))) (mvT hZ (hw _ (List.mem_of_getElem? (i := 47) rfl))) (mvT hZ (hw _ (List.mem_of_getElem? (i := 45) rfl))) (mvT hZ (hw _ (List.mem_of_getElem? (i := 48) rfl))) (by decide) (backOf (W := 0) (rmckN l Z a0 hw [] pi_ pn_ h0 n0 Z0 hp1 hp2) hZ (hw _ (List.mem_of_getElem? (i := 48) rfl)) (hw _ (List.mem_of_getElem? (i := 45) rfl)) (by decide) (by decide)) (g := (mkF m 5 #[.val (.int pi_), .val (.int pn_)] [.null, (.int pn_), (.int pi_)])) rfl (by rw [hml]; rfl) (argsL := [(.int pi_), (.int pn_), .null]) (rest := []) (lenOf pd_0 rfl) rfl (by show 2 * 0 + _ ≤ _; exact Nat.le_of_eq rfl) (hb hby d7_5) (fun _ _ => ⟨rfl, e2, (by decide : 0 + 0 ≤ _), (by decide : 0 + 0 ≤ _)⟩)
    dsimp only [Pt.U, Pt.locs, Pt.cells, Pt.slots] at X3 l3 y3 z3 st3 hQ3
    subst l3 y3 z3
    obtain ⟨rfl, N3q, e3⟩ := hQ3
    have N3 := Fr.app N0 N3q
    refine own_via st3 ?_
    show own_Go p e below s _ _ _ (T3.setTop (mkF m 8 #[.val (.int pi_), .val (.int pn_)] [(.int pi_)]))
    refine own_via (fun _ k => XS.pop X3.here hx rfl (hb hby d7_8) rfl rfl k) ?_
    show own_Go p e below s _ _ _ (T3.setTop (mkF m 9 #[.val (.int pi_), .val (.int pn_)] []))
    exact own_goV X3 hx Bd.returns (hb hby d7_9) Bd.notSynchronized (by decide) (by decide) (by rw [e3]; exact ⟨rfl, N3, rfl⟩)
  · show own_Go p e below s _ _ _ (s₁.setTop (mkF m 0 #[.val (.int pi_), .val (.int pn_)] []))
    refine own_via (fun _ k => XS.iloadN X0.here hx rfl (hb hby d7_0) rfl k) ?_
    show own_Go p e below s _ _ _ (s₁.setTop (mkF m 1 #[.val (.int pi_), .val (.int pn_)] [(.int pi_)]))
    refine own_via (fun _ k => XS.iloadN X0.here hx rfl (hb hby d7_1) rfl k) ?_
    show own_Go p e below s _ _ _ (s₁.setTop (mkF m 2 #[.val (.int pi_), .val (.int pn_)] [(.int pn_), (.int pi_)]))
    have F4 := S_SIOOBE_FORMATTER.ext O0.2
    obtain ⟨T5, X5, e5, st5⟩ := getS2 X0 hx hZ hown (host := "") (Or.inl (hw _ (List.mem_of_getElem? (i := 44) rfl))) Via.refl e0 F4 (g := (mkF m 2 #[.val (.int pi_), .val (.int pn_)] [(.int pn_), (.int pi_)])) rfl (hb hby d7_2)
    refine own_via st5 ?_
    show own_Go p e below s _ _ _ (T5.setTop (mkF m 5 #[.val (.int pi_), .val (.int pn_)] [(.ref fa), (.int pn_), (.int pi_)]))
    obtain ⟨_, _, ⟨T6, L6, k6, n6⟩, -, X6, ⟨Lc6, hQ6, l6, y6, z6⟩, st6⟩ := Jvm.LawKit.callS X5 hx (y := (⟨"jdk/internal/util/Preconditions", "checkIndex", "(IILjava/util/function/BiFunction;)I"⟩ : MethodName)) hown (mvT hZ (hw _ (List.mem_of_getElem? (i := 46) rfl))) (mvT hZ (hw _ (List.mem_of_getElem? (i := 47) rfl))) (mvT hZ (hw _ (List.mem_of_getElem? (i := 45) rfl))) (mvT hZ (hw _ (List.mem_of_getElem? (i := 48) rfl))) (by decide) (backOf (W := 0) (rmckR l Z a0 hw [] pi_ pn_ fa h0 n0 Z0 hp1 hp2) hZ (hw _ (List.mem_of_getElem? (i := 48) rfl)) (hw _ (List.mem_of_getElem? (i := 45) rfl)) (by decide) (by decide)) (g := (mkF m 5 #[.val (.int pi_), .val (.int pn_)] [(.ref fa), (.int pn_), (.int pi_)])) rfl (by rw [hml]; rfl) (argsL := [(.int pi_), (.int pn_), (.ref fa)]) (rest := []) (lenOf pd_0 rfl) rfl (by show 2 * 0 + _ ≤ _; exact Nat.le_of_eq rfl) (hb hby d7_5) (fun _ _ => ⟨rfl, e5, (by decide : 0 + 0 ≤ _), (by decide : 0 + 0 ≤ _)⟩)
    dsimp only [Pt.U, Pt.locs, Pt.cells, Pt.slots] at X6 l6 y6 z6 st6 hQ6
    subst l6 y6 z6
    obtain ⟨rfl, N6q, e6⟩ := hQ6
    have N6 := Fr.app N0 N6q
    refine own_via st6 ?_
    show own_Go p e below s _ _ _ (T6.setTop (mkF m 8 #[.val (.int pi_), .val (.int pn_)] [(.int pi_)]))
    refine own_via (fun _ k => XS.pop X6.here hx rfl (hb hby d7_8) rfl rfl k) ?_
    show own_Go p e below s _ _ _ (T6.setTop (mkF m 9 #[.val (.int pi_), .val (.int pn_)] []))
    exact own_goV X6 hx Bd.returns (hb hby d7_9) Bd.notSynchronized (by decide) (by decide) (by rw [e6]; exact ⟨rfl, N6, rfl⟩)
theorem d6_0 : decode jdk_43_method_2_code 0 = .ok (.iload_n 1, 1) := by decide +kernel
theorem d6_1 : decode jdk_43_method_2_code 1 = .ok (.aload_n 0, 1) := by decide +kernel
theorem d6_2 : decode jdk_43_method_2_code 2 = .ok (.arraylength, 1) := by decide +kernel
theorem pd_1 : parseMethodDescriptor "(II)V" = some ⟨[.int, .int], none⟩ := by decide +kernel
theorem d6_3 : decode jdk_43_method_2_code 3 = .ok (.invokestatic 9, 3) := by decide +kernel
theorem d6_6 : decode jdk_43_method_2_code 6 = .ok (.aload_n 0, 1) := by decide +kernel
theorem d6_7 : decode jdk_43_method_2_code 7 = .ok (.iload_n 1, 1) := by decide +kernel
theorem d6_8 : decode jdk_43_method_2_code 8 = .ok (.baload, 1) := by decide +kernel
theorem d6_9 : decode jdk_43_method_2_code 9 = .ok (.sipush 255, 3) := by decide +kernel
theorem d6_12 : decode jdk_43_method_2_code 12 = .ok (.iand, 1) := by decide +kernel
theorem d6_13 : decode jdk_43_method_2_code 13 = .ok (.i2c, 1) := by decide +kernel
theorem d6_14 : decode jdk_43_method_2_code 14 = .ok (.ireturn, 1) := by decide +kernel
theorem pn_4 : plainName "java/lang/StringLatin1" = true := by first | (simp [plainName, overriddenIn]; done) | decide +kernel
theorem ef_6 (m : MethodId) (x0 : Addr) (x1 : Int32) : entryFrame m #[(.ref x0), (.int x1)] 2 = mkF m 0 #[.val (.ref x0), .val (.int x1)] [] := by first | (simp [entryFrame, mkF, argsToLocals, Value.category]; done) | rfl
def Q6 (Z : State) (va_ : Addr) (zero_ : Int32) (cl_ : Cell) (z_ : Int32) (c_ : Int32) (fm_ : Value) (h0 : Heap) (n0 : Nat) (v : Option Value) (h : Heap) (L : List Loc) : Prop := v = some (.int (nar .char (o_i2c (c_ &&& (255 : Int32))))) ∧ Fr n0 L ∧ h = h0
set_option maxRecDepth 65536 in
set_option maxHeartbeats 40000000 in
theorem rm6 (l : Launch) (Z : State) (a0 : Array Value) (hw : ∀ d ∈ tables_1, d.before a0 Z = true) (ws : List Jvm.Cond) (va_ : Addr) (zero_ : Int32) (cl_ : Cell) (z_ : Int32) (c_ : Int32) (fm_ : Value) (h0 : Heap) (n0 : Nat) (Z0 : n0 ≤ h0.size) (O0 : Old Z n0 h0) (S_SIOOBE_FORMATTER : Sta Z Z.heap "jdk/internal/util/Preconditions" "SIOOBE_FORMATTER" "Ljava/util/function/BiFunction;" fm_) (hp1 : Arr Z Z.heap va_ cl_ .byte) (hp2 : cl_.slots.size = z_.toNatClampNeg) (hp3 : ¬ z_ < (0 : Int32)) (hp4 : (0 : Int32) < z_) (hp5 : cl_.slots[((0 : Int32)).toNatClampNeg]? = some (.int c_)) (hp6 : zero_ = (0 : Int32)) (hp7 : fm_.isRef = true) :
    MetFree l (⟨"java/lang/StringLatin1", "charAt", "([BI)C"⟩ : MethodName) (head1 (Jvm.Cond.code (⟨"java/lang/StringLatin1", "charAt", "([BI)C"⟩ : MethodName) jdk_43_method_2_code 2 (some .char) :: ws) ({ frames := 2, cells := 0, slots := 0, locals := 27 } : Room)) (fun q_ U => q_ = #[(.ref va_), (.int zero_)] ∧ Z.Warmed39 U.vm ∧ U.heap = h0) (fun _ _ _ _ _ => True) (fun _ U o U' => ∃ v L, o = .returned v ∧ Q6 Z va_ zero_ cl_ z_ c_ fm_ h0 n0 v U'.heap L ∧ FrameEnd U o U' L ({ frames := 2, cells := 0, slots := 0, locals := 27 } : Room).cells ({ frames := 2, cells := 0, slots := 0, locals := 27 } : Room).slots) := by
  refine MetFree.of_bodySF (plainFor_of_name pn_4) hisR ?_
  intro p e s m args below meth c s₁ Bd hml0 hP hK
  obtain ⟨rfl, hZ, hh⟩ := hP
  have hx := Bd.exec
  have hby := Bd.bytes
  have hml : c.maxLocals = 2 := hml0
  have hown : s.vm.findClass "java/lang/StringLatin1" = some m.cls := findClass_of_methodNamed Bd.named
  have hnm := (name_of_methodNamed Bd.named Bd.method).1
  have X0 : Stand p l e ({ frames := 2, cells := 0, slots := 0, locals := 27 } : Room) s m #[(.ref va_), (.int zero_)] below meth c s₁ [] 0 0 := Stand.of_body Bd
  have e0 : s₁.heap = h0 := by rw [← hh, Bd.state]; rfl
  have N0 := Fr.nil n0
  show own_Go p e below s (Q6 Z va_ zero_ cl_ z_ c_ fm_ h0 n0) ({ frames := 2, cells := 0, slots := 0, locals := 27 } : Room).cells ({ frames := 2, cells := 0, slots := 0, locals := 27 } : Room).slots (s₁.setTop (entryFrame m #[(.ref va_), (.int zero_)] 2))
  refine own_via (fun t k => castTop (ef_6 m va_ zero_) k) ?_
  show own_Go p e below s _ _ _ (s₁.setTop (mkF m 0 #[.val (.ref va_), .val (.int zero_)] []))
  subst hp6
  show own_Go p e below s _ _ _ (s₁.setTop (mkF m 0 #[.val (.ref va_), .val (.int (0 : Int32))] []))
  refine own_via (fun _ k => XS.iloadN X0.here hx rfl (hb hby d6_0) rfl k) ?_
  show own_Go p e below s _ _ _ (s₁.setTop (mkF m 1 #[.val (.ref va_), .val (.int (0 : Int32))] [(.int (0 : Int32))]))
  refine own_via (fun _ k => XS.aloadN X0.here hx rfl (hb hby d6_1) rfl rfl k) ?_
  show own_Go p e below s _ _ _ (s₁.setTop (mkF m 2 #[.val (.ref va_), .val (.int (0 : Int32))] [(.ref va_), (.int (0 : Int32))]))
  refine own_via (fun _ k => X0.arraylength hx (by rw [e0]; exact (hp1.ext O0.2).1) (State.isArrayOf_alike hZ.alike hp1.2.1) (g := (mkF m 2 #[.val (.ref va_), .val (.int (0 : Int32))] [(.ref va_), (.int (0 : Int32))])) rfl rfl (hb hby d6_2) _ (by rw [len_of hp2 hp3]; exact k)) ?_
  show own_Go p e below s _ _ _ (s₁.setTop (mkF m 3 #[.val (.ref va_), .val (.int (0 : Int32))] [(.int z_), (.int (0 : Int32))]))
  obtain ⟨_, _, ⟨T1, L1, k1, n1⟩, -, X1, ⟨Lc1, hQ1, l1, y1, z1⟩, st1⟩ := Jvm.LawKit.callS X0 hx (y := (⟨"java/lang/String", "checkIndex", "(II)V"⟩ : MethodName)) hown (mvT hZ (hw _ (List.mem_of_getElem? (i := 41) rfl))) (mvT hZ (hw _ (List.mem_of_getElem? (i := 42) rfl))) (mvT hZ (hw _ (List.mem_of_getElem? (i := 25) rfl))) (mvT hZ (hw _ (List.mem_of_getElem? (i := 43) rfl))) (by decide) (backOf (W := 0) (rm7 l Z a0 hw [] (0 : Int32) z_ fm_ h0 n0 Z0 O0 S_SIOOBE_FORMATTER (by decide) hp4 hp7) hZ (hw _ (List.mem_of_getElem? (i := 43) rfl)) (hw _ (List.mem_of_getElem? (i := 25) rfl)) (by decide) (by decide)) (g := (mkF m 3 #[.val (.ref va_), .val (.int (0 : Int32))] [(.int z_), (.int (0 : Int32))])) rfl (by rw [hml]; rfl) (argsL := [(.int (0 : Int32)), (.int z_)]) (rest := []) (lenOf pd_1 rfl) rfl (by show 2 * 0 + _ ≤ _; exact Nat.le_of_eq rfl) (hb hby d6_3) (fun _ _ => ⟨rfl, e0, (by decide : 0 + 0 ≤ _), (by decide : 0 + 0 ≤ _)⟩)
  dsimp only [Pt.U, Pt.locs, Pt.cells, Pt.slots] at X1 l1 y1 z1 st1 hQ1
  subst l1 y1 z1
  obtain ⟨rfl, N1q, e1⟩ := hQ1
  have N1 := Fr.app N0 N1q
  refine own_via st1 ?_
  show own_Go p e below s _ _ _ (T1.setTop (mkF m 6 #[.val (.ref va_), .val (.int (0 : Int32))] []))
  refine own_via (fun _ k => XS.aloadN X1.here hx rfl (hb hby d6_6) rfl rfl k) ?_
  show own_Go p e below s _ _ _ (T1.setTop (mkF m 7 #[.val (.ref va_), .val (.int (0 : Int32))] [(.ref va_)]))
  refine own_via (fun _ k => XS.iloadN X1.here hx rfl (hb hby d6_7) rfl k) ?_
  show own_Go p e below s _ _ _ (T1.setTop (mkF m 8 #[.val (.ref va_), .val (.int (0 : Int32))] [(.int (0 : Int32)), (.ref va_)]))
  refine own_via (fun _ k => X1.baloadBytes hx (j := (0 : Int32)) (v := .int c_) (by rw [e1]; exact (hp1.ext O0.2).1) (State.isArrayOf_alike hZ.alike hp1.2.1) hp1.2.2 (inb_of hp2 ⟨by decide, hp4⟩) hp5 (g := (mkF m 8 #[.val (.ref va_), .val (.int (0 : Int32))] [(.int (0 : Int32)), (.ref va_)])) rfl rfl (hb hby d6_8) _ k) ?_
  show own_Go p e below s _ _ _ (T1.setTop (mkF m 9 #[.val (.ref va_), .val (.int (0 : Int32))] [(.int c_)]))
  refine own_via (fun _ k => XS.sipush X1.here hx rfl (hb hby d6_9) k) ?_
  show own_Go p e below s _ _ _ (T1.setTop (mkF m 12 #[.val (.ref va_), .val (.int (0 : Int32))] [(.int (255 : Int32)), (.int c_)]))
  refine own_via (fun _ k => XS.iand X1.here hx rfl (hb hby d6_12) rfl k) ?_
  show own_Go p e below s _ _ _ (T1.setTop (mkF m 13 #[.val (.ref va_), .val (.int (0 : Int32))] [(.int (c_ &&& (255 : Int32)))]))
  refine own_via (fun _ k => XS.i2c X1.here hx rfl (hb hby d6_13) rfl k) ?_
  show own_Go p e below s _ _ _ (T1.setTop (mkF m 14 #[.val (.ref va_), .val (.int (0 : Int32))] [(.int (o_i2c (c_ &&& (255 : Int32))))]))
  exact own_goN X1 hx (t := .char) Bd.returns (by simp) (hb hby d6_14) Bd.notSynchronized (by decide) (by decide) (by rw [e1]; exact ⟨rfl, N1, rfl⟩)
theorem d4_0 : decode jdk_42_method_56_code 0 = .ok (.aload_n 0, 1) := by decide +kernel
theorem pd_2 : parseMethodDescriptor "()Z" = some ⟨[], some .boolean⟩ := by decide +kernel
theorem d4_1 : decode jdk_42_method_56_code 1 = .ok (.invokevirtual 492, 3) := by decide +kernel
theorem d4_4 : decode jdk_42_method_56_code 4 = .ok (.ifCond .eq 12, 3) := by decide +kernel
theorem d4_7 : decode jdk_42_method_56_code 7 = .ok (.aload_n 0, 1) := by decide +kernel
theorem d4_8 : decode jdk_42_method_56_code 8 = .ok (.getfield 9, 3) := by decide +kernel
theorem d4_11 : decode jdk_42_method_56_code 11 = .ok (.iload_n 1, 1) := by decide +kernel
theorem pd_3 : parseMethodDescriptor "([BI)C" = some ⟨[(.array .byte), .int], some .char⟩ := by decide +kernel
theorem d4_12 : decode jdk_42_method_56_code 12 = .ok (.invokestatic 495, 3) := by decide +kernel
theorem d4_15 : decode jdk_42_method_56_code 15 = .ok (.ireturn, 1) := by decide +kernel
theorem ef_4 (m : MethodId) (x0 : Addr) (x1 : Int32) : entryFrame m #[(.ref x0), (.int x1)] 2 = mkF m 0 #[.val (.ref x0), .val (.int x1)] [] := by first | (simp [entryFrame, mkF, argsToLocals, Value.category]; done) | rfl
def Q4 (Z : State) (a : Addr) (zero_ : Int32) (va_ : Addr) (cs_ : Int32) (cl_ : Cell) (z_ : Int32) (c_ : Int32) (fm_ : Value) (h0 : Heap) (n0 : Nat) (v : Option Value) (h : Heap) (L : List Loc) : Prop := v = some (.int (nar .char (nar .char (o_i2c (c_ &&& (255 : Int32)))))) ∧ Fr n0 L ∧ h = h0
set_option maxRecDepth 65536 in
set_option maxHeartbeats 40000000 in
theorem rm4 (l : Launch) (Z : State) (a0 : Array Value) (hw : ∀ d ∈ tables_1, d.before a0 Z = true) (ws : List Jvm.Cond) (a : Addr) (zero_ : Int32) (va_ : Addr) (cs_ : Int32) (cl_ : Cell) (z_ : Int32) (c_ : Int32) (fm_ : Value) (h0 : Heap) (n0 : Nat) (Z0 : n0 ≤ h0.size) (O0 : Old Z n0 h0) (S_SIOOBE_FORMATTER : Sta Z Z.heap "jdk/internal/util/Preconditions" "SIOOBE_FORMATTER" "Ljava/util/function/BiFunction;" fm_) (S_COMPACT_STRINGS : Sta Z Z.heap "java/lang/String" "COMPACT_STRINGS" "Z" (.int cs_)) (F_coder_a : Fld Z Z.heap a "java/lang/String" "coder" "B" (.int (0 : Int32))) (F_value_a : Fld Z Z.heap a "java/lang/String" "value" "[B" (.ref va_)) (hp4 : Arr Z Z.heap va_ cl_ .byte) (hp5 : cl_.slots.size = z_.toNatClampNeg) (hp6 : ¬ z_ < (0 : Int32)) (hp7 : (0 : Int32) < z_) (hp8 : cl_.slots[((0 : Int32)).toNatClampNeg]? = some (.int c_)) (hp9 : ¬ cs_ = (0 : Int32)) (E_a : Exa Z Z.heap a "java/lang/String") (hp11 : zero_ = (0 : Int32)) (hp12 : fm_.isRef = true) :
    MetFree l (⟨"java/lang/String", "charAt", "(I)C"⟩ : MethodName) (head1 (Jvm.Cond.code (⟨"java/lang/String", "charAt", "(I)C"⟩ : MethodName) jdk_42_method_56_code 2 (some .char) :: ws) ({ frames := 3, cells := 0, slots := 0, locals := 40 } : Room)) (fun q_ U => q_ = #[(.ref a), (.int zero_)] ∧ Z.Warmed39 U.vm ∧ U.heap = h0) (fun _ _ _ _ _ => True) (fun _ U o U' => ∃ v L, o = .returned v ∧ Q4 Z a zero_ va_ cs_ cl_ z_ c_ fm_ h0 n0 v U'.heap L ∧ FrameEnd U o U' L ({ frames := 3, cells := 0, slots := 0, locals := 40 } : Room).cells ({ frames := 3, cells := 0, slots := 0, locals := 40 } : Room).slots) := by
  refine MetFree.of_bodySF (plainFor_of_name pn_2) hisR ?_
  intro p e s m args below meth c s₁ Bd hml0 hP hK
  obtain ⟨rfl, hZ, hh⟩ := hP
  have hx := Bd.exec
  have hby := Bd.bytes
  have hml : c.maxLocals = 2 := hml0
  have hown : s.vm.findClass "java/lang/String" = some m.cls := findClass_of_methodNamed Bd.named
  have hnm := (name_of_methodNamed Bd.named Bd.method).1
  have X0 : Stand p l e ({ frames := 3, cells := 0, slots := 0, locals := 40 } : Room) s m #[(.ref a), (.int zero_)] below meth c s₁ [] 0 0 := Stand.of_body Bd
  have e0 : s₁.heap = h0 := by rw [← hh, Bd.state]; rfl
  have N0 := Fr.nil n0
  show own_Go p e below s (Q4 Z a zero_ va_ cs_ cl_ z_ c_ fm_ h0 n0) ({ frames := 3, cells := 0, slots := 0, locals := 40 } : Room).cells ({ frames := 3, cells := 0, slots := 0, locals := 40 } : Room).slots (s₁.setTop (entryFrame m #[(.ref a), (.int zero_)] 2))
  refine own_via (fun t k => castTop (ef_4 m a zero_) k) ?_
  show own_Go p e below s _ _ _ (s₁.setTop (mkF m 0 #[.val (.ref a), .val (.int zero_)] []))
  subst hp11
  show own_Go p e below s _ _ _ (s₁.setTop (mkF m 0 #[.val (.ref a), .val (.int (0 : Int32))] []))
  refine own_via (fun _ k => XS.aloadN X0.here hx rfl (hb hby d4_0) rfl rfl k) ?_
  show own_Go p e below s _ _ _ (s₁.setTop (mkF m 1 #[.val (.ref a), .val (.int (0 : Int32))] [(.ref a)]))
  have F2 := E_a.ext O0.2
  obtain ⟨cq1, kq1, qa1, qb1, qc1⟩ := isOf hZ e0 F2
  obtain ⟨_, _, ⟨T1, L1, k1, n1⟩, -, X1, ⟨Lc1, hQ1, l1, y1, z1⟩, st1⟩ := X0.virtualBack hx (y := (⟨"java/lang/String", "isLatin1", "()Z"⟩ : MethodName)) (z := (⟨"java/lang/String", "isLatin1", "()Z"⟩ : MethodName)) hown (mvT hZ (hw _ (List.mem_of_getElem? (i := 27) rfl))) (mvT hZ (hw _ (List.mem_of_getElem? (i := 28) rfl))) (notFace_of_selects (args := #[]) (mvT hZ (hw _ (List.mem_of_getElem? (i := 30) rfl)))) (mvT hZ (hw _ (List.mem_of_getElem? (i := 30) rfl))) (mvT hZ (hw _ (List.mem_of_getElem? (i := 29) rfl))) (by decide) (backOf (W := 0) (rm5 l Z a0 hw [] a cs_ h0 n0 Z0 O0 S_COMPACT_STRINGS F_coder_a hp9) hZ (hw _ (List.mem_of_getElem? (i := 31) rfl)) (hw _ (List.mem_of_getElem? (i := 25) rfl)) (by decide) (by decide)) qa1 qc1 (g := (mkF m 1 #[.val (.ref a), .val (.int (0 : Int32))] [(.ref a)])) rfl (by rw [hml]; rfl) (Steps.refl _) (argsL := []) (rest := []) (lenOf pd_2 rfl) rfl (by show 2 * 0 + _ ≤ _; exact Nat.le_of_eq rfl) (hb hby d4_1) (fun _ _ => ⟨rfl, e0, (by decide : 0 + 0 ≤ _), (by decide : 0 + 0 ≤ _)⟩)
  dsimp only [Pt.U, Pt.locs, Pt.cells, Pt.slots] at X1 l1 y1 z1 st1 hQ1
  subst l1 y1 z1
  obtain ⟨rfl, N1q, e1⟩ := hQ1
  have N1 := Fr.app N0 N1q
  refine own_viaT st1 ?_
  show own_Go p e below s _ _ _ (T1.setTop (mkF m 4 #[.val (.ref a), .val (.int (0 : Int32))] [(.int (1 : Int32))]))
  refine own_via (fun _ k => XS.ifNo X1.here hx rfl (hb hby d4_4) rfl (Jvm.Free.XT.i0_eq_f (by decide)) k) ?_
  show own_Go p e below s _ _ _ (T1.setTop (mkF m 7 #[.val (.ref a), .val (.int (0 : Int32))] []))
  refine own_via (fun _ k => XS.aloadN X1.here hx rfl (hb hby d4_7) rfl rfl k) ?_
  show own_Go p e below s _ _ _ (T1.setTop (mkF m 8 #[.val (.ref a), .val (.int (0 : Int32))] [(.ref a)]))
  have F3 := F_value_a.ext O0.2
  obtain ⟨T4, X4, e4, st4⟩ := getF X1 hx hZ hown (host := "") (Or.inl (hw _ (List.mem_of_getElem? (i := 35) rfl))) Via.refl e1 F3 (g := (mkF m 8 #[.val (.ref a), .val (.int (0 : Int32))] [(.ref a)])) rfl rfl (hb hby d4_8)
  refine own_via st4 ?_
  show own_Go p e below s _ _ _ (T4.setTop (mkF m 11 #[.val (.ref a), .val (.int (0 : Int32))] [(.ref va_)]))
  refine own_via (fun _ k => XS.iloadN X4.here hx rfl (hb hby d4_11) rfl k) ?_
  show own_Go p e below s _ _ _ (T4.setTop (mkF m 12 #[.val (.ref a), .val (.int (0 : Int32))] [(.int (0 : Int32)), (.ref va_)]))
  obtain ⟨_, _, ⟨T5, L5, k5, n5⟩, -, X5, ⟨Lc5, hQ5, l5, y5, z5⟩, st5⟩ := Jvm.LawKit.callS X4 hx (y := (⟨"java/lang/StringLatin1", "charAt", "([BI)C"⟩ : MethodName)) hown (mvT hZ (hw _ (List.mem_of_getElem? (i := 37) rfl))) (mvT hZ (hw _ (List.mem_of_getElem? (i := 38) rfl))) (mvT hZ (hw _ (List.mem_of_getElem? (i := 39) rfl))) (mvT hZ (hw _ (List.mem_of_getElem? (i := 40) rfl))) (by decide) (backOf (W := 0) (rm6 l Z a0 hw [] va_ (0 : Int32) cl_ z_ c_ fm_ h0 n0 Z0 O0 S_SIOOBE_FORMATTER hp4 hp5 hp6 hp7 hp8 (by rfl) hp12) hZ (hw _ (List.mem_of_getElem? (i := 40) rfl)) (hw _ (List.mem_of_getElem? (i := 39) rfl)) (by decide) (by decide)) (g := (mkF m 12 #[.val (.ref a), .val (.int (0 : Int32))] [(.int (0 : Int32)), (.ref va_)])) rfl (by rw [hml]; rfl) (argsL := [(.ref va_), (.int (0 : Int32))]) (rest := []) (lenOf pd_3 rfl) rfl (by show 2 * 0 + _ ≤ _; exact Nat.le_of_eq rfl) (hb hby d4_12) (fun _ _ => ⟨rfl, e4, (by decide : 0 + 0 ≤ _), (by decide : 0 + 0 ≤ _)⟩)
  dsimp only [Pt.U, Pt.locs, Pt.cells, Pt.slots] at X5 l5 y5 z5 st5 hQ5
  subst l5 y5 z5
  obtain ⟨rfl, N5q, e5⟩ := hQ5
  have N5 := Fr.app N1 N5q
  refine own_via st5 ?_
  show own_Go p e below s _ _ _ (T5.setTop (mkF m 15 #[.val (.ref a), .val (.int (0 : Int32))] [(.int (nar .char (o_i2c (c_ &&& (255 : Int32)))))]))
  exact own_goN X5 hx (t := .char) Bd.returns (by simp) (hb hby d4_15) Bd.notSynchronized (by decide) (by decide) (by rw [e5]; exact ⟨rfl, N5, rfl⟩)
theorem d10_0 : decode jdk_37_method_2_code 0 = .ok (.aload_n 0, 1) := by decide +kernel
theorem d10_1 : decode jdk_37_method_2_code 1 = .ok (.getfield 7, 3) := by decide +kernel
theorem d10_4 : decode jdk_37_method_2_code 4 = .ok (.ireturn, 1) := by decide +kernel
theorem pn_5 : plainName "java/lang/Enum" = true := by first | (simp [plainName, overriddenIn]; done) | decide +kernel
theorem ef_10 (m : MethodId) (x0 : Addr) : entryFrame m #[(.ref x0)] 1 = mkF m 0 #[.val (.ref x0)] [] := by first | (simp [entryFrame, mkF, argsToLocals, Value.category]; done) | rfl
def Q10 (Z : State) (a : Addr) (n_ : Int32) (h0 : Heap) (n0 : Nat) (v : Option Value) (h : Heap) (L : List Loc) : Prop := v = some (.int n_) ∧ Fr n0 L ∧ h = h0
set_option maxRecDepth 65536 in
set_option maxHeartbeats 40000000 in
theorem rm10 (l : Launch) (Z : State) (a0 : Array Value) (hw : ∀ d ∈ tables_1, d.before a0 Z = true) (ws : List Jvm.Cond) (a : Addr) (n_ : Int32) (h0 : Heap) (n0 : Nat) (Z0 : n0 ≤ h0.size) (O0 : Old Z n0 h0) (F_ordinal_a : Fld Z Z.heap a "java/lang/Enum" "ordinal" "I" (.int n_)) :
    MetFree l (⟨"java/lang/Enum", "ordinal", "()I"⟩ : MethodName) (head1 (Jvm.Cond.code (⟨"java/lang/Enum", "ordinal", "()I"⟩ : MethodName) jdk_37_method_2_code 1 (some .int) :: ws) ({ frames := 0, cells := 0, slots := 0, locals := 0 } : Room)) (fun q_ U => q_ = #[(.ref a)] ∧ Z.Warmed39 U.vm ∧ U.heap = h0) (fun _ _ _ _ _ => True) (fun _ U o U' => ∃ v L, o = .returned v ∧ Q10 Z a n_ h0 n0 v U'.heap L ∧ FrameEnd U o U' L ({ frames := 0, cells := 0, slots := 0, locals := 0 } : Room).cells ({ frames := 0, cells := 0, slots := 0, locals := 0 } : Room).slots) := by
  refine MetFree.of_bodySF (plainFor_of_name pn_5) hisR ?_
  intro p e s m args below meth c s₁ Bd hml0 hP hK
  obtain ⟨rfl, hZ, hh⟩ := hP
  have hx := Bd.exec
  have hby := Bd.bytes
  have hml : c.maxLocals = 1 := hml0
  have hown : s.vm.findClass "java/lang/Enum" = some m.cls := findClass_of_methodNamed Bd.named
  have hnm := (name_of_methodNamed Bd.named Bd.method).1
  have X0 : Stand p l e ({ frames := 0, cells := 0, slots := 0, locals := 0 } : Room) s m #[(.ref a)] below meth c s₁ [] 0 0 := Stand.of_body Bd
  have e0 : s₁.heap = h0 := by rw [← hh, Bd.state]; rfl
  have N0 := Fr.nil n0
  show own_Go p e below s (Q10 Z a n_ h0 n0) ({ frames := 0, cells := 0, slots := 0, locals := 0 } : Room).cells ({ frames := 0, cells := 0, slots := 0, locals := 0 } : Room).slots (s₁.setTop (entryFrame m #[(.ref a)] 1))
  refine own_via (fun t k => castTop (ef_10 m a) k) ?_
  show own_Go p e below s _ _ _ (s₁.setTop (mkF m 0 #[.val (.ref a)] []))
  refine own_via (fun _ k => XS.aloadN X0.here hx rfl (hb hby d10_0) rfl rfl k) ?_
  show own_Go p e below s _ _ _ (s₁.setTop (mkF m 1 #[.val (.ref a)] [(.ref a)]))
  have F1 := F_ordinal_a.ext O0.2
  obtain ⟨T2, X2, e2, st2⟩ := getF X0 hx hZ hown (host := "") (Or.inl (hw _ (List.mem_of_getElem? (i := 61) rfl))) Via.refl e0 F1 (g := (mkF m 1 #[.val (.ref a)] [(.ref a)])) rfl rfl (hb hby d10_1)
  refine own_via st2 ?_
  show own_Go p e below s _ _ _ (T2.setTop (mkF m 4 #[.val (.ref a)] [(.int n_)]))
  exact own_goI X2 hx Bd.returns (hb hby d10_4) Bd.notSynchronized (by decide) (by decide) (by rw [e2]; exact ⟨rfl, N0, rfl⟩)
theorem d9_0 : decode prog_14_method_6_code 0 = .ok (.aload_n 0, 1) := by decide +kernel
theorem pd_4 : parseMethodDescriptor "()I" = some ⟨[], some .int⟩ := by decide +kernel
theorem d9_1 : decode prog_14_method_6_code 1 = .ok (.invokevirtual 45, 3) := by decide +kernel
theorem d9_4 : decode prog_14_method_6_code 4 = .ok (.tableswitch 40 0 5 #[50, 64, 78, 92, 106, 120], 40) := by decide +kernel
theorem d9_54 : decode prog_14_method_6_code 54 = .ok (.lload_n 1, 1) := by decide +kernel
theorem d9_55 : decode prog_14_method_6_code 55 = .ok (.lload_n 3, 1) := by decide +kernel
theorem d9_56 : decode prog_14_method_6_code 56 = .ok (.lcmp, 1) := by decide +kernel
theorem d9_57 : decode prog_14_method_6_code 57 = .ok (.ifCond .ne 7, 3) := by decide +kernel
theorem d9_60 : decode prog_14_method_6_code 60 = .ok (.iconst 1, 1) := by decide +kernel
theorem d9_61 : decode prog_14_method_6_code 61 = .ok (.goto 74, 3) := by decide +kernel
theorem d9_135 : decode prog_14_method_6_code 135 = .ok (.ireturn, 1) := by decide +kernel
theorem d9_64 : decode prog_14_method_6_code 64 = .ok (.iconst 0, 1) := by decide +kernel
theorem d9_65 : decode prog_14_method_6_code 65 = .ok (.goto 70, 3) := by decide +kernel
def own_ho0 (x_ : Int64) (y_ : Int64) : Int32 := (if x_ = y_ then (1 : Int32) else (0 : Int32))
theorem ef_ho0 (m : MethodId) (x0 : Addr) (x1 : Int64) (x2 : Int64) : entryFrame m #[(.ref x0), (.long x1), (.long x2)] 5 = mkF m 0 #[.val (.ref x0), .val (.long x1), .second, .val (.long x2), .second] [] := by first | (simp [entryFrame, mkF, argsToLocals, Value.category]; done) | rfl
def Qho0 (Z : State) (a : Addr) (x_ : Int64) (y_ : Int64) (h0 : Heap) (n0 : Nat) (v : Option Value) (h : Heap) (L : List Loc) : Prop := v = some (.int (own_ho0 x_ y_)) ∧ Fr n0 L ∧ h = h0
set_option maxRecDepth 65536 in
set_option maxHeartbeats 40000000 in
theorem rmho0 (l : Launch) (Z : State) (a0 : Array Value) (hw : ∀ d ∈ tables_1, d.before a0 Z = true) (ws : List Jvm.Cond) (a : Addr) (x_ : Int64) (y_ : Int64) (h0 : Heap) (n0 : Nat) (Z0 : n0 ≤ h0.size) (O0 : Old Z n0 h0) (F_ordinal_a : Fld Z Z.heap a "java/lang/Enum" "ordinal" "I" (.int (0 : Int32))) (E_a : Exa Z Z.heap a "com/example/trajectory/trajectory/model/Condition$Operator") :
    MetFree l (⟨"com/example/trajectory/trajectory/model/Condition$Operator", "holds", "(JJ)Z"⟩ : MethodName) (head1 (Jvm.Cond.code (⟨"com/example/trajectory/trajectory/model/Condition$Operator", "holds", "(JJ)Z"⟩ : MethodName) prog_14_method_6_code 5 (some .boolean) :: ws) ({ frames := 1, cells := 0, slots := 0, locals := 12 } : Room)) (fun q_ U => q_ = #[(.ref a), (.long x_), (.long y_)] ∧ Z.Warmed39 U.vm ∧ U.heap = h0) (fun _ _ _ _ _ => True) (fun _ U o U' => ∃ v L, o = .returned v ∧ Qho0 Z a x_ y_ h0 n0 v U'.heap L ∧ FrameEnd U o U' L ({ frames := 1, cells := 0, slots := 0, locals := 12 } : Room).cells ({ frames := 1, cells := 0, slots := 0, locals := 12 } : Room).slots) := by
  refine MetFree.of_bodySF (plainFor_of_name pn_1) hisR ?_
  intro p e s m args below meth c s₁ Bd hml0 hP hK
  obtain ⟨rfl, hZ, hh⟩ := hP
  have hx := Bd.exec
  have hby := Bd.bytes
  have hml : c.maxLocals = 5 := hml0
  have hown : s.vm.findClass "com/example/trajectory/trajectory/model/Condition$Operator" = some m.cls := findClass_of_methodNamed Bd.named
  have hnm := (name_of_methodNamed Bd.named Bd.method).1
  have X0 : Stand p l e ({ frames := 1, cells := 0, slots := 0, locals := 12 } : Room) s m #[(.ref a), (.long x_), (.long y_)] below meth c s₁ [] 0 0 := Stand.of_body Bd
  have e0 : s₁.heap = h0 := by rw [← hh, Bd.state]; rfl
  have N0 := Fr.nil n0
  show own_Go p e below s (Qho0 Z a x_ y_ h0 n0) ({ frames := 1, cells := 0, slots := 0, locals := 12 } : Room).cells ({ frames := 1, cells := 0, slots := 0, locals := 12 } : Room).slots (s₁.setTop (entryFrame m #[(.ref a), (.long x_), (.long y_)] 5))
  refine own_via (fun t k => castTop (ef_ho0 m a x_ y_) k) ?_
  show own_Go p e below s _ _ _ (s₁.setTop (mkF m 0 #[.val (.ref a), .val (.long x_), .second, .val (.long y_), .second] []))
  refine own_via (fun _ k => XS.aloadN X0.here hx rfl (hb hby d9_0) rfl rfl k) ?_
  show own_Go p e below s _ _ _ (s₁.setTop (mkF m 1 #[.val (.ref a), .val (.long x_), .second, .val (.long y_), .second] [(.ref a)]))
  have F2 := E_a.ext O0.2
  obtain ⟨cq1, kq1, qa1, qb1, qc1⟩ := isOf hZ e0 F2
  obtain ⟨_, _, ⟨T1, L1, k1, n1⟩, -, X1, ⟨Lc1, hQ1, l1, y1, z1⟩, st1⟩ := X0.virtualBackUp hx (x := (⟨"com/example/trajectory/trajectory/model/Condition$Operator", "ordinal", "()I"⟩ : MethodName)) (y := (⟨"java/lang/Enum", "ordinal", "()I"⟩ : MethodName)) (owner := "java/lang/Enum") hown (mvT hZ (hw _ (List.mem_of_getElem? (i := 54) rfl))) (mvT hZ (hw _ (List.mem_of_getElem? (i := 55) rfl))) (mvT hZ (hw _ (List.mem_of_getElem? (i := 56) rfl))) (by decide) (mvT hZ (hw _ (List.mem_of_getElem? (i := 58) rfl))) (mvT hZ (hw _ (List.mem_of_getElem? (i := 57) rfl))) (backOf (W := 0) (rm10 l Z a0 hw [] a (0 : Int32) h0 n0 Z0 O0 F_ordinal_a) hZ (hw _ (List.mem_of_getElem? (i := 60) rfl)) (hw _ (List.mem_of_getElem? (i := 59) rfl)) (by decide) (by decide)) qa1 qc1 (g := (mkF m 1 #[.val (.ref a), .val (.long x_), .second, .val (.long y_), .second] [(.ref a)])) rfl (by rw [hml]; rfl) (Steps.refl _) (argsL := []) (rest := []) (lenOf pd_4 rfl) rfl (by show 2 * 0 + _ ≤ _; exact Nat.le_of_eq rfl) (hb hby d9_1) (fun _ _ => ⟨rfl, e0, (by decide : 0 + 0 ≤ _), (by decide : 0 + 0 ≤ _)⟩)
  dsimp only [Pt.U, Pt.locs, Pt.cells, Pt.slots] at X1 l1 y1 z1 st1 hQ1
  subst l1 y1 z1
  obtain ⟨rfl, N1q, e1⟩ := hQ1
  have N1 := Fr.app N0 N1q
  refine own_viaT st1 ?_
  show own_Go p e below s _ _ _ (T1.setTop (mkF m 4 #[.val (.ref a), .val (.long x_), .second, .val (.long y_), .second] [(.int (0 : Int32))]))
  refine own_via (fun _ k => XS.tswIn X1.here hx rfl (o := 50) (pc0 := 4) (pc' := 54) rfl (hb hby d9_4) rfl (by decide) (by decide) (by decide) (by decide) k) ?_
  show own_Go p e below s _ _ _ (T1.setTop (mkF m 54 #[.val (.ref a), .val (.long x_), .second, .val (.long y_), .second] []))
  refine own_via (fun _ k => XS.lloadN X1.here hx rfl (hb hby d9_54) rfl k) ?_
  show own_Go p e below s _ _ _ (T1.setTop (mkF m 55 #[.val (.ref a), .val (.long x_), .second, .val (.long y_), .second] [(.long x_)]))
  refine own_via (fun _ k => XS.lloadN X1.here hx rfl (hb hby d9_55) rfl k) ?_
  show own_Go p e below s _ _ _ (T1.setTop (mkF m 56 #[.val (.ref a), .val (.long x_), .second, .val (.long y_), .second] [(.long y_), (.long x_)]))
  refine own_via (fun _ k => XS.lcmp X1.here hx rfl (hb hby d9_56) rfl k) ?_
  show own_Go p e below s _ _ _ (T1.setTop (mkF m 57 #[.val (.ref a), .val (.long x_), .second, .val (.long y_), .second] [(.int (lcmpW x_ y_))]))
  by_cases hc3 : x_ = y_
  · refine own_via (fun _ k => XS.ifNo X1.here hx rfl (hb hby d9_57) rfl (Jvm.Free.XT.ll_ne_f hc3) k) ?_
    show own_Go p e below s _ _ _ (T1.setTop (mkF m 60 #[.val (.ref a), .val (.long x_), .second, .val (.long y_), .second] []))
    refine own_via (fun _ k => XS.iconst X1.here hx rfl (hb hby d9_60) k) ?_
    show own_Go p e below s _ _ _ (T1.setTop (mkF m 61 #[.val (.ref a), .val (.long x_), .second, .val (.long y_), .second] [(.int (1 : Int32))]))
    refine own_via (fun _ k => XS.goto X1.here hx rfl (pc0 := 61) (pc' := 135) rfl (hb hby d9_61) (by decide) (by decide) k) ?_
    show own_Go p e below s _ _ _ (T1.setTop (mkF m 135 #[.val (.ref a), .val (.long x_), .second, .val (.long y_), .second] [(.int (1 : Int32))]))
    exact own_goN X1 hx (t := .boolean) Bd.returns (by simp) (hb hby d9_135) Bd.notSynchronized (by decide) (by decide) (by rw [e1]; exact ⟨by rw [own_ho0, if_pos hc3] <;> rfl, N1, rfl⟩)
  · refine own_via (fun _ k => XS.ifYes X1.here hx rfl (pc0 := 57) (pc' := 64) rfl (hb hby d9_57) rfl (Jvm.Free.XT.ll_ne_t hc3) (by decide) (by decide) k) ?_
    show own_Go p e below s _ _ _ (T1.setTop (mkF m 64 #[.val (.ref a), .val (.long x_), .second, .val (.long y_), .second] []))
    refine own_via (fun _ k => XS.iconst X1.here hx rfl (hb hby d9_64) k) ?_
    show own_Go p e below s _ _ _ (T1.setTop (mkF m 65 #[.val (.ref a), .val (.long x_), .second, .val (.long y_), .second] [(.int (0 : Int32))]))
    refine own_via (fun _ k => XS.goto X1.here hx rfl (pc0 := 65) (pc' := 135) rfl (hb hby d9_65) (by decide) (by decide) k) ?_
    show own_Go p e below s _ _ _ (T1.setTop (mkF m 135 #[.val (.ref a), .val (.long x_), .second, .val (.long y_), .second] [(.int (0 : Int32))]))
    exact own_goN X1 hx (t := .boolean) Bd.returns (by simp) (hb hby d9_135) Bd.notSynchronized (by decide) (by decide) (by rw [e1]; exact ⟨by rw [own_ho0, if_neg hc3] <;> rfl, N1, rfl⟩)
theorem d9_68 : decode prog_14_method_6_code 68 = .ok (.lload_n 1, 1) := by decide +kernel
theorem d9_69 : decode prog_14_method_6_code 69 = .ok (.lload_n 3, 1) := by decide +kernel
theorem d9_70 : decode prog_14_method_6_code 70 = .ok (.lcmp, 1) := by decide +kernel
theorem d9_71 : decode prog_14_method_6_code 71 = .ok (.ifCond .eq 7, 3) := by decide +kernel
theorem d9_78 : decode prog_14_method_6_code 78 = .ok (.iconst 0, 1) := by decide +kernel
theorem d9_79 : decode prog_14_method_6_code 79 = .ok (.goto 56, 3) := by decide +kernel
theorem d9_74 : decode prog_14_method_6_code 74 = .ok (.iconst 1, 1) := by decide +kernel
theorem d9_75 : decode prog_14_method_6_code 75 = .ok (.goto 60, 3) := by decide +kernel
def own_ho1 (x_ : Int64) (y_ : Int64) : Int32 := (if x_ = y_ then (0 : Int32) else (1 : Int32))
theorem ef_ho1 (m : MethodId) (x0 : Addr) (x1 : Int64) (x2 : Int64) : entryFrame m #[(.ref x0), (.long x1), (.long x2)] 5 = mkF m 0 #[.val (.ref x0), .val (.long x1), .second, .val (.long x2), .second] [] := by first | (simp [entryFrame, mkF, argsToLocals, Value.category]; done) | rfl
def Qho1 (Z : State) (a : Addr) (x_ : Int64) (y_ : Int64) (h0 : Heap) (n0 : Nat) (v : Option Value) (h : Heap) (L : List Loc) : Prop := v = some (.int (own_ho1 x_ y_)) ∧ Fr n0 L ∧ h = h0
set_option maxRecDepth 65536 in
set_option maxHeartbeats 40000000 in
theorem rmho1 (l : Launch) (Z : State) (a0 : Array Value) (hw : ∀ d ∈ tables_1, d.before a0 Z = true) (ws : List Jvm.Cond) (a : Addr) (x_ : Int64) (y_ : Int64) (h0 : Heap) (n0 : Nat) (Z0 : n0 ≤ h0.size) (O0 : Old Z n0 h0) (F_ordinal_a : Fld Z Z.heap a "java/lang/Enum" "ordinal" "I" (.int (1 : Int32))) (E_a : Exa Z Z.heap a "com/example/trajectory/trajectory/model/Condition$Operator") :
    MetFree l (⟨"com/example/trajectory/trajectory/model/Condition$Operator", "holds", "(JJ)Z"⟩ : MethodName) (head1 (Jvm.Cond.code (⟨"com/example/trajectory/trajectory/model/Condition$Operator", "holds", "(JJ)Z"⟩ : MethodName) prog_14_method_6_code 5 (some .boolean) :: ws) ({ frames := 1, cells := 0, slots := 0, locals := 12 } : Room)) (fun q_ U => q_ = #[(.ref a), (.long x_), (.long y_)] ∧ Z.Warmed39 U.vm ∧ U.heap = h0) (fun _ _ _ _ _ => True) (fun _ U o U' => ∃ v L, o = .returned v ∧ Qho1 Z a x_ y_ h0 n0 v U'.heap L ∧ FrameEnd U o U' L ({ frames := 1, cells := 0, slots := 0, locals := 12 } : Room).cells ({ frames := 1, cells := 0, slots := 0, locals := 12 } : Room).slots) := by
  refine MetFree.of_bodySF (plainFor_of_name pn_1) hisR ?_
  intro p e s m args below meth c s₁ Bd hml0 hP hK
  obtain ⟨rfl, hZ, hh⟩ := hP
  have hx := Bd.exec
  have hby := Bd.bytes
  have hml : c.maxLocals = 5 := hml0
  have hown : s.vm.findClass "com/example/trajectory/trajectory/model/Condition$Operator" = some m.cls := findClass_of_methodNamed Bd.named
  have hnm := (name_of_methodNamed Bd.named Bd.method).1
  have X0 : Stand p l e ({ frames := 1, cells := 0, slots := 0, locals := 12 } : Room) s m #[(.ref a), (.long x_), (.long y_)] below meth c s₁ [] 0 0 := Stand.of_body Bd
  have e0 : s₁.heap = h0 := by rw [← hh, Bd.state]; rfl
  have N0 := Fr.nil n0
  show own_Go p e below s (Qho1 Z a x_ y_ h0 n0) ({ frames := 1, cells := 0, slots := 0, locals := 12 } : Room).cells ({ frames := 1, cells := 0, slots := 0, locals := 12 } : Room).slots (s₁.setTop (entryFrame m #[(.ref a), (.long x_), (.long y_)] 5))
  refine own_via (fun t k => castTop (ef_ho1 m a x_ y_) k) ?_
  show own_Go p e below s _ _ _ (s₁.setTop (mkF m 0 #[.val (.ref a), .val (.long x_), .second, .val (.long y_), .second] []))
  refine own_via (fun _ k => XS.aloadN X0.here hx rfl (hb hby d9_0) rfl rfl k) ?_
  show own_Go p e below s _ _ _ (s₁.setTop (mkF m 1 #[.val (.ref a), .val (.long x_), .second, .val (.long y_), .second] [(.ref a)]))
  have F2 := E_a.ext O0.2
  obtain ⟨cq1, kq1, qa1, qb1, qc1⟩ := isOf hZ e0 F2
  obtain ⟨_, _, ⟨T1, L1, k1, n1⟩, -, X1, ⟨Lc1, hQ1, l1, y1, z1⟩, st1⟩ := X0.virtualBackUp hx (x := (⟨"com/example/trajectory/trajectory/model/Condition$Operator", "ordinal", "()I"⟩ : MethodName)) (y := (⟨"java/lang/Enum", "ordinal", "()I"⟩ : MethodName)) (owner := "java/lang/Enum") hown (mvT hZ (hw _ (List.mem_of_getElem? (i := 54) rfl))) (mvT hZ (hw _ (List.mem_of_getElem? (i := 55) rfl))) (mvT hZ (hw _ (List.mem_of_getElem? (i := 56) rfl))) (by decide) (mvT hZ (hw _ (List.mem_of_getElem? (i := 58) rfl))) (mvT hZ (hw _ (List.mem_of_getElem? (i := 57) rfl))) (backOf (W := 0) (rm10 l Z a0 hw [] a (1 : Int32) h0 n0 Z0 O0 F_ordinal_a) hZ (hw _ (List.mem_of_getElem? (i := 60) rfl)) (hw _ (List.mem_of_getElem? (i := 59) rfl)) (by decide) (by decide)) qa1 qc1 (g := (mkF m 1 #[.val (.ref a), .val (.long x_), .second, .val (.long y_), .second] [(.ref a)])) rfl (by rw [hml]; rfl) (Steps.refl _) (argsL := []) (rest := []) (lenOf pd_4 rfl) rfl (by show 2 * 0 + _ ≤ _; exact Nat.le_of_eq rfl) (hb hby d9_1) (fun _ _ => ⟨rfl, e0, (by decide : 0 + 0 ≤ _), (by decide : 0 + 0 ≤ _)⟩)
  dsimp only [Pt.U, Pt.locs, Pt.cells, Pt.slots] at X1 l1 y1 z1 st1 hQ1
  subst l1 y1 z1
  obtain ⟨rfl, N1q, e1⟩ := hQ1
  have N1 := Fr.app N0 N1q
  refine own_viaT st1 ?_
  show own_Go p e below s _ _ _ (T1.setTop (mkF m 4 #[.val (.ref a), .val (.long x_), .second, .val (.long y_), .second] [(.int (1 : Int32))]))
  refine own_via (fun _ k => XS.tswIn X1.here hx rfl (o := 64) (pc0 := 4) (pc' := 68) rfl (hb hby d9_4) rfl (by decide) (by decide) (by decide) (by decide) k) ?_
  show own_Go p e below s _ _ _ (T1.setTop (mkF m 68 #[.val (.ref a), .val (.long x_), .second, .val (.long y_), .second] []))
  refine own_via (fun _ k => XS.lloadN X1.here hx rfl (hb hby d9_68) rfl k) ?_
  show own_Go p e below s _ _ _ (T1.setTop (mkF m 69 #[.val (.ref a), .val (.long x_), .second, .val (.long y_), .second] [(.long x_)]))
  refine own_via (fun _ k => XS.lloadN X1.here hx rfl (hb hby d9_69) rfl k) ?_
  show own_Go p e below s _ _ _ (T1.setTop (mkF m 70 #[.val (.ref a), .val (.long x_), .second, .val (.long y_), .second] [(.long y_), (.long x_)]))
  refine own_via (fun _ k => XS.lcmp X1.here hx rfl (hb hby d9_70) rfl k) ?_
  show own_Go p e below s _ _ _ (T1.setTop (mkF m 71 #[.val (.ref a), .val (.long x_), .second, .val (.long y_), .second] [(.int (lcmpW x_ y_))]))
  by_cases hc3 : x_ = y_
  · refine own_via (fun _ k => XS.ifYes X1.here hx rfl (pc0 := 71) (pc' := 78) rfl (hb hby d9_71) rfl (Jvm.Free.XT.ll_eq_t hc3) (by decide) (by decide) k) ?_
    show own_Go p e below s _ _ _ (T1.setTop (mkF m 78 #[.val (.ref a), .val (.long x_), .second, .val (.long y_), .second] []))
    refine own_via (fun _ k => XS.iconst X1.here hx rfl (hb hby d9_78) k) ?_
    show own_Go p e below s _ _ _ (T1.setTop (mkF m 79 #[.val (.ref a), .val (.long x_), .second, .val (.long y_), .second] [(.int (0 : Int32))]))
    refine own_via (fun _ k => XS.goto X1.here hx rfl (pc0 := 79) (pc' := 135) rfl (hb hby d9_79) (by decide) (by decide) k) ?_
    show own_Go p e below s _ _ _ (T1.setTop (mkF m 135 #[.val (.ref a), .val (.long x_), .second, .val (.long y_), .second] [(.int (0 : Int32))]))
    exact own_goN X1 hx (t := .boolean) Bd.returns (by simp) (hb hby d9_135) Bd.notSynchronized (by decide) (by decide) (by rw [e1]; exact ⟨by rw [own_ho1, if_pos hc3] <;> rfl, N1, rfl⟩)
  · refine own_via (fun _ k => XS.ifNo X1.here hx rfl (hb hby d9_71) rfl (Jvm.Free.XT.ll_eq_f hc3) k) ?_
    show own_Go p e below s _ _ _ (T1.setTop (mkF m 74 #[.val (.ref a), .val (.long x_), .second, .val (.long y_), .second] []))
    refine own_via (fun _ k => XS.iconst X1.here hx rfl (hb hby d9_74) k) ?_
    show own_Go p e below s _ _ _ (T1.setTop (mkF m 75 #[.val (.ref a), .val (.long x_), .second, .val (.long y_), .second] [(.int (1 : Int32))]))
    refine own_via (fun _ k => XS.goto X1.here hx rfl (pc0 := 75) (pc' := 135) rfl (hb hby d9_75) (by decide) (by decide) k) ?_
    show own_Go p e below s _ _ _ (T1.setTop (mkF m 135 #[.val (.ref a), .val (.long x_), .second, .val (.long y_), .second] [(.int (1 : Int32))]))
    exact own_goN X1 hx (t := .boolean) Bd.returns (by simp) (hb hby d9_135) Bd.notSynchronized (by decide) (by decide) (by rw [e1]; exact ⟨by rw [own_ho1, if_neg hc3] <;> rfl, N1, rfl⟩)
theorem d9_82 : decode prog_14_method_6_code 82 = .ok (.lload_n 1, 1) := by decide +kernel
theorem d9_83 : decode prog_14_method_6_code 83 = .ok (.lload_n 3, 1) := by decide +kernel
theorem d9_84 : decode prog_14_method_6_code 84 = .ok (.lcmp, 1) := by decide +kernel
theorem d9_85 : decode prog_14_method_6_code 85 = .ok (.ifCond .ge 7, 3) := by decide +kernel
theorem d9_88 : decode prog_14_method_6_code 88 = .ok (.iconst 1, 1) := by decide +kernel
theorem d9_89 : decode prog_14_method_6_code 89 = .ok (.goto 46, 3) := by decide +kernel
theorem d9_92 : decode prog_14_method_6_code 92 = .ok (.iconst 0, 1) := by decide +kernel
theorem d9_93 : decode prog_14_method_6_code 93 = .ok (.goto 42, 3) := by decide +kernel
def own_ho2 (x_ : Int64) (y_ : Int64) : Int32 := (if x_ < y_ then (1 : Int32) else (0 : Int32))
theorem ef_ho2 (m : MethodId) (x0 : Addr) (x1 : Int64) (x2 : Int64) : entryFrame m #[(.ref x0), (.long x1), (.long x2)] 5 = mkF m 0 #[.val (.ref x0), .val (.long x1), .second, .val (.long x2), .second] [] := by first | (simp [entryFrame, mkF, argsToLocals, Value.category]; done) | rfl
def Qho2 (Z : State) (a : Addr) (x_ : Int64) (y_ : Int64) (h0 : Heap) (n0 : Nat) (v : Option Value) (h : Heap) (L : List Loc) : Prop := v = some (.int (own_ho2 x_ y_)) ∧ Fr n0 L ∧ h = h0
set_option maxRecDepth 65536 in
set_option maxHeartbeats 40000000 in
theorem rmho2 (l : Launch) (Z : State) (a0 : Array Value) (hw : ∀ d ∈ tables_1, d.before a0 Z = true) (ws : List Jvm.Cond) (a : Addr) (x_ : Int64) (y_ : Int64) (h0 : Heap) (n0 : Nat) (Z0 : n0 ≤ h0.size) (O0 : Old Z n0 h0) (F_ordinal_a : Fld Z Z.heap a "java/lang/Enum" "ordinal" "I" (.int (2 : Int32))) (E_a : Exa Z Z.heap a "com/example/trajectory/trajectory/model/Condition$Operator") :
    MetFree l (⟨"com/example/trajectory/trajectory/model/Condition$Operator", "holds", "(JJ)Z"⟩ : MethodName) (head1 (Jvm.Cond.code (⟨"com/example/trajectory/trajectory/model/Condition$Operator", "holds", "(JJ)Z"⟩ : MethodName) prog_14_method_6_code 5 (some .boolean) :: ws) ({ frames := 1, cells := 0, slots := 0, locals := 12 } : Room)) (fun q_ U => q_ = #[(.ref a), (.long x_), (.long y_)] ∧ Z.Warmed39 U.vm ∧ U.heap = h0) (fun _ _ _ _ _ => True) (fun _ U o U' => ∃ v L, o = .returned v ∧ Qho2 Z a x_ y_ h0 n0 v U'.heap L ∧ FrameEnd U o U' L ({ frames := 1, cells := 0, slots := 0, locals := 12 } : Room).cells ({ frames := 1, cells := 0, slots := 0, locals := 12 } : Room).slots) := by
  refine MetFree.of_bodySF (plainFor_of_name pn_1) hisR ?_
  intro p e s m args below meth c s₁ Bd hml0 hP hK
  obtain ⟨rfl, hZ, hh⟩ := hP
  have hx := Bd.exec
  have hby := Bd.bytes
  have hml : c.maxLocals = 5 := hml0
  have hown : s.vm.findClass "com/example/trajectory/trajectory/model/Condition$Operator" = some m.cls := findClass_of_methodNamed Bd.named
  have hnm := (name_of_methodNamed Bd.named Bd.method).1
  have X0 : Stand p l e ({ frames := 1, cells := 0, slots := 0, locals := 12 } : Room) s m #[(.ref a), (.long x_), (.long y_)] below meth c s₁ [] 0 0 := Stand.of_body Bd
  have e0 : s₁.heap = h0 := by rw [← hh, Bd.state]; rfl
  have N0 := Fr.nil n0
  show own_Go p e below s (Qho2 Z a x_ y_ h0 n0) ({ frames := 1, cells := 0, slots := 0, locals := 12 } : Room).cells ({ frames := 1, cells := 0, slots := 0, locals := 12 } : Room).slots (s₁.setTop (entryFrame m #[(.ref a), (.long x_), (.long y_)] 5))
  refine own_via (fun t k => castTop (ef_ho2 m a x_ y_) k) ?_
  show own_Go p e below s _ _ _ (s₁.setTop (mkF m 0 #[.val (.ref a), .val (.long x_), .second, .val (.long y_), .second] []))
  refine own_via (fun _ k => XS.aloadN X0.here hx rfl (hb hby d9_0) rfl rfl k) ?_
  show own_Go p e below s _ _ _ (s₁.setTop (mkF m 1 #[.val (.ref a), .val (.long x_), .second, .val (.long y_), .second] [(.ref a)]))
  have F2 := E_a.ext O0.2
  obtain ⟨cq1, kq1, qa1, qb1, qc1⟩ := isOf hZ e0 F2
  obtain ⟨_, _, ⟨T1, L1, k1, n1⟩, -, X1, ⟨Lc1, hQ1, l1, y1, z1⟩, st1⟩ := X0.virtualBackUp hx (x := (⟨"com/example/trajectory/trajectory/model/Condition$Operator", "ordinal", "()I"⟩ : MethodName)) (y := (⟨"java/lang/Enum", "ordinal", "()I"⟩ : MethodName)) (owner := "java/lang/Enum") hown (mvT hZ (hw _ (List.mem_of_getElem? (i := 54) rfl))) (mvT hZ (hw _ (List.mem_of_getElem? (i := 55) rfl))) (mvT hZ (hw _ (List.mem_of_getElem? (i := 56) rfl))) (by decide) (mvT hZ (hw _ (List.mem_of_getElem? (i := 58) rfl))) (mvT hZ (hw _ (List.mem_of_getElem? (i := 57) rfl))) (backOf (W := 0) (rm10 l Z a0 hw [] a (2 : Int32) h0 n0 Z0 O0 F_ordinal_a) hZ (hw _ (List.mem_of_getElem? (i := 60) rfl)) (hw _ (List.mem_of_getElem? (i := 59) rfl)) (by decide) (by decide)) qa1 qc1 (g := (mkF m 1 #[.val (.ref a), .val (.long x_), .second, .val (.long y_), .second] [(.ref a)])) rfl (by rw [hml]; rfl) (Steps.refl _) (argsL := []) (rest := []) (lenOf pd_4 rfl) rfl (by show 2 * 0 + _ ≤ _; exact Nat.le_of_eq rfl) (hb hby d9_1) (fun _ _ => ⟨rfl, e0, (by decide : 0 + 0 ≤ _), (by decide : 0 + 0 ≤ _)⟩)
  dsimp only [Pt.U, Pt.locs, Pt.cells, Pt.slots] at X1 l1 y1 z1 st1 hQ1
  subst l1 y1 z1
  obtain ⟨rfl, N1q, e1⟩ := hQ1
  have N1 := Fr.app N0 N1q
  refine own_viaT st1 ?_
  show own_Go p e below s _ _ _ (T1.setTop (mkF m 4 #[.val (.ref a), .val (.long x_), .second, .val (.long y_), .second] [(.int (2 : Int32))]))
  refine own_via (fun _ k => XS.tswIn X1.here hx rfl (o := 78) (pc0 := 4) (pc' := 82) rfl (hb hby d9_4) rfl (by decide) (by decide) (by decide) (by decide) k) ?_
  show own_Go p e below s _ _ _ (T1.setTop (mkF m 82 #[.val (.ref a), .val (.long x_), .second, .val (.long y_), .second] []))
  refine own_via (fun _ k => XS.lloadN X1.here hx rfl (hb hby d9_82) rfl k) ?_
  show own_Go p e below s _ _ _ (T1.setTop (mkF m 83 #[.val (.ref a), .val (.long x_), .second, .val (.long y_), .second] [(.long x_)]))
  refine own_via (fun _ k => XS.lloadN X1.here hx rfl (hb hby d9_83) rfl k) ?_
  show own_Go p e below s _ _ _ (T1.setTop (mkF m 84 #[.val (.ref a), .val (.long x_), .second, .val (.long y_), .second] [(.long y_), (.long x_)]))
  refine own_via (fun _ k => XS.lcmp X1.here hx rfl (hb hby d9_84) rfl k) ?_
  show own_Go p e below s _ _ _ (T1.setTop (mkF m 85 #[.val (.ref a), .val (.long x_), .second, .val (.long y_), .second] [(.int (lcmpW x_ y_))]))
  by_cases hc3 : x_ < y_
  · refine own_via (fun _ k => XS.ifNo X1.here hx rfl (hb hby d9_85) rfl (Jvm.Free.XT.ll_ge_f hc3) k) ?_
    show own_Go p e below s _ _ _ (T1.setTop (mkF m 88 #[.val (.ref a), .val (.long x_), .second, .val (.long y_), .second] []))
    refine own_via (fun _ k => XS.iconst X1.here hx rfl (hb hby d9_88) k) ?_
    show own_Go p e below s _ _ _ (T1.setTop (mkF m 89 #[.val (.ref a), .val (.long x_), .second, .val (.long y_), .second] [(.int (1 : Int32))]))
    refine own_via (fun _ k => XS.goto X1.here hx rfl (pc0 := 89) (pc' := 135) rfl (hb hby d9_89) (by decide) (by decide) k) ?_
    show own_Go p e below s _ _ _ (T1.setTop (mkF m 135 #[.val (.ref a), .val (.long x_), .second, .val (.long y_), .second] [(.int (1 : Int32))]))
    exact own_goN X1 hx (t := .boolean) Bd.returns (by simp) (hb hby d9_135) Bd.notSynchronized (by decide) (by decide) (by rw [e1]; exact ⟨by rw [own_ho2, if_pos hc3] <;> rfl, N1, rfl⟩)
  · refine own_via (fun _ k => XS.ifYes X1.here hx rfl (pc0 := 85) (pc' := 92) rfl (hb hby d9_85) rfl (Jvm.Free.XT.ll_ge_t hc3) (by decide) (by decide) k) ?_
    show own_Go p e below s _ _ _ (T1.setTop (mkF m 92 #[.val (.ref a), .val (.long x_), .second, .val (.long y_), .second] []))
    refine own_via (fun _ k => XS.iconst X1.here hx rfl (hb hby d9_92) k) ?_
    show own_Go p e below s _ _ _ (T1.setTop (mkF m 93 #[.val (.ref a), .val (.long x_), .second, .val (.long y_), .second] [(.int (0 : Int32))]))
    refine own_via (fun _ k => XS.goto X1.here hx rfl (pc0 := 93) (pc' := 135) rfl (hb hby d9_93) (by decide) (by decide) k) ?_
    show own_Go p e below s _ _ _ (T1.setTop (mkF m 135 #[.val (.ref a), .val (.long x_), .second, .val (.long y_), .second] [(.int (0 : Int32))]))
    exact own_goN X1 hx (t := .boolean) Bd.returns (by simp) (hb hby d9_135) Bd.notSynchronized (by decide) (by decide) (by rw [e1]; exact ⟨by rw [own_ho2, if_neg hc3] <;> rfl, N1, rfl⟩)
theorem d9_96 : decode prog_14_method_6_code 96 = .ok (.lload_n 1, 1) := by decide +kernel
theorem d9_97 : decode prog_14_method_6_code 97 = .ok (.lload_n 3, 1) := by decide +kernel
theorem d9_98 : decode prog_14_method_6_code 98 = .ok (.lcmp, 1) := by decide +kernel
theorem d9_99 : decode prog_14_method_6_code 99 = .ok (.ifCond .gt 7, 3) := by decide +kernel
theorem d9_106 : decode prog_14_method_6_code 106 = .ok (.iconst 0, 1) := by decide +kernel
theorem d9_107 : decode prog_14_method_6_code 107 = .ok (.goto 28, 3) := by decide +kernel
theorem d9_102 : decode prog_14_method_6_code 102 = .ok (.iconst 1, 1) := by decide +kernel
theorem d9_103 : decode prog_14_method_6_code 103 = .ok (.goto 32, 3) := by decide +kernel
def own_ho3 (x_ : Int64) (y_ : Int64) : Int32 := (if y_ < x_ then (0 : Int32) else (1 : Int32))
theorem ef_ho3 (m : MethodId) (x0 : Addr) (x1 : Int64) (x2 : Int64) : entryFrame m #[(.ref x0), (.long x1), (.long x2)] 5 = mkF m 0 #[.val (.ref x0), .val (.long x1), .second, .val (.long x2), .second] [] := by first | (simp [entryFrame, mkF, argsToLocals, Value.category]; done) | rfl
def Qho3 (Z : State) (a : Addr) (x_ : Int64) (y_ : Int64) (h0 : Heap) (n0 : Nat) (v : Option Value) (h : Heap) (L : List Loc) : Prop := v = some (.int (own_ho3 x_ y_)) ∧ Fr n0 L ∧ h = h0
set_option maxRecDepth 65536 in
set_option maxHeartbeats 40000000 in
theorem rmho3 (l : Launch) (Z : State) (a0 : Array Value) (hw : ∀ d ∈ tables_1, d.before a0 Z = true) (ws : List Jvm.Cond) (a : Addr) (x_ : Int64) (y_ : Int64) (h0 : Heap) (n0 : Nat) (Z0 : n0 ≤ h0.size) (O0 : Old Z n0 h0) (F_ordinal_a : Fld Z Z.heap a "java/lang/Enum" "ordinal" "I" (.int (3 : Int32))) (E_a : Exa Z Z.heap a "com/example/trajectory/trajectory/model/Condition$Operator") :
    MetFree l (⟨"com/example/trajectory/trajectory/model/Condition$Operator", "holds", "(JJ)Z"⟩ : MethodName) (head1 (Jvm.Cond.code (⟨"com/example/trajectory/trajectory/model/Condition$Operator", "holds", "(JJ)Z"⟩ : MethodName) prog_14_method_6_code 5 (some .boolean) :: ws) ({ frames := 1, cells := 0, slots := 0, locals := 12 } : Room)) (fun q_ U => q_ = #[(.ref a), (.long x_), (.long y_)] ∧ Z.Warmed39 U.vm ∧ U.heap = h0) (fun _ _ _ _ _ => True) (fun _ U o U' => ∃ v L, o = .returned v ∧ Qho3 Z a x_ y_ h0 n0 v U'.heap L ∧ FrameEnd U o U' L ({ frames := 1, cells := 0, slots := 0, locals := 12 } : Room).cells ({ frames := 1, cells := 0, slots := 0, locals := 12 } : Room).slots) := by
  refine MetFree.of_bodySF (plainFor_of_name pn_1) hisR ?_
  intro p e s m args below meth c s₁ Bd hml0 hP hK
  obtain ⟨rfl, hZ, hh⟩ := hP
  have hx := Bd.exec
  have hby := Bd.bytes
  have hml : c.maxLocals = 5 := hml0
  have hown : s.vm.findClass "com/example/trajectory/trajectory/model/Condition$Operator" = some m.cls := findClass_of_methodNamed Bd.named
  have hnm := (name_of_methodNamed Bd.named Bd.method).1
  have X0 : Stand p l e ({ frames := 1, cells := 0, slots := 0, locals := 12 } : Room) s m #[(.ref a), (.long x_), (.long y_)] below meth c s₁ [] 0 0 := Stand.of_body Bd
  have e0 : s₁.heap = h0 := by rw [← hh, Bd.state]; rfl
  have N0 := Fr.nil n0
  show own_Go p e below s (Qho3 Z a x_ y_ h0 n0) ({ frames := 1, cells := 0, slots := 0, locals := 12 } : Room).cells ({ frames := 1, cells := 0, slots := 0, locals := 12 } : Room).slots (s₁.setTop (entryFrame m #[(.ref a), (.long x_), (.long y_)] 5))
  refine own_via (fun t k => castTop (ef_ho3 m a x_ y_) k) ?_
  show own_Go p e below s _ _ _ (s₁.setTop (mkF m 0 #[.val (.ref a), .val (.long x_), .second, .val (.long y_), .second] []))
  refine own_via (fun _ k => XS.aloadN X0.here hx rfl (hb hby d9_0) rfl rfl k) ?_
  show own_Go p e below s _ _ _ (s₁.setTop (mkF m 1 #[.val (.ref a), .val (.long x_), .second, .val (.long y_), .second] [(.ref a)]))
  have F2 := E_a.ext O0.2
  obtain ⟨cq1, kq1, qa1, qb1, qc1⟩ := isOf hZ e0 F2
  obtain ⟨_, _, ⟨T1, L1, k1, n1⟩, -, X1, ⟨Lc1, hQ1, l1, y1, z1⟩, st1⟩ := X0.virtualBackUp hx (x := (⟨"com/example/trajectory/trajectory/model/Condition$Operator", "ordinal", "()I"⟩ : MethodName)) (y := (⟨"java/lang/Enum", "ordinal", "()I"⟩ : MethodName)) (owner := "java/lang/Enum") hown (mvT hZ (hw _ (List.mem_of_getElem? (i := 54) rfl))) (mvT hZ (hw _ (List.mem_of_getElem? (i := 55) rfl))) (mvT hZ (hw _ (List.mem_of_getElem? (i := 56) rfl))) (by decide) (mvT hZ (hw _ (List.mem_of_getElem? (i := 58) rfl))) (mvT hZ (hw _ (List.mem_of_getElem? (i := 57) rfl))) (backOf (W := 0) (rm10 l Z a0 hw [] a (3 : Int32) h0 n0 Z0 O0 F_ordinal_a) hZ (hw _ (List.mem_of_getElem? (i := 60) rfl)) (hw _ (List.mem_of_getElem? (i := 59) rfl)) (by decide) (by decide)) qa1 qc1 (g := (mkF m 1 #[.val (.ref a), .val (.long x_), .second, .val (.long y_), .second] [(.ref a)])) rfl (by rw [hml]; rfl) (Steps.refl _) (argsL := []) (rest := []) (lenOf pd_4 rfl) rfl (by show 2 * 0 + _ ≤ _; exact Nat.le_of_eq rfl) (hb hby d9_1) (fun _ _ => ⟨rfl, e0, (by decide : 0 + 0 ≤ _), (by decide : 0 + 0 ≤ _)⟩)
  dsimp only [Pt.U, Pt.locs, Pt.cells, Pt.slots] at X1 l1 y1 z1 st1 hQ1
  subst l1 y1 z1
  obtain ⟨rfl, N1q, e1⟩ := hQ1
  have N1 := Fr.app N0 N1q
  refine own_viaT st1 ?_
  show own_Go p e below s _ _ _ (T1.setTop (mkF m 4 #[.val (.ref a), .val (.long x_), .second, .val (.long y_), .second] [(.int (3 : Int32))]))
  refine own_via (fun _ k => XS.tswIn X1.here hx rfl (o := 92) (pc0 := 4) (pc' := 96) rfl (hb hby d9_4) rfl (by decide) (by decide) (by decide) (by decide) k) ?_
  show own_Go p e below s _ _ _ (T1.setTop (mkF m 96 #[.val (.ref a), .val (.long x_), .second, .val (.long y_), .second] []))
  refine own_via (fun _ k => XS.lloadN X1.here hx rfl (hb hby d9_96) rfl k) ?_
  show own_Go p e below s _ _ _ (T1.setTop (mkF m 97 #[.val (.ref a), .val (.long x_), .second, .val (.long y_), .second] [(.long x_)]))
  refine own_via (fun _ k => XS.lloadN X1.here hx rfl (hb hby d9_97) rfl k) ?_
  show own_Go p e below s _ _ _ (T1.setTop (mkF m 98 #[.val (.ref a), .val (.long x_), .second, .val (.long y_), .second] [(.long y_), (.long x_)]))
  refine own_via (fun _ k => XS.lcmp X1.here hx rfl (hb hby d9_98) rfl k) ?_
  show own_Go p e below s _ _ _ (T1.setTop (mkF m 99 #[.val (.ref a), .val (.long x_), .second, .val (.long y_), .second] [(.int (lcmpW x_ y_))]))
  by_cases hc3 : y_ < x_
  · refine own_via (fun _ k => XS.ifYes X1.here hx rfl (pc0 := 99) (pc' := 106) rfl (hb hby d9_99) rfl (Jvm.Free.XT.ll_gt_t hc3) (by decide) (by decide) k) ?_
    show own_Go p e below s _ _ _ (T1.setTop (mkF m 106 #[.val (.ref a), .val (.long x_), .second, .val (.long y_), .second] []))
    refine own_via (fun _ k => XS.iconst X1.here hx rfl (hb hby d9_106) k) ?_
    show own_Go p e below s _ _ _ (T1.setTop (mkF m 107 #[.val (.ref a), .val (.long x_), .second, .val (.long y_), .second] [(.int (0 : Int32))]))
    refine own_via (fun _ k => XS.goto X1.here hx rfl (pc0 := 107) (pc' := 135) rfl (hb hby d9_107) (by decide) (by decide) k) ?_
    show own_Go p e below s _ _ _ (T1.setTop (mkF m 135 #[.val (.ref a), .val (.long x_), .second, .val (.long y_), .second] [(.int (0 : Int32))]))
    exact own_goN X1 hx (t := .boolean) Bd.returns (by simp) (hb hby d9_135) Bd.notSynchronized (by decide) (by decide) (by rw [e1]; exact ⟨by rw [own_ho3, if_pos hc3] <;> rfl, N1, rfl⟩)
  · refine own_via (fun _ k => XS.ifNo X1.here hx rfl (hb hby d9_99) rfl (Jvm.Free.XT.ll_gt_f hc3) k) ?_
    show own_Go p e below s _ _ _ (T1.setTop (mkF m 102 #[.val (.ref a), .val (.long x_), .second, .val (.long y_), .second] []))
    refine own_via (fun _ k => XS.iconst X1.here hx rfl (hb hby d9_102) k) ?_
    show own_Go p e below s _ _ _ (T1.setTop (mkF m 103 #[.val (.ref a), .val (.long x_), .second, .val (.long y_), .second] [(.int (1 : Int32))]))
    refine own_via (fun _ k => XS.goto X1.here hx rfl (pc0 := 103) (pc' := 135) rfl (hb hby d9_103) (by decide) (by decide) k) ?_
    show own_Go p e below s _ _ _ (T1.setTop (mkF m 135 #[.val (.ref a), .val (.long x_), .second, .val (.long y_), .second] [(.int (1 : Int32))]))
    exact own_goN X1 hx (t := .boolean) Bd.returns (by simp) (hb hby d9_135) Bd.notSynchronized (by decide) (by decide) (by rw [e1]; exact ⟨by rw [own_ho3, if_neg hc3] <;> rfl, N1, rfl⟩)
theorem d9_110 : decode prog_14_method_6_code 110 = .ok (.lload_n 1, 1) := by decide +kernel
theorem d9_111 : decode prog_14_method_6_code 111 = .ok (.lload_n 3, 1) := by decide +kernel
theorem d9_112 : decode prog_14_method_6_code 112 = .ok (.lcmp, 1) := by decide +kernel
theorem d9_113 : decode prog_14_method_6_code 113 = .ok (.ifCond .le 7, 3) := by decide +kernel
theorem d9_116 : decode prog_14_method_6_code 116 = .ok (.iconst 1, 1) := by decide +kernel
theorem d9_117 : decode prog_14_method_6_code 117 = .ok (.goto 18, 3) := by decide +kernel
theorem d9_120 : decode prog_14_method_6_code 120 = .ok (.iconst 0, 1) := by decide +kernel
theorem d9_121 : decode prog_14_method_6_code 121 = .ok (.goto 14, 3) := by decide +kernel
def own_ho4 (x_ : Int64) (y_ : Int64) : Int32 := (if y_ < x_ then (1 : Int32) else (0 : Int32))
theorem ef_ho4 (m : MethodId) (x0 : Addr) (x1 : Int64) (x2 : Int64) : entryFrame m #[(.ref x0), (.long x1), (.long x2)] 5 = mkF m 0 #[.val (.ref x0), .val (.long x1), .second, .val (.long x2), .second] [] := by first | (simp [entryFrame, mkF, argsToLocals, Value.category]; done) | rfl
def Qho4 (Z : State) (a : Addr) (x_ : Int64) (y_ : Int64) (h0 : Heap) (n0 : Nat) (v : Option Value) (h : Heap) (L : List Loc) : Prop := v = some (.int (own_ho4 x_ y_)) ∧ Fr n0 L ∧ h = h0
set_option maxRecDepth 65536 in
set_option maxHeartbeats 40000000 in
theorem rmho4 (l : Launch) (Z : State) (a0 : Array Value) (hw : ∀ d ∈ tables_1, d.before a0 Z = true) (ws : List Jvm.Cond) (a : Addr) (x_ : Int64) (y_ : Int64) (h0 : Heap) (n0 : Nat) (Z0 : n0 ≤ h0.size) (O0 : Old Z n0 h0) (F_ordinal_a : Fld Z Z.heap a "java/lang/Enum" "ordinal" "I" (.int (4 : Int32))) (E_a : Exa Z Z.heap a "com/example/trajectory/trajectory/model/Condition$Operator") :
    MetFree l (⟨"com/example/trajectory/trajectory/model/Condition$Operator", "holds", "(JJ)Z"⟩ : MethodName) (head1 (Jvm.Cond.code (⟨"com/example/trajectory/trajectory/model/Condition$Operator", "holds", "(JJ)Z"⟩ : MethodName) prog_14_method_6_code 5 (some .boolean) :: ws) ({ frames := 1, cells := 0, slots := 0, locals := 12 } : Room)) (fun q_ U => q_ = #[(.ref a), (.long x_), (.long y_)] ∧ Z.Warmed39 U.vm ∧ U.heap = h0) (fun _ _ _ _ _ => True) (fun _ U o U' => ∃ v L, o = .returned v ∧ Qho4 Z a x_ y_ h0 n0 v U'.heap L ∧ FrameEnd U o U' L ({ frames := 1, cells := 0, slots := 0, locals := 12 } : Room).cells ({ frames := 1, cells := 0, slots := 0, locals := 12 } : Room).slots) := by
  refine MetFree.of_bodySF (plainFor_of_name pn_1) hisR ?_
  intro p e s m args below meth c s₁ Bd hml0 hP hK
  obtain ⟨rfl, hZ, hh⟩ := hP
  have hx := Bd.exec
  have hby := Bd.bytes
  have hml : c.maxLocals = 5 := hml0
  have hown : s.vm.findClass "com/example/trajectory/trajectory/model/Condition$Operator" = some m.cls := findClass_of_methodNamed Bd.named
  have hnm := (name_of_methodNamed Bd.named Bd.method).1
  have X0 : Stand p l e ({ frames := 1, cells := 0, slots := 0, locals := 12 } : Room) s m #[(.ref a), (.long x_), (.long y_)] below meth c s₁ [] 0 0 := Stand.of_body Bd
  have e0 : s₁.heap = h0 := by rw [← hh, Bd.state]; rfl
  have N0 := Fr.nil n0
  show own_Go p e below s (Qho4 Z a x_ y_ h0 n0) ({ frames := 1, cells := 0, slots := 0, locals := 12 } : Room).cells ({ frames := 1, cells := 0, slots := 0, locals := 12 } : Room).slots (s₁.setTop (entryFrame m #[(.ref a), (.long x_), (.long y_)] 5))
  refine own_via (fun t k => castTop (ef_ho4 m a x_ y_) k) ?_
  show own_Go p e below s _ _ _ (s₁.setTop (mkF m 0 #[.val (.ref a), .val (.long x_), .second, .val (.long y_), .second] []))
  refine own_via (fun _ k => XS.aloadN X0.here hx rfl (hb hby d9_0) rfl rfl k) ?_
  show own_Go p e below s _ _ _ (s₁.setTop (mkF m 1 #[.val (.ref a), .val (.long x_), .second, .val (.long y_), .second] [(.ref a)]))
  have F2 := E_a.ext O0.2
  obtain ⟨cq1, kq1, qa1, qb1, qc1⟩ := isOf hZ e0 F2
  obtain ⟨_, _, ⟨T1, L1, k1, n1⟩, -, X1, ⟨Lc1, hQ1, l1, y1, z1⟩, st1⟩ := X0.virtualBackUp hx (x := (⟨"com/example/trajectory/trajectory/model/Condition$Operator", "ordinal", "()I"⟩ : MethodName)) (y := (⟨"java/lang/Enum", "ordinal", "()I"⟩ : MethodName)) (owner := "java/lang/Enum") hown (mvT hZ (hw _ (List.mem_of_getElem? (i := 54) rfl))) (mvT hZ (hw _ (List.mem_of_getElem? (i := 55) rfl))) (mvT hZ (hw _ (List.mem_of_getElem? (i := 56) rfl))) (by decide) (mvT hZ (hw _ (List.mem_of_getElem? (i := 58) rfl))) (mvT hZ (hw _ (List.mem_of_getElem? (i := 57) rfl))) (backOf (W := 0) (rm10 l Z a0 hw [] a (4 : Int32) h0 n0 Z0 O0 F_ordinal_a) hZ (hw _ (List.mem_of_getElem? (i := 60) rfl)) (hw _ (List.mem_of_getElem? (i := 59) rfl)) (by decide) (by decide)) qa1 qc1 (g := (mkF m 1 #[.val (.ref a), .val (.long x_), .second, .val (.long y_), .second] [(.ref a)])) rfl (by rw [hml]; rfl) (Steps.refl _) (argsL := []) (rest := []) (lenOf pd_4 rfl) rfl (by show 2 * 0 + _ ≤ _; exact Nat.le_of_eq rfl) (hb hby d9_1) (fun _ _ => ⟨rfl, e0, (by decide : 0 + 0 ≤ _), (by decide : 0 + 0 ≤ _)⟩)
  dsimp only [Pt.U, Pt.locs, Pt.cells, Pt.slots] at X1 l1 y1 z1 st1 hQ1
  subst l1 y1 z1
  obtain ⟨rfl, N1q, e1⟩ := hQ1
  have N1 := Fr.app N0 N1q
  refine own_viaT st1 ?_
  show own_Go p e below s _ _ _ (T1.setTop (mkF m 4 #[.val (.ref a), .val (.long x_), .second, .val (.long y_), .second] [(.int (4 : Int32))]))
  refine own_via (fun _ k => XS.tswIn X1.here hx rfl (o := 106) (pc0 := 4) (pc' := 110) rfl (hb hby d9_4) rfl (by decide) (by decide) (by decide) (by decide) k) ?_
  show own_Go p e below s _ _ _ (T1.setTop (mkF m 110 #[.val (.ref a), .val (.long x_), .second, .val (.long y_), .second] []))
  refine own_via (fun _ k => XS.lloadN X1.here hx rfl (hb hby d9_110) rfl k) ?_
  show own_Go p e below s _ _ _ (T1.setTop (mkF m 111 #[.val (.ref a), .val (.long x_), .second, .val (.long y_), .second] [(.long x_)]))
  refine own_via (fun _ k => XS.lloadN X1.here hx rfl (hb hby d9_111) rfl k) ?_
  show own_Go p e below s _ _ _ (T1.setTop (mkF m 112 #[.val (.ref a), .val (.long x_), .second, .val (.long y_), .second] [(.long y_), (.long x_)]))
  refine own_via (fun _ k => XS.lcmp X1.here hx rfl (hb hby d9_112) rfl k) ?_
  show own_Go p e below s _ _ _ (T1.setTop (mkF m 113 #[.val (.ref a), .val (.long x_), .second, .val (.long y_), .second] [(.int (lcmpW x_ y_))]))
  by_cases hc3 : y_ < x_
  · refine own_via (fun _ k => XS.ifNo X1.here hx rfl (hb hby d9_113) rfl (Jvm.Free.XT.ll_le_f hc3) k) ?_
    show own_Go p e below s _ _ _ (T1.setTop (mkF m 116 #[.val (.ref a), .val (.long x_), .second, .val (.long y_), .second] []))
    refine own_via (fun _ k => XS.iconst X1.here hx rfl (hb hby d9_116) k) ?_
    show own_Go p e below s _ _ _ (T1.setTop (mkF m 117 #[.val (.ref a), .val (.long x_), .second, .val (.long y_), .second] [(.int (1 : Int32))]))
    refine own_via (fun _ k => XS.goto X1.here hx rfl (pc0 := 117) (pc' := 135) rfl (hb hby d9_117) (by decide) (by decide) k) ?_
    show own_Go p e below s _ _ _ (T1.setTop (mkF m 135 #[.val (.ref a), .val (.long x_), .second, .val (.long y_), .second] [(.int (1 : Int32))]))
    exact own_goN X1 hx (t := .boolean) Bd.returns (by simp) (hb hby d9_135) Bd.notSynchronized (by decide) (by decide) (by rw [e1]; exact ⟨by rw [own_ho4, if_pos hc3] <;> rfl, N1, rfl⟩)
  · refine own_via (fun _ k => XS.ifYes X1.here hx rfl (pc0 := 113) (pc' := 120) rfl (hb hby d9_113) rfl (Jvm.Free.XT.ll_le_t hc3) (by decide) (by decide) k) ?_
    show own_Go p e below s _ _ _ (T1.setTop (mkF m 120 #[.val (.ref a), .val (.long x_), .second, .val (.long y_), .second] []))
    refine own_via (fun _ k => XS.iconst X1.here hx rfl (hb hby d9_120) k) ?_
    show own_Go p e below s _ _ _ (T1.setTop (mkF m 121 #[.val (.ref a), .val (.long x_), .second, .val (.long y_), .second] [(.int (0 : Int32))]))
    refine own_via (fun _ k => XS.goto X1.here hx rfl (pc0 := 121) (pc' := 135) rfl (hb hby d9_121) (by decide) (by decide) k) ?_
    show own_Go p e below s _ _ _ (T1.setTop (mkF m 135 #[.val (.ref a), .val (.long x_), .second, .val (.long y_), .second] [(.int (0 : Int32))]))
    exact own_goN X1 hx (t := .boolean) Bd.returns (by simp) (hb hby d9_135) Bd.notSynchronized (by decide) (by decide) (by rw [e1]; exact ⟨by rw [own_ho4, if_neg hc3] <;> rfl, N1, rfl⟩)
theorem d9_124 : decode prog_14_method_6_code 124 = .ok (.lload_n 1, 1) := by decide +kernel
theorem d9_125 : decode prog_14_method_6_code 125 = .ok (.lload_n 3, 1) := by decide +kernel
theorem d9_126 : decode prog_14_method_6_code 126 = .ok (.lcmp, 1) := by decide +kernel
theorem d9_127 : decode prog_14_method_6_code 127 = .ok (.ifCond .lt 7, 3) := by decide +kernel
theorem d9_134 : decode prog_14_method_6_code 134 = .ok (.iconst 0, 1) := by decide +kernel
theorem d9_130 : decode prog_14_method_6_code 130 = .ok (.iconst 1, 1) := by decide +kernel
theorem d9_131 : decode prog_14_method_6_code 131 = .ok (.goto 4, 3) := by decide +kernel
def own_ho5 (x_ : Int64) (y_ : Int64) : Int32 := (if x_ < y_ then (0 : Int32) else (1 : Int32))
theorem ef_ho5 (m : MethodId) (x0 : Addr) (x1 : Int64) (x2 : Int64) : entryFrame m #[(.ref x0), (.long x1), (.long x2)] 5 = mkF m 0 #[.val (.ref x0), .val (.long x1), .second, .val (.long x2), .second] [] := by first | (simp [entryFrame, mkF, argsToLocals, Value.category]; done) | rfl
def Qho5 (Z : State) (a : Addr) (x_ : Int64) (y_ : Int64) (h0 : Heap) (n0 : Nat) (v : Option Value) (h : Heap) (L : List Loc) : Prop := v = some (.int (own_ho5 x_ y_)) ∧ Fr n0 L ∧ h = h0
set_option maxRecDepth 65536 in
set_option maxHeartbeats 40000000 in
theorem rmho5 (l : Launch) (Z : State) (a0 : Array Value) (hw : ∀ d ∈ tables_1, d.before a0 Z = true) (ws : List Jvm.Cond) (a : Addr) (x_ : Int64) (y_ : Int64) (h0 : Heap) (n0 : Nat) (Z0 : n0 ≤ h0.size) (O0 : Old Z n0 h0) (F_ordinal_a : Fld Z Z.heap a "java/lang/Enum" "ordinal" "I" (.int (5 : Int32))) (E_a : Exa Z Z.heap a "com/example/trajectory/trajectory/model/Condition$Operator") :
    MetFree l (⟨"com/example/trajectory/trajectory/model/Condition$Operator", "holds", "(JJ)Z"⟩ : MethodName) (head1 (Jvm.Cond.code (⟨"com/example/trajectory/trajectory/model/Condition$Operator", "holds", "(JJ)Z"⟩ : MethodName) prog_14_method_6_code 5 (some .boolean) :: ws) ({ frames := 1, cells := 0, slots := 0, locals := 12 } : Room)) (fun q_ U => q_ = #[(.ref a), (.long x_), (.long y_)] ∧ Z.Warmed39 U.vm ∧ U.heap = h0) (fun _ _ _ _ _ => True) (fun _ U o U' => ∃ v L, o = .returned v ∧ Qho5 Z a x_ y_ h0 n0 v U'.heap L ∧ FrameEnd U o U' L ({ frames := 1, cells := 0, slots := 0, locals := 12 } : Room).cells ({ frames := 1, cells := 0, slots := 0, locals := 12 } : Room).slots) := by
  refine MetFree.of_bodySF (plainFor_of_name pn_1) hisR ?_
  intro p e s m args below meth c s₁ Bd hml0 hP hK
  obtain ⟨rfl, hZ, hh⟩ := hP
  have hx := Bd.exec
  have hby := Bd.bytes
  have hml : c.maxLocals = 5 := hml0
  have hown : s.vm.findClass "com/example/trajectory/trajectory/model/Condition$Operator" = some m.cls := findClass_of_methodNamed Bd.named
  have hnm := (name_of_methodNamed Bd.named Bd.method).1
  have X0 : Stand p l e ({ frames := 1, cells := 0, slots := 0, locals := 12 } : Room) s m #[(.ref a), (.long x_), (.long y_)] below meth c s₁ [] 0 0 := Stand.of_body Bd
  have e0 : s₁.heap = h0 := by rw [← hh, Bd.state]; rfl
  have N0 := Fr.nil n0
  show own_Go p e below s (Qho5 Z a x_ y_ h0 n0) ({ frames := 1, cells := 0, slots := 0, locals := 12 } : Room).cells ({ frames := 1, cells := 0, slots := 0, locals := 12 } : Room).slots (s₁.setTop (entryFrame m #[(.ref a), (.long x_), (.long y_)] 5))
  refine own_via (fun t k => castTop (ef_ho5 m a x_ y_) k) ?_
  show own_Go p e below s _ _ _ (s₁.setTop (mkF m 0 #[.val (.ref a), .val (.long x_), .second, .val (.long y_), .second] []))
  refine own_via (fun _ k => XS.aloadN X0.here hx rfl (hb hby d9_0) rfl rfl k) ?_
  show own_Go p e below s _ _ _ (s₁.setTop (mkF m 1 #[.val (.ref a), .val (.long x_), .second, .val (.long y_), .second] [(.ref a)]))
  have F2 := E_a.ext O0.2
  obtain ⟨cq1, kq1, qa1, qb1, qc1⟩ := isOf hZ e0 F2
  obtain ⟨_, _, ⟨T1, L1, k1, n1⟩, -, X1, ⟨Lc1, hQ1, l1, y1, z1⟩, st1⟩ := X0.virtualBackUp hx (x := (⟨"com/example/trajectory/trajectory/model/Condition$Operator", "ordinal", "()I"⟩ : MethodName)) (y := (⟨"java/lang/Enum", "ordinal", "()I"⟩ : MethodName)) (owner := "java/lang/Enum") hown (mvT hZ (hw _ (List.mem_of_getElem? (i := 54) rfl))) (mvT hZ (hw _ (List.mem_of_getElem? (i := 55) rfl))) (mvT hZ (hw _ (List.mem_of_getElem? (i := 56) rfl))) (by decide) (mvT hZ (hw _ (List.mem_of_getElem? (i := 58) rfl))) (mvT hZ (hw _ (List.mem_of_getElem? (i := 57) rfl))) (backOf (W := 0) (rm10 l Z a0 hw [] a (5 : Int32) h0 n0 Z0 O0 F_ordinal_a) hZ (hw _ (List.mem_of_getElem? (i := 60) rfl)) (hw _ (List.mem_of_getElem? (i := 59) rfl)) (by decide) (by decide)) qa1 qc1 (g := (mkF m 1 #[.val (.ref a), .val (.long x_), .second, .val (.long y_), .second] [(.ref a)])) rfl (by rw [hml]; rfl) (Steps.refl _) (argsL := []) (rest := []) (lenOf pd_4 rfl) rfl (by show 2 * 0 + _ ≤ _; exact Nat.le_of_eq rfl) (hb hby d9_1) (fun _ _ => ⟨rfl, e0, (by decide : 0 + 0 ≤ _), (by decide : 0 + 0 ≤ _)⟩)
  dsimp only [Pt.U, Pt.locs, Pt.cells, Pt.slots] at X1 l1 y1 z1 st1 hQ1
  subst l1 y1 z1
  obtain ⟨rfl, N1q, e1⟩ := hQ1
  have N1 := Fr.app N0 N1q
  refine own_viaT st1 ?_
  show own_Go p e below s _ _ _ (T1.setTop (mkF m 4 #[.val (.ref a), .val (.long x_), .second, .val (.long y_), .second] [(.int (5 : Int32))]))
  refine own_via (fun _ k => XS.tswIn X1.here hx rfl (o := 120) (pc0 := 4) (pc' := 124) rfl (hb hby d9_4) rfl (by decide) (by decide) (by decide) (by decide) k) ?_
  show own_Go p e below s _ _ _ (T1.setTop (mkF m 124 #[.val (.ref a), .val (.long x_), .second, .val (.long y_), .second] []))
  refine own_via (fun _ k => XS.lloadN X1.here hx rfl (hb hby d9_124) rfl k) ?_
  show own_Go p e below s _ _ _ (T1.setTop (mkF m 125 #[.val (.ref a), .val (.long x_), .second, .val (.long y_), .second] [(.long x_)]))
  refine own_via (fun _ k => XS.lloadN X1.here hx rfl (hb hby d9_125) rfl k) ?_
  show own_Go p e below s _ _ _ (T1.setTop (mkF m 126 #[.val (.ref a), .val (.long x_), .second, .val (.long y_), .second] [(.long y_), (.long x_)]))
  refine own_via (fun _ k => XS.lcmp X1.here hx rfl (hb hby d9_126) rfl k) ?_
  show own_Go p e below s _ _ _ (T1.setTop (mkF m 127 #[.val (.ref a), .val (.long x_), .second, .val (.long y_), .second] [(.int (lcmpW x_ y_))]))
  by_cases hc3 : x_ < y_
  · refine own_via (fun _ k => XS.ifYes X1.here hx rfl (pc0 := 127) (pc' := 134) rfl (hb hby d9_127) rfl (Jvm.Free.XT.ll_lt_t hc3) (by decide) (by decide) k) ?_
    show own_Go p e below s _ _ _ (T1.setTop (mkF m 134 #[.val (.ref a), .val (.long x_), .second, .val (.long y_), .second] []))
    refine own_via (fun _ k => XS.iconst X1.here hx rfl (hb hby d9_134) k) ?_
    show own_Go p e below s _ _ _ (T1.setTop (mkF m 135 #[.val (.ref a), .val (.long x_), .second, .val (.long y_), .second] [(.int (0 : Int32))]))
    exact own_goN X1 hx (t := .boolean) Bd.returns (by simp) (hb hby d9_135) Bd.notSynchronized (by decide) (by decide) (by rw [e1]; exact ⟨by rw [own_ho5, if_pos hc3] <;> rfl, N1, rfl⟩)
  · refine own_via (fun _ k => XS.ifNo X1.here hx rfl (hb hby d9_127) rfl (Jvm.Free.XT.ll_lt_f hc3) k) ?_
    show own_Go p e below s _ _ _ (T1.setTop (mkF m 130 #[.val (.ref a), .val (.long x_), .second, .val (.long y_), .second] []))
    refine own_via (fun _ k => XS.iconst X1.here hx rfl (hb hby d9_130) k) ?_
    show own_Go p e below s _ _ _ (T1.setTop (mkF m 131 #[.val (.ref a), .val (.long x_), .second, .val (.long y_), .second] [(.int (1 : Int32))]))
    refine own_via (fun _ k => XS.goto X1.here hx rfl (pc0 := 131) (pc' := 135) rfl (hb hby d9_131) (by decide) (by decide) k) ?_
    show own_Go p e below s _ _ _ (T1.setTop (mkF m 135 #[.val (.ref a), .val (.long x_), .second, .val (.long y_), .second] [(.int (1 : Int32))]))
    exact own_goN X1 hx (t := .boolean) Bd.returns (by simp) (hb hby d9_135) Bd.notSynchronized (by decide) (by decide) (by rw [e1]; exact ⟨by rw [own_ho5, if_neg hc3] <;> rfl, N1, rfl⟩)

def own_K (Z : State) (e : Addr) (k : Int32) (s va : Addr) (cl : Cell) (z c : Int32) : Prop :=
  Exa Z Z.heap e "com/example/trajectory/trajectory/model/Condition$Operator" ∧ Fld Z Z.heap e "java/lang/Enum" "ordinal" "I" (.int k) ∧ Fld Z Z.heap e "com/example/trajectory/trajectory/model/Condition$Operator" "symbol" "Ljava/lang/String;" (.ref s) ∧ Exa Z Z.heap s "java/lang/String" ∧ Fld Z Z.heap s "java/lang/String" "coder" "B" (.int (0 : Int32)) ∧ Fld Z Z.heap s "java/lang/String" "value" "[B" (.ref va) ∧
    Arr Z Z.heap va cl .byte ∧ cl.slots.size = z.toNatClampNeg ∧ cl.slots[((0 : Int32)).toNatClampNeg]? = some (.int c)
theorem own_length {args : Array Value} {first s : State} {o : Option Outcome} {idx : List Nat} {t : Term} {v : Value} (h : (Term.length t).eval args first o idx s = some v) : ∃ a cell, t.eval args first o idx s = some (.ref a) ∧ s.arrayAt? a = some cell ∧ cell.slots.size < 2 ^ 31 ∧ v = .int cell.slots.size.toInt32 := by
  obtain ⟨a, cell, h1, h2, h3⟩ := Term.length_spec h
  refine ⟨a, cell, h1, h2, ?_, h3⟩
  by_cases q : cell.slots.size < 2 ^ 31
  · exact q
  · simp [Term.eval, h1, h2, q] at h
theorem own_const {Z : State} {args : Array Value} {t : Term} {k z c : Int32} (h1 : (Jvm.Cond.exactly t "com/example/trajectory/trajectory/model/Condition$Operator").value args Z none Z [] = some true) (h2 : (Jvm.Cond.exactly (.field t "com/example/trajectory/trajectory/model/Condition$Operator" "symbol" "Ljava/lang/String;") "java/lang/String").value args Z none Z [] = some true)
    (h3 : (Jvm.Cond.eq (.field (.field t "com/example/trajectory/trajectory/model/Condition$Operator" "symbol" "Ljava/lang/String;") "java/lang/String" "coder" "B") (.int 0)).value args Z none Z [] = some true) (h4 : (Jvm.Cond.arrayOf (.field (.field t "com/example/trajectory/trajectory/model/Condition$Operator" "symbol" "Ljava/lang/String;") "java/lang/String" "value" "[B") .byte).value args Z none Z [] = some true)
    (h5 : (Jvm.Cond.eq (.length (.field (.field t "com/example/trajectory/trajectory/model/Condition$Operator" "symbol" "Ljava/lang/String;") "java/lang/String" "value" "[B")) (.int z)).value args Z none Z [] = some true) (h6 : (Jvm.Cond.eq (.elem (.field (.field t "com/example/trajectory/trajectory/model/Condition$Operator" "symbol" "Ljava/lang/String;") "java/lang/String" "value" "[B") (.int 0)) (.int c)).value args Z none Z [] = some true)
    (h7 : (Jvm.Cond.eq (.field t "java/lang/Enum" "ordinal" "I") (.int k)).value args Z none Z [] = some true) (hz : ¬ z < 0) :
    ∃ e s va cl, t.eval args Z none [] Z = some (.ref e) ∧ own_K Z e k s va cl z c := by
  obtain ⟨e, he⟩ := exa_v h1
  obtain ⟨s, hs⟩ := exa_v h2
  obtain ⟨va, hva⟩ := arr_v h4
  obtain ⟨cl, A⟩ := Arr.start hva h4
  have g3 := eqv_i (Term.int_eval 0) h3
  have g5 := eqv_i (Term.int_eval z) h5
  have g6 := eqv_i (Term.int_eval c) h6
  have g7 := eqv_i (Term.int_eval k) h7
  obtain ⟨b1, c1, f1, f2, f3, f4⟩ := own_length g5
  cases hva.symm.trans f1
  cases (A.fin (Vm.Alike.refl _)).symm.trans f2
  refine ⟨e, s, va, cl, he, Exa.start he h1, Fld.start ((fld_at he).symm.trans g7), Fld.start ((fld_at he).symm.trans hs), Exa.start hs h2, Fld.start ((fld_at hs).symm.trans g3), Fld.start ((fld_at hs).symm.trans hva), A, ?_, (elem_in g6 hva (Term.int_eval 0) A.1).2⟩
  have q : cl.slots.size.toInt32 = z := (Value.int.inj f4).symm
  rw [← q]; simp only [Int32.toNatClampNeg, len_toInt f3]; rfl
theorem own_six (p : Int32) (a0 a1 a2 a3 a4 a5 : Addr) : own_pick p a0 a1 a2 a3 a4 a5 = a0 ∨ own_pick p a0 a1 a2 a3 a4 a5 = a1 ∨ own_pick p a0 a1 a2 a3 a4 a5 = a2 ∨ own_pick p a0 a1 a2 a3 a4 a5 = a3 ∨ own_pick p a0 a1 a2 a3 a4 a5 = a4 ∨ own_pick p a0 a1 a2 a3 a4 a5 = a5 := by
  unfold own_pick
  (repeat' split) <;> simp
theorem own_ne {a b0 b : Int64} (h : (if a = b0 then (a ^^^ (1 : Int64)) else b0) = b) : ¬ a = b := by
  subst h
  split
  · intro q
    have h2 : a ^^^ a = a ^^^ (a ^^^ 1) := by rw [← q]
    rw [← Int64.xor_assoc, Int64.xor_self, Int64.zero_xor] at h2
    exact absurd h2 (by decide)
  · assumption


theorem own_fin0 {a b : Int64} {v : Int32} (hn : ¬ a = b) (h : (if own_ho0 a b = own_ho0 b a then (0 : Int32) else (1 : Int32)) = v) : (0 : Int32) = v := by
  subst h; unfold own_ho0; simp [hn, Ne.symm hn]
theorem own_fin1 {a b : Int64} {v : Int32} (hn : ¬ a = b) (h : (if own_ho1 a b = own_ho1 b a then (0 : Int32) else (1 : Int32)) = v) : (0 : Int32) = v := by
  subst h; unfold own_ho1; simp [hn, Ne.symm hn]

theorem own_fin2 {a b : Int64} {v : Int32} (hn : ¬ a = b) (h : (if own_ho2 a b = own_ho2 b a then (0 : Int32) else (1 : Int32)) = v) : (1 : Int32) = v := by
  subst h; unfold own_ho2
  simp only [Int64.lt_iff_toInt_lt, ← Int64.toInt_inj] at *
  (repeat' split) <;> first | rfl | (exfalso; omega) | (exfalso; simp_all; omega) | simp_all

theorem own_fin3 {a b : Int64} {v : Int32} (hn : ¬ a = b) (h : (if own_ho3 a b = own_ho3 b a then (0 : Int32) else (1 : Int32)) = v) : (1 : Int32) = v := by
  subst h; unfold own_ho3
  simp only [Int64.lt_iff_toInt_lt, ← Int64.toInt_inj] at *
  (repeat' split) <;> first | rfl | (exfalso; omega) | (exfalso; simp_all; omega) | simp_all

theorem own_fin4 {a b : Int64} {v : Int32} (hn : ¬ a = b) (h : (if own_ho4 a b = own_ho4 b a then (0 : Int32) else (1 : Int32)) = v) : (1 : Int32) = v := by
  subst h; unfold own_ho4
  simp only [Int64.lt_iff_toInt_lt, ← Int64.toInt_inj] at *
  (repeat' split) <;> first | rfl | (exfalso; omega) | (exfalso; simp_all; omega) | simp_all

theorem own_fin5 {a b : Int64} {v : Int32} (hn : ¬ a = b) (h : (if own_ho5 a b = own_ho5 b a then (0 : Int32) else (1 : Int32)) = v) : (1 : Int32) = v := by
  subst h; unfold own_ho5
  simp only [Int64.lt_iff_toInt_lt, ← Int64.toInt_inj] at *
  (repeat' split) <;> first | rfl | (exfalso; omega) | (exfalso; simp_all; omega) | simp_all

theorem pd_5 : parseMethodDescriptor "(I)Lcom/example/trajectory/trajectory/model/Condition$Operator;" = some ⟨[.int], some (.object "com/example/trajectory/trajectory/model/Condition$Operator")⟩ := by decide +kernel
theorem pd_6 : parseMethodDescriptor "()Ljava/lang/String;" = some ⟨[], some (.object "java/lang/String")⟩ := by decide +kernel
theorem pd_7 : parseMethodDescriptor "(I)C" = some ⟨[.int], some .char⟩ := by decide +kernel
theorem pd_8 : parseMethodDescriptor "(JJ)Z" = some ⟨[.long, .long], some .boolean⟩ := by decide +kernel
theorem ef_0 (m : MethodId) (x0 : Int32) (x1 : Int64) (x2 : Int64) : entryFrame m #[(.int x0), (.long x1), (.long x2)] maxLocals = mkF m 0 #[.val (.int x0), .val (.long x1), .second, .val (.long x2), .second, .unset, .unset, .unset, .unset, .unset, .unset, .unset] [] := by first | (simp [entryFrame, mkF, argsToLocals, Value.category, maxLocals]; done) | rfl
def Q0 (Z : State) (p0 : Int32) (p1 : Int64) (p2 : Int64) (ea0 : Addr) (ea1 : Addr) (ea2 : Addr) (ea3 : Addr) (ea4 : Addr) (ea5 : Addr) (cs_ : Int32) (fm_ : Value) (sa0 : Addr) (va0 : Addr) (cl0 : Cell) (sa1 : Addr) (va1 : Addr) (cl1 : Cell) (sa2 : Addr) (va2 : Addr) (cl2 : Cell) (sa3 : Addr) (va3 : Addr) (cl3 : Cell) (sa4 : Addr) (va4 : Addr) (cl4 : Cell) (sa5 : Addr) (va5 : Addr) (cl5 : Cell) (h0 : Heap) (n0 : Nat) (v : Option Value) (h : Heap) (L : List Loc) : Prop := v = some (.int 1) ∧ Fr n0 L
set_option maxRecDepth 65536 in
set_option maxHeartbeats 40000000 in
theorem rm0 (l : Launch) (Z : State) (a0 : Array Value) (hw : ∀ d ∈ tables_1, d.before a0 Z = true) (ws : List Jvm.Cond) (p0 : Int32) (p1 : Int64) (p2 : Int64) (ea0 : Addr) (ea1 : Addr) (ea2 : Addr) (ea3 : Addr) (ea4 : Addr) (ea5 : Addr) (cs_ : Int32) (fm_ : Value) (sa0 : Addr) (va0 : Addr) (cl0 : Cell) (sa1 : Addr) (va1 : Addr) (cl1 : Cell) (sa2 : Addr) (va2 : Addr) (cl2 : Cell) (sa3 : Addr) (va3 : Addr) (cl3 : Cell) (sa4 : Addr) (va4 : Addr) (cl4 : Cell) (sa5 : Addr) (va5 : Addr) (cl5 : Cell) (h0 : Heap) (n0 : Nat) (Z0 : n0 ≤ h0.size) (O0 : Old Z n0 h0) (S_EQUALS : Sta Z Z.heap "com/example/trajectory/trajectory/model/Condition$Operator" "EQUALS" "Lcom/example/trajectory/trajectory/model/Condition$Operator;" (.ref ea0)) (S_NOT_EQUALS : Sta Z Z.heap "com/example/trajectory/trajectory/model/Condition$Operator" "NOT_EQUALS" "Lcom/example/trajectory/trajectory/model/Condition$Operator;" (.ref ea1)) (S_LESS_THAN : Sta Z Z.heap "com/example/trajectory/trajectory/model/Condition$Operator" "LESS_THAN" "Lcom/example/trajectory/trajectory/model/Condition$Operator;" (.ref ea2)) (S_AT_MOST : Sta Z Z.heap "com/example/trajectory/trajectory/model/Condition$Operator" "AT_MOST" "Lcom/example/trajectory/trajectory/model/Condition$Operator;" (.ref ea3)) (S_GREATER_THAN : Sta Z Z.heap "com/example/trajectory/trajectory/model/Condition$Operator" "GREATER_THAN" "Lcom/example/trajectory/trajectory/model/Condition$Operator;" (.ref ea4)) (S_AT_LEAST : Sta Z Z.heap "com/example/trajectory/trajectory/model/Condition$Operator" "AT_LEAST" "Lcom/example/trajectory/trajectory/model/Condition$Operator;" (.ref ea5)) (S_COMPACT_STRINGS : Sta Z Z.heap "java/lang/String" "COMPACT_STRINGS" "Z" (.int cs_)) (S_SIOOBE_FORMATTER : Sta Z Z.heap "jdk/internal/util/Preconditions" "SIOOBE_FORMATTER" "Ljava/util/function/BiFunction;" fm_) (hp8 : own_K Z ea0 (0 : Int32) sa0 va0 cl0 (2 : Int32) (61 : Int32)) (hp9 : own_K Z ea1 (1 : Int32) sa1 va1 cl1 (2 : Int32) (33 : Int32)) (hp10 : own_K Z ea2 (2 : Int32) sa2 va2 cl2 (1 : Int32) (60 : Int32)) (hp11 : own_K Z ea3 (3 : Int32) sa3 va3 cl3 (2 : Int32) (60 : Int32)) (hp12 : own_K Z ea4 (4 : Int32) sa4 va4 cl4 (1 : Int32) (62 : Int32)) (hp13 : own_K Z ea5 (5 : Int32) sa5 va5 cl5 (2 : Int32) (62 : Int32)) (hp14 : ¬ cs_ = (0 : Int32)) (hp15 : fm_.isRef = true) :
    MetFree l x (head1 (Jvm.Cond.code x code maxLocals ret :: ws) room_1) (fun q_ U => q_ = #[(.int p0), (.long p1), (.long p2)] ∧ Z.Warmed39 U.vm ∧ U.heap = h0) (fun _ _ _ _ _ => True) (fun _ U o U' => ∃ v L, o = .returned v ∧ Q0 Z p0 p1 p2 ea0 ea1 ea2 ea3 ea4 ea5 cs_ fm_ sa0 va0 cl0 sa1 va1 cl1 sa2 va2 cl2 sa3 va3 cl3 sa4 va4 cl4 sa5 va5 cl5 h0 n0 v U'.heap L ∧ FrameEnd U o U' L room_1.cells room_1.slots) := by
  refine MetFree.of_bodySF (plainFor_of_name pn_0) hisR ?_
  intro p e s m args below meth c s₁ Bd hml0 hP hK
  obtain ⟨rfl, hZ, hh⟩ := hP
  have hx := Bd.exec
  have hby := Bd.bytes
  have hml : c.maxLocals = 12 := hml0
  have hown : s.vm.findClass "com/example/trajectory/trajectory/model/OperatorOrdersPinLaw" = some m.cls := findClass_of_methodNamed Bd.named
  have hnm := (name_of_methodNamed Bd.named Bd.method).1
  have X0 : Stand p l e room_1 s m #[(.int p0), (.long p1), (.long p2)] below meth c s₁ [] 0 0 := Stand.of_body Bd
  have e0 : s₁.heap = h0 := by rw [← hh, Bd.state]; rfl
  have N0 := Fr.nil n0
  show own_Go p e below s (Q0 Z p0 p1 p2 ea0 ea1 ea2 ea3 ea4 ea5 cs_ fm_ sa0 va0 cl0 sa1 va1 cl1 sa2 va2 cl2 sa3 va3 cl3 sa4 va4 cl4 sa5 va5 cl5 h0 n0) room_1.cells room_1.slots (s₁.setTop (entryFrame m #[(.int p0), (.long p1), (.long p2)] maxLocals))
  refine own_via (fun t k => castTop (ef_0 m p0 p1 p2) k) ?_
  show own_Go p e below s _ _ _ (s₁.setTop (mkF m 0 #[.val (.int p0), .val (.long p1), .second, .val (.long p2), .second, .unset, .unset, .unset, .unset, .unset, .unset, .unset] []))
  refine own_via (fun _ k => XS.iloadN X0.here hx rfl (hb hby at_0) rfl k) ?_
  show own_Go p e below s _ _ _ (s₁.setTop (mkF m 1 #[.val (.int p0), .val (.long p1), .second, .val (.long p2), .second, .unset, .unset, .unset, .unset, .unset, .unset, .unset] [(.int p0)]))
  obtain ⟨_, _, ⟨T1, L1, k1, n1⟩, -, X1, ⟨Lc1, hQ1, l1, y1, z1⟩, st1⟩ := Jvm.LawKit.callS X0 hx (y := (⟨"com/example/trajectory/trajectory/model/OperatorOrdersPinLaw", "pick", "(I)Lcom/example/trajectory/trajectory/model/Condition$Operator;"⟩ : MethodName)) hown (mvT hZ (hw _ (List.mem_of_getElem? (i := 0) rfl))) (mvT hZ (hw _ (List.mem_of_getElem? (i := 1) rfl))) (mvT hZ (hw _ (List.mem_of_getElem? (i := 2) rfl))) (mvT hZ (hw _ (List.mem_of_getElem? (i := 3) rfl))) (by decide) (backOf (W := 0) (rm1 l Z a0 hw [] p0 ea0 ea1 ea2 ea3 ea4 ea5 h0 n0 Z0 O0 S_EQUALS S_NOT_EQUALS S_LESS_THAN S_AT_MOST S_GREATER_THAN S_AT_LEAST) hZ (hw _ (List.mem_of_getElem? (i := 3) rfl)) (hw _ (List.mem_of_getElem? (i := 2) rfl)) (by decide) (by decide)) (g := (mkF m 1 #[.val (.int p0), .val (.long p1), .second, .val (.long p2), .second, .unset, .unset, .unset, .unset, .unset, .unset, .unset] [(.int p0)])) rfl (by rw [hml]; rfl) (argsL := [(.int p0)]) (rest := []) (lenOf pd_5 rfl) rfl (by show 2 * 0 + _ ≤ _; exact Nat.le_of_eq rfl) (hb hby at_1) (fun _ _ => ⟨rfl, e0, (by decide : 0 + 0 ≤ _), (by decide : 0 + 0 ≤ _)⟩)
  dsimp only [Pt.U, Pt.locs, Pt.cells, Pt.slots] at X1 l1 y1 z1 st1 hQ1
  subst l1 y1 z1
  obtain ⟨rfl, N1q, e1⟩ := hQ1
  have N1 := Fr.app N0 N1q
  refine own_via st1 ?_
  show own_Go p e below s _ _ _ (T1.setTop (mkF m 4 #[.val (.int p0), .val (.long p1), .second, .val (.long p2), .second, .unset, .unset, .unset, .unset, .unset, .unset, .unset] [(.ref (own_pick p0 ea0 ea1 ea2 ea3 ea4 ea5))]))
  rcases own_six p0 ea0 ea1 ea2 ea3 ea4 ea5 with hk | hk | hk | hk | hk | hk
  · rw [hk]
    show own_Go p e below s _ _ _ (T1.setTop (mkF m 4 #[.val (.int p0), .val (.long p1), .second, .val (.long p2), .second, .unset, .unset, .unset, .unset, .unset, .unset, .unset] [(.ref ea0)]))
    have ko0 := hp8.2.1
    have ko1 := hp9.2.1
    obtain ⟨kE, kO, kS, kX, kC, kV, kA, kZ, kT⟩ := hp8
    have ne1 : ea0 ≠ ea1 := Fld.ne ko0 ko1 (fun q => absurd (Value.int.inj q) (by decide))
    refine own_via (fun _ k => XS.astore X1.here hx rfl (hb hby at_4) rfl rfl (l' := #[.val (.int p0), .val (.long p1), .second, .val (.long p2), .second, .val (.ref ea0), .unset, .unset, .unset, .unset, .unset, .unset]) rfl k) ?_
    show own_Go p e below s _ _ _ (T1.setTop (mkF m 6 #[.val (.int p0), .val (.long p1), .second, .val (.long p2), .second, .val (.ref ea0), .unset, .unset, .unset, .unset, .unset, .unset] []))
    refine own_via (fun _ k => XS.lloadN X1.here hx rfl (hb hby at_6) rfl k) ?_
    show own_Go p e below s _ _ _ (T1.setTop (mkF m 7 #[.val (.int p0), .val (.long p1), .second, .val (.long p2), .second, .val (.ref ea0), .unset, .unset, .unset, .unset, .unset, .unset] [(.long p2)]))
    refine own_via (fun _ k => XS.lstore X1.here hx rfl (hb hby at_7) rfl (l' := #[.val (.int p0), .val (.long p1), .second, .val (.long p2), .second, .val (.ref ea0), .val (.long p2), .second, .unset, .unset, .unset, .unset]) rfl k) ?_
    show own_Go p e below s _ _ _ (T1.setTop (mkF m 9 #[.val (.int p0), .val (.long p1), .second, .val (.long p2), .second, .val (.ref ea0), .val (.long p2), .second, .unset, .unset, .unset, .unset] []))
    have st2 : ∀ t, Steps p.tables e below (T1.setTop (mkF m 21 #[.val (.int p0), .val (.long p1), .second, .val (.long p2), .second, .val (.ref ea0), .val (.long (if p1 = p2 then (p1 ^^^ (1 : Int64)) else p2)), .second, .unset, .unset, .unset, .unset] [])) t → Steps p.tables e below (T1.setTop (mkF m 9 #[.val (.int p0), .val (.long p1), .second, .val (.long p2), .second, .val (.ref ea0), .val (.long p2), .second, .unset, .unset, .unset, .unset] [])) t := by
      intro t k
      refine XS.lloadN X1.here hx rfl (hb hby at_9) rfl ?_
      show Steps p.tables e below (T1.setTop (mkF m 10 #[.val (.int p0), .val (.long p1), .second, .val (.long p2), .second, .val (.ref ea0), .val (.long p2), .second, .unset, .unset, .unset, .unset] [(.long p1)])) t
      refine XS.lload X1.here hx rfl (hb hby at_10) rfl ?_
      show Steps p.tables e below (T1.setTop (mkF m 12 #[.val (.int p0), .val (.long p1), .second, .val (.long p2), .second, .val (.ref ea0), .val (.long p2), .second, .unset, .unset, .unset, .unset] [(.long p2), (.long p1)])) t
      refine XS.lcmp X1.here hx rfl (hb hby at_12) rfl ?_
      show Steps p.tables e below (T1.setTop (mkF m 13 #[.val (.int p0), .val (.long p1), .second, .val (.long p2), .second, .val (.ref ea0), .val (.long p2), .second, .unset, .unset, .unset, .unset] [(.int (lcmpW p1 p2))])) t
      by_cases hq3 : p1 = p2
      · refine XS.ifNo X1.here hx rfl (hb hby at_13) rfl (Jvm.Free.XT.ll_ne_f hq3) ?_
        show Steps p.tables e below (T1.setTop (mkF m 16 #[.val (.int p0), .val (.long p1), .second, .val (.long p2), .second, .val (.ref ea0), .val (.long p2), .second, .unset, .unset, .unset, .unset] [])) t
        refine XS.lloadN X1.here hx rfl (hb hby at_16) rfl ?_
        show Steps p.tables e below (T1.setTop (mkF m 17 #[.val (.int p0), .val (.long p1), .second, .val (.long p2), .second, .val (.ref ea0), .val (.long p2), .second, .unset, .unset, .unset, .unset] [(.long p1)])) t
        refine XS.lconst X1.here hx rfl (hb hby at_17) ?_
        show Steps p.tables e below (T1.setTop (mkF m 18 #[.val (.int p0), .val (.long p1), .second, .val (.long p2), .second, .val (.ref ea0), .val (.long p2), .second, .unset, .unset, .unset, .unset] [(.long (1 : Int64)), (.long p1)])) t
        refine XS.lxor X1.here hx rfl (hb hby at_18) rfl ?_
        show Steps p.tables e below (T1.setTop (mkF m 19 #[.val (.int p0), .val (.long p1), .second, .val (.long p2), .second, .val (.ref ea0), .val (.long p2), .second, .unset, .unset, .unset, .unset] [(.long (p1 ^^^ (1 : Int64)))])) t
        refine XS.lstore X1.here hx rfl (hb hby at_19) rfl (l' := #[.val (.int p0), .val (.long p1), .second, .val (.long p2), .second, .val (.ref ea0), .val (.long (p1 ^^^ (1 : Int64))), .second, .unset, .unset, .unset, .unset]) rfl ?_
        show Steps p.tables e below (T1.setTop (mkF m 21 #[.val (.int p0), .val (.long p1), .second, .val (.long p2), .second, .val (.ref ea0), .val (.long (p1 ^^^ (1 : Int64))), .second, .unset, .unset, .unset, .unset] [])) t
        simp only [if_pos hq3] at k
        exact k
      · refine XS.ifYes X1.here hx rfl (pc0 := 13) (pc' := 21) rfl (hb hby at_13) rfl (Jvm.Free.XT.ll_ne_t hq3) (by decide) (by decide) ?_
        show Steps p.tables e below (T1.setTop (mkF m 21 #[.val (.int p0), .val (.long p1), .second, .val (.long p2), .second, .val (.ref ea0), .val (.long p2), .second, .unset, .unset, .unset, .unset] [])) t
        simp only [if_neg hq3] at k
        exact k
    refine own_via st2 ?_
    show own_Go p e below s _ _ _ (T1.setTop (mkF m 21 #[.val (.int p0), .val (.long p1), .second, .val (.long p2), .second, .val (.ref ea0), .val (.long (if p1 = p2 then (p1 ^^^ (1 : Int64)) else p2)), .second, .unset, .unset, .unset, .unset] []))
    generalize hv4 : (if p1 = p2 then (p1 ^^^ (1 : Int64)) else p2) = v4
    show own_Go p e below s _ _ _ (T1.setTop (mkF m 21 #[.val (.int p0), .val (.long p1), .second, .val (.long p2), .second, .val (.ref ea0), .val (.long v4), .second, .unset, .unset, .unset, .unset] []))
    refine own_via (fun _ k => XS.aload X1.here hx rfl (hb hby at_21) rfl rfl k) ?_
    show own_Go p e below s _ _ _ (T1.setTop (mkF m 23 #[.val (.int p0), .val (.long p1), .second, .val (.long p2), .second, .val (.ref ea0), .val (.long v4), .second, .unset, .unset, .unset, .unset] [(.ref ea0)]))
    have F6 := kE.ext O0.2
    obtain ⟨cq5, kq5, qa5, qb5, qc5⟩ := isOf hZ e1 F6
    obtain ⟨_, _, ⟨T5, L5, k5, n5⟩, -, X5, ⟨Lc5, hQ5, l5, y5, z5⟩, st5⟩ := X1.virtualBack hx (y := (⟨"com/example/trajectory/trajectory/model/Condition$Operator", "orders", "()Z"⟩ : MethodName)) (z := (⟨"com/example/trajectory/trajectory/model/Condition$Operator", "orders", "()Z"⟩ : MethodName)) hown (mvT hZ (hw _ (List.mem_of_getElem? (i := 8) rfl))) (mvT hZ (hw _ (List.mem_of_getElem? (i := 9) rfl))) (notFace_of_selects (args := #[]) (mvT hZ (hw _ (List.mem_of_getElem? (i := 11) rfl)))) (mvT hZ (hw _ (List.mem_of_getElem? (i := 11) rfl))) (mvT hZ (hw _ (List.mem_of_getElem? (i := 10) rfl))) (by decide) (backOf (W := 0) (rm2 l Z a0 hw [] ea0 ea0 ea1 h0 n0 Z0 O0 S_EQUALS S_NOT_EQUALS) hZ (hw _ (List.mem_of_getElem? (i := 12) rfl)) (hw _ (List.mem_of_getElem? (i := 6) rfl)) (by decide) (by decide)) qa5 qc5 (g := (mkF m 23 #[.val (.int p0), .val (.long p1), .second, .val (.long p2), .second, .val (.ref ea0), .val (.long v4), .second, .unset, .unset, .unset, .unset] [(.ref ea0)])) rfl (by rw [hml]; rfl) (Steps.refl _) (argsL := []) (rest := []) (lenOf pd_2 rfl) rfl (by show 2 * 0 + _ ≤ _; exact Nat.le_of_eq rfl) (hb hby at_23) (fun _ _ => ⟨rfl, e1, (by decide : 0 + 0 ≤ _), (by decide : 0 + 0 ≤ _)⟩)
    dsimp only [Pt.U, Pt.locs, Pt.cells, Pt.slots] at X5 l5 y5 z5 st5 hQ5
    subst l5 y5 z5
    obtain ⟨rfl, N5q, e5⟩ := hQ5
    have N5 := Fr.app N1 N5q
    refine own_viaT st5 ?_
    show own_Go p e below s _ _ _ (T5.setTop (mkF m 26 #[.val (.int p0), .val (.long p1), .second, .val (.long p2), .second, .val (.ref ea0), .val (.long v4), .second, .unset, .unset, .unset, .unset] [(.int (own_ord ea0 ea0 ea1))]))
    refine own_via (fun _ k => XS.istore X5.here hx rfl (hb hby at_26) rfl (l' := #[.val (.int p0), .val (.long p1), .second, .val (.long p2), .second, .val (.ref ea0), .val (.long v4), .second, .val (.int (own_ord ea0 ea0 ea1)), .unset, .unset, .unset]) rfl k) ?_
    show own_Go p e below s _ _ _ (T5.setTop (mkF m 28 #[.val (.int p0), .val (.long p1), .second, .val (.long p2), .second, .val (.ref ea0), .val (.long v4), .second, .val (.int (own_ord ea0 ea0 ea1)), .unset, .unset, .unset] []))
    generalize hv7 : (own_ord ea0 ea0 ea1) = v7
    show own_Go p e below s _ _ _ (T5.setTop (mkF m 28 #[.val (.int p0), .val (.long p1), .second, .val (.long p2), .second, .val (.ref ea0), .val (.long v4), .second, .val (.int v7), .unset, .unset, .unset] []))
    refine own_via (fun _ k => XS.aload X5.here hx rfl (hb hby at_28) rfl rfl k) ?_
    show own_Go p e below s _ _ _ (T5.setTop (mkF m 30 #[.val (.int p0), .val (.long p1), .second, .val (.long p2), .second, .val (.ref ea0), .val (.long v4), .second, .val (.int v7), .unset, .unset, .unset] [(.ref ea0)]))
    have F9 := kE.ext O0.2
    obtain ⟨cq8, kq8, qa8, qb8, qc8⟩ := isOf hZ e5 F9
    obtain ⟨_, _, ⟨T8, L8, k8, n8⟩, -, X8, ⟨Lc8, hQ8, l8, y8, z8⟩, st8⟩ := X5.virtualBack hx (y := (⟨"com/example/trajectory/trajectory/model/Condition$Operator", "symbol", "()Ljava/lang/String;"⟩ : MethodName)) (z := (⟨"com/example/trajectory/trajectory/model/Condition$Operator", "symbol", "()Ljava/lang/String;"⟩ : MethodName)) hown (mvT hZ (hw _ (List.mem_of_getElem? (i := 14) rfl))) (mvT hZ (hw _ (List.mem_of_getElem? (i := 15) rfl))) (notFace_of_selects (args := #[]) (mvT hZ (hw _ (List.mem_of_getElem? (i := 17) rfl)))) (mvT hZ (hw _ (List.mem_of_getElem? (i := 17) rfl))) (mvT hZ (hw _ (List.mem_of_getElem? (i := 16) rfl))) (by decide) (backOf (W := 0) (rm3 l Z a0 hw [] ea0 sa0 h0 n0 Z0 O0 kS) hZ (hw _ (List.mem_of_getElem? (i := 18) rfl)) (hw _ (List.mem_of_getElem? (i := 6) rfl)) (by decide) (by decide)) qa8 qc8 (g := (mkF m 30 #[.val (.int p0), .val (.long p1), .second, .val (.long p2), .second, .val (.ref ea0), .val (.long v4), .second, .val (.int v7), .unset, .unset, .unset] [(.ref ea0)])) rfl (by rw [hml]; rfl) (Steps.refl _) (argsL := []) (rest := []) (lenOf pd_6 rfl) rfl (by show 2 * 0 + _ ≤ _; exact Nat.le_of_eq rfl) (hb hby at_30) (fun _ _ => ⟨rfl, e5, (by decide : 0 + 0 ≤ _), (by decide : 0 + 0 ≤ _)⟩)
    dsimp only [Pt.U, Pt.locs, Pt.cells, Pt.slots] at X8 l8 y8 z8 st8 hQ8
    subst l8 y8 z8
    obtain ⟨rfl, N8q, e8⟩ := hQ8
    have N8 := Fr.app N5 N8q
    refine own_viaT st8 ?_
    show own_Go p e below s _ _ _ (T8.setTop (mkF m 33 #[.val (.int p0), .val (.long p1), .second, .val (.long p2), .second, .val (.ref ea0), .val (.long v4), .second, .val (.int v7), .unset, .unset, .unset] [(.ref sa0)]))
    refine own_via (fun _ k => XS.iconst X8.here hx rfl (hb hby at_33) k) ?_
    show own_Go p e below s _ _ _ (T8.setTop (mkF m 34 #[.val (.int p0), .val (.long p1), .second, .val (.long p2), .second, .val (.ref ea0), .val (.long v4), .second, .val (.int v7), .unset, .unset, .unset] [(.int (0 : Int32)), (.ref sa0)]))
    have F11 := kX.ext O0.2
    obtain ⟨cq10, kq10, qa10, qb10, qc10⟩ := isOf hZ e8 F11
    obtain ⟨_, _, ⟨T10, L10, k10, n10⟩, -, X10, ⟨Lc10, hQ10, l10, y10, z10⟩, st10⟩ := X8.virtualBack hx (y := (⟨"java/lang/String", "charAt", "(I)C"⟩ : MethodName)) (z := (⟨"java/lang/String", "charAt", "(I)C"⟩ : MethodName)) hown (mvT hZ (hw _ (List.mem_of_getElem? (i := 21) rfl))) (mvT hZ (hw _ (List.mem_of_getElem? (i := 22) rfl))) (notFace_of_selects (args := #[]) (mvT hZ (hw _ (List.mem_of_getElem? (i := 24) rfl)))) (mvT hZ (hw _ (List.mem_of_getElem? (i := 24) rfl))) (mvT hZ (hw _ (List.mem_of_getElem? (i := 23) rfl))) (by decide) (backOf (W := 0) (rm4 l Z a0 hw [] sa0 (0 : Int32) va0 cs_ cl0 (2 : Int32) (61 : Int32) fm_ h0 n0 Z0 O0 S_SIOOBE_FORMATTER S_COMPACT_STRINGS kC kV kA kZ (by decide) (by decide) kT hp14 kX (by rfl) hp15) hZ (hw _ (List.mem_of_getElem? (i := 26) rfl)) (hw _ (List.mem_of_getElem? (i := 25) rfl)) (by decide) (by decide)) qa10 qc10 (g := (mkF m 34 #[.val (.int p0), .val (.long p1), .second, .val (.long p2), .second, .val (.ref ea0), .val (.long v4), .second, .val (.int v7), .unset, .unset, .unset] [(.int (0 : Int32)), (.ref sa0)])) rfl (by rw [hml]; rfl) (Steps.refl _) (argsL := [(.int (0 : Int32))]) (rest := []) (lenOf pd_7 rfl) rfl (by show 2 * 0 + _ ≤ _; exact Nat.le_of_eq rfl) (hb hby at_34) (fun _ _ => ⟨rfl, e8, (by decide : 0 + 0 ≤ _), (by decide : 0 + 0 ≤ _)⟩)
    dsimp only [Pt.U, Pt.locs, Pt.cells, Pt.slots] at X10 l10 y10 z10 st10 hQ10
    subst l10 y10 z10
    obtain ⟨rfl, N10q, e10⟩ := hQ10
    have N10 := Fr.app N8 N10q
    refine own_viaT st10 ?_
    show own_Go p e below s _ _ _ (T10.setTop (mkF m 37 #[.val (.int p0), .val (.long p1), .second, .val (.long p2), .second, .val (.ref ea0), .val (.long v4), .second, .val (.int v7), .unset, .unset, .unset] [(.int (nar .char (nar .char (o_i2c ((61 : Int32) &&& (255 : Int32))))))]))
    refine own_via (fun _ k => XS.istore X10.here hx rfl (hb hby at_37) rfl (l' := #[.val (.int p0), .val (.long p1), .second, .val (.long p2), .second, .val (.ref ea0), .val (.long v4), .second, .val (.int v7), .val (.int (nar .char (nar .char (o_i2c ((61 : Int32) &&& (255 : Int32)))))), .unset, .unset]) rfl k) ?_
    show own_Go p e below s _ _ _ (T10.setTop (mkF m 39 #[.val (.int p0), .val (.long p1), .second, .val (.long p2), .second, .val (.ref ea0), .val (.long v4), .second, .val (.int v7), .val (.int (nar .char (nar .char (o_i2c ((61 : Int32) &&& (255 : Int32)))))), .unset, .unset] []))
    generalize hv12 : (nar .char (nar .char (o_i2c ((61 : Int32) &&& (255 : Int32))))) = v12
    show own_Go p e below s _ _ _ (T10.setTop (mkF m 39 #[.val (.int p0), .val (.long p1), .second, .val (.long p2), .second, .val (.ref ea0), .val (.long v4), .second, .val (.int v7), .val (.int v12), .unset, .unset] []))
    have st13 : ∀ t, Steps p.tables e below (T10.setTop (mkF m 58 #[.val (.int p0), .val (.long p1), .second, .val (.long p2), .second, .val (.ref ea0), .val (.long v4), .second, .val (.int v7), .val (.int v12), .unset, .unset] [(.int (if v12 = (60 : Int32) then (1 : Int32) else (if v12 = (62 : Int32) then (1 : Int32) else (0 : Int32))))])) t → Steps p.tables e below (T10.setTop (mkF m 39 #[.val (.int p0), .val (.long p1), .second, .val (.long p2), .second, .val (.ref ea0), .val (.long v4), .second, .val (.int v7), .val (.int v12), .unset, .unset] [])) t := by
      intro t k
      refine XS.iload X10.here hx rfl (hb hby at_39) rfl ?_
      show Steps p.tables e below (T10.setTop (mkF m 41 #[.val (.int p0), .val (.long p1), .second, .val (.long p2), .second, .val (.ref ea0), .val (.long v4), .second, .val (.int v7), .val (.int v12), .unset, .unset] [(.int v12)])) t
      refine XS.bipush X10.here hx rfl (hb hby at_41) ?_
      show Steps p.tables e below (T10.setTop (mkF m 43 #[.val (.int p0), .val (.long p1), .second, .val (.long p2), .second, .val (.ref ea0), .val (.long v4), .second, .val (.int v7), .val (.int v12), .unset, .unset] [(.int (60 : Int32)), (.int v12)])) t
      by_cases hq14 : v12 = (60 : Int32)
      · refine XS.icmpYes X10.here hx rfl (pc0 := 43) (pc' := 53) rfl (hb hby at_43) rfl (Jvm.Free.XT.ii_eq_t hq14) (by decide) (by decide) ?_
        show Steps p.tables e below (T10.setTop (mkF m 53 #[.val (.int p0), .val (.long p1), .second, .val (.long p2), .second, .val (.ref ea0), .val (.long v4), .second, .val (.int v7), .val (.int v12), .unset, .unset] [])) t
        refine XS.iconst X10.here hx rfl (hb hby at_53) ?_
        show Steps p.tables e below (T10.setTop (mkF m 54 #[.val (.int p0), .val (.long p1), .second, .val (.long p2), .second, .val (.ref ea0), .val (.long v4), .second, .val (.int v7), .val (.int v12), .unset, .unset] [(.int (1 : Int32))])) t
        refine XS.goto X10.here hx rfl (pc0 := 54) (pc' := 58) rfl (hb hby at_54) (by decide) (by decide) ?_
        show Steps p.tables e below (T10.setTop (mkF m 58 #[.val (.int p0), .val (.long p1), .second, .val (.long p2), .second, .val (.ref ea0), .val (.long v4), .second, .val (.int v7), .val (.int v12), .unset, .unset] [(.int (1 : Int32))])) t
        simp only [if_pos hq14] at k
        exact k
      · refine XS.icmpNo X10.here hx rfl (hb hby at_43) rfl (Jvm.Free.XT.ii_eq_f hq14) ?_
        show Steps p.tables e below (T10.setTop (mkF m 46 #[.val (.int p0), .val (.long p1), .second, .val (.long p2), .second, .val (.ref ea0), .val (.long v4), .second, .val (.int v7), .val (.int v12), .unset, .unset] [])) t
        refine XS.iload X10.here hx rfl (hb hby at_46) rfl ?_
        show Steps p.tables e below (T10.setTop (mkF m 48 #[.val (.int p0), .val (.long p1), .second, .val (.long p2), .second, .val (.ref ea0), .val (.long v4), .second, .val (.int v7), .val (.int v12), .unset, .unset] [(.int v12)])) t
        refine XS.bipush X10.here hx rfl (hb hby at_48) ?_
        show Steps p.tables e below (T10.setTop (mkF m 50 #[.val (.int p0), .val (.long p1), .second, .val (.long p2), .second, .val (.ref ea0), .val (.long v4), .second, .val (.int v7), .val (.int v12), .unset, .unset] [(.int (62 : Int32)), (.int v12)])) t
        by_cases hq15 : v12 = (62 : Int32)
        · refine XS.icmpNo X10.here hx rfl (hb hby at_50) rfl (Jvm.Free.XT.ii_ne_f hq15) ?_
          show Steps p.tables e below (T10.setTop (mkF m 53 #[.val (.int p0), .val (.long p1), .second, .val (.long p2), .second, .val (.ref ea0), .val (.long v4), .second, .val (.int v7), .val (.int v12), .unset, .unset] [])) t
          refine XS.iconst X10.here hx rfl (hb hby at_53) ?_
          show Steps p.tables e below (T10.setTop (mkF m 54 #[.val (.int p0), .val (.long p1), .second, .val (.long p2), .second, .val (.ref ea0), .val (.long v4), .second, .val (.int v7), .val (.int v12), .unset, .unset] [(.int (1 : Int32))])) t
          refine XS.goto X10.here hx rfl (pc0 := 54) (pc' := 58) rfl (hb hby at_54) (by decide) (by decide) ?_
          show Steps p.tables e below (T10.setTop (mkF m 58 #[.val (.int p0), .val (.long p1), .second, .val (.long p2), .second, .val (.ref ea0), .val (.long v4), .second, .val (.int v7), .val (.int v12), .unset, .unset] [(.int (1 : Int32))])) t
          simp only [if_neg hq14, if_pos hq15] at k
          exact k
        · refine XS.icmpYes X10.here hx rfl (pc0 := 50) (pc' := 57) rfl (hb hby at_50) rfl (Jvm.Free.XT.ii_ne_t hq15) (by decide) (by decide) ?_
          show Steps p.tables e below (T10.setTop (mkF m 57 #[.val (.int p0), .val (.long p1), .second, .val (.long p2), .second, .val (.ref ea0), .val (.long v4), .second, .val (.int v7), .val (.int v12), .unset, .unset] [])) t
          refine XS.iconst X10.here hx rfl (hb hby at_57) ?_
          show Steps p.tables e below (T10.setTop (mkF m 58 #[.val (.int p0), .val (.long p1), .second, .val (.long p2), .second, .val (.ref ea0), .val (.long v4), .second, .val (.int v7), .val (.int v12), .unset, .unset] [(.int (0 : Int32))])) t
          simp only [if_neg hq14, if_neg hq15] at k
          exact k
    refine own_via st13 ?_
    show own_Go p e below s _ _ _ (T10.setTop (mkF m 58 #[.val (.int p0), .val (.long p1), .second, .val (.long p2), .second, .val (.ref ea0), .val (.long v4), .second, .val (.int v7), .val (.int v12), .unset, .unset] [(.int (if v12 = (60 : Int32) then (1 : Int32) else (if v12 = (62 : Int32) then (1 : Int32) else (0 : Int32))))]))
    refine own_via (fun _ k => XS.istore X10.here hx rfl (hb hby at_58) rfl (l' := #[.val (.int p0), .val (.long p1), .second, .val (.long p2), .second, .val (.ref ea0), .val (.long v4), .second, .val (.int v7), .val (.int v12), .val (.int (if v12 = (60 : Int32) then (1 : Int32) else (if v12 = (62 : Int32) then (1 : Int32) else (0 : Int32)))), .unset]) rfl k) ?_
    show own_Go p e below s _ _ _ (T10.setTop (mkF m 60 #[.val (.int p0), .val (.long p1), .second, .val (.long p2), .second, .val (.ref ea0), .val (.long v4), .second, .val (.int v7), .val (.int v12), .val (.int (if v12 = (60 : Int32) then (1 : Int32) else (if v12 = (62 : Int32) then (1 : Int32) else (0 : Int32)))), .unset] []))
    generalize hv16 : (if v12 = (60 : Int32) then (1 : Int32) else (if v12 = (62 : Int32) then (1 : Int32) else (0 : Int32))) = v16
    show own_Go p e below s _ _ _ (T10.setTop (mkF m 60 #[.val (.int p0), .val (.long p1), .second, .val (.long p2), .second, .val (.ref ea0), .val (.long v4), .second, .val (.int v7), .val (.int v12), .val (.int v16), .unset] []))
    refine own_via (fun _ k => XS.aload X10.here hx rfl (hb hby at_60) rfl rfl k) ?_
    show own_Go p e below s _ _ _ (T10.setTop (mkF m 62 #[.val (.int p0), .val (.long p1), .second, .val (.long p2), .second, .val (.ref ea0), .val (.long v4), .second, .val (.int v7), .val (.int v12), .val (.int v16), .unset] [(.ref ea0)]))
    refine own_via (fun _ k => XS.lloadN X10.here hx rfl (hb hby at_62) rfl k) ?_
    show own_Go p e below s _ _ _ (T10.setTop (mkF m 63 #[.val (.int p0), .val (.long p1), .second, .val (.long p2), .second, .val (.ref ea0), .val (.long v4), .second, .val (.int v7), .val (.int v12), .val (.int v16), .unset] [(.long p1), (.ref ea0)]))
    refine own_via (fun _ k => XS.lload X10.here hx rfl (hb hby at_63) rfl k) ?_
    show own_Go p e below s _ _ _ (T10.setTop (mkF m 65 #[.val (.int p0), .val (.long p1), .second, .val (.long p2), .second, .val (.ref ea0), .val (.long v4), .second, .val (.int v7), .val (.int v12), .val (.int v16), .unset] [(.long v4), (.long p1), (.ref ea0)]))
    have F18 := kE.ext O0.2
    obtain ⟨cq17, kq17, qa17, qb17, qc17⟩ := isOf hZ e10 F18
    obtain ⟨_, _, ⟨T17, L17, k17, n17⟩, -, X17, ⟨Lc17, hQ17, l17, y17, z17⟩, st17⟩ := X10.virtualBack hx (y := (⟨"com/example/trajectory/trajectory/model/Condition$Operator", "holds", "(JJ)Z"⟩ : MethodName)) (z := (⟨"com/example/trajectory/trajectory/model/Condition$Operator", "holds", "(JJ)Z"⟩ : MethodName)) hown (mvT hZ (hw _ (List.mem_of_getElem? (i := 49) rfl))) (mvT hZ (hw _ (List.mem_of_getElem? (i := 50) rfl))) (notFace_of_selects (args := #[]) (mvT hZ (hw _ (List.mem_of_getElem? (i := 52) rfl)))) (mvT hZ (hw _ (List.mem_of_getElem? (i := 52) rfl))) (mvT hZ (hw _ (List.mem_of_getElem? (i := 51) rfl))) (by decide) (backOf (W := 0) (rmho0 l Z a0 hw [] ea0 p1 v4 h0 n0 Z0 O0 kO kE) hZ (hw _ (List.mem_of_getElem? (i := 53) rfl)) (hw _ (List.mem_of_getElem? (i := 6) rfl)) (by decide) (by decide)) qa17 qc17 (g := (mkF m 65 #[.val (.int p0), .val (.long p1), .second, .val (.long p2), .second, .val (.ref ea0), .val (.long v4), .second, .val (.int v7), .val (.int v12), .val (.int v16), .unset] [(.long v4), (.long p1), (.ref ea0)])) rfl (by rw [hml]; rfl) (Steps.refl _) (argsL := [(.long p1), (.long v4)]) (rest := []) (lenOf pd_8 rfl) rfl (by show 2 * 0 + _ ≤ _; exact Nat.le_of_eq rfl) (hb hby at_65) (fun _ _ => ⟨rfl, e10, (by decide : 0 + 0 ≤ _), (by decide : 0 + 0 ≤ _)⟩)
    dsimp only [Pt.U, Pt.locs, Pt.cells, Pt.slots] at X17 l17 y17 z17 st17 hQ17
    subst l17 y17 z17
    obtain ⟨rfl, N17q, e17⟩ := hQ17
    have N17 := Fr.app N10 N17q
    refine own_viaT st17 ?_
    show own_Go p e below s _ _ _ (T17.setTop (mkF m 68 #[.val (.int p0), .val (.long p1), .second, .val (.long p2), .second, .val (.ref ea0), .val (.long v4), .second, .val (.int v7), .val (.int v12), .val (.int v16), .unset] [(.int (own_ho0 p1 v4))]))
    refine own_via (fun _ k => XS.aload X17.here hx rfl (hb hby at_68) rfl rfl k) ?_
    show own_Go p e below s _ _ _ (T17.setTop (mkF m 70 #[.val (.int p0), .val (.long p1), .second, .val (.long p2), .second, .val (.ref ea0), .val (.long v4), .second, .val (.int v7), .val (.int v12), .val (.int v16), .unset] [(.ref ea0), (.int (own_ho0 p1 v4))]))
    refine own_via (fun _ k => XS.lload X17.here hx rfl (hb hby at_70) rfl k) ?_
    show own_Go p e below s _ _ _ (T17.setTop (mkF m 72 #[.val (.int p0), .val (.long p1), .second, .val (.long p2), .second, .val (.ref ea0), .val (.long v4), .second, .val (.int v7), .val (.int v12), .val (.int v16), .unset] [(.long v4), (.ref ea0), (.int (own_ho0 p1 v4))]))
    refine own_via (fun _ k => XS.lloadN X17.here hx rfl (hb hby at_72) rfl k) ?_
    show own_Go p e below s _ _ _ (T17.setTop (mkF m 73 #[.val (.int p0), .val (.long p1), .second, .val (.long p2), .second, .val (.ref ea0), .val (.long v4), .second, .val (.int v7), .val (.int v12), .val (.int v16), .unset] [(.long p1), (.long v4), (.ref ea0), (.int (own_ho0 p1 v4))]))
    have F20 := kE.ext O0.2
    obtain ⟨cq19, kq19, qa19, qb19, qc19⟩ := isOf hZ e17 F20
    obtain ⟨_, _, ⟨T19, L19, k19, n19⟩, -, X19, ⟨Lc19, hQ19, l19, y19, z19⟩, st19⟩ := X17.virtualBack hx (y := (⟨"com/example/trajectory/trajectory/model/Condition$Operator", "holds", "(JJ)Z"⟩ : MethodName)) (z := (⟨"com/example/trajectory/trajectory/model/Condition$Operator", "holds", "(JJ)Z"⟩ : MethodName)) hown (mvT hZ (hw _ (List.mem_of_getElem? (i := 49) rfl))) (mvT hZ (hw _ (List.mem_of_getElem? (i := 50) rfl))) (notFace_of_selects (args := #[]) (mvT hZ (hw _ (List.mem_of_getElem? (i := 52) rfl)))) (mvT hZ (hw _ (List.mem_of_getElem? (i := 52) rfl))) (mvT hZ (hw _ (List.mem_of_getElem? (i := 51) rfl))) (by decide) (backOf (W := 1) (rmho0 l Z a0 hw [] ea0 v4 p1 h0 n0 Z0 O0 kO kE) hZ (hw _ (List.mem_of_getElem? (i := 53) rfl)) (hw _ (List.mem_of_getElem? (i := 6) rfl)) (by decide) (by decide)) qa19 qc19 (g := (mkF m 73 #[.val (.int p0), .val (.long p1), .second, .val (.long p2), .second, .val (.ref ea0), .val (.long v4), .second, .val (.int v7), .val (.int v12), .val (.int v16), .unset] [(.long p1), (.long v4), (.ref ea0), (.int (own_ho0 p1 v4))])) rfl (by rw [hml]; rfl) (Steps.refl _) (argsL := [(.long v4), (.long p1)]) (rest := [(.int (own_ho0 p1 v4))]) (lenOf pd_8 rfl) rfl (by show 2 * 0 + _ ≤ _; exact Nat.le_of_eq rfl) (hb hby at_73) (fun _ _ => ⟨rfl, e17, (by decide : 0 + 0 ≤ _), (by decide : 0 + 0 ≤ _)⟩)
    dsimp only [Pt.U, Pt.locs, Pt.cells, Pt.slots] at X19 l19 y19 z19 st19 hQ19
    subst l19 y19 z19
    obtain ⟨rfl, N19q, e19⟩ := hQ19
    have N19 := Fr.app N17 N19q
    refine own_viaT st19 ?_
    show own_Go p e below s _ _ _ (T19.setTop (mkF m 76 #[.val (.int p0), .val (.long p1), .second, .val (.long p2), .second, .val (.ref ea0), .val (.long v4), .second, .val (.int v7), .val (.int v12), .val (.int v16), .unset] [(.int (own_ho0 v4 p1)), (.int (own_ho0 p1 v4))]))
    have st21 : ∀ t, Steps p.tables e below (T19.setTop (mkF m 84 #[.val (.int p0), .val (.long p1), .second, .val (.long p2), .second, .val (.ref ea0), .val (.long v4), .second, .val (.int v7), .val (.int v12), .val (.int v16), .unset] [(.int (if (own_ho0 p1 v4) = (own_ho0 v4 p1) then (0 : Int32) else (1 : Int32)))])) t → Steps p.tables e below (T19.setTop (mkF m 76 #[.val (.int p0), .val (.long p1), .second, .val (.long p2), .second, .val (.ref ea0), .val (.long v4), .second, .val (.int v7), .val (.int v12), .val (.int v16), .unset] [(.int (own_ho0 v4 p1)), (.int (own_ho0 p1 v4))])) t := by
      intro t k
      by_cases hq22 : (own_ho0 p1 v4) = (own_ho0 v4 p1)
      · refine XS.icmpYes X19.here hx rfl (pc0 := 76) (pc' := 83) rfl (hb hby at_76) rfl (Jvm.Free.XT.ii_eq_t hq22) (by decide) (by decide) ?_
        show Steps p.tables e below (T19.setTop (mkF m 83 #[.val (.int p0), .val (.long p1), .second, .val (.long p2), .second, .val (.ref ea0), .val (.long v4), .second, .val (.int v7), .val (.int v12), .val (.int v16), .unset] [])) t
        refine XS.iconst X19.here hx rfl (hb hby at_83) ?_
        show Steps p.tables e below (T19.setTop (mkF m 84 #[.val (.int p0), .val (.long p1), .second, .val (.long p2), .second, .val (.ref ea0), .val (.long v4), .second, .val (.int v7), .val (.int v12), .val (.int v16), .unset] [(.int (0 : Int32))])) t
        simp only [if_pos hq22] at k
        exact k
      · refine XS.icmpNo X19.here hx rfl (hb hby at_76) rfl (Jvm.Free.XT.ii_eq_f hq22) ?_
        show Steps p.tables e below (T19.setTop (mkF m 79 #[.val (.int p0), .val (.long p1), .second, .val (.long p2), .second, .val (.ref ea0), .val (.long v4), .second, .val (.int v7), .val (.int v12), .val (.int v16), .unset] [])) t
        refine XS.iconst X19.here hx rfl (hb hby at_79) ?_
        show Steps p.tables e below (T19.setTop (mkF m 80 #[.val (.int p0), .val (.long p1), .second, .val (.long p2), .second, .val (.ref ea0), .val (.long v4), .second, .val (.int v7), .val (.int v12), .val (.int v16), .unset] [(.int (1 : Int32))])) t
        refine XS.goto X19.here hx rfl (pc0 := 80) (pc' := 84) rfl (hb hby at_80) (by decide) (by decide) ?_
        show Steps p.tables e below (T19.setTop (mkF m 84 #[.val (.int p0), .val (.long p1), .second, .val (.long p2), .second, .val (.ref ea0), .val (.long v4), .second, .val (.int v7), .val (.int v12), .val (.int v16), .unset] [(.int (1 : Int32))])) t
        simp only [if_neg hq22] at k
        exact k
    refine own_via st21 ?_
    show own_Go p e below s _ _ _ (T19.setTop (mkF m 84 #[.val (.int p0), .val (.long p1), .second, .val (.long p2), .second, .val (.ref ea0), .val (.long v4), .second, .val (.int v7), .val (.int v12), .val (.int v16), .unset] [(.int (if (own_ho0 p1 v4) = (own_ho0 v4 p1) then (0 : Int32) else (1 : Int32)))]))
    refine own_via (fun _ k => XS.istore X19.here hx rfl (hb hby at_84) rfl (l' := #[.val (.int p0), .val (.long p1), .second, .val (.long p2), .second, .val (.ref ea0), .val (.long v4), .second, .val (.int v7), .val (.int v12), .val (.int v16), .val (.int (if (own_ho0 p1 v4) = (own_ho0 v4 p1) then (0 : Int32) else (1 : Int32)))]) rfl k) ?_
    show own_Go p e below s _ _ _ (T19.setTop (mkF m 86 #[.val (.int p0), .val (.long p1), .second, .val (.long p2), .second, .val (.ref ea0), .val (.long v4), .second, .val (.int v7), .val (.int v12), .val (.int v16), .val (.int (if (own_ho0 p1 v4) = (own_ho0 v4 p1) then (0 : Int32) else (1 : Int32)))] []))
    generalize hv23 : (if (own_ho0 p1 v4) = (own_ho0 v4 p1) then (0 : Int32) else (1 : Int32)) = v23
    show own_Go p e below s _ _ _ (T19.setTop (mkF m 86 #[.val (.int p0), .val (.long p1), .second, .val (.long p2), .second, .val (.ref ea0), .val (.long v4), .second, .val (.int v7), .val (.int v12), .val (.int v16), .val (.int v23)] []))
    refine own_via (fun _ k => XS.iload X19.here hx rfl (hb hby at_86) rfl k) ?_
    show own_Go p e below s _ _ _ (T19.setTop (mkF m 88 #[.val (.int p0), .val (.long p1), .second, .val (.long p2), .second, .val (.ref ea0), .val (.long v4), .second, .val (.int v7), .val (.int v12), .val (.int v16), .val (.int v23)] [(.int v7)]))
    refine own_via (fun _ k => XS.iload X19.here hx rfl (hb hby at_88) rfl k) ?_
    show own_Go p e below s _ _ _ (T19.setTop (mkF m 90 #[.val (.int p0), .val (.long p1), .second, .val (.long p2), .second, .val (.ref ea0), .val (.long v4), .second, .val (.int v7), .val (.int v12), .val (.int v16), .val (.int v23)] [(.int v16), (.int v7)]))
    have hc24 : v7 = v16 := by rw [← hv7, ← hv16, ← hv12]; unfold own_ord; rw [if_pos rfl]; decide
    refine own_via (fun _ k => XS.icmpNo X19.here hx rfl (hb hby at_90) rfl (Jvm.Free.XT.ii_ne_f hc24) k) ?_
    show own_Go p e below s _ _ _ (T19.setTop (mkF m 93 #[.val (.int p0), .val (.long p1), .second, .val (.long p2), .second, .val (.ref ea0), .val (.long v4), .second, .val (.int v7), .val (.int v12), .val (.int v16), .val (.int v23)] []))
    refine own_via (fun _ k => XS.iload X19.here hx rfl (hb hby at_93) rfl k) ?_
    show own_Go p e below s _ _ _ (T19.setTop (mkF m 95 #[.val (.int p0), .val (.long p1), .second, .val (.long p2), .second, .val (.ref ea0), .val (.long v4), .second, .val (.int v7), .val (.int v12), .val (.int v16), .val (.int v23)] [(.int v7)]))
    refine own_via (fun _ k => XS.iload X19.here hx rfl (hb hby at_95) rfl k) ?_
    show own_Go p e below s _ _ _ (T19.setTop (mkF m 97 #[.val (.int p0), .val (.long p1), .second, .val (.long p2), .second, .val (.ref ea0), .val (.long v4), .second, .val (.int v7), .val (.int v12), .val (.int v16), .val (.int v23)] [(.int v23), (.int v7)]))
    have hc25 : v7 = v23 := by rw [← hv7]; unfold own_ord; rw [if_pos rfl]; exact own_fin0 (own_ne hv4) hv23
    refine own_via (fun _ k => XS.icmpNo X19.here hx rfl (hb hby at_97) rfl (Jvm.Free.XT.ii_ne_f hc25) k) ?_
    show own_Go p e below s _ _ _ (T19.setTop (mkF m 100 #[.val (.int p0), .val (.long p1), .second, .val (.long p2), .second, .val (.ref ea0), .val (.long v4), .second, .val (.int v7), .val (.int v12), .val (.int v16), .val (.int v23)] []))
    refine own_via (fun _ k => XS.iconst X19.here hx rfl (hb hby at_100) k) ?_
    show own_Go p e below s _ _ _ (T19.setTop (mkF m 101 #[.val (.int p0), .val (.long p1), .second, .val (.long p2), .second, .val (.ref ea0), .val (.long v4), .second, .val (.int v7), .val (.int v12), .val (.int v16), .val (.int v23)] [(.int (1 : Int32))]))
    refine own_via (fun _ k => XS.goto X19.here hx rfl (pc0 := 101) (pc' := 105) rfl (hb hby at_101) (by decide) (by decide) k) ?_
    show own_Go p e below s _ _ _ (T19.setTop (mkF m 105 #[.val (.int p0), .val (.long p1), .second, .val (.long p2), .second, .val (.ref ea0), .val (.long v4), .second, .val (.int v7), .val (.int v12), .val (.int v16), .val (.int v23)] [(.int (1 : Int32))]))
    exact own_goN X19 hx (t := .boolean) Bd.returns (by simp) (hb hby at_105) Bd.notSynchronized (by decide) (by decide) (by rw [e19]; exact ⟨rfl, N19⟩)
  · rw [hk]
    show own_Go p e below s _ _ _ (T1.setTop (mkF m 4 #[.val (.int p0), .val (.long p1), .second, .val (.long p2), .second, .unset, .unset, .unset, .unset, .unset, .unset, .unset] [(.ref ea1)]))
    have ko0 := hp8.2.1
    have ko1 := hp9.2.1
    obtain ⟨kE, kO, kS, kX, kC, kV, kA, kZ, kT⟩ := hp9
    have ne0 : ea1 ≠ ea0 := Fld.ne ko1 ko0 (fun q => absurd (Value.int.inj q) (by decide))
    refine own_via (fun _ k => XS.astore X1.here hx rfl (hb hby at_4) rfl rfl (l' := #[.val (.int p0), .val (.long p1), .second, .val (.long p2), .second, .val (.ref ea1), .unset, .unset, .unset, .unset, .unset, .unset]) rfl k) ?_
    show own_Go p e below s _ _ _ (T1.setTop (mkF m 6 #[.val (.int p0), .val (.long p1), .second, .val (.long p2), .second, .val (.ref ea1), .unset, .unset, .unset, .unset, .unset, .unset] []))
    refine own_via (fun _ k => XS.lloadN X1.here hx rfl (hb hby at_6) rfl k) ?_
    show own_Go p e below s _ _ _ (T1.setTop (mkF m 7 #[.val (.int p0), .val (.long p1), .second, .val (.long p2), .second, .val (.ref ea1), .unset, .unset, .unset, .unset, .unset, .unset] [(.long p2)]))
    refine own_via (fun _ k => XS.lstore X1.here hx rfl (hb hby at_7) rfl (l' := #[.val (.int p0), .val (.long p1), .second, .val (.long p2), .second, .val (.ref ea1), .val (.long p2), .second, .unset, .unset, .unset, .unset]) rfl k) ?_
    show own_Go p e below s _ _ _ (T1.setTop (mkF m 9 #[.val (.int p0), .val (.long p1), .second, .val (.long p2), .second, .val (.ref ea1), .val (.long p2), .second, .unset, .unset, .unset, .unset] []))
    have st26 : ∀ t, Steps p.tables e below (T1.setTop (mkF m 21 #[.val (.int p0), .val (.long p1), .second, .val (.long p2), .second, .val (.ref ea1), .val (.long (if p1 = p2 then (p1 ^^^ (1 : Int64)) else p2)), .second, .unset, .unset, .unset, .unset] [])) t → Steps p.tables e below (T1.setTop (mkF m 9 #[.val (.int p0), .val (.long p1), .second, .val (.long p2), .second, .val (.ref ea1), .val (.long p2), .second, .unset, .unset, .unset, .unset] [])) t := by
      intro t k
      refine XS.lloadN X1.here hx rfl (hb hby at_9) rfl ?_
      show Steps p.tables e below (T1.setTop (mkF m 10 #[.val (.int p0), .val (.long p1), .second, .val (.long p2), .second, .val (.ref ea1), .val (.long p2), .second, .unset, .unset, .unset, .unset] [(.long p1)])) t
      refine XS.lload X1.here hx rfl (hb hby at_10) rfl ?_
      show Steps p.tables e below (T1.setTop (mkF m 12 #[.val (.int p0), .val (.long p1), .second, .val (.long p2), .second, .val (.ref ea1), .val (.long p2), .second, .unset, .unset, .unset, .unset] [(.long p2), (.long p1)])) t
      refine XS.lcmp X1.here hx rfl (hb hby at_12) rfl ?_
      show Steps p.tables e below (T1.setTop (mkF m 13 #[.val (.int p0), .val (.long p1), .second, .val (.long p2), .second, .val (.ref ea1), .val (.long p2), .second, .unset, .unset, .unset, .unset] [(.int (lcmpW p1 p2))])) t
      by_cases hq27 : p1 = p2
      · refine XS.ifNo X1.here hx rfl (hb hby at_13) rfl (Jvm.Free.XT.ll_ne_f hq27) ?_
        show Steps p.tables e below (T1.setTop (mkF m 16 #[.val (.int p0), .val (.long p1), .second, .val (.long p2), .second, .val (.ref ea1), .val (.long p2), .second, .unset, .unset, .unset, .unset] [])) t
        refine XS.lloadN X1.here hx rfl (hb hby at_16) rfl ?_
        show Steps p.tables e below (T1.setTop (mkF m 17 #[.val (.int p0), .val (.long p1), .second, .val (.long p2), .second, .val (.ref ea1), .val (.long p2), .second, .unset, .unset, .unset, .unset] [(.long p1)])) t
        refine XS.lconst X1.here hx rfl (hb hby at_17) ?_
        show Steps p.tables e below (T1.setTop (mkF m 18 #[.val (.int p0), .val (.long p1), .second, .val (.long p2), .second, .val (.ref ea1), .val (.long p2), .second, .unset, .unset, .unset, .unset] [(.long (1 : Int64)), (.long p1)])) t
        refine XS.lxor X1.here hx rfl (hb hby at_18) rfl ?_
        show Steps p.tables e below (T1.setTop (mkF m 19 #[.val (.int p0), .val (.long p1), .second, .val (.long p2), .second, .val (.ref ea1), .val (.long p2), .second, .unset, .unset, .unset, .unset] [(.long (p1 ^^^ (1 : Int64)))])) t
        refine XS.lstore X1.here hx rfl (hb hby at_19) rfl (l' := #[.val (.int p0), .val (.long p1), .second, .val (.long p2), .second, .val (.ref ea1), .val (.long (p1 ^^^ (1 : Int64))), .second, .unset, .unset, .unset, .unset]) rfl ?_
        show Steps p.tables e below (T1.setTop (mkF m 21 #[.val (.int p0), .val (.long p1), .second, .val (.long p2), .second, .val (.ref ea1), .val (.long (p1 ^^^ (1 : Int64))), .second, .unset, .unset, .unset, .unset] [])) t
        simp only [if_pos hq27] at k
        exact k
      · refine XS.ifYes X1.here hx rfl (pc0 := 13) (pc' := 21) rfl (hb hby at_13) rfl (Jvm.Free.XT.ll_ne_t hq27) (by decide) (by decide) ?_
        show Steps p.tables e below (T1.setTop (mkF m 21 #[.val (.int p0), .val (.long p1), .second, .val (.long p2), .second, .val (.ref ea1), .val (.long p2), .second, .unset, .unset, .unset, .unset] [])) t
        simp only [if_neg hq27] at k
        exact k
    refine own_via st26 ?_
    show own_Go p e below s _ _ _ (T1.setTop (mkF m 21 #[.val (.int p0), .val (.long p1), .second, .val (.long p2), .second, .val (.ref ea1), .val (.long (if p1 = p2 then (p1 ^^^ (1 : Int64)) else p2)), .second, .unset, .unset, .unset, .unset] []))
    generalize hv28 : (if p1 = p2 then (p1 ^^^ (1 : Int64)) else p2) = v28
    show own_Go p e below s _ _ _ (T1.setTop (mkF m 21 #[.val (.int p0), .val (.long p1), .second, .val (.long p2), .second, .val (.ref ea1), .val (.long v28), .second, .unset, .unset, .unset, .unset] []))
    refine own_via (fun _ k => XS.aload X1.here hx rfl (hb hby at_21) rfl rfl k) ?_
    show own_Go p e below s _ _ _ (T1.setTop (mkF m 23 #[.val (.int p0), .val (.long p1), .second, .val (.long p2), .second, .val (.ref ea1), .val (.long v28), .second, .unset, .unset, .unset, .unset] [(.ref ea1)]))
    have F30 := kE.ext O0.2
    obtain ⟨cq29, kq29, qa29, qb29, qc29⟩ := isOf hZ e1 F30
    obtain ⟨_, _, ⟨T29, L29, k29, n29⟩, -, X29, ⟨Lc29, hQ29, l29, y29, z29⟩, st29⟩ := X1.virtualBack hx (y := (⟨"com/example/trajectory/trajectory/model/Condition$Operator", "orders", "()Z"⟩ : MethodName)) (z := (⟨"com/example/trajectory/trajectory/model/Condition$Operator", "orders", "()Z"⟩ : MethodName)) hown (mvT hZ (hw _ (List.mem_of_getElem? (i := 8) rfl))) (mvT hZ (hw _ (List.mem_of_getElem? (i := 9) rfl))) (notFace_of_selects (args := #[]) (mvT hZ (hw _ (List.mem_of_getElem? (i := 11) rfl)))) (mvT hZ (hw _ (List.mem_of_getElem? (i := 11) rfl))) (mvT hZ (hw _ (List.mem_of_getElem? (i := 10) rfl))) (by decide) (backOf (W := 0) (rm2 l Z a0 hw [] ea1 ea0 ea1 h0 n0 Z0 O0 S_EQUALS S_NOT_EQUALS) hZ (hw _ (List.mem_of_getElem? (i := 12) rfl)) (hw _ (List.mem_of_getElem? (i := 6) rfl)) (by decide) (by decide)) qa29 qc29 (g := (mkF m 23 #[.val (.int p0), .val (.long p1), .second, .val (.long p2), .second, .val (.ref ea1), .val (.long v28), .second, .unset, .unset, .unset, .unset] [(.ref ea1)])) rfl (by rw [hml]; rfl) (Steps.refl _) (argsL := []) (rest := []) (lenOf pd_2 rfl) rfl (by show 2 * 0 + _ ≤ _; exact Nat.le_of_eq rfl) (hb hby at_23) (fun _ _ => ⟨rfl, e1, (by decide : 0 + 0 ≤ _), (by decide : 0 + 0 ≤ _)⟩)
    dsimp only [Pt.U, Pt.locs, Pt.cells, Pt.slots] at X29 l29 y29 z29 st29 hQ29
    subst l29 y29 z29
    obtain ⟨rfl, N29q, e29⟩ := hQ29
    have N29 := Fr.app N1 N29q
    refine own_viaT st29 ?_
    show own_Go p e below s _ _ _ (T29.setTop (mkF m 26 #[.val (.int p0), .val (.long p1), .second, .val (.long p2), .second, .val (.ref ea1), .val (.long v28), .second, .unset, .unset, .unset, .unset] [(.int (own_ord ea1 ea0 ea1))]))
    refine own_via (fun _ k => XS.istore X29.here hx rfl (hb hby at_26) rfl (l' := #[.val (.int p0), .val (.long p1), .second, .val (.long p2), .second, .val (.ref ea1), .val (.long v28), .second, .val (.int (own_ord ea1 ea0 ea1)), .unset, .unset, .unset]) rfl k) ?_
    show own_Go p e below s _ _ _ (T29.setTop (mkF m 28 #[.val (.int p0), .val (.long p1), .second, .val (.long p2), .second, .val (.ref ea1), .val (.long v28), .second, .val (.int (own_ord ea1 ea0 ea1)), .unset, .unset, .unset] []))
    generalize hv31 : (own_ord ea1 ea0 ea1) = v31
    show own_Go p e below s _ _ _ (T29.setTop (mkF m 28 #[.val (.int p0), .val (.long p1), .second, .val (.long p2), .second, .val (.ref ea1), .val (.long v28), .second, .val (.int v31), .unset, .unset, .unset] []))
    refine own_via (fun _ k => XS.aload X29.here hx rfl (hb hby at_28) rfl rfl k) ?_
    show own_Go p e below s _ _ _ (T29.setTop (mkF m 30 #[.val (.int p0), .val (.long p1), .second, .val (.long p2), .second, .val (.ref ea1), .val (.long v28), .second, .val (.int v31), .unset, .unset, .unset] [(.ref ea1)]))
    have F33 := kE.ext O0.2
    obtain ⟨cq32, kq32, qa32, qb32, qc32⟩ := isOf hZ e29 F33
    obtain ⟨_, _, ⟨T32, L32, k32, n32⟩, -, X32, ⟨Lc32, hQ32, l32, y32, z32⟩, st32⟩ := X29.virtualBack hx (y := (⟨"com/example/trajectory/trajectory/model/Condition$Operator", "symbol", "()Ljava/lang/String;"⟩ : MethodName)) (z := (⟨"com/example/trajectory/trajectory/model/Condition$Operator", "symbol", "()Ljava/lang/String;"⟩ : MethodName)) hown (mvT hZ (hw _ (List.mem_of_getElem? (i := 14) rfl))) (mvT hZ (hw _ (List.mem_of_getElem? (i := 15) rfl))) (notFace_of_selects (args := #[]) (mvT hZ (hw _ (List.mem_of_getElem? (i := 17) rfl)))) (mvT hZ (hw _ (List.mem_of_getElem? (i := 17) rfl))) (mvT hZ (hw _ (List.mem_of_getElem? (i := 16) rfl))) (by decide) (backOf (W := 0) (rm3 l Z a0 hw [] ea1 sa1 h0 n0 Z0 O0 kS) hZ (hw _ (List.mem_of_getElem? (i := 18) rfl)) (hw _ (List.mem_of_getElem? (i := 6) rfl)) (by decide) (by decide)) qa32 qc32 (g := (mkF m 30 #[.val (.int p0), .val (.long p1), .second, .val (.long p2), .second, .val (.ref ea1), .val (.long v28), .second, .val (.int v31), .unset, .unset, .unset] [(.ref ea1)])) rfl (by rw [hml]; rfl) (Steps.refl _) (argsL := []) (rest := []) (lenOf pd_6 rfl) rfl (by show 2 * 0 + _ ≤ _; exact Nat.le_of_eq rfl) (hb hby at_30) (fun _ _ => ⟨rfl, e29, (by decide : 0 + 0 ≤ _), (by decide : 0 + 0 ≤ _)⟩)
    dsimp only [Pt.U, Pt.locs, Pt.cells, Pt.slots] at X32 l32 y32 z32 st32 hQ32
    subst l32 y32 z32
    obtain ⟨rfl, N32q, e32⟩ := hQ32
    have N32 := Fr.app N29 N32q
    refine own_viaT st32 ?_
    show own_Go p e below s _ _ _ (T32.setTop (mkF m 33 #[.val (.int p0), .val (.long p1), .second, .val (.long p2), .second, .val (.ref ea1), .val (.long v28), .second, .val (.int v31), .unset, .unset, .unset] [(.ref sa1)]))
    refine own_via (fun _ k => XS.iconst X32.here hx rfl (hb hby at_33) k) ?_
    show own_Go p e below s _ _ _ (T32.setTop (mkF m 34 #[.val (.int p0), .val (.long p1), .second, .val (.long p2), .second, .val (.ref ea1), .val (.long v28), .second, .val (.int v31), .unset, .unset, .unset] [(.int (0 : Int32)), (.ref sa1)]))
    have F35 := kX.ext O0.2
    obtain ⟨cq34, kq34, qa34, qb34, qc34⟩ := isOf hZ e32 F35
    obtain ⟨_, _, ⟨T34, L34, k34, n34⟩, -, X34, ⟨Lc34, hQ34, l34, y34, z34⟩, st34⟩ := X32.virtualBack hx (y := (⟨"java/lang/String", "charAt", "(I)C"⟩ : MethodName)) (z := (⟨"java/lang/String", "charAt", "(I)C"⟩ : MethodName)) hown (mvT hZ (hw _ (List.mem_of_getElem? (i := 21) rfl))) (mvT hZ (hw _ (List.mem_of_getElem? (i := 22) rfl))) (notFace_of_selects (args := #[]) (mvT hZ (hw _ (List.mem_of_getElem? (i := 24) rfl)))) (mvT hZ (hw _ (List.mem_of_getElem? (i := 24) rfl))) (mvT hZ (hw _ (List.mem_of_getElem? (i := 23) rfl))) (by decide) (backOf (W := 0) (rm4 l Z a0 hw [] sa1 (0 : Int32) va1 cs_ cl1 (2 : Int32) (33 : Int32) fm_ h0 n0 Z0 O0 S_SIOOBE_FORMATTER S_COMPACT_STRINGS kC kV kA kZ (by decide) (by decide) kT hp14 kX (by rfl) hp15) hZ (hw _ (List.mem_of_getElem? (i := 26) rfl)) (hw _ (List.mem_of_getElem? (i := 25) rfl)) (by decide) (by decide)) qa34 qc34 (g := (mkF m 34 #[.val (.int p0), .val (.long p1), .second, .val (.long p2), .second, .val (.ref ea1), .val (.long v28), .second, .val (.int v31), .unset, .unset, .unset] [(.int (0 : Int32)), (.ref sa1)])) rfl (by rw [hml]; rfl) (Steps.refl _) (argsL := [(.int (0 : Int32))]) (rest := []) (lenOf pd_7 rfl) rfl (by show 2 * 0 + _ ≤ _; exact Nat.le_of_eq rfl) (hb hby at_34) (fun _ _ => ⟨rfl, e32, (by decide : 0 + 0 ≤ _), (by decide : 0 + 0 ≤ _)⟩)
    dsimp only [Pt.U, Pt.locs, Pt.cells, Pt.slots] at X34 l34 y34 z34 st34 hQ34
    subst l34 y34 z34
    obtain ⟨rfl, N34q, e34⟩ := hQ34
    have N34 := Fr.app N32 N34q
    refine own_viaT st34 ?_
    show own_Go p e below s _ _ _ (T34.setTop (mkF m 37 #[.val (.int p0), .val (.long p1), .second, .val (.long p2), .second, .val (.ref ea1), .val (.long v28), .second, .val (.int v31), .unset, .unset, .unset] [(.int (nar .char (nar .char (o_i2c ((33 : Int32) &&& (255 : Int32))))))]))
    refine own_via (fun _ k => XS.istore X34.here hx rfl (hb hby at_37) rfl (l' := #[.val (.int p0), .val (.long p1), .second, .val (.long p2), .second, .val (.ref ea1), .val (.long v28), .second, .val (.int v31), .val (.int (nar .char (nar .char (o_i2c ((33 : Int32) &&& (255 : Int32)))))), .unset, .unset]) rfl k) ?_
    show own_Go p e below s _ _ _ (T34.setTop (mkF m 39 #[.val (.int p0), .val (.long p1), .second, .val (.long p2), .second, .val (.ref ea1), .val (.long v28), .second, .val (.int v31), .val (.int (nar .char (nar .char (o_i2c ((33 : Int32) &&& (255 : Int32)))))), .unset, .unset] []))
    generalize hv36 : (nar .char (nar .char (o_i2c ((33 : Int32) &&& (255 : Int32))))) = v36
    show own_Go p e below s _ _ _ (T34.setTop (mkF m 39 #[.val (.int p0), .val (.long p1), .second, .val (.long p2), .second, .val (.ref ea1), .val (.long v28), .second, .val (.int v31), .val (.int v36), .unset, .unset] []))
    have st37 : ∀ t, Steps p.tables e below (T34.setTop (mkF m 58 #[.val (.int p0), .val (.long p1), .second, .val (.long p2), .second, .val (.ref ea1), .val (.long v28), .second, .val (.int v31), .val (.int v36), .unset, .unset] [(.int (if v36 = (60 : Int32) then (1 : Int32) else (if v36 = (62 : Int32) then (1 : Int32) else (0 : Int32))))])) t → Steps p.tables e below (T34.setTop (mkF m 39 #[.val (.int p0), .val (.long p1), .second, .val (.long p2), .second, .val (.ref ea1), .val (.long v28), .second, .val (.int v31), .val (.int v36), .unset, .unset] [])) t := by
      intro t k
      refine XS.iload X34.here hx rfl (hb hby at_39) rfl ?_
      show Steps p.tables e below (T34.setTop (mkF m 41 #[.val (.int p0), .val (.long p1), .second, .val (.long p2), .second, .val (.ref ea1), .val (.long v28), .second, .val (.int v31), .val (.int v36), .unset, .unset] [(.int v36)])) t
      refine XS.bipush X34.here hx rfl (hb hby at_41) ?_
      show Steps p.tables e below (T34.setTop (mkF m 43 #[.val (.int p0), .val (.long p1), .second, .val (.long p2), .second, .val (.ref ea1), .val (.long v28), .second, .val (.int v31), .val (.int v36), .unset, .unset] [(.int (60 : Int32)), (.int v36)])) t
      by_cases hq38 : v36 = (60 : Int32)
      · refine XS.icmpYes X34.here hx rfl (pc0 := 43) (pc' := 53) rfl (hb hby at_43) rfl (Jvm.Free.XT.ii_eq_t hq38) (by decide) (by decide) ?_
        show Steps p.tables e below (T34.setTop (mkF m 53 #[.val (.int p0), .val (.long p1), .second, .val (.long p2), .second, .val (.ref ea1), .val (.long v28), .second, .val (.int v31), .val (.int v36), .unset, .unset] [])) t
        refine XS.iconst X34.here hx rfl (hb hby at_53) ?_
        show Steps p.tables e below (T34.setTop (mkF m 54 #[.val (.int p0), .val (.long p1), .second, .val (.long p2), .second, .val (.ref ea1), .val (.long v28), .second, .val (.int v31), .val (.int v36), .unset, .unset] [(.int (1 : Int32))])) t
        refine XS.goto X34.here hx rfl (pc0 := 54) (pc' := 58) rfl (hb hby at_54) (by decide) (by decide) ?_
        show Steps p.tables e below (T34.setTop (mkF m 58 #[.val (.int p0), .val (.long p1), .second, .val (.long p2), .second, .val (.ref ea1), .val (.long v28), .second, .val (.int v31), .val (.int v36), .unset, .unset] [(.int (1 : Int32))])) t
        simp only [if_pos hq38] at k
        exact k
      · refine XS.icmpNo X34.here hx rfl (hb hby at_43) rfl (Jvm.Free.XT.ii_eq_f hq38) ?_
        show Steps p.tables e below (T34.setTop (mkF m 46 #[.val (.int p0), .val (.long p1), .second, .val (.long p2), .second, .val (.ref ea1), .val (.long v28), .second, .val (.int v31), .val (.int v36), .unset, .unset] [])) t
        refine XS.iload X34.here hx rfl (hb hby at_46) rfl ?_
        show Steps p.tables e below (T34.setTop (mkF m 48 #[.val (.int p0), .val (.long p1), .second, .val (.long p2), .second, .val (.ref ea1), .val (.long v28), .second, .val (.int v31), .val (.int v36), .unset, .unset] [(.int v36)])) t
        refine XS.bipush X34.here hx rfl (hb hby at_48) ?_
        show Steps p.tables e below (T34.setTop (mkF m 50 #[.val (.int p0), .val (.long p1), .second, .val (.long p2), .second, .val (.ref ea1), .val (.long v28), .second, .val (.int v31), .val (.int v36), .unset, .unset] [(.int (62 : Int32)), (.int v36)])) t
        by_cases hq39 : v36 = (62 : Int32)
        · refine XS.icmpNo X34.here hx rfl (hb hby at_50) rfl (Jvm.Free.XT.ii_ne_f hq39) ?_
          show Steps p.tables e below (T34.setTop (mkF m 53 #[.val (.int p0), .val (.long p1), .second, .val (.long p2), .second, .val (.ref ea1), .val (.long v28), .second, .val (.int v31), .val (.int v36), .unset, .unset] [])) t
          refine XS.iconst X34.here hx rfl (hb hby at_53) ?_
          show Steps p.tables e below (T34.setTop (mkF m 54 #[.val (.int p0), .val (.long p1), .second, .val (.long p2), .second, .val (.ref ea1), .val (.long v28), .second, .val (.int v31), .val (.int v36), .unset, .unset] [(.int (1 : Int32))])) t
          refine XS.goto X34.here hx rfl (pc0 := 54) (pc' := 58) rfl (hb hby at_54) (by decide) (by decide) ?_
          show Steps p.tables e below (T34.setTop (mkF m 58 #[.val (.int p0), .val (.long p1), .second, .val (.long p2), .second, .val (.ref ea1), .val (.long v28), .second, .val (.int v31), .val (.int v36), .unset, .unset] [(.int (1 : Int32))])) t
          simp only [if_neg hq38, if_pos hq39] at k
          exact k
        · refine XS.icmpYes X34.here hx rfl (pc0 := 50) (pc' := 57) rfl (hb hby at_50) rfl (Jvm.Free.XT.ii_ne_t hq39) (by decide) (by decide) ?_
          show Steps p.tables e below (T34.setTop (mkF m 57 #[.val (.int p0), .val (.long p1), .second, .val (.long p2), .second, .val (.ref ea1), .val (.long v28), .second, .val (.int v31), .val (.int v36), .unset, .unset] [])) t
          refine XS.iconst X34.here hx rfl (hb hby at_57) ?_
          show Steps p.tables e below (T34.setTop (mkF m 58 #[.val (.int p0), .val (.long p1), .second, .val (.long p2), .second, .val (.ref ea1), .val (.long v28), .second, .val (.int v31), .val (.int v36), .unset, .unset] [(.int (0 : Int32))])) t
          simp only [if_neg hq38, if_neg hq39] at k
          exact k
    refine own_via st37 ?_
    show own_Go p e below s _ _ _ (T34.setTop (mkF m 58 #[.val (.int p0), .val (.long p1), .second, .val (.long p2), .second, .val (.ref ea1), .val (.long v28), .second, .val (.int v31), .val (.int v36), .unset, .unset] [(.int (if v36 = (60 : Int32) then (1 : Int32) else (if v36 = (62 : Int32) then (1 : Int32) else (0 : Int32))))]))
    refine own_via (fun _ k => XS.istore X34.here hx rfl (hb hby at_58) rfl (l' := #[.val (.int p0), .val (.long p1), .second, .val (.long p2), .second, .val (.ref ea1), .val (.long v28), .second, .val (.int v31), .val (.int v36), .val (.int (if v36 = (60 : Int32) then (1 : Int32) else (if v36 = (62 : Int32) then (1 : Int32) else (0 : Int32)))), .unset]) rfl k) ?_
    show own_Go p e below s _ _ _ (T34.setTop (mkF m 60 #[.val (.int p0), .val (.long p1), .second, .val (.long p2), .second, .val (.ref ea1), .val (.long v28), .second, .val (.int v31), .val (.int v36), .val (.int (if v36 = (60 : Int32) then (1 : Int32) else (if v36 = (62 : Int32) then (1 : Int32) else (0 : Int32)))), .unset] []))
    generalize hv40 : (if v36 = (60 : Int32) then (1 : Int32) else (if v36 = (62 : Int32) then (1 : Int32) else (0 : Int32))) = v40
    show own_Go p e below s _ _ _ (T34.setTop (mkF m 60 #[.val (.int p0), .val (.long p1), .second, .val (.long p2), .second, .val (.ref ea1), .val (.long v28), .second, .val (.int v31), .val (.int v36), .val (.int v40), .unset] []))
    refine own_via (fun _ k => XS.aload X34.here hx rfl (hb hby at_60) rfl rfl k) ?_
    show own_Go p e below s _ _ _ (T34.setTop (mkF m 62 #[.val (.int p0), .val (.long p1), .second, .val (.long p2), .second, .val (.ref ea1), .val (.long v28), .second, .val (.int v31), .val (.int v36), .val (.int v40), .unset] [(.ref ea1)]))
    refine own_via (fun _ k => XS.lloadN X34.here hx rfl (hb hby at_62) rfl k) ?_
    show own_Go p e below s _ _ _ (T34.setTop (mkF m 63 #[.val (.int p0), .val (.long p1), .second, .val (.long p2), .second, .val (.ref ea1), .val (.long v28), .second, .val (.int v31), .val (.int v36), .val (.int v40), .unset] [(.long p1), (.ref ea1)]))
    refine own_via (fun _ k => XS.lload X34.here hx rfl (hb hby at_63) rfl k) ?_
    show own_Go p e below s _ _ _ (T34.setTop (mkF m 65 #[.val (.int p0), .val (.long p1), .second, .val (.long p2), .second, .val (.ref ea1), .val (.long v28), .second, .val (.int v31), .val (.int v36), .val (.int v40), .unset] [(.long v28), (.long p1), (.ref ea1)]))
    have F42 := kE.ext O0.2
    obtain ⟨cq41, kq41, qa41, qb41, qc41⟩ := isOf hZ e34 F42
    obtain ⟨_, _, ⟨T41, L41, k41, n41⟩, -, X41, ⟨Lc41, hQ41, l41, y41, z41⟩, st41⟩ := X34.virtualBack hx (y := (⟨"com/example/trajectory/trajectory/model/Condition$Operator", "holds", "(JJ)Z"⟩ : MethodName)) (z := (⟨"com/example/trajectory/trajectory/model/Condition$Operator", "holds", "(JJ)Z"⟩ : MethodName)) hown (mvT hZ (hw _ (List.mem_of_getElem? (i := 49) rfl))) (mvT hZ (hw _ (List.mem_of_getElem? (i := 50) rfl))) (notFace_of_selects (args := #[]) (mvT hZ (hw _ (List.mem_of_getElem? (i := 52) rfl)))) (mvT hZ (hw _ (List.mem_of_getElem? (i := 52) rfl))) (mvT hZ (hw _ (List.mem_of_getElem? (i := 51) rfl))) (by decide) (backOf (W := 0) (rmho1 l Z a0 hw [] ea1 p1 v28 h0 n0 Z0 O0 kO kE) hZ (hw _ (List.mem_of_getElem? (i := 53) rfl)) (hw _ (List.mem_of_getElem? (i := 6) rfl)) (by decide) (by decide)) qa41 qc41 (g := (mkF m 65 #[.val (.int p0), .val (.long p1), .second, .val (.long p2), .second, .val (.ref ea1), .val (.long v28), .second, .val (.int v31), .val (.int v36), .val (.int v40), .unset] [(.long v28), (.long p1), (.ref ea1)])) rfl (by rw [hml]; rfl) (Steps.refl _) (argsL := [(.long p1), (.long v28)]) (rest := []) (lenOf pd_8 rfl) rfl (by show 2 * 0 + _ ≤ _; exact Nat.le_of_eq rfl) (hb hby at_65) (fun _ _ => ⟨rfl, e34, (by decide : 0 + 0 ≤ _), (by decide : 0 + 0 ≤ _)⟩)
    dsimp only [Pt.U, Pt.locs, Pt.cells, Pt.slots] at X41 l41 y41 z41 st41 hQ41
    subst l41 y41 z41
    obtain ⟨rfl, N41q, e41⟩ := hQ41
    have N41 := Fr.app N34 N41q
    refine own_viaT st41 ?_
    show own_Go p e below s _ _ _ (T41.setTop (mkF m 68 #[.val (.int p0), .val (.long p1), .second, .val (.long p2), .second, .val (.ref ea1), .val (.long v28), .second, .val (.int v31), .val (.int v36), .val (.int v40), .unset] [(.int (own_ho1 p1 v28))]))
    refine own_via (fun _ k => XS.aload X41.here hx rfl (hb hby at_68) rfl rfl k) ?_
    show own_Go p e below s _ _ _ (T41.setTop (mkF m 70 #[.val (.int p0), .val (.long p1), .second, .val (.long p2), .second, .val (.ref ea1), .val (.long v28), .second, .val (.int v31), .val (.int v36), .val (.int v40), .unset] [(.ref ea1), (.int (own_ho1 p1 v28))]))
    refine own_via (fun _ k => XS.lload X41.here hx rfl (hb hby at_70) rfl k) ?_
    show own_Go p e below s _ _ _ (T41.setTop (mkF m 72 #[.val (.int p0), .val (.long p1), .second, .val (.long p2), .second, .val (.ref ea1), .val (.long v28), .second, .val (.int v31), .val (.int v36), .val (.int v40), .unset] [(.long v28), (.ref ea1), (.int (own_ho1 p1 v28))]))
    refine own_via (fun _ k => XS.lloadN X41.here hx rfl (hb hby at_72) rfl k) ?_
    show own_Go p e below s _ _ _ (T41.setTop (mkF m 73 #[.val (.int p0), .val (.long p1), .second, .val (.long p2), .second, .val (.ref ea1), .val (.long v28), .second, .val (.int v31), .val (.int v36), .val (.int v40), .unset] [(.long p1), (.long v28), (.ref ea1), (.int (own_ho1 p1 v28))]))
    have F44 := kE.ext O0.2
    obtain ⟨cq43, kq43, qa43, qb43, qc43⟩ := isOf hZ e41 F44
    obtain ⟨_, _, ⟨T43, L43, k43, n43⟩, -, X43, ⟨Lc43, hQ43, l43, y43, z43⟩, st43⟩ := X41.virtualBack hx (y := (⟨"com/example/trajectory/trajectory/model/Condition$Operator", "holds", "(JJ)Z"⟩ : MethodName)) (z := (⟨"com/example/trajectory/trajectory/model/Condition$Operator", "holds", "(JJ)Z"⟩ : MethodName)) hown (mvT hZ (hw _ (List.mem_of_getElem? (i := 49) rfl))) (mvT hZ (hw _ (List.mem_of_getElem? (i := 50) rfl))) (notFace_of_selects (args := #[]) (mvT hZ (hw _ (List.mem_of_getElem? (i := 52) rfl)))) (mvT hZ (hw _ (List.mem_of_getElem? (i := 52) rfl))) (mvT hZ (hw _ (List.mem_of_getElem? (i := 51) rfl))) (by decide) (backOf (W := 1) (rmho1 l Z a0 hw [] ea1 v28 p1 h0 n0 Z0 O0 kO kE) hZ (hw _ (List.mem_of_getElem? (i := 53) rfl)) (hw _ (List.mem_of_getElem? (i := 6) rfl)) (by decide) (by decide)) qa43 qc43 (g := (mkF m 73 #[.val (.int p0), .val (.long p1), .second, .val (.long p2), .second, .val (.ref ea1), .val (.long v28), .second, .val (.int v31), .val (.int v36), .val (.int v40), .unset] [(.long p1), (.long v28), (.ref ea1), (.int (own_ho1 p1 v28))])) rfl (by rw [hml]; rfl) (Steps.refl _) (argsL := [(.long v28), (.long p1)]) (rest := [(.int (own_ho1 p1 v28))]) (lenOf pd_8 rfl) rfl (by show 2 * 0 + _ ≤ _; exact Nat.le_of_eq rfl) (hb hby at_73) (fun _ _ => ⟨rfl, e41, (by decide : 0 + 0 ≤ _), (by decide : 0 + 0 ≤ _)⟩)
    dsimp only [Pt.U, Pt.locs, Pt.cells, Pt.slots] at X43 l43 y43 z43 st43 hQ43
    subst l43 y43 z43
    obtain ⟨rfl, N43q, e43⟩ := hQ43
    have N43 := Fr.app N41 N43q
    refine own_viaT st43 ?_
    show own_Go p e below s _ _ _ (T43.setTop (mkF m 76 #[.val (.int p0), .val (.long p1), .second, .val (.long p2), .second, .val (.ref ea1), .val (.long v28), .second, .val (.int v31), .val (.int v36), .val (.int v40), .unset] [(.int (own_ho1 v28 p1)), (.int (own_ho1 p1 v28))]))
    have st45 : ∀ t, Steps p.tables e below (T43.setTop (mkF m 84 #[.val (.int p0), .val (.long p1), .second, .val (.long p2), .second, .val (.ref ea1), .val (.long v28), .second, .val (.int v31), .val (.int v36), .val (.int v40), .unset] [(.int (if (own_ho1 p1 v28) = (own_ho1 v28 p1) then (0 : Int32) else (1 : Int32)))])) t → Steps p.tables e below (T43.setTop (mkF m 76 #[.val (.int p0), .val (.long p1), .second, .val (.long p2), .second, .val (.ref ea1), .val (.long v28), .second, .val (.int v31), .val (.int v36), .val (.int v40), .unset] [(.int (own_ho1 v28 p1)), (.int (own_ho1 p1 v28))])) t := by
      intro t k
      by_cases hq46 : (own_ho1 p1 v28) = (own_ho1 v28 p1)
      · refine XS.icmpYes X43.here hx rfl (pc0 := 76) (pc' := 83) rfl (hb hby at_76) rfl (Jvm.Free.XT.ii_eq_t hq46) (by decide) (by decide) ?_
        show Steps p.tables e below (T43.setTop (mkF m 83 #[.val (.int p0), .val (.long p1), .second, .val (.long p2), .second, .val (.ref ea1), .val (.long v28), .second, .val (.int v31), .val (.int v36), .val (.int v40), .unset] [])) t
        refine XS.iconst X43.here hx rfl (hb hby at_83) ?_
        show Steps p.tables e below (T43.setTop (mkF m 84 #[.val (.int p0), .val (.long p1), .second, .val (.long p2), .second, .val (.ref ea1), .val (.long v28), .second, .val (.int v31), .val (.int v36), .val (.int v40), .unset] [(.int (0 : Int32))])) t
        simp only [if_pos hq46] at k
        exact k
      · refine XS.icmpNo X43.here hx rfl (hb hby at_76) rfl (Jvm.Free.XT.ii_eq_f hq46) ?_
        show Steps p.tables e below (T43.setTop (mkF m 79 #[.val (.int p0), .val (.long p1), .second, .val (.long p2), .second, .val (.ref ea1), .val (.long v28), .second, .val (.int v31), .val (.int v36), .val (.int v40), .unset] [])) t
        refine XS.iconst X43.here hx rfl (hb hby at_79) ?_
        show Steps p.tables e below (T43.setTop (mkF m 80 #[.val (.int p0), .val (.long p1), .second, .val (.long p2), .second, .val (.ref ea1), .val (.long v28), .second, .val (.int v31), .val (.int v36), .val (.int v40), .unset] [(.int (1 : Int32))])) t
        refine XS.goto X43.here hx rfl (pc0 := 80) (pc' := 84) rfl (hb hby at_80) (by decide) (by decide) ?_
        show Steps p.tables e below (T43.setTop (mkF m 84 #[.val (.int p0), .val (.long p1), .second, .val (.long p2), .second, .val (.ref ea1), .val (.long v28), .second, .val (.int v31), .val (.int v36), .val (.int v40), .unset] [(.int (1 : Int32))])) t
        simp only [if_neg hq46] at k
        exact k
    refine own_via st45 ?_
    show own_Go p e below s _ _ _ (T43.setTop (mkF m 84 #[.val (.int p0), .val (.long p1), .second, .val (.long p2), .second, .val (.ref ea1), .val (.long v28), .second, .val (.int v31), .val (.int v36), .val (.int v40), .unset] [(.int (if (own_ho1 p1 v28) = (own_ho1 v28 p1) then (0 : Int32) else (1 : Int32)))]))
    refine own_via (fun _ k => XS.istore X43.here hx rfl (hb hby at_84) rfl (l' := #[.val (.int p0), .val (.long p1), .second, .val (.long p2), .second, .val (.ref ea1), .val (.long v28), .second, .val (.int v31), .val (.int v36), .val (.int v40), .val (.int (if (own_ho1 p1 v28) = (own_ho1 v28 p1) then (0 : Int32) else (1 : Int32)))]) rfl k) ?_
    show own_Go p e below s _ _ _ (T43.setTop (mkF m 86 #[.val (.int p0), .val (.long p1), .second, .val (.long p2), .second, .val (.ref ea1), .val (.long v28), .second, .val (.int v31), .val (.int v36), .val (.int v40), .val (.int (if (own_ho1 p1 v28) = (own_ho1 v28 p1) then (0 : Int32) else (1 : Int32)))] []))
    generalize hv47 : (if (own_ho1 p1 v28) = (own_ho1 v28 p1) then (0 : Int32) else (1 : Int32)) = v47
    show own_Go p e below s _ _ _ (T43.setTop (mkF m 86 #[.val (.int p0), .val (.long p1), .second, .val (.long p2), .second, .val (.ref ea1), .val (.long v28), .second, .val (.int v31), .val (.int v36), .val (.int v40), .val (.int v47)] []))
    refine own_via (fun _ k => XS.iload X43.here hx rfl (hb hby at_86) rfl k) ?_
    show own_Go p e below s _ _ _ (T43.setTop (mkF m 88 #[.val (.int p0), .val (.long p1), .second, .val (.long p2), .second, .val (.ref ea1), .val (.long v28), .second, .val (.int v31), .val (.int v36), .val (.int v40), .val (.int v47)] [(.int v31)]))
    refine own_via (fun _ k => XS.iload X43.here hx rfl (hb hby at_88) rfl k) ?_
    show own_Go p e below s _ _ _ (T43.setTop (mkF m 90 #[.val (.int p0), .val (.long p1), .second, .val (.long p2), .second, .val (.ref ea1), .val (.long v28), .second, .val (.int v31), .val (.int v36), .val (.int v40), .val (.int v47)] [(.int v40), (.int v31)]))
    have hc48 : v31 = v40 := by rw [← hv31, ← hv40, ← hv36]; unfold own_ord; rw [if_neg ne0, if_pos rfl]; decide
    refine own_via (fun _ k => XS.icmpNo X43.here hx rfl (hb hby at_90) rfl (Jvm.Free.XT.ii_ne_f hc48) k) ?_
    show own_Go p e below s _ _ _ (T43.setTop (mkF m 93 #[.val (.int p0), .val (.long p1), .second, .val (.long p2), .second, .val (.ref ea1), .val (.long v28), .second, .val (.int v31), .val (.int v36), .val (.int v40), .val (.int v47)] []))
    refine own_via (fun _ k => XS.iload X43.here hx rfl (hb hby at_93) rfl k) ?_
    show own_Go p e below s _ _ _ (T43.setTop (mkF m 95 #[.val (.int p0), .val (.long p1), .second, .val (.long p2), .second, .val (.ref ea1), .val (.long v28), .second, .val (.int v31), .val (.int v36), .val (.int v40), .val (.int v47)] [(.int v31)]))
    refine own_via (fun _ k => XS.iload X43.here hx rfl (hb hby at_95) rfl k) ?_
    show own_Go p e below s _ _ _ (T43.setTop (mkF m 97 #[.val (.int p0), .val (.long p1), .second, .val (.long p2), .second, .val (.ref ea1), .val (.long v28), .second, .val (.int v31), .val (.int v36), .val (.int v40), .val (.int v47)] [(.int v47), (.int v31)]))
    have hc49 : v31 = v47 := by rw [← hv31]; unfold own_ord; rw [if_neg ne0, if_pos rfl]; exact own_fin1 (own_ne hv28) hv47
    refine own_via (fun _ k => XS.icmpNo X43.here hx rfl (hb hby at_97) rfl (Jvm.Free.XT.ii_ne_f hc49) k) ?_
    show own_Go p e below s _ _ _ (T43.setTop (mkF m 100 #[.val (.int p0), .val (.long p1), .second, .val (.long p2), .second, .val (.ref ea1), .val (.long v28), .second, .val (.int v31), .val (.int v36), .val (.int v40), .val (.int v47)] []))
    refine own_via (fun _ k => XS.iconst X43.here hx rfl (hb hby at_100) k) ?_
    show own_Go p e below s _ _ _ (T43.setTop (mkF m 101 #[.val (.int p0), .val (.long p1), .second, .val (.long p2), .second, .val (.ref ea1), .val (.long v28), .second, .val (.int v31), .val (.int v36), .val (.int v40), .val (.int v47)] [(.int (1 : Int32))]))
    refine own_via (fun _ k => XS.goto X43.here hx rfl (pc0 := 101) (pc' := 105) rfl (hb hby at_101) (by decide) (by decide) k) ?_
    show own_Go p e below s _ _ _ (T43.setTop (mkF m 105 #[.val (.int p0), .val (.long p1), .second, .val (.long p2), .second, .val (.ref ea1), .val (.long v28), .second, .val (.int v31), .val (.int v36), .val (.int v40), .val (.int v47)] [(.int (1 : Int32))]))
    exact own_goN X43 hx (t := .boolean) Bd.returns (by simp) (hb hby at_105) Bd.notSynchronized (by decide) (by decide) (by rw [e43]; exact ⟨rfl, N43⟩)
  · rw [hk]
    show own_Go p e below s _ _ _ (T1.setTop (mkF m 4 #[.val (.int p0), .val (.long p1), .second, .val (.long p2), .second, .unset, .unset, .unset, .unset, .unset, .unset, .unset] [(.ref ea2)]))
    have ko0 := hp8.2.1
    have ko1 := hp9.2.1
    have ko2 := hp10.2.1
    obtain ⟨kE, kO, kS, kX, kC, kV, kA, kZ, kT⟩ := hp10
    have ne0 : ea2 ≠ ea0 := Fld.ne ko2 ko0 (fun q => absurd (Value.int.inj q) (by decide))
    have ne1 : ea2 ≠ ea1 := Fld.ne ko2 ko1 (fun q => absurd (Value.int.inj q) (by decide))
    refine own_via (fun _ k => XS.astore X1.here hx rfl (hb hby at_4) rfl rfl (l' := #[.val (.int p0), .val (.long p1), .second, .val (.long p2), .second, .val (.ref ea2), .unset, .unset, .unset, .unset, .unset, .unset]) rfl k) ?_
    show own_Go p e below s _ _ _ (T1.setTop (mkF m 6 #[.val (.int p0), .val (.long p1), .second, .val (.long p2), .second, .val (.ref ea2), .unset, .unset, .unset, .unset, .unset, .unset] []))
    refine own_via (fun _ k => XS.lloadN X1.here hx rfl (hb hby at_6) rfl k) ?_
    show own_Go p e below s _ _ _ (T1.setTop (mkF m 7 #[.val (.int p0), .val (.long p1), .second, .val (.long p2), .second, .val (.ref ea2), .unset, .unset, .unset, .unset, .unset, .unset] [(.long p2)]))
    refine own_via (fun _ k => XS.lstore X1.here hx rfl (hb hby at_7) rfl (l' := #[.val (.int p0), .val (.long p1), .second, .val (.long p2), .second, .val (.ref ea2), .val (.long p2), .second, .unset, .unset, .unset, .unset]) rfl k) ?_
    show own_Go p e below s _ _ _ (T1.setTop (mkF m 9 #[.val (.int p0), .val (.long p1), .second, .val (.long p2), .second, .val (.ref ea2), .val (.long p2), .second, .unset, .unset, .unset, .unset] []))
    have st50 : ∀ t, Steps p.tables e below (T1.setTop (mkF m 21 #[.val (.int p0), .val (.long p1), .second, .val (.long p2), .second, .val (.ref ea2), .val (.long (if p1 = p2 then (p1 ^^^ (1 : Int64)) else p2)), .second, .unset, .unset, .unset, .unset] [])) t → Steps p.tables e below (T1.setTop (mkF m 9 #[.val (.int p0), .val (.long p1), .second, .val (.long p2), .second, .val (.ref ea2), .val (.long p2), .second, .unset, .unset, .unset, .unset] [])) t := by
      intro t k
      refine XS.lloadN X1.here hx rfl (hb hby at_9) rfl ?_
      show Steps p.tables e below (T1.setTop (mkF m 10 #[.val (.int p0), .val (.long p1), .second, .val (.long p2), .second, .val (.ref ea2), .val (.long p2), .second, .unset, .unset, .unset, .unset] [(.long p1)])) t
      refine XS.lload X1.here hx rfl (hb hby at_10) rfl ?_
      show Steps p.tables e below (T1.setTop (mkF m 12 #[.val (.int p0), .val (.long p1), .second, .val (.long p2), .second, .val (.ref ea2), .val (.long p2), .second, .unset, .unset, .unset, .unset] [(.long p2), (.long p1)])) t
      refine XS.lcmp X1.here hx rfl (hb hby at_12) rfl ?_
      show Steps p.tables e below (T1.setTop (mkF m 13 #[.val (.int p0), .val (.long p1), .second, .val (.long p2), .second, .val (.ref ea2), .val (.long p2), .second, .unset, .unset, .unset, .unset] [(.int (lcmpW p1 p2))])) t
      by_cases hq51 : p1 = p2
      · refine XS.ifNo X1.here hx rfl (hb hby at_13) rfl (Jvm.Free.XT.ll_ne_f hq51) ?_
        show Steps p.tables e below (T1.setTop (mkF m 16 #[.val (.int p0), .val (.long p1), .second, .val (.long p2), .second, .val (.ref ea2), .val (.long p2), .second, .unset, .unset, .unset, .unset] [])) t
        refine XS.lloadN X1.here hx rfl (hb hby at_16) rfl ?_
        show Steps p.tables e below (T1.setTop (mkF m 17 #[.val (.int p0), .val (.long p1), .second, .val (.long p2), .second, .val (.ref ea2), .val (.long p2), .second, .unset, .unset, .unset, .unset] [(.long p1)])) t
        refine XS.lconst X1.here hx rfl (hb hby at_17) ?_
        show Steps p.tables e below (T1.setTop (mkF m 18 #[.val (.int p0), .val (.long p1), .second, .val (.long p2), .second, .val (.ref ea2), .val (.long p2), .second, .unset, .unset, .unset, .unset] [(.long (1 : Int64)), (.long p1)])) t
        refine XS.lxor X1.here hx rfl (hb hby at_18) rfl ?_
        show Steps p.tables e below (T1.setTop (mkF m 19 #[.val (.int p0), .val (.long p1), .second, .val (.long p2), .second, .val (.ref ea2), .val (.long p2), .second, .unset, .unset, .unset, .unset] [(.long (p1 ^^^ (1 : Int64)))])) t
        refine XS.lstore X1.here hx rfl (hb hby at_19) rfl (l' := #[.val (.int p0), .val (.long p1), .second, .val (.long p2), .second, .val (.ref ea2), .val (.long (p1 ^^^ (1 : Int64))), .second, .unset, .unset, .unset, .unset]) rfl ?_
        show Steps p.tables e below (T1.setTop (mkF m 21 #[.val (.int p0), .val (.long p1), .second, .val (.long p2), .second, .val (.ref ea2), .val (.long (p1 ^^^ (1 : Int64))), .second, .unset, .unset, .unset, .unset] [])) t
        simp only [if_pos hq51] at k
        exact k
      · refine XS.ifYes X1.here hx rfl (pc0 := 13) (pc' := 21) rfl (hb hby at_13) rfl (Jvm.Free.XT.ll_ne_t hq51) (by decide) (by decide) ?_
        show Steps p.tables e below (T1.setTop (mkF m 21 #[.val (.int p0), .val (.long p1), .second, .val (.long p2), .second, .val (.ref ea2), .val (.long p2), .second, .unset, .unset, .unset, .unset] [])) t
        simp only [if_neg hq51] at k
        exact k
    refine own_via st50 ?_
    show own_Go p e below s _ _ _ (T1.setTop (mkF m 21 #[.val (.int p0), .val (.long p1), .second, .val (.long p2), .second, .val (.ref ea2), .val (.long (if p1 = p2 then (p1 ^^^ (1 : Int64)) else p2)), .second, .unset, .unset, .unset, .unset] []))
    generalize hv52 : (if p1 = p2 then (p1 ^^^ (1 : Int64)) else p2) = v52
    show own_Go p e below s _ _ _ (T1.setTop (mkF m 21 #[.val (.int p0), .val (.long p1), .second, .val (.long p2), .second, .val (.ref ea2), .val (.long v52), .second, .unset, .unset, .unset, .unset] []))
    refine own_via (fun _ k => XS.aload X1.here hx rfl (hb hby at_21) rfl rfl k) ?_
    show own_Go p e below s _ _ _ (T1.setTop (mkF m 23 #[.val (.int p0), .val (.long p1), .second, .val (.long p2), .second, .val (.ref ea2), .val (.long v52), .second, .unset, .unset, .unset, .unset] [(.ref ea2)]))
    have F54 := kE.ext O0.2
    obtain ⟨cq53, kq53, qa53, qb53, qc53⟩ := isOf hZ e1 F54
    obtain ⟨_, _, ⟨T53, L53, k53, n53⟩, -, X53, ⟨Lc53, hQ53, l53, y53, z53⟩, st53⟩ := X1.virtualBack hx (y := (⟨"com/example/trajectory/trajectory/model/Condition$Operator", "orders", "()Z"⟩ : MethodName)) (z := (⟨"com/example/trajectory/trajectory/model/Condition$Operator", "orders", "()Z"⟩ : MethodName)) hown (mvT hZ (hw _ (List.mem_of_getElem? (i := 8) rfl))) (mvT hZ (hw _ (List.mem_of_getElem? (i := 9) rfl))) (notFace_of_selects (args := #[]) (mvT hZ (hw _ (List.mem_of_getElem? (i := 11) rfl)))) (mvT hZ (hw _ (List.mem_of_getElem? (i := 11) rfl))) (mvT hZ (hw _ (List.mem_of_getElem? (i := 10) rfl))) (by decide) (backOf (W := 0) (rm2 l Z a0 hw [] ea2 ea0 ea1 h0 n0 Z0 O0 S_EQUALS S_NOT_EQUALS) hZ (hw _ (List.mem_of_getElem? (i := 12) rfl)) (hw _ (List.mem_of_getElem? (i := 6) rfl)) (by decide) (by decide)) qa53 qc53 (g := (mkF m 23 #[.val (.int p0), .val (.long p1), .second, .val (.long p2), .second, .val (.ref ea2), .val (.long v52), .second, .unset, .unset, .unset, .unset] [(.ref ea2)])) rfl (by rw [hml]; rfl) (Steps.refl _) (argsL := []) (rest := []) (lenOf pd_2 rfl) rfl (by show 2 * 0 + _ ≤ _; exact Nat.le_of_eq rfl) (hb hby at_23) (fun _ _ => ⟨rfl, e1, (by decide : 0 + 0 ≤ _), (by decide : 0 + 0 ≤ _)⟩)
    dsimp only [Pt.U, Pt.locs, Pt.cells, Pt.slots] at X53 l53 y53 z53 st53 hQ53
    subst l53 y53 z53
    obtain ⟨rfl, N53q, e53⟩ := hQ53
    have N53 := Fr.app N1 N53q
    refine own_viaT st53 ?_
    show own_Go p e below s _ _ _ (T53.setTop (mkF m 26 #[.val (.int p0), .val (.long p1), .second, .val (.long p2), .second, .val (.ref ea2), .val (.long v52), .second, .unset, .unset, .unset, .unset] [(.int (own_ord ea2 ea0 ea1))]))
    refine own_via (fun _ k => XS.istore X53.here hx rfl (hb hby at_26) rfl (l' := #[.val (.int p0), .val (.long p1), .second, .val (.long p2), .second, .val (.ref ea2), .val (.long v52), .second, .val (.int (own_ord ea2 ea0 ea1)), .unset, .unset, .unset]) rfl k) ?_
    show own_Go p e below s _ _ _ (T53.setTop (mkF m 28 #[.val (.int p0), .val (.long p1), .second, .val (.long p2), .second, .val (.ref ea2), .val (.long v52), .second, .val (.int (own_ord ea2 ea0 ea1)), .unset, .unset, .unset] []))
    generalize hv55 : (own_ord ea2 ea0 ea1) = v55
    show own_Go p e below s _ _ _ (T53.setTop (mkF m 28 #[.val (.int p0), .val (.long p1), .second, .val (.long p2), .second, .val (.ref ea2), .val (.long v52), .second, .val (.int v55), .unset, .unset, .unset] []))
    refine own_via (fun _ k => XS.aload X53.here hx rfl (hb hby at_28) rfl rfl k) ?_
    show own_Go p e below s _ _ _ (T53.setTop (mkF m 30 #[.val (.int p0), .val (.long p1), .second, .val (.long p2), .second, .val (.ref ea2), .val (.long v52), .second, .val (.int v55), .unset, .unset, .unset] [(.ref ea2)]))
    have F57 := kE.ext O0.2
    obtain ⟨cq56, kq56, qa56, qb56, qc56⟩ := isOf hZ e53 F57
    obtain ⟨_, _, ⟨T56, L56, k56, n56⟩, -, X56, ⟨Lc56, hQ56, l56, y56, z56⟩, st56⟩ := X53.virtualBack hx (y := (⟨"com/example/trajectory/trajectory/model/Condition$Operator", "symbol", "()Ljava/lang/String;"⟩ : MethodName)) (z := (⟨"com/example/trajectory/trajectory/model/Condition$Operator", "symbol", "()Ljava/lang/String;"⟩ : MethodName)) hown (mvT hZ (hw _ (List.mem_of_getElem? (i := 14) rfl))) (mvT hZ (hw _ (List.mem_of_getElem? (i := 15) rfl))) (notFace_of_selects (args := #[]) (mvT hZ (hw _ (List.mem_of_getElem? (i := 17) rfl)))) (mvT hZ (hw _ (List.mem_of_getElem? (i := 17) rfl))) (mvT hZ (hw _ (List.mem_of_getElem? (i := 16) rfl))) (by decide) (backOf (W := 0) (rm3 l Z a0 hw [] ea2 sa2 h0 n0 Z0 O0 kS) hZ (hw _ (List.mem_of_getElem? (i := 18) rfl)) (hw _ (List.mem_of_getElem? (i := 6) rfl)) (by decide) (by decide)) qa56 qc56 (g := (mkF m 30 #[.val (.int p0), .val (.long p1), .second, .val (.long p2), .second, .val (.ref ea2), .val (.long v52), .second, .val (.int v55), .unset, .unset, .unset] [(.ref ea2)])) rfl (by rw [hml]; rfl) (Steps.refl _) (argsL := []) (rest := []) (lenOf pd_6 rfl) rfl (by show 2 * 0 + _ ≤ _; exact Nat.le_of_eq rfl) (hb hby at_30) (fun _ _ => ⟨rfl, e53, (by decide : 0 + 0 ≤ _), (by decide : 0 + 0 ≤ _)⟩)
    dsimp only [Pt.U, Pt.locs, Pt.cells, Pt.slots] at X56 l56 y56 z56 st56 hQ56
    subst l56 y56 z56
    obtain ⟨rfl, N56q, e56⟩ := hQ56
    have N56 := Fr.app N53 N56q
    refine own_viaT st56 ?_
    show own_Go p e below s _ _ _ (T56.setTop (mkF m 33 #[.val (.int p0), .val (.long p1), .second, .val (.long p2), .second, .val (.ref ea2), .val (.long v52), .second, .val (.int v55), .unset, .unset, .unset] [(.ref sa2)]))
    refine own_via (fun _ k => XS.iconst X56.here hx rfl (hb hby at_33) k) ?_
    show own_Go p e below s _ _ _ (T56.setTop (mkF m 34 #[.val (.int p0), .val (.long p1), .second, .val (.long p2), .second, .val (.ref ea2), .val (.long v52), .second, .val (.int v55), .unset, .unset, .unset] [(.int (0 : Int32)), (.ref sa2)]))
    have F59 := kX.ext O0.2
    obtain ⟨cq58, kq58, qa58, qb58, qc58⟩ := isOf hZ e56 F59
    obtain ⟨_, _, ⟨T58, L58, k58, n58⟩, -, X58, ⟨Lc58, hQ58, l58, y58, z58⟩, st58⟩ := X56.virtualBack hx (y := (⟨"java/lang/String", "charAt", "(I)C"⟩ : MethodName)) (z := (⟨"java/lang/String", "charAt", "(I)C"⟩ : MethodName)) hown (mvT hZ (hw _ (List.mem_of_getElem? (i := 21) rfl))) (mvT hZ (hw _ (List.mem_of_getElem? (i := 22) rfl))) (notFace_of_selects (args := #[]) (mvT hZ (hw _ (List.mem_of_getElem? (i := 24) rfl)))) (mvT hZ (hw _ (List.mem_of_getElem? (i := 24) rfl))) (mvT hZ (hw _ (List.mem_of_getElem? (i := 23) rfl))) (by decide) (backOf (W := 0) (rm4 l Z a0 hw [] sa2 (0 : Int32) va2 cs_ cl2 (1 : Int32) (60 : Int32) fm_ h0 n0 Z0 O0 S_SIOOBE_FORMATTER S_COMPACT_STRINGS kC kV kA kZ (by decide) (by decide) kT hp14 kX (by rfl) hp15) hZ (hw _ (List.mem_of_getElem? (i := 26) rfl)) (hw _ (List.mem_of_getElem? (i := 25) rfl)) (by decide) (by decide)) qa58 qc58 (g := (mkF m 34 #[.val (.int p0), .val (.long p1), .second, .val (.long p2), .second, .val (.ref ea2), .val (.long v52), .second, .val (.int v55), .unset, .unset, .unset] [(.int (0 : Int32)), (.ref sa2)])) rfl (by rw [hml]; rfl) (Steps.refl _) (argsL := [(.int (0 : Int32))]) (rest := []) (lenOf pd_7 rfl) rfl (by show 2 * 0 + _ ≤ _; exact Nat.le_of_eq rfl) (hb hby at_34) (fun _ _ => ⟨rfl, e56, (by decide : 0 + 0 ≤ _), (by decide : 0 + 0 ≤ _)⟩)
    dsimp only [Pt.U, Pt.locs, Pt.cells, Pt.slots] at X58 l58 y58 z58 st58 hQ58
    subst l58 y58 z58
    obtain ⟨rfl, N58q, e58⟩ := hQ58
    have N58 := Fr.app N56 N58q
    refine own_viaT st58 ?_
    show own_Go p e below s _ _ _ (T58.setTop (mkF m 37 #[.val (.int p0), .val (.long p1), .second, .val (.long p2), .second, .val (.ref ea2), .val (.long v52), .second, .val (.int v55), .unset, .unset, .unset] [(.int (nar .char (nar .char (o_i2c ((60 : Int32) &&& (255 : Int32))))))]))
    refine own_via (fun _ k => XS.istore X58.here hx rfl (hb hby at_37) rfl (l' := #[.val (.int p0), .val (.long p1), .second, .val (.long p2), .second, .val (.ref ea2), .val (.long v52), .second, .val (.int v55), .val (.int (nar .char (nar .char (o_i2c ((60 : Int32) &&& (255 : Int32)))))), .unset, .unset]) rfl k) ?_
    show own_Go p e below s _ _ _ (T58.setTop (mkF m 39 #[.val (.int p0), .val (.long p1), .second, .val (.long p2), .second, .val (.ref ea2), .val (.long v52), .second, .val (.int v55), .val (.int (nar .char (nar .char (o_i2c ((60 : Int32) &&& (255 : Int32)))))), .unset, .unset] []))
    generalize hv60 : (nar .char (nar .char (o_i2c ((60 : Int32) &&& (255 : Int32))))) = v60
    show own_Go p e below s _ _ _ (T58.setTop (mkF m 39 #[.val (.int p0), .val (.long p1), .second, .val (.long p2), .second, .val (.ref ea2), .val (.long v52), .second, .val (.int v55), .val (.int v60), .unset, .unset] []))
    have st61 : ∀ t, Steps p.tables e below (T58.setTop (mkF m 58 #[.val (.int p0), .val (.long p1), .second, .val (.long p2), .second, .val (.ref ea2), .val (.long v52), .second, .val (.int v55), .val (.int v60), .unset, .unset] [(.int (if v60 = (60 : Int32) then (1 : Int32) else (if v60 = (62 : Int32) then (1 : Int32) else (0 : Int32))))])) t → Steps p.tables e below (T58.setTop (mkF m 39 #[.val (.int p0), .val (.long p1), .second, .val (.long p2), .second, .val (.ref ea2), .val (.long v52), .second, .val (.int v55), .val (.int v60), .unset, .unset] [])) t := by
      intro t k
      refine XS.iload X58.here hx rfl (hb hby at_39) rfl ?_
      show Steps p.tables e below (T58.setTop (mkF m 41 #[.val (.int p0), .val (.long p1), .second, .val (.long p2), .second, .val (.ref ea2), .val (.long v52), .second, .val (.int v55), .val (.int v60), .unset, .unset] [(.int v60)])) t
      refine XS.bipush X58.here hx rfl (hb hby at_41) ?_
      show Steps p.tables e below (T58.setTop (mkF m 43 #[.val (.int p0), .val (.long p1), .second, .val (.long p2), .second, .val (.ref ea2), .val (.long v52), .second, .val (.int v55), .val (.int v60), .unset, .unset] [(.int (60 : Int32)), (.int v60)])) t
      by_cases hq62 : v60 = (60 : Int32)
      · refine XS.icmpYes X58.here hx rfl (pc0 := 43) (pc' := 53) rfl (hb hby at_43) rfl (Jvm.Free.XT.ii_eq_t hq62) (by decide) (by decide) ?_
        show Steps p.tables e below (T58.setTop (mkF m 53 #[.val (.int p0), .val (.long p1), .second, .val (.long p2), .second, .val (.ref ea2), .val (.long v52), .second, .val (.int v55), .val (.int v60), .unset, .unset] [])) t
        refine XS.iconst X58.here hx rfl (hb hby at_53) ?_
        show Steps p.tables e below (T58.setTop (mkF m 54 #[.val (.int p0), .val (.long p1), .second, .val (.long p2), .second, .val (.ref ea2), .val (.long v52), .second, .val (.int v55), .val (.int v60), .unset, .unset] [(.int (1 : Int32))])) t
        refine XS.goto X58.here hx rfl (pc0 := 54) (pc' := 58) rfl (hb hby at_54) (by decide) (by decide) ?_
        show Steps p.tables e below (T58.setTop (mkF m 58 #[.val (.int p0), .val (.long p1), .second, .val (.long p2), .second, .val (.ref ea2), .val (.long v52), .second, .val (.int v55), .val (.int v60), .unset, .unset] [(.int (1 : Int32))])) t
        simp only [if_pos hq62] at k
        exact k
      · refine XS.icmpNo X58.here hx rfl (hb hby at_43) rfl (Jvm.Free.XT.ii_eq_f hq62) ?_
        show Steps p.tables e below (T58.setTop (mkF m 46 #[.val (.int p0), .val (.long p1), .second, .val (.long p2), .second, .val (.ref ea2), .val (.long v52), .second, .val (.int v55), .val (.int v60), .unset, .unset] [])) t
        refine XS.iload X58.here hx rfl (hb hby at_46) rfl ?_
        show Steps p.tables e below (T58.setTop (mkF m 48 #[.val (.int p0), .val (.long p1), .second, .val (.long p2), .second, .val (.ref ea2), .val (.long v52), .second, .val (.int v55), .val (.int v60), .unset, .unset] [(.int v60)])) t
        refine XS.bipush X58.here hx rfl (hb hby at_48) ?_
        show Steps p.tables e below (T58.setTop (mkF m 50 #[.val (.int p0), .val (.long p1), .second, .val (.long p2), .second, .val (.ref ea2), .val (.long v52), .second, .val (.int v55), .val (.int v60), .unset, .unset] [(.int (62 : Int32)), (.int v60)])) t
        by_cases hq63 : v60 = (62 : Int32)
        · refine XS.icmpNo X58.here hx rfl (hb hby at_50) rfl (Jvm.Free.XT.ii_ne_f hq63) ?_
          show Steps p.tables e below (T58.setTop (mkF m 53 #[.val (.int p0), .val (.long p1), .second, .val (.long p2), .second, .val (.ref ea2), .val (.long v52), .second, .val (.int v55), .val (.int v60), .unset, .unset] [])) t
          refine XS.iconst X58.here hx rfl (hb hby at_53) ?_
          show Steps p.tables e below (T58.setTop (mkF m 54 #[.val (.int p0), .val (.long p1), .second, .val (.long p2), .second, .val (.ref ea2), .val (.long v52), .second, .val (.int v55), .val (.int v60), .unset, .unset] [(.int (1 : Int32))])) t
          refine XS.goto X58.here hx rfl (pc0 := 54) (pc' := 58) rfl (hb hby at_54) (by decide) (by decide) ?_
          show Steps p.tables e below (T58.setTop (mkF m 58 #[.val (.int p0), .val (.long p1), .second, .val (.long p2), .second, .val (.ref ea2), .val (.long v52), .second, .val (.int v55), .val (.int v60), .unset, .unset] [(.int (1 : Int32))])) t
          simp only [if_neg hq62, if_pos hq63] at k
          exact k
        · refine XS.icmpYes X58.here hx rfl (pc0 := 50) (pc' := 57) rfl (hb hby at_50) rfl (Jvm.Free.XT.ii_ne_t hq63) (by decide) (by decide) ?_
          show Steps p.tables e below (T58.setTop (mkF m 57 #[.val (.int p0), .val (.long p1), .second, .val (.long p2), .second, .val (.ref ea2), .val (.long v52), .second, .val (.int v55), .val (.int v60), .unset, .unset] [])) t
          refine XS.iconst X58.here hx rfl (hb hby at_57) ?_
          show Steps p.tables e below (T58.setTop (mkF m 58 #[.val (.int p0), .val (.long p1), .second, .val (.long p2), .second, .val (.ref ea2), .val (.long v52), .second, .val (.int v55), .val (.int v60), .unset, .unset] [(.int (0 : Int32))])) t
          simp only [if_neg hq62, if_neg hq63] at k
          exact k
    refine own_via st61 ?_
    show own_Go p e below s _ _ _ (T58.setTop (mkF m 58 #[.val (.int p0), .val (.long p1), .second, .val (.long p2), .second, .val (.ref ea2), .val (.long v52), .second, .val (.int v55), .val (.int v60), .unset, .unset] [(.int (if v60 = (60 : Int32) then (1 : Int32) else (if v60 = (62 : Int32) then (1 : Int32) else (0 : Int32))))]))
    refine own_via (fun _ k => XS.istore X58.here hx rfl (hb hby at_58) rfl (l' := #[.val (.int p0), .val (.long p1), .second, .val (.long p2), .second, .val (.ref ea2), .val (.long v52), .second, .val (.int v55), .val (.int v60), .val (.int (if v60 = (60 : Int32) then (1 : Int32) else (if v60 = (62 : Int32) then (1 : Int32) else (0 : Int32)))), .unset]) rfl k) ?_
    show own_Go p e below s _ _ _ (T58.setTop (mkF m 60 #[.val (.int p0), .val (.long p1), .second, .val (.long p2), .second, .val (.ref ea2), .val (.long v52), .second, .val (.int v55), .val (.int v60), .val (.int (if v60 = (60 : Int32) then (1 : Int32) else (if v60 = (62 : Int32) then (1 : Int32) else (0 : Int32)))), .unset] []))
    generalize hv64 : (if v60 = (60 : Int32) then (1 : Int32) else (if v60 = (62 : Int32) then (1 : Int32) else (0 : Int32))) = v64
    show own_Go p e below s _ _ _ (T58.setTop (mkF m 60 #[.val (.int p0), .val (.long p1), .second, .val (.long p2), .second, .val (.ref ea2), .val (.long v52), .second, .val (.int v55), .val (.int v60), .val (.int v64), .unset] []))
    refine own_via (fun _ k => XS.aload X58.here hx rfl (hb hby at_60) rfl rfl k) ?_
    show own_Go p e below s _ _ _ (T58.setTop (mkF m 62 #[.val (.int p0), .val (.long p1), .second, .val (.long p2), .second, .val (.ref ea2), .val (.long v52), .second, .val (.int v55), .val (.int v60), .val (.int v64), .unset] [(.ref ea2)]))
    refine own_via (fun _ k => XS.lloadN X58.here hx rfl (hb hby at_62) rfl k) ?_
    show own_Go p e below s _ _ _ (T58.setTop (mkF m 63 #[.val (.int p0), .val (.long p1), .second, .val (.long p2), .second, .val (.ref ea2), .val (.long v52), .second, .val (.int v55), .val (.int v60), .val (.int v64), .unset] [(.long p1), (.ref ea2)]))
    refine own_via (fun _ k => XS.lload X58.here hx rfl (hb hby at_63) rfl k) ?_
    show own_Go p e below s _ _ _ (T58.setTop (mkF m 65 #[.val (.int p0), .val (.long p1), .second, .val (.long p2), .second, .val (.ref ea2), .val (.long v52), .second, .val (.int v55), .val (.int v60), .val (.int v64), .unset] [(.long v52), (.long p1), (.ref ea2)]))
    have F66 := kE.ext O0.2
    obtain ⟨cq65, kq65, qa65, qb65, qc65⟩ := isOf hZ e58 F66
    obtain ⟨_, _, ⟨T65, L65, k65, n65⟩, -, X65, ⟨Lc65, hQ65, l65, y65, z65⟩, st65⟩ := X58.virtualBack hx (y := (⟨"com/example/trajectory/trajectory/model/Condition$Operator", "holds", "(JJ)Z"⟩ : MethodName)) (z := (⟨"com/example/trajectory/trajectory/model/Condition$Operator", "holds", "(JJ)Z"⟩ : MethodName)) hown (mvT hZ (hw _ (List.mem_of_getElem? (i := 49) rfl))) (mvT hZ (hw _ (List.mem_of_getElem? (i := 50) rfl))) (notFace_of_selects (args := #[]) (mvT hZ (hw _ (List.mem_of_getElem? (i := 52) rfl)))) (mvT hZ (hw _ (List.mem_of_getElem? (i := 52) rfl))) (mvT hZ (hw _ (List.mem_of_getElem? (i := 51) rfl))) (by decide) (backOf (W := 0) (rmho2 l Z a0 hw [] ea2 p1 v52 h0 n0 Z0 O0 kO kE) hZ (hw _ (List.mem_of_getElem? (i := 53) rfl)) (hw _ (List.mem_of_getElem? (i := 6) rfl)) (by decide) (by decide)) qa65 qc65 (g := (mkF m 65 #[.val (.int p0), .val (.long p1), .second, .val (.long p2), .second, .val (.ref ea2), .val (.long v52), .second, .val (.int v55), .val (.int v60), .val (.int v64), .unset] [(.long v52), (.long p1), (.ref ea2)])) rfl (by rw [hml]; rfl) (Steps.refl _) (argsL := [(.long p1), (.long v52)]) (rest := []) (lenOf pd_8 rfl) rfl (by show 2 * 0 + _ ≤ _; exact Nat.le_of_eq rfl) (hb hby at_65) (fun _ _ => ⟨rfl, e58, (by decide : 0 + 0 ≤ _), (by decide : 0 + 0 ≤ _)⟩)
    dsimp only [Pt.U, Pt.locs, Pt.cells, Pt.slots] at X65 l65 y65 z65 st65 hQ65
    subst l65 y65 z65
    obtain ⟨rfl, N65q, e65⟩ := hQ65
    have N65 := Fr.app N58 N65q
    refine own_viaT st65 ?_
    show own_Go p e below s _ _ _ (T65.setTop (mkF m 68 #[.val (.int p0), .val (.long p1), .second, .val (.long p2), .second, .val (.ref ea2), .val (.long v52), .second, .val (.int v55), .val (.int v60), .val (.int v64), .unset] [(.int (own_ho2 p1 v52))]))
    refine own_via (fun _ k => XS.aload X65.here hx rfl (hb hby at_68) rfl rfl k) ?_
    show own_Go p e below s _ _ _ (T65.setTop (mkF m 70 #[.val (.int p0), .val (.long p1), .second, .val (.long p2), .second, .val (.ref ea2), .val (.long v52), .second, .val (.int v55), .val (.int v60), .val (.int v64), .unset] [(.ref ea2), (.int (own_ho2 p1 v52))]))
    refine own_via (fun _ k => XS.lload X65.here hx rfl (hb hby at_70) rfl k) ?_
    show own_Go p e below s _ _ _ (T65.setTop (mkF m 72 #[.val (.int p0), .val (.long p1), .second, .val (.long p2), .second, .val (.ref ea2), .val (.long v52), .second, .val (.int v55), .val (.int v60), .val (.int v64), .unset] [(.long v52), (.ref ea2), (.int (own_ho2 p1 v52))]))
    refine own_via (fun _ k => XS.lloadN X65.here hx rfl (hb hby at_72) rfl k) ?_
    show own_Go p e below s _ _ _ (T65.setTop (mkF m 73 #[.val (.int p0), .val (.long p1), .second, .val (.long p2), .second, .val (.ref ea2), .val (.long v52), .second, .val (.int v55), .val (.int v60), .val (.int v64), .unset] [(.long p1), (.long v52), (.ref ea2), (.int (own_ho2 p1 v52))]))
    have F68 := kE.ext O0.2
    obtain ⟨cq67, kq67, qa67, qb67, qc67⟩ := isOf hZ e65 F68
    obtain ⟨_, _, ⟨T67, L67, k67, n67⟩, -, X67, ⟨Lc67, hQ67, l67, y67, z67⟩, st67⟩ := X65.virtualBack hx (y := (⟨"com/example/trajectory/trajectory/model/Condition$Operator", "holds", "(JJ)Z"⟩ : MethodName)) (z := (⟨"com/example/trajectory/trajectory/model/Condition$Operator", "holds", "(JJ)Z"⟩ : MethodName)) hown (mvT hZ (hw _ (List.mem_of_getElem? (i := 49) rfl))) (mvT hZ (hw _ (List.mem_of_getElem? (i := 50) rfl))) (notFace_of_selects (args := #[]) (mvT hZ (hw _ (List.mem_of_getElem? (i := 52) rfl)))) (mvT hZ (hw _ (List.mem_of_getElem? (i := 52) rfl))) (mvT hZ (hw _ (List.mem_of_getElem? (i := 51) rfl))) (by decide) (backOf (W := 1) (rmho2 l Z a0 hw [] ea2 v52 p1 h0 n0 Z0 O0 kO kE) hZ (hw _ (List.mem_of_getElem? (i := 53) rfl)) (hw _ (List.mem_of_getElem? (i := 6) rfl)) (by decide) (by decide)) qa67 qc67 (g := (mkF m 73 #[.val (.int p0), .val (.long p1), .second, .val (.long p2), .second, .val (.ref ea2), .val (.long v52), .second, .val (.int v55), .val (.int v60), .val (.int v64), .unset] [(.long p1), (.long v52), (.ref ea2), (.int (own_ho2 p1 v52))])) rfl (by rw [hml]; rfl) (Steps.refl _) (argsL := [(.long v52), (.long p1)]) (rest := [(.int (own_ho2 p1 v52))]) (lenOf pd_8 rfl) rfl (by show 2 * 0 + _ ≤ _; exact Nat.le_of_eq rfl) (hb hby at_73) (fun _ _ => ⟨rfl, e65, (by decide : 0 + 0 ≤ _), (by decide : 0 + 0 ≤ _)⟩)
    dsimp only [Pt.U, Pt.locs, Pt.cells, Pt.slots] at X67 l67 y67 z67 st67 hQ67
    subst l67 y67 z67
    obtain ⟨rfl, N67q, e67⟩ := hQ67
    have N67 := Fr.app N65 N67q
    refine own_viaT st67 ?_
    show own_Go p e below s _ _ _ (T67.setTop (mkF m 76 #[.val (.int p0), .val (.long p1), .second, .val (.long p2), .second, .val (.ref ea2), .val (.long v52), .second, .val (.int v55), .val (.int v60), .val (.int v64), .unset] [(.int (own_ho2 v52 p1)), (.int (own_ho2 p1 v52))]))
    have st69 : ∀ t, Steps p.tables e below (T67.setTop (mkF m 84 #[.val (.int p0), .val (.long p1), .second, .val (.long p2), .second, .val (.ref ea2), .val (.long v52), .second, .val (.int v55), .val (.int v60), .val (.int v64), .unset] [(.int (if (own_ho2 p1 v52) = (own_ho2 v52 p1) then (0 : Int32) else (1 : Int32)))])) t → Steps p.tables e below (T67.setTop (mkF m 76 #[.val (.int p0), .val (.long p1), .second, .val (.long p2), .second, .val (.ref ea2), .val (.long v52), .second, .val (.int v55), .val (.int v60), .val (.int v64), .unset] [(.int (own_ho2 v52 p1)), (.int (own_ho2 p1 v52))])) t := by
      intro t k
      by_cases hq70 : (own_ho2 p1 v52) = (own_ho2 v52 p1)
      · refine XS.icmpYes X67.here hx rfl (pc0 := 76) (pc' := 83) rfl (hb hby at_76) rfl (Jvm.Free.XT.ii_eq_t hq70) (by decide) (by decide) ?_
        show Steps p.tables e below (T67.setTop (mkF m 83 #[.val (.int p0), .val (.long p1), .second, .val (.long p2), .second, .val (.ref ea2), .val (.long v52), .second, .val (.int v55), .val (.int v60), .val (.int v64), .unset] [])) t
        refine XS.iconst X67.here hx rfl (hb hby at_83) ?_
        show Steps p.tables e below (T67.setTop (mkF m 84 #[.val (.int p0), .val (.long p1), .second, .val (.long p2), .second, .val (.ref ea2), .val (.long v52), .second, .val (.int v55), .val (.int v60), .val (.int v64), .unset] [(.int (0 : Int32))])) t
        simp only [if_pos hq70] at k
        exact k
      · refine XS.icmpNo X67.here hx rfl (hb hby at_76) rfl (Jvm.Free.XT.ii_eq_f hq70) ?_
        show Steps p.tables e below (T67.setTop (mkF m 79 #[.val (.int p0), .val (.long p1), .second, .val (.long p2), .second, .val (.ref ea2), .val (.long v52), .second, .val (.int v55), .val (.int v60), .val (.int v64), .unset] [])) t
        refine XS.iconst X67.here hx rfl (hb hby at_79) ?_
        show Steps p.tables e below (T67.setTop (mkF m 80 #[.val (.int p0), .val (.long p1), .second, .val (.long p2), .second, .val (.ref ea2), .val (.long v52), .second, .val (.int v55), .val (.int v60), .val (.int v64), .unset] [(.int (1 : Int32))])) t
        refine XS.goto X67.here hx rfl (pc0 := 80) (pc' := 84) rfl (hb hby at_80) (by decide) (by decide) ?_
        show Steps p.tables e below (T67.setTop (mkF m 84 #[.val (.int p0), .val (.long p1), .second, .val (.long p2), .second, .val (.ref ea2), .val (.long v52), .second, .val (.int v55), .val (.int v60), .val (.int v64), .unset] [(.int (1 : Int32))])) t
        simp only [if_neg hq70] at k
        exact k
    refine own_via st69 ?_
    show own_Go p e below s _ _ _ (T67.setTop (mkF m 84 #[.val (.int p0), .val (.long p1), .second, .val (.long p2), .second, .val (.ref ea2), .val (.long v52), .second, .val (.int v55), .val (.int v60), .val (.int v64), .unset] [(.int (if (own_ho2 p1 v52) = (own_ho2 v52 p1) then (0 : Int32) else (1 : Int32)))]))
    refine own_via (fun _ k => XS.istore X67.here hx rfl (hb hby at_84) rfl (l' := #[.val (.int p0), .val (.long p1), .second, .val (.long p2), .second, .val (.ref ea2), .val (.long v52), .second, .val (.int v55), .val (.int v60), .val (.int v64), .val (.int (if (own_ho2 p1 v52) = (own_ho2 v52 p1) then (0 : Int32) else (1 : Int32)))]) rfl k) ?_
    show own_Go p e below s _ _ _ (T67.setTop (mkF m 86 #[.val (.int p0), .val (.long p1), .second, .val (.long p2), .second, .val (.ref ea2), .val (.long v52), .second, .val (.int v55), .val (.int v60), .val (.int v64), .val (.int (if (own_ho2 p1 v52) = (own_ho2 v52 p1) then (0 : Int32) else (1 : Int32)))] []))
    generalize hv71 : (if (own_ho2 p1 v52) = (own_ho2 v52 p1) then (0 : Int32) else (1 : Int32)) = v71
    show own_Go p e below s _ _ _ (T67.setTop (mkF m 86 #[.val (.int p0), .val (.long p1), .second, .val (.long p2), .second, .val (.ref ea2), .val (.long v52), .second, .val (.int v55), .val (.int v60), .val (.int v64), .val (.int v71)] []))
    refine own_via (fun _ k => XS.iload X67.here hx rfl (hb hby at_86) rfl k) ?_
    show own_Go p e below s _ _ _ (T67.setTop (mkF m 88 #[.val (.int p0), .val (.long p1), .second, .val (.long p2), .second, .val (.ref ea2), .val (.long v52), .second, .val (.int v55), .val (.int v60), .val (.int v64), .val (.int v71)] [(.int v55)]))
    refine own_via (fun _ k => XS.iload X67.here hx rfl (hb hby at_88) rfl k) ?_
    show own_Go p e below s _ _ _ (T67.setTop (mkF m 90 #[.val (.int p0), .val (.long p1), .second, .val (.long p2), .second, .val (.ref ea2), .val (.long v52), .second, .val (.int v55), .val (.int v60), .val (.int v64), .val (.int v71)] [(.int v64), (.int v55)]))
    have hc72 : v55 = v64 := by rw [← hv55, ← hv64, ← hv60]; unfold own_ord; rw [if_neg ne0, if_neg ne1]; decide
    refine own_via (fun _ k => XS.icmpNo X67.here hx rfl (hb hby at_90) rfl (Jvm.Free.XT.ii_ne_f hc72) k) ?_
    show own_Go p e below s _ _ _ (T67.setTop (mkF m 93 #[.val (.int p0), .val (.long p1), .second, .val (.long p2), .second, .val (.ref ea2), .val (.long v52), .second, .val (.int v55), .val (.int v60), .val (.int v64), .val (.int v71)] []))
    refine own_via (fun _ k => XS.iload X67.here hx rfl (hb hby at_93) rfl k) ?_
    show own_Go p e below s _ _ _ (T67.setTop (mkF m 95 #[.val (.int p0), .val (.long p1), .second, .val (.long p2), .second, .val (.ref ea2), .val (.long v52), .second, .val (.int v55), .val (.int v60), .val (.int v64), .val (.int v71)] [(.int v55)]))
    refine own_via (fun _ k => XS.iload X67.here hx rfl (hb hby at_95) rfl k) ?_
    show own_Go p e below s _ _ _ (T67.setTop (mkF m 97 #[.val (.int p0), .val (.long p1), .second, .val (.long p2), .second, .val (.ref ea2), .val (.long v52), .second, .val (.int v55), .val (.int v60), .val (.int v64), .val (.int v71)] [(.int v71), (.int v55)]))
    have hc73 : v55 = v71 := by rw [← hv55]; unfold own_ord; rw [if_neg ne0, if_neg ne1]; exact own_fin2 (own_ne hv52) hv71
    refine own_via (fun _ k => XS.icmpNo X67.here hx rfl (hb hby at_97) rfl (Jvm.Free.XT.ii_ne_f hc73) k) ?_
    show own_Go p e below s _ _ _ (T67.setTop (mkF m 100 #[.val (.int p0), .val (.long p1), .second, .val (.long p2), .second, .val (.ref ea2), .val (.long v52), .second, .val (.int v55), .val (.int v60), .val (.int v64), .val (.int v71)] []))
    refine own_via (fun _ k => XS.iconst X67.here hx rfl (hb hby at_100) k) ?_
    show own_Go p e below s _ _ _ (T67.setTop (mkF m 101 #[.val (.int p0), .val (.long p1), .second, .val (.long p2), .second, .val (.ref ea2), .val (.long v52), .second, .val (.int v55), .val (.int v60), .val (.int v64), .val (.int v71)] [(.int (1 : Int32))]))
    refine own_via (fun _ k => XS.goto X67.here hx rfl (pc0 := 101) (pc' := 105) rfl (hb hby at_101) (by decide) (by decide) k) ?_
    show own_Go p e below s _ _ _ (T67.setTop (mkF m 105 #[.val (.int p0), .val (.long p1), .second, .val (.long p2), .second, .val (.ref ea2), .val (.long v52), .second, .val (.int v55), .val (.int v60), .val (.int v64), .val (.int v71)] [(.int (1 : Int32))]))
    exact own_goN X67 hx (t := .boolean) Bd.returns (by simp) (hb hby at_105) Bd.notSynchronized (by decide) (by decide) (by rw [e67]; exact ⟨rfl, N67⟩)
  · rw [hk]
    show own_Go p e below s _ _ _ (T1.setTop (mkF m 4 #[.val (.int p0), .val (.long p1), .second, .val (.long p2), .second, .unset, .unset, .unset, .unset, .unset, .unset, .unset] [(.ref ea3)]))
    have ko0 := hp8.2.1
    have ko1 := hp9.2.1
    have ko3 := hp11.2.1
    obtain ⟨kE, kO, kS, kX, kC, kV, kA, kZ, kT⟩ := hp11
    have ne0 : ea3 ≠ ea0 := Fld.ne ko3 ko0 (fun q => absurd (Value.int.inj q) (by decide))
    have ne1 : ea3 ≠ ea1 := Fld.ne ko3 ko1 (fun q => absurd (Value.int.inj q) (by decide))
    refine own_via (fun _ k => XS.astore X1.here hx rfl (hb hby at_4) rfl rfl (l' := #[.val (.int p0), .val (.long p1), .second, .val (.long p2), .second, .val (.ref ea3), .unset, .unset, .unset, .unset, .unset, .unset]) rfl k) ?_
    show own_Go p e below s _ _ _ (T1.setTop (mkF m 6 #[.val (.int p0), .val (.long p1), .second, .val (.long p2), .second, .val (.ref ea3), .unset, .unset, .unset, .unset, .unset, .unset] []))
    refine own_via (fun _ k => XS.lloadN X1.here hx rfl (hb hby at_6) rfl k) ?_
    show own_Go p e below s _ _ _ (T1.setTop (mkF m 7 #[.val (.int p0), .val (.long p1), .second, .val (.long p2), .second, .val (.ref ea3), .unset, .unset, .unset, .unset, .unset, .unset] [(.long p2)]))
    refine own_via (fun _ k => XS.lstore X1.here hx rfl (hb hby at_7) rfl (l' := #[.val (.int p0), .val (.long p1), .second, .val (.long p2), .second, .val (.ref ea3), .val (.long p2), .second, .unset, .unset, .unset, .unset]) rfl k) ?_
    show own_Go p e below s _ _ _ (T1.setTop (mkF m 9 #[.val (.int p0), .val (.long p1), .second, .val (.long p2), .second, .val (.ref ea3), .val (.long p2), .second, .unset, .unset, .unset, .unset] []))
    have st74 : ∀ t, Steps p.tables e below (T1.setTop (mkF m 21 #[.val (.int p0), .val (.long p1), .second, .val (.long p2), .second, .val (.ref ea3), .val (.long (if p1 = p2 then (p1 ^^^ (1 : Int64)) else p2)), .second, .unset, .unset, .unset, .unset] [])) t → Steps p.tables e below (T1.setTop (mkF m 9 #[.val (.int p0), .val (.long p1), .second, .val (.long p2), .second, .val (.ref ea3), .val (.long p2), .second, .unset, .unset, .unset, .unset] [])) t := by
      intro t k
      refine XS.lloadN X1.here hx rfl (hb hby at_9) rfl ?_
      show Steps p.tables e below (T1.setTop (mkF m 10 #[.val (.int p0), .val (.long p1), .second, .val (.long p2), .second, .val (.ref ea3), .val (.long p2), .second, .unset, .unset, .unset, .unset] [(.long p1)])) t
      refine XS.lload X1.here hx rfl (hb hby at_10) rfl ?_
      show Steps p.tables e below (T1.setTop (mkF m 12 #[.val (.int p0), .val (.long p1), .second, .val (.long p2), .second, .val (.ref ea3), .val (.long p2), .second, .unset, .unset, .unset, .unset] [(.long p2), (.long p1)])) t
      refine XS.lcmp X1.here hx rfl (hb hby at_12) rfl ?_
      show Steps p.tables e below (T1.setTop (mkF m 13 #[.val (.int p0), .val (.long p1), .second, .val (.long p2), .second, .val (.ref ea3), .val (.long p2), .second, .unset, .unset, .unset, .unset] [(.int (lcmpW p1 p2))])) t
      by_cases hq75 : p1 = p2
      · refine XS.ifNo X1.here hx rfl (hb hby at_13) rfl (Jvm.Free.XT.ll_ne_f hq75) ?_
        show Steps p.tables e below (T1.setTop (mkF m 16 #[.val (.int p0), .val (.long p1), .second, .val (.long p2), .second, .val (.ref ea3), .val (.long p2), .second, .unset, .unset, .unset, .unset] [])) t
        refine XS.lloadN X1.here hx rfl (hb hby at_16) rfl ?_
        show Steps p.tables e below (T1.setTop (mkF m 17 #[.val (.int p0), .val (.long p1), .second, .val (.long p2), .second, .val (.ref ea3), .val (.long p2), .second, .unset, .unset, .unset, .unset] [(.long p1)])) t
        refine XS.lconst X1.here hx rfl (hb hby at_17) ?_
        show Steps p.tables e below (T1.setTop (mkF m 18 #[.val (.int p0), .val (.long p1), .second, .val (.long p2), .second, .val (.ref ea3), .val (.long p2), .second, .unset, .unset, .unset, .unset] [(.long (1 : Int64)), (.long p1)])) t
        refine XS.lxor X1.here hx rfl (hb hby at_18) rfl ?_
        show Steps p.tables e below (T1.setTop (mkF m 19 #[.val (.int p0), .val (.long p1), .second, .val (.long p2), .second, .val (.ref ea3), .val (.long p2), .second, .unset, .unset, .unset, .unset] [(.long (p1 ^^^ (1 : Int64)))])) t
        refine XS.lstore X1.here hx rfl (hb hby at_19) rfl (l' := #[.val (.int p0), .val (.long p1), .second, .val (.long p2), .second, .val (.ref ea3), .val (.long (p1 ^^^ (1 : Int64))), .second, .unset, .unset, .unset, .unset]) rfl ?_
        show Steps p.tables e below (T1.setTop (mkF m 21 #[.val (.int p0), .val (.long p1), .second, .val (.long p2), .second, .val (.ref ea3), .val (.long (p1 ^^^ (1 : Int64))), .second, .unset, .unset, .unset, .unset] [])) t
        simp only [if_pos hq75] at k
        exact k
      · refine XS.ifYes X1.here hx rfl (pc0 := 13) (pc' := 21) rfl (hb hby at_13) rfl (Jvm.Free.XT.ll_ne_t hq75) (by decide) (by decide) ?_
        show Steps p.tables e below (T1.setTop (mkF m 21 #[.val (.int p0), .val (.long p1), .second, .val (.long p2), .second, .val (.ref ea3), .val (.long p2), .second, .unset, .unset, .unset, .unset] [])) t
        simp only [if_neg hq75] at k
        exact k
    refine own_via st74 ?_
    show own_Go p e below s _ _ _ (T1.setTop (mkF m 21 #[.val (.int p0), .val (.long p1), .second, .val (.long p2), .second, .val (.ref ea3), .val (.long (if p1 = p2 then (p1 ^^^ (1 : Int64)) else p2)), .second, .unset, .unset, .unset, .unset] []))
    generalize hv76 : (if p1 = p2 then (p1 ^^^ (1 : Int64)) else p2) = v76
    show own_Go p e below s _ _ _ (T1.setTop (mkF m 21 #[.val (.int p0), .val (.long p1), .second, .val (.long p2), .second, .val (.ref ea3), .val (.long v76), .second, .unset, .unset, .unset, .unset] []))
    refine own_via (fun _ k => XS.aload X1.here hx rfl (hb hby at_21) rfl rfl k) ?_
    show own_Go p e below s _ _ _ (T1.setTop (mkF m 23 #[.val (.int p0), .val (.long p1), .second, .val (.long p2), .second, .val (.ref ea3), .val (.long v76), .second, .unset, .unset, .unset, .unset] [(.ref ea3)]))
    have F78 := kE.ext O0.2
    obtain ⟨cq77, kq77, qa77, qb77, qc77⟩ := isOf hZ e1 F78
    obtain ⟨_, _, ⟨T77, L77, k77, n77⟩, -, X77, ⟨Lc77, hQ77, l77, y77, z77⟩, st77⟩ := X1.virtualBack hx (y := (⟨"com/example/trajectory/trajectory/model/Condition$Operator", "orders", "()Z"⟩ : MethodName)) (z := (⟨"com/example/trajectory/trajectory/model/Condition$Operator", "orders", "()Z"⟩ : MethodName)) hown (mvT hZ (hw _ (List.mem_of_getElem? (i := 8) rfl))) (mvT hZ (hw _ (List.mem_of_getElem? (i := 9) rfl))) (notFace_of_selects (args := #[]) (mvT hZ (hw _ (List.mem_of_getElem? (i := 11) rfl)))) (mvT hZ (hw _ (List.mem_of_getElem? (i := 11) rfl))) (mvT hZ (hw _ (List.mem_of_getElem? (i := 10) rfl))) (by decide) (backOf (W := 0) (rm2 l Z a0 hw [] ea3 ea0 ea1 h0 n0 Z0 O0 S_EQUALS S_NOT_EQUALS) hZ (hw _ (List.mem_of_getElem? (i := 12) rfl)) (hw _ (List.mem_of_getElem? (i := 6) rfl)) (by decide) (by decide)) qa77 qc77 (g := (mkF m 23 #[.val (.int p0), .val (.long p1), .second, .val (.long p2), .second, .val (.ref ea3), .val (.long v76), .second, .unset, .unset, .unset, .unset] [(.ref ea3)])) rfl (by rw [hml]; rfl) (Steps.refl _) (argsL := []) (rest := []) (lenOf pd_2 rfl) rfl (by show 2 * 0 + _ ≤ _; exact Nat.le_of_eq rfl) (hb hby at_23) (fun _ _ => ⟨rfl, e1, (by decide : 0 + 0 ≤ _), (by decide : 0 + 0 ≤ _)⟩)
    dsimp only [Pt.U, Pt.locs, Pt.cells, Pt.slots] at X77 l77 y77 z77 st77 hQ77
    subst l77 y77 z77
    obtain ⟨rfl, N77q, e77⟩ := hQ77
    have N77 := Fr.app N1 N77q
    refine own_viaT st77 ?_
    show own_Go p e below s _ _ _ (T77.setTop (mkF m 26 #[.val (.int p0), .val (.long p1), .second, .val (.long p2), .second, .val (.ref ea3), .val (.long v76), .second, .unset, .unset, .unset, .unset] [(.int (own_ord ea3 ea0 ea1))]))
    refine own_via (fun _ k => XS.istore X77.here hx rfl (hb hby at_26) rfl (l' := #[.val (.int p0), .val (.long p1), .second, .val (.long p2), .second, .val (.ref ea3), .val (.long v76), .second, .val (.int (own_ord ea3 ea0 ea1)), .unset, .unset, .unset]) rfl k) ?_
    show own_Go p e below s _ _ _ (T77.setTop (mkF m 28 #[.val (.int p0), .val (.long p1), .second, .val (.long p2), .second, .val (.ref ea3), .val (.long v76), .second, .val (.int (own_ord ea3 ea0 ea1)), .unset, .unset, .unset] []))
    generalize hv79 : (own_ord ea3 ea0 ea1) = v79
    show own_Go p e below s _ _ _ (T77.setTop (mkF m 28 #[.val (.int p0), .val (.long p1), .second, .val (.long p2), .second, .val (.ref ea3), .val (.long v76), .second, .val (.int v79), .unset, .unset, .unset] []))
    refine own_via (fun _ k => XS.aload X77.here hx rfl (hb hby at_28) rfl rfl k) ?_
    show own_Go p e below s _ _ _ (T77.setTop (mkF m 30 #[.val (.int p0), .val (.long p1), .second, .val (.long p2), .second, .val (.ref ea3), .val (.long v76), .second, .val (.int v79), .unset, .unset, .unset] [(.ref ea3)]))
    have F81 := kE.ext O0.2
    obtain ⟨cq80, kq80, qa80, qb80, qc80⟩ := isOf hZ e77 F81
    obtain ⟨_, _, ⟨T80, L80, k80, n80⟩, -, X80, ⟨Lc80, hQ80, l80, y80, z80⟩, st80⟩ := X77.virtualBack hx (y := (⟨"com/example/trajectory/trajectory/model/Condition$Operator", "symbol", "()Ljava/lang/String;"⟩ : MethodName)) (z := (⟨"com/example/trajectory/trajectory/model/Condition$Operator", "symbol", "()Ljava/lang/String;"⟩ : MethodName)) hown (mvT hZ (hw _ (List.mem_of_getElem? (i := 14) rfl))) (mvT hZ (hw _ (List.mem_of_getElem? (i := 15) rfl))) (notFace_of_selects (args := #[]) (mvT hZ (hw _ (List.mem_of_getElem? (i := 17) rfl)))) (mvT hZ (hw _ (List.mem_of_getElem? (i := 17) rfl))) (mvT hZ (hw _ (List.mem_of_getElem? (i := 16) rfl))) (by decide) (backOf (W := 0) (rm3 l Z a0 hw [] ea3 sa3 h0 n0 Z0 O0 kS) hZ (hw _ (List.mem_of_getElem? (i := 18) rfl)) (hw _ (List.mem_of_getElem? (i := 6) rfl)) (by decide) (by decide)) qa80 qc80 (g := (mkF m 30 #[.val (.int p0), .val (.long p1), .second, .val (.long p2), .second, .val (.ref ea3), .val (.long v76), .second, .val (.int v79), .unset, .unset, .unset] [(.ref ea3)])) rfl (by rw [hml]; rfl) (Steps.refl _) (argsL := []) (rest := []) (lenOf pd_6 rfl) rfl (by show 2 * 0 + _ ≤ _; exact Nat.le_of_eq rfl) (hb hby at_30) (fun _ _ => ⟨rfl, e77, (by decide : 0 + 0 ≤ _), (by decide : 0 + 0 ≤ _)⟩)
    dsimp only [Pt.U, Pt.locs, Pt.cells, Pt.slots] at X80 l80 y80 z80 st80 hQ80
    subst l80 y80 z80
    obtain ⟨rfl, N80q, e80⟩ := hQ80
    have N80 := Fr.app N77 N80q
    refine own_viaT st80 ?_
    show own_Go p e below s _ _ _ (T80.setTop (mkF m 33 #[.val (.int p0), .val (.long p1), .second, .val (.long p2), .second, .val (.ref ea3), .val (.long v76), .second, .val (.int v79), .unset, .unset, .unset] [(.ref sa3)]))
    refine own_via (fun _ k => XS.iconst X80.here hx rfl (hb hby at_33) k) ?_
    show own_Go p e below s _ _ _ (T80.setTop (mkF m 34 #[.val (.int p0), .val (.long p1), .second, .val (.long p2), .second, .val (.ref ea3), .val (.long v76), .second, .val (.int v79), .unset, .unset, .unset] [(.int (0 : Int32)), (.ref sa3)]))
    have F83 := kX.ext O0.2
    obtain ⟨cq82, kq82, qa82, qb82, qc82⟩ := isOf hZ e80 F83
    obtain ⟨_, _, ⟨T82, L82, k82, n82⟩, -, X82, ⟨Lc82, hQ82, l82, y82, z82⟩, st82⟩ := X80.virtualBack hx (y := (⟨"java/lang/String", "charAt", "(I)C"⟩ : MethodName)) (z := (⟨"java/lang/String", "charAt", "(I)C"⟩ : MethodName)) hown (mvT hZ (hw _ (List.mem_of_getElem? (i := 21) rfl))) (mvT hZ (hw _ (List.mem_of_getElem? (i := 22) rfl))) (notFace_of_selects (args := #[]) (mvT hZ (hw _ (List.mem_of_getElem? (i := 24) rfl)))) (mvT hZ (hw _ (List.mem_of_getElem? (i := 24) rfl))) (mvT hZ (hw _ (List.mem_of_getElem? (i := 23) rfl))) (by decide) (backOf (W := 0) (rm4 l Z a0 hw [] sa3 (0 : Int32) va3 cs_ cl3 (2 : Int32) (60 : Int32) fm_ h0 n0 Z0 O0 S_SIOOBE_FORMATTER S_COMPACT_STRINGS kC kV kA kZ (by decide) (by decide) kT hp14 kX (by rfl) hp15) hZ (hw _ (List.mem_of_getElem? (i := 26) rfl)) (hw _ (List.mem_of_getElem? (i := 25) rfl)) (by decide) (by decide)) qa82 qc82 (g := (mkF m 34 #[.val (.int p0), .val (.long p1), .second, .val (.long p2), .second, .val (.ref ea3), .val (.long v76), .second, .val (.int v79), .unset, .unset, .unset] [(.int (0 : Int32)), (.ref sa3)])) rfl (by rw [hml]; rfl) (Steps.refl _) (argsL := [(.int (0 : Int32))]) (rest := []) (lenOf pd_7 rfl) rfl (by show 2 * 0 + _ ≤ _; exact Nat.le_of_eq rfl) (hb hby at_34) (fun _ _ => ⟨rfl, e80, (by decide : 0 + 0 ≤ _), (by decide : 0 + 0 ≤ _)⟩)
    dsimp only [Pt.U, Pt.locs, Pt.cells, Pt.slots] at X82 l82 y82 z82 st82 hQ82
    subst l82 y82 z82
    obtain ⟨rfl, N82q, e82⟩ := hQ82
    have N82 := Fr.app N80 N82q
    refine own_viaT st82 ?_
    show own_Go p e below s _ _ _ (T82.setTop (mkF m 37 #[.val (.int p0), .val (.long p1), .second, .val (.long p2), .second, .val (.ref ea3), .val (.long v76), .second, .val (.int v79), .unset, .unset, .unset] [(.int (nar .char (nar .char (o_i2c ((60 : Int32) &&& (255 : Int32))))))]))
    refine own_via (fun _ k => XS.istore X82.here hx rfl (hb hby at_37) rfl (l' := #[.val (.int p0), .val (.long p1), .second, .val (.long p2), .second, .val (.ref ea3), .val (.long v76), .second, .val (.int v79), .val (.int (nar .char (nar .char (o_i2c ((60 : Int32) &&& (255 : Int32)))))), .unset, .unset]) rfl k) ?_
    show own_Go p e below s _ _ _ (T82.setTop (mkF m 39 #[.val (.int p0), .val (.long p1), .second, .val (.long p2), .second, .val (.ref ea3), .val (.long v76), .second, .val (.int v79), .val (.int (nar .char (nar .char (o_i2c ((60 : Int32) &&& (255 : Int32)))))), .unset, .unset] []))
    generalize hv84 : (nar .char (nar .char (o_i2c ((60 : Int32) &&& (255 : Int32))))) = v84
    show own_Go p e below s _ _ _ (T82.setTop (mkF m 39 #[.val (.int p0), .val (.long p1), .second, .val (.long p2), .second, .val (.ref ea3), .val (.long v76), .second, .val (.int v79), .val (.int v84), .unset, .unset] []))
    have st85 : ∀ t, Steps p.tables e below (T82.setTop (mkF m 58 #[.val (.int p0), .val (.long p1), .second, .val (.long p2), .second, .val (.ref ea3), .val (.long v76), .second, .val (.int v79), .val (.int v84), .unset, .unset] [(.int (if v84 = (60 : Int32) then (1 : Int32) else (if v84 = (62 : Int32) then (1 : Int32) else (0 : Int32))))])) t → Steps p.tables e below (T82.setTop (mkF m 39 #[.val (.int p0), .val (.long p1), .second, .val (.long p2), .second, .val (.ref ea3), .val (.long v76), .second, .val (.int v79), .val (.int v84), .unset, .unset] [])) t := by
      intro t k
      refine XS.iload X82.here hx rfl (hb hby at_39) rfl ?_
      show Steps p.tables e below (T82.setTop (mkF m 41 #[.val (.int p0), .val (.long p1), .second, .val (.long p2), .second, .val (.ref ea3), .val (.long v76), .second, .val (.int v79), .val (.int v84), .unset, .unset] [(.int v84)])) t
      refine XS.bipush X82.here hx rfl (hb hby at_41) ?_
      show Steps p.tables e below (T82.setTop (mkF m 43 #[.val (.int p0), .val (.long p1), .second, .val (.long p2), .second, .val (.ref ea3), .val (.long v76), .second, .val (.int v79), .val (.int v84), .unset, .unset] [(.int (60 : Int32)), (.int v84)])) t
      by_cases hq86 : v84 = (60 : Int32)
      · refine XS.icmpYes X82.here hx rfl (pc0 := 43) (pc' := 53) rfl (hb hby at_43) rfl (Jvm.Free.XT.ii_eq_t hq86) (by decide) (by decide) ?_
        show Steps p.tables e below (T82.setTop (mkF m 53 #[.val (.int p0), .val (.long p1), .second, .val (.long p2), .second, .val (.ref ea3), .val (.long v76), .second, .val (.int v79), .val (.int v84), .unset, .unset] [])) t
        refine XS.iconst X82.here hx rfl (hb hby at_53) ?_
        show Steps p.tables e below (T82.setTop (mkF m 54 #[.val (.int p0), .val (.long p1), .second, .val (.long p2), .second, .val (.ref ea3), .val (.long v76), .second, .val (.int v79), .val (.int v84), .unset, .unset] [(.int (1 : Int32))])) t
        refine XS.goto X82.here hx rfl (pc0 := 54) (pc' := 58) rfl (hb hby at_54) (by decide) (by decide) ?_
        show Steps p.tables e below (T82.setTop (mkF m 58 #[.val (.int p0), .val (.long p1), .second, .val (.long p2), .second, .val (.ref ea3), .val (.long v76), .second, .val (.int v79), .val (.int v84), .unset, .unset] [(.int (1 : Int32))])) t
        simp only [if_pos hq86] at k
        exact k
      · refine XS.icmpNo X82.here hx rfl (hb hby at_43) rfl (Jvm.Free.XT.ii_eq_f hq86) ?_
        show Steps p.tables e below (T82.setTop (mkF m 46 #[.val (.int p0), .val (.long p1), .second, .val (.long p2), .second, .val (.ref ea3), .val (.long v76), .second, .val (.int v79), .val (.int v84), .unset, .unset] [])) t
        refine XS.iload X82.here hx rfl (hb hby at_46) rfl ?_
        show Steps p.tables e below (T82.setTop (mkF m 48 #[.val (.int p0), .val (.long p1), .second, .val (.long p2), .second, .val (.ref ea3), .val (.long v76), .second, .val (.int v79), .val (.int v84), .unset, .unset] [(.int v84)])) t
        refine XS.bipush X82.here hx rfl (hb hby at_48) ?_
        show Steps p.tables e below (T82.setTop (mkF m 50 #[.val (.int p0), .val (.long p1), .second, .val (.long p2), .second, .val (.ref ea3), .val (.long v76), .second, .val (.int v79), .val (.int v84), .unset, .unset] [(.int (62 : Int32)), (.int v84)])) t
        by_cases hq87 : v84 = (62 : Int32)
        · refine XS.icmpNo X82.here hx rfl (hb hby at_50) rfl (Jvm.Free.XT.ii_ne_f hq87) ?_
          show Steps p.tables e below (T82.setTop (mkF m 53 #[.val (.int p0), .val (.long p1), .second, .val (.long p2), .second, .val (.ref ea3), .val (.long v76), .second, .val (.int v79), .val (.int v84), .unset, .unset] [])) t
          refine XS.iconst X82.here hx rfl (hb hby at_53) ?_
          show Steps p.tables e below (T82.setTop (mkF m 54 #[.val (.int p0), .val (.long p1), .second, .val (.long p2), .second, .val (.ref ea3), .val (.long v76), .second, .val (.int v79), .val (.int v84), .unset, .unset] [(.int (1 : Int32))])) t
          refine XS.goto X82.here hx rfl (pc0 := 54) (pc' := 58) rfl (hb hby at_54) (by decide) (by decide) ?_
          show Steps p.tables e below (T82.setTop (mkF m 58 #[.val (.int p0), .val (.long p1), .second, .val (.long p2), .second, .val (.ref ea3), .val (.long v76), .second, .val (.int v79), .val (.int v84), .unset, .unset] [(.int (1 : Int32))])) t
          simp only [if_neg hq86, if_pos hq87] at k
          exact k
        · refine XS.icmpYes X82.here hx rfl (pc0 := 50) (pc' := 57) rfl (hb hby at_50) rfl (Jvm.Free.XT.ii_ne_t hq87) (by decide) (by decide) ?_
          show Steps p.tables e below (T82.setTop (mkF m 57 #[.val (.int p0), .val (.long p1), .second, .val (.long p2), .second, .val (.ref ea3), .val (.long v76), .second, .val (.int v79), .val (.int v84), .unset, .unset] [])) t
          refine XS.iconst X82.here hx rfl (hb hby at_57) ?_
          show Steps p.tables e below (T82.setTop (mkF m 58 #[.val (.int p0), .val (.long p1), .second, .val (.long p2), .second, .val (.ref ea3), .val (.long v76), .second, .val (.int v79), .val (.int v84), .unset, .unset] [(.int (0 : Int32))])) t
          simp only [if_neg hq86, if_neg hq87] at k
          exact k
    refine own_via st85 ?_
    show own_Go p e below s _ _ _ (T82.setTop (mkF m 58 #[.val (.int p0), .val (.long p1), .second, .val (.long p2), .second, .val (.ref ea3), .val (.long v76), .second, .val (.int v79), .val (.int v84), .unset, .unset] [(.int (if v84 = (60 : Int32) then (1 : Int32) else (if v84 = (62 : Int32) then (1 : Int32) else (0 : Int32))))]))
    refine own_via (fun _ k => XS.istore X82.here hx rfl (hb hby at_58) rfl (l' := #[.val (.int p0), .val (.long p1), .second, .val (.long p2), .second, .val (.ref ea3), .val (.long v76), .second, .val (.int v79), .val (.int v84), .val (.int (if v84 = (60 : Int32) then (1 : Int32) else (if v84 = (62 : Int32) then (1 : Int32) else (0 : Int32)))), .unset]) rfl k) ?_
    show own_Go p e below s _ _ _ (T82.setTop (mkF m 60 #[.val (.int p0), .val (.long p1), .second, .val (.long p2), .second, .val (.ref ea3), .val (.long v76), .second, .val (.int v79), .val (.int v84), .val (.int (if v84 = (60 : Int32) then (1 : Int32) else (if v84 = (62 : Int32) then (1 : Int32) else (0 : Int32)))), .unset] []))
    generalize hv88 : (if v84 = (60 : Int32) then (1 : Int32) else (if v84 = (62 : Int32) then (1 : Int32) else (0 : Int32))) = v88
    show own_Go p e below s _ _ _ (T82.setTop (mkF m 60 #[.val (.int p0), .val (.long p1), .second, .val (.long p2), .second, .val (.ref ea3), .val (.long v76), .second, .val (.int v79), .val (.int v84), .val (.int v88), .unset] []))
    refine own_via (fun _ k => XS.aload X82.here hx rfl (hb hby at_60) rfl rfl k) ?_
    show own_Go p e below s _ _ _ (T82.setTop (mkF m 62 #[.val (.int p0), .val (.long p1), .second, .val (.long p2), .second, .val (.ref ea3), .val (.long v76), .second, .val (.int v79), .val (.int v84), .val (.int v88), .unset] [(.ref ea3)]))
    refine own_via (fun _ k => XS.lloadN X82.here hx rfl (hb hby at_62) rfl k) ?_
    show own_Go p e below s _ _ _ (T82.setTop (mkF m 63 #[.val (.int p0), .val (.long p1), .second, .val (.long p2), .second, .val (.ref ea3), .val (.long v76), .second, .val (.int v79), .val (.int v84), .val (.int v88), .unset] [(.long p1), (.ref ea3)]))
    refine own_via (fun _ k => XS.lload X82.here hx rfl (hb hby at_63) rfl k) ?_
    show own_Go p e below s _ _ _ (T82.setTop (mkF m 65 #[.val (.int p0), .val (.long p1), .second, .val (.long p2), .second, .val (.ref ea3), .val (.long v76), .second, .val (.int v79), .val (.int v84), .val (.int v88), .unset] [(.long v76), (.long p1), (.ref ea3)]))
    have F90 := kE.ext O0.2
    obtain ⟨cq89, kq89, qa89, qb89, qc89⟩ := isOf hZ e82 F90
    obtain ⟨_, _, ⟨T89, L89, k89, n89⟩, -, X89, ⟨Lc89, hQ89, l89, y89, z89⟩, st89⟩ := X82.virtualBack hx (y := (⟨"com/example/trajectory/trajectory/model/Condition$Operator", "holds", "(JJ)Z"⟩ : MethodName)) (z := (⟨"com/example/trajectory/trajectory/model/Condition$Operator", "holds", "(JJ)Z"⟩ : MethodName)) hown (mvT hZ (hw _ (List.mem_of_getElem? (i := 49) rfl))) (mvT hZ (hw _ (List.mem_of_getElem? (i := 50) rfl))) (notFace_of_selects (args := #[]) (mvT hZ (hw _ (List.mem_of_getElem? (i := 52) rfl)))) (mvT hZ (hw _ (List.mem_of_getElem? (i := 52) rfl))) (mvT hZ (hw _ (List.mem_of_getElem? (i := 51) rfl))) (by decide) (backOf (W := 0) (rmho3 l Z a0 hw [] ea3 p1 v76 h0 n0 Z0 O0 kO kE) hZ (hw _ (List.mem_of_getElem? (i := 53) rfl)) (hw _ (List.mem_of_getElem? (i := 6) rfl)) (by decide) (by decide)) qa89 qc89 (g := (mkF m 65 #[.val (.int p0), .val (.long p1), .second, .val (.long p2), .second, .val (.ref ea3), .val (.long v76), .second, .val (.int v79), .val (.int v84), .val (.int v88), .unset] [(.long v76), (.long p1), (.ref ea3)])) rfl (by rw [hml]; rfl) (Steps.refl _) (argsL := [(.long p1), (.long v76)]) (rest := []) (lenOf pd_8 rfl) rfl (by show 2 * 0 + _ ≤ _; exact Nat.le_of_eq rfl) (hb hby at_65) (fun _ _ => ⟨rfl, e82, (by decide : 0 + 0 ≤ _), (by decide : 0 + 0 ≤ _)⟩)
    dsimp only [Pt.U, Pt.locs, Pt.cells, Pt.slots] at X89 l89 y89 z89 st89 hQ89
    subst l89 y89 z89
    obtain ⟨rfl, N89q, e89⟩ := hQ89
    have N89 := Fr.app N82 N89q
    refine own_viaT st89 ?_
    show own_Go p e below s _ _ _ (T89.setTop (mkF m 68 #[.val (.int p0), .val (.long p1), .second, .val (.long p2), .second, .val (.ref ea3), .val (.long v76), .second, .val (.int v79), .val (.int v84), .val (.int v88), .unset] [(.int (own_ho3 p1 v76))]))
    refine own_via (fun _ k => XS.aload X89.here hx rfl (hb hby at_68) rfl rfl k) ?_
    show own_Go p e below s _ _ _ (T89.setTop (mkF m 70 #[.val (.int p0), .val (.long p1), .second, .val (.long p2), .second, .val (.ref ea3), .val (.long v76), .second, .val (.int v79), .val (.int v84), .val (.int v88), .unset] [(.ref ea3), (.int (own_ho3 p1 v76))]))
    refine own_via (fun _ k => XS.lload X89.here hx rfl (hb hby at_70) rfl k) ?_
    show own_Go p e below s _ _ _ (T89.setTop (mkF m 72 #[.val (.int p0), .val (.long p1), .second, .val (.long p2), .second, .val (.ref ea3), .val (.long v76), .second, .val (.int v79), .val (.int v84), .val (.int v88), .unset] [(.long v76), (.ref ea3), (.int (own_ho3 p1 v76))]))
    refine own_via (fun _ k => XS.lloadN X89.here hx rfl (hb hby at_72) rfl k) ?_
    show own_Go p e below s _ _ _ (T89.setTop (mkF m 73 #[.val (.int p0), .val (.long p1), .second, .val (.long p2), .second, .val (.ref ea3), .val (.long v76), .second, .val (.int v79), .val (.int v84), .val (.int v88), .unset] [(.long p1), (.long v76), (.ref ea3), (.int (own_ho3 p1 v76))]))
    have F92 := kE.ext O0.2
    obtain ⟨cq91, kq91, qa91, qb91, qc91⟩ := isOf hZ e89 F92
    obtain ⟨_, _, ⟨T91, L91, k91, n91⟩, -, X91, ⟨Lc91, hQ91, l91, y91, z91⟩, st91⟩ := X89.virtualBack hx (y := (⟨"com/example/trajectory/trajectory/model/Condition$Operator", "holds", "(JJ)Z"⟩ : MethodName)) (z := (⟨"com/example/trajectory/trajectory/model/Condition$Operator", "holds", "(JJ)Z"⟩ : MethodName)) hown (mvT hZ (hw _ (List.mem_of_getElem? (i := 49) rfl))) (mvT hZ (hw _ (List.mem_of_getElem? (i := 50) rfl))) (notFace_of_selects (args := #[]) (mvT hZ (hw _ (List.mem_of_getElem? (i := 52) rfl)))) (mvT hZ (hw _ (List.mem_of_getElem? (i := 52) rfl))) (mvT hZ (hw _ (List.mem_of_getElem? (i := 51) rfl))) (by decide) (backOf (W := 1) (rmho3 l Z a0 hw [] ea3 v76 p1 h0 n0 Z0 O0 kO kE) hZ (hw _ (List.mem_of_getElem? (i := 53) rfl)) (hw _ (List.mem_of_getElem? (i := 6) rfl)) (by decide) (by decide)) qa91 qc91 (g := (mkF m 73 #[.val (.int p0), .val (.long p1), .second, .val (.long p2), .second, .val (.ref ea3), .val (.long v76), .second, .val (.int v79), .val (.int v84), .val (.int v88), .unset] [(.long p1), (.long v76), (.ref ea3), (.int (own_ho3 p1 v76))])) rfl (by rw [hml]; rfl) (Steps.refl _) (argsL := [(.long v76), (.long p1)]) (rest := [(.int (own_ho3 p1 v76))]) (lenOf pd_8 rfl) rfl (by show 2 * 0 + _ ≤ _; exact Nat.le_of_eq rfl) (hb hby at_73) (fun _ _ => ⟨rfl, e89, (by decide : 0 + 0 ≤ _), (by decide : 0 + 0 ≤ _)⟩)
    dsimp only [Pt.U, Pt.locs, Pt.cells, Pt.slots] at X91 l91 y91 z91 st91 hQ91
    subst l91 y91 z91
    obtain ⟨rfl, N91q, e91⟩ := hQ91
    have N91 := Fr.app N89 N91q
    refine own_viaT st91 ?_
    show own_Go p e below s _ _ _ (T91.setTop (mkF m 76 #[.val (.int p0), .val (.long p1), .second, .val (.long p2), .second, .val (.ref ea3), .val (.long v76), .second, .val (.int v79), .val (.int v84), .val (.int v88), .unset] [(.int (own_ho3 v76 p1)), (.int (own_ho3 p1 v76))]))
    have st93 : ∀ t, Steps p.tables e below (T91.setTop (mkF m 84 #[.val (.int p0), .val (.long p1), .second, .val (.long p2), .second, .val (.ref ea3), .val (.long v76), .second, .val (.int v79), .val (.int v84), .val (.int v88), .unset] [(.int (if (own_ho3 p1 v76) = (own_ho3 v76 p1) then (0 : Int32) else (1 : Int32)))])) t → Steps p.tables e below (T91.setTop (mkF m 76 #[.val (.int p0), .val (.long p1), .second, .val (.long p2), .second, .val (.ref ea3), .val (.long v76), .second, .val (.int v79), .val (.int v84), .val (.int v88), .unset] [(.int (own_ho3 v76 p1)), (.int (own_ho3 p1 v76))])) t := by
      intro t k
      by_cases hq94 : (own_ho3 p1 v76) = (own_ho3 v76 p1)
      · refine XS.icmpYes X91.here hx rfl (pc0 := 76) (pc' := 83) rfl (hb hby at_76) rfl (Jvm.Free.XT.ii_eq_t hq94) (by decide) (by decide) ?_
        show Steps p.tables e below (T91.setTop (mkF m 83 #[.val (.int p0), .val (.long p1), .second, .val (.long p2), .second, .val (.ref ea3), .val (.long v76), .second, .val (.int v79), .val (.int v84), .val (.int v88), .unset] [])) t
        refine XS.iconst X91.here hx rfl (hb hby at_83) ?_
        show Steps p.tables e below (T91.setTop (mkF m 84 #[.val (.int p0), .val (.long p1), .second, .val (.long p2), .second, .val (.ref ea3), .val (.long v76), .second, .val (.int v79), .val (.int v84), .val (.int v88), .unset] [(.int (0 : Int32))])) t
        simp only [if_pos hq94] at k
        exact k
      · refine XS.icmpNo X91.here hx rfl (hb hby at_76) rfl (Jvm.Free.XT.ii_eq_f hq94) ?_
        show Steps p.tables e below (T91.setTop (mkF m 79 #[.val (.int p0), .val (.long p1), .second, .val (.long p2), .second, .val (.ref ea3), .val (.long v76), .second, .val (.int v79), .val (.int v84), .val (.int v88), .unset] [])) t
        refine XS.iconst X91.here hx rfl (hb hby at_79) ?_
        show Steps p.tables e below (T91.setTop (mkF m 80 #[.val (.int p0), .val (.long p1), .second, .val (.long p2), .second, .val (.ref ea3), .val (.long v76), .second, .val (.int v79), .val (.int v84), .val (.int v88), .unset] [(.int (1 : Int32))])) t
        refine XS.goto X91.here hx rfl (pc0 := 80) (pc' := 84) rfl (hb hby at_80) (by decide) (by decide) ?_
        show Steps p.tables e below (T91.setTop (mkF m 84 #[.val (.int p0), .val (.long p1), .second, .val (.long p2), .second, .val (.ref ea3), .val (.long v76), .second, .val (.int v79), .val (.int v84), .val (.int v88), .unset] [(.int (1 : Int32))])) t
        simp only [if_neg hq94] at k
        exact k
    refine own_via st93 ?_
    show own_Go p e below s _ _ _ (T91.setTop (mkF m 84 #[.val (.int p0), .val (.long p1), .second, .val (.long p2), .second, .val (.ref ea3), .val (.long v76), .second, .val (.int v79), .val (.int v84), .val (.int v88), .unset] [(.int (if (own_ho3 p1 v76) = (own_ho3 v76 p1) then (0 : Int32) else (1 : Int32)))]))
    refine own_via (fun _ k => XS.istore X91.here hx rfl (hb hby at_84) rfl (l' := #[.val (.int p0), .val (.long p1), .second, .val (.long p2), .second, .val (.ref ea3), .val (.long v76), .second, .val (.int v79), .val (.int v84), .val (.int v88), .val (.int (if (own_ho3 p1 v76) = (own_ho3 v76 p1) then (0 : Int32) else (1 : Int32)))]) rfl k) ?_
    show own_Go p e below s _ _ _ (T91.setTop (mkF m 86 #[.val (.int p0), .val (.long p1), .second, .val (.long p2), .second, .val (.ref ea3), .val (.long v76), .second, .val (.int v79), .val (.int v84), .val (.int v88), .val (.int (if (own_ho3 p1 v76) = (own_ho3 v76 p1) then (0 : Int32) else (1 : Int32)))] []))
    generalize hv95 : (if (own_ho3 p1 v76) = (own_ho3 v76 p1) then (0 : Int32) else (1 : Int32)) = v95
    show own_Go p e below s _ _ _ (T91.setTop (mkF m 86 #[.val (.int p0), .val (.long p1), .second, .val (.long p2), .second, .val (.ref ea3), .val (.long v76), .second, .val (.int v79), .val (.int v84), .val (.int v88), .val (.int v95)] []))
    refine own_via (fun _ k => XS.iload X91.here hx rfl (hb hby at_86) rfl k) ?_
    show own_Go p e below s _ _ _ (T91.setTop (mkF m 88 #[.val (.int p0), .val (.long p1), .second, .val (.long p2), .second, .val (.ref ea3), .val (.long v76), .second, .val (.int v79), .val (.int v84), .val (.int v88), .val (.int v95)] [(.int v79)]))
    refine own_via (fun _ k => XS.iload X91.here hx rfl (hb hby at_88) rfl k) ?_
    show own_Go p e below s _ _ _ (T91.setTop (mkF m 90 #[.val (.int p0), .val (.long p1), .second, .val (.long p2), .second, .val (.ref ea3), .val (.long v76), .second, .val (.int v79), .val (.int v84), .val (.int v88), .val (.int v95)] [(.int v88), (.int v79)]))
    have hc96 : v79 = v88 := by rw [← hv79, ← hv88, ← hv84]; unfold own_ord; rw [if_neg ne0, if_neg ne1]; decide
    refine own_via (fun _ k => XS.icmpNo X91.here hx rfl (hb hby at_90) rfl (Jvm.Free.XT.ii_ne_f hc96) k) ?_
    show own_Go p e below s _ _ _ (T91.setTop (mkF m 93 #[.val (.int p0), .val (.long p1), .second, .val (.long p2), .second, .val (.ref ea3), .val (.long v76), .second, .val (.int v79), .val (.int v84), .val (.int v88), .val (.int v95)] []))
    refine own_via (fun _ k => XS.iload X91.here hx rfl (hb hby at_93) rfl k) ?_
    show own_Go p e below s _ _ _ (T91.setTop (mkF m 95 #[.val (.int p0), .val (.long p1), .second, .val (.long p2), .second, .val (.ref ea3), .val (.long v76), .second, .val (.int v79), .val (.int v84), .val (.int v88), .val (.int v95)] [(.int v79)]))
    refine own_via (fun _ k => XS.iload X91.here hx rfl (hb hby at_95) rfl k) ?_
    show own_Go p e below s _ _ _ (T91.setTop (mkF m 97 #[.val (.int p0), .val (.long p1), .second, .val (.long p2), .second, .val (.ref ea3), .val (.long v76), .second, .val (.int v79), .val (.int v84), .val (.int v88), .val (.int v95)] [(.int v95), (.int v79)]))
    have hc97 : v79 = v95 := by rw [← hv79]; unfold own_ord; rw [if_neg ne0, if_neg ne1]; exact own_fin3 (own_ne hv76) hv95
    refine own_via (fun _ k => XS.icmpNo X91.here hx rfl (hb hby at_97) rfl (Jvm.Free.XT.ii_ne_f hc97) k) ?_
    show own_Go p e below s _ _ _ (T91.setTop (mkF m 100 #[.val (.int p0), .val (.long p1), .second, .val (.long p2), .second, .val (.ref ea3), .val (.long v76), .second, .val (.int v79), .val (.int v84), .val (.int v88), .val (.int v95)] []))
    refine own_via (fun _ k => XS.iconst X91.here hx rfl (hb hby at_100) k) ?_
    show own_Go p e below s _ _ _ (T91.setTop (mkF m 101 #[.val (.int p0), .val (.long p1), .second, .val (.long p2), .second, .val (.ref ea3), .val (.long v76), .second, .val (.int v79), .val (.int v84), .val (.int v88), .val (.int v95)] [(.int (1 : Int32))]))
    refine own_via (fun _ k => XS.goto X91.here hx rfl (pc0 := 101) (pc' := 105) rfl (hb hby at_101) (by decide) (by decide) k) ?_
    show own_Go p e below s _ _ _ (T91.setTop (mkF m 105 #[.val (.int p0), .val (.long p1), .second, .val (.long p2), .second, .val (.ref ea3), .val (.long v76), .second, .val (.int v79), .val (.int v84), .val (.int v88), .val (.int v95)] [(.int (1 : Int32))]))
    exact own_goN X91 hx (t := .boolean) Bd.returns (by simp) (hb hby at_105) Bd.notSynchronized (by decide) (by decide) (by rw [e91]; exact ⟨rfl, N91⟩)
  · rw [hk]
    show own_Go p e below s _ _ _ (T1.setTop (mkF m 4 #[.val (.int p0), .val (.long p1), .second, .val (.long p2), .second, .unset, .unset, .unset, .unset, .unset, .unset, .unset] [(.ref ea4)]))
    have ko0 := hp8.2.1
    have ko1 := hp9.2.1
    have ko4 := hp12.2.1
    obtain ⟨kE, kO, kS, kX, kC, kV, kA, kZ, kT⟩ := hp12
    have ne0 : ea4 ≠ ea0 := Fld.ne ko4 ko0 (fun q => absurd (Value.int.inj q) (by decide))
    have ne1 : ea4 ≠ ea1 := Fld.ne ko4 ko1 (fun q => absurd (Value.int.inj q) (by decide))
    refine own_via (fun _ k => XS.astore X1.here hx rfl (hb hby at_4) rfl rfl (l' := #[.val (.int p0), .val (.long p1), .second, .val (.long p2), .second, .val (.ref ea4), .unset, .unset, .unset, .unset, .unset, .unset]) rfl k) ?_
    show own_Go p e below s _ _ _ (T1.setTop (mkF m 6 #[.val (.int p0), .val (.long p1), .second, .val (.long p2), .second, .val (.ref ea4), .unset, .unset, .unset, .unset, .unset, .unset] []))
    refine own_via (fun _ k => XS.lloadN X1.here hx rfl (hb hby at_6) rfl k) ?_
    show own_Go p e below s _ _ _ (T1.setTop (mkF m 7 #[.val (.int p0), .val (.long p1), .second, .val (.long p2), .second, .val (.ref ea4), .unset, .unset, .unset, .unset, .unset, .unset] [(.long p2)]))
    refine own_via (fun _ k => XS.lstore X1.here hx rfl (hb hby at_7) rfl (l' := #[.val (.int p0), .val (.long p1), .second, .val (.long p2), .second, .val (.ref ea4), .val (.long p2), .second, .unset, .unset, .unset, .unset]) rfl k) ?_
    show own_Go p e below s _ _ _ (T1.setTop (mkF m 9 #[.val (.int p0), .val (.long p1), .second, .val (.long p2), .second, .val (.ref ea4), .val (.long p2), .second, .unset, .unset, .unset, .unset] []))
    have st98 : ∀ t, Steps p.tables e below (T1.setTop (mkF m 21 #[.val (.int p0), .val (.long p1), .second, .val (.long p2), .second, .val (.ref ea4), .val (.long (if p1 = p2 then (p1 ^^^ (1 : Int64)) else p2)), .second, .unset, .unset, .unset, .unset] [])) t → Steps p.tables e below (T1.setTop (mkF m 9 #[.val (.int p0), .val (.long p1), .second, .val (.long p2), .second, .val (.ref ea4), .val (.long p2), .second, .unset, .unset, .unset, .unset] [])) t := by
      intro t k
      refine XS.lloadN X1.here hx rfl (hb hby at_9) rfl ?_
      show Steps p.tables e below (T1.setTop (mkF m 10 #[.val (.int p0), .val (.long p1), .second, .val (.long p2), .second, .val (.ref ea4), .val (.long p2), .second, .unset, .unset, .unset, .unset] [(.long p1)])) t
      refine XS.lload X1.here hx rfl (hb hby at_10) rfl ?_
      show Steps p.tables e below (T1.setTop (mkF m 12 #[.val (.int p0), .val (.long p1), .second, .val (.long p2), .second, .val (.ref ea4), .val (.long p2), .second, .unset, .unset, .unset, .unset] [(.long p2), (.long p1)])) t
      refine XS.lcmp X1.here hx rfl (hb hby at_12) rfl ?_
      show Steps p.tables e below (T1.setTop (mkF m 13 #[.val (.int p0), .val (.long p1), .second, .val (.long p2), .second, .val (.ref ea4), .val (.long p2), .second, .unset, .unset, .unset, .unset] [(.int (lcmpW p1 p2))])) t
      by_cases hq99 : p1 = p2
      · refine XS.ifNo X1.here hx rfl (hb hby at_13) rfl (Jvm.Free.XT.ll_ne_f hq99) ?_
        show Steps p.tables e below (T1.setTop (mkF m 16 #[.val (.int p0), .val (.long p1), .second, .val (.long p2), .second, .val (.ref ea4), .val (.long p2), .second, .unset, .unset, .unset, .unset] [])) t
        refine XS.lloadN X1.here hx rfl (hb hby at_16) rfl ?_
        show Steps p.tables e below (T1.setTop (mkF m 17 #[.val (.int p0), .val (.long p1), .second, .val (.long p2), .second, .val (.ref ea4), .val (.long p2), .second, .unset, .unset, .unset, .unset] [(.long p1)])) t
        refine XS.lconst X1.here hx rfl (hb hby at_17) ?_
        show Steps p.tables e below (T1.setTop (mkF m 18 #[.val (.int p0), .val (.long p1), .second, .val (.long p2), .second, .val (.ref ea4), .val (.long p2), .second, .unset, .unset, .unset, .unset] [(.long (1 : Int64)), (.long p1)])) t
        refine XS.lxor X1.here hx rfl (hb hby at_18) rfl ?_
        show Steps p.tables e below (T1.setTop (mkF m 19 #[.val (.int p0), .val (.long p1), .second, .val (.long p2), .second, .val (.ref ea4), .val (.long p2), .second, .unset, .unset, .unset, .unset] [(.long (p1 ^^^ (1 : Int64)))])) t
        refine XS.lstore X1.here hx rfl (hb hby at_19) rfl (l' := #[.val (.int p0), .val (.long p1), .second, .val (.long p2), .second, .val (.ref ea4), .val (.long (p1 ^^^ (1 : Int64))), .second, .unset, .unset, .unset, .unset]) rfl ?_
        show Steps p.tables e below (T1.setTop (mkF m 21 #[.val (.int p0), .val (.long p1), .second, .val (.long p2), .second, .val (.ref ea4), .val (.long (p1 ^^^ (1 : Int64))), .second, .unset, .unset, .unset, .unset] [])) t
        simp only [if_pos hq99] at k
        exact k
      · refine XS.ifYes X1.here hx rfl (pc0 := 13) (pc' := 21) rfl (hb hby at_13) rfl (Jvm.Free.XT.ll_ne_t hq99) (by decide) (by decide) ?_
        show Steps p.tables e below (T1.setTop (mkF m 21 #[.val (.int p0), .val (.long p1), .second, .val (.long p2), .second, .val (.ref ea4), .val (.long p2), .second, .unset, .unset, .unset, .unset] [])) t
        simp only [if_neg hq99] at k
        exact k
    refine own_via st98 ?_
    show own_Go p e below s _ _ _ (T1.setTop (mkF m 21 #[.val (.int p0), .val (.long p1), .second, .val (.long p2), .second, .val (.ref ea4), .val (.long (if p1 = p2 then (p1 ^^^ (1 : Int64)) else p2)), .second, .unset, .unset, .unset, .unset] []))
    generalize hv100 : (if p1 = p2 then (p1 ^^^ (1 : Int64)) else p2) = v100
    show own_Go p e below s _ _ _ (T1.setTop (mkF m 21 #[.val (.int p0), .val (.long p1), .second, .val (.long p2), .second, .val (.ref ea4), .val (.long v100), .second, .unset, .unset, .unset, .unset] []))
    refine own_via (fun _ k => XS.aload X1.here hx rfl (hb hby at_21) rfl rfl k) ?_
    show own_Go p e below s _ _ _ (T1.setTop (mkF m 23 #[.val (.int p0), .val (.long p1), .second, .val (.long p2), .second, .val (.ref ea4), .val (.long v100), .second, .unset, .unset, .unset, .unset] [(.ref ea4)]))
    have F102 := kE.ext O0.2
    obtain ⟨cq101, kq101, qa101, qb101, qc101⟩ := isOf hZ e1 F102
    obtain ⟨_, _, ⟨T101, L101, k101, n101⟩, -, X101, ⟨Lc101, hQ101, l101, y101, z101⟩, st101⟩ := X1.virtualBack hx (y := (⟨"com/example/trajectory/trajectory/model/Condition$Operator", "orders", "()Z"⟩ : MethodName)) (z := (⟨"com/example/trajectory/trajectory/model/Condition$Operator", "orders", "()Z"⟩ : MethodName)) hown (mvT hZ (hw _ (List.mem_of_getElem? (i := 8) rfl))) (mvT hZ (hw _ (List.mem_of_getElem? (i := 9) rfl))) (notFace_of_selects (args := #[]) (mvT hZ (hw _ (List.mem_of_getElem? (i := 11) rfl)))) (mvT hZ (hw _ (List.mem_of_getElem? (i := 11) rfl))) (mvT hZ (hw _ (List.mem_of_getElem? (i := 10) rfl))) (by decide) (backOf (W := 0) (rm2 l Z a0 hw [] ea4 ea0 ea1 h0 n0 Z0 O0 S_EQUALS S_NOT_EQUALS) hZ (hw _ (List.mem_of_getElem? (i := 12) rfl)) (hw _ (List.mem_of_getElem? (i := 6) rfl)) (by decide) (by decide)) qa101 qc101 (g := (mkF m 23 #[.val (.int p0), .val (.long p1), .second, .val (.long p2), .second, .val (.ref ea4), .val (.long v100), .second, .unset, .unset, .unset, .unset] [(.ref ea4)])) rfl (by rw [hml]; rfl) (Steps.refl _) (argsL := []) (rest := []) (lenOf pd_2 rfl) rfl (by show 2 * 0 + _ ≤ _; exact Nat.le_of_eq rfl) (hb hby at_23) (fun _ _ => ⟨rfl, e1, (by decide : 0 + 0 ≤ _), (by decide : 0 + 0 ≤ _)⟩)
    dsimp only [Pt.U, Pt.locs, Pt.cells, Pt.slots] at X101 l101 y101 z101 st101 hQ101
    subst l101 y101 z101
    obtain ⟨rfl, N101q, e101⟩ := hQ101
    have N101 := Fr.app N1 N101q
    refine own_viaT st101 ?_
    show own_Go p e below s _ _ _ (T101.setTop (mkF m 26 #[.val (.int p0), .val (.long p1), .second, .val (.long p2), .second, .val (.ref ea4), .val (.long v100), .second, .unset, .unset, .unset, .unset] [(.int (own_ord ea4 ea0 ea1))]))
    refine own_via (fun _ k => XS.istore X101.here hx rfl (hb hby at_26) rfl (l' := #[.val (.int p0), .val (.long p1), .second, .val (.long p2), .second, .val (.ref ea4), .val (.long v100), .second, .val (.int (own_ord ea4 ea0 ea1)), .unset, .unset, .unset]) rfl k) ?_
    show own_Go p e below s _ _ _ (T101.setTop (mkF m 28 #[.val (.int p0), .val (.long p1), .second, .val (.long p2), .second, .val (.ref ea4), .val (.long v100), .second, .val (.int (own_ord ea4 ea0 ea1)), .unset, .unset, .unset] []))
    generalize hv103 : (own_ord ea4 ea0 ea1) = v103
    show own_Go p e below s _ _ _ (T101.setTop (mkF m 28 #[.val (.int p0), .val (.long p1), .second, .val (.long p2), .second, .val (.ref ea4), .val (.long v100), .second, .val (.int v103), .unset, .unset, .unset] []))
    refine own_via (fun _ k => XS.aload X101.here hx rfl (hb hby at_28) rfl rfl k) ?_
    show own_Go p e below s _ _ _ (T101.setTop (mkF m 30 #[.val (.int p0), .val (.long p1), .second, .val (.long p2), .second, .val (.ref ea4), .val (.long v100), .second, .val (.int v103), .unset, .unset, .unset] [(.ref ea4)]))
    have F105 := kE.ext O0.2
    obtain ⟨cq104, kq104, qa104, qb104, qc104⟩ := isOf hZ e101 F105
    obtain ⟨_, _, ⟨T104, L104, k104, n104⟩, -, X104, ⟨Lc104, hQ104, l104, y104, z104⟩, st104⟩ := X101.virtualBack hx (y := (⟨"com/example/trajectory/trajectory/model/Condition$Operator", "symbol", "()Ljava/lang/String;"⟩ : MethodName)) (z := (⟨"com/example/trajectory/trajectory/model/Condition$Operator", "symbol", "()Ljava/lang/String;"⟩ : MethodName)) hown (mvT hZ (hw _ (List.mem_of_getElem? (i := 14) rfl))) (mvT hZ (hw _ (List.mem_of_getElem? (i := 15) rfl))) (notFace_of_selects (args := #[]) (mvT hZ (hw _ (List.mem_of_getElem? (i := 17) rfl)))) (mvT hZ (hw _ (List.mem_of_getElem? (i := 17) rfl))) (mvT hZ (hw _ (List.mem_of_getElem? (i := 16) rfl))) (by decide) (backOf (W := 0) (rm3 l Z a0 hw [] ea4 sa4 h0 n0 Z0 O0 kS) hZ (hw _ (List.mem_of_getElem? (i := 18) rfl)) (hw _ (List.mem_of_getElem? (i := 6) rfl)) (by decide) (by decide)) qa104 qc104 (g := (mkF m 30 #[.val (.int p0), .val (.long p1), .second, .val (.long p2), .second, .val (.ref ea4), .val (.long v100), .second, .val (.int v103), .unset, .unset, .unset] [(.ref ea4)])) rfl (by rw [hml]; rfl) (Steps.refl _) (argsL := []) (rest := []) (lenOf pd_6 rfl) rfl (by show 2 * 0 + _ ≤ _; exact Nat.le_of_eq rfl) (hb hby at_30) (fun _ _ => ⟨rfl, e101, (by decide : 0 + 0 ≤ _), (by decide : 0 + 0 ≤ _)⟩)
    dsimp only [Pt.U, Pt.locs, Pt.cells, Pt.slots] at X104 l104 y104 z104 st104 hQ104
    subst l104 y104 z104
    obtain ⟨rfl, N104q, e104⟩ := hQ104
    have N104 := Fr.app N101 N104q
    refine own_viaT st104 ?_
    show own_Go p e below s _ _ _ (T104.setTop (mkF m 33 #[.val (.int p0), .val (.long p1), .second, .val (.long p2), .second, .val (.ref ea4), .val (.long v100), .second, .val (.int v103), .unset, .unset, .unset] [(.ref sa4)]))
    refine own_via (fun _ k => XS.iconst X104.here hx rfl (hb hby at_33) k) ?_
    show own_Go p e below s _ _ _ (T104.setTop (mkF m 34 #[.val (.int p0), .val (.long p1), .second, .val (.long p2), .second, .val (.ref ea4), .val (.long v100), .second, .val (.int v103), .unset, .unset, .unset] [(.int (0 : Int32)), (.ref sa4)]))
    have F107 := kX.ext O0.2
    obtain ⟨cq106, kq106, qa106, qb106, qc106⟩ := isOf hZ e104 F107
    obtain ⟨_, _, ⟨T106, L106, k106, n106⟩, -, X106, ⟨Lc106, hQ106, l106, y106, z106⟩, st106⟩ := X104.virtualBack hx (y := (⟨"java/lang/String", "charAt", "(I)C"⟩ : MethodName)) (z := (⟨"java/lang/String", "charAt", "(I)C"⟩ : MethodName)) hown (mvT hZ (hw _ (List.mem_of_getElem? (i := 21) rfl))) (mvT hZ (hw _ (List.mem_of_getElem? (i := 22) rfl))) (notFace_of_selects (args := #[]) (mvT hZ (hw _ (List.mem_of_getElem? (i := 24) rfl)))) (mvT hZ (hw _ (List.mem_of_getElem? (i := 24) rfl))) (mvT hZ (hw _ (List.mem_of_getElem? (i := 23) rfl))) (by decide) (backOf (W := 0) (rm4 l Z a0 hw [] sa4 (0 : Int32) va4 cs_ cl4 (1 : Int32) (62 : Int32) fm_ h0 n0 Z0 O0 S_SIOOBE_FORMATTER S_COMPACT_STRINGS kC kV kA kZ (by decide) (by decide) kT hp14 kX (by rfl) hp15) hZ (hw _ (List.mem_of_getElem? (i := 26) rfl)) (hw _ (List.mem_of_getElem? (i := 25) rfl)) (by decide) (by decide)) qa106 qc106 (g := (mkF m 34 #[.val (.int p0), .val (.long p1), .second, .val (.long p2), .second, .val (.ref ea4), .val (.long v100), .second, .val (.int v103), .unset, .unset, .unset] [(.int (0 : Int32)), (.ref sa4)])) rfl (by rw [hml]; rfl) (Steps.refl _) (argsL := [(.int (0 : Int32))]) (rest := []) (lenOf pd_7 rfl) rfl (by show 2 * 0 + _ ≤ _; exact Nat.le_of_eq rfl) (hb hby at_34) (fun _ _ => ⟨rfl, e104, (by decide : 0 + 0 ≤ _), (by decide : 0 + 0 ≤ _)⟩)
    dsimp only [Pt.U, Pt.locs, Pt.cells, Pt.slots] at X106 l106 y106 z106 st106 hQ106
    subst l106 y106 z106
    obtain ⟨rfl, N106q, e106⟩ := hQ106
    have N106 := Fr.app N104 N106q
    refine own_viaT st106 ?_
    show own_Go p e below s _ _ _ (T106.setTop (mkF m 37 #[.val (.int p0), .val (.long p1), .second, .val (.long p2), .second, .val (.ref ea4), .val (.long v100), .second, .val (.int v103), .unset, .unset, .unset] [(.int (nar .char (nar .char (o_i2c ((62 : Int32) &&& (255 : Int32))))))]))
    refine own_via (fun _ k => XS.istore X106.here hx rfl (hb hby at_37) rfl (l' := #[.val (.int p0), .val (.long p1), .second, .val (.long p2), .second, .val (.ref ea4), .val (.long v100), .second, .val (.int v103), .val (.int (nar .char (nar .char (o_i2c ((62 : Int32) &&& (255 : Int32)))))), .unset, .unset]) rfl k) ?_
    show own_Go p e below s _ _ _ (T106.setTop (mkF m 39 #[.val (.int p0), .val (.long p1), .second, .val (.long p2), .second, .val (.ref ea4), .val (.long v100), .second, .val (.int v103), .val (.int (nar .char (nar .char (o_i2c ((62 : Int32) &&& (255 : Int32)))))), .unset, .unset] []))
    generalize hv108 : (nar .char (nar .char (o_i2c ((62 : Int32) &&& (255 : Int32))))) = v108
    show own_Go p e below s _ _ _ (T106.setTop (mkF m 39 #[.val (.int p0), .val (.long p1), .second, .val (.long p2), .second, .val (.ref ea4), .val (.long v100), .second, .val (.int v103), .val (.int v108), .unset, .unset] []))
    have st109 : ∀ t, Steps p.tables e below (T106.setTop (mkF m 58 #[.val (.int p0), .val (.long p1), .second, .val (.long p2), .second, .val (.ref ea4), .val (.long v100), .second, .val (.int v103), .val (.int v108), .unset, .unset] [(.int (if v108 = (60 : Int32) then (1 : Int32) else (if v108 = (62 : Int32) then (1 : Int32) else (0 : Int32))))])) t → Steps p.tables e below (T106.setTop (mkF m 39 #[.val (.int p0), .val (.long p1), .second, .val (.long p2), .second, .val (.ref ea4), .val (.long v100), .second, .val (.int v103), .val (.int v108), .unset, .unset] [])) t := by
      intro t k
      refine XS.iload X106.here hx rfl (hb hby at_39) rfl ?_
      show Steps p.tables e below (T106.setTop (mkF m 41 #[.val (.int p0), .val (.long p1), .second, .val (.long p2), .second, .val (.ref ea4), .val (.long v100), .second, .val (.int v103), .val (.int v108), .unset, .unset] [(.int v108)])) t
      refine XS.bipush X106.here hx rfl (hb hby at_41) ?_
      show Steps p.tables e below (T106.setTop (mkF m 43 #[.val (.int p0), .val (.long p1), .second, .val (.long p2), .second, .val (.ref ea4), .val (.long v100), .second, .val (.int v103), .val (.int v108), .unset, .unset] [(.int (60 : Int32)), (.int v108)])) t
      by_cases hq110 : v108 = (60 : Int32)
      · refine XS.icmpYes X106.here hx rfl (pc0 := 43) (pc' := 53) rfl (hb hby at_43) rfl (Jvm.Free.XT.ii_eq_t hq110) (by decide) (by decide) ?_
        show Steps p.tables e below (T106.setTop (mkF m 53 #[.val (.int p0), .val (.long p1), .second, .val (.long p2), .second, .val (.ref ea4), .val (.long v100), .second, .val (.int v103), .val (.int v108), .unset, .unset] [])) t
        refine XS.iconst X106.here hx rfl (hb hby at_53) ?_
        show Steps p.tables e below (T106.setTop (mkF m 54 #[.val (.int p0), .val (.long p1), .second, .val (.long p2), .second, .val (.ref ea4), .val (.long v100), .second, .val (.int v103), .val (.int v108), .unset, .unset] [(.int (1 : Int32))])) t
        refine XS.goto X106.here hx rfl (pc0 := 54) (pc' := 58) rfl (hb hby at_54) (by decide) (by decide) ?_
        show Steps p.tables e below (T106.setTop (mkF m 58 #[.val (.int p0), .val (.long p1), .second, .val (.long p2), .second, .val (.ref ea4), .val (.long v100), .second, .val (.int v103), .val (.int v108), .unset, .unset] [(.int (1 : Int32))])) t
        simp only [if_pos hq110] at k
        exact k
      · refine XS.icmpNo X106.here hx rfl (hb hby at_43) rfl (Jvm.Free.XT.ii_eq_f hq110) ?_
        show Steps p.tables e below (T106.setTop (mkF m 46 #[.val (.int p0), .val (.long p1), .second, .val (.long p2), .second, .val (.ref ea4), .val (.long v100), .second, .val (.int v103), .val (.int v108), .unset, .unset] [])) t
        refine XS.iload X106.here hx rfl (hb hby at_46) rfl ?_
        show Steps p.tables e below (T106.setTop (mkF m 48 #[.val (.int p0), .val (.long p1), .second, .val (.long p2), .second, .val (.ref ea4), .val (.long v100), .second, .val (.int v103), .val (.int v108), .unset, .unset] [(.int v108)])) t
        refine XS.bipush X106.here hx rfl (hb hby at_48) ?_
        show Steps p.tables e below (T106.setTop (mkF m 50 #[.val (.int p0), .val (.long p1), .second, .val (.long p2), .second, .val (.ref ea4), .val (.long v100), .second, .val (.int v103), .val (.int v108), .unset, .unset] [(.int (62 : Int32)), (.int v108)])) t
        by_cases hq111 : v108 = (62 : Int32)
        · refine XS.icmpNo X106.here hx rfl (hb hby at_50) rfl (Jvm.Free.XT.ii_ne_f hq111) ?_
          show Steps p.tables e below (T106.setTop (mkF m 53 #[.val (.int p0), .val (.long p1), .second, .val (.long p2), .second, .val (.ref ea4), .val (.long v100), .second, .val (.int v103), .val (.int v108), .unset, .unset] [])) t
          refine XS.iconst X106.here hx rfl (hb hby at_53) ?_
          show Steps p.tables e below (T106.setTop (mkF m 54 #[.val (.int p0), .val (.long p1), .second, .val (.long p2), .second, .val (.ref ea4), .val (.long v100), .second, .val (.int v103), .val (.int v108), .unset, .unset] [(.int (1 : Int32))])) t
          refine XS.goto X106.here hx rfl (pc0 := 54) (pc' := 58) rfl (hb hby at_54) (by decide) (by decide) ?_
          show Steps p.tables e below (T106.setTop (mkF m 58 #[.val (.int p0), .val (.long p1), .second, .val (.long p2), .second, .val (.ref ea4), .val (.long v100), .second, .val (.int v103), .val (.int v108), .unset, .unset] [(.int (1 : Int32))])) t
          simp only [if_neg hq110, if_pos hq111] at k
          exact k
        · refine XS.icmpYes X106.here hx rfl (pc0 := 50) (pc' := 57) rfl (hb hby at_50) rfl (Jvm.Free.XT.ii_ne_t hq111) (by decide) (by decide) ?_
          show Steps p.tables e below (T106.setTop (mkF m 57 #[.val (.int p0), .val (.long p1), .second, .val (.long p2), .second, .val (.ref ea4), .val (.long v100), .second, .val (.int v103), .val (.int v108), .unset, .unset] [])) t
          refine XS.iconst X106.here hx rfl (hb hby at_57) ?_
          show Steps p.tables e below (T106.setTop (mkF m 58 #[.val (.int p0), .val (.long p1), .second, .val (.long p2), .second, .val (.ref ea4), .val (.long v100), .second, .val (.int v103), .val (.int v108), .unset, .unset] [(.int (0 : Int32))])) t
          simp only [if_neg hq110, if_neg hq111] at k
          exact k
    refine own_via st109 ?_
    show own_Go p e below s _ _ _ (T106.setTop (mkF m 58 #[.val (.int p0), .val (.long p1), .second, .val (.long p2), .second, .val (.ref ea4), .val (.long v100), .second, .val (.int v103), .val (.int v108), .unset, .unset] [(.int (if v108 = (60 : Int32) then (1 : Int32) else (if v108 = (62 : Int32) then (1 : Int32) else (0 : Int32))))]))
    refine own_via (fun _ k => XS.istore X106.here hx rfl (hb hby at_58) rfl (l' := #[.val (.int p0), .val (.long p1), .second, .val (.long p2), .second, .val (.ref ea4), .val (.long v100), .second, .val (.int v103), .val (.int v108), .val (.int (if v108 = (60 : Int32) then (1 : Int32) else (if v108 = (62 : Int32) then (1 : Int32) else (0 : Int32)))), .unset]) rfl k) ?_
    show own_Go p e below s _ _ _ (T106.setTop (mkF m 60 #[.val (.int p0), .val (.long p1), .second, .val (.long p2), .second, .val (.ref ea4), .val (.long v100), .second, .val (.int v103), .val (.int v108), .val (.int (if v108 = (60 : Int32) then (1 : Int32) else (if v108 = (62 : Int32) then (1 : Int32) else (0 : Int32)))), .unset] []))
    generalize hv112 : (if v108 = (60 : Int32) then (1 : Int32) else (if v108 = (62 : Int32) then (1 : Int32) else (0 : Int32))) = v112
    show own_Go p e below s _ _ _ (T106.setTop (mkF m 60 #[.val (.int p0), .val (.long p1), .second, .val (.long p2), .second, .val (.ref ea4), .val (.long v100), .second, .val (.int v103), .val (.int v108), .val (.int v112), .unset] []))
    refine own_via (fun _ k => XS.aload X106.here hx rfl (hb hby at_60) rfl rfl k) ?_
    show own_Go p e below s _ _ _ (T106.setTop (mkF m 62 #[.val (.int p0), .val (.long p1), .second, .val (.long p2), .second, .val (.ref ea4), .val (.long v100), .second, .val (.int v103), .val (.int v108), .val (.int v112), .unset] [(.ref ea4)]))
    refine own_via (fun _ k => XS.lloadN X106.here hx rfl (hb hby at_62) rfl k) ?_
    show own_Go p e below s _ _ _ (T106.setTop (mkF m 63 #[.val (.int p0), .val (.long p1), .second, .val (.long p2), .second, .val (.ref ea4), .val (.long v100), .second, .val (.int v103), .val (.int v108), .val (.int v112), .unset] [(.long p1), (.ref ea4)]))
    refine own_via (fun _ k => XS.lload X106.here hx rfl (hb hby at_63) rfl k) ?_
    show own_Go p e below s _ _ _ (T106.setTop (mkF m 65 #[.val (.int p0), .val (.long p1), .second, .val (.long p2), .second, .val (.ref ea4), .val (.long v100), .second, .val (.int v103), .val (.int v108), .val (.int v112), .unset] [(.long v100), (.long p1), (.ref ea4)]))
    have F114 := kE.ext O0.2
    obtain ⟨cq113, kq113, qa113, qb113, qc113⟩ := isOf hZ e106 F114
    obtain ⟨_, _, ⟨T113, L113, k113, n113⟩, -, X113, ⟨Lc113, hQ113, l113, y113, z113⟩, st113⟩ := X106.virtualBack hx (y := (⟨"com/example/trajectory/trajectory/model/Condition$Operator", "holds", "(JJ)Z"⟩ : MethodName)) (z := (⟨"com/example/trajectory/trajectory/model/Condition$Operator", "holds", "(JJ)Z"⟩ : MethodName)) hown (mvT hZ (hw _ (List.mem_of_getElem? (i := 49) rfl))) (mvT hZ (hw _ (List.mem_of_getElem? (i := 50) rfl))) (notFace_of_selects (args := #[]) (mvT hZ (hw _ (List.mem_of_getElem? (i := 52) rfl)))) (mvT hZ (hw _ (List.mem_of_getElem? (i := 52) rfl))) (mvT hZ (hw _ (List.mem_of_getElem? (i := 51) rfl))) (by decide) (backOf (W := 0) (rmho4 l Z a0 hw [] ea4 p1 v100 h0 n0 Z0 O0 kO kE) hZ (hw _ (List.mem_of_getElem? (i := 53) rfl)) (hw _ (List.mem_of_getElem? (i := 6) rfl)) (by decide) (by decide)) qa113 qc113 (g := (mkF m 65 #[.val (.int p0), .val (.long p1), .second, .val (.long p2), .second, .val (.ref ea4), .val (.long v100), .second, .val (.int v103), .val (.int v108), .val (.int v112), .unset] [(.long v100), (.long p1), (.ref ea4)])) rfl (by rw [hml]; rfl) (Steps.refl _) (argsL := [(.long p1), (.long v100)]) (rest := []) (lenOf pd_8 rfl) rfl (by show 2 * 0 + _ ≤ _; exact Nat.le_of_eq rfl) (hb hby at_65) (fun _ _ => ⟨rfl, e106, (by decide : 0 + 0 ≤ _), (by decide : 0 + 0 ≤ _)⟩)
    dsimp only [Pt.U, Pt.locs, Pt.cells, Pt.slots] at X113 l113 y113 z113 st113 hQ113
    subst l113 y113 z113
    obtain ⟨rfl, N113q, e113⟩ := hQ113
    have N113 := Fr.app N106 N113q
    refine own_viaT st113 ?_
    show own_Go p e below s _ _ _ (T113.setTop (mkF m 68 #[.val (.int p0), .val (.long p1), .second, .val (.long p2), .second, .val (.ref ea4), .val (.long v100), .second, .val (.int v103), .val (.int v108), .val (.int v112), .unset] [(.int (own_ho4 p1 v100))]))
    refine own_via (fun _ k => XS.aload X113.here hx rfl (hb hby at_68) rfl rfl k) ?_
    show own_Go p e below s _ _ _ (T113.setTop (mkF m 70 #[.val (.int p0), .val (.long p1), .second, .val (.long p2), .second, .val (.ref ea4), .val (.long v100), .second, .val (.int v103), .val (.int v108), .val (.int v112), .unset] [(.ref ea4), (.int (own_ho4 p1 v100))]))
    refine own_via (fun _ k => XS.lload X113.here hx rfl (hb hby at_70) rfl k) ?_
    show own_Go p e below s _ _ _ (T113.setTop (mkF m 72 #[.val (.int p0), .val (.long p1), .second, .val (.long p2), .second, .val (.ref ea4), .val (.long v100), .second, .val (.int v103), .val (.int v108), .val (.int v112), .unset] [(.long v100), (.ref ea4), (.int (own_ho4 p1 v100))]))
    refine own_via (fun _ k => XS.lloadN X113.here hx rfl (hb hby at_72) rfl k) ?_
    show own_Go p e below s _ _ _ (T113.setTop (mkF m 73 #[.val (.int p0), .val (.long p1), .second, .val (.long p2), .second, .val (.ref ea4), .val (.long v100), .second, .val (.int v103), .val (.int v108), .val (.int v112), .unset] [(.long p1), (.long v100), (.ref ea4), (.int (own_ho4 p1 v100))]))
    have F116 := kE.ext O0.2
    obtain ⟨cq115, kq115, qa115, qb115, qc115⟩ := isOf hZ e113 F116
    obtain ⟨_, _, ⟨T115, L115, k115, n115⟩, -, X115, ⟨Lc115, hQ115, l115, y115, z115⟩, st115⟩ := X113.virtualBack hx (y := (⟨"com/example/trajectory/trajectory/model/Condition$Operator", "holds", "(JJ)Z"⟩ : MethodName)) (z := (⟨"com/example/trajectory/trajectory/model/Condition$Operator", "holds", "(JJ)Z"⟩ : MethodName)) hown (mvT hZ (hw _ (List.mem_of_getElem? (i := 49) rfl))) (mvT hZ (hw _ (List.mem_of_getElem? (i := 50) rfl))) (notFace_of_selects (args := #[]) (mvT hZ (hw _ (List.mem_of_getElem? (i := 52) rfl)))) (mvT hZ (hw _ (List.mem_of_getElem? (i := 52) rfl))) (mvT hZ (hw _ (List.mem_of_getElem? (i := 51) rfl))) (by decide) (backOf (W := 1) (rmho4 l Z a0 hw [] ea4 v100 p1 h0 n0 Z0 O0 kO kE) hZ (hw _ (List.mem_of_getElem? (i := 53) rfl)) (hw _ (List.mem_of_getElem? (i := 6) rfl)) (by decide) (by decide)) qa115 qc115 (g := (mkF m 73 #[.val (.int p0), .val (.long p1), .second, .val (.long p2), .second, .val (.ref ea4), .val (.long v100), .second, .val (.int v103), .val (.int v108), .val (.int v112), .unset] [(.long p1), (.long v100), (.ref ea4), (.int (own_ho4 p1 v100))])) rfl (by rw [hml]; rfl) (Steps.refl _) (argsL := [(.long v100), (.long p1)]) (rest := [(.int (own_ho4 p1 v100))]) (lenOf pd_8 rfl) rfl (by show 2 * 0 + _ ≤ _; exact Nat.le_of_eq rfl) (hb hby at_73) (fun _ _ => ⟨rfl, e113, (by decide : 0 + 0 ≤ _), (by decide : 0 + 0 ≤ _)⟩)
    dsimp only [Pt.U, Pt.locs, Pt.cells, Pt.slots] at X115 l115 y115 z115 st115 hQ115
    subst l115 y115 z115
    obtain ⟨rfl, N115q, e115⟩ := hQ115
    have N115 := Fr.app N113 N115q
    refine own_viaT st115 ?_
    show own_Go p e below s _ _ _ (T115.setTop (mkF m 76 #[.val (.int p0), .val (.long p1), .second, .val (.long p2), .second, .val (.ref ea4), .val (.long v100), .second, .val (.int v103), .val (.int v108), .val (.int v112), .unset] [(.int (own_ho4 v100 p1)), (.int (own_ho4 p1 v100))]))
    have st117 : ∀ t, Steps p.tables e below (T115.setTop (mkF m 84 #[.val (.int p0), .val (.long p1), .second, .val (.long p2), .second, .val (.ref ea4), .val (.long v100), .second, .val (.int v103), .val (.int v108), .val (.int v112), .unset] [(.int (if (own_ho4 p1 v100) = (own_ho4 v100 p1) then (0 : Int32) else (1 : Int32)))])) t → Steps p.tables e below (T115.setTop (mkF m 76 #[.val (.int p0), .val (.long p1), .second, .val (.long p2), .second, .val (.ref ea4), .val (.long v100), .second, .val (.int v103), .val (.int v108), .val (.int v112), .unset] [(.int (own_ho4 v100 p1)), (.int (own_ho4 p1 v100))])) t := by
      intro t k
      by_cases hq118 : (own_ho4 p1 v100) = (own_ho4 v100 p1)
      · refine XS.icmpYes X115.here hx rfl (pc0 := 76) (pc' := 83) rfl (hb hby at_76) rfl (Jvm.Free.XT.ii_eq_t hq118) (by decide) (by decide) ?_
        show Steps p.tables e below (T115.setTop (mkF m 83 #[.val (.int p0), .val (.long p1), .second, .val (.long p2), .second, .val (.ref ea4), .val (.long v100), .second, .val (.int v103), .val (.int v108), .val (.int v112), .unset] [])) t
        refine XS.iconst X115.here hx rfl (hb hby at_83) ?_
        show Steps p.tables e below (T115.setTop (mkF m 84 #[.val (.int p0), .val (.long p1), .second, .val (.long p2), .second, .val (.ref ea4), .val (.long v100), .second, .val (.int v103), .val (.int v108), .val (.int v112), .unset] [(.int (0 : Int32))])) t
        simp only [if_pos hq118] at k
        exact k
      · refine XS.icmpNo X115.here hx rfl (hb hby at_76) rfl (Jvm.Free.XT.ii_eq_f hq118) ?_
        show Steps p.tables e below (T115.setTop (mkF m 79 #[.val (.int p0), .val (.long p1), .second, .val (.long p2), .second, .val (.ref ea4), .val (.long v100), .second, .val (.int v103), .val (.int v108), .val (.int v112), .unset] [])) t
        refine XS.iconst X115.here hx rfl (hb hby at_79) ?_
        show Steps p.tables e below (T115.setTop (mkF m 80 #[.val (.int p0), .val (.long p1), .second, .val (.long p2), .second, .val (.ref ea4), .val (.long v100), .second, .val (.int v103), .val (.int v108), .val (.int v112), .unset] [(.int (1 : Int32))])) t
        refine XS.goto X115.here hx rfl (pc0 := 80) (pc' := 84) rfl (hb hby at_80) (by decide) (by decide) ?_
        show Steps p.tables e below (T115.setTop (mkF m 84 #[.val (.int p0), .val (.long p1), .second, .val (.long p2), .second, .val (.ref ea4), .val (.long v100), .second, .val (.int v103), .val (.int v108), .val (.int v112), .unset] [(.int (1 : Int32))])) t
        simp only [if_neg hq118] at k
        exact k
    refine own_via st117 ?_
    show own_Go p e below s _ _ _ (T115.setTop (mkF m 84 #[.val (.int p0), .val (.long p1), .second, .val (.long p2), .second, .val (.ref ea4), .val (.long v100), .second, .val (.int v103), .val (.int v108), .val (.int v112), .unset] [(.int (if (own_ho4 p1 v100) = (own_ho4 v100 p1) then (0 : Int32) else (1 : Int32)))]))
    refine own_via (fun _ k => XS.istore X115.here hx rfl (hb hby at_84) rfl (l' := #[.val (.int p0), .val (.long p1), .second, .val (.long p2), .second, .val (.ref ea4), .val (.long v100), .second, .val (.int v103), .val (.int v108), .val (.int v112), .val (.int (if (own_ho4 p1 v100) = (own_ho4 v100 p1) then (0 : Int32) else (1 : Int32)))]) rfl k) ?_
    show own_Go p e below s _ _ _ (T115.setTop (mkF m 86 #[.val (.int p0), .val (.long p1), .second, .val (.long p2), .second, .val (.ref ea4), .val (.long v100), .second, .val (.int v103), .val (.int v108), .val (.int v112), .val (.int (if (own_ho4 p1 v100) = (own_ho4 v100 p1) then (0 : Int32) else (1 : Int32)))] []))
    generalize hv119 : (if (own_ho4 p1 v100) = (own_ho4 v100 p1) then (0 : Int32) else (1 : Int32)) = v119
    show own_Go p e below s _ _ _ (T115.setTop (mkF m 86 #[.val (.int p0), .val (.long p1), .second, .val (.long p2), .second, .val (.ref ea4), .val (.long v100), .second, .val (.int v103), .val (.int v108), .val (.int v112), .val (.int v119)] []))
    refine own_via (fun _ k => XS.iload X115.here hx rfl (hb hby at_86) rfl k) ?_
    show own_Go p e below s _ _ _ (T115.setTop (mkF m 88 #[.val (.int p0), .val (.long p1), .second, .val (.long p2), .second, .val (.ref ea4), .val (.long v100), .second, .val (.int v103), .val (.int v108), .val (.int v112), .val (.int v119)] [(.int v103)]))
    refine own_via (fun _ k => XS.iload X115.here hx rfl (hb hby at_88) rfl k) ?_
    show own_Go p e below s _ _ _ (T115.setTop (mkF m 90 #[.val (.int p0), .val (.long p1), .second, .val (.long p2), .second, .val (.ref ea4), .val (.long v100), .second, .val (.int v103), .val (.int v108), .val (.int v112), .val (.int v119)] [(.int v112), (.int v103)]))
    have hc120 : v103 = v112 := by rw [← hv103, ← hv112, ← hv108]; unfold own_ord; rw [if_neg ne0, if_neg ne1]; decide
    refine own_via (fun _ k => XS.icmpNo X115.here hx rfl (hb hby at_90) rfl (Jvm.Free.XT.ii_ne_f hc120) k) ?_
    show own_Go p e below s _ _ _ (T115.setTop (mkF m 93 #[.val (.int p0), .val (.long p1), .second, .val (.long p2), .second, .val (.ref ea4), .val (.long v100), .second, .val (.int v103), .val (.int v108), .val (.int v112), .val (.int v119)] []))
    refine own_via (fun _ k => XS.iload X115.here hx rfl (hb hby at_93) rfl k) ?_
    show own_Go p e below s _ _ _ (T115.setTop (mkF m 95 #[.val (.int p0), .val (.long p1), .second, .val (.long p2), .second, .val (.ref ea4), .val (.long v100), .second, .val (.int v103), .val (.int v108), .val (.int v112), .val (.int v119)] [(.int v103)]))
    refine own_via (fun _ k => XS.iload X115.here hx rfl (hb hby at_95) rfl k) ?_
    show own_Go p e below s _ _ _ (T115.setTop (mkF m 97 #[.val (.int p0), .val (.long p1), .second, .val (.long p2), .second, .val (.ref ea4), .val (.long v100), .second, .val (.int v103), .val (.int v108), .val (.int v112), .val (.int v119)] [(.int v119), (.int v103)]))
    have hc121 : v103 = v119 := by rw [← hv103]; unfold own_ord; rw [if_neg ne0, if_neg ne1]; exact own_fin4 (own_ne hv100) hv119
    refine own_via (fun _ k => XS.icmpNo X115.here hx rfl (hb hby at_97) rfl (Jvm.Free.XT.ii_ne_f hc121) k) ?_
    show own_Go p e below s _ _ _ (T115.setTop (mkF m 100 #[.val (.int p0), .val (.long p1), .second, .val (.long p2), .second, .val (.ref ea4), .val (.long v100), .second, .val (.int v103), .val (.int v108), .val (.int v112), .val (.int v119)] []))
    refine own_via (fun _ k => XS.iconst X115.here hx rfl (hb hby at_100) k) ?_
    show own_Go p e below s _ _ _ (T115.setTop (mkF m 101 #[.val (.int p0), .val (.long p1), .second, .val (.long p2), .second, .val (.ref ea4), .val (.long v100), .second, .val (.int v103), .val (.int v108), .val (.int v112), .val (.int v119)] [(.int (1 : Int32))]))
    refine own_via (fun _ k => XS.goto X115.here hx rfl (pc0 := 101) (pc' := 105) rfl (hb hby at_101) (by decide) (by decide) k) ?_
    show own_Go p e below s _ _ _ (T115.setTop (mkF m 105 #[.val (.int p0), .val (.long p1), .second, .val (.long p2), .second, .val (.ref ea4), .val (.long v100), .second, .val (.int v103), .val (.int v108), .val (.int v112), .val (.int v119)] [(.int (1 : Int32))]))
    exact own_goN X115 hx (t := .boolean) Bd.returns (by simp) (hb hby at_105) Bd.notSynchronized (by decide) (by decide) (by rw [e115]; exact ⟨rfl, N115⟩)
  · rw [hk]
    show own_Go p e below s _ _ _ (T1.setTop (mkF m 4 #[.val (.int p0), .val (.long p1), .second, .val (.long p2), .second, .unset, .unset, .unset, .unset, .unset, .unset, .unset] [(.ref ea5)]))
    have ko0 := hp8.2.1
    have ko1 := hp9.2.1
    have ko5 := hp13.2.1
    obtain ⟨kE, kO, kS, kX, kC, kV, kA, kZ, kT⟩ := hp13
    have ne0 : ea5 ≠ ea0 := Fld.ne ko5 ko0 (fun q => absurd (Value.int.inj q) (by decide))
    have ne1 : ea5 ≠ ea1 := Fld.ne ko5 ko1 (fun q => absurd (Value.int.inj q) (by decide))
    refine own_via (fun _ k => XS.astore X1.here hx rfl (hb hby at_4) rfl rfl (l' := #[.val (.int p0), .val (.long p1), .second, .val (.long p2), .second, .val (.ref ea5), .unset, .unset, .unset, .unset, .unset, .unset]) rfl k) ?_
    show own_Go p e below s _ _ _ (T1.setTop (mkF m 6 #[.val (.int p0), .val (.long p1), .second, .val (.long p2), .second, .val (.ref ea5), .unset, .unset, .unset, .unset, .unset, .unset] []))
    refine own_via (fun _ k => XS.lloadN X1.here hx rfl (hb hby at_6) rfl k) ?_
    show own_Go p e below s _ _ _ (T1.setTop (mkF m 7 #[.val (.int p0), .val (.long p1), .second, .val (.long p2), .second, .val (.ref ea5), .unset, .unset, .unset, .unset, .unset, .unset] [(.long p2)]))
    refine own_via (fun _ k => XS.lstore X1.here hx rfl (hb hby at_7) rfl (l' := #[.val (.int p0), .val (.long p1), .second, .val (.long p2), .second, .val (.ref ea5), .val (.long p2), .second, .unset, .unset, .unset, .unset]) rfl k) ?_
    show own_Go p e below s _ _ _ (T1.setTop (mkF m 9 #[.val (.int p0), .val (.long p1), .second, .val (.long p2), .second, .val (.ref ea5), .val (.long p2), .second, .unset, .unset, .unset, .unset] []))
    have st122 : ∀ t, Steps p.tables e below (T1.setTop (mkF m 21 #[.val (.int p0), .val (.long p1), .second, .val (.long p2), .second, .val (.ref ea5), .val (.long (if p1 = p2 then (p1 ^^^ (1 : Int64)) else p2)), .second, .unset, .unset, .unset, .unset] [])) t → Steps p.tables e below (T1.setTop (mkF m 9 #[.val (.int p0), .val (.long p1), .second, .val (.long p2), .second, .val (.ref ea5), .val (.long p2), .second, .unset, .unset, .unset, .unset] [])) t := by
      intro t k
      refine XS.lloadN X1.here hx rfl (hb hby at_9) rfl ?_
      show Steps p.tables e below (T1.setTop (mkF m 10 #[.val (.int p0), .val (.long p1), .second, .val (.long p2), .second, .val (.ref ea5), .val (.long p2), .second, .unset, .unset, .unset, .unset] [(.long p1)])) t
      refine XS.lload X1.here hx rfl (hb hby at_10) rfl ?_
      show Steps p.tables e below (T1.setTop (mkF m 12 #[.val (.int p0), .val (.long p1), .second, .val (.long p2), .second, .val (.ref ea5), .val (.long p2), .second, .unset, .unset, .unset, .unset] [(.long p2), (.long p1)])) t
      refine XS.lcmp X1.here hx rfl (hb hby at_12) rfl ?_
      show Steps p.tables e below (T1.setTop (mkF m 13 #[.val (.int p0), .val (.long p1), .second, .val (.long p2), .second, .val (.ref ea5), .val (.long p2), .second, .unset, .unset, .unset, .unset] [(.int (lcmpW p1 p2))])) t
      by_cases hq123 : p1 = p2
      · refine XS.ifNo X1.here hx rfl (hb hby at_13) rfl (Jvm.Free.XT.ll_ne_f hq123) ?_
        show Steps p.tables e below (T1.setTop (mkF m 16 #[.val (.int p0), .val (.long p1), .second, .val (.long p2), .second, .val (.ref ea5), .val (.long p2), .second, .unset, .unset, .unset, .unset] [])) t
        refine XS.lloadN X1.here hx rfl (hb hby at_16) rfl ?_
        show Steps p.tables e below (T1.setTop (mkF m 17 #[.val (.int p0), .val (.long p1), .second, .val (.long p2), .second, .val (.ref ea5), .val (.long p2), .second, .unset, .unset, .unset, .unset] [(.long p1)])) t
        refine XS.lconst X1.here hx rfl (hb hby at_17) ?_
        show Steps p.tables e below (T1.setTop (mkF m 18 #[.val (.int p0), .val (.long p1), .second, .val (.long p2), .second, .val (.ref ea5), .val (.long p2), .second, .unset, .unset, .unset, .unset] [(.long (1 : Int64)), (.long p1)])) t
        refine XS.lxor X1.here hx rfl (hb hby at_18) rfl ?_
        show Steps p.tables e below (T1.setTop (mkF m 19 #[.val (.int p0), .val (.long p1), .second, .val (.long p2), .second, .val (.ref ea5), .val (.long p2), .second, .unset, .unset, .unset, .unset] [(.long (p1 ^^^ (1 : Int64)))])) t
        refine XS.lstore X1.here hx rfl (hb hby at_19) rfl (l' := #[.val (.int p0), .val (.long p1), .second, .val (.long p2), .second, .val (.ref ea5), .val (.long (p1 ^^^ (1 : Int64))), .second, .unset, .unset, .unset, .unset]) rfl ?_
        show Steps p.tables e below (T1.setTop (mkF m 21 #[.val (.int p0), .val (.long p1), .second, .val (.long p2), .second, .val (.ref ea5), .val (.long (p1 ^^^ (1 : Int64))), .second, .unset, .unset, .unset, .unset] [])) t
        simp only [if_pos hq123] at k
        exact k
      · refine XS.ifYes X1.here hx rfl (pc0 := 13) (pc' := 21) rfl (hb hby at_13) rfl (Jvm.Free.XT.ll_ne_t hq123) (by decide) (by decide) ?_
        show Steps p.tables e below (T1.setTop (mkF m 21 #[.val (.int p0), .val (.long p1), .second, .val (.long p2), .second, .val (.ref ea5), .val (.long p2), .second, .unset, .unset, .unset, .unset] [])) t
        simp only [if_neg hq123] at k
        exact k
    refine own_via st122 ?_
    show own_Go p e below s _ _ _ (T1.setTop (mkF m 21 #[.val (.int p0), .val (.long p1), .second, .val (.long p2), .second, .val (.ref ea5), .val (.long (if p1 = p2 then (p1 ^^^ (1 : Int64)) else p2)), .second, .unset, .unset, .unset, .unset] []))
    generalize hv124 : (if p1 = p2 then (p1 ^^^ (1 : Int64)) else p2) = v124
    show own_Go p e below s _ _ _ (T1.setTop (mkF m 21 #[.val (.int p0), .val (.long p1), .second, .val (.long p2), .second, .val (.ref ea5), .val (.long v124), .second, .unset, .unset, .unset, .unset] []))
    refine own_via (fun _ k => XS.aload X1.here hx rfl (hb hby at_21) rfl rfl k) ?_
    show own_Go p e below s _ _ _ (T1.setTop (mkF m 23 #[.val (.int p0), .val (.long p1), .second, .val (.long p2), .second, .val (.ref ea5), .val (.long v124), .second, .unset, .unset, .unset, .unset] [(.ref ea5)]))
    have F126 := kE.ext O0.2
    obtain ⟨cq125, kq125, qa125, qb125, qc125⟩ := isOf hZ e1 F126
    obtain ⟨_, _, ⟨T125, L125, k125, n125⟩, -, X125, ⟨Lc125, hQ125, l125, y125, z125⟩, st125⟩ := X1.virtualBack hx (y := (⟨"com/example/trajectory/trajectory/model/Condition$Operator", "orders", "()Z"⟩ : MethodName)) (z := (⟨"com/example/trajectory/trajectory/model/Condition$Operator", "orders", "()Z"⟩ : MethodName)) hown (mvT hZ (hw _ (List.mem_of_getElem? (i := 8) rfl))) (mvT hZ (hw _ (List.mem_of_getElem? (i := 9) rfl))) (notFace_of_selects (args := #[]) (mvT hZ (hw _ (List.mem_of_getElem? (i := 11) rfl)))) (mvT hZ (hw _ (List.mem_of_getElem? (i := 11) rfl))) (mvT hZ (hw _ (List.mem_of_getElem? (i := 10) rfl))) (by decide) (backOf (W := 0) (rm2 l Z a0 hw [] ea5 ea0 ea1 h0 n0 Z0 O0 S_EQUALS S_NOT_EQUALS) hZ (hw _ (List.mem_of_getElem? (i := 12) rfl)) (hw _ (List.mem_of_getElem? (i := 6) rfl)) (by decide) (by decide)) qa125 qc125 (g := (mkF m 23 #[.val (.int p0), .val (.long p1), .second, .val (.long p2), .second, .val (.ref ea5), .val (.long v124), .second, .unset, .unset, .unset, .unset] [(.ref ea5)])) rfl (by rw [hml]; rfl) (Steps.refl _) (argsL := []) (rest := []) (lenOf pd_2 rfl) rfl (by show 2 * 0 + _ ≤ _; exact Nat.le_of_eq rfl) (hb hby at_23) (fun _ _ => ⟨rfl, e1, (by decide : 0 + 0 ≤ _), (by decide : 0 + 0 ≤ _)⟩)
    dsimp only [Pt.U, Pt.locs, Pt.cells, Pt.slots] at X125 l125 y125 z125 st125 hQ125
    subst l125 y125 z125
    obtain ⟨rfl, N125q, e125⟩ := hQ125
    have N125 := Fr.app N1 N125q
    refine own_viaT st125 ?_
    show own_Go p e below s _ _ _ (T125.setTop (mkF m 26 #[.val (.int p0), .val (.long p1), .second, .val (.long p2), .second, .val (.ref ea5), .val (.long v124), .second, .unset, .unset, .unset, .unset] [(.int (own_ord ea5 ea0 ea1))]))
    refine own_via (fun _ k => XS.istore X125.here hx rfl (hb hby at_26) rfl (l' := #[.val (.int p0), .val (.long p1), .second, .val (.long p2), .second, .val (.ref ea5), .val (.long v124), .second, .val (.int (own_ord ea5 ea0 ea1)), .unset, .unset, .unset]) rfl k) ?_
    show own_Go p e below s _ _ _ (T125.setTop (mkF m 28 #[.val (.int p0), .val (.long p1), .second, .val (.long p2), .second, .val (.ref ea5), .val (.long v124), .second, .val (.int (own_ord ea5 ea0 ea1)), .unset, .unset, .unset] []))
    generalize hv127 : (own_ord ea5 ea0 ea1) = v127
    show own_Go p e below s _ _ _ (T125.setTop (mkF m 28 #[.val (.int p0), .val (.long p1), .second, .val (.long p2), .second, .val (.ref ea5), .val (.long v124), .second, .val (.int v127), .unset, .unset, .unset] []))
    refine own_via (fun _ k => XS.aload X125.here hx rfl (hb hby at_28) rfl rfl k) ?_
    show own_Go p e below s _ _ _ (T125.setTop (mkF m 30 #[.val (.int p0), .val (.long p1), .second, .val (.long p2), .second, .val (.ref ea5), .val (.long v124), .second, .val (.int v127), .unset, .unset, .unset] [(.ref ea5)]))
    have F129 := kE.ext O0.2
    obtain ⟨cq128, kq128, qa128, qb128, qc128⟩ := isOf hZ e125 F129
    obtain ⟨_, _, ⟨T128, L128, k128, n128⟩, -, X128, ⟨Lc128, hQ128, l128, y128, z128⟩, st128⟩ := X125.virtualBack hx (y := (⟨"com/example/trajectory/trajectory/model/Condition$Operator", "symbol", "()Ljava/lang/String;"⟩ : MethodName)) (z := (⟨"com/example/trajectory/trajectory/model/Condition$Operator", "symbol", "()Ljava/lang/String;"⟩ : MethodName)) hown (mvT hZ (hw _ (List.mem_of_getElem? (i := 14) rfl))) (mvT hZ (hw _ (List.mem_of_getElem? (i := 15) rfl))) (notFace_of_selects (args := #[]) (mvT hZ (hw _ (List.mem_of_getElem? (i := 17) rfl)))) (mvT hZ (hw _ (List.mem_of_getElem? (i := 17) rfl))) (mvT hZ (hw _ (List.mem_of_getElem? (i := 16) rfl))) (by decide) (backOf (W := 0) (rm3 l Z a0 hw [] ea5 sa5 h0 n0 Z0 O0 kS) hZ (hw _ (List.mem_of_getElem? (i := 18) rfl)) (hw _ (List.mem_of_getElem? (i := 6) rfl)) (by decide) (by decide)) qa128 qc128 (g := (mkF m 30 #[.val (.int p0), .val (.long p1), .second, .val (.long p2), .second, .val (.ref ea5), .val (.long v124), .second, .val (.int v127), .unset, .unset, .unset] [(.ref ea5)])) rfl (by rw [hml]; rfl) (Steps.refl _) (argsL := []) (rest := []) (lenOf pd_6 rfl) rfl (by show 2 * 0 + _ ≤ _; exact Nat.le_of_eq rfl) (hb hby at_30) (fun _ _ => ⟨rfl, e125, (by decide : 0 + 0 ≤ _), (by decide : 0 + 0 ≤ _)⟩)
    dsimp only [Pt.U, Pt.locs, Pt.cells, Pt.slots] at X128 l128 y128 z128 st128 hQ128
    subst l128 y128 z128
    obtain ⟨rfl, N128q, e128⟩ := hQ128
    have N128 := Fr.app N125 N128q
    refine own_viaT st128 ?_
    show own_Go p e below s _ _ _ (T128.setTop (mkF m 33 #[.val (.int p0), .val (.long p1), .second, .val (.long p2), .second, .val (.ref ea5), .val (.long v124), .second, .val (.int v127), .unset, .unset, .unset] [(.ref sa5)]))
    refine own_via (fun _ k => XS.iconst X128.here hx rfl (hb hby at_33) k) ?_
    show own_Go p e below s _ _ _ (T128.setTop (mkF m 34 #[.val (.int p0), .val (.long p1), .second, .val (.long p2), .second, .val (.ref ea5), .val (.long v124), .second, .val (.int v127), .unset, .unset, .unset] [(.int (0 : Int32)), (.ref sa5)]))
    have F131 := kX.ext O0.2
    obtain ⟨cq130, kq130, qa130, qb130, qc130⟩ := isOf hZ e128 F131
    obtain ⟨_, _, ⟨T130, L130, k130, n130⟩, -, X130, ⟨Lc130, hQ130, l130, y130, z130⟩, st130⟩ := X128.virtualBack hx (y := (⟨"java/lang/String", "charAt", "(I)C"⟩ : MethodName)) (z := (⟨"java/lang/String", "charAt", "(I)C"⟩ : MethodName)) hown (mvT hZ (hw _ (List.mem_of_getElem? (i := 21) rfl))) (mvT hZ (hw _ (List.mem_of_getElem? (i := 22) rfl))) (notFace_of_selects (args := #[]) (mvT hZ (hw _ (List.mem_of_getElem? (i := 24) rfl)))) (mvT hZ (hw _ (List.mem_of_getElem? (i := 24) rfl))) (mvT hZ (hw _ (List.mem_of_getElem? (i := 23) rfl))) (by decide) (backOf (W := 0) (rm4 l Z a0 hw [] sa5 (0 : Int32) va5 cs_ cl5 (2 : Int32) (62 : Int32) fm_ h0 n0 Z0 O0 S_SIOOBE_FORMATTER S_COMPACT_STRINGS kC kV kA kZ (by decide) (by decide) kT hp14 kX (by rfl) hp15) hZ (hw _ (List.mem_of_getElem? (i := 26) rfl)) (hw _ (List.mem_of_getElem? (i := 25) rfl)) (by decide) (by decide)) qa130 qc130 (g := (mkF m 34 #[.val (.int p0), .val (.long p1), .second, .val (.long p2), .second, .val (.ref ea5), .val (.long v124), .second, .val (.int v127), .unset, .unset, .unset] [(.int (0 : Int32)), (.ref sa5)])) rfl (by rw [hml]; rfl) (Steps.refl _) (argsL := [(.int (0 : Int32))]) (rest := []) (lenOf pd_7 rfl) rfl (by show 2 * 0 + _ ≤ _; exact Nat.le_of_eq rfl) (hb hby at_34) (fun _ _ => ⟨rfl, e128, (by decide : 0 + 0 ≤ _), (by decide : 0 + 0 ≤ _)⟩)
    dsimp only [Pt.U, Pt.locs, Pt.cells, Pt.slots] at X130 l130 y130 z130 st130 hQ130
    subst l130 y130 z130
    obtain ⟨rfl, N130q, e130⟩ := hQ130
    have N130 := Fr.app N128 N130q
    refine own_viaT st130 ?_
    show own_Go p e below s _ _ _ (T130.setTop (mkF m 37 #[.val (.int p0), .val (.long p1), .second, .val (.long p2), .second, .val (.ref ea5), .val (.long v124), .second, .val (.int v127), .unset, .unset, .unset] [(.int (nar .char (nar .char (o_i2c ((62 : Int32) &&& (255 : Int32))))))]))
    refine own_via (fun _ k => XS.istore X130.here hx rfl (hb hby at_37) rfl (l' := #[.val (.int p0), .val (.long p1), .second, .val (.long p2), .second, .val (.ref ea5), .val (.long v124), .second, .val (.int v127), .val (.int (nar .char (nar .char (o_i2c ((62 : Int32) &&& (255 : Int32)))))), .unset, .unset]) rfl k) ?_
    show own_Go p e below s _ _ _ (T130.setTop (mkF m 39 #[.val (.int p0), .val (.long p1), .second, .val (.long p2), .second, .val (.ref ea5), .val (.long v124), .second, .val (.int v127), .val (.int (nar .char (nar .char (o_i2c ((62 : Int32) &&& (255 : Int32)))))), .unset, .unset] []))
    generalize hv132 : (nar .char (nar .char (o_i2c ((62 : Int32) &&& (255 : Int32))))) = v132
    show own_Go p e below s _ _ _ (T130.setTop (mkF m 39 #[.val (.int p0), .val (.long p1), .second, .val (.long p2), .second, .val (.ref ea5), .val (.long v124), .second, .val (.int v127), .val (.int v132), .unset, .unset] []))
    have st133 : ∀ t, Steps p.tables e below (T130.setTop (mkF m 58 #[.val (.int p0), .val (.long p1), .second, .val (.long p2), .second, .val (.ref ea5), .val (.long v124), .second, .val (.int v127), .val (.int v132), .unset, .unset] [(.int (if v132 = (60 : Int32) then (1 : Int32) else (if v132 = (62 : Int32) then (1 : Int32) else (0 : Int32))))])) t → Steps p.tables e below (T130.setTop (mkF m 39 #[.val (.int p0), .val (.long p1), .second, .val (.long p2), .second, .val (.ref ea5), .val (.long v124), .second, .val (.int v127), .val (.int v132), .unset, .unset] [])) t := by
      intro t k
      refine XS.iload X130.here hx rfl (hb hby at_39) rfl ?_
      show Steps p.tables e below (T130.setTop (mkF m 41 #[.val (.int p0), .val (.long p1), .second, .val (.long p2), .second, .val (.ref ea5), .val (.long v124), .second, .val (.int v127), .val (.int v132), .unset, .unset] [(.int v132)])) t
      refine XS.bipush X130.here hx rfl (hb hby at_41) ?_
      show Steps p.tables e below (T130.setTop (mkF m 43 #[.val (.int p0), .val (.long p1), .second, .val (.long p2), .second, .val (.ref ea5), .val (.long v124), .second, .val (.int v127), .val (.int v132), .unset, .unset] [(.int (60 : Int32)), (.int v132)])) t
      by_cases hq134 : v132 = (60 : Int32)
      · refine XS.icmpYes X130.here hx rfl (pc0 := 43) (pc' := 53) rfl (hb hby at_43) rfl (Jvm.Free.XT.ii_eq_t hq134) (by decide) (by decide) ?_
        show Steps p.tables e below (T130.setTop (mkF m 53 #[.val (.int p0), .val (.long p1), .second, .val (.long p2), .second, .val (.ref ea5), .val (.long v124), .second, .val (.int v127), .val (.int v132), .unset, .unset] [])) t
        refine XS.iconst X130.here hx rfl (hb hby at_53) ?_
        show Steps p.tables e below (T130.setTop (mkF m 54 #[.val (.int p0), .val (.long p1), .second, .val (.long p2), .second, .val (.ref ea5), .val (.long v124), .second, .val (.int v127), .val (.int v132), .unset, .unset] [(.int (1 : Int32))])) t
        refine XS.goto X130.here hx rfl (pc0 := 54) (pc' := 58) rfl (hb hby at_54) (by decide) (by decide) ?_
        show Steps p.tables e below (T130.setTop (mkF m 58 #[.val (.int p0), .val (.long p1), .second, .val (.long p2), .second, .val (.ref ea5), .val (.long v124), .second, .val (.int v127), .val (.int v132), .unset, .unset] [(.int (1 : Int32))])) t
        simp only [if_pos hq134] at k
        exact k
      · refine XS.icmpNo X130.here hx rfl (hb hby at_43) rfl (Jvm.Free.XT.ii_eq_f hq134) ?_
        show Steps p.tables e below (T130.setTop (mkF m 46 #[.val (.int p0), .val (.long p1), .second, .val (.long p2), .second, .val (.ref ea5), .val (.long v124), .second, .val (.int v127), .val (.int v132), .unset, .unset] [])) t
        refine XS.iload X130.here hx rfl (hb hby at_46) rfl ?_
        show Steps p.tables e below (T130.setTop (mkF m 48 #[.val (.int p0), .val (.long p1), .second, .val (.long p2), .second, .val (.ref ea5), .val (.long v124), .second, .val (.int v127), .val (.int v132), .unset, .unset] [(.int v132)])) t
        refine XS.bipush X130.here hx rfl (hb hby at_48) ?_
        show Steps p.tables e below (T130.setTop (mkF m 50 #[.val (.int p0), .val (.long p1), .second, .val (.long p2), .second, .val (.ref ea5), .val (.long v124), .second, .val (.int v127), .val (.int v132), .unset, .unset] [(.int (62 : Int32)), (.int v132)])) t
        by_cases hq135 : v132 = (62 : Int32)
        · refine XS.icmpNo X130.here hx rfl (hb hby at_50) rfl (Jvm.Free.XT.ii_ne_f hq135) ?_
          show Steps p.tables e below (T130.setTop (mkF m 53 #[.val (.int p0), .val (.long p1), .second, .val (.long p2), .second, .val (.ref ea5), .val (.long v124), .second, .val (.int v127), .val (.int v132), .unset, .unset] [])) t
          refine XS.iconst X130.here hx rfl (hb hby at_53) ?_
          show Steps p.tables e below (T130.setTop (mkF m 54 #[.val (.int p0), .val (.long p1), .second, .val (.long p2), .second, .val (.ref ea5), .val (.long v124), .second, .val (.int v127), .val (.int v132), .unset, .unset] [(.int (1 : Int32))])) t
          refine XS.goto X130.here hx rfl (pc0 := 54) (pc' := 58) rfl (hb hby at_54) (by decide) (by decide) ?_
          show Steps p.tables e below (T130.setTop (mkF m 58 #[.val (.int p0), .val (.long p1), .second, .val (.long p2), .second, .val (.ref ea5), .val (.long v124), .second, .val (.int v127), .val (.int v132), .unset, .unset] [(.int (1 : Int32))])) t
          simp only [if_neg hq134, if_pos hq135] at k
          exact k
        · refine XS.icmpYes X130.here hx rfl (pc0 := 50) (pc' := 57) rfl (hb hby at_50) rfl (Jvm.Free.XT.ii_ne_t hq135) (by decide) (by decide) ?_
          show Steps p.tables e below (T130.setTop (mkF m 57 #[.val (.int p0), .val (.long p1), .second, .val (.long p2), .second, .val (.ref ea5), .val (.long v124), .second, .val (.int v127), .val (.int v132), .unset, .unset] [])) t
          refine XS.iconst X130.here hx rfl (hb hby at_57) ?_
          show Steps p.tables e below (T130.setTop (mkF m 58 #[.val (.int p0), .val (.long p1), .second, .val (.long p2), .second, .val (.ref ea5), .val (.long v124), .second, .val (.int v127), .val (.int v132), .unset, .unset] [(.int (0 : Int32))])) t
          simp only [if_neg hq134, if_neg hq135] at k
          exact k
    refine own_via st133 ?_
    show own_Go p e below s _ _ _ (T130.setTop (mkF m 58 #[.val (.int p0), .val (.long p1), .second, .val (.long p2), .second, .val (.ref ea5), .val (.long v124), .second, .val (.int v127), .val (.int v132), .unset, .unset] [(.int (if v132 = (60 : Int32) then (1 : Int32) else (if v132 = (62 : Int32) then (1 : Int32) else (0 : Int32))))]))
    refine own_via (fun _ k => XS.istore X130.here hx rfl (hb hby at_58) rfl (l' := #[.val (.int p0), .val (.long p1), .second, .val (.long p2), .second, .val (.ref ea5), .val (.long v124), .second, .val (.int v127), .val (.int v132), .val (.int (if v132 = (60 : Int32) then (1 : Int32) else (if v132 = (62 : Int32) then (1 : Int32) else (0 : Int32)))), .unset]) rfl k) ?_
    show own_Go p e below s _ _ _ (T130.setTop (mkF m 60 #[.val (.int p0), .val (.long p1), .second, .val (.long p2), .second, .val (.ref ea5), .val (.long v124), .second, .val (.int v127), .val (.int v132), .val (.int (if v132 = (60 : Int32) then (1 : Int32) else (if v132 = (62 : Int32) then (1 : Int32) else (0 : Int32)))), .unset] []))
    generalize hv136 : (if v132 = (60 : Int32) then (1 : Int32) else (if v132 = (62 : Int32) then (1 : Int32) else (0 : Int32))) = v136
    show own_Go p e below s _ _ _ (T130.setTop (mkF m 60 #[.val (.int p0), .val (.long p1), .second, .val (.long p2), .second, .val (.ref ea5), .val (.long v124), .second, .val (.int v127), .val (.int v132), .val (.int v136), .unset] []))
    refine own_via (fun _ k => XS.aload X130.here hx rfl (hb hby at_60) rfl rfl k) ?_
    show own_Go p e below s _ _ _ (T130.setTop (mkF m 62 #[.val (.int p0), .val (.long p1), .second, .val (.long p2), .second, .val (.ref ea5), .val (.long v124), .second, .val (.int v127), .val (.int v132), .val (.int v136), .unset] [(.ref ea5)]))
    refine own_via (fun _ k => XS.lloadN X130.here hx rfl (hb hby at_62) rfl k) ?_
    show own_Go p e below s _ _ _ (T130.setTop (mkF m 63 #[.val (.int p0), .val (.long p1), .second, .val (.long p2), .second, .val (.ref ea5), .val (.long v124), .second, .val (.int v127), .val (.int v132), .val (.int v136), .unset] [(.long p1), (.ref ea5)]))
    refine own_via (fun _ k => XS.lload X130.here hx rfl (hb hby at_63) rfl k) ?_
    show own_Go p e below s _ _ _ (T130.setTop (mkF m 65 #[.val (.int p0), .val (.long p1), .second, .val (.long p2), .second, .val (.ref ea5), .val (.long v124), .second, .val (.int v127), .val (.int v132), .val (.int v136), .unset] [(.long v124), (.long p1), (.ref ea5)]))
    have F138 := kE.ext O0.2
    obtain ⟨cq137, kq137, qa137, qb137, qc137⟩ := isOf hZ e130 F138
    obtain ⟨_, _, ⟨T137, L137, k137, n137⟩, -, X137, ⟨Lc137, hQ137, l137, y137, z137⟩, st137⟩ := X130.virtualBack hx (y := (⟨"com/example/trajectory/trajectory/model/Condition$Operator", "holds", "(JJ)Z"⟩ : MethodName)) (z := (⟨"com/example/trajectory/trajectory/model/Condition$Operator", "holds", "(JJ)Z"⟩ : MethodName)) hown (mvT hZ (hw _ (List.mem_of_getElem? (i := 49) rfl))) (mvT hZ (hw _ (List.mem_of_getElem? (i := 50) rfl))) (notFace_of_selects (args := #[]) (mvT hZ (hw _ (List.mem_of_getElem? (i := 52) rfl)))) (mvT hZ (hw _ (List.mem_of_getElem? (i := 52) rfl))) (mvT hZ (hw _ (List.mem_of_getElem? (i := 51) rfl))) (by decide) (backOf (W := 0) (rmho5 l Z a0 hw [] ea5 p1 v124 h0 n0 Z0 O0 kO kE) hZ (hw _ (List.mem_of_getElem? (i := 53) rfl)) (hw _ (List.mem_of_getElem? (i := 6) rfl)) (by decide) (by decide)) qa137 qc137 (g := (mkF m 65 #[.val (.int p0), .val (.long p1), .second, .val (.long p2), .second, .val (.ref ea5), .val (.long v124), .second, .val (.int v127), .val (.int v132), .val (.int v136), .unset] [(.long v124), (.long p1), (.ref ea5)])) rfl (by rw [hml]; rfl) (Steps.refl _) (argsL := [(.long p1), (.long v124)]) (rest := []) (lenOf pd_8 rfl) rfl (by show 2 * 0 + _ ≤ _; exact Nat.le_of_eq rfl) (hb hby at_65) (fun _ _ => ⟨rfl, e130, (by decide : 0 + 0 ≤ _), (by decide : 0 + 0 ≤ _)⟩)
    dsimp only [Pt.U, Pt.locs, Pt.cells, Pt.slots] at X137 l137 y137 z137 st137 hQ137
    subst l137 y137 z137
    obtain ⟨rfl, N137q, e137⟩ := hQ137
    have N137 := Fr.app N130 N137q
    refine own_viaT st137 ?_
    show own_Go p e below s _ _ _ (T137.setTop (mkF m 68 #[.val (.int p0), .val (.long p1), .second, .val (.long p2), .second, .val (.ref ea5), .val (.long v124), .second, .val (.int v127), .val (.int v132), .val (.int v136), .unset] [(.int (own_ho5 p1 v124))]))
    refine own_via (fun _ k => XS.aload X137.here hx rfl (hb hby at_68) rfl rfl k) ?_
    show own_Go p e below s _ _ _ (T137.setTop (mkF m 70 #[.val (.int p0), .val (.long p1), .second, .val (.long p2), .second, .val (.ref ea5), .val (.long v124), .second, .val (.int v127), .val (.int v132), .val (.int v136), .unset] [(.ref ea5), (.int (own_ho5 p1 v124))]))
    refine own_via (fun _ k => XS.lload X137.here hx rfl (hb hby at_70) rfl k) ?_
    show own_Go p e below s _ _ _ (T137.setTop (mkF m 72 #[.val (.int p0), .val (.long p1), .second, .val (.long p2), .second, .val (.ref ea5), .val (.long v124), .second, .val (.int v127), .val (.int v132), .val (.int v136), .unset] [(.long v124), (.ref ea5), (.int (own_ho5 p1 v124))]))
    refine own_via (fun _ k => XS.lloadN X137.here hx rfl (hb hby at_72) rfl k) ?_
    show own_Go p e below s _ _ _ (T137.setTop (mkF m 73 #[.val (.int p0), .val (.long p1), .second, .val (.long p2), .second, .val (.ref ea5), .val (.long v124), .second, .val (.int v127), .val (.int v132), .val (.int v136), .unset] [(.long p1), (.long v124), (.ref ea5), (.int (own_ho5 p1 v124))]))
    have F140 := kE.ext O0.2
    obtain ⟨cq139, kq139, qa139, qb139, qc139⟩ := isOf hZ e137 F140
    obtain ⟨_, _, ⟨T139, L139, k139, n139⟩, -, X139, ⟨Lc139, hQ139, l139, y139, z139⟩, st139⟩ := X137.virtualBack hx (y := (⟨"com/example/trajectory/trajectory/model/Condition$Operator", "holds", "(JJ)Z"⟩ : MethodName)) (z := (⟨"com/example/trajectory/trajectory/model/Condition$Operator", "holds", "(JJ)Z"⟩ : MethodName)) hown (mvT hZ (hw _ (List.mem_of_getElem? (i := 49) rfl))) (mvT hZ (hw _ (List.mem_of_getElem? (i := 50) rfl))) (notFace_of_selects (args := #[]) (mvT hZ (hw _ (List.mem_of_getElem? (i := 52) rfl)))) (mvT hZ (hw _ (List.mem_of_getElem? (i := 52) rfl))) (mvT hZ (hw _ (List.mem_of_getElem? (i := 51) rfl))) (by decide) (backOf (W := 1) (rmho5 l Z a0 hw [] ea5 v124 p1 h0 n0 Z0 O0 kO kE) hZ (hw _ (List.mem_of_getElem? (i := 53) rfl)) (hw _ (List.mem_of_getElem? (i := 6) rfl)) (by decide) (by decide)) qa139 qc139 (g := (mkF m 73 #[.val (.int p0), .val (.long p1), .second, .val (.long p2), .second, .val (.ref ea5), .val (.long v124), .second, .val (.int v127), .val (.int v132), .val (.int v136), .unset] [(.long p1), (.long v124), (.ref ea5), (.int (own_ho5 p1 v124))])) rfl (by rw [hml]; rfl) (Steps.refl _) (argsL := [(.long v124), (.long p1)]) (rest := [(.int (own_ho5 p1 v124))]) (lenOf pd_8 rfl) rfl (by show 2 * 0 + _ ≤ _; exact Nat.le_of_eq rfl) (hb hby at_73) (fun _ _ => ⟨rfl, e137, (by decide : 0 + 0 ≤ _), (by decide : 0 + 0 ≤ _)⟩)
    dsimp only [Pt.U, Pt.locs, Pt.cells, Pt.slots] at X139 l139 y139 z139 st139 hQ139
    subst l139 y139 z139
    obtain ⟨rfl, N139q, e139⟩ := hQ139
    have N139 := Fr.app N137 N139q
    refine own_viaT st139 ?_
    show own_Go p e below s _ _ _ (T139.setTop (mkF m 76 #[.val (.int p0), .val (.long p1), .second, .val (.long p2), .second, .val (.ref ea5), .val (.long v124), .second, .val (.int v127), .val (.int v132), .val (.int v136), .unset] [(.int (own_ho5 v124 p1)), (.int (own_ho5 p1 v124))]))
    have st141 : ∀ t, Steps p.tables e below (T139.setTop (mkF m 84 #[.val (.int p0), .val (.long p1), .second, .val (.long p2), .second, .val (.ref ea5), .val (.long v124), .second, .val (.int v127), .val (.int v132), .val (.int v136), .unset] [(.int (if (own_ho5 p1 v124) = (own_ho5 v124 p1) then (0 : Int32) else (1 : Int32)))])) t → Steps p.tables e below (T139.setTop (mkF m 76 #[.val (.int p0), .val (.long p1), .second, .val (.long p2), .second, .val (.ref ea5), .val (.long v124), .second, .val (.int v127), .val (.int v132), .val (.int v136), .unset] [(.int (own_ho5 v124 p1)), (.int (own_ho5 p1 v124))])) t := by
      intro t k
      by_cases hq142 : (own_ho5 p1 v124) = (own_ho5 v124 p1)
      · refine XS.icmpYes X139.here hx rfl (pc0 := 76) (pc' := 83) rfl (hb hby at_76) rfl (Jvm.Free.XT.ii_eq_t hq142) (by decide) (by decide) ?_
        show Steps p.tables e below (T139.setTop (mkF m 83 #[.val (.int p0), .val (.long p1), .second, .val (.long p2), .second, .val (.ref ea5), .val (.long v124), .second, .val (.int v127), .val (.int v132), .val (.int v136), .unset] [])) t
        refine XS.iconst X139.here hx rfl (hb hby at_83) ?_
        show Steps p.tables e below (T139.setTop (mkF m 84 #[.val (.int p0), .val (.long p1), .second, .val (.long p2), .second, .val (.ref ea5), .val (.long v124), .second, .val (.int v127), .val (.int v132), .val (.int v136), .unset] [(.int (0 : Int32))])) t
        simp only [if_pos hq142] at k
        exact k
      · refine XS.icmpNo X139.here hx rfl (hb hby at_76) rfl (Jvm.Free.XT.ii_eq_f hq142) ?_
        show Steps p.tables e below (T139.setTop (mkF m 79 #[.val (.int p0), .val (.long p1), .second, .val (.long p2), .second, .val (.ref ea5), .val (.long v124), .second, .val (.int v127), .val (.int v132), .val (.int v136), .unset] [])) t
        refine XS.iconst X139.here hx rfl (hb hby at_79) ?_
        show Steps p.tables e below (T139.setTop (mkF m 80 #[.val (.int p0), .val (.long p1), .second, .val (.long p2), .second, .val (.ref ea5), .val (.long v124), .second, .val (.int v127), .val (.int v132), .val (.int v136), .unset] [(.int (1 : Int32))])) t
        refine XS.goto X139.here hx rfl (pc0 := 80) (pc' := 84) rfl (hb hby at_80) (by decide) (by decide) ?_
        show Steps p.tables e below (T139.setTop (mkF m 84 #[.val (.int p0), .val (.long p1), .second, .val (.long p2), .second, .val (.ref ea5), .val (.long v124), .second, .val (.int v127), .val (.int v132), .val (.int v136), .unset] [(.int (1 : Int32))])) t
        simp only [if_neg hq142] at k
        exact k
    refine own_via st141 ?_
    show own_Go p e below s _ _ _ (T139.setTop (mkF m 84 #[.val (.int p0), .val (.long p1), .second, .val (.long p2), .second, .val (.ref ea5), .val (.long v124), .second, .val (.int v127), .val (.int v132), .val (.int v136), .unset] [(.int (if (own_ho5 p1 v124) = (own_ho5 v124 p1) then (0 : Int32) else (1 : Int32)))]))
    refine own_via (fun _ k => XS.istore X139.here hx rfl (hb hby at_84) rfl (l' := #[.val (.int p0), .val (.long p1), .second, .val (.long p2), .second, .val (.ref ea5), .val (.long v124), .second, .val (.int v127), .val (.int v132), .val (.int v136), .val (.int (if (own_ho5 p1 v124) = (own_ho5 v124 p1) then (0 : Int32) else (1 : Int32)))]) rfl k) ?_
    show own_Go p e below s _ _ _ (T139.setTop (mkF m 86 #[.val (.int p0), .val (.long p1), .second, .val (.long p2), .second, .val (.ref ea5), .val (.long v124), .second, .val (.int v127), .val (.int v132), .val (.int v136), .val (.int (if (own_ho5 p1 v124) = (own_ho5 v124 p1) then (0 : Int32) else (1 : Int32)))] []))
    generalize hv143 : (if (own_ho5 p1 v124) = (own_ho5 v124 p1) then (0 : Int32) else (1 : Int32)) = v143
    show own_Go p e below s _ _ _ (T139.setTop (mkF m 86 #[.val (.int p0), .val (.long p1), .second, .val (.long p2), .second, .val (.ref ea5), .val (.long v124), .second, .val (.int v127), .val (.int v132), .val (.int v136), .val (.int v143)] []))
    refine own_via (fun _ k => XS.iload X139.here hx rfl (hb hby at_86) rfl k) ?_
    show own_Go p e below s _ _ _ (T139.setTop (mkF m 88 #[.val (.int p0), .val (.long p1), .second, .val (.long p2), .second, .val (.ref ea5), .val (.long v124), .second, .val (.int v127), .val (.int v132), .val (.int v136), .val (.int v143)] [(.int v127)]))
    refine own_via (fun _ k => XS.iload X139.here hx rfl (hb hby at_88) rfl k) ?_
    show own_Go p e below s _ _ _ (T139.setTop (mkF m 90 #[.val (.int p0), .val (.long p1), .second, .val (.long p2), .second, .val (.ref ea5), .val (.long v124), .second, .val (.int v127), .val (.int v132), .val (.int v136), .val (.int v143)] [(.int v136), (.int v127)]))
    have hc144 : v127 = v136 := by rw [← hv127, ← hv136, ← hv132]; unfold own_ord; rw [if_neg ne0, if_neg ne1]; decide
    refine own_via (fun _ k => XS.icmpNo X139.here hx rfl (hb hby at_90) rfl (Jvm.Free.XT.ii_ne_f hc144) k) ?_
    show own_Go p e below s _ _ _ (T139.setTop (mkF m 93 #[.val (.int p0), .val (.long p1), .second, .val (.long p2), .second, .val (.ref ea5), .val (.long v124), .second, .val (.int v127), .val (.int v132), .val (.int v136), .val (.int v143)] []))
    refine own_via (fun _ k => XS.iload X139.here hx rfl (hb hby at_93) rfl k) ?_
    show own_Go p e below s _ _ _ (T139.setTop (mkF m 95 #[.val (.int p0), .val (.long p1), .second, .val (.long p2), .second, .val (.ref ea5), .val (.long v124), .second, .val (.int v127), .val (.int v132), .val (.int v136), .val (.int v143)] [(.int v127)]))
    refine own_via (fun _ k => XS.iload X139.here hx rfl (hb hby at_95) rfl k) ?_
    show own_Go p e below s _ _ _ (T139.setTop (mkF m 97 #[.val (.int p0), .val (.long p1), .second, .val (.long p2), .second, .val (.ref ea5), .val (.long v124), .second, .val (.int v127), .val (.int v132), .val (.int v136), .val (.int v143)] [(.int v143), (.int v127)]))
    have hc145 : v127 = v143 := by rw [← hv127]; unfold own_ord; rw [if_neg ne0, if_neg ne1]; exact own_fin5 (own_ne hv124) hv143
    refine own_via (fun _ k => XS.icmpNo X139.here hx rfl (hb hby at_97) rfl (Jvm.Free.XT.ii_ne_f hc145) k) ?_
    show own_Go p e below s _ _ _ (T139.setTop (mkF m 100 #[.val (.int p0), .val (.long p1), .second, .val (.long p2), .second, .val (.ref ea5), .val (.long v124), .second, .val (.int v127), .val (.int v132), .val (.int v136), .val (.int v143)] []))
    refine own_via (fun _ k => XS.iconst X139.here hx rfl (hb hby at_100) k) ?_
    show own_Go p e below s _ _ _ (T139.setTop (mkF m 101 #[.val (.int p0), .val (.long p1), .second, .val (.long p2), .second, .val (.ref ea5), .val (.long v124), .second, .val (.int v127), .val (.int v132), .val (.int v136), .val (.int v143)] [(.int (1 : Int32))]))
    refine own_via (fun _ k => XS.goto X139.here hx rfl (pc0 := 101) (pc' := 105) rfl (hb hby at_101) (by decide) (by decide) k) ?_
    show own_Go p e below s _ _ _ (T139.setTop (mkF m 105 #[.val (.int p0), .val (.long p1), .second, .val (.long p2), .second, .val (.ref ea5), .val (.long v124), .second, .val (.int v127), .val (.int v132), .val (.int v136), .val (.int v143)] [(.int (1 : Int32))]))
    exact own_goN X139 hx (t := .boolean) Bd.returns (by simp) (hb hby at_105) Bd.notSynchronized (by decide) (by decide) (by rw [e139]; exact ⟨rfl, N139⟩)
set_option maxRecDepth 65536 in
set_option maxHeartbeats 40000000 in
theorem comes_1 {Post : Tables → Env → Array Value → State → Outcome → State → Prop} (hpost : ∀ tb e args s v u, (limb_1_1.after args s (.returned v) u = true ∧ limb_1_2.after args s (.returned v) u = true ∧ True) → FrameEnd s (.returned v) u (Jvm.fieldLocs frame_1_writes args s ++ Jvm.arrayLocs frame_1_arrays args s ++ Jvm.staticLocs frame_1_statics s) 0 0 → Post tb e args s (.returned v) u) :
    ArmFor flags0 classFile x code maxLocals ret World_1 tables_1 room_1 Calls_1 rest_1 Pre_1 Post := by
  intro l hfl _ _ p e ha hc hk s m args below hf hA hF happ hP
  obtain ⟨hcalls, hrest, hpre⟩ := hP
  obtain ⟨-, -, -, hnamed, -, -, -, hat⟩ := (Spec.applies_iff hf).mp happ
  obtain ⟨hg, hn⟩ := and_e (Cond.before_iff.mp (show (Jvm.Cond.and given_1 narrow_1).before args s = true from hpre))
  obtain ⟨g1, g2⟩ := and_e hg
  obtain ⟨g3, g4⟩ := and_e g2
  obtain ⟨g5, g6⟩ := and_e g4
  obtain ⟨w0, w1, w2, rfl⟩ : ∃ w0 w1 w2 : Value, args = #[w0, w1, w2] := by
    have hs : args.size = 3 := by simpa [Cond.value, given_1] using g1
    obtain ⟨L⟩ := args
    match L, hs with
    | [w0, w1, w2], _ => exact ⟨w0, w1, w2, rfl⟩
  have hw := fun d (hd : d ∈ tables_1) => atoms_spec (ws := Jvm.Cond.code x code maxLocals ret :: tables_1) hat d (List.mem_cons_of_mem _ hd)
  have hfit : Fit s := fun {y c} hc i hi => by
    obtain ⟨ha, rfl⟩ := Array.getElem?_eq_some_iff.mp hc
    have q := List.all_eq_true.mp ((Array.all_eq_true_iff_forall_mem.mp hF) _ (Array.getElem_mem ha)) i (List.mem_range.mpr hi)
    simpa [Array.getElem?_eq_getElem hi] using q
  obtain ⟨hsets, hown0⟩ := atoms_of _ (rest_1_c_eq ▸ (show rest_1_c.before _ s = true from hrest))
  have hr0 := Cond.before_iff.mp hown0
  obtain ⟨i0, ei0⟩ := is_v g3
  obtain rfl : w0 = (.int i0) := Option.some.inj ei0
  obtain ⟨i1, ei1⟩ := isL_v g5
  obtain rfl : w1 = (.long i1) := Option.some.inj ei1
  obtain ⟨i2, ei2⟩ := isL_v g6
  obtain rfl : w2 = (.long i2) := Option.some.inj ei2
  obtain ⟨na0, nb0⟩ := and_e hn
  obtain ⟨na1, nb1⟩ := and_e nb0
  obtain ⟨na2, nb2⟩ := and_e nb1
  obtain ⟨na3, nb3⟩ := and_e nb2
  obtain ⟨na4, nb4⟩ := and_e nb3
  obtain ⟨na5, nb5⟩ := and_e nb4
  obtain ⟨na6, nb6⟩ := and_e nb5
  obtain ⟨na7, nb7⟩ := and_e nb6
  obtain ⟨na8, nb8⟩ := and_e nb7
  obtain ⟨na9, nb9⟩ := and_e nb8
  obtain ⟨na10, nb10⟩ := and_e nb9
  obtain ⟨na11, nb11⟩ := and_e nb10
  obtain ⟨na12, nb12⟩ := and_e nb11
  obtain ⟨na13, nb13⟩ := and_e nb12
  obtain ⟨na14, nb14⟩ := and_e nb13
  obtain ⟨na15, nb15⟩ := and_e nb14
  obtain ⟨na16, nb16⟩ := and_e nb15
  obtain ⟨na17, nb17⟩ := and_e nb16
  obtain ⟨na18, nb18⟩ := and_e nb17
  obtain ⟨na19, nb19⟩ := and_e nb18
  obtain ⟨na20, nb20⟩ := and_e nb19
  obtain ⟨na21, nb21⟩ := and_e nb20
  obtain ⟨na22, nb22⟩ := and_e nb21
  obtain ⟨na23, nb23⟩ := and_e nb22
  obtain ⟨na24, nb24⟩ := and_e nb23
  obtain ⟨na25, nb25⟩ := and_e nb24
  obtain ⟨na26, nb26⟩ := and_e nb25
  obtain ⟨na27, nb27⟩ := and_e nb26
  obtain ⟨na28, nb28⟩ := and_e nb27
  obtain ⟨na29, nb29⟩ := and_e nb28
  obtain ⟨na30, nb30⟩ := and_e nb29
  obtain ⟨na31, nb31⟩ := and_e nb30
  obtain ⟨na32, nb32⟩ := and_e nb31
  obtain ⟨na33, nb33⟩ := and_e nb32
  obtain ⟨na34, nb34⟩ := and_e nb33
  obtain ⟨na35, nb35⟩ := and_e nb34
  obtain ⟨na36, nb36⟩ := and_e nb35
  obtain ⟨na37, nb37⟩ := and_e nb36
  obtain ⟨na38, nb38⟩ := and_e nb37
  obtain ⟨na39, nb39⟩ := and_e nb38
  obtain ⟨na40, nb40⟩ := and_e nb39
  obtain ⟨na41, nb41⟩ := and_e nb40
  obtain ⟨na42, nb42⟩ := and_e nb41
  obtain ⟨na43, nb43⟩ := and_e nb42
  obtain ⟨na44, nb44⟩ := and_e nb43
  obtain ⟨ea0, sa0, va0, cl0, ev0, hK0⟩ := own_const na0 na1 na2 na3 na4 na5 na6 (by decide)
  have S0 : Sta s s.heap "com/example/trajectory/trajectory/model/Condition$Operator" "EQUALS" "Lcom/example/trajectory/trajectory/model/Condition$Operator;" (.ref ea0) := Sta.start ev0 (Or.inr ⟨(hw _ (List.mem_of_getElem? (i := 6) rfl)), (hw _ (List.mem_of_getElem? (i := 7) rfl))⟩)
  obtain ⟨ea1, sa1, va1, cl1, ev1, hK1⟩ := own_const na9 na30 na31 na32 na33 na34 na10 (by decide)
  have S1 : Sta s s.heap "com/example/trajectory/trajectory/model/Condition$Operator" "NOT_EQUALS" "Lcom/example/trajectory/trajectory/model/Condition$Operator;" (.ref ea1) := Sta.start ev1 (Or.inr ⟨(hw _ (List.mem_of_getElem? (i := 6) rfl)), (hw _ (List.mem_of_getElem? (i := 66) rfl))⟩)
  obtain ⟨ea2, sa2, va2, cl2, ev2, hK2⟩ := own_const na23 na25 na26 na27 na28 na29 na24 (by decide)
  have S2 : Sta s s.heap "com/example/trajectory/trajectory/model/Condition$Operator" "LESS_THAN" "Lcom/example/trajectory/trajectory/model/Condition$Operator;" (.ref ea2) := Sta.start ev2 (Or.inr ⟨(hw _ (List.mem_of_getElem? (i := 6) rfl)), (hw _ (List.mem_of_getElem? (i := 70) rfl))⟩)
  obtain ⟨ea3, sa3, va3, cl3, ev3, hK3⟩ := own_const na16 na18 na19 na20 na21 na22 na17 (by decide)
  have S3 : Sta s s.heap "com/example/trajectory/trajectory/model/Condition$Operator" "AT_MOST" "Lcom/example/trajectory/trajectory/model/Condition$Operator;" (.ref ea3) := Sta.start ev3 (Or.inr ⟨(hw _ (List.mem_of_getElem? (i := 6) rfl)), (hw _ (List.mem_of_getElem? (i := 68) rfl))⟩)
  obtain ⟨ea4, sa4, va4, cl4, ev4, hK4⟩ := own_const na7 na11 na12 na13 na14 na15 na8 (by decide)
  have S4 : Sta s s.heap "com/example/trajectory/trajectory/model/Condition$Operator" "GREATER_THAN" "Lcom/example/trajectory/trajectory/model/Condition$Operator;" (.ref ea4) := Sta.start ev4 (Or.inr ⟨(hw _ (List.mem_of_getElem? (i := 6) rfl)), (hw _ (List.mem_of_getElem? (i := 64) rfl))⟩)
  obtain ⟨ea5, sa5, va5, cl5, ev5, hK5⟩ := own_const na35 na37 na38 na39 na40 na41 na36 (by decide)
  have S5 : Sta s s.heap "com/example/trajectory/trajectory/model/Condition$Operator" "AT_LEAST" "Lcom/example/trajectory/trajectory/model/Condition$Operator;" (.ref ea5) := Sta.start ev5 (Or.inr ⟨(hw _ (List.mem_of_getElem? (i := 6) rfl)), (hw _ (List.mem_of_getElem? (i := 73) rfl))⟩)
  obtain ⟨cs_, ecs⟩ := is_v (Cond.before_iff.mp (hsets _ (List.mem_of_getElem? (i := 1) rfl)))
  have S_C : Sta s s.heap "java/lang/String" "COMPACT_STRINGS" "Z" (.int cs_) := Sta.start ecs (Or.inl (hsets _ (List.mem_of_getElem? (i := 0) rfl)))
  have ncs : ¬ cs_ = (0 : Int32) := gotF (Cond.eq_ints ecs (Term.int_eval 0)) (not_v (Cond.before_iff.mp (hsets _ (List.mem_of_getElem? (i := 2) rfl))))
  obtain ⟨fm_, efm, rfm⟩ := isR_v (Cond.before_iff.mp (hsets _ (List.mem_of_getElem? (i := 8) rfl)))
  have S_F : Sta s s.heap "jdk/internal/util/Preconditions" "SIOOBE_FORMATTER" "Ljava/util/function/BiFunction;" fm_ := Sta.start efm (Or.inl (hsets _ (List.mem_of_getElem? (i := 7) rfl)))
  obtain ⟨n, o, h1, h2, h3, _, L, rfl, ⟨rfl, N⟩, hq⟩ := rm0 l s _ hw tables_1 i0 i1 i2 ea0 ea1 ea2 ea3 ea4 ea5 cs_ fm_ sa0 va0 cl0 sa1 va1 cl1 sa2 va2 cl2 sa3 va3 cl3 sa4 va4 cl4 sa5 va5 cl5 s.heap s.heap.size (Nat.le_refl _) (Old.start s) S0 S1 S2 S3 S4 S5 S_C S_F hK0 hK1 hK2 hK3 hK4 hK5 ncs rfm p e ha hc hk s m _ below hf ((Spec.applies_iff_loose hf).mp happ).1 ⟨rfl, State.Warmed39.refl s, rfl⟩ trivial
  refine ⟨n, _, h1, h2, h3, hpost _ _ _ _ _ _ ⟨Cond.after_iff.mpr rfl, Cond.after_iff.mpr (eq_i res_at (Term.int_eval (1)) rfl), trivial⟩ ⟨hq.1, hq.2.1, (hq.2.2.sift fun y hy => Or.inr (N y hy)).mono (by decide) (by decide)⟩⟩
theorem main_1_1 : Claimed_1_1 := comes_1 fun _ _ _ _ _ _ h hF => ⟨h.1, hF⟩
theorem main_1_2 : Claimed_1_2 := comes_1 fun _ _ _ _ _ _ h hF => ⟨h.2.1, hF⟩
end Jvm.Pilot.@@N@@
namespace Jvm.Pilot.@@N@@
open Jvm Jvm.ClassFile Sem Op Lib Jvm.Free Jvm.Stand Jvm.Pilot.@@N@@.Jvm.D
/-! MADE BY PROGRAM (witnessworld.py) out of the Statement's table words and the real class files: 18 classes; the members and pool entries that the words name. The judged class is class 1, her method 2. -/
namespace start1
open Jvm.ClassFile
def u (s : String) : CpInfo := .utf8 (stringToUtf16 s)
/-- a pool by its gaps: so many unusable entries, then the entry; so many at the end -/
def gap : Nat → List CpInfo → List CpInfo
  | 0, r => r
  | n + 1, r => .unusable :: gap n r
def poolList (es : List (Nat × CpInfo)) (last : Nat) : List CpInfo := es.foldr (fun e r => gap e.1 (e.2 :: r)) (gap last [])
def pool (es : List (Nat × CpInfo)) (last : Nat) : Array CpInfo := ⟨poolList es last⟩
def fileOf (pool : Array CpInfo) (this : Nat) (attrs : Array Attribute := #[]) (ms : Array MethodInfo := #[]) (fl : Nat := 33) (sup : Nat := 0) (ifs : Array Nat := #[]) (fds : Array FieldInfo := #[]) : ClassFile where
  minorVersion := 0
  majorVersion := 65
  constantPool := pool
  accessFlags := fl
  thisClass := this
  superClass := sup
  interfaces := ifs
  fields := fds
  methods := ms
  attributes := attrs
def plain (name : String) (sup : Option ClassId) : Class where
  name := name
  kind := .ordinary
  loader := none
  accessFlags := 33
  super := sup
  interfaces := #[]
  cf := none
  fields := #[]
  methods := #[]
  instanceTypes := #[]
  staticTypes := #[]
  resolved := #[]
  callSites := []
  init := .initialized
  statics := none
  mirror := none

def pool0 : Array CpInfo := pool [(5, u "<init>"), (0, u "()V"), (1, .class_ 10), (1, u "java/lang/Object")] 113

def k0m0 : Method := { name := "<init>", desc := "()V", sig := { parameters := [], returnType := none }, accessFlags := 1, code := none }
/-- java/lang/Object -/
def k0 : Class := { plain "java/lang/Object" none with
  accessFlags := 33
  interfaces := #[]
  cf := some (fileOf pool0 8 #[] #[{ accessFlags := 1, nameIndex := 5, descriptorIndex := 6, attributes := #[] }] 33 0 #[] #[])
  fields := #[]
  methods := #[k0m0]
  instanceTypes := #[]
  staticTypes := #[]
  resolved := Array.replicate 124 none
  statics := none }

def pool1 : Array CpInfo := pool [(2, .class_ 4), (1, u "java/lang/Object"), (0, u "<init>"), (0, u "()V"), (0, .integer 2147483647), (0, .fieldref 9 10), (0, .class_ 11), (0, .nameAndType 12 13), (0, u "com/example/trajectory/trajectory/model/Condition$Operator"), (0, u "EQUALS"), (0, u "Lcom/example/trajectory/trajectory/model/Condition$Operator;"), (0, .fieldref 9 15), (0, .nameAndType 16 13), (0, u "NOT_EQUALS"), (0, .fieldref 9 18), (0, .nameAndType 19 13), (0, u "LESS_THAN"), (0, .fieldref 9 21), (0, .nameAndType 22 13), (0, u "AT_MOST"), (0, .fieldref 9 24), (0, .nameAndType 25 13), (0, u "GREATER_THAN"), (0, .fieldref 9 27), (0, .nameAndType 28 13), (0, u "AT_LEAST"), (0, .methodref 30 31), (0, .class_ 32), (0, .nameAndType 33 34), (0, u "com/example/trajectory/trajectory/model/OperatorOrdersPinLaw"), (0, u "pick"), (0, u "(I)Lcom/example/trajectory/trajectory/model/Condition$Operator;"), (0, .methodref 9 36), (0, .nameAndType 37 38), (0, u "orders"), (0, u "()Z"), (0, .methodref 9 40), (0, .nameAndType 41 42), (0, u "symbol"), (0, u "()Ljava/lang/String;"), (0, .methodref 44 45), (0, .class_ 46), (0, .nameAndType 47 48), (0, u "java/lang/String"), (0, u "charAt"), (0, u "(I)C"), (0, .methodref 9 50), (0, .nameAndType 51 52), (0, u "holds"), (0, u "(JJ)Z"), (3, u "law"), (0, u "(IJJ)Z")] 6

def k1m0 : Method := { name := "<init>", desc := "()V", sig := { parameters := [], returnType := none }, accessFlags := 1, code := none }
def k1c1 : Code := { maxStack := 2, maxLocals := 2, code := method_2_code, exceptionTable := #[], attributes := #[] }
def k1m1 : Method := { name := "pick", desc := "(I)Lcom/example/trajectory/trajectory/model/Condition$Operator;", sig := { parameters := [.int], returnType := some (.object "com/example/trajectory/trajectory/model/Condition$Operator") }, accessFlags := 10, code := some k1c1 }
def k1c2 : Code := { maxStack := 6, maxLocals := 12, code := code, exceptionTable := #[], attributes := #[] }
def k1m2 : Method := { name := "law", desc := "(IJJ)Z", sig := { parameters := [.int, .long, .long], returnType := some .boolean }, accessFlags := 9, code := some k1c2 }
/-- com/example/trajectory/trajectory/model/OperatorOrdersPinLaw -/
def k1 : Class := { plain "com/example/trajectory/trajectory/model/OperatorOrdersPinLaw" (some 0) with
  accessFlags := 49
  interfaces := #[]
  cf := some (fileOf pool1 30 #[] #[{ accessFlags := 1, nameIndex := 5, descriptorIndex := 6, attributes := #[] }, { accessFlags := 10, nameIndex := 33, descriptorIndex := 34, attributes := #[] }, { accessFlags := 9, nameIndex := 56, descriptorIndex := 57, attributes := #[] }] 49 2 #[] #[])
  fields := #[]
  methods := #[k1m0, k1m1, k1m2]
  instanceTypes := #[]
  staticTypes := #[]
  resolved := Array.replicate 64 none
  statics := none }

def pool2 : Array CpInfo := pool [(1, .class_ 2), (0, u "java/lang/constant/Constable"), (0, .class_ 4), (0, u "java/lang/Object")] 6

/-- java/lang/constant/Constable -/
def k2 : Class := { plain "java/lang/constant/Constable" (some 0) with
  accessFlags := 1537
  interfaces := #[]
  cf := some (fileOf pool2 1 #[] #[] 1537 3 #[] #[])
  fields := #[]
  methods := #[]
  instanceTypes := #[]
  staticTypes := #[]
  resolved := Array.replicate 11 none
  statics := none }

def pool3 : Array CpInfo := pool [(1, .class_ 2), (0, u "java/lang/Comparable"), (0, .class_ 4), (0, u "java/lang/Object")] 7

/-- java/lang/Comparable -/
def k3 : Class := { plain "java/lang/Comparable" (some 0) with
  accessFlags := 1537
  interfaces := #[]
  cf := some (fileOf pool3 1 #[] #[] 1537 3 #[] #[])
  fields := #[]
  methods := #[]
  instanceTypes := #[]
  staticTypes := #[]
  resolved := Array.replicate 12 none
  statics := none }

def pool4 : Array CpInfo := pool [(1, .class_ 2), (0, u "java/io/Serializable"), (0, .class_ 4), (0, u "java/lang/Object")] 2

/-- java/io/Serializable -/
def k4 : Class := { plain "java/io/Serializable" (some 0) with
  accessFlags := 1537
  interfaces := #[]
  cf := some (fileOf pool4 1 #[] #[] 1537 3 #[] #[])
  fields := #[]
  methods := #[]
  instanceTypes := #[]
  staticTypes := #[]
  resolved := Array.replicate 7 none
  statics := none }

def pool5 : Array CpInfo := pool [(2, .class_ 4), (1, u "java/lang/Enum"), (0, u "name"), (0, u "Ljava/lang/String;"), (0, .fieldref 2 8), (0, .nameAndType 9 10), (0, u "ordinal"), (0, u "I"), (1, .class_ 14), (1, u "java/lang/Object"), (4, u "hash"), (86, .class_ 108), (1, u "java/lang/Enum$EnumDesc"), (2, .class_ 112), (0, u "java/lang/constant/Constable"), (0, .class_ 114), (0, u "java/lang/Comparable"), (0, .class_ 116), (0, u "java/io/Serializable"), (9, u "()I")] 77

def k5c0 : Code := { maxStack := 1, maxLocals := 1, code := jdk_37_method_2_code, exceptionTable := #[], attributes := #[] }
def k5m0 : Method := { name := "ordinal", desc := "()I", sig := { parameters := [], returnType := some .int }, accessFlags := 17, code := some k5c0 }
/-- java/lang/Enum -/
def k5 : Class := { plain "java/lang/Enum" (some 0) with
  accessFlags := 1057
  interfaces := #[2, 3, 4]
  cf := some (fileOf pool5 2 #[.nestMembers #[106]] #[{ accessFlags := 17, nameIndex := 9, descriptorIndex := 126, attributes := #[] }] 1057 12 #[111, 113, 115] #[{ accessFlags := 18, nameIndex := 5, descriptorIndex := 6, attributes := #[] }, { accessFlags := 18, nameIndex := 9, descriptorIndex := 10, attributes := #[] }, { accessFlags := 2, nameIndex := 19, descriptorIndex := 10, attributes := #[] }])
  fields := #[{ name := "name", type := (.object "java/lang/String"), accessFlags := 18, slot := 0, constantValue := 0 }, { name := "ordinal", type := .int, accessFlags := 18, slot := 1, constantValue := 0 }, { name := "hash", type := .int, accessFlags := 2, slot := 2, constantValue := 0 }]
  methods := #[k5m0]
  instanceTypes := #[(.object "java/lang/String"), .int, .int]
  staticTypes := #[]
  resolved := Array.replicate 204 none
  statics := none }

def pool6 : Array CpInfo := pool [(1, .class_ 2), (0, u "com/example/trajectory/trajectory/model/Condition$Operator"), (0, .fieldref 1 4), (0, .nameAndType 5 6), (0, u "EQUALS"), (0, u "Lcom/example/trajectory/trajectory/model/Condition$Operator;"), (0, .fieldref 1 8), (0, .nameAndType 9 6), (0, u "NOT_EQUALS"), (2, u "LESS_THAN"), (2, u "AT_MOST"), (2, u "GREATER_THAN"), (2, u "AT_LEAST"), (2, u "$VALUES"), (0, u "[Lcom/example/trajectory/trajectory/model/Condition$Operator;"), (6, .class_ 34), (1, u "java/lang/Enum"), (6, .fieldref 1 42), (0, .nameAndType 43 44), (0, u "symbol"), (0, u "Ljava/lang/String;"), (0, .methodref 1 46), (0, .nameAndType 47 48), (0, u "ordinal"), (0, u "()I"), (65, u "()Ljava/lang/String;"), (0, u "orders"), (0, u "()Z"), (1, u "holds"), (0, u "(JJ)Z"), (11, .class_ 132), (0, u "com/example/trajectory/trajectory/model/Condition")] 21

def k6c0 : Code := { maxStack := 1, maxLocals := 1, code := prog_14_method_4_code, exceptionTable := #[], attributes := #[] }
def k6m0 : Method := { name := "symbol", desc := "()Ljava/lang/String;", sig := { parameters := [], returnType := some (.object "java/lang/String") }, accessFlags := 1, code := some k6c0 }
def k6c1 : Code := { maxStack := 2, maxLocals := 1, code := prog_14_method_5_code, exceptionTable := #[], attributes := #[] }
def k6m1 : Method := { name := "orders", desc := "()Z", sig := { parameters := [], returnType := some .boolean }, accessFlags := 1, code := some k6c1 }
def k6c2 : Code := { maxStack := 4, maxLocals := 5, code := prog_14_method_6_code, exceptionTable := #[], attributes := #[] }
def k6m2 : Method := { name := "holds", desc := "(JJ)Z", sig := { parameters := [.long, .long], returnType := some .boolean }, accessFlags := 1, code := some k6c2 }
/-- com/example/trajectory/trajectory/model/Condition$Operator -/
def k6 : Class := { plain "com/example/trajectory/trajectory/model/Condition$Operator" (some 5) with
  accessFlags := 16433
  interfaces := #[]
  cf := some (fileOf pool6 1 #[.nestHost 131] #[{ accessFlags := 1, nameIndex := 43, descriptorIndex := 114, attributes := #[] }, { accessFlags := 1, nameIndex := 115, descriptorIndex := 116, attributes := #[] }, { accessFlags := 1, nameIndex := 118, descriptorIndex := 119, attributes := #[] }] 16433 32 #[] #[{ accessFlags := 16409, nameIndex := 5, descriptorIndex := 6, attributes := #[] }, { accessFlags := 16409, nameIndex := 9, descriptorIndex := 6, attributes := #[] }, { accessFlags := 16409, nameIndex := 12, descriptorIndex := 6, attributes := #[] }, { accessFlags := 16409, nameIndex := 15, descriptorIndex := 6, attributes := #[] }, { accessFlags := 16409, nameIndex := 18, descriptorIndex := 6, attributes := #[] }, { accessFlags := 16409, nameIndex := 21, descriptorIndex := 6, attributes := #[] }, { accessFlags := 18, nameIndex := 43, descriptorIndex := 44, attributes := #[] }, { accessFlags := 4122, nameIndex := 24, descriptorIndex := 25, attributes := #[] }])
  fields := #[{ name := "EQUALS", type := (.object "com/example/trajectory/trajectory/model/Condition$Operator"), accessFlags := 16409, slot := 0, constantValue := 0 }, { name := "NOT_EQUALS", type := (.object "com/example/trajectory/trajectory/model/Condition$Operator"), accessFlags := 16409, slot := 1, constantValue := 0 }, { name := "LESS_THAN", type := (.object "com/example/trajectory/trajectory/model/Condition$Operator"), accessFlags := 16409, slot := 2, constantValue := 0 }, { name := "AT_MOST", type := (.object "com/example/trajectory/trajectory/model/Condition$Operator"), accessFlags := 16409, slot := 3, constantValue := 0 }, { name := "GREATER_THAN", type := (.object "com/example/trajectory/trajectory/model/Condition$Operator"), accessFlags := 16409, slot := 4, constantValue := 0 }, { name := "AT_LEAST", type := (.object "com/example/trajectory/trajectory/model/Condition$Operator"), accessFlags := 16409, slot := 5, constantValue := 0 }, { name := "symbol", type := (.object "java/lang/String"), accessFlags := 18, slot := 3, constantValue := 0 }, { name := "$VALUES", type := (.array (.object "com/example/trajectory/trajectory/model/Condition$Operator")), accessFlags := 4122, slot := 6, constantValue := 0 }]
  methods := #[k6m0, k6m1, k6m2]
  instanceTypes := #[(.object "java/lang/String"), .int, .int, (.object "java/lang/String")]
  staticTypes := #[(.object "com/example/trajectory/trajectory/model/Condition$Operator"), (.object "com/example/trajectory/trajectory/model/Condition$Operator"), (.object "com/example/trajectory/trajectory/model/Condition$Operator"), (.object "com/example/trajectory/trajectory/model/Condition$Operator"), (.object "com/example/trajectory/trajectory/model/Condition$Operator"), (.object "com/example/trajectory/trajectory/model/Condition$Operator"), (.array (.object "com/example/trajectory/trajectory/model/Condition$Operator"))]
  resolved := Array.replicate 154 none
  statics := some 0 }

def pool7 : Array CpInfo := pool [(2, .class_ 4), (1, u "java/lang/CharSequence"), (42, .class_ 48), (0, u "java/lang/CharSequence$1CodePointIterator"), (10, .class_ 60), (0, u "java/lang/CharSequence$1CharIterator"), (5, .class_ 67), (0, u "java/lang/Object")] 63

/-- java/lang/CharSequence -/
def k7 : Class := { plain "java/lang/CharSequence" (some 0) with
  accessFlags := 1537
  interfaces := #[]
  cf := some (fileOf pool7 2 #[.nestMembers #[47, 59]] #[] 1537 66 #[] #[])
  fields := #[]
  methods := #[]
  instanceTypes := #[]
  staticTypes := #[]
  resolved := Array.replicate 131 none
  statics := none }

def pool8 : Array CpInfo := pool [(1, .class_ 2), (0, u "java/lang/constant/ConstantDesc"), (0, .class_ 4), (0, u "java/lang/Object")] 32

/-- java/lang/constant/ConstantDesc -/
def k8 : Class := { plain "java/lang/constant/ConstantDesc" (some 0) with
  accessFlags := 1537
  interfaces := #[]
  cf := some (fileOf pool8 1 #[] #[] 1537 3 #[] #[])
  fields := #[]
  methods := #[]
  instanceTypes := #[]
  staticTypes := #[]
  resolved := Array.replicate 37 none
  statics := none }

def pool9 : Array CpInfo := pool [(2, .class_ 4), (1, u "java/lang/Object"), (0, u "<init>"), (0, u "()V"), (2, .fieldref 10 11), (0, .class_ 12), (0, .nameAndType 13 14), (0, u "java/lang/String"), (0, u "value"), (0, u "[B"), (0, .fieldref 10 16), (0, .nameAndType 17 18), (0, u "coder"), (0, u "B"), (2, u "hash"), (0, u "I"), (2, u "hashIsZero"), (0, u "Z"), (11, .fieldref 10 39), (0, .nameAndType 40 26), (0, u "COMPACT_STRINGS"), (66, .class_ 109), (1, u "java/lang/StringLatin1"), (32, u "()Z"), (220, u "([BI)C"), (27, u "(II)V"), (35, u "(I)C"), (64, .methodref 10 493), (0, .nameAndType 494 142), (0, u "isLatin1"), (0, .methodref 107 496), (0, .nameAndType 497 363), (0, u "charAt"), (3, u "checkIndex"), (73, .class_ 576), (0, u "java/lang/CharSequence"), (22, u "CASE_INSENSITIVE_ORDER"), (0, u "Ljava/util/Comparator;"), (452, .fieldref 1054 1055), (0, .class_ 1056), (0, .nameAndType 1057 1058), (0, u "jdk/internal/util/Preconditions"), (0, u "SIOOBE_FORMATTER"), (0, u "Ljava/util/function/BiFunction;"), (0, .methodref 1054 1060), (0, .nameAndType 501 1061), (0, u "(IILjava/util/function/BiFunction;)I"), (39, u "serialPersistentFields"), (0, u "[Ljava/io/ObjectStreamField;"), (0, .class_ 1104), (0, u "java/lang/String$CaseInsensitiveComparator"), (1, .class_ 1107), (0, u "java/io/Serializable"), (0, .class_ 1109), (0, u "java/lang/Comparable"), (0, .class_ 1111), (0, u "java/lang/constant/Constable"), (0, .class_ 1113), (0, u "java/lang/constant/ConstantDesc"), (2, u "serialVersionUID"), (0, u "J"), (3, u "REPL"), (0, u "C"), (2, u "LATIN1"), (1, u "UTF16")] 323

def k9m0 : Method := { name := "<init>", desc := "()V", sig := { parameters := [], returnType := none }, accessFlags := 1, code := none }
def k9c1 : Code := { maxStack := 2, maxLocals := 2, code := jdk_42_method_56_code, exceptionTable := #[], attributes := #[] }
def k9m1 : Method := { name := "charAt", desc := "(I)C", sig := { parameters := [.int], returnType := some .char }, accessFlags := 1, code := some k9c1 }
def k9c2 : Code := { maxStack := 1, maxLocals := 1, code := jdk_42_method_154_code, exceptionTable := #[], attributes := #[] }
def k9m2 : Method := { name := "isLatin1", desc := "()Z", sig := { parameters := [], returnType := some .boolean }, accessFlags := 0, code := some k9c2 }
def k9c3 : Code := { maxStack := 3, maxLocals := 2, code := jdk_42_method_155_code, exceptionTable := #[], attributes := #[] }
def k9m3 : Method := { name := "checkIndex", desc := "(II)V", sig := { parameters := [.int, .int], returnType := none }, accessFlags := 8, code := some k9c3 }
/-- java/lang/String -/
def k9 : Class := { plain "java/lang/String" (some 0) with
  accessFlags := 49
  interfaces := #[4, 3, 7, 2, 8]
  cf := some (fileOf pool9 10 #[.nestMembers #[1103]] #[{ accessFlags := 1, nameIndex := 5, descriptorIndex := 6, attributes := #[] }, { accessFlags := 1, nameIndex := 497, descriptorIndex := 427, attributes := #[] }, { accessFlags := 0, nameIndex := 494, descriptorIndex := 142, attributes := #[] }, { accessFlags := 8, nameIndex := 501, descriptorIndex := 391, attributes := #[] }] 49 2 #[1106, 1108, 575, 1110, 1112] #[{ accessFlags := 18, nameIndex := 13, descriptorIndex := 14, attributes := #[] }, { accessFlags := 18, nameIndex := 17, descriptorIndex := 18, attributes := #[] }, { accessFlags := 2, nameIndex := 21, descriptorIndex := 22, attributes := #[] }, { accessFlags := 2, nameIndex := 25, descriptorIndex := 26, attributes := #[] }, { accessFlags := 26, nameIndex := 1116, descriptorIndex := 1117, attributes := #[] }, { accessFlags := 24, nameIndex := 40, descriptorIndex := 26, attributes := #[] }, { accessFlags := 26, nameIndex := 1101, descriptorIndex := 1102, attributes := #[] }, { accessFlags := 26, nameIndex := 1121, descriptorIndex := 1122, attributes := #[] }, { accessFlags := 25, nameIndex := 599, descriptorIndex := 600, attributes := #[] }, { accessFlags := 24, nameIndex := 1125, descriptorIndex := 18, attributes := #[] }, { accessFlags := 24, nameIndex := 1127, descriptorIndex := 18, attributes := #[] }])
  fields := #[{ name := "value", type := (.array .byte), accessFlags := 18, slot := 0, constantValue := 0 }, { name := "coder", type := .byte, accessFlags := 18, slot := 1, constantValue := 0 }, { name := "hash", type := .int, accessFlags := 2, slot := 2, constantValue := 0 }, { name := "hashIsZero", type := .boolean, accessFlags := 2, slot := 3, constantValue := 0 }, { name := "serialVersionUID", type := .long, accessFlags := 26, slot := 0, constantValue := 0 }, { name := "COMPACT_STRINGS", type := .boolean, accessFlags := 24, slot := 1, constantValue := 0 }, { name := "serialPersistentFields", type := (.array (.object "java/io/ObjectStreamField")), accessFlags := 26, slot := 2, constantValue := 0 }, { name := "REPL", type := .char, accessFlags := 26, slot := 3, constantValue := 0 }, { name := "CASE_INSENSITIVE_ORDER", type := (.object "java/util/Comparator"), accessFlags := 25, slot := 4, constantValue := 0 }, { name := "LATIN1", type := .byte, accessFlags := 24, slot := 5, constantValue := 0 }, { name := "UTF16", type := .byte, accessFlags := 24, slot := 6, constantValue := 0 }]
  methods := #[k9m0, k9m1, k9m2, k9m3]
  instanceTypes := #[(.array .byte), .byte, .int, .boolean]
  staticTypes := #[.long, .boolean, (.array (.object "java/io/ObjectStreamField")), .char, (.object "java/util/Comparator"), .byte, .byte]
  resolved := Array.replicate 1451 none
  statics := some 1 }

def pool10 : Array CpInfo := pool [(1, .class_ 2), (0, u "java/lang/String"), (1, .class_ 6), (1, u "java/lang/Object"), (0, u "<init>"), (0, u "()V"), (0, .methodref 1 10), (0, .nameAndType 11 12), (0, u "checkIndex"), (0, u "(II)V"), (1, .class_ 16), (1, u "java/lang/StringLatin1"), (36, u "([BI)C"), (67, u "$assertionsDisabled"), (0, u "Z"), (98, .class_ 223), (1, u "java/lang/StringLatin1$LinesSpliterator"), (28, u "charAt"), (137, .class_ 391), (0, u "java/lang/StringLatin1$CharsSpliterator")] 3

def k10m0 : Method := { name := "<init>", desc := "()V", sig := { parameters := [], returnType := none }, accessFlags := 0, code := none }
def k10c1 : Code := { maxStack := 2, maxLocals := 2, code := jdk_43_method_2_code, exceptionTable := #[], attributes := #[] }
def k10m1 : Method := { name := "charAt", desc := "([BI)C", sig := { parameters := [(.array .byte), .int], returnType := some .char }, accessFlags := 9, code := some k10c1 }
/-- java/lang/StringLatin1 -/
def k10 : Class := { plain "java/lang/StringLatin1" (some 0) with
  accessFlags := 48
  interfaces := #[]
  cf := some (fileOf pool10 14 #[.nestMembers #[390, 221]] #[{ accessFlags := 0, nameIndex := 7, descriptorIndex := 8, attributes := #[] }, { accessFlags := 9, nameIndex := 252, descriptorIndex := 53, attributes := #[] }] 48 4 #[] #[{ accessFlags := 4120, nameIndex := 121, descriptorIndex := 122, attributes := #[] }])
  fields := #[{ name := "$assertionsDisabled", type := .boolean, accessFlags := 4120, slot := 0, constantValue := 0 }]
  methods := #[k10m0, k10m1]
  instanceTypes := #[]
  staticTypes := #[.boolean]
  resolved := Array.replicate 395 none
  statics := none }

def pool11 : Array CpInfo := pool [(2, .class_ 4), (1, u "java/lang/Object"), (0, u "<init>"), (0, u "()V"), (17, .class_ 26), (1, u "jdk/internal/util/Preconditions"), (6, u "checkIndex"), (21, .class_ 56), (0, u "jdk/internal/util/Preconditions$4"), (57, .class_ 115), (0, u "jdk/internal/util/Preconditions$1"), (7, u "SIOOBE_FORMATTER"), (0, u "Ljava/util/function/BiFunction;"), (0, .class_ 126), (0, u "jdk/internal/util/Preconditions$2"), (3, u "AIOOBE_FORMATTER"), (0, .class_ 132), (0, u "jdk/internal/util/Preconditions$3"), (3, u "IOOBE_FORMATTER"), (41, u "(IILjava/util/function/BiFunction;)I")] 15

def k11m0 : Method := { name := "<init>", desc := "()V", sig := { parameters := [], returnType := none }, accessFlags := 1, code := none }
def k11c1 : Code := { maxStack := 3, maxLocals := 3, code := jdk_41_method_11_code, exceptionTable := #[], attributes := #[] }
def k11m1 : Method := { name := "checkIndex", desc := "(IILjava/util/function/BiFunction;)I", sig := { parameters := [.int, .int, (.object "java/util/function/BiFunction")], returnType := some .int }, accessFlags := 9, code := some k11c1 }
/-- jdk/internal/util/Preconditions -/
def k11 : Class := { plain "jdk/internal/util/Preconditions" (some 0) with
  accessFlags := 33
  interfaces := #[]
  cf := some (fileOf pool11 24 #[.nestMembers #[55, 131, 125, 114]] #[{ accessFlags := 1, nameIndex := 5, descriptorIndex := 6, attributes := #[] }, { accessFlags := 9, nameIndex := 33, descriptorIndex := 178, attributes := #[] }] 33 2 #[] #[{ accessFlags := 25, nameIndex := 123, descriptorIndex := 124, attributes := #[] }, { accessFlags := 25, nameIndex := 130, descriptorIndex := 124, attributes := #[] }, { accessFlags := 25, nameIndex := 136, descriptorIndex := 124, attributes := #[] }])
  fields := #[{ name := "SIOOBE_FORMATTER", type := (.object "java/util/function/BiFunction"), accessFlags := 25, slot := 0, constantValue := 0 }, { name := "AIOOBE_FORMATTER", type := (.object "java/util/function/BiFunction"), accessFlags := 25, slot := 1, constantValue := 0 }, { name := "IOOBE_FORMATTER", type := (.object "java/util/function/BiFunction"), accessFlags := 25, slot := 2, constantValue := 0 }]
  methods := #[k11m0, k11m1]
  instanceTypes := #[]
  staticTypes := #[(.object "java/util/function/BiFunction"), (.object "java/util/function/BiFunction"), (.object "java/util/function/BiFunction")]
  resolved := Array.replicate 194 none
  statics := some 2 }

def pool12 : Array CpInfo := pool [(9, u "<init>"), (6, .class_ 18), (1, u "java/lang/Object"), (0, u "()V"), (1, .class_ 23), (1, u "jdk/internal/util/ArraysSupport"), (0, u "LOG2_ARRAY_LONG_INDEX_SCALE"), (0, u "I"), (2, u "U"), (0, u "Ljdk/internal/misc/Unsafe;"), (8, u "BIG_ENDIAN"), (0, u "Z"), (8, u "LOG2_BYTE_BIT_SIZE"), (4, u "LOG2_ARRAY_INT_INDEX_SCALE"), (54, u "JLA"), (0, u "Ljdk/internal/access/JavaLangAccess;"), (11, u "LOG2_ARRAY_BOOLEAN_INDEX_SCALE"), (9, u "LOG2_ARRAY_BYTE_INDEX_SCALE"), (5, u "LOG2_ARRAY_CHAR_INDEX_SCALE"), (5, u "LOG2_ARRAY_SHORT_INDEX_SCALE"), (18, u "LOG2_ARRAY_FLOAT_INDEX_SCALE"), (24, u "LOG2_ARRAY_DOUBLE_INDEX_SCALE"), (89, u "T_BOOLEAN"), (2, u "T_CHAR"), (1, u "T_FLOAT"), (1, u "T_DOUBLE"), (1, u "T_BYTE"), (1, u "T_SHORT"), (1, u "T_INT"), (1, u "T_LONG"), (1, u "SOFT_MAX_ARRAY_LENGTH")] 83

def k12m0 : Method := { name := "<init>", desc := "()V", sig := { parameters := [], returnType := none }, accessFlags := 2, code := none }
/-- jdk/internal/util/ArraysSupport -/
def k12 : Class := { plain "jdk/internal/util/ArraysSupport" (some 0) with
  accessFlags := 33
  interfaces := #[]
  cf := some (fileOf pool12 21 #[] #[{ accessFlags := 2, nameIndex := 9, descriptorIndex := 19, attributes := #[] }] 33 16 #[] #[{ accessFlags := 24, nameIndex := 28, descriptorIndex := 29, attributes := #[] }, { accessFlags := 26, nameIndex := 38, descriptorIndex := 39, attributes := #[] }, { accessFlags := 25, nameIndex := 121, descriptorIndex := 25, attributes := #[] }, { accessFlags := 25, nameIndex := 131, descriptorIndex := 25, attributes := #[] }, { accessFlags := 25, nameIndex := 137, descriptorIndex := 25, attributes := #[] }, { accessFlags := 25, nameIndex := 143, descriptorIndex := 25, attributes := #[] }, { accessFlags := 25, nameIndex := 53, descriptorIndex := 25, attributes := #[] }, { accessFlags := 25, nameIndex := 24, descriptorIndex := 25, attributes := #[] }, { accessFlags := 25, nameIndex := 162, descriptorIndex := 25, attributes := #[] }, { accessFlags := 25, nameIndex := 187, descriptorIndex := 25, attributes := #[] }, { accessFlags := 26, nameIndex := 48, descriptorIndex := 25, attributes := #[] }, { accessFlags := 25, nameIndex := 277, descriptorIndex := 25, attributes := #[] }, { accessFlags := 25, nameIndex := 280, descriptorIndex := 25, attributes := #[] }, { accessFlags := 25, nameIndex := 282, descriptorIndex := 25, attributes := #[] }, { accessFlags := 25, nameIndex := 284, descriptorIndex := 25, attributes := #[] }, { accessFlags := 25, nameIndex := 286, descriptorIndex := 25, attributes := #[] }, { accessFlags := 25, nameIndex := 288, descriptorIndex := 25, attributes := #[] }, { accessFlags := 25, nameIndex := 290, descriptorIndex := 25, attributes := #[] }, { accessFlags := 25, nameIndex := 292, descriptorIndex := 25, attributes := #[] }, { accessFlags := 26, nameIndex := 108, descriptorIndex := 109, attributes := #[] }, { accessFlags := 25, nameIndex := 294, descriptorIndex := 25, attributes := #[] }])
  fields := #[{ name := "U", type := (.object "jdk/internal/misc/Unsafe"), accessFlags := 24, slot := 0, constantValue := 0 }, { name := "BIG_ENDIAN", type := .boolean, accessFlags := 26, slot := 1, constantValue := 0 }, { name := "LOG2_ARRAY_BOOLEAN_INDEX_SCALE", type := .int, accessFlags := 25, slot := 2, constantValue := 0 }, { name := "LOG2_ARRAY_BYTE_INDEX_SCALE", type := .int, accessFlags := 25, slot := 3, constantValue := 0 }, { name := "LOG2_ARRAY_CHAR_INDEX_SCALE", type := .int, accessFlags := 25, slot := 4, constantValue := 0 }, { name := "LOG2_ARRAY_SHORT_INDEX_SCALE", type := .int, accessFlags := 25, slot := 5, constantValue := 0 }, { name := "LOG2_ARRAY_INT_INDEX_SCALE", type := .int, accessFlags := 25, slot := 6, constantValue := 0 }, { name := "LOG2_ARRAY_LONG_INDEX_SCALE", type := .int, accessFlags := 25, slot := 7, constantValue := 0 }, { name := "LOG2_ARRAY_FLOAT_INDEX_SCALE", type := .int, accessFlags := 25, slot := 8, constantValue := 0 }, { name := "LOG2_ARRAY_DOUBLE_INDEX_SCALE", type := .int, accessFlags := 25, slot := 9, constantValue := 0 }, { name := "LOG2_BYTE_BIT_SIZE", type := .int, accessFlags := 26, slot := 10, constantValue := 0 }, { name := "T_BOOLEAN", type := .int, accessFlags := 25, slot := 11, constantValue := 0 }, { name := "T_CHAR", type := .int, accessFlags := 25, slot := 12, constantValue := 0 }, { name := "T_FLOAT", type := .int, accessFlags := 25, slot := 13, constantValue := 0 }, { name := "T_DOUBLE", type := .int, accessFlags := 25, slot := 14, constantValue := 0 }, { name := "T_BYTE", type := .int, accessFlags := 25, slot := 15, constantValue := 0 }, { name := "T_SHORT", type := .int, accessFlags := 25, slot := 16, constantValue := 0 }, { name := "T_INT", type := .int, accessFlags := 25, slot := 17, constantValue := 0 }, { name := "T_LONG", type := .int, accessFlags := 25, slot := 18, constantValue := 0 }, { name := "JLA", type := (.object "jdk/internal/access/JavaLangAccess"), accessFlags := 26, slot := 19, constantValue := 0 }, { name := "SOFT_MAX_ARRAY_LENGTH", type := .int, accessFlags := 25, slot := 20, constantValue := 0 }]
  methods := #[k12m0]
  instanceTypes := #[]
  staticTypes := #[(.object "jdk/internal/misc/Unsafe"), .boolean, .int, .int, .int, .int, .int, .int, .int, .int, .int, .int, .int, .int, .int, .int, .int, .int, .int, (.object "jdk/internal/access/JavaLangAccess"), .int]
  resolved := Array.replicate 378 none
  statics := none }

def pool13 : Array CpInfo := pool [(1, u "java/lang/Cloneable"), (0, .class_ 1), (0, u "java/lang/Object"), (0, .class_ 3)] 3

/-- java/lang/Cloneable -/
def k13 : Class := { plain "java/lang/Cloneable" (some 0) with
  accessFlags := 1537
  interfaces := #[]
  cf := some (fileOf pool13 2 #[] #[] 1537 4 #[] #[])
  fields := #[]
  methods := #[]
  instanceTypes := #[]
  staticTypes := #[]
  resolved := Array.replicate 8 none
  statics := none }

/-- the primitive byte -/
def k14 : Class := { plain "byte" none with kind := .primitive 'B', accessFlags := 0x411 }
/-- [B -/
def k15 : Class := { plain "[B" (some 0) with kind := .array 14 .byte, interfaces := #[13, 4], accessFlags := 1041 }

/-- the primitive int -/
def k16 : Class := { plain "int" none with kind := .primitive 'I', accessFlags := 0x411 }
/-- [I -/
def k17 : Class := { plain "[I" (some 0) with kind := .array 16 .int, interfaces := #[13, 4], accessFlags := 1041 }

def heap : Heap := #[{ cls := 6, slots := #[.ref 5, .ref 8, .ref 11, .ref 14, .ref 17, .ref 20, .null], vm := .statics 6 },
  { cls := 9, slots := #[.long 0, .int 1, .null, .int 0, .null, .int 0, .int 0], vm := .statics 9 },
  { cls := 11, slots := #[.null, .null, .null], vm := .statics 11 },
  { cls := 15, slots := #[.int 61, .int 61], vm := .none },
  { cls := 9, slots := #[.ref 3, .int 0, .int 0, .int 0], vm := .none },
  { cls := 6, slots := #[.null, .int 0, .int 0, .ref 4], vm := .none },
  { cls := 15, slots := #[.int 33, .int 61], vm := .none },
  { cls := 9, slots := #[.ref 6, .int 0, .int 0, .int 0], vm := .none },
  { cls := 6, slots := #[.null, .int 1, .int 0, .ref 7], vm := .none },
  { cls := 15, slots := #[.int 60], vm := .none },
  { cls := 9, slots := #[.ref 9, .int 0, .int 0, .int 0], vm := .none },
  { cls := 6, slots := #[.null, .int 2, .int 0, .ref 10], vm := .none },
  { cls := 15, slots := #[.int 60, .int 61], vm := .none },
  { cls := 9, slots := #[.ref 12, .int 0, .int 0, .int 0], vm := .none },
  { cls := 6, slots := #[.null, .int 3, .int 0, .ref 13], vm := .none },
  { cls := 15, slots := #[.int 62], vm := .none },
  { cls := 9, slots := #[.ref 15, .int 0, .int 0, .int 0], vm := .none },
  { cls := 6, slots := #[.null, .int 4, .int 0, .ref 16], vm := .none },
  { cls := 15, slots := #[.int 62, .int 61], vm := .none },
  { cls := 9, slots := #[.ref 18, .int 0, .int 0, .int 0], vm := .none },
  { cls := 6, slots := #[.null, .int 5, .int 0, .ref 19], vm := .none }]
def classes : Array Class := #[k0, k1, k2, k3, k4, k5, k6, k7, k8, k9, k10, k11, k12, k13, k14, k15, k16, k17]
def interned : List (Array UInt16 × Addr) := []
def slotsUsed : Nat := 75
def theMethod : MethodId := ⟨1, 2⟩
def args0 : Array Value := #[.int 3, .long 4, .long 5]
def aboutOver (below : List Frame) : State where
  vm := { classes := classes, interned := interned.toArray }
  heap := heap
  slotsUsed := slotsUsed
  threads := #[{ frames := .invoking theMethod args0 :: below }]
def below0 : List Frame := [.native { method := ⟨0, 0⟩, args := #[] }]
def about1 : State := aboutOver below0
def p0 : Program := .bare "" "" ""
def e0 : Env := launch0.env 0 0 0
theorem w_frames : about1.frames = Frame.invoking theMethod args0 :: below0 := rfl
set_option maxRecDepth 65536 in
theorem w_args : argsFit about1.vm theMethod args0 = true := by decide +kernel
set_option maxRecDepth 65536 in
theorem w_heap : heapFits about1 = true := by decide +kernel
set_option maxRecDepth 65536 in
theorem w_runnable : about1.curStatus? = some .runnable := by decide +kernel
set_option maxRecDepth 65536 in
theorem w_alone : about1.alone = true := by decide +kernel
set_option maxRecDepth 65536 in
theorem w_named : about1.methodNamed? x = some theMethod := by decide +kernel
set_option maxRecDepth 65536 in
theorem w_hears : about1.hears theMethod below0 = true := by decide +kernel
set_option maxRecDepth 65536 in
theorem w_ripe : about1.ripe theMethod args0 below0 = true := by decide +kernel
theorem w_running : about1.status = .running := rfl
set_option maxRecDepth 65536 in
theorem w_room : about1.hasRoom e0.platform room_1 = true :=
  launch0.hasRoom_least _ room_1 (by decide +kernel) (by decide +kernel) (by decide +kernel) (by decide +kernel) (by decide +kernel) (by decide +kernel)
theorem allAtoms_all (ts : List Jvm.Cond) (a : Array Jvm.Value) (st : Jvm.State) : (allAtoms ts).before a st = ts.all (fun c => c.before a st) := by
  induction ts with
  | nil => rfl
  | cons c t ih =>
    show (Jvm.Cond.and c (allAtoms t)).before a st = _
    rw [Jvm.Cond.before_and, ih, List.all_cons]
def words1 : List Jvm.Cond := Jvm.Cond.code x code maxLocals ret :: tables_1
/-- a 'code' word, met by the world's own term for the bytes: nothing is compared byte by byte -/
theorem code_word {y : MethodName} {bytes : ByteArray} {mx : Nat} {rt : Option FieldType} {a : Array Value} {s : State} {m : MethodId} {meth : Method} {c : Code} (h1 : s.methodNamed? y = some m) (h2 : s.vm.method? m = some meth) (h3 : meth.code = some c) (h4 : c.code = bytes)
    (h5 : (c.maxLocals == mx && c.exceptionTable.isEmpty && decide (c.maxStack ≤ mostOperands) && decide (meth.sig.returnType = rt) && !meth.locks && decide (parseMethodDescriptor y.desc = some meth.sig)) = true) : (Jvm.Cond.code y bytes mx rt).before a s = true := by
  simp only [Bool.and_eq_true, beq_iff_eq, Bool.not_eq_true', decide_eq_true_eq] at h5
  obtain ⟨⟨⟨⟨⟨g1, g2⟩, g3⟩, g4⟩, g5⟩, g6⟩ := h5
  simp [Cond.before, Cond.holds, Cond.value, h1, h2, h3, h4, g1, g2, g3, g4, g5, g6]
def isCode : Jvm.Cond → Bool
  | .code _ _ _ _ => true
  | _ => false
theorem all_split {L : List Jvm.Cond} {P : Jvm.Cond → Bool} (h1 : L.all (fun c => isCode c || P c) = true) (h2 : ∀ c ∈ L.filter isCode, P c = true) : L.all P = true := by
  refine List.all_eq_true.mpr fun c hc => ?_
  have h := List.all_eq_true.mp h1 c hc
  rcases Bool.eq_false_or_eq_true (isCode c) with hi | hi
  · exact h2 c (List.mem_filter.mpr ⟨hc, hi⟩)
  · simpa [hi] using h
set_option maxRecDepth 65536 in
theorem w_c0 : (Jvm.Cond.code x code maxLocals ret).before args0 about1 = true := code_word (m := ⟨1, 2⟩) (meth := k1m2) (c := k1c2) (by decide +kernel) rfl rfl rfl (by decide +kernel)
set_option maxRecDepth 65536 in
theorem w_c1 : (Jvm.Cond.code ({ cls := "com/example/trajectory/trajectory/model/OperatorOrdersPinLaw", name := "pick", desc := "(I)Lcom/example/trajectory/trajectory/model/Condition$Operator;" } : Jvm.MethodName) method_2_code (2 : Nat) (Option.some (Jvm.ClassFile.FieldType.object "com/example/trajectory/trajectory/model/Condition$Operator"))).before args0 about1 = true := code_word (m := ⟨1, 1⟩) (meth := k1m1) (c := k1c1) (by decide +kernel) rfl rfl rfl (by decide +kernel)
set_option maxRecDepth 65536 in
theorem w_c2 : (Jvm.Cond.code ({ cls := "com/example/trajectory/trajectory/model/Condition$Operator", name := "orders", desc := "()Z" } : Jvm.MethodName) prog_14_method_5_code (1 : Nat) (Option.some Jvm.ClassFile.FieldType.boolean)).before args0 about1 = true := code_word (m := ⟨6, 1⟩) (meth := k6m1) (c := k6c1) (by decide +kernel) rfl rfl rfl (by decide +kernel)
set_option maxRecDepth 65536 in
theorem w_c3 : (Jvm.Cond.code ({ cls := "com/example/trajectory/trajectory/model/Condition$Operator", name := "symbol", desc := "()Ljava/lang/String;" } : Jvm.MethodName) prog_14_method_4_code (1 : Nat) (Option.some (Jvm.ClassFile.FieldType.object "java/lang/String"))).before args0 about1 = true := code_word (m := ⟨6, 0⟩) (meth := k6m0) (c := k6c0) (by decide +kernel) rfl rfl rfl (by decide +kernel)
set_option maxRecDepth 65536 in
theorem w_c4 : (Jvm.Cond.code ({ cls := "java/lang/String", name := "charAt", desc := "(I)C" } : Jvm.MethodName) jdk_42_method_56_code (2 : Nat) (Option.some Jvm.ClassFile.FieldType.char)).before args0 about1 = true := code_word (m := ⟨9, 1⟩) (meth := k9m1) (c := k9c1) (by decide +kernel) rfl rfl rfl (by decide +kernel)
set_option maxRecDepth 65536 in
theorem w_c5 : (Jvm.Cond.code ({ cls := "java/lang/String", name := "isLatin1", desc := "()Z" } : Jvm.MethodName) jdk_42_method_154_code (1 : Nat) (Option.some Jvm.ClassFile.FieldType.boolean)).before args0 about1 = true := code_word (m := ⟨9, 2⟩) (meth := k9m2) (c := k9c2) (by decide +kernel) rfl rfl rfl (by decide +kernel)
set_option maxRecDepth 65536 in
theorem w_c6 : (Jvm.Cond.code ({ cls := "java/lang/StringLatin1", name := "charAt", desc := "([BI)C" } : Jvm.MethodName) jdk_43_method_2_code (2 : Nat) (Option.some Jvm.ClassFile.FieldType.char)).before args0 about1 = true := code_word (m := ⟨10, 1⟩) (meth := k10m1) (c := k10c1) (by decide +kernel) rfl rfl rfl (by decide +kernel)
set_option maxRecDepth 65536 in
theorem w_c7 : (Jvm.Cond.code ({ cls := "java/lang/String", name := "checkIndex", desc := "(II)V" } : Jvm.MethodName) jdk_42_method_155_code (2 : Nat) (Option.none : Option Jvm.ClassFile.FieldType)).before args0 about1 = true := code_word (m := ⟨9, 3⟩) (meth := k9m3) (c := k9c3) (by decide +kernel) rfl rfl rfl (by decide +kernel)
set_option maxRecDepth 65536 in
theorem w_c8 : (Jvm.Cond.code ({ cls := "jdk/internal/util/Preconditions", name := "checkIndex", desc := "(IILjava/util/function/BiFunction;)I" } : Jvm.MethodName) jdk_41_method_11_code (3 : Nat) (Option.some Jvm.ClassFile.FieldType.int)).before args0 about1 = true := code_word (m := ⟨11, 1⟩) (meth := k11m1) (c := k11c1) (by decide +kernel) rfl rfl rfl (by decide +kernel)
set_option maxRecDepth 65536 in
theorem w_c9 : (Jvm.Cond.code ({ cls := "com/example/trajectory/trajectory/model/Condition$Operator", name := "holds", desc := "(JJ)Z" } : Jvm.MethodName) prog_14_method_6_code (5 : Nat) (Option.some Jvm.ClassFile.FieldType.boolean)).before args0 about1 = true := code_word (m := ⟨6, 2⟩) (meth := k6m2) (c := k6c2) (by decide +kernel) rfl rfl rfl (by decide +kernel)
set_option maxRecDepth 65536 in
theorem w_c10 : (Jvm.Cond.code ({ cls := "java/lang/Enum", name := "ordinal", desc := "()I" } : Jvm.MethodName) jdk_37_method_2_code (1 : Nat) (Option.some Jvm.ClassFile.FieldType.int)).before args0 about1 = true := code_word (m := ⟨5, 0⟩) (meth := k5m0) (c := k5c0) (by decide +kernel) rfl rfl rfl (by decide +kernel)
def codes1 : List Jvm.Cond := [Jvm.Cond.code x code maxLocals ret, Jvm.Cond.code ({ cls := "com/example/trajectory/trajectory/model/OperatorOrdersPinLaw", name := "pick", desc := "(I)Lcom/example/trajectory/trajectory/model/Condition$Operator;" } : Jvm.MethodName) method_2_code (2 : Nat) (Option.some (Jvm.ClassFile.FieldType.object "com/example/trajectory/trajectory/model/Condition$Operator")), Jvm.Cond.code ({ cls := "com/example/trajectory/trajectory/model/Condition$Operator", name := "orders", desc := "()Z" } : Jvm.MethodName) prog_14_method_5_code (1 : Nat) (Option.some Jvm.ClassFile.FieldType.boolean), Jvm.Cond.code ({ cls := "com/example/trajectory/trajectory/model/Condition$Operator", name := "symbol", desc := "()Ljava/lang/String;" } : Jvm.MethodName) prog_14_method_4_code (1 : Nat) (Option.some (Jvm.ClassFile.FieldType.object "java/lang/String")), Jvm.Cond.code ({ cls := "java/lang/String", name := "charAt", desc := "(I)C" } : Jvm.MethodName) jdk_42_method_56_code (2 : Nat) (Option.some Jvm.ClassFile.FieldType.char), Jvm.Cond.code ({ cls := "java/lang/String", name := "isLatin1", desc := "()Z" } : Jvm.MethodName) jdk_42_method_154_code (1 : Nat) (Option.some Jvm.ClassFile.FieldType.boolean), Jvm.Cond.code ({ cls := "java/lang/StringLatin1", name := "charAt", desc := "([BI)C" } : Jvm.MethodName) jdk_43_method_2_code (2 : Nat) (Option.some Jvm.ClassFile.FieldType.char), Jvm.Cond.code ({ cls := "java/lang/String", name := "checkIndex", desc := "(II)V" } : Jvm.MethodName) jdk_42_method_155_code (2 : Nat) (Option.none : Option Jvm.ClassFile.FieldType), Jvm.Cond.code ({ cls := "jdk/internal/util/Preconditions", name := "checkIndex", desc := "(IILjava/util/function/BiFunction;)I" } : Jvm.MethodName) jdk_41_method_11_code (3 : Nat) (Option.some Jvm.ClassFile.FieldType.int), Jvm.Cond.code ({ cls := "com/example/trajectory/trajectory/model/Condition$Operator", name := "holds", desc := "(JJ)Z" } : Jvm.MethodName) prog_14_method_6_code (5 : Nat) (Option.some Jvm.ClassFile.FieldType.boolean), Jvm.Cond.code ({ cls := "java/lang/Enum", name := "ordinal", desc := "()I" } : Jvm.MethodName) jdk_37_method_2_code (1 : Nat) (Option.some Jvm.ClassFile.FieldType.int)]
set_option maxRecDepth 65536 in
theorem codes_eq : words1.filter isCode = codes1 := rfl
theorem w_codes : ∀ c ∈ words1.filter isCode, c.before args0 about1 = true := by
  rw [codes_eq]
  intro c hc
  simp only [codes1, List.mem_cons, List.not_mem_nil, or_false] at hc
  rcases hc with rfl | rfl | rfl | rfl | rfl | rfl | rfl | rfl | rfl | rfl | rfl
  · exact w_c0
  · exact w_c1
  · exact w_c2
  · exact w_c3
  · exact w_c4
  · exact w_c5
  · exact w_c6
  · exact w_c7
  · exact w_c8
  · exact w_c9
  · exact w_c10
set_option maxRecDepth 65536 in
theorem w_t1 : (words1.take 24).all (fun c => isCode c || c.before args0 about1) = true := by decide +kernel
set_option maxRecDepth 65536 in
theorem w_t2 : ((words1.drop 24).take 24).all (fun c => isCode c || c.before args0 about1) = true := by decide +kernel
set_option maxRecDepth 65536 in
theorem w_t3 : (((words1.drop 24).drop 24).take 24).all (fun c => isCode c || c.before args0 about1) = true := by decide +kernel
set_option maxRecDepth 65536 in
theorem w_t4 : (((words1.drop 24).drop 24).drop 24).all (fun c => isCode c || c.before args0 about1) = true := by decide +kernel
theorem w_tables : (allAtoms (Jvm.Cond.code x code maxLocals ret :: tables_1)).before args0 about1 = true := by
  rw [allAtoms_all]
  show words1.all (fun c => c.before args0 about1) = true
  refine all_split ?_ w_codes
  rw [← List.take_append_drop 24 words1, List.all_append, w_t1, ← List.take_append_drop 24 (words1.drop 24), List.all_append, w_t2, ← List.take_append_drop 24 ((words1.drop 24).drop 24), List.all_append, w_t3, w_t4]
  rfl
set_option maxRecDepth 65536 in
theorem w_rest : rest_1_c.before args0 about1 = true := by decide +kernel
set_option maxRecDepth 65536 in
theorem w_case : (Jvm.Cond.and given_1 narrow_1).before args0 about1 = true := by decide +kernel
theorem w_applies : (headSpec (Jvm.Cond.code x code maxLocals ret :: tables_1) room_1).applies x e0.platform about1 = true :=
  (Spec.applies_iff w_frames).mpr ⟨w_running, w_runnable, w_alone, w_named, w_hears, w_ripe, w_room, w_tables⟩
theorem atStart : AtStart classFile x code maxLocals ret World_1 tables_1 room_1 Calls_1 rest_1 Pre_1 launch0 p0 e0 about1 theMethod args0 below0 :=
  ⟨lists_1, trivial, launch0.admits_env _ _ _, launch0.least_env, fairChoices_fair.cas, fairChoices_fair.clock, w_frames, w_args, w_heap, w_applies, trivial, w_rest, w_case⟩
end start1
theorem witness_1 : WitnessClaimed_1 := ⟨start1.p0, start1.e0, start1.about1, start1.theMethod, start1.args0, start1.below0, start1.atStart⟩
end Jvm.Pilot.@@N@@
