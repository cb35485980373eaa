import JvmDerived
import JvmDerived.Pilot.@@N@@Statement
import JvmDerived.Pilot.@@N@@Code
set_option linter.unusedVariables false
set_option linter.unusedSimpArgs false
namespace Jvm.Pilot.@@N@@
open Jvm Jvm.ClassFile Sem Op Lib Jvm.Free Jvm.Stand Jvm.LawKit Jvm.RoadKit Bundle Jvm.Pilot.@@N@@.Jvm.D
section OwnGo
variable {p : Program} {l : Launch} {e : Env} {R : Room} {s : State} {m : MethodId} {args : Array Value} {below : List Frame} {meth : Method} {c : Code} {T : State} {locs : List Loc} {cells slots : Nat}
/-- from S the run ends, returned, with Q -/
def own_Go (p : Program) (e : Env) (below : List Frame) (s : State) (Q : Option Value → Heap → List Loc → Prop) (cs ss : Nat) (S : State) : Prop :=
  ∃ (U : State) (o : Outcome), Steps p.tables e below S U ∧ U.status = .running ∧ Ended U below o ∧ ∃ v L, o = .returned v ∧ Q v U.heap L ∧ FrameEnd s o U L cs ss
variable {Q : Option Value → Heap → List Loc → Prop} {cs ss : Nat} {S S' : State}
theorem own_via (st : ∀ t, Steps p.tables e below S' t → Steps p.tables e below S t) (k : own_Go p e below s Q cs ss S') : own_Go p e below s Q cs ss S := by
  obtain ⟨U, o, h, r⟩ := k; exact ⟨U, o, st U h, r⟩
theorem own_viaT (st : Steps p.tables e below S S') (k : own_Go p e below s Q cs ss S') : own_Go p e below s Q cs ss S := own_via (fun _ h => st.trans h) k
theorem own_goV (X : Stand p l e R s m args below meth c T locs cells slots) (hx : p.tables.exec = Jvm.exec) {pc : Nat} {Ls : Array Slot} (hret : meth.sig.returnType = none) (hd : decode c.code pc = .ok (.return_, 1)) (hk : meth.locks = false) (hc : cells ≤ cs) (hs : slots ≤ ss) (hQ : Q none T.heap locs) :
    own_Go p e below s Q cs ss (T.setTop (mkF m pc Ls [])) := by
  obtain ⟨fs, hr, hrun, hended, hW, hsame⟩ := X.leave (v := none) (fun _ => rfl) hk
  exact ⟨_, _, X.returnOut hx hret hd hr, hrun, hended, _, _, rfl, hQ, ⟨_, rfl⟩, hW, hsame.mono hc hs⟩
theorem own_goN (X : Stand p l e R s m args below meth c T locs cells slots) (hx : p.tables.exec = Jvm.exec) {pc : Nat} {Ls : Array Slot} {z : Int32} {t : FieldType} {rest : List Value} (hret : meth.sig.returnType = some t) (ht : t = .boolean ∨ t = .byte ∨ t = .char ∨ t = .short) (hd : decode c.code pc = .ok (.ireturn, 1)) (hk : meth.locks = false) (hc : cells ≤ cs) (hs : slots ≤ ss) (hQ : Q (some (.int (nar t z))) T.heap locs) :
    own_Go p e below s Q cs ss (T.setTop (mkF m pc Ls (.int z :: rest))) := by
  obtain ⟨fs, hr, hrun, hended, hW, hsame⟩ := X.leave (v := some (.int (nar t z))) (fun h => by rw [hret] at h; cases h) hk
  exact ⟨_, _, retN X hx hret ht hd hr, hrun, hended, _, _, rfl, hQ, ⟨_, rfl⟩, hW, hsame.mono hc hs⟩
theorem own_goI (X : Stand p l e R s m args below meth c T locs cells slots) (hx : p.tables.exec = Jvm.exec) {pc : Nat} {Ls : Array Slot} {z : Int32} (hret : meth.sig.returnType = some .int) (hd : decode c.code pc = .ok (.ireturn, 1)) (hk : meth.locks = false) (hc : cells ≤ cs) (hs : slots ≤ ss) (hQ : Q (some (.int z)) T.heap locs) :
    own_Go p e below s Q cs ss (T.setTop (mkF m pc Ls [.int z])) := by
  obtain ⟨fs, hr, hrun, hended, hW, hsame⟩ := X.leave (v := some (.int z)) (fun h => by rw [hret] at h; cases h) hk
  exact ⟨_, _, X.ireturnOut hx hret rfl (Or.inl rfl) hd hr, hrun, hended, _, _, rfl, hQ, ⟨_, rfl⟩, hW, hsame.mono hc hs⟩
theorem own_goJ (X : Stand p l e R s m args below meth c T locs cells slots) (hx : p.tables.exec = Jvm.exec) {pc : Nat} {Ls : Array Slot} {z : Int64} (hret : meth.sig.returnType = some .long) (hd : decode c.code pc = .ok (.lreturn, 1)) (hk : meth.locks = false) (hc : cells ≤ cs) (hs : slots ≤ ss) (hQ : Q (some (.long z)) T.heap locs) :
    own_Go p e below s Q cs ss (T.setTop (mkF m pc Ls [.long z])) := by
  obtain ⟨fs, hr, hrun, hended, hW, hsame⟩ := X.leave (v := some (.long z)) (fun h => by rw [hret] at h; cases h) hk
  exact ⟨_, _, X.lreturnOut hx hret hd hr, hrun, hended, _, _, rfl, hQ, ⟨_, rfl⟩, hW, hsame.mono hc hs⟩
theorem own_goA (X : Stand p l e R s m args below meth c T locs cells slots) (hx : p.tables.exec = Jvm.exec) {pc : Nat} {Ls : Array Slot} {w : Value} {t : FieldType} (hw : w.isRef = true) (hret : meth.sig.returnType = some t) (ht : t.isReference = true) (hd : decode c.code pc = .ok (.areturn, 1)) (hk : meth.locks = false) (hc : cells ≤ cs) (hs : slots ≤ ss) (hQ : Q (some w) T.heap locs) :
    own_Go p e below s Q cs ss (T.setTop (mkF m pc Ls [w])) := by
  obtain ⟨fs, hr, hrun, hended, hW, hsame⟩ := X.leave (v := some w) (fun h => by rw [hret] at h; cases h) hk
  exact ⟨_, _, X.areturnOut hx hw hret ht hd hr, hrun, hended, _, _, rfl, hQ, ⟨_, rfl⟩, hW, hsame.mono hc hs⟩
theorem own_selP {s : State} {args : Array Value} {y y' : MethodName} (hs : (Cond.selects y'.cls y' y').before args s = true) (hc : y'.cls = y.cls) (hpriv : s.PrivateAt y) (hinst : (Cond.instanceMethod y).before args s = true) (hy : y.cls ≠ "java/lang/invoke/MethodHandle" ∧ y.cls ≠ "java/lang/invoke/VarHandle") : (Cond.selects y.cls y y).before args s = true := by
  obtain ⟨c2, r2, m2, -, -, q3, -, kP, hkP, hkPi⟩ := Cond.selects_spec hs
  exact selects_self_of_private (hc ▸ findClass_of_methodNamed q3) hkP hkPi hpriv hinst hy
end OwnGo
def o_i2l (x : Int32) : Int64 := x.toInt64
def o_l2i (x : Int64) : Int32 := x.toInt32
def o_i2b (x : Int32) : Int32 := x.toInt8.toInt32
def o_i2s (x : Int32) : Int32 := x.toInt16.toInt32
def o_i2c (x : Int32) : Int32 := x.toUInt32.toUInt16.toUInt32.toInt32
def o_ishl (x y : Int32) : Int32 := x <<< (y &&& 31)
def o_ishr (x y : Int32) : Int32 := x >>> (y &&& 31)
def o_iushr (x y : Int32) : Int32 := (x.toUInt32 >>> (y &&& 31).toUInt32).toInt32
def o_lshl (x : Int64) (y : Int32) : Int64 := x <<< (y &&& 0x3f).toInt64
def o_lshr (x : Int64) (y : Int32) : Int64 := x >>> (y &&& 0x3f).toInt64
def o_lushr (x : Int64) (y : Int32) : Int64 := (x.toUInt64 >>> (y &&& 0x3f).toInt64.toUInt64).toInt64
def o_irem (x y : Int32) : Int32 := x - (x / y) * y
def o_lrem (x y : Int64) : Int64 := x - (x / y) * y
def o_d0 : UInt64 := FP.dconst0
def o_d1 : UInt64 := FP.dconst1

theorem own_or32 (n : Nat) : n ||| 32 = n + 32 - 32 * (n / 32 % 2) := by
  have h1 : (n ||| 32) / 2 ^ 6 = n / 2 ^ 6 := by rw [Nat.or_div_two_pow]; simp
  have h2 : (n ||| 32) % 2 ^ 6 = (n % 2 ^ 6) ||| 32 := by rw [Nat.or_mod_two_pow]
  have h3 : ∀ r : Fin 64, r.val ||| 32 = r.val + 32 - 32 * (r.val / 32 % 2) := by decide +kernel
  have h4 := h3 ⟨n % 64, Nat.mod_lt _ (by decide)⟩
  have h5 := Nat.div_add_mod (n ||| 32) 64
  have h6 := Nat.div_add_mod n 64
  simp only [show (2 : Nat) ^ 6 = 64 from rfl] at h1 h2
  simp only at h4
  omega
theorem own_nat (c : Int32) (h : 0 ≤ c.toInt) : (c.toBitVec.toNat : Int) = c.toInt := by
  have := BitVec.toInt_eq_toNat_cond c.toBitVec
  have h2 : c.toBitVec.toInt = c.toInt := rfl
  have := c.toBitVec.isLt
  split at * <;> omega
theorem own_or32i (c : Int32) (h0 : 0 ≤ c.toInt) (h1 : c.toInt < 65536) : (c ||| 32).toInt = c.toInt + 32 - 32 * (c.toInt / 32 % 2) := by
  have e1 : (c ||| 32).toBitVec.toNat = c.toBitVec.toNat ||| 32 := by rw [Int32.toBitVec_or, BitVec.toNat_or]; rfl
  have e2 := own_nat c h0
  have e3 := own_or32 c.toBitVec.toNat
  have e4 := BitVec.toInt_eq_toNat_cond (c ||| 32).toBitVec
  have e5 : (c ||| 32).toBitVec.toInt = (c ||| 32).toInt := rfl
  have e6 : c.toBitVec.toNat < 65536 := by omega
  rw [e3] at e1
  split at e4 <;> omega
theorem d1_0 : decode prog_37_method_2_code 0 = .ok (.iload_n 0, 1) := by decide +kernel
theorem d1_1 : decode prog_37_method_2_code 1 = .ok (.bipush 95, 2) := by decide +kernel
theorem d1_3 : decode prog_37_method_2_code 3 = .ok (.if_icmp .eq 27, 3) := by decide +kernel
theorem d1_30 : decode prog_37_method_2_code 30 = .ok (.iconst 1, 1) := by decide +kernel
theorem d1_31 : decode prog_37_method_2_code 31 = .ok (.goto 4, 3) := by decide +kernel
theorem d1_35 : decode prog_37_method_2_code 35 = .ok (.ireturn, 1) := by decide +kernel
theorem d1_6 : decode prog_37_method_2_code 6 = .ok (.iload_n 0, 1) := by decide +kernel
theorem d1_7 : decode prog_37_method_2_code 7 = .ok (.bipush 97, 2) := by decide +kernel
theorem d1_9 : decode prog_37_method_2_code 9 = .ok (.if_icmp .lt 9, 3) := by decide +kernel
theorem d1_18 : decode prog_37_method_2_code 18 = .ok (.iload_n 0, 1) := by decide +kernel
theorem d1_19 : decode prog_37_method_2_code 19 = .ok (.bipush 65, 2) := by decide +kernel
theorem d1_21 : decode prog_37_method_2_code 21 = .ok (.if_icmp .lt 13, 3) := by decide +kernel
theorem d1_34 : decode prog_37_method_2_code 34 = .ok (.iconst 0, 1) := by decide +kernel
theorem d1_24 : decode prog_37_method_2_code 24 = .ok (.iload_n 0, 1) := by decide +kernel
theorem d1_25 : decode prog_37_method_2_code 25 = .ok (.bipush 90, 2) := by decide +kernel
theorem d1_27 : decode prog_37_method_2_code 27 = .ok (.if_icmp .gt 7, 3) := by decide +kernel
theorem d1_12 : decode prog_37_method_2_code 12 = .ok (.iload_n 0, 1) := by decide +kernel
theorem d1_13 : decode prog_37_method_2_code 13 = .ok (.bipush 122, 2) := by decide +kernel
theorem d1_15 : decode prog_37_method_2_code 15 = .ok (.if_icmp .le 15, 3) := by decide +kernel
def own_f (p0 : Int32) : Int32 := (if p0 = (95 : Int32) then (1 : Int32) else (if p0 < (97 : Int32) then (if p0 < (65 : Int32) then (0 : Int32) else (if (90 : Int32) < p0 then (0 : Int32) else (1 : Int32))) else (if (122 : Int32) < p0 then (if p0 < (65 : Int32) then (0 : Int32) else (if (90 : Int32) < p0 then (0 : Int32) else (1 : Int32))) else (1 : Int32))))
theorem pn_0 : plainName "com/example/asynchronous_synthesis/asynchronoussynthesis/ltl/LtlSyntax" = true := by first | (simp [plainName, overriddenIn]; done) | decide +kernel
theorem ef_1 (m : MethodId) (x0 : Int32) : entryFrame m #[(.int x0)] 1 = mkF m 0 #[.val (.int x0)] [] := by first | (simp [entryFrame, mkF, argsToLocals, Value.category]; done) | rfl
def Q1 (Z : State) (p0 : Int32) (h0 : Heap) (n0 : Nat) (v : Option Value) (h : Heap) (L : List Loc) : Prop := v = some (.int (own_f p0)) ∧ Fr n0 L ∧ h = h0
set_option maxRecDepth 65536 in
set_option maxHeartbeats 40000000 in
theorem rm1 (l : Launch) (Z : State) (a0 : Array Value) (hw : ∀ d ∈ tables_1, d.before a0 Z = true) (ws : List Jvm.Cond) (p0 : Int32) (h0 : Heap) (n0 : Nat) (Z0 : n0 ≤ h0.size) :
    MetFree l (⟨"com/example/asynchronous_synthesis/asynchronoussynthesis/ltl/LtlSyntax", "isNameStart", "(C)Z"⟩ : MethodName) (head1 (Jvm.Cond.code (⟨"com/example/asynchronous_synthesis/asynchronoussynthesis/ltl/LtlSyntax", "isNameStart", "(C)Z"⟩ : MethodName) prog_37_method_2_code 1 (some .boolean) :: ws) ({ frames := 0, cells := 0, slots := 0, locals := 0 } : Room)) (fun q_ U => q_ = #[(.int p0)] ∧ Z.Warmed39 U.vm ∧ U.heap = h0) (fun _ _ _ _ _ => True) (fun _ U o U' => ∃ v L, o = .returned v ∧ Q1 Z p0 h0 n0 v U'.heap L ∧ FrameEnd U o U' L ({ frames := 0, cells := 0, slots := 0, locals := 0 } : Room).cells ({ frames := 0, cells := 0, slots := 0, locals := 0 } : Room).slots) := by
  refine MetFree.of_bodySF (plainFor_of_name pn_0) hisR ?_
  intro p e s m args below meth c s₁ Bd hml0 hP hK
  obtain ⟨rfl, hZ, hh⟩ := hP
  have hx := Bd.exec
  have hby := Bd.bytes
  have hml : c.maxLocals = 1 := hml0
  have hown : s.vm.findClass "com/example/asynchronous_synthesis/asynchronoussynthesis/ltl/LtlSyntax" = some m.cls := findClass_of_methodNamed Bd.named
  have hnm := (name_of_methodNamed Bd.named Bd.method).1
  have X0 : Stand p l e ({ frames := 0, cells := 0, slots := 0, locals := 0 } : Room) s m #[(.int p0)] below meth c s₁ [] 0 0 := Stand.of_body Bd
  have e0 : s₁.heap = h0 := by rw [← hh, Bd.state]; rfl
  have N0 := Fr.nil n0
  show own_Go p e below s (Q1 Z p0 h0 n0) ({ frames := 0, cells := 0, slots := 0, locals := 0 } : Room).cells ({ frames := 0, cells := 0, slots := 0, locals := 0 } : Room).slots (s₁.setTop (entryFrame m #[(.int p0)] 1))
  refine own_via (fun t k => castTop (ef_1 m p0) k) ?_
  show own_Go p e below s _ _ _ (s₁.setTop (mkF m 0 #[.val (.int p0)] []))
  refine own_via (fun _ k => XS.iloadN X0.here hx rfl (hb hby d1_0) rfl k) ?_
  show own_Go p e below s _ _ _ (s₁.setTop (mkF m 1 #[.val (.int p0)] [(.int p0)]))
  refine own_via (fun _ k => XS.bipush X0.here hx rfl (hb hby d1_1) k) ?_
  show own_Go p e below s _ _ _ (s₁.setTop (mkF m 3 #[.val (.int p0)] [(.int (95 : Int32)), (.int p0)]))
  by_cases hc1 : p0 = (95 : Int32)
  · refine own_via (fun _ k => XS.icmpYes X0.here hx rfl (pc0 := 3) (pc' := 30) rfl (hb hby d1_3) rfl (Jvm.Free.XT.ii_eq_t hc1) (by decide) (by decide) k) ?_
    show own_Go p e below s _ _ _ (s₁.setTop (mkF m 30 #[.val (.int p0)] []))
    refine own_via (fun _ k => XS.iconst X0.here hx rfl (hb hby d1_30) k) ?_
    show own_Go p e below s _ _ _ (s₁.setTop (mkF m 31 #[.val (.int p0)] [(.int (1 : Int32))]))
    refine own_via (fun _ k => XS.goto X0.here hx rfl (pc0 := 31) (pc' := 35) rfl (hb hby d1_31) (by decide) (by decide) k) ?_
    show own_Go p e below s _ _ _ (s₁.setTop (mkF m 35 #[.val (.int p0)] [(.int (1 : Int32))]))
    exact own_goN X0 hx (t := .boolean) Bd.returns (by simp) (hb hby d1_35) Bd.notSynchronized (by decide) (by decide) (by rw [e0]; exact ⟨by rw [own_f, if_pos hc1] <;> rfl, N0, rfl⟩)
  · refine own_via (fun _ k => XS.icmpNo X0.here hx rfl (hb hby d1_3) rfl (Jvm.Free.XT.ii_eq_f hc1) k) ?_
    show own_Go p e below s _ _ _ (s₁.setTop (mkF m 6 #[.val (.int p0)] []))
    refine own_via (fun _ k => XS.iloadN X0.here hx rfl (hb hby d1_6) rfl k) ?_
    show own_Go p e below s _ _ _ (s₁.setTop (mkF m 7 #[.val (.int p0)] [(.int p0)]))
    refine own_via (fun _ k => XS.bipush X0.here hx rfl (hb hby d1_7) k) ?_
    show own_Go p e below s _ _ _ (s₁.setTop (mkF m 9 #[.val (.int p0)] [(.int (97 : Int32)), (.int p0)]))
    by_cases hc2 : p0 < (97 : Int32)
    · refine own_via (fun _ k => XS.icmpYes X0.here hx rfl (pc0 := 9) (pc' := 18) rfl (hb hby d1_9) rfl (Jvm.Free.XT.ii_lt_t hc2) (by decide) (by decide) k) ?_
      show own_Go p e below s _ _ _ (s₁.setTop (mkF m 18 #[.val (.int p0)] []))
      refine own_via (fun _ k => XS.iloadN X0.here hx rfl (hb hby d1_18) rfl k) ?_
      show own_Go p e below s _ _ _ (s₁.setTop (mkF m 19 #[.val (.int p0)] [(.int p0)]))
      refine own_via (fun _ k => XS.bipush X0.here hx rfl (hb hby d1_19) k) ?_
      show own_Go p e below s _ _ _ (s₁.setTop (mkF m 21 #[.val (.int p0)] [(.int (65 : Int32)), (.int p0)]))
      by_cases hc3 : p0 < (65 : Int32)
      · refine own_via (fun _ k => XS.icmpYes X0.here hx rfl (pc0 := 21) (pc' := 34) rfl (hb hby d1_21) rfl (Jvm.Free.XT.ii_lt_t hc3) (by decide) (by decide) k) ?_
        show own_Go p e below s _ _ _ (s₁.setTop (mkF m 34 #[.val (.int p0)] []))
        refine own_via (fun _ k => XS.iconst X0.here hx rfl (hb hby d1_34) k) ?_
        show own_Go p e below s _ _ _ (s₁.setTop (mkF m 35 #[.val (.int p0)] [(.int (0 : Int32))]))
        exact own_goN X0 hx (t := .boolean) Bd.returns (by simp) (hb hby d1_35) Bd.notSynchronized (by decide) (by decide) (by rw [e0]; exact ⟨by rw [own_f, if_neg hc1, if_pos hc2, if_pos hc3] <;> rfl, N0, rfl⟩)
      · refine own_via (fun _ k => XS.icmpNo X0.here hx rfl (hb hby d1_21) rfl (Jvm.Free.XT.ii_lt_f hc3) k) ?_
        show own_Go p e below s _ _ _ (s₁.setTop (mkF m 24 #[.val (.int p0)] []))
        refine own_via (fun _ k => XS.iloadN X0.here hx rfl (hb hby d1_24) rfl k) ?_
        show own_Go p e below s _ _ _ (s₁.setTop (mkF m 25 #[.val (.int p0)] [(.int p0)]))
        refine own_via (fun _ k => XS.bipush X0.here hx rfl (hb hby d1_25) k) ?_
        show own_Go p e below s _ _ _ (s₁.setTop (mkF m 27 #[.val (.int p0)] [(.int (90 : Int32)), (.int p0)]))
        by_cases hc4 : (90 : Int32) < p0
        · refine own_via (fun _ k => XS.icmpYes X0.here hx rfl (pc0 := 27) (pc' := 34) rfl (hb hby d1_27) rfl (Jvm.Free.XT.ii_gt_t hc4) (by decide) (by decide) k) ?_
          show own_Go p e below s _ _ _ (s₁.setTop (mkF m 34 #[.val (.int p0)] []))
          refine own_via (fun _ k => XS.iconst X0.here hx rfl (hb hby d1_34) k) ?_
          show own_Go p e below s _ _ _ (s₁.setTop (mkF m 35 #[.val (.int p0)] [(.int (0 : Int32))]))
          exact own_goN X0 hx (t := .boolean) Bd.returns (by simp) (hb hby d1_35) Bd.notSynchronized (by decide) (by decide) (by rw [e0]; exact ⟨by rw [own_f, if_neg hc1, if_pos hc2, if_neg hc3, if_pos hc4] <;> rfl, N0, rfl⟩)
        · refine own_via (fun _ k => XS.icmpNo X0.here hx rfl (hb hby d1_27) rfl (Jvm.Free.XT.ii_gt_f hc4) k) ?_
          show own_Go p e below s _ _ _ (s₁.setTop (mkF m 30 #[.val (.int p0)] []))
          refine own_via (fun _ k => XS.iconst X0.here hx rfl (hb hby d1_30) k) ?_
          show own_Go p e below s _ _ _ (s₁.setTop (mkF m 31 #[.val (.int p0)] [(.int (1 : Int32))]))
          refine own_via (fun _ k => XS.goto X0.here hx rfl (pc0 := 31) (pc' := 35) rfl (hb hby d1_31) (by decide) (by decide) k) ?_
          show own_Go p e below s _ _ _ (s₁.setTop (mkF m 35 #[.val (.int p0)] [(.int (1 : Int32))]))
          exact own_goN X0 hx (t := .boolean) Bd.returns (by simp) (hb hby d1_35) Bd.notSynchronized (by decide) (by decide) (by rw [e0]; exact ⟨by rw [own_f, if_neg hc1, if_pos hc2, if_neg hc3, if_neg hc4] <;> rfl, N0, rfl⟩)
    · refine own_via (fun _ k => XS.icmpNo X0.here hx rfl (hb hby d1_9) rfl (Jvm.Free.XT.ii_lt_f hc2) k) ?_
      show own_Go p e below s _ _ _ (s₁.setTop (mkF m 12 #[.val (.int p0)] []))
      refine own_via (fun _ k => XS.iloadN X0.here hx rfl (hb hby d1_12) rfl k) ?_
      show own_Go p e below s _ _ _ (s₁.setTop (mkF m 13 #[.val (.int p0)] [(.int p0)]))
      refine own_via (fun _ k => XS.bipush X0.here hx rfl (hb hby d1_13) k) ?_
      show own_Go p e below s _ _ _ (s₁.setTop (mkF m 15 #[.val (.int p0)] [(.int (122 : Int32)), (.int p0)]))
      by_cases hc5 : (122 : Int32) < p0
      · refine own_via (fun _ k => XS.icmpNo X0.here hx rfl (hb hby d1_15) rfl (Jvm.Free.XT.ii_le_f hc5) k) ?_
        show own_Go p e below s _ _ _ (s₁.setTop (mkF m 18 #[.val (.int p0)] []))
        refine own_via (fun _ k => XS.iloadN X0.here hx rfl (hb hby d1_18) rfl k) ?_
        show own_Go p e below s _ _ _ (s₁.setTop (mkF m 19 #[.val (.int p0)] [(.int p0)]))
        refine own_via (fun _ k => XS.bipush X0.here hx rfl (hb hby d1_19) k) ?_
        show own_Go p e below s _ _ _ (s₁.setTop (mkF m 21 #[.val (.int p0)] [(.int (65 : Int32)), (.int p0)]))
        by_cases hc6 : p0 < (65 : Int32)
        · refine own_via (fun _ k => XS.icmpYes X0.here hx rfl (pc0 := 21) (pc' := 34) rfl (hb hby d1_21) rfl (Jvm.Free.XT.ii_lt_t hc6) (by decide) (by decide) k) ?_
          show own_Go p e below s _ _ _ (s₁.setTop (mkF m 34 #[.val (.int p0)] []))
          refine own_via (fun _ k => XS.iconst X0.here hx rfl (hb hby d1_34) k) ?_
          show own_Go p e below s _ _ _ (s₁.setTop (mkF m 35 #[.val (.int p0)] [(.int (0 : Int32))]))
          exact own_goN X0 hx (t := .boolean) Bd.returns (by simp) (hb hby d1_35) Bd.notSynchronized (by decide) (by decide) (by rw [e0]; exact ⟨by rw [own_f, if_neg hc1, if_neg hc2, if_pos hc5, if_pos hc6] <;> rfl, N0, rfl⟩)
        · refine own_via (fun _ k => XS.icmpNo X0.here hx rfl (hb hby d1_21) rfl (Jvm.Free.XT.ii_lt_f hc6) k) ?_
          show own_Go p e below s _ _ _ (s₁.setTop (mkF m 24 #[.val (.int p0)] []))
          refine own_via (fun _ k => XS.iloadN X0.here hx rfl (hb hby d1_24) rfl k) ?_
          show own_Go p e below s _ _ _ (s₁.setTop (mkF m 25 #[.val (.int p0)] [(.int p0)]))
          refine own_via (fun _ k => XS.bipush X0.here hx rfl (hb hby d1_25) k) ?_
          show own_Go p e below s _ _ _ (s₁.setTop (mkF m 27 #[.val (.int p0)] [(.int (90 : Int32)), (.int p0)]))
          by_cases hc7 : (90 : Int32) < p0
          · refine own_via (fun _ k => XS.icmpYes X0.here hx rfl (pc0 := 27) (pc' := 34) rfl (hb hby d1_27) rfl (Jvm.Free.XT.ii_gt_t hc7) (by decide) (by decide) k) ?_
            show own_Go p e below s _ _ _ (s₁.setTop (mkF m 34 #[.val (.int p0)] []))
            refine own_via (fun _ k => XS.iconst X0.here hx rfl (hb hby d1_34) k) ?_
            show own_Go p e below s _ _ _ (s₁.setTop (mkF m 35 #[.val (.int p0)] [(.int (0 : Int32))]))
            exact own_goN X0 hx (t := .boolean) Bd.returns (by simp) (hb hby d1_35) Bd.notSynchronized (by decide) (by decide) (by rw [e0]; exact ⟨by rw [own_f, if_neg hc1, if_neg hc2, if_pos hc5, if_neg hc6, if_pos hc7] <;> rfl, N0, rfl⟩)
          · refine own_via (fun _ k => XS.icmpNo X0.here hx rfl (hb hby d1_27) rfl (Jvm.Free.XT.ii_gt_f hc7) k) ?_
            show own_Go p e below s _ _ _ (s₁.setTop (mkF m 30 #[.val (.int p0)] []))
            refine own_via (fun _ k => XS.iconst X0.here hx rfl (hb hby d1_30) k) ?_
            show own_Go p e below s _ _ _ (s₁.setTop (mkF m 31 #[.val (.int p0)] [(.int (1 : Int32))]))
            refine own_via (fun _ k => XS.goto X0.here hx rfl (pc0 := 31) (pc' := 35) rfl (hb hby d1_31) (by decide) (by decide) k) ?_
            show own_Go p e below s _ _ _ (s₁.setTop (mkF m 35 #[.val (.int p0)] [(.int (1 : Int32))]))
            exact own_goN X0 hx (t := .boolean) Bd.returns (by simp) (hb hby d1_35) Bd.notSynchronized (by decide) (by decide) (by rw [e0]; exact ⟨by rw [own_f, if_neg hc1, if_neg hc2, if_pos hc5, if_neg hc6, if_neg hc7] <;> rfl, N0, rfl⟩)
      · refine own_via (fun _ k => XS.icmpYes X0.here hx rfl (pc0 := 15) (pc' := 30) rfl (hb hby d1_15) rfl (Jvm.Free.XT.ii_le_t hc5) (by decide) (by decide) k) ?_
        show own_Go p e below s _ _ _ (s₁.setTop (mkF m 30 #[.val (.int p0)] []))
        refine own_via (fun _ k => XS.iconst X0.here hx rfl (hb hby d1_30) k) ?_
        show own_Go p e below s _ _ _ (s₁.setTop (mkF m 31 #[.val (.int p0)] [(.int (1 : Int32))]))
        refine own_via (fun _ k => XS.goto X0.here hx rfl (pc0 := 31) (pc' := 35) rfl (hb hby d1_31) (by decide) (by decide) k) ?_
        show own_Go p e below s _ _ _ (s₁.setTop (mkF m 35 #[.val (.int p0)] [(.int (1 : Int32))]))
        exact own_goN X0 hx (t := .boolean) Bd.returns (by simp) (hb hby d1_35) Bd.notSynchronized (by decide) (by decide) (by rw [e0]; exact ⟨by rw [own_f, if_neg hc1, if_neg hc2, if_neg hc5] <;> rfl, N0, rfl⟩)

theorem own_plain (x : Int32) : own_f (o_i2c (x &&& 65535)) = (if o_i2c (x &&& 65535) = (95 : Int32) then (1 : Int32) else (if (if (o_i2c (x &&& 65535) ||| 32) < (97 : Int32) then (0 : Int32) else (if (122 : Int32) < (o_i2c (x &&& 65535) ||| 32) then (0 : Int32) else (1 : Int32))) = (0 : Int32) then (0 : Int32) else (1 : Int32))) := by
  obtain ⟨-, h0, h1⟩ := c_i2c (x &&& 65535)
  change 0 ≤ (o_i2c (x &&& 65535)).toInt at h0
  change (o_i2c (x &&& 65535)).toInt < 65536 at h1
  generalize o_i2c (x &&& 65535) = c at *
  have h2 := own_or32i c h0 h1
  generalize c ||| 32 = d at *
  unfold own_f
  simp only [Int32.lt_iff_toInt_lt, ← Int32.toInt_inj, Int32.reduceToInt]
  split <;> (repeat' split) <;> first | rfl | (exfalso; simp_all; done) | (exfalso; omega) | (exfalso; simp_all; omega)

theorem pd_0 : parseMethodDescriptor "(C)Z" = some ⟨[.char], some .boolean⟩ := by decide +kernel
theorem pn_1 : plainName "com/example/asynchronous_synthesis/asynchronoussynthesis/ltl/LtlSyntaxIsNameStartPinLaw" = true := by first | (simp [plainName, overriddenIn]; done) | decide +kernel
theorem ef_0 (m : MethodId) (x0 : Int32) : entryFrame m #[(.int x0)] maxLocals = mkF m 0 #[.val (.int x0), .unset, .unset, .unset, .unset] [] := by first | (simp [entryFrame, mkF, argsToLocals, Value.category, maxLocals]; done) | rfl
def Q0 (Z : State) (p0 : Int32) (h0 : Heap) (n0 : Nat) (v : Option Value) (h : Heap) (L : List Loc) : Prop := v = some (.int 1) ∧ Fr n0 L
set_option maxRecDepth 65536 in
set_option maxHeartbeats 40000000 in
theorem rm0 (l : Launch) (Z : State) (a0 : Array Value) (hw : ∀ d ∈ tables_1, d.before a0 Z = true) (ws : List Jvm.Cond) (p0 : Int32) (h0 : Heap) (n0 : Nat) (Z0 : n0 ≤ h0.size) :
    MetFree l x (head1 (Jvm.Cond.code x code maxLocals ret :: ws) room_1) (fun q_ U => q_ = #[(.int p0)] ∧ Z.Warmed39 U.vm ∧ U.heap = h0) (fun _ _ _ _ _ => True) (fun _ U o U' => ∃ v L, o = .returned v ∧ Q0 Z p0 h0 n0 v U'.heap L ∧ FrameEnd U o U' L room_1.cells room_1.slots) := by
  refine MetFree.of_bodySF (plainFor_of_name pn_1) hisR ?_
  intro p e s m args below meth c s₁ Bd hml0 hP hK
  obtain ⟨rfl, hZ, hh⟩ := hP
  have hx := Bd.exec
  have hby := Bd.bytes
  have hml : c.maxLocals = 5 := hml0
  have hown : s.vm.findClass "com/example/asynchronous_synthesis/asynchronoussynthesis/ltl/LtlSyntaxIsNameStartPinLaw" = some m.cls := findClass_of_methodNamed Bd.named
  have hnm := (name_of_methodNamed Bd.named Bd.method).1
  have X0 : Stand p l e room_1 s m #[(.int p0)] below meth c s₁ [] 0 0 := Stand.of_body Bd
  have e0 : s₁.heap = h0 := by rw [← hh, Bd.state]; rfl
  have N0 := Fr.nil n0
  show own_Go p e below s (Q0 Z p0 h0 n0) room_1.cells room_1.slots (s₁.setTop (entryFrame m #[(.int p0)] maxLocals))
  refine own_via (fun t k => castTop (ef_0 m p0) k) ?_
  show own_Go p e below s _ _ _ (s₁.setTop (mkF m 0 #[.val (.int p0), .unset, .unset, .unset, .unset] []))
  refine own_via (fun _ k => XS.iloadN X0.here hx rfl (hb hby at_0) rfl k) ?_
  show own_Go p e below s _ _ _ (s₁.setTop (mkF m 1 #[.val (.int p0), .unset, .unset, .unset, .unset] [(.int p0)]))
  refine own_via (fun _ k => X0.ldcInt hx hown (mvT hZ (hw _ (List.mem_of_getElem? (i := 0) rfl))) (g := (mkF m 1 #[.val (.int p0), .unset, .unset, .unset, .unset] [(.int p0)])) rfl (hb hby at_1) _ k) ?_
  show own_Go p e below s _ _ _ (s₁.setTop (mkF m 3 #[.val (.int p0), .unset, .unset, .unset, .unset] [(.int (65535 : Int32)), (.int p0)]))
  refine own_via (fun _ k => XS.iand X0.here hx rfl (hb hby at_3) rfl k) ?_
  show own_Go p e below s _ _ _ (s₁.setTop (mkF m 4 #[.val (.int p0), .unset, .unset, .unset, .unset] [(.int (p0 &&& (65535 : Int32)))]))
  refine own_via (fun _ k => XS.i2c X0.here hx rfl (hb hby at_4) rfl k) ?_
  show own_Go p e below s _ _ _ (s₁.setTop (mkF m 5 #[.val (.int p0), .unset, .unset, .unset, .unset] [(.int (o_i2c (p0 &&& (65535 : Int32))))]))
  refine own_via (fun _ k => XS.istoreN X0.here hx rfl (hb hby at_5) rfl (l' := #[.val (.int p0), .val (.int (o_i2c (p0 &&& (65535 : Int32)))), .unset, .unset, .unset]) rfl k) ?_
  show own_Go p e below s _ _ _ (s₁.setTop (mkF m 6 #[.val (.int p0), .val (.int (o_i2c (p0 &&& (65535 : Int32)))), .unset, .unset, .unset] []))
  generalize hv1 : (o_i2c (p0 &&& (65535 : Int32))) = v1
  show own_Go p e below s _ _ _ (s₁.setTop (mkF m 6 #[.val (.int p0), .val (.int v1), .unset, .unset, .unset] []))
  refine own_via (fun _ k => XS.iloadN X0.here hx rfl (hb hby at_6) rfl k) ?_
  show own_Go p e below s _ _ _ (s₁.setTop (mkF m 7 #[.val (.int p0), .val (.int v1), .unset, .unset, .unset] [(.int v1)]))
  refine own_via (fun _ k => XS.bipush X0.here hx rfl (hb hby at_7) k) ?_
  show own_Go p e below s _ _ _ (s₁.setTop (mkF m 9 #[.val (.int p0), .val (.int v1), .unset, .unset, .unset] [(.int (32 : Int32)), (.int v1)]))
  refine own_via (fun _ k => XS.ior X0.here hx rfl (hb hby at_9) rfl k) ?_
  show own_Go p e below s _ _ _ (s₁.setTop (mkF m 10 #[.val (.int p0), .val (.int v1), .unset, .unset, .unset] [(.int (v1 ||| (32 : Int32)))]))
  refine own_via (fun _ k => XS.istoreN X0.here hx rfl (hb hby at_10) rfl (l' := #[.val (.int p0), .val (.int v1), .val (.int (v1 ||| (32 : Int32))), .unset, .unset]) rfl k) ?_
  show own_Go p e below s _ _ _ (s₁.setTop (mkF m 11 #[.val (.int p0), .val (.int v1), .val (.int (v1 ||| (32 : Int32))), .unset, .unset] []))
  generalize hv2 : (v1 ||| (32 : Int32)) = v2
  show own_Go p e below s _ _ _ (s₁.setTop (mkF m 11 #[.val (.int p0), .val (.int v1), .val (.int v2), .unset, .unset] []))
  have st3 : ∀ t, Steps p.tables e below (s₁.setTop (mkF m 28 #[.val (.int p0), .val (.int v1), .val (.int v2), .unset, .unset] [(.int (if v2 < (97 : Int32) then (0 : Int32) else (if (122 : Int32) < v2 then (0 : Int32) else (1 : Int32))))])) t → Steps p.tables e below (s₁.setTop (mkF m 11 #[.val (.int p0), .val (.int v1), .val (.int v2), .unset, .unset] [])) t := by
    intro t k
    refine XS.iloadN X0.here hx rfl (hb hby at_11) rfl ?_
    show Steps p.tables e below (s₁.setTop (mkF m 12 #[.val (.int p0), .val (.int v1), .val (.int v2), .unset, .unset] [(.int v2)])) t
    refine XS.bipush X0.here hx rfl (hb hby at_12) ?_
    show Steps p.tables e below (s₁.setTop (mkF m 14 #[.val (.int p0), .val (.int v1), .val (.int v2), .unset, .unset] [(.int (97 : Int32)), (.int v2)])) t
    by_cases hq4 : v2 < (97 : Int32)
    · refine XS.icmpYes X0.here hx rfl (pc0 := 14) (pc' := 27) rfl (hb hby at_14) rfl (Jvm.Free.XT.ii_lt_t hq4) (by decide) (by decide) ?_
      show Steps p.tables e below (s₁.setTop (mkF m 27 #[.val (.int p0), .val (.int v1), .val (.int v2), .unset, .unset] [])) t
      refine XS.iconst X0.here hx rfl (hb hby at_27) ?_
      show Steps p.tables e below (s₁.setTop (mkF m 28 #[.val (.int p0), .val (.int v1), .val (.int v2), .unset, .unset] [(.int (0 : Int32))])) t
      simp only [if_pos hq4] at k
      exact k
    · refine XS.icmpNo X0.here hx rfl (hb hby at_14) rfl (Jvm.Free.XT.ii_lt_f hq4) ?_
      show Steps p.tables e below (s₁.setTop (mkF m 17 #[.val (.int p0), .val (.int v1), .val (.int v2), .unset, .unset] [])) t
      refine XS.iloadN X0.here hx rfl (hb hby at_17) rfl ?_
      show Steps p.tables e below (s₁.setTop (mkF m 18 #[.val (.int p0), .val (.int v1), .val (.int v2), .unset, .unset] [(.int v2)])) t
      refine XS.bipush X0.here hx rfl (hb hby at_18) ?_
      show Steps p.tables e below (s₁.setTop (mkF m 20 #[.val (.int p0), .val (.int v1), .val (.int v2), .unset, .unset] [(.int (122 : Int32)), (.int v2)])) t
      by_cases hq5 : (122 : Int32) < v2
      · refine XS.icmpYes X0.here hx rfl (pc0 := 20) (pc' := 27) rfl (hb hby at_20) rfl (Jvm.Free.XT.ii_gt_t hq5) (by decide) (by decide) ?_
        show Steps p.tables e below (s₁.setTop (mkF m 27 #[.val (.int p0), .val (.int v1), .val (.int v2), .unset, .unset] [])) t
        refine XS.iconst X0.here hx rfl (hb hby at_27) ?_
        show Steps p.tables e below (s₁.setTop (mkF m 28 #[.val (.int p0), .val (.int v1), .val (.int v2), .unset, .unset] [(.int (0 : Int32))])) t
        simp only [if_neg hq4, if_pos hq5] at k
        exact k
      · refine XS.icmpNo X0.here hx rfl (hb hby at_20) rfl (Jvm.Free.XT.ii_gt_f hq5) ?_
        show Steps p.tables e below (s₁.setTop (mkF m 23 #[.val (.int p0), .val (.int v1), .val (.int v2), .unset, .unset] [])) t
        refine XS.iconst X0.here hx rfl (hb hby at_23) ?_
        show Steps p.tables e below (s₁.setTop (mkF m 24 #[.val (.int p0), .val (.int v1), .val (.int v2), .unset, .unset] [(.int (1 : Int32))])) t
        refine XS.goto X0.here hx rfl (pc0 := 24) (pc' := 28) rfl (hb hby at_24) (by decide) (by decide) ?_
        show Steps p.tables e below (s₁.setTop (mkF m 28 #[.val (.int p0), .val (.int v1), .val (.int v2), .unset, .unset] [(.int (1 : Int32))])) t
        simp only [if_neg hq4, if_neg hq5] at k
        exact k
  refine own_via st3 ?_
  show own_Go p e below s _ _ _ (s₁.setTop (mkF m 28 #[.val (.int p0), .val (.int v1), .val (.int v2), .unset, .unset] [(.int (if v2 < (97 : Int32) then (0 : Int32) else (if (122 : Int32) < v2 then (0 : Int32) else (1 : Int32))))]))
  refine own_via (fun _ k => XS.istoreN X0.here hx rfl (hb hby at_28) rfl (l' := #[.val (.int p0), .val (.int v1), .val (.int v2), .val (.int (if v2 < (97 : Int32) then (0 : Int32) else (if (122 : Int32) < v2 then (0 : Int32) else (1 : Int32)))), .unset]) rfl k) ?_
  show own_Go p e below s _ _ _ (s₁.setTop (mkF m 29 #[.val (.int p0), .val (.int v1), .val (.int v2), .val (.int (if v2 < (97 : Int32) then (0 : Int32) else (if (122 : Int32) < v2 then (0 : Int32) else (1 : Int32)))), .unset] []))
  generalize hv6 : (if v2 < (97 : Int32) then (0 : Int32) else (if (122 : Int32) < v2 then (0 : Int32) else (1 : Int32))) = v6
  show own_Go p e below s _ _ _ (s₁.setTop (mkF m 29 #[.val (.int p0), .val (.int v1), .val (.int v2), .val (.int v6), .unset] []))
  have st7 : ∀ t, Steps p.tables e below (s₁.setTop (mkF m 44 #[.val (.int p0), .val (.int v1), .val (.int v2), .val (.int v6), .unset] [(.int (if v1 = (95 : Int32) then (1 : Int32) else (if v6 = (0 : Int32) then (0 : Int32) else (1 : Int32))))])) t → Steps p.tables e below (s₁.setTop (mkF m 29 #[.val (.int p0), .val (.int v1), .val (.int v2), .val (.int v6), .unset] [])) t := by
    intro t k
    refine XS.iloadN X0.here hx rfl (hb hby at_29) rfl ?_
    show Steps p.tables e below (s₁.setTop (mkF m 30 #[.val (.int p0), .val (.int v1), .val (.int v2), .val (.int v6), .unset] [(.int v1)])) t
    refine XS.bipush X0.here hx rfl (hb hby at_30) ?_
    show Steps p.tables e below (s₁.setTop (mkF m 32 #[.val (.int p0), .val (.int v1), .val (.int v2), .val (.int v6), .unset] [(.int (95 : Int32)), (.int v1)])) t
    by_cases hq8 : v1 = (95 : Int32)
    · refine XS.icmpYes X0.here hx rfl (pc0 := 32) (pc' := 39) rfl (hb hby at_32) rfl (Jvm.Free.XT.ii_eq_t hq8) (by decide) (by decide) ?_
      show Steps p.tables e below (s₁.setTop (mkF m 39 #[.val (.int p0), .val (.int v1), .val (.int v2), .val (.int v6), .unset] [])) t
      refine XS.iconst X0.here hx rfl (hb hby at_39) ?_
      show Steps p.tables e below (s₁.setTop (mkF m 40 #[.val (.int p0), .val (.int v1), .val (.int v2), .val (.int v6), .unset] [(.int (1 : Int32))])) t
      refine XS.goto X0.here hx rfl (pc0 := 40) (pc' := 44) rfl (hb hby at_40) (by decide) (by decide) ?_
      show Steps p.tables e below (s₁.setTop (mkF m 44 #[.val (.int p0), .val (.int v1), .val (.int v2), .val (.int v6), .unset] [(.int (1 : Int32))])) t
      simp only [if_pos hq8] at k
      exact k
    · refine XS.icmpNo X0.here hx rfl (hb hby at_32) rfl (Jvm.Free.XT.ii_eq_f hq8) ?_
      show Steps p.tables e below (s₁.setTop (mkF m 35 #[.val (.int p0), .val (.int v1), .val (.int v2), .val (.int v6), .unset] [])) t
      refine XS.iloadN X0.here hx rfl (hb hby at_35) rfl ?_
      show Steps p.tables e below (s₁.setTop (mkF m 36 #[.val (.int p0), .val (.int v1), .val (.int v2), .val (.int v6), .unset] [(.int v6)])) t
      by_cases hq9 : v6 = (0 : Int32)
      · refine XS.ifYes X0.here hx rfl (pc0 := 36) (pc' := 43) rfl (hb hby at_36) rfl (Jvm.Free.XT.i0_eq_t hq9) (by decide) (by decide) ?_
        show Steps p.tables e below (s₁.setTop (mkF m 43 #[.val (.int p0), .val (.int v1), .val (.int v2), .val (.int v6), .unset] [])) t
        refine XS.iconst X0.here hx rfl (hb hby at_43) ?_
        show Steps p.tables e below (s₁.setTop (mkF m 44 #[.val (.int p0), .val (.int v1), .val (.int v2), .val (.int v6), .unset] [(.int (0 : Int32))])) t
        simp only [if_neg hq8, if_pos hq9] at k
        exact k
      · refine XS.ifNo X0.here hx rfl (hb hby at_36) rfl (Jvm.Free.XT.i0_eq_f hq9) ?_
        show Steps p.tables e below (s₁.setTop (mkF m 39 #[.val (.int p0), .val (.int v1), .val (.int v2), .val (.int v6), .unset] [])) t
        refine XS.iconst X0.here hx rfl (hb hby at_39) ?_
        show Steps p.tables e below (s₁.setTop (mkF m 40 #[.val (.int p0), .val (.int v1), .val (.int v2), .val (.int v6), .unset] [(.int (1 : Int32))])) t
        refine XS.goto X0.here hx rfl (pc0 := 40) (pc' := 44) rfl (hb hby at_40) (by decide) (by decide) ?_
        show Steps p.tables e below (s₁.setTop (mkF m 44 #[.val (.int p0), .val (.int v1), .val (.int v2), .val (.int v6), .unset] [(.int (1 : Int32))])) t
        simp only [if_neg hq8, if_neg hq9] at k
        exact k
  refine own_via st7 ?_
  show own_Go p e below s _ _ _ (s₁.setTop (mkF m 44 #[.val (.int p0), .val (.int v1), .val (.int v2), .val (.int v6), .unset] [(.int (if v1 = (95 : Int32) then (1 : Int32) else (if v6 = (0 : Int32) then (0 : Int32) else (1 : Int32))))]))
  refine own_via (fun _ k => XS.istore X0.here hx rfl (hb hby at_44) rfl (l' := #[.val (.int p0), .val (.int v1), .val (.int v2), .val (.int v6), .val (.int (if v1 = (95 : Int32) then (1 : Int32) else (if v6 = (0 : Int32) then (0 : Int32) else (1 : Int32))))]) rfl k) ?_
  show own_Go p e below s _ _ _ (s₁.setTop (mkF m 46 #[.val (.int p0), .val (.int v1), .val (.int v2), .val (.int v6), .val (.int (if v1 = (95 : Int32) then (1 : Int32) else (if v6 = (0 : Int32) then (0 : Int32) else (1 : Int32))))] []))
  generalize hv10 : (if v1 = (95 : Int32) then (1 : Int32) else (if v6 = (0 : Int32) then (0 : Int32) else (1 : Int32))) = v10
  show own_Go p e below s _ _ _ (s₁.setTop (mkF m 46 #[.val (.int p0), .val (.int v1), .val (.int v2), .val (.int v6), .val (.int v10)] []))
  refine own_via (fun _ k => XS.iloadN X0.here hx rfl (hb hby at_46) rfl k) ?_
  show own_Go p e below s _ _ _ (s₁.setTop (mkF m 47 #[.val (.int p0), .val (.int v1), .val (.int v2), .val (.int v6), .val (.int v10)] [(.int v1)]))
  obtain ⟨_, _, ⟨T11, L11, k11, n11⟩, -, X11, ⟨Lc11, hQ11, l11, y11, z11⟩, st11⟩ := Jvm.LawKit.callS X0 hx (y := (⟨"com/example/asynchronous_synthesis/asynchronoussynthesis/ltl/LtlSyntax", "isNameStart", "(C)Z"⟩ : MethodName)) hown (mvT hZ (hw _ (List.mem_of_getElem? (i := 1) rfl))) (mvT hZ (hw _ (List.mem_of_getElem? (i := 2) rfl))) (mvT hZ (hw _ (List.mem_of_getElem? (i := 3) rfl))) (mvT hZ (hw _ (List.mem_of_getElem? (i := 4) rfl))) (by decide) (backOf (W := 0) (rm1 l Z a0 hw [] v1 h0 n0 Z0 ) hZ (hw _ (List.mem_of_getElem? (i := 4) rfl)) (hw _ (List.mem_of_getElem? (i := 3) rfl)) (by decide) (by decide)) (g := (mkF m 47 #[.val (.int p0), .val (.int v1), .val (.int v2), .val (.int v6), .val (.int v10)] [(.int v1)])) rfl (by rw [hml]; rfl) (argsL := [(.int v1)]) (rest := []) (lenOf pd_0 rfl) rfl (by show 2 * 0 + _ ≤ _; exact Nat.le_of_eq rfl) (hb hby at_47) (fun _ _ => ⟨rfl, e0, (by decide : 0 + 0 ≤ _), (by decide : 0 + 0 ≤ _)⟩)
  dsimp only [Pt.U, Pt.locs, Pt.cells, Pt.slots] at X11 l11 y11 z11 st11 hQ11
  subst l11 y11 z11
  obtain ⟨rfl, N11q, e11⟩ := hQ11
  have N11 := Fr.app N0 N11q
  refine own_via st11 ?_
  show own_Go p e below s _ _ _ (T11.setTop (mkF m 50 #[.val (.int p0), .val (.int v1), .val (.int v2), .val (.int v6), .val (.int v10)] [(.int (own_f v1))]))
  refine own_via (fun _ k => XS.iload X11.here hx rfl (hb hby at_50) rfl k) ?_
  show own_Go p e below s _ _ _ (T11.setTop (mkF m 52 #[.val (.int p0), .val (.int v1), .val (.int v2), .val (.int v6), .val (.int v10)] [(.int v10), (.int (own_f v1))]))
  have hc12 : (own_f v1) = v10 := by subst_vars; exact own_plain p0
  refine own_via (fun _ k => XS.icmpNo X11.here hx rfl (hb hby at_52) rfl (Jvm.Free.XT.ii_ne_f hc12) k) ?_
  show own_Go p e below s _ _ _ (T11.setTop (mkF m 55 #[.val (.int p0), .val (.int v1), .val (.int v2), .val (.int v6), .val (.int v10)] []))
  refine own_via (fun _ k => XS.iconst X11.here hx rfl (hb hby at_55) k) ?_
  show own_Go p e below s _ _ _ (T11.setTop (mkF m 56 #[.val (.int p0), .val (.int v1), .val (.int v2), .val (.int v6), .val (.int v10)] [(.int (1 : Int32))]))
  refine own_via (fun _ k => XS.goto X11.here hx rfl (pc0 := 56) (pc' := 60) rfl (hb hby at_56) (by decide) (by decide) k) ?_
  show own_Go p e below s _ _ _ (T11.setTop (mkF m 60 #[.val (.int p0), .val (.int v1), .val (.int v2), .val (.int v6), .val (.int v10)] [(.int (1 : Int32))]))
  exact own_goN X11 hx (t := .boolean) Bd.returns (by simp) (hb hby at_60) Bd.notSynchronized (by decide) (by decide) (by rw [e11]; exact ⟨rfl, N11⟩)
set_option maxRecDepth 65536 in
set_option maxHeartbeats 40000000 in
theorem comes_1 {Post : Tables → Env → Array Value → State → Outcome → State → Prop} (hpost : ∀ tb e args s v u, (limb_1_1.after args s (.returned v) u = true ∧ limb_1_2.after args s (.returned v) u = true ∧ True) → FrameEnd s (.returned v) u (Jvm.fieldLocs frame_1_writes args s ++ Jvm.arrayLocs frame_1_arrays args s ++ Jvm.staticLocs frame_1_statics s) 0 0 → Post tb e args s (.returned v) u) :
    ArmFor flags0 classFile x code maxLocals ret World_1 tables_1 room_1 Calls_1 rest_1 Pre_1 Post := by
  intro l hfl _ _ p e ha hc hk s m args below hf hA hF happ hP
  obtain ⟨hcalls, hrest, hpre⟩ := hP
  obtain ⟨-, -, -, hnamed, -, -, -, hat⟩ := (Spec.applies_iff hf).mp happ
  obtain ⟨hg, hn⟩ := and_e (Cond.before_iff.mp (show (Jvm.Cond.and given_1 narrow_1).before args s = true from hpre))
  obtain ⟨g1, g2⟩ := and_e hg
  obtain ⟨w0, rfl⟩ : ∃ w0 : Value, args = #[w0] := by
    have hs : args.size = 1 := by simpa [Cond.value, given_1] using g1
    obtain ⟨L⟩ := args
    match L, hs with
    | [w0], _ => exact ⟨w0, rfl⟩
  have hw := fun d (hd : d ∈ tables_1) => atoms_spec (ws := Jvm.Cond.code x code maxLocals ret :: tables_1) hat d (List.mem_cons_of_mem _ hd)
  have hfit : Fit s := fun {y c} hc i hi => by
    obtain ⟨ha, rfl⟩ := Array.getElem?_eq_some_iff.mp hc
    have q := List.all_eq_true.mp ((Array.all_eq_true_iff_forall_mem.mp hF) _ (Array.getElem_mem ha)) i (List.mem_range.mpr hi)
    simpa [Array.getElem?_eq_getElem hi] using q
  obtain ⟨i0, ei0⟩ := is_v g2
  obtain rfl : w0 = (.int i0) := Option.some.inj ei0
  obtain ⟨n, o, h1, h2, h3, _, L, rfl, ⟨rfl, N⟩, hq⟩ := rm0 l s _ hw tables_1 i0 s.heap s.heap.size (Nat.le_refl _)  p e ha hc hk s m _ below hf ((Spec.applies_iff_loose hf).mp happ).1 ⟨rfl, State.Warmed39.refl s, rfl⟩ trivial
  refine ⟨n, _, h1, h2, h3, hpost _ _ _ _ _ _ ⟨Cond.after_iff.mpr rfl, Cond.after_iff.mpr (eq_i res_at (Term.int_eval (1)) rfl), trivial⟩ ⟨hq.1, hq.2.1, (hq.2.2.sift fun y hy => Or.inr (N y hy)).mono (by decide) (by decide)⟩⟩
theorem main_1_1 : Claimed_1_1 := comes_1 fun _ _ _ _ _ _ h hF => ⟨h.1, hF⟩
theorem main_1_2 : Claimed_1_2 := comes_1 fun _ _ _ _ _ _ h hF => ⟨h.2.1, hF⟩
end Jvm.Pilot.@@N@@
namespace Jvm.Pilot.@@N@@
open Jvm Jvm.ClassFile Sem Op Lib Jvm.Free Jvm.Stand Jvm.Pilot.@@N@@.Jvm.D
/-! MADE BY PROGRAM (witnessworld.py) out of the Statement's table words and the real class files: 7 classes; the members and pool entries that the words name. The judged class is class 1, her method 1. -/
namespace start1
open Jvm.ClassFile
def u (s : String) : CpInfo := .utf8 (stringToUtf16 s)
/-- a pool by its gaps: so many unusable entries, then the entry; so many at the end -/
def gap : Nat → List CpInfo → List CpInfo
  | 0, r => r
  | n + 1, r => .unusable :: gap n r
def poolList (es : List (Nat × CpInfo)) (last : Nat) : List CpInfo := es.foldr (fun e r => gap e.1 (e.2 :: r)) (gap last [])
def pool (es : List (Nat × CpInfo)) (last : Nat) : Array CpInfo := ⟨poolList es last⟩
def fileOf (pool : Array CpInfo) (this : Nat) (attrs : Array Attribute := #[]) (ms : Array MethodInfo := #[]) (fl : Nat := 33) (sup : Nat := 0) (ifs : Array Nat := #[]) (fds : Array FieldInfo := #[]) : ClassFile where
  minorVersion := 0
  majorVersion := 65
  constantPool := pool
  accessFlags := fl
  thisClass := this
  superClass := sup
  interfaces := ifs
  fields := fds
  methods := ms
  attributes := attrs
def plain (name : String) (sup : Option ClassId) : Class where
  name := name
  kind := .ordinary
  loader := none
  accessFlags := 33
  super := sup
  interfaces := #[]
  cf := none
  fields := #[]
  methods := #[]
  instanceTypes := #[]
  staticTypes := #[]
  resolved := #[]
  callSites := []
  init := .initialized
  statics := none
  mirror := none

def pool0 : Array CpInfo := pool [(5, u "<init>"), (0, u "()V"), (1, .class_ 10), (1, u "java/lang/Object")] 113

def k0m0 : Method := { name := "<init>", desc := "()V", sig := { parameters := [], returnType := none }, accessFlags := 1, code := none }
/-- java/lang/Object -/
def k0 : Class := { plain "java/lang/Object" none with
  accessFlags := 33
  interfaces := #[]
  cf := some (fileOf pool0 8 #[] #[{ accessFlags := 1, nameIndex := 5, descriptorIndex := 6, attributes := #[] }] 33 0 #[] #[])
  fields := #[]
  methods := #[k0m0]
  instanceTypes := #[]
  staticTypes := #[]
  resolved := Array.replicate 124 none
  statics := none }

def pool1 : Array CpInfo := pool [(2, .class_ 4), (1, u "java/lang/Object"), (0, u "<init>"), (0, u "()V"), (0, .integer 65535), (0, .methodref 9 10), (0, .class_ 11), (0, .nameAndType 12 13), (0, u "com/example/asynchronous_synthesis/asynchronoussynthesis/ltl/LtlSyntax"), (0, u "isNameStart"), (0, u "(C)Z"), (0, .class_ 15), (0, u "com/example/asynchronous_synthesis/asynchronoussynthesis/ltl/LtlSyntaxIsNameStartPinLaw"), (2, u "law"), (0, u "(I)Z")] 3

def k1m0 : Method := { name := "<init>", desc := "()V", sig := { parameters := [], returnType := none }, accessFlags := 2, code := none }
def k1c1 : Code := { maxStack := 2, maxLocals := 5, code := code, exceptionTable := #[], attributes := #[] }
def k1m1 : Method := { name := "law", desc := "(I)Z", sig := { parameters := [.int], returnType := some .boolean }, accessFlags := 9, code := some k1c1 }
/-- com/example/asynchronous_synthesis/asynchronoussynthesis/ltl/LtlSyntaxIsNameStartPinLaw -/
def k1 : Class := { plain "com/example/asynchronous_synthesis/asynchronoussynthesis/ltl/LtlSyntaxIsNameStartPinLaw" (some 0) with
  accessFlags := 49
  interfaces := #[]
  cf := some (fileOf pool1 14 #[] #[{ accessFlags := 2, nameIndex := 5, descriptorIndex := 6, attributes := #[] }, { accessFlags := 9, nameIndex := 18, descriptorIndex := 19, attributes := #[] }] 49 2 #[] #[])
  fields := #[]
  methods := #[k1m0, k1m1]
  instanceTypes := #[]
  staticTypes := #[]
  resolved := Array.replicate 23 none
  statics := none }

def pool2 : Array CpInfo := pool [(2, .class_ 4), (1, u "java/lang/Object"), (0, u "<init>"), (0, u "()V"), (1, .class_ 10), (1, u "com/example/asynchronous_synthesis/asynchronoussynthesis/ltl/LtlSyntax"), (0, u "isNameStart"), (0, u "(C)Z"), (2, u "KEYWORDS"), (0, u "Ljava/util/Map;")] 56

def k2m0 : Method := { name := "<init>", desc := "()V", sig := { parameters := [], returnType := none }, accessFlags := 2, code := none }
def k2c1 : Code := { maxStack := 2, maxLocals := 1, code := prog_37_method_2_code, exceptionTable := #[], attributes := #[] }
def k2m1 : Method := { name := "isNameStart", desc := "(C)Z", sig := { parameters := [.char], returnType := some .boolean }, accessFlags := 8, code := some k2c1 }
/-- com/example/asynchronous_synthesis/asynchronoussynthesis/ltl/LtlSyntax -/
def k2 : Class := { plain "com/example/asynchronous_synthesis/asynchronoussynthesis/ltl/LtlSyntax" (some 0) with
  accessFlags := 48
  interfaces := #[]
  cf := some (fileOf pool2 8 #[] #[{ accessFlags := 2, nameIndex := 5, descriptorIndex := 6, attributes := #[] }, { accessFlags := 8, nameIndex := 11, descriptorIndex := 12, attributes := #[] }] 48 2 #[] #[{ accessFlags := 26, nameIndex := 15, descriptorIndex := 16, attributes := #[] }])
  fields := #[{ name := "KEYWORDS", type := (.object "java/util/Map"), accessFlags := 26, slot := 0, constantValue := 0 }]
  methods := #[k2m0, k2m1]
  instanceTypes := #[]
  staticTypes := #[(.object "java/util/Map")]
  resolved := Array.replicate 73 none
  statics := none }

def pool3 : Array CpInfo := pool [(1, u "java/lang/Cloneable"), (0, .class_ 1), (0, u "java/lang/Object"), (0, .class_ 3)] 3

/-- java/lang/Cloneable -/
def k3 : Class := { plain "java/lang/Cloneable" (some 0) with
  accessFlags := 1537
  interfaces := #[]
  cf := some (fileOf pool3 2 #[] #[] 1537 4 #[] #[])
  fields := #[]
  methods := #[]
  instanceTypes := #[]
  staticTypes := #[]
  resolved := Array.replicate 8 none
  statics := none }

def pool4 : Array CpInfo := pool [(1, u "java/io/Serializable"), (0, .class_ 1), (0, u "java/lang/Object"), (0, .class_ 3)] 3

/-- java/io/Serializable -/
def k4 : Class := { plain "java/io/Serializable" (some 0) with
  accessFlags := 1537
  interfaces := #[]
  cf := some (fileOf pool4 2 #[] #[] 1537 4 #[] #[])
  fields := #[]
  methods := #[]
  instanceTypes := #[]
  staticTypes := #[]
  resolved := Array.replicate 8 none
  statics := none }

/-- the primitive byte -/
def k5 : Class := { plain "byte" none with kind := .primitive 'B', accessFlags := 0x411 }
/-- [B -/
def k6 : Class := { plain "[B" (some 0) with kind := .array 5 .byte, interfaces := #[3, 4], accessFlags := 1041 }

def heap : Heap := #[]
def classes : Array Class := #[k0, k1, k2, k3, k4, k5, k6]
def interned : List (Array UInt16 × Addr) := []
def slotsUsed : Nat := 0
def theMethod : MethodId := ⟨1, 1⟩
def args0 : Array Value := #[.int 97]
def aboutOver (below : List Frame) : State where
  vm := { classes := classes, interned := interned.toArray }
  heap := heap
  slotsUsed := slotsUsed
  threads := #[{ frames := .invoking theMethod args0 :: below }]
def below0 : List Frame := [.native { method := ⟨0, 0⟩, args := #[] }]
def about1 : State := aboutOver below0
def p0 : Program := .bare "" "" ""
def e0 : Env := launch0.env 0 0 0
theorem w_frames : about1.frames = Frame.invoking theMethod args0 :: below0 := rfl
set_option maxRecDepth 65536 in
theorem w_args : argsFit about1.vm theMethod args0 = true := by decide +kernel
set_option maxRecDepth 65536 in
theorem w_heap : heapFits about1 = true := by decide +kernel
set_option maxRecDepth 65536 in
theorem w_runnable : about1.curStatus? = some .runnable := by decide +kernel
set_option maxRecDepth 65536 in
theorem w_alone : about1.alone = true := by decide +kernel
set_option maxRecDepth 65536 in
theorem w_named : about1.methodNamed? x = some theMethod := by decide +kernel
set_option maxRecDepth 65536 in
theorem w_hears : about1.hears theMethod below0 = true := by decide +kernel
set_option maxRecDepth 65536 in
theorem w_ripe : about1.ripe theMethod args0 below0 = true := by decide +kernel
theorem w_running : about1.status = .running := rfl
set_option maxRecDepth 65536 in
theorem w_room : about1.hasRoom e0.platform room_1 = true :=
  launch0.hasRoom_least _ room_1 (by decide +kernel) (by decide +kernel) (by decide +kernel) (by decide +kernel) (by decide +kernel) (by decide +kernel)
theorem allAtoms_all (ts : List Jvm.Cond) (a : Array Jvm.Value) (st : Jvm.State) : (allAtoms ts).before a st = ts.all (fun c => c.before a st) := by
  induction ts with
  | nil => rfl
  | cons c t ih =>
    show (Jvm.Cond.and c (allAtoms t)).before a st = _
    rw [Jvm.Cond.before_and, ih, List.all_cons]
def words1 : List Jvm.Cond := Jvm.Cond.code x code maxLocals ret :: tables_1
/-- a 'code' word, met by the world's own term for the bytes: nothing is compared byte by byte -/
theorem code_word {y : MethodName} {bytes : ByteArray} {mx : Nat} {rt : Option FieldType} {a : Array Value} {s : State} {m : MethodId} {meth : Method} {c : Code} (h1 : s.methodNamed? y = some m) (h2 : s.vm.method? m = some meth) (h3 : meth.code = some c) (h4 : c.code = bytes)
    (h5 : (c.maxLocals == mx && c.exceptionTable.isEmpty && decide (c.maxStack ≤ mostOperands) && decide (meth.sig.returnType = rt) && !meth.locks && decide (parseMethodDescriptor y.desc = some meth.sig)) = true) : (Jvm.Cond.code y bytes mx rt).before a s = true := by
  simp only [Bool.and_eq_true, beq_iff_eq, Bool.not_eq_true', decide_eq_true_eq] at h5
  obtain ⟨⟨⟨⟨⟨g1, g2⟩, g3⟩, g4⟩, g5⟩, g6⟩ := h5
  simp [Cond.before, Cond.holds, Cond.value, h1, h2, h3, h4, g1, g2, g3, g4, g5, g6]
def isCode : Jvm.Cond → Bool
  | .code _ _ _ _ => true
  | _ => false
theorem all_split {L : List Jvm.Cond} {P : Jvm.Cond → Bool} (h1 : L.all (fun c => isCode c || P c) = true) (h2 : ∀ c ∈ L.filter isCode, P c = true) : L.all P = true := by
  refine List.all_eq_true.mpr fun c hc => ?_
  have h := List.all_eq_true.mp h1 c hc
  rcases Bool.eq_false_or_eq_true (isCode c) with hi | hi
  · exact h2 c (List.mem_filter.mpr ⟨hc, hi⟩)
  · simpa [hi] using h
set_option maxRecDepth 65536 in
theorem w_c0 : (Jvm.Cond.code x code maxLocals ret).before args0 about1 = true := code_word (m := ⟨1, 1⟩) (meth := k1m1) (c := k1c1) (by decide +kernel) rfl rfl rfl (by decide +kernel)
set_option maxRecDepth 65536 in
theorem w_c1 : (Jvm.Cond.code ({ cls := "com/example/asynchronous_synthesis/asynchronoussynthesis/ltl/LtlSyntax", name := "isNameStart", desc := "(C)Z" } : Jvm.MethodName) prog_37_method_2_code (1 : Nat) (Option.some Jvm.ClassFile.FieldType.boolean)).before args0 about1 = true := code_word (m := ⟨2, 1⟩) (meth := k2m1) (c := k2c1) (by decide +kernel) rfl rfl rfl (by decide +kernel)
def codes1 : List Jvm.Cond := [Jvm.Cond.code x code maxLocals ret, Jvm.Cond.code ({ cls := "com/example/asynchronous_synthesis/asynchronoussynthesis/ltl/LtlSyntax", name := "isNameStart", desc := "(C)Z" } : Jvm.MethodName) prog_37_method_2_code (1 : Nat) (Option.some Jvm.ClassFile.FieldType.boolean)]
set_option maxRecDepth 65536 in
theorem codes_eq : words1.filter isCode = codes1 := rfl
theorem w_codes : ∀ c ∈ words1.filter isCode, c.before args0 about1 = true := by
  rw [codes_eq]
  intro c hc
  simp only [codes1, List.mem_cons, List.not_mem_nil, or_false] at hc
  rcases hc with rfl | rfl
  · exact w_c0
  · exact w_c1
set_option maxRecDepth 65536 in
theorem w_t1 : words1.all (fun c => isCode c || c.before args0 about1) = true := by decide +kernel
theorem w_tables : (allAtoms (Jvm.Cond.code x code maxLocals ret :: tables_1)).before args0 about1 = true := by
  rw [allAtoms_all]
  show words1.all (fun c => c.before args0 about1) = true
  refine all_split ?_ w_codes
  rw [w_t1]
set_option maxRecDepth 65536 in
theorem w_case : (Jvm.Cond.and given_1 narrow_1).before args0 about1 = true := by decide +kernel
theorem w_applies : (headSpec (Jvm.Cond.code x code maxLocals ret :: tables_1) room_1).applies x e0.platform about1 = true :=
  (Spec.applies_iff w_frames).mpr ⟨w_running, w_runnable, w_alone, w_named, w_hears, w_ripe, w_room, w_tables⟩
theorem atStart : AtStart classFile x code maxLocals ret World_1 tables_1 room_1 Calls_1 rest_1 Pre_1 launch0 p0 e0 about1 theMethod args0 below0 :=
  ⟨lists_1, trivial, launch0.admits_env _ _ _, launch0.least_env, fairChoices_fair.cas, fairChoices_fair.clock, w_frames, w_args, w_heap, w_applies, trivial, trivial, w_case⟩
end start1
theorem witness_1 : WitnessClaimed_1 := ⟨start1.p0, start1.e0, start1.about1, start1.theMethod, start1.args0, start1.below0, start1.atStart⟩
end Jvm.Pilot.@@N@@
