import JvmDerived
import JvmDerived.Pilot.@@N@@Statement
import JvmDerived.Pilot.@@N@@Code
set_option linter.unusedVariables false
set_option linter.unusedSimpArgs false
namespace Jvm.Pilot.@@N@@
open Jvm Jvm.ClassFile Sem Op Lib Jvm.Free Jvm.Stand Jvm.LawKit Jvm.RoadKit Bundle Jvm.Pilot.@@N@@.Jvm.D
section OwnGo
variable {p : Program} {l : Launch} {e : Env} {R : Room} {s : State} {m : MethodId} {args : Array Value} {below : List Frame} {meth : Method} {c : Code} {T : State} {locs : List Loc} {cells slots : Nat}
/-- from S the run ends, returned, with Q -/
def own_Go (p : Program) (e : Env) (below : List Frame) (s : State) (Q : Option Value → Heap → List Loc → Prop) (cs ss : Nat) (S : State) : Prop :=
  ∃ (U : State) (o : Outcome), Steps p.tables e below S U ∧ U.status = .running ∧ Ended U below o ∧ ∃ v L, o = .returned v ∧ Q v U.heap L ∧ FrameEnd s o U L cs ss
variable {Q : Option Value → Heap → List Loc → Prop} {cs ss : Nat} {S S' : State}
theorem own_via (st : ∀ t, Steps p.tables e below S' t → Steps p.tables e below S t) (k : own_Go p e below s Q cs ss S') : own_Go p e below s Q cs ss S := by
  obtain ⟨U, o, h, r⟩ := k; exact ⟨U, o, st U h, r⟩
theorem own_viaT (st : Steps p.tables e below S S') (k : own_Go p e below s Q cs ss S') : own_Go p e below s Q cs ss S := own_via (fun _ h => st.trans h) k
theorem own_goV (X : Stand p l e R s m args below meth c T locs cells slots) (hx : p.tables.exec = Jvm.exec) {pc : Nat} {Ls : Array Slot} (hret : meth.sig.returnType = none) (hd : decode c.code pc = .ok (.return_, 1)) (hk : meth.locks = false) (hc : cells ≤ cs) (hs : slots ≤ ss) (hQ : Q none T.heap locs) :
    own_Go p e below s Q cs ss (T.setTop (mkF m pc Ls [])) := by
  obtain ⟨fs, hr, hrun, hended, hW, hsame⟩ := X.leave (v := none) (fun _ => rfl) hk
  exact ⟨_, _, X.returnOut hx hret hd hr, hrun, hended, _, _, rfl, hQ, ⟨_, rfl⟩, hW, hsame.mono hc hs⟩
theorem own_goN (X : Stand p l e R s m args below meth c T locs cells slots) (hx : p.tables.exec = Jvm.exec) {pc : Nat} {Ls : Array Slot} {z : Int32} {t : FieldType} {rest : List Value} (hret : meth.sig.returnType = some t) (ht : t = .boolean ∨ t = .byte ∨ t = .char ∨ t = .short) (hd : decode c.code pc = .ok (.ireturn, 1)) (hk : meth.locks = false) (hc : cells ≤ cs) (hs : slots ≤ ss) (hQ : Q (some (.int (nar t z))) T.heap locs) :
    own_Go p e below s Q cs ss (T.setTop (mkF m pc Ls (.int z :: rest))) := by
  obtain ⟨fs, hr, hrun, hended, hW, hsame⟩ := X.leave (v := some (.int (nar t z))) (fun h => by rw [hret] at h; cases h) hk
  exact ⟨_, _, retN X hx hret ht hd hr, hrun, hended, _, _, rfl, hQ, ⟨_, rfl⟩, hW, hsame.mono hc hs⟩
theorem own_goI (X : Stand p l e R s m args below meth c T locs cells slots) (hx : p.tables.exec = Jvm.exec) {pc : Nat} {Ls : Array Slot} {z : Int32} (hret : meth.sig.returnType = some .int) (hd : decode c.code pc = .ok (.ireturn, 1)) (hk : meth.locks = false) (hc : cells ≤ cs) (hs : slots ≤ ss) (hQ : Q (some (.int z)) T.heap locs) :
    own_Go p e below s Q cs ss (T.setTop (mkF m pc Ls [.int z])) := by
  obtain ⟨fs, hr, hrun, hended, hW, hsame⟩ := X.leave (v := some (.int z)) (fun h => by rw [hret] at h; cases h) hk
  exact ⟨_, _, X.ireturnOut hx hret rfl (Or.inl rfl) hd hr, hrun, hended, _, _, rfl, hQ, ⟨_, rfl⟩, hW, hsame.mono hc hs⟩
theorem own_goJ (X : Stand p l e R s m args below meth c T locs cells slots) (hx : p.tables.exec = Jvm.exec) {pc : Nat} {Ls : Array Slot} {z : Int64} (hret : meth.sig.returnType = some .long) (hd : decode c.code pc = .ok (.lreturn, 1)) (hk : meth.locks = false) (hc : cells ≤ cs) (hs : slots ≤ ss) (hQ : Q (some (.long z)) T.heap locs) :
    own_Go p e below s Q cs ss (T.setTop (mkF m pc Ls [.long z])) := by
  obtain ⟨fs, hr, hrun, hended, hW, hsame⟩ := X.leave (v := some (.long z)) (fun h => by rw [hret] at h; cases h) hk
  exact ⟨_, _, X.lreturnOut hx hret hd hr, hrun, hended, _, _, rfl, hQ, ⟨_, rfl⟩, hW, hsame.mono hc hs⟩
theorem own_goA (X : Stand p l e R s m args below meth c T locs cells slots) (hx : p.tables.exec = Jvm.exec) {pc : Nat} {Ls : Array Slot} {w : Value} {t : FieldType} (hw : w.isRef = true) (hret : meth.sig.returnType = some t) (ht : t.isReference = true) (hd : decode c.code pc = .ok (.areturn, 1)) (hk : meth.locks = false) (hc : cells ≤ cs) (hs : slots ≤ ss) (hQ : Q (some w) T.heap locs) :
    own_Go p e below s Q cs ss (T.setTop (mkF m pc Ls [w])) := by
  obtain ⟨fs, hr, hrun, hended, hW, hsame⟩ := X.leave (v := some w) (fun h => by rw [hret] at h; cases h) hk
  exact ⟨_, _, X.areturnOut hx hw hret ht hd hr, hrun, hended, _, _, rfl, hQ, ⟨_, rfl⟩, hW, hsame.mono hc hs⟩
theorem own_selP {s : State} {args : Array Value} {y y' : MethodName} (hs : (Cond.selects y'.cls y' y').before args s = true) (hc : y'.cls = y.cls) (hpriv : s.PrivateAt y) (hinst : (Cond.instanceMethod y).before args s = true) (hy : y.cls ≠ "java/lang/invoke/MethodHandle" ∧ y.cls ≠ "java/lang/invoke/VarHandle") : (Cond.selects y.cls y y).before args s = true := by
  obtain ⟨c2, r2, m2, -, -, q3, -, kP, hkP, hkPi⟩ := Cond.selects_spec hs
  exact selects_self_of_private (hc ▸ findClass_of_methodNamed q3) hkP hkPi hpriv hinst hy
end OwnGo
def o_i2l (x : Int32) : Int64 := x.toInt64
def o_l2i (x : Int64) : Int32 := x.toInt32
def o_i2b (x : Int32) : Int32 := x.toInt8.toInt32
def o_i2s (x : Int32) : Int32 := x.toInt16.toInt32
def o_i2c (x : Int32) : Int32 := x.toUInt32.toUInt16.toUInt32.toInt32
def o_ishl (x y : Int32) : Int32 := x <<< (y &&& 31)
def o_ishr (x y : Int32) : Int32 := x >>> (y &&& 31)
def o_iushr (x y : Int32) : Int32 := (x.toUInt32 >>> (y &&& 31).toUInt32).toInt32
def o_lshl (x : Int64) (y : Int32) : Int64 := x <<< (y &&& 0x3f).toInt64
def o_lshr (x : Int64) (y : Int32) : Int64 := x >>> (y &&& 0x3f).toInt64
def o_lushr (x : Int64) (y : Int32) : Int64 := (x.toUInt64 >>> (y &&& 0x3f).toInt64.toUInt64).toInt64
def o_irem (x y : Int32) : Int32 := x - (x / y) * y
def o_lrem (x y : Int64) : Int64 := x - (x / y) * y
def o_d0 : UInt64 := FP.dconst0
def o_d1 : UInt64 := FP.dconst1

theorem own_or32 (n : Nat) : n ||| 32 = n + 32 - 32 * (n / 32 % 2) := by
  have h1 : (n ||| 32) / 2 ^ 6 = n / 2 ^ 6 := by rw [Nat.or_div_two_pow]; simp
  have h2 : (n ||| 32) % 2 ^ 6 = (n % 2 ^ 6) ||| 32 := by rw [Nat.or_mod_two_pow]
  have h3 : ∀ r : Fin 64, r.val ||| 32 = r.val + 32 - 32 * (r.val / 32 % 2) := by decide +kernel
  have h4 := h3 ⟨n % 64, Nat.mod_lt _ (by decide)⟩
  have h5 := Nat.div_add_mod (n ||| 32) 64
  have h6 := Nat.div_add_mod n 64
  simp only [show (2 : Nat) ^ 6 = 64 from rfl] at h1 h2
  simp only at h4
  omega
theorem own_nat (c : Int32) (h : 0 ≤ c.toInt) : (c.toBitVec.toNat : Int) = c.toInt := by
  have := BitVec.toInt_eq_toNat_cond c.toBitVec
  have h2 : c.toBitVec.toInt = c.toInt := rfl
  have := c.toBitVec.isLt
  split at * <;> omega
theorem own_or32i (c : Int32) (h0 : 0 ≤ c.toInt) (h1 : c.toInt < 65536) : (c ||| 32).toInt = c.toInt + 32 - 32 * (c.toInt / 32 % 2) := by
  have e1 : (c ||| 32).toBitVec.toNat = c.toBitVec.toNat ||| 32 := by rw [Int32.toBitVec_or, BitVec.toNat_or]; rfl
  have e2 := own_nat c h0
  have e3 := own_or32 c.toBitVec.toNat
  have e4 := BitVec.toInt_eq_toNat_cond (c ||| 32).toBitVec
  have e5 : (c ||| 32).toBitVec.toInt = (c ||| 32).toInt := rfl
  have e6 : c.toBitVec.toNat < 65536 := by omega
  rw [e3] at e1
  split at e4 <;> omega
theorem d2_0 : decode prog_37_method_2_code 0 = .ok (.iload_n 0, 1) := by decide +kernel
theorem d2_1 : decode prog_37_method_2_code 1 = .ok (.bipush 95, 2) := by decide +kernel
theorem d2_3 : decode prog_37_method_2_code 3 = .ok (.if_icmp .eq 27, 3) := by decide +kernel
theorem d2_30 : decode prog_37_method_2_code 30 = .ok (.iconst 1, 1) := by decide +kernel
theorem d2_31 : decode prog_37_method_2_code 31 = .ok (.goto 4, 3) := by decide +kernel
theorem d2_35 : decode prog_37_method_2_code 35 = .ok (.ireturn, 1) := by decide +kernel
theorem d2_6 : decode prog_37_method_2_code 6 = .ok (.iload_n 0, 1) := by decide +kernel
theorem d2_7 : decode prog_37_method_2_code 7 = .ok (.bipush 97, 2) := by decide +kernel
theorem d2_9 : decode prog_37_method_2_code 9 = .ok (.if_icmp .lt 9, 3) := by decide +kernel
theorem d2_18 : decode prog_37_method_2_code 18 = .ok (.iload_n 0, 1) := by decide +kernel
theorem d2_19 : decode prog_37_method_2_code 19 = .ok (.bipush 65, 2) := by decide +kernel
theorem d2_21 : decode prog_37_method_2_code 21 = .ok (.if_icmp .lt 13, 3) := by decide +kernel
theorem d2_34 : decode prog_37_method_2_code 34 = .ok (.iconst 0, 1) := by decide +kernel
theorem d2_24 : decode prog_37_method_2_code 24 = .ok (.iload_n 0, 1) := by decide +kernel
theorem d2_25 : decode prog_37_method_2_code 25 = .ok (.bipush 90, 2) := by decide +kernel
theorem d2_27 : decode prog_37_method_2_code 27 = .ok (.if_icmp .gt 7, 3) := by decide +kernel
theorem d2_12 : decode prog_37_method_2_code 12 = .ok (.iload_n 0, 1) := by decide +kernel
theorem d2_13 : decode prog_37_method_2_code 13 = .ok (.bipush 122, 2) := by decide +kernel
theorem d2_15 : decode prog_37_method_2_code 15 = .ok (.if_icmp .le 15, 3) := by decide +kernel
def own_f (p0 : Int32) : Int32 := (if p0 = (95 : Int32) then (1 : Int32) else (if p0 < (97 : Int32) then (if p0 < (65 : Int32) then (0 : Int32) else (if (90 : Int32) < p0 then (0 : Int32) else (1 : Int32))) else (if (122 : Int32) < p0 then (if p0 < (65 : Int32) then (0 : Int32) else (if (90 : Int32) < p0 then (0 : Int32) else (1 : Int32))) else (1 : Int32))))
theorem pn_0 : plainName "com/example/asynchronous_synthesis/asynchronoussynthesis/ltl/LtlSyntax" = true := by first | (simp [plainName, overriddenIn]; done) | decide +kernel
theorem ef_2 (m : MethodId) (x0 : Int32) : entryFrame m #[(.int x0)] 1 = mkF m 0 #[.val (.int x0)] [] := by first | (simp [entryFrame, mkF, argsToLocals, Value.category]; done) | rfl
def Q2 (Z : State) (p0 : Int32) (h0 : Heap) (n0 : Nat) (v : Option Value) (h : Heap) (L : List Loc) : Prop := v = some (.int (own_f p0)) ∧ Fr n0 L ∧ h = h0
set_option maxRecDepth 65536 in
set_option maxHeartbeats 40000000 in
theorem rm2 (l : Launch) (Z : State) (a0 : Array Value) (hw : ∀ d ∈ tables_1, d.before a0 Z = true) (ws : List Jvm.Cond) (p0 : Int32) (h0 : Heap) (n0 : Nat) (Z0 : n0 ≤ h0.size) :
    MetFree l (⟨"com/example/asynchronous_synthesis/asynchronoussynthesis/ltl/LtlSyntax", "isNameStart", "(C)Z"⟩ : MethodName) (head1 (Jvm.Cond.code (⟨"com/example/asynchronous_synthesis/asynchronoussynthesis/ltl/LtlSyntax", "isNameStart", "(C)Z"⟩ : MethodName) prog_37_method_2_code 1 (some .boolean) :: ws) ({ frames := 0, cells := 0, slots := 0, locals := 0 } : Room)) (fun q_ U => q_ = #[(.int p0)] ∧ Z.Warmed39 U.vm ∧ U.heap = h0) (fun _ _ _ _ _ => True) (fun _ U o U' => ∃ v L, o = .returned v ∧ Q2 Z p0 h0 n0 v U'.heap L ∧ FrameEnd U o U' L ({ frames := 0, cells := 0, slots := 0, locals := 0 } : Room).cells ({ frames := 0, cells := 0, slots := 0, locals := 0 } : Room).slots) := by
  refine MetFree.of_bodySF (plainFor_of_name pn_0) hisR ?_
  intro p e s m args below meth c s₁ Bd hml0 hP hK
  obtain ⟨rfl, hZ, hh⟩ := hP
  have hx := Bd.exec
  have hby := Bd.bytes
  have hml : c.maxLocals = 1 := hml0
  have hown : s.vm.findClass "com/example/asynchronous_synthesis/asynchronoussynthesis/ltl/LtlSyntax" = some m.cls := findClass_of_methodNamed Bd.named
  have hnm := (name_of_methodNamed Bd.named Bd.method).1
  have X0 : Stand p l e ({ frames := 0, cells := 0, slots := 0, locals := 0 } : Room) s m #[(.int p0)] below meth c s₁ [] 0 0 := Stand.of_body Bd
  have e0 : s₁.heap = h0 := by rw [← hh, Bd.state]; rfl
  have N0 := Fr.nil n0
  show own_Go p e below s (Q2 Z p0 h0 n0) ({ frames := 0, cells := 0, slots := 0, locals := 0 } : Room).cells ({ frames := 0, cells := 0, slots := 0, locals := 0 } : Room).slots (s₁.setTop (entryFrame m #[(.int p0)] 1))
  refine own_via (fun t k => castTop (ef_2 m p0) k) ?_
  show own_Go p e below s _ _ _ (s₁.setTop (mkF m 0 #[.val (.int p0)] []))
  refine own_via (fun _ k => XS.iloadN X0.here hx rfl (hb hby d2_0) rfl k) ?_
  show own_Go p e below s _ _ _ (s₁.setTop (mkF m 1 #[.val (.int p0)] [(.int p0)]))
  refine own_via (fun _ k => XS.bipush X0.here hx rfl (hb hby d2_1) k) ?_
  show own_Go p e below s _ _ _ (s₁.setTop (mkF m 3 #[.val (.int p0)] [(.int (95 : Int32)), (.int p0)]))
  by_cases hc1 : p0 = (95 : Int32)
  · refine own_via (fun _ k => XS.icmpYes X0.here hx rfl (pc0 := 3) (pc' := 30) rfl (hb hby d2_3) rfl (Jvm.Free.XT.ii_eq_t hc1) (by decide) (by decide) k) ?_
    show own_Go p e below s _ _ _ (s₁.setTop (mkF m 30 #[.val (.int p0)] []))
    refine own_via (fun _ k => XS.iconst X0.here hx rfl (hb hby d2_30) k) ?_
    show own_Go p e below s _ _ _ (s₁.setTop (mkF m 31 #[.val (.int p0)] [(.int (1 : Int32))]))
    refine own_via (fun _ k => XS.goto X0.here hx rfl (pc0 := 31) (pc' := 35) rfl (hb hby d2_31) (by decide) (by decide) k) ?_
    show own_Go p e below s _ _ _ (s₁.setTop (mkF m 35 #[.val (.int p0)] [(.int (1 : Int32))]))
    exact own_goN X0 hx (t := .boolean) Bd.returns (by simp) (hb hby d2_35) Bd.notSynchronized (by decide) (by decide) (by rw [e0]; exact ⟨by rw [own_f, if_pos hc1] <;> rfl, N0, rfl⟩)
  · refine own_via (fun _ k => XS.icmpNo X0.here hx rfl (hb hby d2_3) rfl (Jvm.Free.XT.ii_eq_f hc1) k) ?_
    show own_Go p e below s _ _ _ (s₁.setTop (mkF m 6 #[.val (.int p0)] []))
    refine own_via (fun _ k => XS.iloadN X0.here hx rfl (hb hby d2_6) rfl k) ?_
    show own_Go p e below s _ _ _ (s₁.setTop (mkF m 7 #[.val (.int p0)] [(.int p0)]))
    refine own_via (fun _ k => XS.bipush X0.here hx rfl (hb hby d2_7) k) ?_
    show own_Go p e below s _ _ _ (s₁.setTop (mkF m 9 #[.val (.int p0)] [(.int (97 : Int32)), (.int p0)]))
    by_cases hc2 : p0 < (97 : Int32)
    · refine own_via (fun _ k => XS.icmpYes X0.here hx rfl (pc0 := 9) (pc' := 18) rfl (hb hby d2_9) rfl (Jvm.Free.XT.ii_lt_t hc2) (by decide) (by decide) k) ?_
      show own_Go p e below s _ _ _ (s₁.setTop (mkF m 18 #[.val (.int p0)] []))
      refine own_via (fun _ k => XS.iloadN X0.here hx rfl (hb hby d2_18) rfl k) ?_
      show own_Go p e below s _ _ _ (s₁.setTop (mkF m 19 #[.val (.int p0)] [(.int p0)]))
      refine own_via (fun _ k => XS.bipush X0.here hx rfl (hb hby d2_19) k) ?_
      show own_Go p e below s _ _ _ (s₁.setTop (mkF m 21 #[.val (.int p0)] [(.int (65 : Int32)), (.int p0)]))
      by_cases hc3 : p0 < (65 : Int32)
      · refine own_via (fun _ k => XS.icmpYes X0.here hx rfl (pc0 := 21) (pc' := 34) rfl (hb hby d2_21) rfl (Jvm.Free.XT.ii_lt_t hc3) (by decide) (by decide) k) ?_
        show own_Go p e below s _ _ _ (s₁.setTop (mkF m 34 #[.val (.int p0)] []))
        refine own_via (fun _ k => XS.iconst X0.here hx rfl (hb hby d2_34) k) ?_
        show own_Go p e below s _ _ _ (s₁.setTop (mkF m 35 #[.val (.int p0)] [(.int (0 : Int32))]))
        exact own_goN X0 hx (t := .boolean) Bd.returns (by simp) (hb hby d2_35) Bd.notSynchronized (by decide) (by decide) (by rw [e0]; exact ⟨by rw [own_f, if_neg hc1, if_pos hc2, if_pos hc3] <;> rfl, N0, rfl⟩)
      · refine own_via (fun _ k => XS.icmpNo X0.here hx rfl (hb hby d2_21) rfl (Jvm.Free.XT.ii_lt_f hc3) k) ?_
        show own_Go p e below s _ _ _ (s₁.setTop (mkF m 24 #[.val (.int p0)] []))
        refine own_via (fun _ k => XS.iloadN X0.here hx rfl (hb hby d2_24) rfl k) ?_
        show own_Go p e below s _ _ _ (s₁.setTop (mkF m 25 #[.val (.int p0)] [(.int p0)]))
        refine own_via (fun _ k => XS.bipush X0.here hx rfl (hb hby d2_25) k) ?_
        show own_Go p e below s _ _ _ (s₁.setTop (mkF m 27 #[.val (.int p0)] [(.int (90 : Int32)), (.int p0)]))
        by_cases hc4 : (90 : Int32) < p0
        · refine own_via (fun _ k => XS.icmpYes X0.here hx rfl (pc0 := 27) (pc' := 34) rfl (hb hby d2_27) rfl (Jvm.Free.XT.ii_gt_t hc4) (by decide) (by decide) k) ?_
          show own_Go p e below s _ _ _ (s₁.setTop (mkF m 34 #[.val (.int p0)] []))
          refine own_via (fun _ k => XS.iconst X0.here hx rfl (hb hby d2_34) k) ?_
          show own_Go p e below s _ _ _ (s₁.setTop (mkF m 35 #[.val (.int p0)] [(.int (0 : Int32))]))
          exact own_goN X0 hx (t := .boolean) Bd.returns (by simp) (hb hby d2_35) Bd.notSynchronized (by decide) (by decide) (by rw [e0]; exact ⟨by rw [own_f, if_neg hc1, if_pos hc2, if_neg hc3, if_pos hc4] <;> rfl, N0, rfl⟩)
        · refine own_via (fun _ k => XS.icmpNo X0.here hx rfl (hb hby d2_27) rfl (Jvm.Free.XT.ii_gt_f hc4) k) ?_
          show own_Go p e below s _ _ _ (s₁.setTop (mkF m 30 #[.val (.int p0)] []))
          refine own_via (fun _ k => XS.iconst X0.here hx rfl (hb hby d2_30) k) ?_
          show own_Go p e below s _ _ _ (s₁.setTop (mkF m 31 #[.val (.int p0)] [(.int (1 : Int32))]))
          refine own_via (fun _ k => XS.goto X0.here hx rfl (pc0 := 31) (pc' := 35) rfl (hb hby d2_31) (by decide) (by decide) k) ?_
          show own_Go p e below s _ _ _ (s₁.setTop (mkF m 35 #[.val (.int p0)] [(.int (1 : Int32))]))
          exact own_goN X0 hx (t := .boolean) Bd.returns (by simp) (hb hby d2_35) Bd.notSynchronized (by decide) (by decide) (by rw [e0]; exact ⟨by rw [own_f, if_neg hc1, if_pos hc2, if_neg hc3, if_neg hc4] <;> rfl, N0, rfl⟩)
    · refine own_via (fun _ k => XS.icmpNo X0.here hx rfl (hb hby d2_9) rfl (Jvm.Free.XT.ii_lt_f hc2) k) ?_
      show own_Go p e below s _ _ _ (s₁.setTop (mkF m 12 #[.val (.int p0)] []))
      refine own_via (fun _ k => XS.iloadN X0.here hx rfl (hb hby d2_12) rfl k) ?_
      show own_Go p e below s _ _ _ (s₁.setTop (mkF m 13 #[.val (.int p0)] [(.int p0)]))
      refine own_via (fun _ k => XS.bipush X0.here hx rfl (hb hby d2_13) k) ?_
      show own_Go p e below s _ _ _ (s₁.setTop (mkF m 15 #[.val (.int p0)] [(.int (122 : Int32)), (.int p0)]))
      by_cases hc5 : (122 : Int32) < p0
      · refine own_via (fun _ k => XS.icmpNo X0.here hx rfl (hb hby d2_15) rfl (Jvm.Free.XT.ii_le_f hc5) k) ?_
        show own_Go p e below s _ _ _ (s₁.setTop (mkF m 18 #[.val (.int p0)] []))
        refine own_via (fun _ k => XS.iloadN X0.here hx rfl (hb hby d2_18) rfl k) ?_
        show own_Go p e below s _ _ _ (s₁.setTop (mkF m 19 #[.val (.int p0)] [(.int p0)]))
        refine own_via (fun _ k => XS.bipush X0.here hx rfl (hb hby d2_19) k) ?_
        show own_Go p e below s _ _ _ (s₁.setTop (mkF m 21 #[.val (.int p0)] [(.int (65 : Int32)), (.int p0)]))
        by_cases hc6 : p0 < (65 : Int32)
        · refine own_via (fun _ k => XS.icmpYes X0.here hx rfl (pc0 := 21) (pc' := 34) rfl (hb hby d2_21) rfl (Jvm.Free.XT.ii_lt_t hc6) (by decide) (by decide) k) ?_
          show own_Go p e below s _ _ _ (s₁.setTop (mkF m 34 #[.val (.int p0)] []))
          refine own_via (fun _ k => XS.iconst X0.here hx rfl (hb hby d2_34) k) ?_
          show own_Go p e below s _ _ _ (s₁.setTop (mkF m 35 #[.val (.int p0)] [(.int (0 : Int32))]))
          exact own_goN X0 hx (t := .boolean) Bd.returns (by simp) (hb hby d2_35) Bd.notSynchronized (by decide) (by decide) (by rw [e0]; exact ⟨by rw [own_f, if_neg hc1, if_neg hc2, if_pos hc5, if_pos hc6] <;> rfl, N0, rfl⟩)
        · refine own_via (fun _ k => XS.icmpNo X0.here hx rfl (hb hby d2_21) rfl (Jvm.Free.XT.ii_lt_f hc6) k) ?_
          show own_Go p e below s _ _ _ (s₁.setTop (mkF m 24 #[.val (.int p0)] []))
          refine own_via (fun _ k => XS.iloadN X0.here hx rfl (hb hby d2_24) rfl k) ?_
          show own_Go p e below s _ _ _ (s₁.setTop (mkF m 25 #[.val (.int p0)] [(.int p0)]))
          refine own_via (fun _ k => XS.bipush X0.here hx rfl (hb hby d2_25) k) ?_
          show own_Go p e below s _ _ _ (s₁.setTop (mkF m 27 #[.val (.int p0)] [(.int (90 : Int32)), (.int p0)]))
          by_cases hc7 : (90 : Int32) < p0
          · refine own_via (fun _ k => XS.icmpYes X0.here hx rfl (pc0 := 27) (pc' := 34) rfl (hb hby d2_27) rfl (Jvm.Free.XT.ii_gt_t hc7) (by decide) (by decide) k) ?_
            show own_Go p e below s _ _ _ (s₁.setTop (mkF m 34 #[.val (.int p0)] []))
            refine own_via (fun _ k => XS.iconst X0.here hx rfl (hb hby d2_34) k) ?_
            show own_Go p e below s _ _ _ (s₁.setTop (mkF m 35 #[.val (.int p0)] [(.int (0 : Int32))]))
            exact own_goN X0 hx (t := .boolean) Bd.returns (by simp) (hb hby d2_35) Bd.notSynchronized (by decide) (by decide) (by rw [e0]; exact ⟨by rw [own_f, if_neg hc1, if_neg hc2, if_pos hc5, if_neg hc6, if_pos hc7] <;> rfl, N0, rfl⟩)
          · refine own_via (fun _ k => XS.icmpNo X0.here hx rfl (hb hby d2_27) rfl (Jvm.Free.XT.ii_gt_f hc7) k) ?_
            show own_Go p e below s _ _ _ (s₁.setTop (mkF m 30 #[.val (.int p0)] []))
            refine own_via (fun _ k => XS.iconst X0.here hx rfl (hb hby d2_30) k) ?_
            show own_Go p e below s _ _ _ (s₁.setTop (mkF m 31 #[.val (.int p0)] [(.int (1 : Int32))]))
            refine own_via (fun _ k => XS.goto X0.here hx rfl (pc0 := 31) (pc' := 35) rfl (hb hby d2_31) (by decide) (by decide) k) ?_
            show own_Go p e below s _ _ _ (s₁.setTop (mkF m 35 #[.val (.int p0)] [(.int (1 : Int32))]))
            exact own_goN X0 hx (t := .boolean) Bd.returns (by simp) (hb hby d2_35) Bd.notSynchronized (by decide) (by decide) (by rw [e0]; exact ⟨by rw [own_f, if_neg hc1, if_neg hc2, if_pos hc5, if_neg hc6, if_neg hc7] <;> rfl, N0, rfl⟩)
      · refine own_via (fun _ k => XS.icmpYes X0.here hx rfl (pc0 := 15) (pc' := 30) rfl (hb hby d2_15) rfl (Jvm.Free.XT.ii_le_t hc5) (by decide) (by decide) k) ?_
        show own_Go p e below s _ _ _ (s₁.setTop (mkF m 30 #[.val (.int p0)] []))
        refine own_via (fun _ k => XS.iconst X0.here hx rfl (hb hby d2_30) k) ?_
        show own_Go p e below s _ _ _ (s₁.setTop (mkF m 31 #[.val (.int p0)] [(.int (1 : Int32))]))
        refine own_via (fun _ k => XS.goto X0.here hx rfl (pc0 := 31) (pc' := 35) rfl (hb hby d2_31) (by decide) (by decide) k) ?_
        show own_Go p e below s _ _ _ (s₁.setTop (mkF m 35 #[.val (.int p0)] [(.int (1 : Int32))]))
        exact own_goN X0 hx (t := .boolean) Bd.returns (by simp) (hb hby d2_35) Bd.notSynchronized (by decide) (by decide) (by rw [e0]; exact ⟨by rw [own_f, if_neg hc1, if_neg hc2, if_neg hc5] <;> rfl, N0, rfl⟩)
theorem d1_0 : decode prog_37_method_3_code 0 = .ok (.iload_n 0, 1) := by decide +kernel
theorem pd_0 : parseMethodDescriptor "(C)Z" = some ⟨[.char], some .boolean⟩ := by decide +kernel
theorem d1_1 : decode prog_37_method_3_code 1 = .ok (.invokestatic 7, 3) := by decide +kernel
theorem d1_4 : decode prog_37_method_3_code 4 = .ok (.ifCond .ne 21, 3) := by decide +kernel
theorem d1_7 : decode prog_37_method_3_code 7 = .ok (.iload_n 0, 1) := by decide +kernel
theorem d1_8 : decode prog_37_method_3_code 8 = .ok (.bipush 48, 2) := by decide +kernel
theorem d1_10 : decode prog_37_method_3_code 10 = .ok (.if_icmp .lt 9, 3) := by decide +kernel
theorem d1_19 : decode prog_37_method_3_code 19 = .ok (.iload_n 0, 1) := by decide +kernel
theorem d1_20 : decode prog_37_method_3_code 20 = .ok (.bipush 46, 2) := by decide +kernel
theorem d1_22 : decode prog_37_method_3_code 22 = .ok (.if_icmp .ne 7, 3) := by decide +kernel
theorem d1_25 : decode prog_37_method_3_code 25 = .ok (.iconst 1, 1) := by decide +kernel
theorem d1_26 : decode prog_37_method_3_code 26 = .ok (.goto 4, 3) := by decide +kernel
theorem d1_30 : decode prog_37_method_3_code 30 = .ok (.ireturn, 1) := by decide +kernel
theorem d1_29 : decode prog_37_method_3_code 29 = .ok (.iconst 0, 1) := by decide +kernel
theorem d1_13 : decode prog_37_method_3_code 13 = .ok (.iload_n 0, 1) := by decide +kernel
theorem d1_14 : decode prog_37_method_3_code 14 = .ok (.bipush 57, 2) := by decide +kernel
theorem d1_16 : decode prog_37_method_3_code 16 = .ok (.if_icmp .le 9, 3) := by decide +kernel
def own_g (p0 : Int32) : Int32 := (if (own_f p0) = (0 : Int32) then (if p0 < (48 : Int32) then (if p0 = (46 : Int32) then (1 : Int32) else (0 : Int32)) else (if (57 : Int32) < p0 then (if p0 = (46 : Int32) then (1 : Int32) else (0 : Int32)) else (1 : Int32))) else (1 : Int32))
theorem ef_1 (m : MethodId) (x0 : Int32) : entryFrame m #[(.int x0)] 1 = mkF m 0 #[.val (.int x0)] [] := by first | (simp [entryFrame, mkF, argsToLocals, Value.category]; done) | rfl
def Q1 (Z : State) (p0 : Int32) (h0 : Heap) (n0 : Nat) (v : Option Value) (h : Heap) (L : List Loc) : Prop := v = some (.int (own_g p0)) ∧ Fr n0 L ∧ h = h0
set_option maxRecDepth 65536 in
set_option maxHeartbeats 40000000 in
theorem rm1 (l : Launch) (Z : State) (a0 : Array Value) (hw : ∀ d ∈ tables_1, d.before a0 Z = true) (ws : List Jvm.Cond) (p0 : Int32) (h0 : Heap) (n0 : Nat) (Z0 : n0 ≤ h0.size) :
    MetFree l (⟨"com/example/asynchronous_synthesis/asynchronoussynthesis/ltl/LtlSyntax", "isNamePart", "(C)Z"⟩ : MethodName) (head1 (Jvm.Cond.code (⟨"com/example/asynchronous_synthesis/asynchronoussynthesis/ltl/LtlSyntax", "isNamePart", "(C)Z"⟩ : MethodName) prog_37_method_3_code 1 (some .boolean) :: ws) ({ frames := 1, cells := 0, slots := 0, locals := 12 } : Room)) (fun q_ U => q_ = #[(.int p0)] ∧ Z.Warmed39 U.vm ∧ U.heap = h0) (fun _ _ _ _ _ => True) (fun _ U o U' => ∃ v L, o = .returned v ∧ Q1 Z p0 h0 n0 v U'.heap L ∧ FrameEnd U o U' L ({ frames := 1, cells := 0, slots := 0, locals := 12 } : Room).cells ({ frames := 1, cells := 0, slots := 0, locals := 12 } : Room).slots) := by
  refine MetFree.of_bodySF (plainFor_of_name pn_0) hisR ?_
  intro p e s m args below meth c s₁ Bd hml0 hP hK
  obtain ⟨rfl, hZ, hh⟩ := hP
  have hx := Bd.exec
  have hby := Bd.bytes
  have hml : c.maxLocals = 1 := hml0
  have hown : s.vm.findClass "com/example/asynchronous_synthesis/asynchronoussynthesis/ltl/LtlSyntax" = some m.cls := findClass_of_methodNamed Bd.named
  have hnm := (name_of_methodNamed Bd.named Bd.method).1
  have X0 : Stand p l e ({ frames := 1, cells := 0, slots := 0, locals := 12 } : Room) s m #[(.int p0)] below meth c s₁ [] 0 0 := Stand.of_body Bd
  have e0 : s₁.heap = h0 := by rw [← hh, Bd.state]; rfl
  have N0 := Fr.nil n0
  show own_Go p e below s (Q1 Z p0 h0 n0) ({ frames := 1, cells := 0, slots := 0, locals := 12 } : Room).cells ({ frames := 1, cells := 0, slots := 0, locals := 12 } : Room).slots (s₁.setTop (entryFrame m #[(.int p0)] 1))
  refine own_via (fun t k => castTop (ef_1 m p0) k) ?_
  show own_Go p e below s _ _ _ (s₁.setTop (mkF m 0 #[.val (.int p0)] []))
  refine own_via (fun _ k => XS.iloadN X0.here hx rfl (hb hby d1_0) rfl k) ?_
  show own_Go p e below s _ _ _ (s₁.setTop (mkF m 1 #[.val (.int p0)] [(.int p0)]))
  obtain ⟨_, _, ⟨T1, L1, k1, n1⟩, -, X1, ⟨Lc1, hQ1, l1, y1, z1⟩, st1⟩ := Jvm.LawKit.callS X0 hx (y := (⟨"com/example/asynchronous_synthesis/asynchronoussynthesis/ltl/LtlSyntax", "isNameStart", "(C)Z"⟩ : MethodName)) hown (mvT hZ (hw _ (List.mem_of_getElem? (i := 4) rfl))) (mvT hZ (hw _ (List.mem_of_getElem? (i := 5) rfl))) (mvT hZ (hw _ (List.mem_of_getElem? (i := 2) rfl))) (mvT hZ (hw _ (List.mem_of_getElem? (i := 6) rfl))) (by decide) (backOf (W := 0) (rm2 l Z a0 hw [] p0 h0 n0 Z0 ) hZ (hw _ (List.mem_of_getElem? (i := 6) rfl)) (hw _ (List.mem_of_getElem? (i := 2) rfl)) (by decide) (by decide)) (g := (mkF m 1 #[.val (.int p0)] [(.int p0)])) rfl (by rw [hml]; rfl) (argsL := [(.int p0)]) (rest := []) (lenOf pd_0 rfl) rfl (by show 2 * 0 + _ ≤ _; exact Nat.le_of_eq rfl) (hb hby d1_1) (fun _ _ => ⟨rfl, e0, (by decide : 0 + 0 ≤ _), (by decide : 0 + 0 ≤ _)⟩)
  dsimp only [Pt.U, Pt.locs, Pt.cells, Pt.slots] at X1 l1 y1 z1 st1 hQ1
  subst l1 y1 z1
  obtain ⟨rfl, N1q, e1⟩ := hQ1
  have N1 := Fr.app N0 N1q
  refine own_via st1 ?_
  show own_Go p e below s _ _ _ (T1.setTop (mkF m 4 #[.val (.int p0)] [(.int (own_f p0))]))
  by_cases hc2 : (own_f p0) = (0 : Int32)
  · refine own_via (fun _ k => XS.ifNo X1.here hx rfl (hb hby d1_4) rfl (Jvm.Free.XT.i0_ne_f hc2) k) ?_
    show own_Go p e below s _ _ _ (T1.setTop (mkF m 7 #[.val (.int p0)] []))
    refine own_via (fun _ k => XS.iloadN X1.here hx rfl (hb hby d1_7) rfl k) ?_
    show own_Go p e below s _ _ _ (T1.setTop (mkF m 8 #[.val (.int p0)] [(.int p0)]))
    refine own_via (fun _ k => XS.bipush X1.here hx rfl (hb hby d1_8) k) ?_
    show own_Go p e below s _ _ _ (T1.setTop (mkF m 10 #[.val (.int p0)] [(.int (48 : Int32)), (.int p0)]))
    by_cases hc3 : p0 < (48 : Int32)
    · refine own_via (fun _ k => XS.icmpYes X1.here hx rfl (pc0 := 10) (pc' := 19) rfl (hb hby d1_10) rfl (Jvm.Free.XT.ii_lt_t hc3) (by decide) (by decide) k) ?_
      show own_Go p e below s _ _ _ (T1.setTop (mkF m 19 #[.val (.int p0)] []))
      refine own_via (fun _ k => XS.iloadN X1.here hx rfl (hb hby d1_19) rfl k) ?_
      show own_Go p e below s _ _ _ (T1.setTop (mkF m 20 #[.val (.int p0)] [(.int p0)]))
      refine own_via (fun _ k => XS.bipush X1.here hx rfl (hb hby d1_20) k) ?_
      show own_Go p e below s _ _ _ (T1.setTop (mkF m 22 #[.val (.int p0)] [(.int (46 : Int32)), (.int p0)]))
      by_cases hc4 : p0 = (46 : Int32)
      · refine own_via (fun _ k => XS.icmpNo X1.here hx rfl (hb hby d1_22) rfl (Jvm.Free.XT.ii_ne_f hc4) k) ?_
        show own_Go p e below s _ _ _ (T1.setTop (mkF m 25 #[.val (.int p0)] []))
        refine own_via (fun _ k => XS.iconst X1.here hx rfl (hb hby d1_25) k) ?_
        show own_Go p e below s _ _ _ (T1.setTop (mkF m 26 #[.val (.int p0)] [(.int (1 : Int32))]))
        refine own_via (fun _ k => XS.goto X1.here hx rfl (pc0 := 26) (pc' := 30) rfl (hb hby d1_26) (by decide) (by decide) k) ?_
        show own_Go p e below s _ _ _ (T1.setTop (mkF m 30 #[.val (.int p0)] [(.int (1 : Int32))]))
        exact own_goN X1 hx (t := .boolean) Bd.returns (by simp) (hb hby d1_30) Bd.notSynchronized (by decide) (by decide) (by rw [e1]; exact ⟨by rw [own_g, if_pos hc2, if_pos hc3, if_pos hc4] <;> rfl, N1, rfl⟩)
      · refine own_via (fun _ k => XS.icmpYes X1.here hx rfl (pc0 := 22) (pc' := 29) rfl (hb hby d1_22) rfl (Jvm.Free.XT.ii_ne_t hc4) (by decide) (by decide) k) ?_
        show own_Go p e below s _ _ _ (T1.setTop (mkF m 29 #[.val (.int p0)] []))
        refine own_via (fun _ k => XS.iconst X1.here hx rfl (hb hby d1_29) k) ?_
        show own_Go p e below s _ _ _ (T1.setTop (mkF m 30 #[.val (.int p0)] [(.int (0 : Int32))]))
        exact own_goN X1 hx (t := .boolean) Bd.returns (by simp) (hb hby d1_30) Bd.notSynchronized (by decide) (by decide) (by rw [e1]; exact ⟨by rw [own_g, if_pos hc2, if_pos hc3, if_neg hc4] <;> rfl, N1, rfl⟩)
    · refine own_via (fun _ k => XS.icmpNo X1.here hx rfl (hb hby d1_10) rfl (Jvm.Free.XT.ii_lt_f hc3) k) ?_
      show own_Go p e below s _ _ _ (T1.setTop (mkF m 13 #[.val (.int p0)] []))
      refine own_via (fun _ k => XS.iloadN X1.here hx rfl (hb hby d1_13) rfl k) ?_
      show own_Go p e below s _ _ _ (T1.setTop (mkF m 14 #[.val (.int p0)] [(.int p0)]))
      refine own_via (fun _ k => XS.bipush X1.here hx rfl (hb hby d1_14) k) ?_
      show own_Go p e below s _ _ _ (T1.setTop (mkF m 16 #[.val (.int p0)] [(.int (57 : Int32)), (.int p0)]))
      by_cases hc5 : (57 : Int32) < p0
      · refine own_via (fun _ k => XS.icmpNo X1.here hx rfl (hb hby d1_16) rfl (Jvm.Free.XT.ii_le_f hc5) k) ?_
        show own_Go p e below s _ _ _ (T1.setTop (mkF m 19 #[.val (.int p0)] []))
        refine own_via (fun _ k => XS.iloadN X1.here hx rfl (hb hby d1_19) rfl k) ?_
        show own_Go p e below s _ _ _ (T1.setTop (mkF m 20 #[.val (.int p0)] [(.int p0)]))
        refine own_via (fun _ k => XS.bipush X1.here hx rfl (hb hby d1_20) k) ?_
        show own_Go p e below s _ _ _ (T1.setTop (mkF m 22 #[.val (.int p0)] [(.int (46 : Int32)), (.int p0)]))
        by_cases hc6 : p0 = (46 : Int32)
        · refine own_via (fun _ k => XS.icmpNo X1.here hx rfl (hb hby d1_22) rfl (Jvm.Free.XT.ii_ne_f hc6) k) ?_
          show own_Go p e below s _ _ _ (T1.setTop (mkF m 25 #[.val (.int p0)] []))
          refine own_via (fun _ k => XS.iconst X1.here hx rfl (hb hby d1_25) k) ?_
          show own_Go p e below s _ _ _ (T1.setTop (mkF m 26 #[.val (.int p0)] [(.int (1 : Int32))]))
          refine own_via (fun _ k => XS.goto X1.here hx rfl (pc0 := 26) (pc' := 30) rfl (hb hby d1_26) (by decide) (by decide) k) ?_
          show own_Go p e below s _ _ _ (T1.setTop (mkF m 30 #[.val (.int p0)] [(.int (1 : Int32))]))
          exact own_goN X1 hx (t := .boolean) Bd.returns (by simp) (hb hby d1_30) Bd.notSynchronized (by decide) (by decide) (by rw [e1]; exact ⟨by rw [own_g, if_pos hc2, if_neg hc3, if_pos hc5, if_pos hc6] <;> rfl, N1, rfl⟩)
        · refine own_via (fun _ k => XS.icmpYes X1.here hx rfl (pc0 := 22) (pc' := 29) rfl (hb hby d1_22) rfl (Jvm.Free.XT.ii_ne_t hc6) (by decide) (by decide) k) ?_
          show own_Go p e below s _ _ _ (T1.setTop (mkF m 29 #[.val (.int p0)] []))
          refine own_via (fun _ k => XS.iconst X1.here hx rfl (hb hby d1_29) k) ?_
          show own_Go p e below s _ _ _ (T1.setTop (mkF m 30 #[.val (.int p0)] [(.int (0 : Int32))]))
          exact own_goN X1 hx (t := .boolean) Bd.returns (by simp) (hb hby d1_30) Bd.notSynchronized (by decide) (by decide) (by rw [e1]; exact ⟨by rw [own_g, if_pos hc2, if_neg hc3, if_pos hc5, if_neg hc6] <;> rfl, N1, rfl⟩)
      · refine own_via (fun _ k => XS.icmpYes X1.here hx rfl (pc0 := 16) (pc' := 25) rfl (hb hby d1_16) rfl (Jvm.Free.XT.ii_le_t hc5) (by decide) (by decide) k) ?_
        show own_Go p e below s _ _ _ (T1.setTop (mkF m 25 #[.val (.int p0)] []))
        refine own_via (fun _ k => XS.iconst X1.here hx rfl (hb hby d1_25) k) ?_
        show own_Go p e below s _ _ _ (T1.setTop (mkF m 26 #[.val (.int p0)] [(.int (1 : Int32))]))
        refine own_via (fun _ k => XS.goto X1.here hx rfl (pc0 := 26) (pc' := 30) rfl (hb hby d1_26) (by decide) (by decide) k) ?_
        show own_Go p e below s _ _ _ (T1.setTop (mkF m 30 #[.val (.int p0)] [(.int (1 : Int32))]))
        exact own_goN X1 hx (t := .boolean) Bd.returns (by simp) (hb hby d1_30) Bd.notSynchronized (by decide) (by decide) (by rw [e1]; exact ⟨by rw [own_g, if_pos hc2, if_neg hc3, if_neg hc5] <;> rfl, N1, rfl⟩)
  · refine own_via (fun _ k => XS.ifYes X1.here hx rfl (pc0 := 4) (pc' := 25) rfl (hb hby d1_4) rfl (Jvm.Free.XT.i0_ne_t hc2) (by decide) (by decide) k) ?_
    show own_Go p e below s _ _ _ (T1.setTop (mkF m 25 #[.val (.int p0)] []))
    refine own_via (fun _ k => XS.iconst X1.here hx rfl (hb hby d1_25) k) ?_
    show own_Go p e below s _ _ _ (T1.setTop (mkF m 26 #[.val (.int p0)] [(.int (1 : Int32))]))
    refine own_via (fun _ k => XS.goto X1.here hx rfl (pc0 := 26) (pc' := 30) rfl (hb hby d1_26) (by decide) (by decide) k) ?_
    show own_Go p e below s _ _ _ (T1.setTop (mkF m 30 #[.val (.int p0)] [(.int (1 : Int32))]))
    exact own_goN X1 hx (t := .boolean) Bd.returns (by simp) (hb hby d1_30) Bd.notSynchronized (by decide) (by decide) (by rw [e1]; exact ⟨by rw [own_g, if_neg hc2] <;> rfl, N1, rfl⟩)

theorem own_plain (x : Int32) : own_g (o_i2c x) = (if (if ((o_i2c x ||| 32) - 97) < (0 : Int32) then (0 : Int32) else (if ((o_i2c x ||| 32) - 97) < (26 : Int32) then (1 : Int32) else (0 : Int32))) = (0 : Int32) then (if (if (o_i2c x - 48) < (0 : Int32) then (0 : Int32) else (if (o_i2c x - 48) < (10 : Int32) then (1 : Int32) else (0 : Int32))) = (0 : Int32) then (if o_i2c x = (95 : Int32) then (1 : Int32) else (if o_i2c x = (46 : Int32) then (1 : Int32) else (0 : Int32))) else (1 : Int32)) else (1 : Int32)) := by
  obtain ⟨-, h0, h1⟩ := c_i2c x
  change 0 ≤ (o_i2c x).toInt at h0
  change (o_i2c x).toInt < 65536 at h1
  generalize o_i2c x = c at *
  have h2 := own_or32i c h0 h1
  generalize c ||| 32 = d at *
  have h3 : (d - 97).toInt = d.toInt - 97 := by
    have := c_isub d 97; have := rng32 (d - 97); simp only [Int32.reduceToInt] at *; omega
  have h4 : (c - 48).toInt = c.toInt - 48 := by
    have := c_isub c 48; have := rng32 (c - 48); simp only [Int32.reduceToInt] at *; omega
  have e1 : own_f c = if (97 ≤ d.toInt ∧ d.toInt < 123) ∨ c.toInt = 95 then (1 : Int32) else 0 := by
    unfold own_f
    simp only [Int32.lt_iff_toInt_lt, ← Int32.toInt_inj, Int32.reduceToInt]
    split <;> (repeat' split) <;> first | rfl | (exfalso; simp_all; done) | (exfalso; omega) | (exfalso; simp_all; omega)
  have e2 : (if (d - 97) < (0 : Int32) then (0 : Int32) else (if (d - 97) < (26 : Int32) then (1 : Int32) else (0 : Int32))) = if (97 ≤ d.toInt ∧ d.toInt < 123) then (1 : Int32) else 0 := by
    simp only [Int32.lt_iff_toInt_lt, Int32.reduceToInt, h3]
    by_cases a : d.toInt - 97 < 0
    · rw [if_pos a, if_neg (by omega)]
    · rw [if_neg a]
      by_cases b : d.toInt - 97 < 26
      · rw [if_pos b, if_pos (by omega)]
      · rw [if_neg b, if_neg (by omega)]
  have e3 : (if (c - 48) < (0 : Int32) then (0 : Int32) else (if (c - 48) < (10 : Int32) then (1 : Int32) else (0 : Int32))) = if (48 ≤ c.toInt ∧ c.toInt < 58) then (1 : Int32) else 0 := by
    simp only [Int32.lt_iff_toInt_lt, Int32.reduceToInt, h4]
    by_cases a : c.toInt - 48 < 0
    · rw [if_pos a, if_neg (by omega)]
    · rw [if_neg a]
      by_cases b : c.toInt - 48 < 10
      · rw [if_pos b, if_pos (by omega)]
      · rw [if_neg b, if_neg (by omega)]
  unfold own_g
  rw [e1, e2, e3]
  have z : ((1 : Int32) = 0) ↔ False := by decide
  simp only [Int32.lt_iff_toInt_lt, ← Int32.toInt_inj (x := c), Int32.reduceToInt]
  by_cases A : 97 ≤ d.toInt ∧ d.toInt < 123
  · rw [if_pos (Or.inl A), if_pos A]; rfl
  · rw [if_neg A]
    by_cases B : c.toInt = 95
    · rw [if_pos (Or.inr B), if_neg (show ¬ (48 ≤ c.toInt ∧ c.toInt < 58) by omega), if_pos rfl, if_pos B]; rfl
    · rw [if_neg (show ¬ ((97 ≤ d.toInt ∧ d.toInt < 123) ∨ c.toInt = 95) by omega), if_pos rfl, if_pos rfl, if_neg B]
      by_cases C : c.toInt < 48
      · rw [if_pos C, if_neg (show ¬ (48 ≤ c.toInt ∧ c.toInt < 58) by omega), if_pos rfl]
      · rw [if_neg C]
        by_cases D : 57 < c.toInt
        · rw [if_pos D, if_neg (show ¬ (48 ≤ c.toInt ∧ c.toInt < 58) by omega), if_pos rfl]
        · rw [if_neg D, if_pos (show (48 ≤ c.toInt ∧ c.toInt < 58) by omega)]; rfl

theorem pn_1 : plainName "com/example/asynchronous_synthesis/asynchronoussynthesis/ltl/LtlSyntaxIsNamePartPinLaw" = true := by first | (simp [plainName, overriddenIn]; done) | decide +kernel
theorem ef_0 (m : MethodId) (x0 : Int32) : entryFrame m #[(.int x0)] maxLocals = mkF m 0 #[.val (.int x0), .unset, .unset, .unset, .unset, .unset, .unset] [] := by first | (simp [entryFrame, mkF, argsToLocals, Value.category, maxLocals]; done) | rfl
def Q0 (Z : State) (p0 : Int32) (h0 : Heap) (n0 : Nat) (v : Option Value) (h : Heap) (L : List Loc) : Prop := v = some (.int 1) ∧ Fr n0 L
set_option maxRecDepth 65536 in
set_option maxHeartbeats 40000000 in
theorem rm0 (l : Launch) (Z : State) (a0 : Array Value) (hw : ∀ d ∈ tables_1, d.before a0 Z = true) (ws : List Jvm.Cond) (p0 : Int32) (h0 : Heap) (n0 : Nat) (Z0 : n0 ≤ h0.size) :
    MetFree l x (head1 (Jvm.Cond.code x code maxLocals ret :: ws) room_1) (fun q_ U => q_ = #[(.int p0)] ∧ Z.Warmed39 U.vm ∧ U.heap = h0) (fun _ _ _ _ _ => True) (fun _ U o U' => ∃ v L, o = .returned v ∧ Q0 Z p0 h0 n0 v U'.heap L ∧ FrameEnd U o U' L room_1.cells room_1.slots) := by
  refine MetFree.of_bodySF (plainFor_of_name pn_1) hisR ?_
  intro p e s m args below meth c s₁ Bd hml0 hP hK
  obtain ⟨rfl, hZ, hh⟩ := hP
  have hx := Bd.exec
  have hby := Bd.bytes
  have hml : c.maxLocals = 7 := hml0
  have hown : s.vm.findClass "com/example/asynchronous_synthesis/asynchronoussynthesis/ltl/LtlSyntaxIsNamePartPinLaw" = some m.cls := findClass_of_methodNamed Bd.named
  have hnm := (name_of_methodNamed Bd.named Bd.method).1
  have X0 : Stand p l e room_1 s m #[(.int p0)] below meth c s₁ [] 0 0 := Stand.of_body Bd
  have e0 : s₁.heap = h0 := by rw [← hh, Bd.state]; rfl
  have N0 := Fr.nil n0
  show own_Go p e below s (Q0 Z p0 h0 n0) room_1.cells room_1.slots (s₁.setTop (entryFrame m #[(.int p0)] maxLocals))
  refine own_via (fun t k => castTop (ef_0 m p0) k) ?_
  show own_Go p e below s _ _ _ (s₁.setTop (mkF m 0 #[.val (.int p0), .unset, .unset, .unset, .unset, .unset, .unset] []))
  refine own_via (fun _ k => XS.iloadN X0.here hx rfl (hb hby at_0) rfl k) ?_
  show own_Go p e below s _ _ _ (s₁.setTop (mkF m 1 #[.val (.int p0), .unset, .unset, .unset, .unset, .unset, .unset] [(.int p0)]))
  refine own_via (fun _ k => XS.i2c X0.here hx rfl (hb hby at_1) rfl k) ?_
  show own_Go p e below s _ _ _ (s₁.setTop (mkF m 2 #[.val (.int p0), .unset, .unset, .unset, .unset, .unset, .unset] [(.int (o_i2c p0))]))
  refine own_via (fun _ k => XS.istoreN X0.here hx rfl (hb hby at_2) rfl (l' := #[.val (.int p0), .val (.int (o_i2c p0)), .unset, .unset, .unset, .unset, .unset]) rfl k) ?_
  show own_Go p e below s _ _ _ (s₁.setTop (mkF m 3 #[.val (.int p0), .val (.int (o_i2c p0)), .unset, .unset, .unset, .unset, .unset] []))
  generalize hv1 : (o_i2c p0) = v1
  show own_Go p e below s _ _ _ (s₁.setTop (mkF m 3 #[.val (.int p0), .val (.int v1), .unset, .unset, .unset, .unset, .unset] []))
  refine own_via (fun _ k => XS.iloadN X0.here hx rfl (hb hby at_3) rfl k) ?_
  show own_Go p e below s _ _ _ (s₁.setTop (mkF m 4 #[.val (.int p0), .val (.int v1), .unset, .unset, .unset, .unset, .unset] [(.int v1)]))
  refine own_via (fun _ k => XS.bipush X0.here hx rfl (hb hby at_4) k) ?_
  show own_Go p e below s _ _ _ (s₁.setTop (mkF m 6 #[.val (.int p0), .val (.int v1), .unset, .unset, .unset, .unset, .unset] [(.int (32 : Int32)), (.int v1)]))
  refine own_via (fun _ k => XS.ior X0.here hx rfl (hb hby at_6) rfl k) ?_
  show own_Go p e below s _ _ _ (s₁.setTop (mkF m 7 #[.val (.int p0), .val (.int v1), .unset, .unset, .unset, .unset, .unset] [(.int (v1 ||| (32 : Int32)))]))
  refine own_via (fun _ k => XS.bipush X0.here hx rfl (hb hby at_7) k) ?_
  show own_Go p e below s _ _ _ (s₁.setTop (mkF m 9 #[.val (.int p0), .val (.int v1), .unset, .unset, .unset, .unset, .unset] [(.int (97 : Int32)), (.int (v1 ||| (32 : Int32)))]))
  refine own_via (fun _ k => XS.isub X0.here hx rfl (hb hby at_9) rfl k) ?_
  show own_Go p e below s _ _ _ (s₁.setTop (mkF m 10 #[.val (.int p0), .val (.int v1), .unset, .unset, .unset, .unset, .unset] [(.int ((v1 ||| (32 : Int32)) - (97 : Int32)))]))
  refine own_via (fun _ k => XS.istoreN X0.here hx rfl (hb hby at_10) rfl (l' := #[.val (.int p0), .val (.int v1), .val (.int ((v1 ||| (32 : Int32)) - (97 : Int32))), .unset, .unset, .unset, .unset]) rfl k) ?_
  show own_Go p e below s _ _ _ (s₁.setTop (mkF m 11 #[.val (.int p0), .val (.int v1), .val (.int ((v1 ||| (32 : Int32)) - (97 : Int32))), .unset, .unset, .unset, .unset] []))
  generalize hv2 : ((v1 ||| (32 : Int32)) - (97 : Int32)) = v2
  show own_Go p e below s _ _ _ (s₁.setTop (mkF m 11 #[.val (.int p0), .val (.int v1), .val (.int v2), .unset, .unset, .unset, .unset] []))
  have st3 : ∀ t, Steps p.tables e below (s₁.setTop (mkF m 26 #[.val (.int p0), .val (.int v1), .val (.int v2), .unset, .unset, .unset, .unset] [(.int (if v2 < (0 : Int32) then (0 : Int32) else (if v2 < (26 : Int32) then (1 : Int32) else (0 : Int32))))])) t → Steps p.tables e below (s₁.setTop (mkF m 11 #[.val (.int p0), .val (.int v1), .val (.int v2), .unset, .unset, .unset, .unset] [])) t := by
    intro t k
    refine XS.iloadN X0.here hx rfl (hb hby at_11) rfl ?_
    show Steps p.tables e below (s₁.setTop (mkF m 12 #[.val (.int p0), .val (.int v1), .val (.int v2), .unset, .unset, .unset, .unset] [(.int v2)])) t
    by_cases hq4 : v2 < (0 : Int32)
    · refine XS.ifYes X0.here hx rfl (pc0 := 12) (pc' := 25) rfl (hb hby at_12) rfl (Jvm.Free.XT.i0_lt_t hq4) (by decide) (by decide) ?_
      show Steps p.tables e below (s₁.setTop (mkF m 25 #[.val (.int p0), .val (.int v1), .val (.int v2), .unset, .unset, .unset, .unset] [])) t
      refine XS.iconst X0.here hx rfl (hb hby at_25) ?_
      show Steps p.tables e below (s₁.setTop (mkF m 26 #[.val (.int p0), .val (.int v1), .val (.int v2), .unset, .unset, .unset, .unset] [(.int (0 : Int32))])) t
      simp only [if_pos hq4] at k
      exact k
    · refine XS.ifNo X0.here hx rfl (hb hby at_12) rfl (Jvm.Free.XT.i0_lt_f hq4) ?_
      show Steps p.tables e below (s₁.setTop (mkF m 15 #[.val (.int p0), .val (.int v1), .val (.int v2), .unset, .unset, .unset, .unset] [])) t
      refine XS.iloadN X0.here hx rfl (hb hby at_15) rfl ?_
      show Steps p.tables e below (s₁.setTop (mkF m 16 #[.val (.int p0), .val (.int v1), .val (.int v2), .unset, .unset, .unset, .unset] [(.int v2)])) t
      refine XS.bipush X0.here hx rfl (hb hby at_16) ?_
      show Steps p.tables e below (s₁.setTop (mkF m 18 #[.val (.int p0), .val (.int v1), .val (.int v2), .unset, .unset, .unset, .unset] [(.int (26 : Int32)), (.int v2)])) t
      by_cases hq5 : v2 < (26 : Int32)
      · refine XS.icmpNo X0.here hx rfl (hb hby at_18) rfl (Jvm.Free.XT.ii_ge_f hq5) ?_
        show Steps p.tables e below (s₁.setTop (mkF m 21 #[.val (.int p0), .val (.int v1), .val (.int v2), .unset, .unset, .unset, .unset] [])) t
        refine XS.iconst X0.here hx rfl (hb hby at_21) ?_
        show Steps p.tables e below (s₁.setTop (mkF m 22 #[.val (.int p0), .val (.int v1), .val (.int v2), .unset, .unset, .unset, .unset] [(.int (1 : Int32))])) t
        refine XS.goto X0.here hx rfl (pc0 := 22) (pc' := 26) rfl (hb hby at_22) (by decide) (by decide) ?_
        show Steps p.tables e below (s₁.setTop (mkF m 26 #[.val (.int p0), .val (.int v1), .val (.int v2), .unset, .unset, .unset, .unset] [(.int (1 : Int32))])) t
        simp only [if_neg hq4, if_pos hq5] at k
        exact k
      · refine XS.icmpYes X0.here hx rfl (pc0 := 18) (pc' := 25) rfl (hb hby at_18) rfl (Jvm.Free.XT.ii_ge_t hq5) (by decide) (by decide) ?_
        show Steps p.tables e below (s₁.setTop (mkF m 25 #[.val (.int p0), .val (.int v1), .val (.int v2), .unset, .unset, .unset, .unset] [])) t
        refine XS.iconst X0.here hx rfl (hb hby at_25) ?_
        show Steps p.tables e below (s₁.setTop (mkF m 26 #[.val (.int p0), .val (.int v1), .val (.int v2), .unset, .unset, .unset, .unset] [(.int (0 : Int32))])) t
        simp only [if_neg hq4, if_neg hq5] at k
        exact k
  refine own_via st3 ?_
  show own_Go p e below s _ _ _ (s₁.setTop (mkF m 26 #[.val (.int p0), .val (.int v1), .val (.int v2), .unset, .unset, .unset, .unset] [(.int (if v2 < (0 : Int32) then (0 : Int32) else (if v2 < (26 : Int32) then (1 : Int32) else (0 : Int32))))]))
  refine own_via (fun _ k => XS.istoreN X0.here hx rfl (hb hby at_26) rfl (l' := #[.val (.int p0), .val (.int v1), .val (.int v2), .val (.int (if v2 < (0 : Int32) then (0 : Int32) else (if v2 < (26 : Int32) then (1 : Int32) else (0 : Int32)))), .unset, .unset, .unset]) rfl k) ?_
  show own_Go p e below s _ _ _ (s₁.setTop (mkF m 27 #[.val (.int p0), .val (.int v1), .val (.int v2), .val (.int (if v2 < (0 : Int32) then (0 : Int32) else (if v2 < (26 : Int32) then (1 : Int32) else (0 : Int32)))), .unset, .unset, .unset] []))
  generalize hv6 : (if v2 < (0 : Int32) then (0 : Int32) else (if v2 < (26 : Int32) then (1 : Int32) else (0 : Int32))) = v6
  show own_Go p e below s _ _ _ (s₁.setTop (mkF m 27 #[.val (.int p0), .val (.int v1), .val (.int v2), .val (.int v6), .unset, .unset, .unset] []))
  refine own_via (fun _ k => XS.iloadN X0.here hx rfl (hb hby at_27) rfl k) ?_
  show own_Go p e below s _ _ _ (s₁.setTop (mkF m 28 #[.val (.int p0), .val (.int v1), .val (.int v2), .val (.int v6), .unset, .unset, .unset] [(.int v1)]))
  refine own_via (fun _ k => XS.bipush X0.here hx rfl (hb hby at_28) k) ?_
  show own_Go p e below s _ _ _ (s₁.setTop (mkF m 30 #[.val (.int p0), .val (.int v1), .val (.int v2), .val (.int v6), .unset, .unset, .unset] [(.int (48 : Int32)), (.int v1)]))
  refine own_via (fun _ k => XS.isub X0.here hx rfl (hb hby at_30) rfl k) ?_
  show own_Go p e below s _ _ _ (s₁.setTop (mkF m 31 #[.val (.int p0), .val (.int v1), .val (.int v2), .val (.int v6), .unset, .unset, .unset] [(.int (v1 - (48 : Int32)))]))
  refine own_via (fun _ k => XS.istore X0.here hx rfl (hb hby at_31) rfl (l' := #[.val (.int p0), .val (.int v1), .val (.int v2), .val (.int v6), .val (.int (v1 - (48 : Int32))), .unset, .unset]) rfl k) ?_
  show own_Go p e below s _ _ _ (s₁.setTop (mkF m 33 #[.val (.int p0), .val (.int v1), .val (.int v2), .val (.int v6), .val (.int (v1 - (48 : Int32))), .unset, .unset] []))
  generalize hv7 : (v1 - (48 : Int32)) = v7
  show own_Go p e below s _ _ _ (s₁.setTop (mkF m 33 #[.val (.int p0), .val (.int v1), .val (.int v2), .val (.int v6), .val (.int v7), .unset, .unset] []))
  have st8 : ∀ t, Steps p.tables e below (s₁.setTop (mkF m 50 #[.val (.int p0), .val (.int v1), .val (.int v2), .val (.int v6), .val (.int v7), .unset, .unset] [(.int (if v7 < (0 : Int32) then (0 : Int32) else (if v7 < (10 : Int32) then (1 : Int32) else (0 : Int32))))])) t → Steps p.tables e below (s₁.setTop (mkF m 33 #[.val (.int p0), .val (.int v1), .val (.int v2), .val (.int v6), .val (.int v7), .unset, .unset] [])) t := by
    intro t k
    refine XS.iload X0.here hx rfl (hb hby at_33) rfl ?_
    show Steps p.tables e below (s₁.setTop (mkF m 35 #[.val (.int p0), .val (.int v1), .val (.int v2), .val (.int v6), .val (.int v7), .unset, .unset] [(.int v7)])) t
    by_cases hq9 : v7 < (0 : Int32)
    · refine XS.ifYes X0.here hx rfl (pc0 := 35) (pc' := 49) rfl (hb hby at_35) rfl (Jvm.Free.XT.i0_lt_t hq9) (by decide) (by decide) ?_
      show Steps p.tables e below (s₁.setTop (mkF m 49 #[.val (.int p0), .val (.int v1), .val (.int v2), .val (.int v6), .val (.int v7), .unset, .unset] [])) t
      refine XS.iconst X0.here hx rfl (hb hby at_49) ?_
      show Steps p.tables e below (s₁.setTop (mkF m 50 #[.val (.int p0), .val (.int v1), .val (.int v2), .val (.int v6), .val (.int v7), .unset, .unset] [(.int (0 : Int32))])) t
      simp only [if_pos hq9] at k
      exact k
    · refine XS.ifNo X0.here hx rfl (hb hby at_35) rfl (Jvm.Free.XT.i0_lt_f hq9) ?_
      show Steps p.tables e below (s₁.setTop (mkF m 38 #[.val (.int p0), .val (.int v1), .val (.int v2), .val (.int v6), .val (.int v7), .unset, .unset] [])) t
      refine XS.iload X0.here hx rfl (hb hby at_38) rfl ?_
      show Steps p.tables e below (s₁.setTop (mkF m 40 #[.val (.int p0), .val (.int v1), .val (.int v2), .val (.int v6), .val (.int v7), .unset, .unset] [(.int v7)])) t
      refine XS.bipush X0.here hx rfl (hb hby at_40) ?_
      show Steps p.tables e below (s₁.setTop (mkF m 42 #[.val (.int p0), .val (.int v1), .val (.int v2), .val (.int v6), .val (.int v7), .unset, .unset] [(.int (10 : Int32)), (.int v7)])) t
      by_cases hq10 : v7 < (10 : Int32)
      · refine XS.icmpNo X0.here hx rfl (hb hby at_42) rfl (Jvm.Free.XT.ii_ge_f hq10) ?_
        show Steps p.tables e below (s₁.setTop (mkF m 45 #[.val (.int p0), .val (.int v1), .val (.int v2), .val (.int v6), .val (.int v7), .unset, .unset] [])) t
        refine XS.iconst X0.here hx rfl (hb hby at_45) ?_
        show Steps p.tables e below (s₁.setTop (mkF m 46 #[.val (.int p0), .val (.int v1), .val (.int v2), .val (.int v6), .val (.int v7), .unset, .unset] [(.int (1 : Int32))])) t
        refine XS.goto X0.here hx rfl (pc0 := 46) (pc' := 50) rfl (hb hby at_46) (by decide) (by decide) ?_
        show Steps p.tables e below (s₁.setTop (mkF m 50 #[.val (.int p0), .val (.int v1), .val (.int v2), .val (.int v6), .val (.int v7), .unset, .unset] [(.int (1 : Int32))])) t
        simp only [if_neg hq9, if_pos hq10] at k
        exact k
      · refine XS.icmpYes X0.here hx rfl (pc0 := 42) (pc' := 49) rfl (hb hby at_42) rfl (Jvm.Free.XT.ii_ge_t hq10) (by decide) (by decide) ?_
        show Steps p.tables e below (s₁.setTop (mkF m 49 #[.val (.int p0), .val (.int v1), .val (.int v2), .val (.int v6), .val (.int v7), .unset, .unset] [])) t
        refine XS.iconst X0.here hx rfl (hb hby at_49) ?_
        show Steps p.tables e below (s₁.setTop (mkF m 50 #[.val (.int p0), .val (.int v1), .val (.int v2), .val (.int v6), .val (.int v7), .unset, .unset] [(.int (0 : Int32))])) t
        simp only [if_neg hq9, if_neg hq10] at k
        exact k
  refine own_via st8 ?_
  show own_Go p e below s _ _ _ (s₁.setTop (mkF m 50 #[.val (.int p0), .val (.int v1), .val (.int v2), .val (.int v6), .val (.int v7), .unset, .unset] [(.int (if v7 < (0 : Int32) then (0 : Int32) else (if v7 < (10 : Int32) then (1 : Int32) else (0 : Int32))))]))
  refine own_via (fun _ k => XS.istore X0.here hx rfl (hb hby at_50) rfl (l' := #[.val (.int p0), .val (.int v1), .val (.int v2), .val (.int v6), .val (.int v7), .val (.int (if v7 < (0 : Int32) then (0 : Int32) else (if v7 < (10 : Int32) then (1 : Int32) else (0 : Int32)))), .unset]) rfl k) ?_
  show own_Go p e below s _ _ _ (s₁.setTop (mkF m 52 #[.val (.int p0), .val (.int v1), .val (.int v2), .val (.int v6), .val (.int v7), .val (.int (if v7 < (0 : Int32) then (0 : Int32) else (if v7 < (10 : Int32) then (1 : Int32) else (0 : Int32)))), .unset] []))
  generalize hv11 : (if v7 < (0 : Int32) then (0 : Int32) else (if v7 < (10 : Int32) then (1 : Int32) else (0 : Int32))) = v11
  show own_Go p e below s _ _ _ (s₁.setTop (mkF m 52 #[.val (.int p0), .val (.int v1), .val (.int v2), .val (.int v6), .val (.int v7), .val (.int v11), .unset] []))
  have st12 : ∀ t, Steps p.tables e below (s₁.setTop (mkF m 78 #[.val (.int p0), .val (.int v1), .val (.int v2), .val (.int v6), .val (.int v7), .val (.int v11), .unset] [(.int (if v6 = (0 : Int32) then (if v11 = (0 : Int32) then (if v1 = (95 : Int32) then (1 : Int32) else (if v1 = (46 : Int32) then (1 : Int32) else (0 : Int32))) else (1 : Int32)) else (1 : Int32)))])) t → Steps p.tables e below (s₁.setTop (mkF m 52 #[.val (.int p0), .val (.int v1), .val (.int v2), .val (.int v6), .val (.int v7), .val (.int v11), .unset] [])) t := by
    intro t k
    refine XS.iloadN X0.here hx rfl (hb hby at_52) rfl ?_
    show Steps p.tables e below (s₁.setTop (mkF m 53 #[.val (.int p0), .val (.int v1), .val (.int v2), .val (.int v6), .val (.int v7), .val (.int v11), .unset] [(.int v6)])) t
    by_cases hq13 : v6 = (0 : Int32)
    · refine XS.ifNo X0.here hx rfl (hb hby at_53) rfl (Jvm.Free.XT.i0_ne_f hq13) ?_
      show Steps p.tables e below (s₁.setTop (mkF m 56 #[.val (.int p0), .val (.int v1), .val (.int v2), .val (.int v6), .val (.int v7), .val (.int v11), .unset] [])) t
      refine XS.iload X0.here hx rfl (hb hby at_56) rfl ?_
      show Steps p.tables e below (s₁.setTop (mkF m 58 #[.val (.int p0), .val (.int v1), .val (.int v2), .val (.int v6), .val (.int v7), .val (.int v11), .unset] [(.int v11)])) t
      by_cases hq14 : v11 = (0 : Int32)
      · refine XS.ifNo X0.here hx rfl (hb hby at_58) rfl (Jvm.Free.XT.i0_ne_f hq14) ?_
        show Steps p.tables e below (s₁.setTop (mkF m 61 #[.val (.int p0), .val (.int v1), .val (.int v2), .val (.int v6), .val (.int v7), .val (.int v11), .unset] [])) t
        refine XS.iloadN X0.here hx rfl (hb hby at_61) rfl ?_
        show Steps p.tables e below (s₁.setTop (mkF m 62 #[.val (.int p0), .val (.int v1), .val (.int v2), .val (.int v6), .val (.int v7), .val (.int v11), .unset] [(.int v1)])) t
        refine XS.bipush X0.here hx rfl (hb hby at_62) ?_
        show Steps p.tables e below (s₁.setTop (mkF m 64 #[.val (.int p0), .val (.int v1), .val (.int v2), .val (.int v6), .val (.int v7), .val (.int v11), .unset] [(.int (95 : Int32)), (.int v1)])) t
        by_cases hq15 : v1 = (95 : Int32)
        · refine XS.icmpYes X0.here hx rfl (pc0 := 64) (pc' := 73) rfl (hb hby at_64) rfl (Jvm.Free.XT.ii_eq_t hq15) (by decide) (by decide) ?_
          show Steps p.tables e below (s₁.setTop (mkF m 73 #[.val (.int p0), .val (.int v1), .val (.int v2), .val (.int v6), .val (.int v7), .val (.int v11), .unset] [])) t
          refine XS.iconst X0.here hx rfl (hb hby at_73) ?_
          show Steps p.tables e below (s₁.setTop (mkF m 74 #[.val (.int p0), .val (.int v1), .val (.int v2), .val (.int v6), .val (.int v7), .val (.int v11), .unset] [(.int (1 : Int32))])) t
          refine XS.goto X0.here hx rfl (pc0 := 74) (pc' := 78) rfl (hb hby at_74) (by decide) (by decide) ?_
          show Steps p.tables e below (s₁.setTop (mkF m 78 #[.val (.int p0), .val (.int v1), .val (.int v2), .val (.int v6), .val (.int v7), .val (.int v11), .unset] [(.int (1 : Int32))])) t
          simp only [if_pos hq13, if_pos hq14, if_pos hq15] at k
          exact k
        · refine XS.icmpNo X0.here hx rfl (hb hby at_64) rfl (Jvm.Free.XT.ii_eq_f hq15) ?_
          show Steps p.tables e below (s₁.setTop (mkF m 67 #[.val (.int p0), .val (.int v1), .val (.int v2), .val (.int v6), .val (.int v7), .val (.int v11), .unset] [])) t
          refine XS.iloadN X0.here hx rfl (hb hby at_67) rfl ?_
          show Steps p.tables e below (s₁.setTop (mkF m 68 #[.val (.int p0), .val (.int v1), .val (.int v2), .val (.int v6), .val (.int v7), .val (.int v11), .unset] [(.int v1)])) t
          refine XS.bipush X0.here hx rfl (hb hby at_68) ?_
          show Steps p.tables e below (s₁.setTop (mkF m 70 #[.val (.int p0), .val (.int v1), .val (.int v2), .val (.int v6), .val (.int v7), .val (.int v11), .unset] [(.int (46 : Int32)), (.int v1)])) t
          by_cases hq16 : v1 = (46 : Int32)
          · refine XS.icmpNo X0.here hx rfl (hb hby at_70) rfl (Jvm.Free.XT.ii_ne_f hq16) ?_
            show Steps p.tables e below (s₁.setTop (mkF m 73 #[.val (.int p0), .val (.int v1), .val (.int v2), .val (.int v6), .val (.int v7), .val (.int v11), .unset] [])) t
            refine XS.iconst X0.here hx rfl (hb hby at_73) ?_
            show Steps p.tables e below (s₁.setTop (mkF m 74 #[.val (.int p0), .val (.int v1), .val (.int v2), .val (.int v6), .val (.int v7), .val (.int v11), .unset] [(.int (1 : Int32))])) t
            refine XS.goto X0.here hx rfl (pc0 := 74) (pc' := 78) rfl (hb hby at_74) (by decide) (by decide) ?_
            show Steps p.tables e below (s₁.setTop (mkF m 78 #[.val (.int p0), .val (.int v1), .val (.int v2), .val (.int v6), .val (.int v7), .val (.int v11), .unset] [(.int (1 : Int32))])) t
            simp only [if_pos hq13, if_pos hq14, if_neg hq15, if_pos hq16] at k
            exact k
          · refine XS.icmpYes X0.here hx rfl (pc0 := 70) (pc' := 77) rfl (hb hby at_70) rfl (Jvm.Free.XT.ii_ne_t hq16) (by decide) (by decide) ?_
            show Steps p.tables e below (s₁.setTop (mkF m 77 #[.val (.int p0), .val (.int v1), .val (.int v2), .val (.int v6), .val (.int v7), .val (.int v11), .unset] [])) t
            refine XS.iconst X0.here hx rfl (hb hby at_77) ?_
            show Steps p.tables e below (s₁.setTop (mkF m 78 #[.val (.int p0), .val (.int v1), .val (.int v2), .val (.int v6), .val (.int v7), .val (.int v11), .unset] [(.int (0 : Int32))])) t
            simp only [if_pos hq13, if_pos hq14, if_neg hq15, if_neg hq16] at k
            exact k
      · refine XS.ifYes X0.here hx rfl (pc0 := 58) (pc' := 73) rfl (hb hby at_58) rfl (Jvm.Free.XT.i0_ne_t hq14) (by decide) (by decide) ?_
        show Steps p.tables e below (s₁.setTop (mkF m 73 #[.val (.int p0), .val (.int v1), .val (.int v2), .val (.int v6), .val (.int v7), .val (.int v11), .unset] [])) t
        refine XS.iconst X0.here hx rfl (hb hby at_73) ?_
        show Steps p.tables e below (s₁.setTop (mkF m 74 #[.val (.int p0), .val (.int v1), .val (.int v2), .val (.int v6), .val (.int v7), .val (.int v11), .unset] [(.int (1 : Int32))])) t
        refine XS.goto X0.here hx rfl (pc0 := 74) (pc' := 78) rfl (hb hby at_74) (by decide) (by decide) ?_
        show Steps p.tables e below (s₁.setTop (mkF m 78 #[.val (.int p0), .val (.int v1), .val (.int v2), .val (.int v6), .val (.int v7), .val (.int v11), .unset] [(.int (1 : Int32))])) t
        simp only [if_pos hq13, if_neg hq14] at k
        exact k
    · refine XS.ifYes X0.here hx rfl (pc0 := 53) (pc' := 73) rfl (hb hby at_53) rfl (Jvm.Free.XT.i0_ne_t hq13) (by decide) (by decide) ?_
      show Steps p.tables e below (s₁.setTop (mkF m 73 #[.val (.int p0), .val (.int v1), .val (.int v2), .val (.int v6), .val (.int v7), .val (.int v11), .unset] [])) t
      refine XS.iconst X0.here hx rfl (hb hby at_73) ?_
      show Steps p.tables e below (s₁.setTop (mkF m 74 #[.val (.int p0), .val (.int v1), .val (.int v2), .val (.int v6), .val (.int v7), .val (.int v11), .unset] [(.int (1 : Int32))])) t
      refine XS.goto X0.here hx rfl (pc0 := 74) (pc' := 78) rfl (hb hby at_74) (by decide) (by decide) ?_
      show Steps p.tables e below (s₁.setTop (mkF m 78 #[.val (.int p0), .val (.int v1), .val (.int v2), .val (.int v6), .val (.int v7), .val (.int v11), .unset] [(.int (1 : Int32))])) t
      simp only [if_neg hq13] at k
      exact k
  refine own_via st12 ?_
  show own_Go p e below s _ _ _ (s₁.setTop (mkF m 78 #[.val (.int p0), .val (.int v1), .val (.int v2), .val (.int v6), .val (.int v7), .val (.int v11), .unset] [(.int (if v6 = (0 : Int32) then (if v11 = (0 : Int32) then (if v1 = (95 : Int32) then (1 : Int32) else (if v1 = (46 : Int32) then (1 : Int32) else (0 : Int32))) else (1 : Int32)) else (1 : Int32)))]))
  refine own_via (fun _ k => XS.istore X0.here hx rfl (hb hby at_78) rfl (l' := #[.val (.int p0), .val (.int v1), .val (.int v2), .val (.int v6), .val (.int v7), .val (.int v11), .val (.int (if v6 = (0 : Int32) then (if v11 = (0 : Int32) then (if v1 = (95 : Int32) then (1 : Int32) else (if v1 = (46 : Int32) then (1 : Int32) else (0 : Int32))) else (1 : Int32)) else (1 : Int32)))]) rfl k) ?_
  show own_Go p e below s _ _ _ (s₁.setTop (mkF m 80 #[.val (.int p0), .val (.int v1), .val (.int v2), .val (.int v6), .val (.int v7), .val (.int v11), .val (.int (if v6 = (0 : Int32) then (if v11 = (0 : Int32) then (if v1 = (95 : Int32) then (1 : Int32) else (if v1 = (46 : Int32) then (1 : Int32) else (0 : Int32))) else (1 : Int32)) else (1 : Int32)))] []))
  generalize hv17 : (if v6 = (0 : Int32) then (if v11 = (0 : Int32) then (if v1 = (95 : Int32) then (1 : Int32) else (if v1 = (46 : Int32) then (1 : Int32) else (0 : Int32))) else (1 : Int32)) else (1 : Int32)) = v17
  show own_Go p e below s _ _ _ (s₁.setTop (mkF m 80 #[.val (.int p0), .val (.int v1), .val (.int v2), .val (.int v6), .val (.int v7), .val (.int v11), .val (.int v17)] []))
  refine own_via (fun _ k => XS.iloadN X0.here hx rfl (hb hby at_80) rfl k) ?_
  show own_Go p e below s _ _ _ (s₁.setTop (mkF m 81 #[.val (.int p0), .val (.int v1), .val (.int v2), .val (.int v6), .val (.int v7), .val (.int v11), .val (.int v17)] [(.int v1)]))
  obtain ⟨_, _, ⟨T18, L18, k18, n18⟩, -, X18, ⟨Lc18, hQ18, l18, y18, z18⟩, st18⟩ := Jvm.LawKit.callS X0 hx (y := (⟨"com/example/asynchronous_synthesis/asynchronoussynthesis/ltl/LtlSyntax", "isNamePart", "(C)Z"⟩ : MethodName)) hown (mvT hZ (hw _ (List.mem_of_getElem? (i := 0) rfl))) (mvT hZ (hw _ (List.mem_of_getElem? (i := 1) rfl))) (mvT hZ (hw _ (List.mem_of_getElem? (i := 2) rfl))) (mvT hZ (hw _ (List.mem_of_getElem? (i := 3) rfl))) (by decide) (backOf (W := 0) (rm1 l Z a0 hw [] v1 h0 n0 Z0 ) hZ (hw _ (List.mem_of_getElem? (i := 3) rfl)) (hw _ (List.mem_of_getElem? (i := 2) rfl)) (by decide) (by decide)) (g := (mkF m 81 #[.val (.int p0), .val (.int v1), .val (.int v2), .val (.int v6), .val (.int v7), .val (.int v11), .val (.int v17)] [(.int v1)])) rfl (by rw [hml]; rfl) (argsL := [(.int v1)]) (rest := []) (lenOf pd_0 rfl) rfl (by show 2 * 0 + _ ≤ _; exact Nat.le_of_eq rfl) (hb hby at_81) (fun _ _ => ⟨rfl, e0, (by decide : 0 + 0 ≤ _), (by decide : 0 + 0 ≤ _)⟩)
  dsimp only [Pt.U, Pt.locs, Pt.cells, Pt.slots] at X18 l18 y18 z18 st18 hQ18
  subst l18 y18 z18
  obtain ⟨rfl, N18q, e18⟩ := hQ18
  have N18 := Fr.app N0 N18q
  refine own_via st18 ?_
  show own_Go p e below s _ _ _ (T18.setTop (mkF m 84 #[.val (.int p0), .val (.int v1), .val (.int v2), .val (.int v6), .val (.int v7), .val (.int v11), .val (.int v17)] [(.int (own_g v1))]))
  refine own_via (fun _ k => XS.iload X18.here hx rfl (hb hby at_84) rfl k) ?_
  show own_Go p e below s _ _ _ (T18.setTop (mkF m 86 #[.val (.int p0), .val (.int v1), .val (.int v2), .val (.int v6), .val (.int v7), .val (.int v11), .val (.int v17)] [(.int v17), (.int (own_g v1))]))
  have hc19 : (own_g v1) = v17 := by subst_vars; exact own_plain p0
  refine own_via (fun _ k => XS.icmpNo X18.here hx rfl (hb hby at_86) rfl (Jvm.Free.XT.ii_ne_f hc19) k) ?_
  show own_Go p e below s _ _ _ (T18.setTop (mkF m 89 #[.val (.int p0), .val (.int v1), .val (.int v2), .val (.int v6), .val (.int v7), .val (.int v11), .val (.int v17)] []))
  refine own_via (fun _ k => XS.iconst X18.here hx rfl (hb hby at_89) k) ?_
  show own_Go p e below s _ _ _ (T18.setTop (mkF m 90 #[.val (.int p0), .val (.int v1), .val (.int v2), .val (.int v6), .val (.int v7), .val (.int v11), .val (.int v17)] [(.int (1 : Int32))]))
  refine own_via (fun _ k => XS.goto X18.here hx rfl (pc0 := 90) (pc' := 94) rfl (hb hby at_90) (by decide) (by decide) k) ?_
  show own_Go p e below s _ _ _ (T18.setTop (mkF m 94 #[.val (.int p0), .val (.int v1), .val (.int v2), .val (.int v6), .val (.int v7), .val (.int v11), .val (.int v17)] [(.int (1 : Int32))]))
  exact own_goN X18 hx (t := .boolean) Bd.returns (by simp) (hb hby at_94) Bd.notSynchronized (by decide) (by decide) (by rw [e18]; exact ⟨rfl, N18⟩)
set_option maxRecDepth 65536 in
set_option maxHeartbeats 40000000 in
theorem comes_1 {Post : Tables → Env → Array Value → State → Outcome → State → Prop} (hpost : ∀ tb e args s v u, (limb_1_1.after args s (.returned v) u = true ∧ limb_1_2.after args s (.returned v) u = true ∧ True) → FrameEnd s (.returned v) u (Jvm.fieldLocs frame_1_writes args s ++ Jvm.arrayLocs frame_1_arrays args s ++ Jvm.staticLocs frame_1_statics s) 0 0 → Post tb e args s (.returned v) u) :
    ArmFor flags0 classFile x code maxLocals ret World_1 tables_1 room_1 Calls_1 rest_1 Pre_1 Post := by
  intro l hfl _ _ p e ha hc hk s m args below hf hA hF happ hP
  obtain ⟨hcalls, hrest, hpre⟩ := hP
  obtain ⟨-, -, -, hnamed, -, -, -, hat⟩ := (Spec.applies_iff hf).mp happ
  obtain ⟨hg, hn⟩ := and_e (Cond.before_iff.mp (show (Jvm.Cond.and given_1 narrow_1).before args s = true from hpre))
  obtain ⟨g1, g2⟩ := and_e hg
  obtain ⟨w0, rfl⟩ : ∃ w0 : Value, args = #[w0] := by
    have hs : args.size = 1 := by simpa [Cond.value, given_1] using g1
    obtain ⟨L⟩ := args
    match L, hs with
    | [w0], _ => exact ⟨w0, rfl⟩
  have hw := fun d (hd : d ∈ tables_1) => atoms_spec (ws := Jvm.Cond.code x code maxLocals ret :: tables_1) hat d (List.mem_cons_of_mem _ hd)
  have hfit : Fit s := fun {y c} hc i hi => by
    obtain ⟨ha, rfl⟩ := Array.getElem?_eq_some_iff.mp hc
    have q := List.all_eq_true.mp ((Array.all_eq_true_iff_forall_mem.mp hF) _ (Array.getElem_mem ha)) i (List.mem_range.mpr hi)
    simpa [Array.getElem?_eq_getElem hi] using q
  obtain ⟨i0, ei0⟩ := is_v g2
  obtain rfl : w0 = (.int i0) := Option.some.inj ei0
  obtain ⟨n, o, h1, h2, h3, _, L, rfl, ⟨rfl, N⟩, hq⟩ := rm0 l s _ hw tables_1 i0 s.heap s.heap.size (Nat.le_refl _)  p e ha hc hk s m _ below hf ((Spec.applies_iff_loose hf).mp happ).1 ⟨rfl, State.Warmed39.refl s, rfl⟩ trivial
  refine ⟨n, _, h1, h2, h3, hpost _ _ _ _ _ _ ⟨Cond.after_iff.mpr rfl, Cond.after_iff.mpr (eq_i res_at (Term.int_eval (1)) rfl), trivial⟩ ⟨hq.1, hq.2.1, (hq.2.2.sift fun y hy => Or.inr (N y hy)).mono (by decide) (by decide)⟩⟩
theorem main_1_1 : Claimed_1_1 := comes_1 fun _ _ _ _ _ _ h hF => ⟨h.1, hF⟩
theorem main_1_2 : Claimed_1_2 := comes_1 fun _ _ _ _ _ _ h hF => ⟨h.2.1, hF⟩
end Jvm.Pilot.@@N@@
namespace Jvm.Pilot.@@N@@
open Jvm Jvm.ClassFile Sem Op Lib Jvm.Free Jvm.Stand Jvm.Pilot.@@N@@.Jvm.D
/-! MADE BY PROGRAM (witnessworld.py) out of the Statement's table words and the real class files: 9 classes; the members and pool entries that the words name. The judged class is class 1, her method 1. -/
namespace start1
open Jvm.ClassFile
def u (s : String) : CpInfo := .utf8 (stringToUtf16 s)
/-- a pool by its gaps: so many unusable entries, then the entry; so many at the end -/
def gap : Nat → List CpInfo → List CpInfo
  | 0, r => r
  | n + 1, r => .unusable :: gap n r
def poolList (es : List (Nat × CpInfo)) (last : Nat) : List CpInfo := es.foldr (fun e r => gap e.1 (e.2 :: r)) (gap last [])
def pool (es : List (Nat × CpInfo)) (last : Nat) : Array CpInfo := ⟨poolList es last⟩
def fileOf (pool : Array CpInfo) (this : Nat) (attrs : Array Attribute := #[]) (ms : Array MethodInfo := #[]) (fl : Nat := 33) (sup : Nat := 0) (ifs : Array Nat := #[]) (fds : Array FieldInfo := #[]) : ClassFile where
  minorVersion := 0
  majorVersion := 65
  constantPool := pool
  accessFlags := fl
  thisClass := this
  superClass := sup
  interfaces := ifs
  fields := fds
  methods := ms
  attributes := attrs
def plain (name : String) (sup : Option ClassId) : Class where
  name := name
  kind := .ordinary
  loader := none
  accessFlags := 33
  super := sup
  interfaces := #[]
  cf := none
  fields := #[]
  methods := #[]
  instanceTypes := #[]
  staticTypes := #[]
  resolved := #[]
  callSites := []
  init := .initialized
  statics := none
  mirror := none

def pool0 : Array CpInfo := pool [(5, u "<init>"), (0, u "()V"), (1, .class_ 10), (1, u "java/lang/Object")] 113

def k0m0 : Method := { name := "<init>", desc := "()V", sig := { parameters := [], returnType := none }, accessFlags := 1, code := none }
/-- java/lang/Object -/
def k0 : Class := { plain "java/lang/Object" none with
  accessFlags := 33
  interfaces := #[]
  cf := some (fileOf pool0 8 #[] #[{ accessFlags := 1, nameIndex := 5, descriptorIndex := 6, attributes := #[] }] 33 0 #[] #[])
  fields := #[]
  methods := #[k0m0]
  instanceTypes := #[]
  staticTypes := #[]
  resolved := Array.replicate 124 none
  statics := none }

def pool1 : Array CpInfo := pool [(2, .class_ 4), (1, u "java/lang/Object"), (0, u "<init>"), (0, u "()V"), (0, .methodref 8 9), (0, .class_ 10), (0, .nameAndType 11 12), (0, u "com/example/asynchronous_synthesis/asynchronoussynthesis/ltl/LtlSyntax"), (0, u "isNamePart"), (0, u "(C)Z"), (0, .class_ 14), (0, u "com/example/asynchronous_synthesis/asynchronoussynthesis/ltl/LtlSyntaxIsNamePartPinLaw"), (2, u "law"), (0, u "(I)Z")] 3

def k1m0 : Method := { name := "<init>", desc := "()V", sig := { parameters := [], returnType := none }, accessFlags := 2, code := none }
def k1c1 : Code := { maxStack := 2, maxLocals := 7, code := code, exceptionTable := #[], attributes := #[] }
def k1m1 : Method := { name := "law", desc := "(I)Z", sig := { parameters := [.int], returnType := some .boolean }, accessFlags := 9, code := some k1c1 }
/-- com/example/asynchronous_synthesis/asynchronoussynthesis/ltl/LtlSyntaxIsNamePartPinLaw -/
def k1 : Class := { plain "com/example/asynchronous_synthesis/asynchronoussynthesis/ltl/LtlSyntaxIsNamePartPinLaw" (some 0) with
  accessFlags := 49
  interfaces := #[]
  cf := some (fileOf pool1 13 #[] #[{ accessFlags := 2, nameIndex := 5, descriptorIndex := 6, attributes := #[] }, { accessFlags := 9, nameIndex := 17, descriptorIndex := 18, attributes := #[] }] 49 2 #[] #[])
  fields := #[]
  methods := #[k1m0, k1m1]
  instanceTypes := #[]
  staticTypes := #[]
  resolved := Array.replicate 22 none
  statics := none }

def pool2 : Array CpInfo := pool [(2, .class_ 4), (1, u "java/lang/Object"), (0, u "<init>"), (0, u "()V"), (0, .methodref 8 9), (0, .class_ 10), (0, .nameAndType 11 12), (0, u "com/example/asynchronous_synthesis/asynchronoussynthesis/ltl/LtlSyntax"), (0, u "isNameStart"), (0, u "(C)Z"), (2, u "KEYWORDS"), (0, u "Ljava/util/Map;"), (28, u "isNamePart")] 27

def k2m0 : Method := { name := "<init>", desc := "()V", sig := { parameters := [], returnType := none }, accessFlags := 2, code := none }
def k2c1 : Code := { maxStack := 2, maxLocals := 1, code := prog_37_method_2_code, exceptionTable := #[], attributes := #[] }
def k2m1 : Method := { name := "isNameStart", desc := "(C)Z", sig := { parameters := [.char], returnType := some .boolean }, accessFlags := 8, code := some k2c1 }
def k2c2 : Code := { maxStack := 2, maxLocals := 1, code := prog_37_method_3_code, exceptionTable := #[], attributes := #[] }
def k2m2 : Method := { name := "isNamePart", desc := "(C)Z", sig := { parameters := [.char], returnType := some .boolean }, accessFlags := 8, code := some k2c2 }
/-- com/example/asynchronous_synthesis/asynchronoussynthesis/ltl/LtlSyntax -/
def k2 : Class := { plain "com/example/asynchronous_synthesis/asynchronoussynthesis/ltl/LtlSyntax" (some 0) with
  accessFlags := 48
  interfaces := #[]
  cf := some (fileOf pool2 8 #[] #[{ accessFlags := 2, nameIndex := 5, descriptorIndex := 6, attributes := #[] }, { accessFlags := 8, nameIndex := 11, descriptorIndex := 12, attributes := #[] }, { accessFlags := 8, nameIndex := 45, descriptorIndex := 12, attributes := #[] }] 48 2 #[] #[{ accessFlags := 26, nameIndex := 15, descriptorIndex := 16, attributes := #[] }])
  fields := #[{ name := "KEYWORDS", type := (.object "java/util/Map"), accessFlags := 26, slot := 0, constantValue := 0 }]
  methods := #[k2m0, k2m1, k2m2]
  instanceTypes := #[]
  staticTypes := #[(.object "java/util/Map")]
  resolved := Array.replicate 73 none
  statics := none }

def pool3 : Array CpInfo := pool [(1, u "java/lang/Cloneable"), (0, .class_ 1), (0, u "java/lang/Object"), (0, .class_ 3)] 3

/-- java/lang/Cloneable -/
def k3 : Class := { plain "java/lang/Cloneable" (some 0) with
  accessFlags := 1537
  interfaces := #[]
  cf := some (fileOf pool3 2 #[] #[] 1537 4 #[] #[])
  fields := #[]
  methods := #[]
  instanceTypes := #[]
  staticTypes := #[]
  resolved := Array.replicate 8 none
  statics := none }

def pool4 : Array CpInfo := pool [(1, u "java/io/Serializable"), (0, .class_ 1), (0, u "java/lang/Object"), (0, .class_ 3)] 3

/-- java/io/Serializable -/
def k4 : Class := { plain "java/io/Serializable" (some 0) with
  accessFlags := 1537
  interfaces := #[]
  cf := some (fileOf pool4 2 #[] #[] 1537 4 #[] #[])
  fields := #[]
  methods := #[]
  instanceTypes := #[]
  staticTypes := #[]
  resolved := Array.replicate 8 none
  statics := none }

/-- the primitive byte -/
def k5 : Class := { plain "byte" none with kind := .primitive 'B', accessFlags := 0x411 }
/-- [B -/
def k6 : Class := { plain "[B" (some 0) with kind := .array 5 .byte, interfaces := #[3, 4], accessFlags := 1041 }

/-- the primitive int -/
def k7 : Class := { plain "int" none with kind := .primitive 'I', accessFlags := 0x411 }
/-- [I -/
def k8 : Class := { plain "[I" (some 0) with kind := .array 7 .int, interfaces := #[3, 4], accessFlags := 1041 }

def heap : Heap := #[]
def classes : Array Class := #[k0, k1, k2, k3, k4, k5, k6, k7, k8]
def interned : List (Array UInt16 × Addr) := []
def slotsUsed : Nat := 0
def theMethod : MethodId := ⟨1, 1⟩
def args0 : Array Value := #[.int 97]
def aboutOver (below : List Frame) : State where
  vm := { classes := classes, interned := interned.toArray }
  heap := heap
  slotsUsed := slotsUsed
  threads := #[{ frames := .invoking theMethod args0 :: below }]
def below0 : List Frame := [.native { method := ⟨0, 0⟩, args := #[] }]
def about1 : State := aboutOver below0
def p0 : Program := .bare "" "" ""
def e0 : Env := launch0.env 0 0 0
theorem w_frames : about1.frames = Frame.invoking theMethod args0 :: below0 := rfl
set_option maxRecDepth 65536 in
theorem w_args : argsFit about1.vm theMethod args0 = true := by decide +kernel
set_option maxRecDepth 65536 in
theorem w_heap : heapFits about1 = true := by decide +kernel
set_option maxRecDepth 65536 in
theorem w_runnable : about1.curStatus? = some .runnable := by decide +kernel
set_option maxRecDepth 65536 in
theorem w_alone : about1.alone = true := by decide +kernel
set_option maxRecDepth 65536 in
theorem w_named : about1.methodNamed? x = some theMethod := by decide +kernel
set_option maxRecDepth 65536 in
theorem w_hears : about1.hears theMethod below0 = true := by decide +kernel
set_option maxRecDepth 65536 in
theorem w_ripe : about1.ripe theMethod args0 below0 = true := by decide +kernel
theorem w_running : about1.status = .running := rfl
set_option maxRecDepth 65536 in
theorem w_room : about1.hasRoom e0.platform room_1 = true :=
  launch0.hasRoom_least _ room_1 (by decide +kernel) (by decide +kernel) (by decide +kernel) (by decide +kernel) (by decide +kernel) (by decide +kernel)
theorem allAtoms_all (ts : List Jvm.Cond) (a : Array Jvm.Value) (st : Jvm.State) : (allAtoms ts).before a st = ts.all (fun c => c.before a st) := by
  induction ts with
  | nil => rfl
  | cons c t ih =>
    show (Jvm.Cond.and c (allAtoms t)).before a st = _
    rw [Jvm.Cond.before_and, ih, List.all_cons]
def words1 : List Jvm.Cond := Jvm.Cond.code x code maxLocals ret :: tables_1
/-- a 'code' word, met by the world's own term for the bytes: nothing is compared byte by byte -/
theorem code_word {y : MethodName} {bytes : ByteArray} {mx : Nat} {rt : Option FieldType} {a : Array Value} {s : State} {m : MethodId} {meth : Method} {c : Code} (h1 : s.methodNamed? y = some m) (h2 : s.vm.method? m = some meth) (h3 : meth.code = some c) (h4 : c.code = bytes)
    (h5 : (c.maxLocals == mx && c.exceptionTable.isEmpty && decide (c.maxStack ≤ mostOperands) && decide (meth.sig.returnType = rt) && !meth.locks && decide (parseMethodDescriptor y.desc = some meth.sig)) = true) : (Jvm.Cond.code y bytes mx rt).before a s = true := by
  simp only [Bool.and_eq_true, beq_iff_eq, Bool.not_eq_true', decide_eq_true_eq] at h5
  obtain ⟨⟨⟨⟨⟨g1, g2⟩, g3⟩, g4⟩, g5⟩, g6⟩ := h5
  simp [Cond.before, Cond.holds, Cond.value, h1, h2, h3, h4, g1, g2, g3, g4, g5, g6]
def isCode : Jvm.Cond → Bool
  | .code _ _ _ _ => true
  | _ => false
theorem all_split {L : List Jvm.Cond} {P : Jvm.Cond → Bool} (h1 : L.all (fun c => isCode c || P c) = true) (h2 : ∀ c ∈ L.filter isCode, P c = true) : L.all P = true := by
  refine List.all_eq_true.mpr fun c hc => ?_
  have h := List.all_eq_true.mp h1 c hc
  rcases Bool.eq_false_or_eq_true (isCode c) with hi | hi
  · exact h2 c (List.mem_filter.mpr ⟨hc, hi⟩)
  · simpa [hi] using h
set_option maxRecDepth 65536 in
theorem w_c0 : (Jvm.Cond.code x code maxLocals ret).before args0 about1 = true := code_word (m := ⟨1, 1⟩) (meth := k1m1) (c := k1c1) (by decide +kernel) rfl rfl rfl (by decide +kernel)
set_option maxRecDepth 65536 in
theorem w_c1 : (Jvm.Cond.code ({ cls := "com/example/asynchronous_synthesis/asynchronoussynthesis/ltl/LtlSyntax", name := "isNamePart", desc := "(C)Z" } : Jvm.MethodName) prog_37_method_3_code (1 : Nat) (Option.some Jvm.ClassFile.FieldType.boolean)).before args0 about1 = true := code_word (m := ⟨2, 2⟩) (meth := k2m2) (c := k2c2) (by decide +kernel) rfl rfl rfl (by decide +kernel)
set_option maxRecDepth 65536 in
theorem w_c2 : (Jvm.Cond.code ({ cls := "com/example/asynchronous_synthesis/asynchronoussynthesis/ltl/LtlSyntax", name := "isNameStart", desc := "(C)Z" } : Jvm.MethodName) prog_37_method_2_code (1 : Nat) (Option.some Jvm.ClassFile.FieldType.boolean)).before args0 about1 = true := code_word (m := ⟨2, 1⟩) (meth := k2m1) (c := k2c1) (by decide +kernel) rfl rfl rfl (by decide +kernel)
def codes1 : List Jvm.Cond := [Jvm.Cond.code x code maxLocals ret, Jvm.Cond.code ({ cls := "com/example/asynchronous_synthesis/asynchronoussynthesis/ltl/LtlSyntax", name := "isNamePart", desc := "(C)Z" } : Jvm.MethodName) prog_37_method_3_code (1 : Nat) (Option.some Jvm.ClassFile.FieldType.boolean), Jvm.Cond.code ({ cls := "com/example/asynchronous_synthesis/asynchronoussynthesis/ltl/LtlSyntax", name := "isNameStart", desc := "(C)Z" } : Jvm.MethodName) prog_37_method_2_code (1 : Nat) (Option.some Jvm.ClassFile.FieldType.boolean)]
set_option maxRecDepth 65536 in
theorem codes_eq : words1.filter isCode = codes1 := rfl
theorem w_codes : ∀ c ∈ words1.filter isCode, c.before args0 about1 = true := by
  rw [codes_eq]
  intro c hc
  simp only [codes1, List.mem_cons, List.not_mem_nil, or_false] at hc
  rcases hc with rfl | rfl | rfl
  · exact w_c0
  · exact w_c1
  · exact w_c2
set_option maxRecDepth 65536 in
theorem w_t1 : words1.all (fun c => isCode c || c.before args0 about1) = true := by decide +kernel
theorem w_tables : (allAtoms (Jvm.Cond.code x code maxLocals ret :: tables_1)).before args0 about1 = true := by
  rw [allAtoms_all]
  show words1.all (fun c => c.before args0 about1) = true
  refine all_split ?_ w_codes
  rw [w_t1]
set_option maxRecDepth 65536 in
theorem w_case : (Jvm.Cond.and given_1 narrow_1).before args0 about1 = true := by decide +kernel
theorem w_applies : (headSpec (Jvm.Cond.code x code maxLocals ret :: tables_1) room_1).applies x e0.platform about1 = true :=
  (Spec.applies_iff w_frames).mpr ⟨w_running, w_runnable, w_alone, w_named, w_hears, w_ripe, w_room, w_tables⟩
theorem atStart : AtStart classFile x code maxLocals ret World_1 tables_1 room_1 Calls_1 rest_1 Pre_1 launch0 p0 e0 about1 theMethod args0 below0 :=
  ⟨lists_1, trivial, launch0.admits_env _ _ _, launch0.least_env, fairChoices_fair.cas, fairChoices_fair.clock, w_frames, w_args, w_heap, w_applies, trivial, trivial, w_case⟩
end start1
theorem witness_1 : WitnessClaimed_1 := ⟨start1.p0, start1.e0, start1.about1, start1.theMethod, start1.args0, start1.below0, start1.atStart⟩
end Jvm.Pilot.@@N@@
