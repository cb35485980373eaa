import JvmDerived
import JvmDerived.Pilot.@@N@@Statement
import JvmDerived.Pilot.@@N@@Code
set_option linter.unusedVariables false
set_option linter.unusedSimpArgs false
namespace Jvm.Pilot.@@N@@
open Jvm Jvm.ClassFile Sem Op Lib Jvm.Free Jvm.Stand Jvm.LawKit Jvm.RoadKit Bundle Jvm.Pilot.@@N@@.Jvm.D
section OwnGo
variable {p : Program} {l : Launch} {e : Env} {R : Room} {s : State} {m : MethodId} {args : Array Value} {below : List Frame} {meth : Method} {c : Code} {T : State} {locs : List Loc} {cells slots : Nat}
/-- from S the run ends, returned, with Q -/
def own_Go (p : Program) (e : Env) (below : List Frame) (s : State) (Q : Option Value → Heap → List Loc → Prop) (cs ss : Nat) (S : State) : Prop :=
  ∃ (U : State) (o : Outcome), Steps p.tables e below S U ∧ U.status = .running ∧ Ended U below o ∧ ∃ v L, o = .returned v ∧ Q v U.heap L ∧ FrameEnd s o U L cs ss
variable {Q : Option Value → Heap → List Loc → Prop} {cs ss : Nat} {S S' : State}
theorem own_via (st : ∀ t, Steps p.tables e below S' t → Steps p.tables e below S t) (k : own_Go p e below s Q cs ss S') : own_Go p e below s Q cs ss S := by
  obtain ⟨U, o, h, r⟩ := k; exact ⟨U, o, st U h, r⟩
theorem own_viaT (st : Steps p.tables e below S S') (k : own_Go p e below s Q cs ss S') : own_Go p e below s Q cs ss S := own_via (fun _ h => st.trans h) k
theorem own_goV (X : Stand p l e R s m args below meth c T locs cells slots) (hx : p.tables.exec = Jvm.exec) {pc : Nat} {Ls : Array Slot} (hret : meth.sig.returnType = none) (hd : decode c.code pc = .ok (.return_, 1)) (hk : meth.locks = false) (hc : cells ≤ cs) (hs : slots ≤ ss) (hQ : Q none T.heap locs) :
    own_Go p e below s Q cs ss (T.setTop (mkF m pc Ls [])) := by
  obtain ⟨fs, hr, hrun, hended, hW, hsame⟩ := X.leave (v := none) (fun _ => rfl) hk
  exact ⟨_, _, X.returnOut hx hret hd hr, hrun, hended, _, _, rfl, hQ, ⟨_, rfl⟩, hW, hsame.mono hc hs⟩
theorem own_goN (X : Stand p l e R s m args below meth c T locs cells slots) (hx : p.tables.exec = Jvm.exec) {pc : Nat} {Ls : Array Slot} {z : Int32} {t : FieldType} {rest : List Value} (hret : meth.sig.returnType = some t) (ht : t = .boolean ∨ t = .byte ∨ t = .char ∨ t = .short) (hd : decode c.code pc = .ok (.ireturn, 1)) (hk : meth.locks = false) (hc : cells ≤ cs) (hs : slots ≤ ss) (hQ : Q (some (.int (nar t z))) T.heap locs) :
    own_Go p e below s Q cs ss (T.setTop (mkF m pc Ls (.int z :: rest))) := by
  obtain ⟨fs, hr, hrun, hended, hW, hsame⟩ := X.leave (v := some (.int (nar t z))) (fun h => by rw [hret] at h; cases h) hk
  exact ⟨_, _, retN X hx hret ht hd hr, hrun, hended, _, _, rfl, hQ, ⟨_, rfl⟩, hW, hsame.mono hc hs⟩
theorem own_goI (X : Stand p l e R s m args below meth c T locs cells slots) (hx : p.tables.exec = Jvm.exec) {pc : Nat} {Ls : Array Slot} {z : Int32} (hret : meth.sig.returnType = some .int) (hd : decode c.code pc = .ok (.ireturn, 1)) (hk : meth.locks = false) (hc : cells ≤ cs) (hs : slots ≤ ss) (hQ : Q (some (.int z)) T.heap locs) :
    own_Go p e below s Q cs ss (T.setTop (mkF m pc Ls [.int z])) := by
  obtain ⟨fs, hr, hrun, hended, hW, hsame⟩ := X.leave (v := some (.int z)) (fun h => by rw [hret] at h; cases h) hk
  exact ⟨_, _, X.ireturnOut hx hret rfl (Or.inl rfl) hd hr, hrun, hended, _, _, rfl, hQ, ⟨_, rfl⟩, hW, hsame.mono hc hs⟩
theorem own_goJ (X : Stand p l e R s m args below meth c T locs cells slots) (hx : p.tables.exec = Jvm.exec) {pc : Nat} {Ls : Array Slot} {z : Int64} (hret : meth.sig.returnType = some .long) (hd : decode c.code pc = .ok (.lreturn, 1)) (hk : meth.locks = false) (hc : cells ≤ cs) (hs : slots ≤ ss) (hQ : Q (some (.long z)) T.heap locs) :
    own_Go p e below s Q cs ss (T.setTop (mkF m pc Ls [.long z])) := by
  obtain ⟨fs, hr, hrun, hended, hW, hsame⟩ := X.leave (v := some (.long z)) (fun h => by rw [hret] at h; cases h) hk
  exact ⟨_, _, X.lreturnOut hx hret hd hr, hrun, hended, _, _, rfl, hQ, ⟨_, rfl⟩, hW, hsame.mono hc hs⟩
theorem own_goA (X : Stand p l e R s m args below meth c T locs cells slots) (hx : p.tables.exec = Jvm.exec) {pc : Nat} {Ls : Array Slot} {w : Value} {t : FieldType} (hw : w.isRef = true) (hret : meth.sig.returnType = some t) (ht : t.isReference = true) (hd : decode c.code pc = .ok (.areturn, 1)) (hk : meth.locks = false) (hc : cells ≤ cs) (hs : slots ≤ ss) (hQ : Q (some w) T.heap locs) :
    own_Go p e below s Q cs ss (T.setTop (mkF m pc Ls [w])) := by
  obtain ⟨fs, hr, hrun, hended, hW, hsame⟩ := X.leave (v := some w) (fun h => by rw [hret] at h; cases h) hk
  exact ⟨_, _, X.areturnOut hx hw hret ht hd hr, hrun, hended, _, _, rfl, hQ, ⟨_, rfl⟩, hW, hsame.mono hc hs⟩
theorem own_selP {s : State} {args : Array Value} {y y' : MethodName} (hs : (Cond.selects y'.cls y' y').before args s = true) (hc : y'.cls = y.cls) (hpriv : s.PrivateAt y) (hinst : (Cond.instanceMethod y).before args s = true) (hy : y.cls ≠ "java/lang/invoke/MethodHandle" ∧ y.cls ≠ "java/lang/invoke/VarHandle") : (Cond.selects y.cls y y).before args s = true := by
  obtain ⟨c2, r2, m2, -, -, q3, -, kP, hkP, hkPi⟩ := Cond.selects_spec hs
  exact selects_self_of_private (hc ▸ findClass_of_methodNamed q3) hkP hkPi hpriv hinst hy
end OwnGo
def o_i2l (x : Int32) : Int64 := x.toInt64
def o_l2i (x : Int64) : Int32 := x.toInt32
def o_i2b (x : Int32) : Int32 := x.toInt8.toInt32
def o_i2s (x : Int32) : Int32 := x.toInt16.toInt32
def o_i2c (x : Int32) : Int32 := x.toUInt32.toUInt16.toUInt32.toInt32
def o_ishl (x y : Int32) : Int32 := x <<< (y &&& 31)
def o_ishr (x y : Int32) : Int32 := x >>> (y &&& 31)
def o_iushr (x y : Int32) : Int32 := (x.toUInt32 >>> (y &&& 31).toUInt32).toInt32
def o_lshl (x : Int64) (y : Int32) : Int64 := x <<< (y &&& 0x3f).toInt64
def o_lshr (x : Int64) (y : Int32) : Int64 := x >>> (y &&& 0x3f).toInt64
def o_lushr (x : Int64) (y : Int32) : Int64 := (x.toUInt64 >>> (y &&& 0x3f).toInt64.toUInt64).toInt64
def o_irem (x y : Int32) : Int32 := x - (x / y) * y
def o_lrem (x y : Int64) : Int64 := x - (x / y) * y
def o_d0 : UInt64 := FP.dconst0
def o_d1 : UInt64 := FP.dconst1
theorem d13_0 : decode prog_21_method_13_code 0 = .ok (.iload_n 0, 1) := by decide +kernel
theorem d13_1 : decode prog_21_method_13_code 1 = .ok (.bipush 32, 2) := by decide +kernel
theorem d13_3 : decode prog_21_method_13_code 3 = .ok (.if_icmp .eq 9, 3) := by decide +kernel
theorem d13_12 : decode prog_21_method_13_code 12 = .ok (.iconst 1, 1) := by decide +kernel
theorem d13_13 : decode prog_21_method_13_code 13 = .ok (.goto 4, 3) := by decide +kernel
theorem d13_17 : decode prog_21_method_13_code 17 = .ok (.ireturn, 1) := by decide +kernel
theorem d13_6 : decode prog_21_method_13_code 6 = .ok (.iload_n 0, 1) := by decide +kernel
theorem d13_7 : decode prog_21_method_13_code 7 = .ok (.bipush 9, 2) := by decide +kernel
theorem d13_9 : decode prog_21_method_13_code 9 = .ok (.if_icmp .ne 7, 3) := by decide +kernel
theorem d13_16 : decode prog_21_method_13_code 16 = .ok (.iconst 0, 1) := by decide +kernel
def own_bl (p0 : Int32) : Int32 := (if p0 = (32 : Int32) then (1 : Int32) else (if p0 = (9 : Int32) then (1 : Int32) else (0 : Int32)))
theorem pn_0 : plainName "com/example/enlace/enlace/graph/LineFields" = true := by first | (simp [plainName, overriddenIn]; done) | decide +kernel
theorem ef_13 (m : MethodId) (x0 : Int32) : entryFrame m #[(.int x0)] 1 = mkF m 0 #[.val (.int x0)] [] := by first | (simp [entryFrame, mkF, argsToLocals, Value.category]; done) | rfl
def Q13 (Z : State) (p0 : Int32) (h0 : Heap) (n0 : Nat) (v : Option Value) (h : Heap) (L : List Loc) : Prop := v = some (.int (own_bl p0)) ∧ Fr n0 L ∧ h = h0
set_option maxRecDepth 65536 in
set_option maxHeartbeats 40000000 in
theorem rm13 (l : Launch) (Z : State) (a0 : Array Value) (hw : ∀ d ∈ tables_1, d.before a0 Z = true) (ws : List Jvm.Cond) (p0 : Int32) (h0 : Heap) (n0 : Nat) (Z0 : n0 ≤ h0.size) :
    MetFree l (⟨"com/example/enlace/enlace/graph/LineFields", "isBlank", "(B)Z"⟩ : MethodName) (head1 (Jvm.Cond.code (⟨"com/example/enlace/enlace/graph/LineFields", "isBlank", "(B)Z"⟩ : MethodName) prog_21_method_13_code 1 (some .boolean) :: ws) ({ frames := 0, cells := 0, slots := 0, locals := 0 } : Room)) (fun q_ U => q_ = #[(.int p0)] ∧ Z.Warmed39 U.vm ∧ U.heap = h0) (fun _ _ _ _ _ => True) (fun _ U o U' => ∃ v L, o = .returned v ∧ Q13 Z p0 h0 n0 v U'.heap L ∧ FrameEnd U o U' L ({ frames := 0, cells := 0, slots := 0, locals := 0 } : Room).cells ({ frames := 0, cells := 0, slots := 0, locals := 0 } : Room).slots) := by
  refine MetFree.of_bodySF (plainFor_of_name pn_0) hisR ?_
  intro p e s m args below meth c s₁ Bd hml0 hP hK
  obtain ⟨rfl, hZ, hh⟩ := hP
  have hx := Bd.exec
  have hby := Bd.bytes
  have hml : c.maxLocals = 1 := hml0
  have hown : s.vm.findClass "com/example/enlace/enlace/graph/LineFields" = some m.cls := findClass_of_methodNamed Bd.named
  have hnm := (name_of_methodNamed Bd.named Bd.method).1
  have X0 : Stand p l e ({ frames := 0, cells := 0, slots := 0, locals := 0 } : Room) s m #[(.int p0)] below meth c s₁ [] 0 0 := Stand.of_body Bd
  have e0 : s₁.heap = h0 := by rw [← hh, Bd.state]; rfl
  have N0 := Fr.nil n0
  show own_Go p e below s (Q13 Z p0 h0 n0) ({ frames := 0, cells := 0, slots := 0, locals := 0 } : Room).cells ({ frames := 0, cells := 0, slots := 0, locals := 0 } : Room).slots (s₁.setTop (entryFrame m #[(.int p0)] 1))
  refine own_via (fun t k => castTop (ef_13 m p0) k) ?_
  show own_Go p e below s _ _ _ (s₁.setTop (mkF m 0 #[.val (.int p0)] []))
  refine own_via (fun _ k => XS.iloadN X0.here hx rfl (hb hby d13_0) rfl k) ?_
  show own_Go p e below s _ _ _ (s₁.setTop (mkF m 1 #[.val (.int p0)] [(.int p0)]))
  refine own_via (fun _ k => XS.bipush X0.here hx rfl (hb hby d13_1) k) ?_
  show own_Go p e below s _ _ _ (s₁.setTop (mkF m 3 #[.val (.int p0)] [(.int (32 : Int32)), (.int p0)]))
  by_cases hc1 : p0 = (32 : Int32)
  · refine own_via (fun _ k => XS.icmpYes X0.here hx rfl (pc0 := 3) (pc' := 12) rfl (hb hby d13_3) rfl (Jvm.Free.XT.ii_eq_t hc1) (by decide) (by decide) k) ?_
    show own_Go p e below s _ _ _ (s₁.setTop (mkF m 12 #[.val (.int p0)] []))
    refine own_via (fun _ k => XS.iconst X0.here hx rfl (hb hby d13_12) k) ?_
    show own_Go p e below s _ _ _ (s₁.setTop (mkF m 13 #[.val (.int p0)] [(.int (1 : Int32))]))
    refine own_via (fun _ k => XS.goto X0.here hx rfl (pc0 := 13) (pc' := 17) rfl (hb hby d13_13) (by decide) (by decide) k) ?_
    show own_Go p e below s _ _ _ (s₁.setTop (mkF m 17 #[.val (.int p0)] [(.int (1 : Int32))]))
    exact own_goN X0 hx (t := .boolean) Bd.returns (by simp) (hb hby d13_17) Bd.notSynchronized (by decide) (by decide) (by rw [e0]; exact ⟨by rw [own_bl, if_pos hc1] <;> rfl, N0, rfl⟩)
  · refine own_via (fun _ k => XS.icmpNo X0.here hx rfl (hb hby d13_3) rfl (Jvm.Free.XT.ii_eq_f hc1) k) ?_
    show own_Go p e below s _ _ _ (s₁.setTop (mkF m 6 #[.val (.int p0)] []))
    refine own_via (fun _ k => XS.iloadN X0.here hx rfl (hb hby d13_6) rfl k) ?_
    show own_Go p e below s _ _ _ (s₁.setTop (mkF m 7 #[.val (.int p0)] [(.int p0)]))
    refine own_via (fun _ k => XS.bipush X0.here hx rfl (hb hby d13_7) k) ?_
    show own_Go p e below s _ _ _ (s₁.setTop (mkF m 9 #[.val (.int p0)] [(.int (9 : Int32)), (.int p0)]))
    by_cases hc2 : p0 = (9 : Int32)
    · refine own_via (fun _ k => XS.icmpNo X0.here hx rfl (hb hby d13_9) rfl (Jvm.Free.XT.ii_ne_f hc2) k) ?_
      show own_Go p e below s _ _ _ (s₁.setTop (mkF m 12 #[.val (.int p0)] []))
      refine own_via (fun _ k => XS.iconst X0.here hx rfl (hb hby d13_12) k) ?_
      show own_Go p e below s _ _ _ (s₁.setTop (mkF m 13 #[.val (.int p0)] [(.int (1 : Int32))]))
      refine own_via (fun _ k => XS.goto X0.here hx rfl (pc0 := 13) (pc' := 17) rfl (hb hby d13_13) (by decide) (by decide) k) ?_
      show own_Go p e below s _ _ _ (s₁.setTop (mkF m 17 #[.val (.int p0)] [(.int (1 : Int32))]))
      exact own_goN X0 hx (t := .boolean) Bd.returns (by simp) (hb hby d13_17) Bd.notSynchronized (by decide) (by decide) (by rw [e0]; exact ⟨by rw [own_bl, if_neg hc1, if_pos hc2] <;> rfl, N0, rfl⟩)
    · refine own_via (fun _ k => XS.icmpYes X0.here hx rfl (pc0 := 9) (pc' := 16) rfl (hb hby d13_9) rfl (Jvm.Free.XT.ii_ne_t hc2) (by decide) (by decide) k) ?_
      show own_Go p e below s _ _ _ (s₁.setTop (mkF m 16 #[.val (.int p0)] []))
      refine own_via (fun _ k => XS.iconst X0.here hx rfl (hb hby d13_16) k) ?_
      show own_Go p e below s _ _ _ (s₁.setTop (mkF m 17 #[.val (.int p0)] [(.int (0 : Int32))]))
      exact own_goN X0 hx (t := .boolean) Bd.returns (by simp) (hb hby d13_17) Bd.notSynchronized (by decide) (by decide) (by rw [e0]; exact ⟨by rw [own_bl, if_neg hc1, if_neg hc2] <;> rfl, N0, rfl⟩)

theorem own_t (n : Nat) (h : n ≤ 16) : (Nat.toInt32 n).toInt = n := len_toInt (by omega)
theorem own_ltn {i j : Nat} (hj : j ≤ 16) (hi : i ≤ 16) : (Nat.toInt32 i) < (Nat.toInt32 j) ↔ i < j := by
  rw [Int32.lt_iff_toInt_lt, own_t i hi, own_t j hj]; omega
theorem own_nn {i : Nat} (hi : i ≤ 16) : ¬ (Nat.toInt32 i) < 0 := by
  rw [Int32.lt_iff_toInt_lt, own_t i hi]; simp only [Int32.reduceToInt]; omega
theorem own_nc {i : Nat} (hi : i ≤ 16) : (Nat.toInt32 i).toNatClampNeg = i := by simp only [Int32.toNatClampNeg, own_t i hi]; omega
theorem own_succ (i : Nat) : (Nat.toInt32 i) + (1 : Int32) = Nat.toInt32 (i + 1) := by
  apply Int32.toBitVec_inj.mp
  show BitVec.ofNat 32 i + 1#32 = BitVec.ofNat 32 (i + 1)
  apply BitVec.eq_of_toNat_eq; simp [BitVec.toNat_add]
theorem own_pred {i : Nat} (h : 0 < i) : (Nat.toInt32 i) - (1 : Int32) = Nat.toInt32 (i - 1) := by
  have q := own_succ (i - 1)
  rw [show i - 1 + 1 = i by omega] at q
  rw [← q, Int32.add_sub_cancel]
theorem own_pred' {i : Nat} (h : 0 < i) : (Nat.toInt32 i) + (-1 : Int32) = Nat.toInt32 (i - 1) := by
  rw [← own_pred h, Int32.sub_eq_add_neg]
theorem own_eqn {i j : Nat} (hi : i ≤ 16) (hj : j ≤ 16) : (Nat.toInt32 i) = (Nat.toInt32 j) ↔ i = j := by
  rw [← Int32.toInt_inj, own_t i hi, own_t j hj]; omega
theorem own_inb {i : Nat} {z : Int32} (hi : i ≤ 16) (hz : (i : Int) < z.toInt) : ¬ (Nat.toInt32 i) < 0 ∧ (Nat.toInt32 i) < z := by
  refine ⟨own_nn hi, ?_⟩
  rw [Int32.lt_iff_toInt_lt, own_t i hi]; exact hz
def own_g (us : List Int32) (i : Nat) : Int32 := us.getD i 0
theorem own_gm (us : List Int32) {i : Nat} (hi : i ≤ 16) : (us.map Value.int).getD (Nat.toInt32 i).toNatClampNeg (.int (0 : Int32)) = .int (own_g us i) := by
  rw [own_nc hi]
  simp only [own_g, List.getD_eq_getElem?_getD, List.getElem?_map]
  cases us[i]? <;> rfl
def own_sk (us : List Int32) : Nat → Nat → Nat
  | 0, i => i
  | n + 1, i => if own_bl (own_g us i) = (0 : Int32) then i else own_sk us n (i + 1)
def own_nb (us : List Int32) : Nat → Nat → Nat
  | 0, i => i
  | n + 1, i => if own_bl (own_g us i) = (0 : Int32) then own_nb us n (i + 1) else i
theorem own_sk_r (us : List Int32) : ∀ (n i : Nat), i ≤ own_sk us n i ∧ own_sk us n i ≤ i + n
  | 0, i => ⟨Nat.le_refl _, Nat.le_refl _⟩
  | n + 1, i => by
    rw [own_sk]
    have := own_sk_r us n (i + 1)
    split <;> omega
theorem own_nb_r (us : List Int32) : ∀ (n i : Nat), i ≤ own_nb us n i ∧ own_nb us n i ≤ i + n
  | 0, i => ⟨Nat.le_refl _, Nat.le_refl _⟩
  | n + 1, i => by
    rw [own_nb]
    have := own_nb_r us n (i + 1)
    split <;> omega
def own_end (us : List Int32) (s e : Nat) : Nat := if s < e ∧ own_g us (e - 1) = (13 : Int32) then e - 1 else e
def own_pos (us : List Int32) (s e : Nat) : Nat := if own_sk us (e - s) s < e ∧ own_g us (own_sk us (e - s) s) = (35 : Int32) then e else own_sk us (e - s) s
def own_A (us : List Int32) (e q : Nat) : Nat := own_sk us (e - q) q
def own_Bk (us : List Int32) (e q : Nat) : Nat := own_nb us (e - own_A us e q) (own_A us e q)
def own_nr (us : List Int32) (e q : Nat) : Int32 := if own_A us e q = e then (0 : Int32) else (1 : Int32)
def own_nq (us : List Int32) (e q : Nat) : Nat := if own_A us e q = e then e else own_Bk us e q
def own_nfs (us : List Int32) (e q : Nat) (f : Int32) : Int32 := if own_A us e q = e then f else Nat.toInt32 (own_A us e q)
def own_nft (us : List Int32) (e q : Nat) (f : Int32) : Int32 := if own_A us e q = e then f else Nat.toInt32 (own_Bk us e q)
theorem own_A_r {us : List Int32} {e q : Nat} (h : q ≤ e) : q ≤ own_A us e q ∧ own_A us e q ≤ e := by
  have := own_sk_r us (e - q) q
  unfold own_A; omega
theorem own_nq_r {us : List Int32} {e q : Nat} (h : q ≤ e) : own_nq us e q ≤ e := by
  have := own_A_r (us := us) h
  have := own_nb_r us (e - own_A us e q) (own_A us e q)
  unfold own_nq own_Bk
  split <;> omega

theorem d8_0 : decode prog_21_method_12_code 0 = .ok (.iload_n 1, 1) := by decide +kernel
theorem d8_1 : decode prog_21_method_12_code 1 = .ok (.istore_n 2, 1) := by decide +kernel
theorem d8_2 : decode prog_21_method_12_code 2 = .ok (.iload_n 2, 1) := by decide +kernel
theorem d8_3 : decode prog_21_method_12_code 3 = .ok (.aload_n 0, 1) := by decide +kernel
theorem d8_4 : decode prog_21_method_12_code 4 = .ok (.getfield 29, 3) := by decide +kernel
theorem d8_7 : decode prog_21_method_12_code 7 = .ok (.if_icmp .ge 21, 3) := by decide +kernel
theorem d8_28 : decode prog_21_method_12_code 28 = .ok (.iload_n 2, 1) := by decide +kernel
theorem d8_29 : decode prog_21_method_12_code 29 = .ok (.ireturn, 1) := by decide +kernel
theorem d8_10 : decode prog_21_method_12_code 10 = .ok (.aload_n 0, 1) := by decide +kernel
theorem d8_11 : decode prog_21_method_12_code 11 = .ok (.getfield 25, 3) := by decide +kernel
theorem d8_14 : decode prog_21_method_12_code 14 = .ok (.iload_n 2, 1) := by decide +kernel
theorem d8_15 : decode prog_21_method_12_code 15 = .ok (.baload, 1) := by decide +kernel
theorem pd_0 : parseMethodDescriptor "(B)Z" = some ⟨[.byte], some .boolean⟩ := by decide +kernel
theorem d8_16 : decode prog_21_method_12_code 16 = .ok (.invokestatic 46, 3) := by decide +kernel
theorem d8_19 : decode prog_21_method_12_code 19 = .ok (.ifCond .eq 9, 3) := by decide +kernel
theorem d8_22 : decode prog_21_method_12_code 22 = .ok (.iinc 2 1, 3) := by decide +kernel
theorem d8_25 : decode prog_21_method_12_code 25 = .ok (.goto (-23), 3) := by decide +kernel
theorem ef_8 (m : MethodId) (x0 : Addr) (x1 : Int32) : entryFrame m #[(.ref x0), (.int x1)] 3 = mkF m 0 #[.val (.ref x0), .val (.int x1), .unset] [] := by first | (simp [entryFrame, mkF, argsToLocals, Value.category]; done) | rfl
def Q8 (Z : State) (a : Addr) (p_ : Int32) (b_ : Addr) (k_ : ClassId) (z_ : Int32) (us_ : List Int32) (e_ : Int32) (i0_ : Nat) (n0_ : Nat) (h0 : Heap) (n0 : Nat) (v : Option Value) (h : Heap) (L : List Loc) : Prop := v = some (.int (Nat.toInt32 (own_sk us_ n0_ i0_))) ∧ Fr n0 L ∧ h = h0
set_option maxRecDepth 65536 in
set_option maxHeartbeats 40000000 in
theorem rm8 (l : Launch) (Z : State) (a0 : Array Value) (hw : ∀ d ∈ tables_1, d.before a0 Z = true) (ws : List Jvm.Cond) (a : Addr) (p_ : Int32) (b_ : Addr) (k_ : ClassId) (z_ : Int32) (us_ : List Int32) (e_ : Int32) (i0_ : Nat) (n0_ : Nat) (h0 : Heap) (n0 : Nat) (Z0 : n0 ≤ h0.size) (F_bytes_a : Fld Z h0 a "com/example/enlace/enlace/graph/LineFields" "bytes" "[B" (.ref b_)) (F_end_a : Fld Z h0 a "com/example/enlace/enlace/graph/LineFields" "end" "I" (.int e_)) (V_b_ : Arv Z h0 b_ k_ .byte z_ (us_.map Value.int) (.int (0 : Int32))) (hp3 : p_ = Nat.toInt32 i0_) (hp4 : e_ = Nat.toInt32 (i0_ + n0_)) (hp5 : i0_ + n0_ ≤ 16) (hp6 : ((i0_ + n0_ : Nat) : Int) ≤ z_.toInt) :
    MetFree l (⟨"com/example/enlace/enlace/graph/LineFields", "skipBlanks", "(I)I"⟩ : MethodName) (head1 (Jvm.Cond.code (⟨"com/example/enlace/enlace/graph/LineFields", "skipBlanks", "(I)I"⟩ : MethodName) prog_21_method_12_code 3 (some .int) :: ws) ({ frames := 1, cells := 0, slots := 0, locals := 12 } : Room)) (fun q_ U => q_ = #[(.ref a), (.int p_)] ∧ Z.Warmed39 U.vm ∧ U.heap = h0) (fun _ _ _ _ _ => True) (fun _ U o U' => ∃ v L, o = .returned v ∧ Q8 Z a p_ b_ k_ z_ us_ e_ i0_ n0_ h0 n0 v U'.heap L ∧ FrameEnd U o U' L ({ frames := 1, cells := 0, slots := 0, locals := 12 } : Room).cells ({ frames := 1, cells := 0, slots := 0, locals := 12 } : Room).slots) := by
  refine MetFree.of_bodySF (plainFor_of_name pn_0) hisR ?_
  intro p e s m args below meth c s₁ Bd hml0 hP hK
  obtain ⟨rfl, hZ, hh⟩ := hP
  have hx := Bd.exec
  have hby := Bd.bytes
  have hml : c.maxLocals = 3 := hml0
  have hown : s.vm.findClass "com/example/enlace/enlace/graph/LineFields" = some m.cls := findClass_of_methodNamed Bd.named
  have hnm := (name_of_methodNamed Bd.named Bd.method).1
  have X0 : Stand p l e ({ frames := 1, cells := 0, slots := 0, locals := 12 } : Room) s m #[(.ref a), (.int p_)] below meth c s₁ [] 0 0 := Stand.of_body Bd
  have e0 : s₁.heap = h0 := by rw [← hh, Bd.state]; rfl
  have N0 := Fr.nil n0
  show own_Go p e below s (Q8 Z a p_ b_ k_ z_ us_ e_ i0_ n0_ h0 n0) ({ frames := 1, cells := 0, slots := 0, locals := 12 } : Room).cells ({ frames := 1, cells := 0, slots := 0, locals := 12 } : Room).slots (s₁.setTop (entryFrame m #[(.ref a), (.int p_)] 3))
  refine own_via (fun t k => castTop (ef_8 m a p_) k) ?_
  show own_Go p e below s _ _ _ (s₁.setTop (mkF m 0 #[.val (.ref a), .val (.int p_), .unset] []))
  subst hp3 hp4
  show own_Go p e below s _ _ _ (s₁.setTop (mkF m 0 #[.val (.ref a), .val (.int (Nat.toInt32 i0_)), .unset] []))
  refine own_via (fun _ k => XS.iloadN X0.here hx rfl (hb hby d8_0) rfl k) ?_
  show own_Go p e below s _ _ _ (s₁.setTop (mkF m 1 #[.val (.ref a), .val (.int (Nat.toInt32 i0_)), .unset] [(.int (Nat.toInt32 i0_))]))
  refine own_via (fun _ k => XS.istoreN X0.here hx rfl (hb hby d8_1) rfl (l' := #[.val (.ref a), .val (.int (Nat.toInt32 i0_)), .val (.int (Nat.toInt32 i0_))]) rfl k) ?_
  show own_Go p e below s _ _ _ (s₁.setTop (mkF m 2 #[.val (.ref a), .val (.int (Nat.toInt32 i0_)), .val (.int (Nat.toInt32 i0_))] []))
  have loop : ∀ (n_ : Nat) (i_ : Nat) (T1 : State) (lo1 : List Loc) (h1 : Heap), Stand p l e ({ frames := 1, cells := 0, slots := 0, locals := 12 } : Room) s m #[(.ref a), (.int (Nat.toInt32 i0_))] below meth c T1 lo1 0 0 → T1.heap = h1 → Fr n0 lo1 → n0 ≤ h1.size → h1 = h0 → Fld Z h1 a "com/example/enlace/enlace/graph/LineFields" "bytes" "[B" (.ref b_) → Fld Z h1 a "com/example/enlace/enlace/graph/LineFields" "end" "I" (.int (Nat.toInt32 (i0_ + n0_))) → Arv Z h1 b_ k_ .byte z_ (us_.map Value.int) (.int (0 : Int32)) → i_ + n_ = i0_ + n0_ → own_sk us_ n_ i_ = own_sk us_ n0_ i0_ → own_Go p e below s (Q8 Z a (Nat.toInt32 i0_) b_ k_ z_ us_ (Nat.toInt32 (i0_ + n0_)) i0_ n0_ h0 n0) ({ frames := 1, cells := 0, slots := 0, locals := 12 } : Room).cells ({ frames := 1, cells := 0, slots := 0, locals := 12 } : Room).slots (T1.setTop (mkF m 2 #[.val (.ref a), .val (.int (Nat.toInt32 i0_)), .val (.int (Nat.toInt32 i_))] [])) := by
    intro n_
    induction n_ with
    | zero =>
      intro i_ T1 lo1 h1 X1 e1 N1 Z1 hh1 F2 F3 F4 hE hr
      show own_Go p e below s _ _ _ (T1.setTop (mkF m 2 #[.val (.ref a), .val (.int (Nat.toInt32 i0_)), .val (.int (Nat.toInt32 i_))] []))
      refine own_via (fun _ k => XS.iloadN X1.here hx rfl (hb hby d8_2) rfl k) ?_
      show own_Go p e below s _ _ _ (T1.setTop (mkF m 3 #[.val (.ref a), .val (.int (Nat.toInt32 i0_)), .val (.int (Nat.toInt32 i_))] [(.int (Nat.toInt32 i_))]))
      refine own_via (fun _ k => XS.aloadN X1.here hx rfl (hb hby d8_3) rfl rfl k) ?_
      show own_Go p e below s _ _ _ (T1.setTop (mkF m 4 #[.val (.ref a), .val (.int (Nat.toInt32 i0_)), .val (.int (Nat.toInt32 i_))] [(.ref a), (.int (Nat.toInt32 i_))]))
      obtain ⟨T5, X5, e5, st5⟩ := getF X1 hx hZ hown (host := "") (Or.inl (hw _ (List.mem_of_getElem? (i := 32) rfl))) Via.refl e1 F3 (g := (mkF m 4 #[.val (.ref a), .val (.int (Nat.toInt32 i0_)), .val (.int (Nat.toInt32 i_))] [(.ref a), (.int (Nat.toInt32 i_))])) rfl rfl (hb hby d8_4)
      refine own_via st5 ?_
      show own_Go p e below s _ _ _ (T5.setTop (mkF m 7 #[.val (.ref a), .val (.int (Nat.toInt32 i0_)), .val (.int (Nat.toInt32 i_))] [(.int (Nat.toInt32 (i0_ + n0_))), (.int (Nat.toInt32 i_))]))
      have hc6 : ¬ ((Nat.toInt32 i_) < (Nat.toInt32 (i0_ + n0_))) := fun q => absurd ((own_ltn (by omega) (by omega)).mp q) (by omega)
      refine own_via (fun _ k => XS.icmpYes X5.here hx rfl (pc0 := 7) (pc' := 28) rfl (hb hby d8_7) rfl (Jvm.Free.XT.ii_ge_t hc6) (by decide) (by decide) k) ?_
      show own_Go p e below s _ _ _ (T5.setTop (mkF m 28 #[.val (.ref a), .val (.int (Nat.toInt32 i0_)), .val (.int (Nat.toInt32 i_))] []))
      refine own_via (fun _ k => XS.iloadN X5.here hx rfl (hb hby d8_28) rfl k) ?_
      show own_Go p e below s _ _ _ (T5.setTop (mkF m 29 #[.val (.ref a), .val (.int (Nat.toInt32 i0_)), .val (.int (Nat.toInt32 i_))] [(.int (Nat.toInt32 i_))]))
      exact own_goI X5 hx Bd.returns (hb hby d8_29) Bd.notSynchronized (by decide) (by decide) (by rw [e5]; exact ⟨(by rw [← hr, own_sk]), N1, hh1⟩)
    | succ n_ ih =>
      intro i_ T1 lo1 h1 X1 e1 N1 Z1 hh1 F2 F3 F4 hE hr
      show own_Go p e below s _ _ _ (T1.setTop (mkF m 2 #[.val (.ref a), .val (.int (Nat.toInt32 i0_)), .val (.int (Nat.toInt32 i_))] []))
      refine own_via (fun _ k => XS.iloadN X1.here hx rfl (hb hby d8_2) rfl k) ?_
      show own_Go p e below s _ _ _ (T1.setTop (mkF m 3 #[.val (.ref a), .val (.int (Nat.toInt32 i0_)), .val (.int (Nat.toInt32 i_))] [(.int (Nat.toInt32 i_))]))
      refine own_via (fun _ k => XS.aloadN X1.here hx rfl (hb hby d8_3) rfl rfl k) ?_
      show own_Go p e below s _ _ _ (T1.setTop (mkF m 4 #[.val (.ref a), .val (.int (Nat.toInt32 i0_)), .val (.int (Nat.toInt32 i_))] [(.ref a), (.int (Nat.toInt32 i_))]))
      obtain ⟨T7, X7, e7, st7⟩ := getF X1 hx hZ hown (host := "") (Or.inl (hw _ (List.mem_of_getElem? (i := 32) rfl))) Via.refl e1 F3 (g := (mkF m 4 #[.val (.ref a), .val (.int (Nat.toInt32 i0_)), .val (.int (Nat.toInt32 i_))] [(.ref a), (.int (Nat.toInt32 i_))])) rfl rfl (hb hby d8_4)
      refine own_via st7 ?_
      show own_Go p e below s _ _ _ (T7.setTop (mkF m 7 #[.val (.ref a), .val (.int (Nat.toInt32 i0_)), .val (.int (Nat.toInt32 i_))] [(.int (Nat.toInt32 (i0_ + n0_))), (.int (Nat.toInt32 i_))]))
      have hc8 : (Nat.toInt32 i_) < (Nat.toInt32 (i0_ + n0_)) := (own_ltn (by omega) (by omega)).mpr (by omega)
      refine own_via (fun _ k => XS.icmpNo X7.here hx rfl (hb hby d8_7) rfl (Jvm.Free.XT.ii_ge_f hc8) k) ?_
      show own_Go p e below s _ _ _ (T7.setTop (mkF m 10 #[.val (.ref a), .val (.int (Nat.toInt32 i0_)), .val (.int (Nat.toInt32 i_))] []))
      refine own_via (fun _ k => XS.aloadN X7.here hx rfl (hb hby d8_10) rfl rfl k) ?_
      show own_Go p e below s _ _ _ (T7.setTop (mkF m 11 #[.val (.ref a), .val (.int (Nat.toInt32 i0_)), .val (.int (Nat.toInt32 i_))] [(.ref a)]))
      obtain ⟨T9, X9, e9, st9⟩ := getF X7 hx hZ hown (host := "") (Or.inl (hw _ (List.mem_of_getElem? (i := 30) rfl))) Via.refl e7 F2 (g := (mkF m 11 #[.val (.ref a), .val (.int (Nat.toInt32 i0_)), .val (.int (Nat.toInt32 i_))] [(.ref a)])) rfl rfl (hb hby d8_11)
      refine own_via st9 ?_
      show own_Go p e below s _ _ _ (T9.setTop (mkF m 14 #[.val (.ref a), .val (.int (Nat.toInt32 i0_)), .val (.int (Nat.toInt32 i_))] [(.ref b_)]))
      refine own_via (fun _ k => XS.iloadN X9.here hx rfl (hb hby d8_14) rfl k) ?_
      show own_Go p e below s _ _ _ (T9.setTop (mkF m 15 #[.val (.ref a), .val (.int (Nat.toInt32 i0_)), .val (.int (Nat.toInt32 i_))] [(.int (Nat.toInt32 i_)), (.ref b_)]))
      obtain ⟨cl10, Ar10, q10, S10, M10, H10, G10⟩ := (id F4)
      have hin10 : ¬ ((Nat.toInt32 i_) < 0 ∨ cl10.slots.size ≤ ((Nat.toInt32 i_)).toNatClampNeg) := inb_of S10 (own_inb (by omega) (by omega))
      have hat10 : cl10.slots[((Nat.toInt32 i_)).toNatClampNeg]? = some (.int (own_g us_ i_)) := Has.at H10 hin10 (own_gm us_ (by omega))
      refine own_via (fun _ k => X9.baloadBytes hx (j := (Nat.toInt32 i_)) (v := (.int (own_g us_ i_))) (by rw [e9]; exact Ar10.1) (State.isArrayOf_alike hZ.alike Ar10.2.1) Ar10.2.2 hin10 hat10 (g := (mkF m 15 #[.val (.ref a), .val (.int (Nat.toInt32 i0_)), .val (.int (Nat.toInt32 i_))] [(.int (Nat.toInt32 i_)), (.ref b_)])) rfl rfl (hb hby d8_15) _ k) ?_
      show own_Go p e below s _ _ _ (T9.setTop (mkF m 16 #[.val (.ref a), .val (.int (Nat.toInt32 i0_)), .val (.int (Nat.toInt32 i_))] [(.int (own_g us_ i_))]))
      obtain ⟨_, _, ⟨T11, L11, k11, n11⟩, -, X11, ⟨Lc11, hQ11, l11, y11, z11⟩, st11⟩ := Jvm.LawKit.callS X9 hx (y := (⟨"com/example/enlace/enlace/graph/LineFields", "isBlank", "(B)Z"⟩ : MethodName)) hown (mvT hZ (hw _ (List.mem_of_getElem? (i := 62) rfl))) (mvT hZ (hw _ (List.mem_of_getElem? (i := 63) rfl))) (mvT hZ (hw _ (List.mem_of_getElem? (i := 18) rfl))) (mvT hZ (hw _ (List.mem_of_getElem? (i := 64) rfl))) (by decide) (backOf (W := 0) (rm13 l Z a0 hw [] (own_g us_ i_) h1 n0 Z1 ) hZ (hw _ (List.mem_of_getElem? (i := 64) rfl)) (hw _ (List.mem_of_getElem? (i := 18) rfl)) (by decide) (by decide)) (g := (mkF m 16 #[.val (.ref a), .val (.int (Nat.toInt32 i0_)), .val (.int (Nat.toInt32 i_))] [(.int (own_g us_ i_))])) rfl (by rw [hml]; rfl) (argsL := [(.int (own_g us_ i_))]) (rest := []) (lenOf pd_0 rfl) rfl (by show 2 * 0 + _ ≤ _; exact Nat.le_of_eq rfl) (hb hby d8_16) (fun _ _ => ⟨rfl, e9, (by decide : 0 + 0 ≤ _), (by decide : 0 + 0 ≤ _)⟩)
      dsimp only [Pt.U, Pt.locs, Pt.cells, Pt.slots] at X11 l11 y11 z11 st11 hQ11
      subst l11 y11 z11
      obtain ⟨rfl, N11q, e11⟩ := hQ11
      have N11 := Fr.app N1 N11q
      refine own_via st11 ?_
      show own_Go p e below s _ _ _ (T11.setTop (mkF m 19 #[.val (.ref a), .val (.int (Nat.toInt32 i0_)), .val (.int (Nat.toInt32 i_))] [(.int (own_bl (own_g us_ i_)))]))
      by_cases hc12 : (own_bl (own_g us_ i_)) = (0 : Int32)
      · refine own_via (fun _ k => XS.ifYes X11.here hx rfl (pc0 := 19) (pc' := 28) rfl (hb hby d8_19) rfl (Jvm.Free.XT.i0_eq_t hc12) (by decide) (by decide) k) ?_
        show own_Go p e below s _ _ _ (T11.setTop (mkF m 28 #[.val (.ref a), .val (.int (Nat.toInt32 i0_)), .val (.int (Nat.toInt32 i_))] []))
        refine own_via (fun _ k => XS.iloadN X11.here hx rfl (hb hby d8_28) rfl k) ?_
        show own_Go p e below s _ _ _ (T11.setTop (mkF m 29 #[.val (.ref a), .val (.int (Nat.toInt32 i0_)), .val (.int (Nat.toInt32 i_))] [(.int (Nat.toInt32 i_))]))
        exact own_goI X11 hx Bd.returns (hb hby d8_29) Bd.notSynchronized (by decide) (by decide) (by rw [e11]; exact ⟨(by rw [← hr, own_sk, if_pos hc12]), N11, hh1⟩)
      · refine own_via (fun _ k => XS.ifNo X11.here hx rfl (hb hby d8_19) rfl (Jvm.Free.XT.i0_eq_f hc12) k) ?_
        show own_Go p e below s _ _ _ (T11.setTop (mkF m 22 #[.val (.ref a), .val (.int (Nat.toInt32 i0_)), .val (.int (Nat.toInt32 i_))] []))
        refine own_via (fun _ k => XS.iinc X11.here hx rfl (hb hby d8_22) rfl (l' := #[.val (.ref a), .val (.int (Nat.toInt32 i0_)), .val (.int ((Nat.toInt32 i_) + (1 : Int32)))]) rfl k) ?_
        show own_Go p e below s _ _ _ (T11.setTop (mkF m 25 #[.val (.ref a), .val (.int (Nat.toInt32 i0_)), .val (.int ((Nat.toInt32 i_) + (1 : Int32)))] []))
        rw [own_succ]
        show own_Go p e below s _ _ _ (T11.setTop (mkF m 25 #[.val (.ref a), .val (.int (Nat.toInt32 i0_)), .val (.int (Nat.toInt32 (i_ + 1)))] []))
        refine own_via (fun _ k => XS.goto X11.here hx rfl (pc0 := 25) (pc' := 2) rfl (hb hby d8_25) (by decide) (by decide) k) ?_
        show own_Go p e below s _ _ _ (T11.setTop (mkF m 2 #[.val (.ref a), .val (.int (Nat.toInt32 i0_)), .val (.int (Nat.toInt32 (i_ + 1)))] []))
        exact ih (i_ + 1) _ _ _ X11 e11 N11 Z1 hh1 F2 F3 F4 (by omega) (by rw [← hr, own_sk, if_neg hc12])
  exact loop n0_ i0_ _ _ _ X0 e0 N0 Z0 rfl F_bytes_a F_end_a V_b_ (rfl) (rfl)
theorem d5_0 : decode prog_21_method_1_code 0 = .ok (.aload_n 0, 1) := by decide +kernel
theorem d5_1 : decode prog_21_method_1_code 1 = .ok (.invokespecial 1, 3) := by decide +kernel
theorem d5_4 : decode prog_21_method_1_code 4 = .ok (.return_, 1) := by decide +kernel
theorem ef_5 (m : MethodId) (x0 : Addr) : entryFrame m #[(.ref x0)] 1 = mkF m 0 #[.val (.ref x0)] [] := by first | (simp [entryFrame, mkF, argsToLocals, Value.category]; done) | rfl
def Q5 (Z : State) (a : Addr) (h0 : Heap) (n0 : Nat) (v : Option Value) (h : Heap) (L : List Loc) : Prop := v = none ∧ Fr n0 L ∧ h = h0
set_option maxRecDepth 65536 in
set_option maxHeartbeats 40000000 in
theorem rm5 (l : Launch) (Z : State) (a0 : Array Value) (hw : ∀ d ∈ tables_1, d.before a0 Z = true) (ws : List Jvm.Cond) (a : Addr) (h0 : Heap) (n0 : Nat) (Z0 : n0 ≤ h0.size) :
    MetFree l (⟨"com/example/enlace/enlace/graph/LineFields", "<init>", "()V"⟩ : MethodName) (head1 (Jvm.Cond.code (⟨"com/example/enlace/enlace/graph/LineFields", "<init>", "()V"⟩ : MethodName) prog_21_method_1_code 1 none :: ws) ({ frames := 1, cells := 0, slots := 0, locals := 12 } : Room)) (fun q_ U => q_ = #[(.ref a)] ∧ Z.Warmed39 U.vm ∧ U.heap = h0) (fun _ _ _ _ _ => True) (fun _ U o U' => ∃ v L, o = .returned v ∧ Q5 Z a h0 n0 v U'.heap L ∧ FrameEnd U o U' L ({ frames := 1, cells := 0, slots := 0, locals := 12 } : Room).cells ({ frames := 1, cells := 0, slots := 0, locals := 12 } : Room).slots) := by
  refine MetFree.of_bodySF (plainFor_of_name pn_0) hisR ?_
  intro p e s m args below meth c s₁ Bd hml0 hP hK
  obtain ⟨rfl, hZ, hh⟩ := hP
  have hx := Bd.exec
  have hby := Bd.bytes
  have hml : c.maxLocals = 1 := hml0
  have hown : s.vm.findClass "com/example/enlace/enlace/graph/LineFields" = some m.cls := findClass_of_methodNamed Bd.named
  have hnm := (name_of_methodNamed Bd.named Bd.method).1
  have X0 : Stand p l e ({ frames := 1, cells := 0, slots := 0, locals := 12 } : Room) s m #[(.ref a)] below meth c s₁ [] 0 0 := Stand.of_body Bd
  have e0 : s₁.heap = h0 := by rw [← hh, Bd.state]; rfl
  have N0 := Fr.nil n0
  show own_Go p e below s (Q5 Z a h0 n0) ({ frames := 1, cells := 0, slots := 0, locals := 12 } : Room).cells ({ frames := 1, cells := 0, slots := 0, locals := 12 } : Room).slots (s₁.setTop (entryFrame m #[(.ref a)] 1))
  refine own_via (fun t k => castTop (ef_5 m a) k) ?_
  show own_Go p e below s _ _ _ (s₁.setTop (mkF m 0 #[.val (.ref a)] []))
  refine own_via (fun _ k => XS.aloadN X0.here hx rfl (hb hby d5_0) rfl rfl k) ?_
  show own_Go p e below s _ _ _ (s₁.setTop (mkF m 1 #[.val (.ref a)] [(.ref a)]))
  obtain ⟨T1, X1, e1, st1⟩ := initO X0 hx hZ hown (hw _ (List.mem_of_getElem? (i := 22) rfl)) (hw _ (List.mem_of_getElem? (i := 23) rfl)) (hw _ (List.mem_of_getElem? (i := 24) rfl)) e0 (g := (mkF m 1 #[.val (.ref a)] [(.ref a)])) rfl (by rw [hml]; rfl) rfl (hb hby d5_1) (by decide) (W := 0) (by show 2 * 0 + _ ≤ _; exact Nat.le_of_eq rfl) (by decide)
  refine own_via st1 ?_
  show own_Go p e below s _ _ _ (T1.setTop (mkF m 4 #[.val (.ref a)] []))
  exact own_goV X1 hx Bd.returns (hb hby d5_4) Bd.notSynchronized (by decide) (by decide) (by rw [e1]; exact ⟨rfl, N0, rfl⟩)
theorem d11_0 : decode prog_21_method_8_code 0 = .ok (.aload_n 0, 1) := by decide +kernel
theorem d11_1 : decode prog_21_method_8_code 1 = .ok (.getfield 40, 3) := by decide +kernel
theorem d11_4 : decode prog_21_method_8_code 4 = .ok (.ireturn, 1) := by decide +kernel
theorem ef_11 (m : MethodId) (x0 : Addr) : entryFrame m #[(.ref x0)] 1 = mkF m 0 #[.val (.ref x0)] [] := by first | (simp [entryFrame, mkF, argsToLocals, Value.category]; done) | rfl
def Q11 (Z : State) (a : Addr) (n_ : Int32) (h0 : Heap) (n0 : Nat) (v : Option Value) (h : Heap) (L : List Loc) : Prop := v = some (.int n_) ∧ Fr n0 L ∧ h = h0
set_option maxRecDepth 65536 in
set_option maxHeartbeats 40000000 in
theorem rm11 (l : Launch) (Z : State) (a0 : Array Value) (hw : ∀ d ∈ tables_1, d.before a0 Z = true) (ws : List Jvm.Cond) (a : Addr) (n_ : Int32) (h0 : Heap) (n0 : Nat) (Z0 : n0 ≤ h0.size) (F_fieldStart_a : Fld Z h0 a "com/example/enlace/enlace/graph/LineFields" "fieldStart" "I" (.int n_)) :
    MetFree l (⟨"com/example/enlace/enlace/graph/LineFields", "fieldStart", "()I"⟩ : MethodName) (head1 (Jvm.Cond.code (⟨"com/example/enlace/enlace/graph/LineFields", "fieldStart", "()I"⟩ : MethodName) prog_21_method_8_code 1 (some .int) :: ws) ({ frames := 0, cells := 0, slots := 0, locals := 0 } : Room)) (fun q_ U => q_ = #[(.ref a)] ∧ Z.Warmed39 U.vm ∧ U.heap = h0) (fun _ _ _ _ _ => True) (fun _ U o U' => ∃ v L, o = .returned v ∧ Q11 Z a n_ h0 n0 v U'.heap L ∧ FrameEnd U o U' L ({ frames := 0, cells := 0, slots := 0, locals := 0 } : Room).cells ({ frames := 0, cells := 0, slots := 0, locals := 0 } : Room).slots) := by
  refine MetFree.of_bodySF (plainFor_of_name pn_0) hisR ?_
  intro p e s m args below meth c s₁ Bd hml0 hP hK
  obtain ⟨rfl, hZ, hh⟩ := hP
  have hx := Bd.exec
  have hby := Bd.bytes
  have hml : c.maxLocals = 1 := hml0
  have hown : s.vm.findClass "com/example/enlace/enlace/graph/LineFields" = some m.cls := findClass_of_methodNamed Bd.named
  have hnm := (name_of_methodNamed Bd.named Bd.method).1
  have X0 : Stand p l e ({ frames := 0, cells := 0, slots := 0, locals := 0 } : Room) s m #[(.ref a)] below meth c s₁ [] 0 0 := Stand.of_body Bd
  have e0 : s₁.heap = h0 := by rw [← hh, Bd.state]; rfl
  have N0 := Fr.nil n0
  show own_Go p e below s (Q11 Z a n_ h0 n0) ({ frames := 0, cells := 0, slots := 0, locals := 0 } : Room).cells ({ frames := 0, cells := 0, slots := 0, locals := 0 } : Room).slots (s₁.setTop (entryFrame m #[(.ref a)] 1))
  refine own_via (fun t k => castTop (ef_11 m a) k) ?_
  show own_Go p e below s _ _ _ (s₁.setTop (mkF m 0 #[.val (.ref a)] []))
  refine own_via (fun _ k => XS.aloadN X0.here hx rfl (hb hby d11_0) rfl rfl k) ?_
  show own_Go p e below s _ _ _ (s₁.setTop (mkF m 1 #[.val (.ref a)] [(.ref a)]))
  obtain ⟨T1, X1, e1, st1⟩ := getF X0 hx hZ hown (host := "") (Or.inl (hw _ (List.mem_of_getElem? (i := 40) rfl))) Via.refl e0 F_fieldStart_a (g := (mkF m 1 #[.val (.ref a)] [(.ref a)])) rfl rfl (hb hby d11_1)
  refine own_via st1 ?_
  show own_Go p e below s _ _ _ (T1.setTop (mkF m 4 #[.val (.ref a)] [(.int n_)]))
  exact own_goI X1 hx Bd.returns (hb hby d11_4) Bd.notSynchronized (by decide) (by decide) (by rw [e1]; exact ⟨rfl, N0, rfl⟩)
theorem d12_0 : decode prog_21_method_9_code 0 = .ok (.aload_n 0, 1) := by decide +kernel
theorem d12_1 : decode prog_21_method_9_code 1 = .ok (.getfield 43, 3) := by decide +kernel
theorem d12_4 : decode prog_21_method_9_code 4 = .ok (.ireturn, 1) := by decide +kernel
theorem ef_12 (m : MethodId) (x0 : Addr) : entryFrame m #[(.ref x0)] 1 = mkF m 0 #[.val (.ref x0)] [] := by first | (simp [entryFrame, mkF, argsToLocals, Value.category]; done) | rfl
def Q12 (Z : State) (a : Addr) (n_ : Int32) (h0 : Heap) (n0 : Nat) (v : Option Value) (h : Heap) (L : List Loc) : Prop := v = some (.int n_) ∧ Fr n0 L ∧ h = h0
set_option maxRecDepth 65536 in
set_option maxHeartbeats 40000000 in
theorem rm12 (l : Launch) (Z : State) (a0 : Array Value) (hw : ∀ d ∈ tables_1, d.before a0 Z = true) (ws : List Jvm.Cond) (a : Addr) (n_ : Int32) (h0 : Heap) (n0 : Nat) (Z0 : n0 ≤ h0.size) (F_fieldEnd_a : Fld Z h0 a "com/example/enlace/enlace/graph/LineFields" "fieldEnd" "I" (.int n_)) :
    MetFree l (⟨"com/example/enlace/enlace/graph/LineFields", "fieldEnd", "()I"⟩ : MethodName) (head1 (Jvm.Cond.code (⟨"com/example/enlace/enlace/graph/LineFields", "fieldEnd", "()I"⟩ : MethodName) prog_21_method_9_code 1 (some .int) :: ws) ({ frames := 0, cells := 0, slots := 0, locals := 0 } : Room)) (fun q_ U => q_ = #[(.ref a)] ∧ Z.Warmed39 U.vm ∧ U.heap = h0) (fun _ _ _ _ _ => True) (fun _ U o U' => ∃ v L, o = .returned v ∧ Q12 Z a n_ h0 n0 v U'.heap L ∧ FrameEnd U o U' L ({ frames := 0, cells := 0, slots := 0, locals := 0 } : Room).cells ({ frames := 0, cells := 0, slots := 0, locals := 0 } : Room).slots) := by
  refine MetFree.of_bodySF (plainFor_of_name pn_0) hisR ?_
  intro p e s m args below meth c s₁ Bd hml0 hP hK
  obtain ⟨rfl, hZ, hh⟩ := hP
  have hx := Bd.exec
  have hby := Bd.bytes
  have hml : c.maxLocals = 1 := hml0
  have hown : s.vm.findClass "com/example/enlace/enlace/graph/LineFields" = some m.cls := findClass_of_methodNamed Bd.named
  have hnm := (name_of_methodNamed Bd.named Bd.method).1
  have X0 : Stand p l e ({ frames := 0, cells := 0, slots := 0, locals := 0 } : Room) s m #[(.ref a)] below meth c s₁ [] 0 0 := Stand.of_body Bd
  have e0 : s₁.heap = h0 := by rw [← hh, Bd.state]; rfl
  have N0 := Fr.nil n0
  show own_Go p e below s (Q12 Z a n_ h0 n0) ({ frames := 0, cells := 0, slots := 0, locals := 0 } : Room).cells ({ frames := 0, cells := 0, slots := 0, locals := 0 } : Room).slots (s₁.setTop (entryFrame m #[(.ref a)] 1))
  refine own_via (fun t k => castTop (ef_12 m a) k) ?_
  show own_Go p e below s _ _ _ (s₁.setTop (mkF m 0 #[.val (.ref a)] []))
  refine own_via (fun _ k => XS.aloadN X0.here hx rfl (hb hby d12_0) rfl rfl k) ?_
  show own_Go p e below s _ _ _ (s₁.setTop (mkF m 1 #[.val (.ref a)] [(.ref a)]))
  obtain ⟨T1, X1, e1, st1⟩ := getF X0 hx hZ hown (host := "") (Or.inl (hw _ (List.mem_of_getElem? (i := 42) rfl))) Via.refl e0 F_fieldEnd_a (g := (mkF m 1 #[.val (.ref a)] [(.ref a)])) rfl rfl (hb hby d12_1)
  refine own_via st1 ?_
  show own_Go p e below s _ _ _ (T1.setTop (mkF m 4 #[.val (.ref a)] [(.int n_)]))
  exact own_goI X1 hx Bd.returns (hb hby d12_4) Bd.notSynchronized (by decide) (by decide) (by rw [e1]; exact ⟨rfl, N0, rfl⟩)
theorem d7_23 : decode prog_21_method_3_code 23 = .ok (.aload_n 0, 1) := by decide +kernel
theorem d7_24 : decode prog_21_method_3_code 24 = .ok (.aload_n 1, 1) := by decide +kernel
theorem d7_25 : decode prog_21_method_3_code 25 = .ok (.putfield 25, 3) := by decide +kernel
theorem d7_28 : decode prog_21_method_3_code 28 = .ok (.aload_n 0, 1) := by decide +kernel
theorem d7_29 : decode prog_21_method_3_code 29 = .ok (.iload 4, 2) := by decide +kernel
theorem d7_31 : decode prog_21_method_3_code 31 = .ok (.putfield 29, 3) := by decide +kernel
theorem d7_34 : decode prog_21_method_3_code 34 = .ok (.aload_n 0, 1) := by decide +kernel
theorem d7_35 : decode prog_21_method_3_code 35 = .ok (.iload_n 2, 1) := by decide +kernel
theorem pd_1 : parseMethodDescriptor "(I)I" = some ⟨[.int], some .int⟩ := by decide +kernel
theorem d7_36 : decode prog_21_method_3_code 36 = .ok (.invokevirtual 33, 3) := by decide +kernel
theorem d7_39 : decode prog_21_method_3_code 39 = .ok (.istore 5, 2) := by decide +kernel
theorem d7_41 : decode prog_21_method_3_code 41 = .ok (.aload_n 0, 1) := by decide +kernel
theorem d7_42 : decode prog_21_method_3_code 42 = .ok (.iload 5, 2) := by decide +kernel
theorem d7_44 : decode prog_21_method_3_code 44 = .ok (.iload 4, 2) := by decide +kernel
theorem d7_46 : decode prog_21_method_3_code 46 = .ok (.if_icmp .ge 17, 3) := by decide +kernel
theorem d7_49 : decode prog_21_method_3_code 49 = .ok (.aload_n 1, 1) := by decide +kernel
theorem d7_50 : decode prog_21_method_3_code 50 = .ok (.iload 5, 2) := by decide +kernel
theorem d7_52 : decode prog_21_method_3_code 52 = .ok (.baload, 1) := by decide +kernel
theorem d7_53 : decode prog_21_method_3_code 53 = .ok (.bipush 35, 2) := by decide +kernel
theorem d7_55 : decode prog_21_method_3_code 55 = .ok (.if_icmp .ne 8, 3) := by decide +kernel
theorem d7_58 : decode prog_21_method_3_code 58 = .ok (.iload 4, 2) := by decide +kernel
theorem d7_60 : decode prog_21_method_3_code 60 = .ok (.goto 5, 3) := by decide +kernel
theorem d7_65 : decode prog_21_method_3_code 65 = .ok (.putfield 37, 3) := by decide +kernel
theorem d7_68 : decode prog_21_method_3_code 68 = .ok (.aload_n 0, 1) := by decide +kernel
theorem d7_69 : decode prog_21_method_3_code 69 = .ok (.iload_n 2, 1) := by decide +kernel
theorem d7_70 : decode prog_21_method_3_code 70 = .ok (.putfield 40, 3) := by decide +kernel
theorem d7_73 : decode prog_21_method_3_code 73 = .ok (.aload_n 0, 1) := by decide +kernel
theorem d7_74 : decode prog_21_method_3_code 74 = .ok (.iload_n 2, 1) := by decide +kernel
theorem d7_75 : decode prog_21_method_3_code 75 = .ok (.putfield 43, 3) := by decide +kernel
theorem d7_78 : decode prog_21_method_3_code 78 = .ok (.return_, 1) := by decide +kernel
theorem d7_63 : decode prog_21_method_3_code 63 = .ok (.iload 5, 2) := by decide +kernel
theorem d7_0 : decode prog_21_method_3_code 0 = .ok (.iload_n 3, 1) := by decide +kernel
theorem d7_1 : decode prog_21_method_3_code 1 = .ok (.istore 4, 2) := by decide +kernel
theorem d7_3 : decode prog_21_method_3_code 3 = .ok (.iload 4, 2) := by decide +kernel
theorem d7_5 : decode prog_21_method_3_code 5 = .ok (.iload_n 2, 1) := by decide +kernel
theorem d7_6 : decode prog_21_method_3_code 6 = .ok (.if_icmp .le 17, 3) := by decide +kernel
theorem d7_9 : decode prog_21_method_3_code 9 = .ok (.aload_n 1, 1) := by decide +kernel
theorem d7_10 : decode prog_21_method_3_code 10 = .ok (.iload 4, 2) := by decide +kernel
theorem d7_12 : decode prog_21_method_3_code 12 = .ok (.iconst 1, 1) := by decide +kernel
theorem d7_13 : decode prog_21_method_3_code 13 = .ok (.isub, 1) := by decide +kernel
theorem d7_14 : decode prog_21_method_3_code 14 = .ok (.baload, 1) := by decide +kernel
theorem d7_15 : decode prog_21_method_3_code 15 = .ok (.bipush 13, 2) := by decide +kernel
theorem d7_17 : decode prog_21_method_3_code 17 = .ok (.if_icmp .ne 6, 3) := by decide +kernel
theorem d7_20 : decode prog_21_method_3_code 20 = .ok (.iinc 4 (-1), 3) := by decide +kernel
theorem ef_7 (m : MethodId) (x0 : Addr) (x1 : Addr) (x2 : Int32) (x3 : Int32) : entryFrame m #[(.ref x0), (.ref x1), (.int x2), (.int x3)] 6 = mkF m 0 #[.val (.ref x0), .val (.ref x1), .val (.int x2), .val (.int x3), .unset, .unset] [] := by first | (simp [entryFrame, mkF, argsToLocals, Value.category]; done) | rfl
def Q7 (Z : State) (a : Addr) (b_ : Addr) (ps_ : Int32) (pe_ : Int32) (ob_ : Value) (oe_ : Int32) (op_ : Int32) (of_ : Int32) (og_ : Int32) (k_ : ClassId) (z_ : Int32) (us_ : List Int32) (s_ : Nat) (e_ : Nat) (h0 : Heap) (n0 : Nat) (v : Option Value) (h : Heap) (L : List Loc) : Prop := v = none ∧ Fr n0 L ∧ Keep h0 h [a] ∧ Exa Z h a "com/example/enlace/enlace/graph/LineFields" ∧ Fld Z h a "com/example/enlace/enlace/graph/LineFields" "bytes" "[B" (.ref b_) ∧ Fld Z h a "com/example/enlace/enlace/graph/LineFields" "end" "I" (.int (Nat.toInt32 (own_end us_ s_ e_))) ∧ Fld Z h a "com/example/enlace/enlace/graph/LineFields" "position" "I" (.int (Nat.toInt32 (own_pos us_ s_ (own_end us_ s_ e_)))) ∧ Fld Z h a "com/example/enlace/enlace/graph/LineFields" "fieldStart" "I" (.int (Nat.toInt32 s_)) ∧ Fld Z h a "com/example/enlace/enlace/graph/LineFields" "fieldEnd" "I" (.int (Nat.toInt32 s_))
set_option maxRecDepth 65536 in
set_option maxHeartbeats 40000000 in
theorem rm7 (l : Launch) (Z : State) (a0 : Array Value) (hw : ∀ d ∈ tables_1, d.before a0 Z = true) (ws : List Jvm.Cond) (a : Addr) (b_ : Addr) (ps_ : Int32) (pe_ : Int32) (ob_ : Value) (oe_ : Int32) (op_ : Int32) (of_ : Int32) (og_ : Int32) (k_ : ClassId) (z_ : Int32) (us_ : List Int32) (s_ : Nat) (e_ : Nat) (h0 : Heap) (n0 : Nat) (Z0 : n0 ≤ h0.size) (E_a : Exa Z h0 a "com/example/enlace/enlace/graph/LineFields") (F_bytes_a : Fld Z h0 a "com/example/enlace/enlace/graph/LineFields" "bytes" "[B" ob_) (F_end_a : Fld Z h0 a "com/example/enlace/enlace/graph/LineFields" "end" "I" (.int oe_)) (F_position_a : Fld Z h0 a "com/example/enlace/enlace/graph/LineFields" "position" "I" (.int op_)) (F_fieldStart_a : Fld Z h0 a "com/example/enlace/enlace/graph/LineFields" "fieldStart" "I" (.int of_)) (F_fieldEnd_a : Fld Z h0 a "com/example/enlace/enlace/graph/LineFields" "fieldEnd" "I" (.int og_)) (V_b_ : Arv Z h0 b_ k_ .byte z_ (us_.map Value.int) (.int (0 : Int32))) (g_a : n0 ≤ a) (ne_b__a : b_ ≠ a) (hp9 : ps_ = Nat.toInt32 s_) (hp10 : pe_ = Nat.toInt32 e_) (hp11 : s_ ≤ e_) (hp12 : e_ ≤ 16) (hp13 : (e_ : Int) ≤ z_.toInt) :
    MetFree l (⟨"com/example/enlace/enlace/graph/LineFields", "reset", "([BII)V"⟩ : MethodName) (head1 (Jvm.Cond.code (⟨"com/example/enlace/enlace/graph/LineFields", "reset", "([BII)V"⟩ : MethodName) prog_21_method_3_code 6 none :: ws) ({ frames := 2, cells := 0, slots := 0, locals := 26 } : Room)) (fun q_ U => q_ = #[(.ref a), (.ref b_), (.int ps_), (.int pe_)] ∧ Z.Warmed39 U.vm ∧ U.heap = h0) (fun _ _ _ _ _ => True) (fun _ U o U' => ∃ v L, o = .returned v ∧ Q7 Z a b_ ps_ pe_ ob_ oe_ op_ of_ og_ k_ z_ us_ s_ e_ h0 n0 v U'.heap L ∧ FrameEnd U o U' L ({ frames := 2, cells := 0, slots := 0, locals := 26 } : Room).cells ({ frames := 2, cells := 0, slots := 0, locals := 26 } : Room).slots) := by
  refine MetFree.of_bodySF (plainFor_of_name pn_0) hisR ?_
  intro p e s m args below meth c s₁ Bd hml0 hP hK
  obtain ⟨rfl, hZ, hh⟩ := hP
  have hx := Bd.exec
  have hby := Bd.bytes
  have hml : c.maxLocals = 6 := hml0
  have hown : s.vm.findClass "com/example/enlace/enlace/graph/LineFields" = some m.cls := findClass_of_methodNamed Bd.named
  have hnm := (name_of_methodNamed Bd.named Bd.method).1
  have X0 : Stand p l e ({ frames := 2, cells := 0, slots := 0, locals := 26 } : Room) s m #[(.ref a), (.ref b_), (.int ps_), (.int pe_)] below meth c s₁ [] 0 0 := Stand.of_body Bd
  have e0 : s₁.heap = h0 := by rw [← hh, Bd.state]; rfl
  have N0 := Fr.nil n0
  show own_Go p e below s (Q7 Z a b_ ps_ pe_ ob_ oe_ op_ of_ og_ k_ z_ us_ s_ e_ h0 n0) ({ frames := 2, cells := 0, slots := 0, locals := 26 } : Room).cells ({ frames := 2, cells := 0, slots := 0, locals := 26 } : Room).slots (s₁.setTop (entryFrame m #[(.ref a), (.ref b_), (.int ps_), (.int pe_)] 6))
  refine own_via (fun t k => castTop (ef_7 m a b_ ps_ pe_) k) ?_
  have K0 : Keep h0 h0 [a] := Keep.refl _ _
  show own_Go p e below s _ _ _ (s₁.setTop (mkF m 0 #[.val (.ref a), .val (.ref b_), .val (.int ps_), .val (.int pe_), .unset, .unset] []))
  subst hp9 hp10
  show own_Go p e below s _ _ _ (s₁.setTop (mkF m 0 #[.val (.ref a), .val (.ref b_), .val (.int (Nat.toInt32 s_)), .val (.int (Nat.toInt32 e_)), .unset, .unset] []))
  have jn : ∀ (E_ : Nat) (T1 : State) (lo1 : List Loc) (h1 : Heap), Stand p l e ({ frames := 2, cells := 0, slots := 0, locals := 26 } : Room) s m #[(.ref a), (.ref b_), (.int (Nat.toInt32 s_)), (.int (Nat.toInt32 e_))] below meth c T1 lo1 0 0 → T1.heap = h1 → Fr n0 lo1 → n0 ≤ h1.size → Keep h0 h1 [a] → Exa Z h1 a "com/example/enlace/enlace/graph/LineFields" → Fld Z h1 a "com/example/enlace/enlace/graph/LineFields" "bytes" "[B" ob_ → Fld Z h1 a "com/example/enlace/enlace/graph/LineFields" "end" "I" (.int oe_) → Fld Z h1 a "com/example/enlace/enlace/graph/LineFields" "position" "I" (.int op_) → Fld Z h1 a "com/example/enlace/enlace/graph/LineFields" "fieldStart" "I" (.int of_) → Fld Z h1 a "com/example/enlace/enlace/graph/LineFields" "fieldEnd" "I" (.int og_) → Arv Z h1 b_ k_ .byte z_ (us_.map Value.int) (.int (0 : Int32)) → s_ ≤ E_ → E_ ≤ e_ → own_end us_ s_ e_ = E_ → own_Go p e below s (Q7 Z a b_ (Nat.toInt32 s_) (Nat.toInt32 e_) ob_ oe_ op_ of_ og_ k_ z_ us_ s_ e_ h0 n0) ({ frames := 2, cells := 0, slots := 0, locals := 26 } : Room).cells ({ frames := 2, cells := 0, slots := 0, locals := 26 } : Room).slots (T1.setTop (mkF m 23 #[.val (.ref a), .val (.ref b_), .val (.int (Nat.toInt32 s_)), .val (.int (Nat.toInt32 e_)), .val (.int (Nat.toInt32 E_)), .unset] [])) := by
    intro E_ T1 lo1 h1 X1 e1 N1 Z1 K1 F2 F3 F4 F5 F6 F7 F8 h1 h2 h3
    show own_Go p e below s _ _ _ (T1.setTop (mkF m 23 #[.val (.ref a), .val (.ref b_), .val (.int (Nat.toInt32 s_)), .val (.int (Nat.toInt32 e_)), .val (.int (Nat.toInt32 E_)), .unset] []))
    refine own_via (fun _ k => XS.aloadN X1.here hx rfl (hb hby d7_23) rfl rfl k) ?_
    show own_Go p e below s _ _ _ (T1.setTop (mkF m 24 #[.val (.ref a), .val (.ref b_), .val (.int (Nat.toInt32 s_)), .val (.int (Nat.toInt32 e_)), .val (.int (Nat.toInt32 E_)), .unset] [(.ref a)]))
    refine own_via (fun _ k => XS.aloadN X1.here hx rfl (hb hby d7_24) rfl rfl k) ?_
    show own_Go p e below s _ _ _ (T1.setTop (mkF m 25 #[.val (.ref a), .val (.ref b_), .val (.int (Nat.toInt32 s_)), .val (.int (Nat.toInt32 e_)), .val (.int (Nat.toInt32 E_)), .unset] [(.ref b_), (.ref a)]))
    obtain ⟨T9, h9, X9, e9, W9, st9⟩ := putF X1 hx hZ hown (host := "") (Or.inl (hw _ (List.mem_of_getElem? (i := 30) rfl))) Via.refl e1 F3 F2 (Or.inl (hw _ (List.mem_of_getElem? (i := 31) rfl))) (hw _ (List.mem_of_getElem? (i := 17) rfl)) (ty := (.array .byte)) (by decide) rfl rfl (g := (mkF m 25 #[.val (.ref a), .val (.ref b_), .val (.int (Nat.toInt32 s_)), .val (.int (Nat.toInt32 e_)), .val (.int (Nat.toInt32 E_)), .unset] [(.ref b_), (.ref a)])) rfl rfl (hb hby d7_25)
    have N9 := Fr.snoc X9 N1 g_a
    have Fw9 := F3.same W9
    have Z9 : n0 ≤ h9.size := Nat.le_trans Z1 (Keep.of_wr W9).1
    have K9 : Keep h0 h9 [a] := K1.wr W9 (Or.inl (List.mem_of_getElem? (i := 0) rfl))
    refine own_via st9 ?_
    show own_Go p e below s _ _ _ (T9.setTop (mkF m 28 #[.val (.ref a), .val (.ref b_), .val (.int (Nat.toInt32 s_)), .val (.int (Nat.toInt32 e_)), .val (.int (Nat.toInt32 E_)), .unset] []))
    refine own_via (fun _ k => XS.aloadN X9.here hx rfl (hb hby d7_28) rfl rfl k) ?_
    show own_Go p e below s _ _ _ (T9.setTop (mkF m 29 #[.val (.ref a), .val (.ref b_), .val (.int (Nat.toInt32 s_)), .val (.int (Nat.toInt32 e_)), .val (.int (Nat.toInt32 E_)), .unset] [(.ref a)]))
    refine own_via (fun _ k => XS.iload X9.here hx rfl (hb hby d7_29) rfl k) ?_
    show own_Go p e below s _ _ _ (T9.setTop (mkF m 31 #[.val (.ref a), .val (.ref b_), .val (.int (Nat.toInt32 s_)), .val (.int (Nat.toInt32 e_)), .val (.int (Nat.toInt32 E_)), .unset] [(.int (Nat.toInt32 E_)), (.ref a)]))
    have F10 := (F2.wr W9)
    have F11 := (F4.other W9 (Or.inr (slot_ne (Or.inl (hw _ (List.mem_of_getElem? (i := 33) rfl))) (Or.inl (hw _ (List.mem_of_getElem? (i := 31) rfl))) (by decide) (t := .int) (t' := (.array .byte)) (by decide) (by decide))))
    obtain ⟨T12, h12, X12, e12, W12, st12⟩ := putF X9 hx hZ hown (host := "") (Or.inl (hw _ (List.mem_of_getElem? (i := 32) rfl))) Via.refl e9 F11 F10 (Or.inl (hw _ (List.mem_of_getElem? (i := 33) rfl))) (hw _ (List.mem_of_getElem? (i := 17) rfl)) (ty := .int) (by decide) rfl rfl (g := (mkF m 31 #[.val (.ref a), .val (.ref b_), .val (.int (Nat.toInt32 s_)), .val (.int (Nat.toInt32 e_)), .val (.int (Nat.toInt32 E_)), .unset] [(.int (Nat.toInt32 E_)), (.ref a)])) rfl rfl (hb hby d7_31)
    have N12 := Fr.snoc X12 N9 g_a
    have Fw12 := F11.same W12
    have Z12 : n0 ≤ h12.size := Nat.le_trans Z9 (Keep.of_wr W12).1
    have K12 : Keep h0 h12 [a] := K9.wr W12 (Or.inl (List.mem_of_getElem? (i := 0) rfl))
    refine own_via st12 ?_
    show own_Go p e below s _ _ _ (T12.setTop (mkF m 34 #[.val (.ref a), .val (.ref b_), .val (.int (Nat.toInt32 s_)), .val (.int (Nat.toInt32 e_)), .val (.int (Nat.toInt32 E_)), .unset] []))
    refine own_via (fun _ k => XS.aloadN X12.here hx rfl (hb hby d7_34) rfl rfl k) ?_
    show own_Go p e below s _ _ _ (T12.setTop (mkF m 35 #[.val (.ref a), .val (.ref b_), .val (.int (Nat.toInt32 s_)), .val (.int (Nat.toInt32 e_)), .val (.int (Nat.toInt32 E_)), .unset] [(.ref a)]))
    refine own_via (fun _ k => XS.iloadN X12.here hx rfl (hb hby d7_35) rfl k) ?_
    show own_Go p e below s _ _ _ (T12.setTop (mkF m 36 #[.val (.ref a), .val (.ref b_), .val (.int (Nat.toInt32 s_)), .val (.int (Nat.toInt32 e_)), .val (.int (Nat.toInt32 E_)), .unset] [(.int (Nat.toInt32 s_)), (.ref a)]))
    have F14 := (Fw9.other W12 (Or.inr (slot_ne (Or.inl (hw _ (List.mem_of_getElem? (i := 31) rfl))) (Or.inl (hw _ (List.mem_of_getElem? (i := 33) rfl))) (by decide) (t := (.array .byte)) (t' := .int) (by decide) (by decide))))
    have F15 := ((F8.other W9 ne_b__a).other W12 ne_b__a)
    have F16 := (F10.wr W12)
    obtain ⟨cq13, qa13, qb13⟩ := F16.cell
    obtain ⟨_, _, ⟨T13, L13, k13, n13⟩, -, X13, ⟨Lc13, hQ13, l13, y13, z13⟩, st13⟩ := X12.privateBack hx (y := (⟨"com/example/enlace/enlace/graph/LineFields", "skipBlanks", "(I)I"⟩ : MethodName)) hown (mvT hZ (hw _ (List.mem_of_getElem? (i := 34) rfl))) (mvT hZ (hw _ (List.mem_of_getElem? (i := 35) rfl))) (own_selP (y' := (⟨"com/example/enlace/enlace/graph/LineFields", "reset", "([BII)V"⟩ : MethodName)) (mvT hZ (hw _ (List.mem_of_getElem? (i := 28) rfl))) rfl (Cond.privateMethod_at (mvP hZ (hw _ (List.mem_of_getElem? (i := 36) rfl)) (args := #[]))) (mvT hZ (hw _ (List.mem_of_getElem? (i := 35) rfl))) (by decide)) (Cond.privateMethod_at (mvP hZ (hw _ (List.mem_of_getElem? (i := 36) rfl)) (args := #[]))) (mvT hZ (hw _ (List.mem_of_getElem? (i := 37) rfl))) (by decide) (backOf (W := 0) (rm8 l Z a0 hw [] a (Nat.toInt32 s_) b_ k_ z_ us_ (Nat.toInt32 E_) s_ (E_ - s_) h12 n0 Z12 F14 Fw12 F15 rfl (by rw [show s_ + (E_ - s_) = E_ by omega]) (by omega) (by omega)) hZ (hw _ (List.mem_of_getElem? (i := 37) rfl)) (hw _ (List.mem_of_getElem? (i := 18) rfl)) (by decide) (by decide)) (g := (mkF m 36 #[.val (.ref a), .val (.ref b_), .val (.int (Nat.toInt32 s_)), .val (.int (Nat.toInt32 e_)), .val (.int (Nat.toInt32 E_)), .unset] [(.int (Nat.toInt32 s_)), (.ref a)])) rfl (by rw [hml]; rfl) (Steps.refl _) (a := a) (by rw [e12]; exact qa13) qb13 (argsL := [(.int (Nat.toInt32 s_))]) (rest := []) (lenOf pd_1 rfl) rfl (by show 2 * 0 + _ ≤ _; exact Nat.le_of_eq rfl) (hb hby d7_36) (fun _ _ => ⟨rfl, e12, (by decide : 0 + 0 ≤ _), (by decide : 0 + 0 ≤ _)⟩)
    dsimp only [Pt.U, Pt.locs, Pt.cells, Pt.slots] at X13 l13 y13 z13 st13 hQ13
    subst l13 y13 z13
    obtain ⟨rfl, N13q, e13⟩ := hQ13
    have N13 := Fr.app N12 N13q
    refine own_viaT st13 ?_
    show own_Go p e below s _ _ _ (T13.setTop (mkF m 39 #[.val (.ref a), .val (.ref b_), .val (.int (Nat.toInt32 s_)), .val (.int (Nat.toInt32 e_)), .val (.int (Nat.toInt32 E_)), .unset] [(.int (Nat.toInt32 (own_sk us_ (E_ - s_) s_)))]))
    have hsk := own_sk_r us_ (E_ - s_) s_
    refine own_via (fun _ k => XS.istore X13.here hx rfl (hb hby d7_39) rfl (l' := #[.val (.ref a), .val (.ref b_), .val (.int (Nat.toInt32 s_)), .val (.int (Nat.toInt32 e_)), .val (.int (Nat.toInt32 E_)), .val (.int (Nat.toInt32 (own_sk us_ (E_ - s_) s_)))]) rfl k) ?_
    show own_Go p e below s _ _ _ (T13.setTop (mkF m 41 #[.val (.ref a), .val (.ref b_), .val (.int (Nat.toInt32 s_)), .val (.int (Nat.toInt32 e_)), .val (.int (Nat.toInt32 E_)), .val (.int (Nat.toInt32 (own_sk us_ (E_ - s_) s_)))] []))
    refine own_via (fun _ k => XS.aloadN X13.here hx rfl (hb hby d7_41) rfl rfl k) ?_
    show own_Go p e below s _ _ _ (T13.setTop (mkF m 42 #[.val (.ref a), .val (.ref b_), .val (.int (Nat.toInt32 s_)), .val (.int (Nat.toInt32 e_)), .val (.int (Nat.toInt32 E_)), .val (.int (Nat.toInt32 (own_sk us_ (E_ - s_) s_)))] [(.ref a)]))
    refine own_via (fun _ k => XS.iload X13.here hx rfl (hb hby d7_42) rfl k) ?_
    show own_Go p e below s _ _ _ (T13.setTop (mkF m 44 #[.val (.ref a), .val (.ref b_), .val (.int (Nat.toInt32 s_)), .val (.int (Nat.toInt32 e_)), .val (.int (Nat.toInt32 E_)), .val (.int (Nat.toInt32 (own_sk us_ (E_ - s_) s_)))] [(.int (Nat.toInt32 (own_sk us_ (E_ - s_) s_))), (.ref a)]))
    refine own_via (fun _ k => XS.iload X13.here hx rfl (hb hby d7_44) rfl k) ?_
    show own_Go p e below s _ _ _ (T13.setTop (mkF m 46 #[.val (.ref a), .val (.ref b_), .val (.int (Nat.toInt32 s_)), .val (.int (Nat.toInt32 e_)), .val (.int (Nat.toInt32 E_)), .val (.int (Nat.toInt32 (own_sk us_ (E_ - s_) s_)))] [(.int (Nat.toInt32 E_)), (.int (Nat.toInt32 (own_sk us_ (E_ - s_) s_))), (.ref a)]))
    by_cases hc17 : (Nat.toInt32 (own_sk us_ (E_ - s_) s_)) < (Nat.toInt32 E_)
    · refine own_via (fun _ k => XS.icmpNo X13.here hx rfl (hb hby d7_46) rfl (Jvm.Free.XT.ii_ge_f hc17) k) ?_
      show own_Go p e below s _ _ _ (T13.setTop (mkF m 49 #[.val (.ref a), .val (.ref b_), .val (.int (Nat.toInt32 s_)), .val (.int (Nat.toInt32 e_)), .val (.int (Nat.toInt32 E_)), .val (.int (Nat.toInt32 (own_sk us_ (E_ - s_) s_)))] [(.ref a)]))
      refine own_via (fun _ k => XS.aloadN X13.here hx rfl (hb hby d7_49) rfl rfl k) ?_
      show own_Go p e below s _ _ _ (T13.setTop (mkF m 50 #[.val (.ref a), .val (.ref b_), .val (.int (Nat.toInt32 s_)), .val (.int (Nat.toInt32 e_)), .val (.int (Nat.toInt32 E_)), .val (.int (Nat.toInt32 (own_sk us_ (E_ - s_) s_)))] [(.ref b_), (.ref a)]))
      refine own_via (fun _ k => XS.iload X13.here hx rfl (hb hby d7_50) rfl k) ?_
      show own_Go p e below s _ _ _ (T13.setTop (mkF m 52 #[.val (.ref a), .val (.ref b_), .val (.int (Nat.toInt32 s_)), .val (.int (Nat.toInt32 e_)), .val (.int (Nat.toInt32 E_)), .val (.int (Nat.toInt32 (own_sk us_ (E_ - s_) s_)))] [(.int (Nat.toInt32 (own_sk us_ (E_ - s_) s_))), (.ref b_), (.ref a)]))
      obtain ⟨cl18, Ar18, q18, S18, M18, H18, G18⟩ := (id F15)
      have hin18 : ¬ ((Nat.toInt32 (own_sk us_ (E_ - s_) s_)) < 0 ∨ cl18.slots.size ≤ ((Nat.toInt32 (own_sk us_ (E_ - s_) s_))).toNatClampNeg) := inb_of S18 (own_inb (by omega) (by have := (own_ltn (by omega) (by omega)).mp hc17; omega))
      have hat18 : cl18.slots[((Nat.toInt32 (own_sk us_ (E_ - s_) s_))).toNatClampNeg]? = some (.int (own_g us_ (own_sk us_ (E_ - s_) s_))) := Has.at H18 hin18 (own_gm us_ (by omega))
      refine own_via (fun _ k => X13.baloadBytes hx (j := (Nat.toInt32 (own_sk us_ (E_ - s_) s_))) (v := (.int (own_g us_ (own_sk us_ (E_ - s_) s_)))) (by rw [e13]; exact Ar18.1) (State.isArrayOf_alike hZ.alike Ar18.2.1) Ar18.2.2 hin18 hat18 (g := (mkF m 52 #[.val (.ref a), .val (.ref b_), .val (.int (Nat.toInt32 s_)), .val (.int (Nat.toInt32 e_)), .val (.int (Nat.toInt32 E_)), .val (.int (Nat.toInt32 (own_sk us_ (E_ - s_) s_)))] [(.int (Nat.toInt32 (own_sk us_ (E_ - s_) s_))), (.ref b_), (.ref a)])) rfl rfl (hb hby d7_52) _ k) ?_
      show own_Go p e below s _ _ _ (T13.setTop (mkF m 53 #[.val (.ref a), .val (.ref b_), .val (.int (Nat.toInt32 s_)), .val (.int (Nat.toInt32 e_)), .val (.int (Nat.toInt32 E_)), .val (.int (Nat.toInt32 (own_sk us_ (E_ - s_) s_)))] [(.int (own_g us_ (own_sk us_ (E_ - s_) s_))), (.ref a)]))
      refine own_via (fun _ k => XS.bipush X13.here hx rfl (hb hby d7_53) k) ?_
      show own_Go p e below s _ _ _ (T13.setTop (mkF m 55 #[.val (.ref a), .val (.ref b_), .val (.int (Nat.toInt32 s_)), .val (.int (Nat.toInt32 e_)), .val (.int (Nat.toInt32 E_)), .val (.int (Nat.toInt32 (own_sk us_ (E_ - s_) s_)))] [(.int (35 : Int32)), (.int (own_g us_ (own_sk us_ (E_ - s_) s_))), (.ref a)]))
      by_cases hc19 : (own_g us_ (own_sk us_ (E_ - s_) s_)) = (35 : Int32)
      · refine own_via (fun _ k => XS.icmpNo X13.here hx rfl (hb hby d7_55) rfl (Jvm.Free.XT.ii_ne_f hc19) k) ?_
        show own_Go p e below s _ _ _ (T13.setTop (mkF m 58 #[.val (.ref a), .val (.ref b_), .val (.int (Nat.toInt32 s_)), .val (.int (Nat.toInt32 e_)), .val (.int (Nat.toInt32 E_)), .val (.int (Nat.toInt32 (own_sk us_ (E_ - s_) s_)))] [(.ref a)]))
        refine own_via (fun _ k => XS.iload X13.here hx rfl (hb hby d7_58) rfl k) ?_
        show own_Go p e below s _ _ _ (T13.setTop (mkF m 60 #[.val (.ref a), .val (.ref b_), .val (.int (Nat.toInt32 s_)), .val (.int (Nat.toInt32 e_)), .val (.int (Nat.toInt32 E_)), .val (.int (Nat.toInt32 (own_sk us_ (E_ - s_) s_)))] [(.int (Nat.toInt32 E_)), (.ref a)]))
        refine own_via (fun _ k => XS.goto X13.here hx rfl (pc0 := 60) (pc' := 65) rfl (hb hby d7_60) (by decide) (by decide) k) ?_
        show own_Go p e below s _ _ _ (T13.setTop (mkF m 65 #[.val (.ref a), .val (.ref b_), .val (.int (Nat.toInt32 s_)), .val (.int (Nat.toInt32 e_)), .val (.int (Nat.toInt32 E_)), .val (.int (Nat.toInt32 (own_sk us_ (E_ - s_) s_)))] [(.int (Nat.toInt32 E_)), (.ref a)]))
        have F20 := ((F5.other W9 (Or.inr (slot_ne (Or.inl (hw _ (List.mem_of_getElem? (i := 39) rfl))) (Or.inl (hw _ (List.mem_of_getElem? (i := 31) rfl))) (by decide) (t := .int) (t' := (.array .byte)) (by decide) (by decide)))).other W12 (Or.inr (slot_ne (Or.inl (hw _ (List.mem_of_getElem? (i := 39) rfl))) (Or.inl (hw _ (List.mem_of_getElem? (i := 33) rfl))) (by decide) (t := .int) (t' := .int) (by decide) (by decide))))
        obtain ⟨T21, h21, X21, e21, W21, st21⟩ := putF X13 hx hZ hown (host := "") (Or.inl (hw _ (List.mem_of_getElem? (i := 38) rfl))) Via.refl e13 F20 F16 (Or.inl (hw _ (List.mem_of_getElem? (i := 39) rfl))) (hw _ (List.mem_of_getElem? (i := 17) rfl)) (ty := .int) (by decide) rfl rfl (g := (mkF m 65 #[.val (.ref a), .val (.ref b_), .val (.int (Nat.toInt32 s_)), .val (.int (Nat.toInt32 e_)), .val (.int (Nat.toInt32 E_)), .val (.int (Nat.toInt32 (own_sk us_ (E_ - s_) s_)))] [(.int (Nat.toInt32 E_)), (.ref a)])) rfl rfl (hb hby d7_65)
        have N21 := Fr.snoc X21 N13 g_a
        have Fw21 := F20.same W21
        have Z21 : n0 ≤ h21.size := Nat.le_trans Z12 (Keep.of_wr W21).1
        have K21 : Keep h0 h21 [a] := K12.wr W21 (Or.inl (List.mem_of_getElem? (i := 0) rfl))
        refine own_via st21 ?_
        show own_Go p e below s _ _ _ (T21.setTop (mkF m 68 #[.val (.ref a), .val (.ref b_), .val (.int (Nat.toInt32 s_)), .val (.int (Nat.toInt32 e_)), .val (.int (Nat.toInt32 E_)), .val (.int (Nat.toInt32 (own_sk us_ (E_ - s_) s_)))] []))
        refine own_via (fun _ k => XS.aloadN X21.here hx rfl (hb hby d7_68) rfl rfl k) ?_
        show own_Go p e below s _ _ _ (T21.setTop (mkF m 69 #[.val (.ref a), .val (.ref b_), .val (.int (Nat.toInt32 s_)), .val (.int (Nat.toInt32 e_)), .val (.int (Nat.toInt32 E_)), .val (.int (Nat.toInt32 (own_sk us_ (E_ - s_) s_)))] [(.ref a)]))
        refine own_via (fun _ k => XS.iloadN X21.here hx rfl (hb hby d7_69) rfl k) ?_
        show own_Go p e below s _ _ _ (T21.setTop (mkF m 70 #[.val (.ref a), .val (.ref b_), .val (.int (Nat.toInt32 s_)), .val (.int (Nat.toInt32 e_)), .val (.int (Nat.toInt32 E_)), .val (.int (Nat.toInt32 (own_sk us_ (E_ - s_) s_)))] [(.int (Nat.toInt32 s_)), (.ref a)]))
        have F22 := (F16.wr W21)
        have F23 := (((F6.other W9 (Or.inr (slot_ne (Or.inl (hw _ (List.mem_of_getElem? (i := 41) rfl))) (Or.inl (hw _ (List.mem_of_getElem? (i := 31) rfl))) (by decide) (t := .int) (t' := (.array .byte)) (by decide) (by decide)))).other W12 (Or.inr (slot_ne (Or.inl (hw _ (List.mem_of_getElem? (i := 41) rfl))) (Or.inl (hw _ (List.mem_of_getElem? (i := 33) rfl))) (by decide) (t := .int) (t' := .int) (by decide) (by decide)))).other W21 (Or.inr (slot_ne (Or.inl (hw _ (List.mem_of_getElem? (i := 41) rfl))) (Or.inl (hw _ (List.mem_of_getElem? (i := 39) rfl))) (by decide) (t := .int) (t' := .int) (by decide) (by decide))))
        obtain ⟨T24, h24, X24, e24, W24, st24⟩ := putF X21 hx hZ hown (host := "") (Or.inl (hw _ (List.mem_of_getElem? (i := 40) rfl))) Via.refl e21 F23 F22 (Or.inl (hw _ (List.mem_of_getElem? (i := 41) rfl))) (hw _ (List.mem_of_getElem? (i := 17) rfl)) (ty := .int) (by decide) rfl rfl (g := (mkF m 70 #[.val (.ref a), .val (.ref b_), .val (.int (Nat.toInt32 s_)), .val (.int (Nat.toInt32 e_)), .val (.int (Nat.toInt32 E_)), .val (.int (Nat.toInt32 (own_sk us_ (E_ - s_) s_)))] [(.int (Nat.toInt32 s_)), (.ref a)])) rfl rfl (hb hby d7_70)
        have N24 := Fr.snoc X24 N21 g_a
        have Fw24 := F23.same W24
        have Z24 : n0 ≤ h24.size := Nat.le_trans Z21 (Keep.of_wr W24).1
        have K24 : Keep h0 h24 [a] := K21.wr W24 (Or.inl (List.mem_of_getElem? (i := 0) rfl))
        refine own_via st24 ?_
        show own_Go p e below s _ _ _ (T24.setTop (mkF m 73 #[.val (.ref a), .val (.ref b_), .val (.int (Nat.toInt32 s_)), .val (.int (Nat.toInt32 e_)), .val (.int (Nat.toInt32 E_)), .val (.int (Nat.toInt32 (own_sk us_ (E_ - s_) s_)))] []))
        refine own_via (fun _ k => XS.aloadN X24.here hx rfl (hb hby d7_73) rfl rfl k) ?_
        show own_Go p e below s _ _ _ (T24.setTop (mkF m 74 #[.val (.ref a), .val (.ref b_), .val (.int (Nat.toInt32 s_)), .val (.int (Nat.toInt32 e_)), .val (.int (Nat.toInt32 E_)), .val (.int (Nat.toInt32 (own_sk us_ (E_ - s_) s_)))] [(.ref a)]))
        refine own_via (fun _ k => XS.iloadN X24.here hx rfl (hb hby d7_74) rfl k) ?_
        show own_Go p e below s _ _ _ (T24.setTop (mkF m 75 #[.val (.ref a), .val (.ref b_), .val (.int (Nat.toInt32 s_)), .val (.int (Nat.toInt32 e_)), .val (.int (Nat.toInt32 E_)), .val (.int (Nat.toInt32 (own_sk us_ (E_ - s_) s_)))] [(.int (Nat.toInt32 s_)), (.ref a)]))
        have F25 := (F22.wr W24)
        have F26 := ((((F7.other W9 (Or.inr (slot_ne (Or.inl (hw _ (List.mem_of_getElem? (i := 43) rfl))) (Or.inl (hw _ (List.mem_of_getElem? (i := 31) rfl))) (by decide) (t := .int) (t' := (.array .byte)) (by decide) (by decide)))).other W12 (Or.inr (slot_ne (Or.inl (hw _ (List.mem_of_getElem? (i := 43) rfl))) (Or.inl (hw _ (List.mem_of_getElem? (i := 33) rfl))) (by decide) (t := .int) (t' := .int) (by decide) (by decide)))).other W21 (Or.inr (slot_ne (Or.inl (hw _ (List.mem_of_getElem? (i := 43) rfl))) (Or.inl (hw _ (List.mem_of_getElem? (i := 39) rfl))) (by decide) (t := .int) (t' := .int) (by decide) (by decide)))).other W24 (Or.inr (slot_ne (Or.inl (hw _ (List.mem_of_getElem? (i := 43) rfl))) (Or.inl (hw _ (List.mem_of_getElem? (i := 41) rfl))) (by decide) (t := .int) (t' := .int) (by decide) (by decide))))
        obtain ⟨T27, h27, X27, e27, W27, st27⟩ := putF X24 hx hZ hown (host := "") (Or.inl (hw _ (List.mem_of_getElem? (i := 42) rfl))) Via.refl e24 F26 F25 (Or.inl (hw _ (List.mem_of_getElem? (i := 43) rfl))) (hw _ (List.mem_of_getElem? (i := 17) rfl)) (ty := .int) (by decide) rfl rfl (g := (mkF m 75 #[.val (.ref a), .val (.ref b_), .val (.int (Nat.toInt32 s_)), .val (.int (Nat.toInt32 e_)), .val (.int (Nat.toInt32 E_)), .val (.int (Nat.toInt32 (own_sk us_ (E_ - s_) s_)))] [(.int (Nat.toInt32 s_)), (.ref a)])) rfl rfl (hb hby d7_75)
        have N27 := Fr.snoc X27 N24 g_a
        have Fw27 := F26.same W27
        have Z27 : n0 ≤ h27.size := Nat.le_trans Z24 (Keep.of_wr W27).1
        have K27 : Keep h0 h27 [a] := K24.wr W27 (Or.inl (List.mem_of_getElem? (i := 0) rfl))
        refine own_via st27 ?_
        show own_Go p e below s _ _ _ (T27.setTop (mkF m 78 #[.val (.ref a), .val (.ref b_), .val (.int (Nat.toInt32 s_)), .val (.int (Nat.toInt32 e_)), .val (.int (Nat.toInt32 E_)), .val (.int (Nat.toInt32 (own_sk us_ (E_ - s_) s_)))] []))
        have hps28 : own_pos us_ s_ E_ = E_ := by rw [own_pos, if_pos ⟨(own_ltn (by omega) (by omega)).mp hc17, hc19⟩]
        have F29 := (F25.wr W27)
        have F30 := (((F14.other W21 (Or.inr (slot_ne (Or.inl (hw _ (List.mem_of_getElem? (i := 31) rfl))) (Or.inl (hw _ (List.mem_of_getElem? (i := 39) rfl))) (by decide) (t := (.array .byte)) (t' := .int) (by decide) (by decide)))).other W24 (Or.inr (slot_ne (Or.inl (hw _ (List.mem_of_getElem? (i := 31) rfl))) (Or.inl (hw _ (List.mem_of_getElem? (i := 41) rfl))) (by decide) (t := (.array .byte)) (t' := .int) (by decide) (by decide)))).other W27 (Or.inr (slot_ne (Or.inl (hw _ (List.mem_of_getElem? (i := 31) rfl))) (Or.inl (hw _ (List.mem_of_getElem? (i := 43) rfl))) (by decide) (t := (.array .byte)) (t' := .int) (by decide) (by decide))))
        have F31 := (((Fw12.other W21 (Or.inr (slot_ne (Or.inl (hw _ (List.mem_of_getElem? (i := 33) rfl))) (Or.inl (hw _ (List.mem_of_getElem? (i := 39) rfl))) (by decide) (t := .int) (t' := .int) (by decide) (by decide)))).other W24 (Or.inr (slot_ne (Or.inl (hw _ (List.mem_of_getElem? (i := 33) rfl))) (Or.inl (hw _ (List.mem_of_getElem? (i := 41) rfl))) (by decide) (t := .int) (t' := .int) (by decide) (by decide)))).other W27 (Or.inr (slot_ne (Or.inl (hw _ (List.mem_of_getElem? (i := 33) rfl))) (Or.inl (hw _ (List.mem_of_getElem? (i := 43) rfl))) (by decide) (t := .int) (t' := .int) (by decide) (by decide))))
        have F32 := ((Fw21.other W24 (Or.inr (slot_ne (Or.inl (hw _ (List.mem_of_getElem? (i := 39) rfl))) (Or.inl (hw _ (List.mem_of_getElem? (i := 41) rfl))) (by decide) (t := .int) (t' := .int) (by decide) (by decide)))).other W27 (Or.inr (slot_ne (Or.inl (hw _ (List.mem_of_getElem? (i := 39) rfl))) (Or.inl (hw _ (List.mem_of_getElem? (i := 43) rfl))) (by decide) (t := .int) (t' := .int) (by decide) (by decide))))
        have F33 := (Fw24.other W27 (Or.inr (slot_ne (Or.inl (hw _ (List.mem_of_getElem? (i := 41) rfl))) (Or.inl (hw _ (List.mem_of_getElem? (i := 43) rfl))) (by decide) (t := .int) (t' := .int) (by decide) (by decide))))
        exact own_goV X27 hx Bd.returns (hb hby d7_78) Bd.notSynchronized (by decide) (by decide) (by rw [e27]; exact ⟨rfl, N27, K27, F29, F30, (by rw [h3]; exact F31), (by rw [h3, hps28]; exact F32), F33, Fw27⟩)
      · refine own_via (fun _ k => XS.icmpYes X13.here hx rfl (pc0 := 55) (pc' := 63) rfl (hb hby d7_55) rfl (Jvm.Free.XT.ii_ne_t hc19) (by decide) (by decide) k) ?_
        show own_Go p e below s _ _ _ (T13.setTop (mkF m 63 #[.val (.ref a), .val (.ref b_), .val (.int (Nat.toInt32 s_)), .val (.int (Nat.toInt32 e_)), .val (.int (Nat.toInt32 E_)), .val (.int (Nat.toInt32 (own_sk us_ (E_ - s_) s_)))] [(.ref a)]))
        refine own_via (fun _ k => XS.iload X13.here hx rfl (hb hby d7_63) rfl k) ?_
        show own_Go p e below s _ _ _ (T13.setTop (mkF m 65 #[.val (.ref a), .val (.ref b_), .val (.int (Nat.toInt32 s_)), .val (.int (Nat.toInt32 e_)), .val (.int (Nat.toInt32 E_)), .val (.int (Nat.toInt32 (own_sk us_ (E_ - s_) s_)))] [(.int (Nat.toInt32 (own_sk us_ (E_ - s_) s_))), (.ref a)]))
        have F34 := ((F5.other W9 (Or.inr (slot_ne (Or.inl (hw _ (List.mem_of_getElem? (i := 39) rfl))) (Or.inl (hw _ (List.mem_of_getElem? (i := 31) rfl))) (by decide) (t := .int) (t' := (.array .byte)) (by decide) (by decide)))).other W12 (Or.inr (slot_ne (Or.inl (hw _ (List.mem_of_getElem? (i := 39) rfl))) (Or.inl (hw _ (List.mem_of_getElem? (i := 33) rfl))) (by decide) (t := .int) (t' := .int) (by decide) (by decide))))
        obtain ⟨T35, h35, X35, e35, W35, st35⟩ := putF X13 hx hZ hown (host := "") (Or.inl (hw _ (List.mem_of_getElem? (i := 38) rfl))) Via.refl e13 F34 F16 (Or.inl (hw _ (List.mem_of_getElem? (i := 39) rfl))) (hw _ (List.mem_of_getElem? (i := 17) rfl)) (ty := .int) (by decide) rfl rfl (g := (mkF m 65 #[.val (.ref a), .val (.ref b_), .val (.int (Nat.toInt32 s_)), .val (.int (Nat.toInt32 e_)), .val (.int (Nat.toInt32 E_)), .val (.int (Nat.toInt32 (own_sk us_ (E_ - s_) s_)))] [(.int (Nat.toInt32 (own_sk us_ (E_ - s_) s_))), (.ref a)])) rfl rfl (hb hby d7_65)
        have N35 := Fr.snoc X35 N13 g_a
        have Fw35 := F34.same W35
        have Z35 : n0 ≤ h35.size := Nat.le_trans Z12 (Keep.of_wr W35).1
        have K35 : Keep h0 h35 [a] := K12.wr W35 (Or.inl (List.mem_of_getElem? (i := 0) rfl))
        refine own_via st35 ?_
        show own_Go p e below s _ _ _ (T35.setTop (mkF m 68 #[.val (.ref a), .val (.ref b_), .val (.int (Nat.toInt32 s_)), .val (.int (Nat.toInt32 e_)), .val (.int (Nat.toInt32 E_)), .val (.int (Nat.toInt32 (own_sk us_ (E_ - s_) s_)))] []))
        refine own_via (fun _ k => XS.aloadN X35.here hx rfl (hb hby d7_68) rfl rfl k) ?_
        show own_Go p e below s _ _ _ (T35.setTop (mkF m 69 #[.val (.ref a), .val (.ref b_), .val (.int (Nat.toInt32 s_)), .val (.int (Nat.toInt32 e_)), .val (.int (Nat.toInt32 E_)), .val (.int (Nat.toInt32 (own_sk us_ (E_ - s_) s_)))] [(.ref a)]))
        refine own_via (fun _ k => XS.iloadN X35.here hx rfl (hb hby d7_69) rfl k) ?_
        show own_Go p e below s _ _ _ (T35.setTop (mkF m 70 #[.val (.ref a), .val (.ref b_), .val (.int (Nat.toInt32 s_)), .val (.int (Nat.toInt32 e_)), .val (.int (Nat.toInt32 E_)), .val (.int (Nat.toInt32 (own_sk us_ (E_ - s_) s_)))] [(.int (Nat.toInt32 s_)), (.ref a)]))
        have F36 := (F16.wr W35)
        have F37 := (((F6.other W9 (Or.inr (slot_ne (Or.inl (hw _ (List.mem_of_getElem? (i := 41) rfl))) (Or.inl (hw _ (List.mem_of_getElem? (i := 31) rfl))) (by decide) (t := .int) (t' := (.array .byte)) (by decide) (by decide)))).other W12 (Or.inr (slot_ne (Or.inl (hw _ (List.mem_of_getElem? (i := 41) rfl))) (Or.inl (hw _ (List.mem_of_getElem? (i := 33) rfl))) (by decide) (t := .int) (t' := .int) (by decide) (by decide)))).other W35 (Or.inr (slot_ne (Or.inl (hw _ (List.mem_of_getElem? (i := 41) rfl))) (Or.inl (hw _ (List.mem_of_getElem? (i := 39) rfl))) (by decide) (t := .int) (t' := .int) (by decide) (by decide))))
        obtain ⟨T38, h38, X38, e38, W38, st38⟩ := putF X35 hx hZ hown (host := "") (Or.inl (hw _ (List.mem_of_getElem? (i := 40) rfl))) Via.refl e35 F37 F36 (Or.inl (hw _ (List.mem_of_getElem? (i := 41) rfl))) (hw _ (List.mem_of_getElem? (i := 17) rfl)) (ty := .int) (by decide) rfl rfl (g := (mkF m 70 #[.val (.ref a), .val (.ref b_), .val (.int (Nat.toInt32 s_)), .val (.int (Nat.toInt32 e_)), .val (.int (Nat.toInt32 E_)), .val (.int (Nat.toInt32 (own_sk us_ (E_ - s_) s_)))] [(.int (Nat.toInt32 s_)), (.ref a)])) rfl rfl (hb hby d7_70)
        have N38 := Fr.snoc X38 N35 g_a
        have Fw38 := F37.same W38
        have Z38 : n0 ≤ h38.size := Nat.le_trans Z35 (Keep.of_wr W38).1
        have K38 : Keep h0 h38 [a] := K35.wr W38 (Or.inl (List.mem_of_getElem? (i := 0) rfl))
        refine own_via st38 ?_
        show own_Go p e below s _ _ _ (T38.setTop (mkF m 73 #[.val (.ref a), .val (.ref b_), .val (.int (Nat.toInt32 s_)), .val (.int (Nat.toInt32 e_)), .val (.int (Nat.toInt32 E_)), .val (.int (Nat.toInt32 (own_sk us_ (E_ - s_) s_)))] []))
        refine own_via (fun _ k => XS.aloadN X38.here hx rfl (hb hby d7_73) rfl rfl k) ?_
        show own_Go p e below s _ _ _ (T38.setTop (mkF m 74 #[.val (.ref a), .val (.ref b_), .val (.int (Nat.toInt32 s_)), .val (.int (Nat.toInt32 e_)), .val (.int (Nat.toInt32 E_)), .val (.int (Nat.toInt32 (own_sk us_ (E_ - s_) s_)))] [(.ref a)]))
        refine own_via (fun _ k => XS.iloadN X38.here hx rfl (hb hby d7_74) rfl k) ?_
        show own_Go p e below s _ _ _ (T38.setTop (mkF m 75 #[.val (.ref a), .val (.ref b_), .val (.int (Nat.toInt32 s_)), .val (.int (Nat.toInt32 e_)), .val (.int (Nat.toInt32 E_)), .val (.int (Nat.toInt32 (own_sk us_ (E_ - s_) s_)))] [(.int (Nat.toInt32 s_)), (.ref a)]))
        have F39 := (F36.wr W38)
        have F40 := ((((F7.other W9 (Or.inr (slot_ne (Or.inl (hw _ (List.mem_of_getElem? (i := 43) rfl))) (Or.inl (hw _ (List.mem_of_getElem? (i := 31) rfl))) (by decide) (t := .int) (t' := (.array .byte)) (by decide) (by decide)))).other W12 (Or.inr (slot_ne (Or.inl (hw _ (List.mem_of_getElem? (i := 43) rfl))) (Or.inl (hw _ (List.mem_of_getElem? (i := 33) rfl))) (by decide) (t := .int) (t' := .int) (by decide) (by decide)))).other W35 (Or.inr (slot_ne (Or.inl (hw _ (List.mem_of_getElem? (i := 43) rfl))) (Or.inl (hw _ (List.mem_of_getElem? (i := 39) rfl))) (by decide) (t := .int) (t' := .int) (by decide) (by decide)))).other W38 (Or.inr (slot_ne (Or.inl (hw _ (List.mem_of_getElem? (i := 43) rfl))) (Or.inl (hw _ (List.mem_of_getElem? (i := 41) rfl))) (by decide) (t := .int) (t' := .int) (by decide) (by decide))))
        obtain ⟨T41, h41, X41, e41, W41, st41⟩ := putF X38 hx hZ hown (host := "") (Or.inl (hw _ (List.mem_of_getElem? (i := 42) rfl))) Via.refl e38 F40 F39 (Or.inl (hw _ (List.mem_of_getElem? (i := 43) rfl))) (hw _ (List.mem_of_getElem? (i := 17) rfl)) (ty := .int) (by decide) rfl rfl (g := (mkF m 75 #[.val (.ref a), .val (.ref b_), .val (.int (Nat.toInt32 s_)), .val (.int (Nat.toInt32 e_)), .val (.int (Nat.toInt32 E_)), .val (.int (Nat.toInt32 (own_sk us_ (E_ - s_) s_)))] [(.int (Nat.toInt32 s_)), (.ref a)])) rfl rfl (hb hby d7_75)
        have N41 := Fr.snoc X41 N38 g_a
        have Fw41 := F40.same W41
        have Z41 : n0 ≤ h41.size := Nat.le_trans Z38 (Keep.of_wr W41).1
        have K41 : Keep h0 h41 [a] := K38.wr W41 (Or.inl (List.mem_of_getElem? (i := 0) rfl))
        refine own_via st41 ?_
        show own_Go p e below s _ _ _ (T41.setTop (mkF m 78 #[.val (.ref a), .val (.ref b_), .val (.int (Nat.toInt32 s_)), .val (.int (Nat.toInt32 e_)), .val (.int (Nat.toInt32 E_)), .val (.int (Nat.toInt32 (own_sk us_ (E_ - s_) s_)))] []))
        have hps42 : own_pos us_ s_ E_ = (own_sk us_ (E_ - s_) s_) := by rw [own_pos, if_neg (fun q => hc19 q.2)]
        have F43 := (F39.wr W41)
        have F44 := (((F14.other W35 (Or.inr (slot_ne (Or.inl (hw _ (List.mem_of_getElem? (i := 31) rfl))) (Or.inl (hw _ (List.mem_of_getElem? (i := 39) rfl))) (by decide) (t := (.array .byte)) (t' := .int) (by decide) (by decide)))).other W38 (Or.inr (slot_ne (Or.inl (hw _ (List.mem_of_getElem? (i := 31) rfl))) (Or.inl (hw _ (List.mem_of_getElem? (i := 41) rfl))) (by decide) (t := (.array .byte)) (t' := .int) (by decide) (by decide)))).other W41 (Or.inr (slot_ne (Or.inl (hw _ (List.mem_of_getElem? (i := 31) rfl))) (Or.inl (hw _ (List.mem_of_getElem? (i := 43) rfl))) (by decide) (t := (.array .byte)) (t' := .int) (by decide) (by decide))))
        have F45 := (((Fw12.other W35 (Or.inr (slot_ne (Or.inl (hw _ (List.mem_of_getElem? (i := 33) rfl))) (Or.inl (hw _ (List.mem_of_getElem? (i := 39) rfl))) (by decide) (t := .int) (t' := .int) (by decide) (by decide)))).other W38 (Or.inr (slot_ne (Or.inl (hw _ (List.mem_of_getElem? (i := 33) rfl))) (Or.inl (hw _ (List.mem_of_getElem? (i := 41) rfl))) (by decide) (t := .int) (t' := .int) (by decide) (by decide)))).other W41 (Or.inr (slot_ne (Or.inl (hw _ (List.mem_of_getElem? (i := 33) rfl))) (Or.inl (hw _ (List.mem_of_getElem? (i := 43) rfl))) (by decide) (t := .int) (t' := .int) (by decide) (by decide))))
        have F46 := ((Fw35.other W38 (Or.inr (slot_ne (Or.inl (hw _ (List.mem_of_getElem? (i := 39) rfl))) (Or.inl (hw _ (List.mem_of_getElem? (i := 41) rfl))) (by decide) (t := .int) (t' := .int) (by decide) (by decide)))).other W41 (Or.inr (slot_ne (Or.inl (hw _ (List.mem_of_getElem? (i := 39) rfl))) (Or.inl (hw _ (List.mem_of_getElem? (i := 43) rfl))) (by decide) (t := .int) (t' := .int) (by decide) (by decide))))
        have F47 := (Fw38.other W41 (Or.inr (slot_ne (Or.inl (hw _ (List.mem_of_getElem? (i := 41) rfl))) (Or.inl (hw _ (List.mem_of_getElem? (i := 43) rfl))) (by decide) (t := .int) (t' := .int) (by decide) (by decide))))
        exact own_goV X41 hx Bd.returns (hb hby d7_78) Bd.notSynchronized (by decide) (by decide) (by rw [e41]; exact ⟨rfl, N41, K41, F43, F44, (by rw [h3]; exact F45), (by rw [h3, hps42]; exact F46), F47, Fw41⟩)
    · refine own_via (fun _ k => XS.icmpYes X13.here hx rfl (pc0 := 46) (pc' := 63) rfl (hb hby d7_46) rfl (Jvm.Free.XT.ii_ge_t hc17) (by decide) (by decide) k) ?_
      show own_Go p e below s _ _ _ (T13.setTop (mkF m 63 #[.val (.ref a), .val (.ref b_), .val (.int (Nat.toInt32 s_)), .val (.int (Nat.toInt32 e_)), .val (.int (Nat.toInt32 E_)), .val (.int (Nat.toInt32 (own_sk us_ (E_ - s_) s_)))] [(.ref a)]))
      refine own_via (fun _ k => XS.iload X13.here hx rfl (hb hby d7_63) rfl k) ?_
      show own_Go p e below s _ _ _ (T13.setTop (mkF m 65 #[.val (.ref a), .val (.ref b_), .val (.int (Nat.toInt32 s_)), .val (.int (Nat.toInt32 e_)), .val (.int (Nat.toInt32 E_)), .val (.int (Nat.toInt32 (own_sk us_ (E_ - s_) s_)))] [(.int (Nat.toInt32 (own_sk us_ (E_ - s_) s_))), (.ref a)]))
      have F48 := ((F5.other W9 (Or.inr (slot_ne (Or.inl (hw _ (List.mem_of_getElem? (i := 39) rfl))) (Or.inl (hw _ (List.mem_of_getElem? (i := 31) rfl))) (by decide) (t := .int) (t' := (.array .byte)) (by decide) (by decide)))).other W12 (Or.inr (slot_ne (Or.inl (hw _ (List.mem_of_getElem? (i := 39) rfl))) (Or.inl (hw _ (List.mem_of_getElem? (i := 33) rfl))) (by decide) (t := .int) (t' := .int) (by decide) (by decide))))
      obtain ⟨T49, h49, X49, e49, W49, st49⟩ := putF X13 hx hZ hown (host := "") (Or.inl (hw _ (List.mem_of_getElem? (i := 38) rfl))) Via.refl e13 F48 F16 (Or.inl (hw _ (List.mem_of_getElem? (i := 39) rfl))) (hw _ (List.mem_of_getElem? (i := 17) rfl)) (ty := .int) (by decide) rfl rfl (g := (mkF m 65 #[.val (.ref a), .val (.ref b_), .val (.int (Nat.toInt32 s_)), .val (.int (Nat.toInt32 e_)), .val (.int (Nat.toInt32 E_)), .val (.int (Nat.toInt32 (own_sk us_ (E_ - s_) s_)))] [(.int (Nat.toInt32 (own_sk us_ (E_ - s_) s_))), (.ref a)])) rfl rfl (hb hby d7_65)
      have N49 := Fr.snoc X49 N13 g_a
      have Fw49 := F48.same W49
      have Z49 : n0 ≤ h49.size := Nat.le_trans Z12 (Keep.of_wr W49).1
      have K49 : Keep h0 h49 [a] := K12.wr W49 (Or.inl (List.mem_of_getElem? (i := 0) rfl))
      refine own_via st49 ?_
      show own_Go p e below s _ _ _ (T49.setTop (mkF m 68 #[.val (.ref a), .val (.ref b_), .val (.int (Nat.toInt32 s_)), .val (.int (Nat.toInt32 e_)), .val (.int (Nat.toInt32 E_)), .val (.int (Nat.toInt32 (own_sk us_ (E_ - s_) s_)))] []))
      refine own_via (fun _ k => XS.aloadN X49.here hx rfl (hb hby d7_68) rfl rfl k) ?_
      show own_Go p e below s _ _ _ (T49.setTop (mkF m 69 #[.val (.ref a), .val (.ref b_), .val (.int (Nat.toInt32 s_)), .val (.int (Nat.toInt32 e_)), .val (.int (Nat.toInt32 E_)), .val (.int (Nat.toInt32 (own_sk us_ (E_ - s_) s_)))] [(.ref a)]))
      refine own_via (fun _ k => XS.iloadN X49.here hx rfl (hb hby d7_69) rfl k) ?_
      show own_Go p e below s _ _ _ (T49.setTop (mkF m 70 #[.val (.ref a), .val (.ref b_), .val (.int (Nat.toInt32 s_)), .val (.int (Nat.toInt32 e_)), .val (.int (Nat.toInt32 E_)), .val (.int (Nat.toInt32 (own_sk us_ (E_ - s_) s_)))] [(.int (Nat.toInt32 s_)), (.ref a)]))
      have F50 := (F16.wr W49)
      have F51 := (((F6.other W9 (Or.inr (slot_ne (Or.inl (hw _ (List.mem_of_getElem? (i := 41) rfl))) (Or.inl (hw _ (List.mem_of_getElem? (i := 31) rfl))) (by decide) (t := .int) (t' := (.array .byte)) (by decide) (by decide)))).other W12 (Or.inr (slot_ne (Or.inl (hw _ (List.mem_of_getElem? (i := 41) rfl))) (Or.inl (hw _ (List.mem_of_getElem? (i := 33) rfl))) (by decide) (t := .int) (t' := .int) (by decide) (by decide)))).other W49 (Or.inr (slot_ne (Or.inl (hw _ (List.mem_of_getElem? (i := 41) rfl))) (Or.inl (hw _ (List.mem_of_getElem? (i := 39) rfl))) (by decide) (t := .int) (t' := .int) (by decide) (by decide))))
      obtain ⟨T52, h52, X52, e52, W52, st52⟩ := putF X49 hx hZ hown (host := "") (Or.inl (hw _ (List.mem_of_getElem? (i := 40) rfl))) Via.refl e49 F51 F50 (Or.inl (hw _ (List.mem_of_getElem? (i := 41) rfl))) (hw _ (List.mem_of_getElem? (i := 17) rfl)) (ty := .int) (by decide) rfl rfl (g := (mkF m 70 #[.val (.ref a), .val (.ref b_), .val (.int (Nat.toInt32 s_)), .val (.int (Nat.toInt32 e_)), .val (.int (Nat.toInt32 E_)), .val (.int (Nat.toInt32 (own_sk us_ (E_ - s_) s_)))] [(.int (Nat.toInt32 s_)), (.ref a)])) rfl rfl (hb hby d7_70)
      have N52 := Fr.snoc X52 N49 g_a
      have Fw52 := F51.same W52
      have Z52 : n0 ≤ h52.size := Nat.le_trans Z49 (Keep.of_wr W52).1
      have K52 : Keep h0 h52 [a] := K49.wr W52 (Or.inl (List.mem_of_getElem? (i := 0) rfl))
      refine own_via st52 ?_
      show own_Go p e below s _ _ _ (T52.setTop (mkF m 73 #[.val (.ref a), .val (.ref b_), .val (.int (Nat.toInt32 s_)), .val (.int (Nat.toInt32 e_)), .val (.int (Nat.toInt32 E_)), .val (.int (Nat.toInt32 (own_sk us_ (E_ - s_) s_)))] []))
      refine own_via (fun _ k => XS.aloadN X52.here hx rfl (hb hby d7_73) rfl rfl k) ?_
      show own_Go p e below s _ _ _ (T52.setTop (mkF m 74 #[.val (.ref a), .val (.ref b_), .val (.int (Nat.toInt32 s_)), .val (.int (Nat.toInt32 e_)), .val (.int (Nat.toInt32 E_)), .val (.int (Nat.toInt32 (own_sk us_ (E_ - s_) s_)))] [(.ref a)]))
      refine own_via (fun _ k => XS.iloadN X52.here hx rfl (hb hby d7_74) rfl k) ?_
      show own_Go p e below s _ _ _ (T52.setTop (mkF m 75 #[.val (.ref a), .val (.ref b_), .val (.int (Nat.toInt32 s_)), .val (.int (Nat.toInt32 e_)), .val (.int (Nat.toInt32 E_)), .val (.int (Nat.toInt32 (own_sk us_ (E_ - s_) s_)))] [(.int (Nat.toInt32 s_)), (.ref a)]))
      have F53 := (F50.wr W52)
      have F54 := ((((F7.other W9 (Or.inr (slot_ne (Or.inl (hw _ (List.mem_of_getElem? (i := 43) rfl))) (Or.inl (hw _ (List.mem_of_getElem? (i := 31) rfl))) (by decide) (t := .int) (t' := (.array .byte)) (by decide) (by decide)))).other W12 (Or.inr (slot_ne (Or.inl (hw _ (List.mem_of_getElem? (i := 43) rfl))) (Or.inl (hw _ (List.mem_of_getElem? (i := 33) rfl))) (by decide) (t := .int) (t' := .int) (by decide) (by decide)))).other W49 (Or.inr (slot_ne (Or.inl (hw _ (List.mem_of_getElem? (i := 43) rfl))) (Or.inl (hw _ (List.mem_of_getElem? (i := 39) rfl))) (by decide) (t := .int) (t' := .int) (by decide) (by decide)))).other W52 (Or.inr (slot_ne (Or.inl (hw _ (List.mem_of_getElem? (i := 43) rfl))) (Or.inl (hw _ (List.mem_of_getElem? (i := 41) rfl))) (by decide) (t := .int) (t' := .int) (by decide) (by decide))))
      obtain ⟨T55, h55, X55, e55, W55, st55⟩ := putF X52 hx hZ hown (host := "") (Or.inl (hw _ (List.mem_of_getElem? (i := 42) rfl))) Via.refl e52 F54 F53 (Or.inl (hw _ (List.mem_of_getElem? (i := 43) rfl))) (hw _ (List.mem_of_getElem? (i := 17) rfl)) (ty := .int) (by decide) rfl rfl (g := (mkF m 75 #[.val (.ref a), .val (.ref b_), .val (.int (Nat.toInt32 s_)), .val (.int (Nat.toInt32 e_)), .val (.int (Nat.toInt32 E_)), .val (.int (Nat.toInt32 (own_sk us_ (E_ - s_) s_)))] [(.int (Nat.toInt32 s_)), (.ref a)])) rfl rfl (hb hby d7_75)
      have N55 := Fr.snoc X55 N52 g_a
      have Fw55 := F54.same W55
      have Z55 : n0 ≤ h55.size := Nat.le_trans Z52 (Keep.of_wr W55).1
      have K55 : Keep h0 h55 [a] := K52.wr W55 (Or.inl (List.mem_of_getElem? (i := 0) rfl))
      refine own_via st55 ?_
      show own_Go p e below s _ _ _ (T55.setTop (mkF m 78 #[.val (.ref a), .val (.ref b_), .val (.int (Nat.toInt32 s_)), .val (.int (Nat.toInt32 e_)), .val (.int (Nat.toInt32 E_)), .val (.int (Nat.toInt32 (own_sk us_ (E_ - s_) s_)))] []))
      have hps56 : own_pos us_ s_ E_ = (own_sk us_ (E_ - s_) s_) := by rw [own_pos, if_neg (fun q => hc17 ((own_ltn (by omega) (by omega)).mpr q.1))]
      have F57 := (F53.wr W55)
      have F58 := (((F14.other W49 (Or.inr (slot_ne (Or.inl (hw _ (List.mem_of_getElem? (i := 31) rfl))) (Or.inl (hw _ (List.mem_of_getElem? (i := 39) rfl))) (by decide) (t := (.array .byte)) (t' := .int) (by decide) (by decide)))).other W52 (Or.inr (slot_ne (Or.inl (hw _ (List.mem_of_getElem? (i := 31) rfl))) (Or.inl (hw _ (List.mem_of_getElem? (i := 41) rfl))) (by decide) (t := (.array .byte)) (t' := .int) (by decide) (by decide)))).other W55 (Or.inr (slot_ne (Or.inl (hw _ (List.mem_of_getElem? (i := 31) rfl))) (Or.inl (hw _ (List.mem_of_getElem? (i := 43) rfl))) (by decide) (t := (.array .byte)) (t' := .int) (by decide) (by decide))))
      have F59 := (((Fw12.other W49 (Or.inr (slot_ne (Or.inl (hw _ (List.mem_of_getElem? (i := 33) rfl))) (Or.inl (hw _ (List.mem_of_getElem? (i := 39) rfl))) (by decide) (t := .int) (t' := .int) (by decide) (by decide)))).other W52 (Or.inr (slot_ne (Or.inl (hw _ (List.mem_of_getElem? (i := 33) rfl))) (Or.inl (hw _ (List.mem_of_getElem? (i := 41) rfl))) (by decide) (t := .int) (t' := .int) (by decide) (by decide)))).other W55 (Or.inr (slot_ne (Or.inl (hw _ (List.mem_of_getElem? (i := 33) rfl))) (Or.inl (hw _ (List.mem_of_getElem? (i := 43) rfl))) (by decide) (t := .int) (t' := .int) (by decide) (by decide))))
      have F60 := ((Fw49.other W52 (Or.inr (slot_ne (Or.inl (hw _ (List.mem_of_getElem? (i := 39) rfl))) (Or.inl (hw _ (List.mem_of_getElem? (i := 41) rfl))) (by decide) (t := .int) (t' := .int) (by decide) (by decide)))).other W55 (Or.inr (slot_ne (Or.inl (hw _ (List.mem_of_getElem? (i := 39) rfl))) (Or.inl (hw _ (List.mem_of_getElem? (i := 43) rfl))) (by decide) (t := .int) (t' := .int) (by decide) (by decide))))
      have F61 := (Fw52.other W55 (Or.inr (slot_ne (Or.inl (hw _ (List.mem_of_getElem? (i := 41) rfl))) (Or.inl (hw _ (List.mem_of_getElem? (i := 43) rfl))) (by decide) (t := .int) (t' := .int) (by decide) (by decide))))
      exact own_goV X55 hx Bd.returns (hb hby d7_78) Bd.notSynchronized (by decide) (by decide) (by rw [e55]; exact ⟨rfl, N55, K55, F57, F58, (by rw [h3]; exact F59), (by rw [h3, hps56]; exact F60), F61, Fw55⟩)
  show own_Go p e below s _ _ _ (s₁.setTop (mkF m 0 #[.val (.ref a), .val (.ref b_), .val (.int (Nat.toInt32 s_)), .val (.int (Nat.toInt32 e_)), .unset, .unset] []))
  refine own_via (fun _ k => XS.iloadN X0.here hx rfl (hb hby d7_0) rfl k) ?_
  show own_Go p e below s _ _ _ (s₁.setTop (mkF m 1 #[.val (.ref a), .val (.ref b_), .val (.int (Nat.toInt32 s_)), .val (.int (Nat.toInt32 e_)), .unset, .unset] [(.int (Nat.toInt32 e_))]))
  refine own_via (fun _ k => XS.istore X0.here hx rfl (hb hby d7_1) rfl (l' := #[.val (.ref a), .val (.ref b_), .val (.int (Nat.toInt32 s_)), .val (.int (Nat.toInt32 e_)), .val (.int (Nat.toInt32 e_)), .unset]) rfl k) ?_
  show own_Go p e below s _ _ _ (s₁.setTop (mkF m 3 #[.val (.ref a), .val (.ref b_), .val (.int (Nat.toInt32 s_)), .val (.int (Nat.toInt32 e_)), .val (.int (Nat.toInt32 e_)), .unset] []))
  refine own_via (fun _ k => XS.iload X0.here hx rfl (hb hby d7_3) rfl k) ?_
  show own_Go p e below s _ _ _ (s₁.setTop (mkF m 5 #[.val (.ref a), .val (.ref b_), .val (.int (Nat.toInt32 s_)), .val (.int (Nat.toInt32 e_)), .val (.int (Nat.toInt32 e_)), .unset] [(.int (Nat.toInt32 e_))]))
  refine own_via (fun _ k => XS.iloadN X0.here hx rfl (hb hby d7_5) rfl k) ?_
  show own_Go p e below s _ _ _ (s₁.setTop (mkF m 6 #[.val (.ref a), .val (.ref b_), .val (.int (Nat.toInt32 s_)), .val (.int (Nat.toInt32 e_)), .val (.int (Nat.toInt32 e_)), .unset] [(.int (Nat.toInt32 s_)), (.int (Nat.toInt32 e_))]))
  by_cases hc62 : (Nat.toInt32 s_) < (Nat.toInt32 e_)
  · refine own_via (fun _ k => XS.icmpNo X0.here hx rfl (hb hby d7_6) rfl (Jvm.Free.XT.ii_le_f hc62) k) ?_
    show own_Go p e below s _ _ _ (s₁.setTop (mkF m 9 #[.val (.ref a), .val (.ref b_), .val (.int (Nat.toInt32 s_)), .val (.int (Nat.toInt32 e_)), .val (.int (Nat.toInt32 e_)), .unset] []))
    refine own_via (fun _ k => XS.aloadN X0.here hx rfl (hb hby d7_9) rfl rfl k) ?_
    show own_Go p e below s _ _ _ (s₁.setTop (mkF m 10 #[.val (.ref a), .val (.ref b_), .val (.int (Nat.toInt32 s_)), .val (.int (Nat.toInt32 e_)), .val (.int (Nat.toInt32 e_)), .unset] [(.ref b_)]))
    refine own_via (fun _ k => XS.iload X0.here hx rfl (hb hby d7_10) rfl k) ?_
    show own_Go p e below s _ _ _ (s₁.setTop (mkF m 12 #[.val (.ref a), .val (.ref b_), .val (.int (Nat.toInt32 s_)), .val (.int (Nat.toInt32 e_)), .val (.int (Nat.toInt32 e_)), .unset] [(.int (Nat.toInt32 e_)), (.ref b_)]))
    refine own_via (fun _ k => XS.iconst X0.here hx rfl (hb hby d7_12) k) ?_
    show own_Go p e below s _ _ _ (s₁.setTop (mkF m 13 #[.val (.ref a), .val (.ref b_), .val (.int (Nat.toInt32 s_)), .val (.int (Nat.toInt32 e_)), .val (.int (Nat.toInt32 e_)), .unset] [(.int (1 : Int32)), (.int (Nat.toInt32 e_)), (.ref b_)]))
    refine own_via (fun _ k => XS.isub X0.here hx rfl (hb hby d7_13) rfl k) ?_
    show own_Go p e below s _ _ _ (s₁.setTop (mkF m 14 #[.val (.ref a), .val (.ref b_), .val (.int (Nat.toInt32 s_)), .val (.int (Nat.toInt32 e_)), .val (.int (Nat.toInt32 e_)), .unset] [(.int ((Nat.toInt32 e_) - (1 : Int32))), (.ref b_)]))
    have h0e : s_ < e_ := (own_ltn (by omega) (by omega)).mp hc62
    rw [show ((Nat.toInt32 e_) - (1 : Int32)) = (Nat.toInt32 (e_ - 1)) from (own_pred (by omega))]
    show own_Go p e below s _ _ _ (s₁.setTop (mkF m 14 #[.val (.ref a), .val (.ref b_), .val (.int (Nat.toInt32 s_)), .val (.int (Nat.toInt32 e_)), .val (.int (Nat.toInt32 e_)), .unset] [(.int (Nat.toInt32 (e_ - 1))), (.ref b_)]))
    obtain ⟨cl63, Ar63, q63, S63, M63, H63, G63⟩ := (id V_b_)
    have hin63 : ¬ ((Nat.toInt32 (e_ - 1)) < 0 ∨ cl63.slots.size ≤ ((Nat.toInt32 (e_ - 1))).toNatClampNeg) := inb_of S63 (own_inb (by omega) (by omega))
    have hat63 : cl63.slots[((Nat.toInt32 (e_ - 1))).toNatClampNeg]? = some (.int (own_g us_ (e_ - 1))) := Has.at H63 hin63 (own_gm us_ (by omega))
    refine own_via (fun _ k => X0.baloadBytes hx (j := (Nat.toInt32 (e_ - 1))) (v := (.int (own_g us_ (e_ - 1)))) (by rw [e0]; exact Ar63.1) (State.isArrayOf_alike hZ.alike Ar63.2.1) Ar63.2.2 hin63 hat63 (g := (mkF m 14 #[.val (.ref a), .val (.ref b_), .val (.int (Nat.toInt32 s_)), .val (.int (Nat.toInt32 e_)), .val (.int (Nat.toInt32 e_)), .unset] [(.int (Nat.toInt32 (e_ - 1))), (.ref b_)])) rfl rfl (hb hby d7_14) _ k) ?_
    show own_Go p e below s _ _ _ (s₁.setTop (mkF m 15 #[.val (.ref a), .val (.ref b_), .val (.int (Nat.toInt32 s_)), .val (.int (Nat.toInt32 e_)), .val (.int (Nat.toInt32 e_)), .unset] [(.int (own_g us_ (e_ - 1)))]))
    refine own_via (fun _ k => XS.bipush X0.here hx rfl (hb hby d7_15) k) ?_
    show own_Go p e below s _ _ _ (s₁.setTop (mkF m 17 #[.val (.ref a), .val (.ref b_), .val (.int (Nat.toInt32 s_)), .val (.int (Nat.toInt32 e_)), .val (.int (Nat.toInt32 e_)), .unset] [(.int (13 : Int32)), (.int (own_g us_ (e_ - 1)))]))
    by_cases hc64 : (own_g us_ (e_ - 1)) = (13 : Int32)
    · refine own_via (fun _ k => XS.icmpNo X0.here hx rfl (hb hby d7_17) rfl (Jvm.Free.XT.ii_ne_f hc64) k) ?_
      show own_Go p e below s _ _ _ (s₁.setTop (mkF m 20 #[.val (.ref a), .val (.ref b_), .val (.int (Nat.toInt32 s_)), .val (.int (Nat.toInt32 e_)), .val (.int (Nat.toInt32 e_)), .unset] []))
      refine own_via (fun _ k => XS.iinc X0.here hx rfl (hb hby d7_20) rfl (l' := #[.val (.ref a), .val (.ref b_), .val (.int (Nat.toInt32 s_)), .val (.int (Nat.toInt32 e_)), .val (.int ((Nat.toInt32 e_) + (-1 : Int32))), .unset]) rfl k) ?_
      show own_Go p e below s _ _ _ (s₁.setTop (mkF m 23 #[.val (.ref a), .val (.ref b_), .val (.int (Nat.toInt32 s_)), .val (.int (Nat.toInt32 e_)), .val (.int ((Nat.toInt32 e_) + (-1 : Int32))), .unset] []))
      rw [own_pred' (by omega : 0 < e_)]
      show own_Go p e below s _ _ _ (s₁.setTop (mkF m 23 #[.val (.ref a), .val (.ref b_), .val (.int (Nat.toInt32 s_)), .val (.int (Nat.toInt32 e_)), .val (.int (Nat.toInt32 (e_ - 1))), .unset] []))
      exact jn (e_ - 1) _ _ _ X0 e0 N0 Z0 K0 E_a F_bytes_a F_end_a F_position_a F_fieldStart_a F_fieldEnd_a V_b_ (by have := (own_ltn (by omega) (by omega)).mp hc62; omega) (by omega) (by rw [own_end, if_pos ⟨(own_ltn (by omega) (by omega)).mp hc62, hc64⟩])
    · refine own_via (fun _ k => XS.icmpYes X0.here hx rfl (pc0 := 17) (pc' := 23) rfl (hb hby d7_17) rfl (Jvm.Free.XT.ii_ne_t hc64) (by decide) (by decide) k) ?_
      show own_Go p e below s _ _ _ (s₁.setTop (mkF m 23 #[.val (.ref a), .val (.ref b_), .val (.int (Nat.toInt32 s_)), .val (.int (Nat.toInt32 e_)), .val (.int (Nat.toInt32 e_)), .unset] []))
      exact jn e_ _ _ _ X0 e0 N0 Z0 K0 E_a F_bytes_a F_end_a F_position_a F_fieldStart_a F_fieldEnd_a V_b_ (by omega) (by omega) (by rw [own_end, if_neg (fun q => hc64 q.2)])
  · refine own_via (fun _ k => XS.icmpYes X0.here hx rfl (pc0 := 6) (pc' := 23) rfl (hb hby d7_6) rfl (Jvm.Free.XT.ii_le_t hc62) (by decide) (by decide) k) ?_
    show own_Go p e below s _ _ _ (s₁.setTop (mkF m 23 #[.val (.ref a), .val (.ref b_), .val (.int (Nat.toInt32 s_)), .val (.int (Nat.toInt32 e_)), .val (.int (Nat.toInt32 e_)), .unset] []))
    exact jn e_ _ _ _ X0 e0 N0 Z0 K0 E_a F_bytes_a F_end_a F_position_a F_fieldStart_a F_fieldEnd_a V_b_ (by omega) (by omega) (by rw [own_end, if_neg (fun q => hc62 ((own_ltn (by omega) (by omega)).mpr q.1))])
theorem d10_0 : decode prog_21_method_4_code 0 = .ok (.aload_n 0, 1) := by decide +kernel
theorem d10_1 : decode prog_21_method_4_code 1 = .ok (.aload_n 0, 1) := by decide +kernel
theorem d10_2 : decode prog_21_method_4_code 2 = .ok (.getfield 37, 3) := by decide +kernel
theorem d10_5 : decode prog_21_method_4_code 5 = .ok (.invokevirtual 33, 3) := by decide +kernel
theorem d10_8 : decode prog_21_method_4_code 8 = .ok (.istore_n 1, 1) := by decide +kernel
theorem d10_9 : decode prog_21_method_4_code 9 = .ok (.iload_n 1, 1) := by decide +kernel
theorem d10_10 : decode prog_21_method_4_code 10 = .ok (.aload_n 0, 1) := by decide +kernel
theorem d10_11 : decode prog_21_method_4_code 11 = .ok (.getfield 29, 3) := by decide +kernel
theorem d10_14 : decode prog_21_method_4_code 14 = .ok (.if_icmp .ne 13, 3) := by decide +kernel
theorem d10_17 : decode prog_21_method_4_code 17 = .ok (.aload_n 0, 1) := by decide +kernel
theorem d10_18 : decode prog_21_method_4_code 18 = .ok (.aload_n 0, 1) := by decide +kernel
theorem d10_19 : decode prog_21_method_4_code 19 = .ok (.getfield 29, 3) := by decide +kernel
theorem d10_22 : decode prog_21_method_4_code 22 = .ok (.putfield 37, 3) := by decide +kernel
theorem d10_25 : decode prog_21_method_4_code 25 = .ok (.iconst 0, 1) := by decide +kernel
theorem d10_26 : decode prog_21_method_4_code 26 = .ok (.ireturn, 1) := by decide +kernel
theorem d10_27 : decode prog_21_method_4_code 27 = .ok (.iload_n 1, 1) := by decide +kernel
theorem d10_28 : decode prog_21_method_4_code 28 = .ok (.istore_n 2, 1) := by decide +kernel
theorem d10_29 : decode prog_21_method_4_code 29 = .ok (.iload_n 2, 1) := by decide +kernel
theorem d10_30 : decode prog_21_method_4_code 30 = .ok (.aload_n 0, 1) := by decide +kernel
theorem d10_31 : decode prog_21_method_4_code 31 = .ok (.getfield 29, 3) := by decide +kernel
theorem d10_34 : decode prog_21_method_4_code 34 = .ok (.if_icmp .ge 21, 3) := by decide +kernel
theorem d10_55 : decode prog_21_method_4_code 55 = .ok (.aload_n 0, 1) := by decide +kernel
theorem d10_56 : decode prog_21_method_4_code 56 = .ok (.iload_n 1, 1) := by decide +kernel
theorem d10_57 : decode prog_21_method_4_code 57 = .ok (.putfield 40, 3) := by decide +kernel
theorem d10_60 : decode prog_21_method_4_code 60 = .ok (.aload_n 0, 1) := by decide +kernel
theorem d10_61 : decode prog_21_method_4_code 61 = .ok (.iload_n 2, 1) := by decide +kernel
theorem d10_62 : decode prog_21_method_4_code 62 = .ok (.putfield 43, 3) := by decide +kernel
theorem d10_65 : decode prog_21_method_4_code 65 = .ok (.aload_n 0, 1) := by decide +kernel
theorem d10_66 : decode prog_21_method_4_code 66 = .ok (.iload_n 2, 1) := by decide +kernel
theorem d10_67 : decode prog_21_method_4_code 67 = .ok (.putfield 37, 3) := by decide +kernel
theorem d10_70 : decode prog_21_method_4_code 70 = .ok (.iconst 1, 1) := by decide +kernel
theorem d10_71 : decode prog_21_method_4_code 71 = .ok (.ireturn, 1) := by decide +kernel
theorem d10_37 : decode prog_21_method_4_code 37 = .ok (.aload_n 0, 1) := by decide +kernel
theorem d10_38 : decode prog_21_method_4_code 38 = .ok (.getfield 25, 3) := by decide +kernel
theorem d10_41 : decode prog_21_method_4_code 41 = .ok (.iload_n 2, 1) := by decide +kernel
theorem d10_42 : decode prog_21_method_4_code 42 = .ok (.baload, 1) := by decide +kernel
theorem d10_43 : decode prog_21_method_4_code 43 = .ok (.invokestatic 46, 3) := by decide +kernel
theorem d10_46 : decode prog_21_method_4_code 46 = .ok (.ifCond .ne 9, 3) := by decide +kernel
theorem d10_49 : decode prog_21_method_4_code 49 = .ok (.iinc 2 1, 3) := by decide +kernel
theorem d10_52 : decode prog_21_method_4_code 52 = .ok (.goto (-23), 3) := by decide +kernel
theorem ef_10 (m : MethodId) (x0 : Addr) : entryFrame m #[(.ref x0)] 3 = mkF m 0 #[.val (.ref x0), .unset, .unset] [] := by first | (simp [entryFrame, mkF, argsToLocals, Value.category]; done) | rfl
def Q10 (Z : State) (a : Addr) (b_ : Addr) (k_ : ClassId) (z_ : Int32) (us_ : List Int32) (e_ : Nat) (q_ : Nat) (fs_ : Int32) (ft_ : Int32) (h0 : Heap) (n0 : Nat) (v : Option Value) (h : Heap) (L : List Loc) : Prop := v = some (.int (own_nr us_ e_ q_)) ∧ Fr n0 L ∧ Keep h0 h [a] ∧ Exa Z h a "com/example/enlace/enlace/graph/LineFields" ∧ Fld Z h a "com/example/enlace/enlace/graph/LineFields" "bytes" "[B" (.ref b_) ∧ Fld Z h a "com/example/enlace/enlace/graph/LineFields" "end" "I" (.int (Nat.toInt32 e_)) ∧ Fld Z h a "com/example/enlace/enlace/graph/LineFields" "position" "I" (.int (Nat.toInt32 (own_nq us_ e_ q_))) ∧ Fld Z h a "com/example/enlace/enlace/graph/LineFields" "fieldStart" "I" (.int (own_nfs us_ e_ q_ fs_)) ∧ Fld Z h a "com/example/enlace/enlace/graph/LineFields" "fieldEnd" "I" (.int (own_nft us_ e_ q_ ft_))
set_option maxRecDepth 65536 in
set_option maxHeartbeats 40000000 in
theorem rm10 (l : Launch) (Z : State) (a0 : Array Value) (hw : ∀ d ∈ tables_1, d.before a0 Z = true) (ws : List Jvm.Cond) (a : Addr) (b_ : Addr) (k_ : ClassId) (z_ : Int32) (us_ : List Int32) (e_ : Nat) (q_ : Nat) (fs_ : Int32) (ft_ : Int32) (h0 : Heap) (n0 : Nat) (Z0 : n0 ≤ h0.size) (E_a : Exa Z h0 a "com/example/enlace/enlace/graph/LineFields") (F_bytes_a : Fld Z h0 a "com/example/enlace/enlace/graph/LineFields" "bytes" "[B" (.ref b_)) (F_end_a : Fld Z h0 a "com/example/enlace/enlace/graph/LineFields" "end" "I" (.int (Nat.toInt32 e_))) (F_position_a : Fld Z h0 a "com/example/enlace/enlace/graph/LineFields" "position" "I" (.int (Nat.toInt32 q_))) (F_fieldStart_a : Fld Z h0 a "com/example/enlace/enlace/graph/LineFields" "fieldStart" "I" (.int fs_)) (F_fieldEnd_a : Fld Z h0 a "com/example/enlace/enlace/graph/LineFields" "fieldEnd" "I" (.int ft_)) (V_b_ : Arv Z h0 b_ k_ .byte z_ (us_.map Value.int) (.int (0 : Int32))) (g_a : n0 ≤ a) (ne_b__a : b_ ≠ a) (hp9 : q_ ≤ e_) (hp10 : e_ ≤ 16) (hp11 : (e_ : Int) ≤ z_.toInt) :
    MetFree l (⟨"com/example/enlace/enlace/graph/LineFields", "advance", "()Z"⟩ : MethodName) (head1 (Jvm.Cond.code (⟨"com/example/enlace/enlace/graph/LineFields", "advance", "()Z"⟩ : MethodName) prog_21_method_4_code 3 (some .boolean) :: ws) ({ frames := 2, cells := 0, slots := 0, locals := 26 } : Room)) (fun q_ U => q_ = #[(.ref a)] ∧ Z.Warmed39 U.vm ∧ U.heap = h0) (fun _ _ _ _ _ => True) (fun _ U o U' => ∃ v L, o = .returned v ∧ Q10 Z a b_ k_ z_ us_ e_ q_ fs_ ft_ h0 n0 v U'.heap L ∧ FrameEnd U o U' L ({ frames := 2, cells := 0, slots := 0, locals := 26 } : Room).cells ({ frames := 2, cells := 0, slots := 0, locals := 26 } : Room).slots) := by
  refine MetFree.of_bodySF (plainFor_of_name pn_0) hisR ?_
  intro p e s m args below meth c s₁ Bd hml0 hP hK
  obtain ⟨rfl, hZ, hh⟩ := hP
  have hx := Bd.exec
  have hby := Bd.bytes
  have hml : c.maxLocals = 3 := hml0
  have hown : s.vm.findClass "com/example/enlace/enlace/graph/LineFields" = some m.cls := findClass_of_methodNamed Bd.named
  have hnm := (name_of_methodNamed Bd.named Bd.method).1
  have X0 : Stand p l e ({ frames := 2, cells := 0, slots := 0, locals := 26 } : Room) s m #[(.ref a)] below meth c s₁ [] 0 0 := Stand.of_body Bd
  have e0 : s₁.heap = h0 := by rw [← hh, Bd.state]; rfl
  have N0 := Fr.nil n0
  show own_Go p e below s (Q10 Z a b_ k_ z_ us_ e_ q_ fs_ ft_ h0 n0) ({ frames := 2, cells := 0, slots := 0, locals := 26 } : Room).cells ({ frames := 2, cells := 0, slots := 0, locals := 26 } : Room).slots (s₁.setTop (entryFrame m #[(.ref a)] 3))
  refine own_via (fun t k => castTop (ef_10 m a) k) ?_
  have K0 : Keep h0 h0 [a] := Keep.refl _ _
  show own_Go p e below s _ _ _ (s₁.setTop (mkF m 0 #[.val (.ref a), .unset, .unset] []))
  refine own_via (fun _ k => XS.aloadN X0.here hx rfl (hb hby d10_0) rfl rfl k) ?_
  show own_Go p e below s _ _ _ (s₁.setTop (mkF m 1 #[.val (.ref a), .unset, .unset] [(.ref a)]))
  refine own_via (fun _ k => XS.aloadN X0.here hx rfl (hb hby d10_1) rfl rfl k) ?_
  show own_Go p e below s _ _ _ (s₁.setTop (mkF m 2 #[.val (.ref a), .unset, .unset] [(.ref a), (.ref a)]))
  obtain ⟨T1, X1, e1, st1⟩ := getF X0 hx hZ hown (host := "") (Or.inl (hw _ (List.mem_of_getElem? (i := 38) rfl))) Via.refl e0 F_position_a (g := (mkF m 2 #[.val (.ref a), .unset, .unset] [(.ref a), (.ref a)])) rfl rfl (hb hby d10_2)
  refine own_via st1 ?_
  show own_Go p e below s _ _ _ (T1.setTop (mkF m 5 #[.val (.ref a), .unset, .unset] [(.int (Nat.toInt32 q_)), (.ref a)]))
  obtain ⟨cq2, qa2, qb2⟩ := E_a.cell
  obtain ⟨_, _, ⟨T2, L2, k2, n2⟩, -, X2, ⟨Lc2, hQ2, l2, y2, z2⟩, st2⟩ := X1.privateBack hx (y := (⟨"com/example/enlace/enlace/graph/LineFields", "skipBlanks", "(I)I"⟩ : MethodName)) hown (mvT hZ (hw _ (List.mem_of_getElem? (i := 34) rfl))) (mvT hZ (hw _ (List.mem_of_getElem? (i := 35) rfl))) (own_selP (y' := (⟨"com/example/enlace/enlace/graph/LineFields", "reset", "([BII)V"⟩ : MethodName)) (mvT hZ (hw _ (List.mem_of_getElem? (i := 28) rfl))) rfl (Cond.privateMethod_at (mvP hZ (hw _ (List.mem_of_getElem? (i := 36) rfl)) (args := #[]))) (mvT hZ (hw _ (List.mem_of_getElem? (i := 35) rfl))) (by decide)) (Cond.privateMethod_at (mvP hZ (hw _ (List.mem_of_getElem? (i := 36) rfl)) (args := #[]))) (mvT hZ (hw _ (List.mem_of_getElem? (i := 37) rfl))) (by decide) (backOf (W := 0) (rm8 l Z a0 hw [] a (Nat.toInt32 q_) b_ k_ z_ us_ (Nat.toInt32 e_) q_ (e_ - q_) h0 n0 Z0 F_bytes_a F_end_a V_b_ rfl (by rw [show q_ + (e_ - q_) = e_ by omega]) (by omega) (by omega)) hZ (hw _ (List.mem_of_getElem? (i := 37) rfl)) (hw _ (List.mem_of_getElem? (i := 18) rfl)) (by decide) (by decide)) (g := (mkF m 5 #[.val (.ref a), .unset, .unset] [(.int (Nat.toInt32 q_)), (.ref a)])) rfl (by rw [hml]; rfl) (Steps.refl _) (a := a) (by rw [e1]; exact qa2) qb2 (argsL := [(.int (Nat.toInt32 q_))]) (rest := []) (lenOf pd_1 rfl) rfl (by show 2 * 0 + _ ≤ _; exact Nat.le_of_eq rfl) (hb hby d10_5) (fun _ _ => ⟨rfl, e1, (by decide : 0 + 0 ≤ _), (by decide : 0 + 0 ≤ _)⟩)
  dsimp only [Pt.U, Pt.locs, Pt.cells, Pt.slots] at X2 l2 y2 z2 st2 hQ2
  subst l2 y2 z2
  obtain ⟨rfl, N2q, e2⟩ := hQ2
  have N2 := Fr.app N0 N2q
  refine own_viaT st2 ?_
  show own_Go p e below s _ _ _ (T2.setTop (mkF m 8 #[.val (.ref a), .unset, .unset] [(.int (Nat.toInt32 (own_sk us_ (e_ - q_) q_)))]))
  have hsk := own_A_r (us := us_) hp9
  rw [show (Nat.toInt32 (own_sk us_ (e_ - q_) q_)) = (Nat.toInt32 (own_A us_ e_ q_)) from rfl]
  show own_Go p e below s _ _ _ (T2.setTop (mkF m 8 #[.val (.ref a), .unset, .unset] [(.int (Nat.toInt32 (own_A us_ e_ q_)))]))
  refine own_via (fun _ k => XS.istoreN X2.here hx rfl (hb hby d10_8) rfl (l' := #[.val (.ref a), .val (.int (Nat.toInt32 (own_A us_ e_ q_))), .unset]) rfl k) ?_
  show own_Go p e below s _ _ _ (T2.setTop (mkF m 9 #[.val (.ref a), .val (.int (Nat.toInt32 (own_A us_ e_ q_))), .unset] []))
  refine own_via (fun _ k => XS.iloadN X2.here hx rfl (hb hby d10_9) rfl k) ?_
  show own_Go p e below s _ _ _ (T2.setTop (mkF m 10 #[.val (.ref a), .val (.int (Nat.toInt32 (own_A us_ e_ q_))), .unset] [(.int (Nat.toInt32 (own_A us_ e_ q_)))]))
  refine own_via (fun _ k => XS.aloadN X2.here hx rfl (hb hby d10_10) rfl rfl k) ?_
  show own_Go p e below s _ _ _ (T2.setTop (mkF m 11 #[.val (.ref a), .val (.int (Nat.toInt32 (own_A us_ e_ q_))), .unset] [(.ref a), (.int (Nat.toInt32 (own_A us_ e_ q_)))]))
  obtain ⟨T3, X3, e3, st3⟩ := getF X2 hx hZ hown (host := "") (Or.inl (hw _ (List.mem_of_getElem? (i := 32) rfl))) Via.refl e2 F_end_a (g := (mkF m 11 #[.val (.ref a), .val (.int (Nat.toInt32 (own_A us_ e_ q_))), .unset] [(.ref a), (.int (Nat.toInt32 (own_A us_ e_ q_)))])) rfl rfl (hb hby d10_11)
  refine own_via st3 ?_
  show own_Go p e below s _ _ _ (T3.setTop (mkF m 14 #[.val (.ref a), .val (.int (Nat.toInt32 (own_A us_ e_ q_))), .unset] [(.int (Nat.toInt32 e_)), (.int (Nat.toInt32 (own_A us_ e_ q_)))]))
  by_cases hc4 : (Nat.toInt32 (own_A us_ e_ q_)) = (Nat.toInt32 e_)
  · refine own_via (fun _ k => XS.icmpNo X3.here hx rfl (hb hby d10_14) rfl (Jvm.Free.XT.ii_ne_f hc4) k) ?_
    show own_Go p e below s _ _ _ (T3.setTop (mkF m 17 #[.val (.ref a), .val (.int (Nat.toInt32 (own_A us_ e_ q_))), .unset] []))
    refine own_via (fun _ k => XS.aloadN X3.here hx rfl (hb hby d10_17) rfl rfl k) ?_
    show own_Go p e below s _ _ _ (T3.setTop (mkF m 18 #[.val (.ref a), .val (.int (Nat.toInt32 (own_A us_ e_ q_))), .unset] [(.ref a)]))
    refine own_via (fun _ k => XS.aloadN X3.here hx rfl (hb hby d10_18) rfl rfl k) ?_
    show own_Go p e below s _ _ _ (T3.setTop (mkF m 19 #[.val (.ref a), .val (.int (Nat.toInt32 (own_A us_ e_ q_))), .unset] [(.ref a), (.ref a)]))
    obtain ⟨T5, X5, e5, st5⟩ := getF X3 hx hZ hown (host := "") (Or.inl (hw _ (List.mem_of_getElem? (i := 32) rfl))) Via.refl e3 F_end_a (g := (mkF m 19 #[.val (.ref a), .val (.int (Nat.toInt32 (own_A us_ e_ q_))), .unset] [(.ref a), (.ref a)])) rfl rfl (hb hby d10_19)
    refine own_via st5 ?_
    show own_Go p e below s _ _ _ (T5.setTop (mkF m 22 #[.val (.ref a), .val (.int (Nat.toInt32 (own_A us_ e_ q_))), .unset] [(.int (Nat.toInt32 e_)), (.ref a)]))
    obtain ⟨T6, h6, X6, e6, W6, st6⟩ := putF X5 hx hZ hown (host := "") (Or.inl (hw _ (List.mem_of_getElem? (i := 38) rfl))) Via.refl e5 F_position_a E_a (Or.inl (hw _ (List.mem_of_getElem? (i := 39) rfl))) (hw _ (List.mem_of_getElem? (i := 17) rfl)) (ty := .int) (by decide) rfl rfl (g := (mkF m 22 #[.val (.ref a), .val (.int (Nat.toInt32 (own_A us_ e_ q_))), .unset] [(.int (Nat.toInt32 e_)), (.ref a)])) rfl rfl (hb hby d10_22)
    have N6 := Fr.snoc X6 N2 g_a
    have Fw6 := F_position_a.same W6
    have Z6 : n0 ≤ h6.size := Nat.le_trans Z0 (Keep.of_wr W6).1
    have K6 : Keep h0 h6 [a] := K0.wr W6 (Or.inl (List.mem_of_getElem? (i := 0) rfl))
    refine own_via st6 ?_
    show own_Go p e below s _ _ _ (T6.setTop (mkF m 25 #[.val (.ref a), .val (.int (Nat.toInt32 (own_A us_ e_ q_))), .unset] []))
    refine own_via (fun _ k => XS.iconst X6.here hx rfl (hb hby d10_25) k) ?_
    show own_Go p e below s _ _ _ (T6.setTop (mkF m 26 #[.val (.ref a), .val (.int (Nat.toInt32 (own_A us_ e_ q_))), .unset] [(.int (0 : Int32))]))
    have F7 := (E_a.wr W6)
    have F8 := (F_bytes_a.other W6 (Or.inr (slot_ne (Or.inl (hw _ (List.mem_of_getElem? (i := 31) rfl))) (Or.inl (hw _ (List.mem_of_getElem? (i := 39) rfl))) (by decide) (t := (.array .byte)) (t' := .int) (by decide) (by decide))))
    have F9 := (F_end_a.other W6 (Or.inr (slot_ne (Or.inl (hw _ (List.mem_of_getElem? (i := 33) rfl))) (Or.inl (hw _ (List.mem_of_getElem? (i := 39) rfl))) (by decide) (t := .int) (t' := .int) (by decide) (by decide))))
    have F10 := (F_fieldStart_a.other W6 (Or.inr (slot_ne (Or.inl (hw _ (List.mem_of_getElem? (i := 41) rfl))) (Or.inl (hw _ (List.mem_of_getElem? (i := 39) rfl))) (by decide) (t := .int) (t' := .int) (by decide) (by decide))))
    have F11 := (F_fieldEnd_a.other W6 (Or.inr (slot_ne (Or.inl (hw _ (List.mem_of_getElem? (i := 43) rfl))) (Or.inl (hw _ (List.mem_of_getElem? (i := 39) rfl))) (by decide) (t := .int) (t' := .int) (by decide) (by decide))))
    exact own_goN X6 hx (t := .boolean) Bd.returns (by simp) (hb hby d10_26) Bd.notSynchronized (by decide) (by decide) (by rw [e6]; exact ⟨(by rw [own_nr, if_pos ((own_eqn (by omega) (by omega)).mp hc4)] <;> rfl), N6, K6, F7, F8, F9, (by rw [own_nq, if_pos ((own_eqn (by omega) (by omega)).mp hc4)]; exact Fw6), (by rw [own_nfs, if_pos ((own_eqn (by omega) (by omega)).mp hc4)]; exact F10), (by rw [own_nft, if_pos ((own_eqn (by omega) (by omega)).mp hc4)]; exact F11)⟩)
  · refine own_via (fun _ k => XS.icmpYes X3.here hx rfl (pc0 := 14) (pc' := 27) rfl (hb hby d10_14) rfl (Jvm.Free.XT.ii_ne_t hc4) (by decide) (by decide) k) ?_
    show own_Go p e below s _ _ _ (T3.setTop (mkF m 27 #[.val (.ref a), .val (.int (Nat.toInt32 (own_A us_ e_ q_))), .unset] []))
    refine own_via (fun _ k => XS.iloadN X3.here hx rfl (hb hby d10_27) rfl k) ?_
    show own_Go p e below s _ _ _ (T3.setTop (mkF m 28 #[.val (.ref a), .val (.int (Nat.toInt32 (own_A us_ e_ q_))), .unset] [(.int (Nat.toInt32 (own_A us_ e_ q_)))]))
    refine own_via (fun _ k => XS.istoreN X3.here hx rfl (hb hby d10_28) rfl (l' := #[.val (.ref a), .val (.int (Nat.toInt32 (own_A us_ e_ q_))), .val (.int (Nat.toInt32 (own_A us_ e_ q_)))]) rfl k) ?_
    show own_Go p e below s _ _ _ (T3.setTop (mkF m 29 #[.val (.ref a), .val (.int (Nat.toInt32 (own_A us_ e_ q_))), .val (.int (Nat.toInt32 (own_A us_ e_ q_)))] []))
    have loop : ∀ (n_ : Nat) (i_ : Nat) (T12 : State) (lo12 : List Loc) (h12 : Heap), Stand p l e ({ frames := 2, cells := 0, slots := 0, locals := 26 } : Room) s m #[(.ref a)] below meth c T12 lo12 0 0 → T12.heap = h12 → Fr n0 lo12 → n0 ≤ h12.size → Keep h0 h12 [a] → Exa Z h12 a "com/example/enlace/enlace/graph/LineFields" → Fld Z h12 a "com/example/enlace/enlace/graph/LineFields" "bytes" "[B" (.ref b_) → Fld Z h12 a "com/example/enlace/enlace/graph/LineFields" "end" "I" (.int (Nat.toInt32 e_)) → Fld Z h12 a "com/example/enlace/enlace/graph/LineFields" "position" "I" (.int (Nat.toInt32 q_)) → Fld Z h12 a "com/example/enlace/enlace/graph/LineFields" "fieldStart" "I" (.int fs_) → Fld Z h12 a "com/example/enlace/enlace/graph/LineFields" "fieldEnd" "I" (.int ft_) → Arv Z h12 b_ k_ .byte z_ (us_.map Value.int) (.int (0 : Int32)) → i_ + n_ = e_ → own_nb us_ n_ i_ = (own_Bk us_ e_ q_) → own_Go p e below s (Q10 Z a b_ k_ z_ us_ e_ q_ fs_ ft_ h0 n0) ({ frames := 2, cells := 0, slots := 0, locals := 26 } : Room).cells ({ frames := 2, cells := 0, slots := 0, locals := 26 } : Room).slots (T12.setTop (mkF m 29 #[.val (.ref a), .val (.int (Nat.toInt32 (own_A us_ e_ q_))), .val (.int (Nat.toInt32 i_))] [])) := by
      intro n_
      induction n_ with
      | zero =>
        intro i_ T12 lo12 h12 X12 e12 N12 Z12 K12 F13 F14 F15 F16 F17 F18 F19 hE hr
        show own_Go p e below s _ _ _ (T12.setTop (mkF m 29 #[.val (.ref a), .val (.int (Nat.toInt32 (own_A us_ e_ q_))), .val (.int (Nat.toInt32 i_))] []))
        refine own_via (fun _ k => XS.iloadN X12.here hx rfl (hb hby d10_29) rfl k) ?_
        show own_Go p e below s _ _ _ (T12.setTop (mkF m 30 #[.val (.ref a), .val (.int (Nat.toInt32 (own_A us_ e_ q_))), .val (.int (Nat.toInt32 i_))] [(.int (Nat.toInt32 i_))]))
        refine own_via (fun _ k => XS.aloadN X12.here hx rfl (hb hby d10_30) rfl rfl k) ?_
        show own_Go p e below s _ _ _ (T12.setTop (mkF m 31 #[.val (.ref a), .val (.int (Nat.toInt32 (own_A us_ e_ q_))), .val (.int (Nat.toInt32 i_))] [(.ref a), (.int (Nat.toInt32 i_))]))
        obtain ⟨T20, X20, e20, st20⟩ := getF X12 hx hZ hown (host := "") (Or.inl (hw _ (List.mem_of_getElem? (i := 32) rfl))) Via.refl e12 F15 (g := (mkF m 31 #[.val (.ref a), .val (.int (Nat.toInt32 (own_A us_ e_ q_))), .val (.int (Nat.toInt32 i_))] [(.ref a), (.int (Nat.toInt32 i_))])) rfl rfl (hb hby d10_31)
        refine own_via st20 ?_
        show own_Go p e below s _ _ _ (T20.setTop (mkF m 34 #[.val (.ref a), .val (.int (Nat.toInt32 (own_A us_ e_ q_))), .val (.int (Nat.toInt32 i_))] [(.int (Nat.toInt32 e_)), (.int (Nat.toInt32 i_))]))
        have hc21 : ¬ ((Nat.toInt32 i_) < (Nat.toInt32 e_)) := fun q => absurd ((own_ltn (by omega) (by omega)).mp q) (by omega)
        refine own_via (fun _ k => XS.icmpYes X20.here hx rfl (pc0 := 34) (pc' := 55) rfl (hb hby d10_34) rfl (Jvm.Free.XT.ii_ge_t hc21) (by decide) (by decide) k) ?_
        show own_Go p e below s _ _ _ (T20.setTop (mkF m 55 #[.val (.ref a), .val (.int (Nat.toInt32 (own_A us_ e_ q_))), .val (.int (Nat.toInt32 i_))] []))
        refine own_via (fun _ k => XS.aloadN X20.here hx rfl (hb hby d10_55) rfl rfl k) ?_
        show own_Go p e below s _ _ _ (T20.setTop (mkF m 56 #[.val (.ref a), .val (.int (Nat.toInt32 (own_A us_ e_ q_))), .val (.int (Nat.toInt32 i_))] [(.ref a)]))
        refine own_via (fun _ k => XS.iloadN X20.here hx rfl (hb hby d10_56) rfl k) ?_
        show own_Go p e below s _ _ _ (T20.setTop (mkF m 57 #[.val (.ref a), .val (.int (Nat.toInt32 (own_A us_ e_ q_))), .val (.int (Nat.toInt32 i_))] [(.int (Nat.toInt32 (own_A us_ e_ q_))), (.ref a)]))
        obtain ⟨T22, h22, X22, e22, W22, st22⟩ := putF X20 hx hZ hown (host := "") (Or.inl (hw _ (List.mem_of_getElem? (i := 40) rfl))) Via.refl e20 F17 F13 (Or.inl (hw _ (List.mem_of_getElem? (i := 41) rfl))) (hw _ (List.mem_of_getElem? (i := 17) rfl)) (ty := .int) (by decide) rfl rfl (g := (mkF m 57 #[.val (.ref a), .val (.int (Nat.toInt32 (own_A us_ e_ q_))), .val (.int (Nat.toInt32 i_))] [(.int (Nat.toInt32 (own_A us_ e_ q_))), (.ref a)])) rfl rfl (hb hby d10_57)
        have N22 := Fr.snoc X22 N12 g_a
        have Fw22 := F17.same W22
        have Z22 : n0 ≤ h22.size := Nat.le_trans Z12 (Keep.of_wr W22).1
        have K22 : Keep h0 h22 [a] := K12.wr W22 (Or.inl (List.mem_of_getElem? (i := 0) rfl))
        refine own_via st22 ?_
        show own_Go p e below s _ _ _ (T22.setTop (mkF m 60 #[.val (.ref a), .val (.int (Nat.toInt32 (own_A us_ e_ q_))), .val (.int (Nat.toInt32 i_))] []))
        refine own_via (fun _ k => XS.aloadN X22.here hx rfl (hb hby d10_60) rfl rfl k) ?_
        show own_Go p e below s _ _ _ (T22.setTop (mkF m 61 #[.val (.ref a), .val (.int (Nat.toInt32 (own_A us_ e_ q_))), .val (.int (Nat.toInt32 i_))] [(.ref a)]))
        refine own_via (fun _ k => XS.iloadN X22.here hx rfl (hb hby d10_61) rfl k) ?_
        show own_Go p e below s _ _ _ (T22.setTop (mkF m 62 #[.val (.ref a), .val (.int (Nat.toInt32 (own_A us_ e_ q_))), .val (.int (Nat.toInt32 i_))] [(.int (Nat.toInt32 i_)), (.ref a)]))
        have F23 := (F13.wr W22)
        have F24 := (F18.other W22 (Or.inr (slot_ne (Or.inl (hw _ (List.mem_of_getElem? (i := 43) rfl))) (Or.inl (hw _ (List.mem_of_getElem? (i := 41) rfl))) (by decide) (t := .int) (t' := .int) (by decide) (by decide))))
        obtain ⟨T25, h25, X25, e25, W25, st25⟩ := putF X22 hx hZ hown (host := "") (Or.inl (hw _ (List.mem_of_getElem? (i := 42) rfl))) Via.refl e22 F24 F23 (Or.inl (hw _ (List.mem_of_getElem? (i := 43) rfl))) (hw _ (List.mem_of_getElem? (i := 17) rfl)) (ty := .int) (by decide) rfl rfl (g := (mkF m 62 #[.val (.ref a), .val (.int (Nat.toInt32 (own_A us_ e_ q_))), .val (.int (Nat.toInt32 i_))] [(.int (Nat.toInt32 i_)), (.ref a)])) rfl rfl (hb hby d10_62)
        have N25 := Fr.snoc X25 N22 g_a
        have Fw25 := F24.same W25
        have Z25 : n0 ≤ h25.size := Nat.le_trans Z22 (Keep.of_wr W25).1
        have K25 : Keep h0 h25 [a] := K22.wr W25 (Or.inl (List.mem_of_getElem? (i := 0) rfl))
        refine own_via st25 ?_
        show own_Go p e below s _ _ _ (T25.setTop (mkF m 65 #[.val (.ref a), .val (.int (Nat.toInt32 (own_A us_ e_ q_))), .val (.int (Nat.toInt32 i_))] []))
        refine own_via (fun _ k => XS.aloadN X25.here hx rfl (hb hby d10_65) rfl rfl k) ?_
        show own_Go p e below s _ _ _ (T25.setTop (mkF m 66 #[.val (.ref a), .val (.int (Nat.toInt32 (own_A us_ e_ q_))), .val (.int (Nat.toInt32 i_))] [(.ref a)]))
        refine own_via (fun _ k => XS.iloadN X25.here hx rfl (hb hby d10_66) rfl k) ?_
        show own_Go p e below s _ _ _ (T25.setTop (mkF m 67 #[.val (.ref a), .val (.int (Nat.toInt32 (own_A us_ e_ q_))), .val (.int (Nat.toInt32 i_))] [(.int (Nat.toInt32 i_)), (.ref a)]))
        have F26 := (F23.wr W25)
        have F27 := ((F16.other W22 (Or.inr (slot_ne (Or.inl (hw _ (List.mem_of_getElem? (i := 39) rfl))) (Or.inl (hw _ (List.mem_of_getElem? (i := 41) rfl))) (by decide) (t := .int) (t' := .int) (by decide) (by decide)))).other W25 (Or.inr (slot_ne (Or.inl (hw _ (List.mem_of_getElem? (i := 39) rfl))) (Or.inl (hw _ (List.mem_of_getElem? (i := 43) rfl))) (by decide) (t := .int) (t' := .int) (by decide) (by decide))))
        obtain ⟨T28, h28, X28, e28, W28, st28⟩ := putF X25 hx hZ hown (host := "") (Or.inl (hw _ (List.mem_of_getElem? (i := 38) rfl))) Via.refl e25 F27 F26 (Or.inl (hw _ (List.mem_of_getElem? (i := 39) rfl))) (hw _ (List.mem_of_getElem? (i := 17) rfl)) (ty := .int) (by decide) rfl rfl (g := (mkF m 67 #[.val (.ref a), .val (.int (Nat.toInt32 (own_A us_ e_ q_))), .val (.int (Nat.toInt32 i_))] [(.int (Nat.toInt32 i_)), (.ref a)])) rfl rfl (hb hby d10_67)
        have N28 := Fr.snoc X28 N25 g_a
        have Fw28 := F27.same W28
        have Z28 : n0 ≤ h28.size := Nat.le_trans Z25 (Keep.of_wr W28).1
        have K28 : Keep h0 h28 [a] := K25.wr W28 (Or.inl (List.mem_of_getElem? (i := 0) rfl))
        refine own_via st28 ?_
        show own_Go p e below s _ _ _ (T28.setTop (mkF m 70 #[.val (.ref a), .val (.int (Nat.toInt32 (own_A us_ e_ q_))), .val (.int (Nat.toInt32 i_))] []))
        refine own_via (fun _ k => XS.iconst X28.here hx rfl (hb hby d10_70) k) ?_
        show own_Go p e below s _ _ _ (T28.setTop (mkF m 71 #[.val (.ref a), .val (.int (Nat.toInt32 (own_A us_ e_ q_))), .val (.int (Nat.toInt32 i_))] [(.int (1 : Int32))]))
        have F29 := (F26.wr W28)
        have F30 := (((F14.other W22 (Or.inr (slot_ne (Or.inl (hw _ (List.mem_of_getElem? (i := 31) rfl))) (Or.inl (hw _ (List.mem_of_getElem? (i := 41) rfl))) (by decide) (t := (.array .byte)) (t' := .int) (by decide) (by decide)))).other W25 (Or.inr (slot_ne (Or.inl (hw _ (List.mem_of_getElem? (i := 31) rfl))) (Or.inl (hw _ (List.mem_of_getElem? (i := 43) rfl))) (by decide) (t := (.array .byte)) (t' := .int) (by decide) (by decide)))).other W28 (Or.inr (slot_ne (Or.inl (hw _ (List.mem_of_getElem? (i := 31) rfl))) (Or.inl (hw _ (List.mem_of_getElem? (i := 39) rfl))) (by decide) (t := (.array .byte)) (t' := .int) (by decide) (by decide))))
        have F31 := (((F15.other W22 (Or.inr (slot_ne (Or.inl (hw _ (List.mem_of_getElem? (i := 33) rfl))) (Or.inl (hw _ (List.mem_of_getElem? (i := 41) rfl))) (by decide) (t := .int) (t' := .int) (by decide) (by decide)))).other W25 (Or.inr (slot_ne (Or.inl (hw _ (List.mem_of_getElem? (i := 33) rfl))) (Or.inl (hw _ (List.mem_of_getElem? (i := 43) rfl))) (by decide) (t := .int) (t' := .int) (by decide) (by decide)))).other W28 (Or.inr (slot_ne (Or.inl (hw _ (List.mem_of_getElem? (i := 33) rfl))) (Or.inl (hw _ (List.mem_of_getElem? (i := 39) rfl))) (by decide) (t := .int) (t' := .int) (by decide) (by decide))))
        have F32 := ((Fw22.other W25 (Or.inr (slot_ne (Or.inl (hw _ (List.mem_of_getElem? (i := 41) rfl))) (Or.inl (hw _ (List.mem_of_getElem? (i := 43) rfl))) (by decide) (t := .int) (t' := .int) (by decide) (by decide)))).other W28 (Or.inr (slot_ne (Or.inl (hw _ (List.mem_of_getElem? (i := 41) rfl))) (Or.inl (hw _ (List.mem_of_getElem? (i := 39) rfl))) (by decide) (t := .int) (t' := .int) (by decide) (by decide))))
        have F33 := (Fw25.other W28 (Or.inr (slot_ne (Or.inl (hw _ (List.mem_of_getElem? (i := 43) rfl))) (Or.inl (hw _ (List.mem_of_getElem? (i := 39) rfl))) (by decide) (t := .int) (t' := .int) (by decide) (by decide))))
        exact own_goN X28 hx (t := .boolean) Bd.returns (by simp) (hb hby d10_71) Bd.notSynchronized (by decide) (by decide) (by rw [e28]; exact ⟨(by rw [own_nr, if_neg (fun q => hc4 ((own_eqn (by omega) (by omega)).mpr q))] <;> rfl), N28, K28, F29, F30, F31, (by rw [own_nq, if_neg (fun q => hc4 ((own_eqn (by omega) (by omega)).mpr q)), ← hr, own_nb]; exact Fw28), (by rw [own_nfs, if_neg (fun q => hc4 ((own_eqn (by omega) (by omega)).mpr q))]; exact F32), (by rw [own_nft, if_neg (fun q => hc4 ((own_eqn (by omega) (by omega)).mpr q)), ← hr, own_nb]; exact F33)⟩)
      | succ n_ ih =>
        intro i_ T12 lo12 h12 X12 e12 N12 Z12 K12 F13 F14 F15 F16 F17 F18 F19 hE hr
        show own_Go p e below s _ _ _ (T12.setTop (mkF m 29 #[.val (.ref a), .val (.int (Nat.toInt32 (own_A us_ e_ q_))), .val (.int (Nat.toInt32 i_))] []))
        refine own_via (fun _ k => XS.iloadN X12.here hx rfl (hb hby d10_29) rfl k) ?_
        show own_Go p e below s _ _ _ (T12.setTop (mkF m 30 #[.val (.ref a), .val (.int (Nat.toInt32 (own_A us_ e_ q_))), .val (.int (Nat.toInt32 i_))] [(.int (Nat.toInt32 i_))]))
        refine own_via (fun _ k => XS.aloadN X12.here hx rfl (hb hby d10_30) rfl rfl k) ?_
        show own_Go p e below s _ _ _ (T12.setTop (mkF m 31 #[.val (.ref a), .val (.int (Nat.toInt32 (own_A us_ e_ q_))), .val (.int (Nat.toInt32 i_))] [(.ref a), (.int (Nat.toInt32 i_))]))
        obtain ⟨T34, X34, e34, st34⟩ := getF X12 hx hZ hown (host := "") (Or.inl (hw _ (List.mem_of_getElem? (i := 32) rfl))) Via.refl e12 F15 (g := (mkF m 31 #[.val (.ref a), .val (.int (Nat.toInt32 (own_A us_ e_ q_))), .val (.int (Nat.toInt32 i_))] [(.ref a), (.int (Nat.toInt32 i_))])) rfl rfl (hb hby d10_31)
        refine own_via st34 ?_
        show own_Go p e below s _ _ _ (T34.setTop (mkF m 34 #[.val (.ref a), .val (.int (Nat.toInt32 (own_A us_ e_ q_))), .val (.int (Nat.toInt32 i_))] [(.int (Nat.toInt32 e_)), (.int (Nat.toInt32 i_))]))
        have hc35 : (Nat.toInt32 i_) < (Nat.toInt32 e_) := (own_ltn (by omega) (by omega)).mpr (by omega)
        refine own_via (fun _ k => XS.icmpNo X34.here hx rfl (hb hby d10_34) rfl (Jvm.Free.XT.ii_ge_f hc35) k) ?_
        show own_Go p e below s _ _ _ (T34.setTop (mkF m 37 #[.val (.ref a), .val (.int (Nat.toInt32 (own_A us_ e_ q_))), .val (.int (Nat.toInt32 i_))] []))
        refine own_via (fun _ k => XS.aloadN X34.here hx rfl (hb hby d10_37) rfl rfl k) ?_
        show own_Go p e below s _ _ _ (T34.setTop (mkF m 38 #[.val (.ref a), .val (.int (Nat.toInt32 (own_A us_ e_ q_))), .val (.int (Nat.toInt32 i_))] [(.ref a)]))
        obtain ⟨T36, X36, e36, st36⟩ := getF X34 hx hZ hown (host := "") (Or.inl (hw _ (List.mem_of_getElem? (i := 30) rfl))) Via.refl e34 F14 (g := (mkF m 38 #[.val (.ref a), .val (.int (Nat.toInt32 (own_A us_ e_ q_))), .val (.int (Nat.toInt32 i_))] [(.ref a)])) rfl rfl (hb hby d10_38)
        refine own_via st36 ?_
        show own_Go p e below s _ _ _ (T36.setTop (mkF m 41 #[.val (.ref a), .val (.int (Nat.toInt32 (own_A us_ e_ q_))), .val (.int (Nat.toInt32 i_))] [(.ref b_)]))
        refine own_via (fun _ k => XS.iloadN X36.here hx rfl (hb hby d10_41) rfl k) ?_
        show own_Go p e below s _ _ _ (T36.setTop (mkF m 42 #[.val (.ref a), .val (.int (Nat.toInt32 (own_A us_ e_ q_))), .val (.int (Nat.toInt32 i_))] [(.int (Nat.toInt32 i_)), (.ref b_)]))
        obtain ⟨cl37, Ar37, q37, S37, M37, H37, G37⟩ := (id F19)
        have hin37 : ¬ ((Nat.toInt32 i_) < 0 ∨ cl37.slots.size ≤ ((Nat.toInt32 i_)).toNatClampNeg) := inb_of S37 (own_inb (by omega) (by omega))
        have hat37 : cl37.slots[((Nat.toInt32 i_)).toNatClampNeg]? = some (.int (own_g us_ i_)) := Has.at H37 hin37 (own_gm us_ (by omega))
        refine own_via (fun _ k => X36.baloadBytes hx (j := (Nat.toInt32 i_)) (v := (.int (own_g us_ i_))) (by rw [e36]; exact Ar37.1) (State.isArrayOf_alike hZ.alike Ar37.2.1) Ar37.2.2 hin37 hat37 (g := (mkF m 42 #[.val (.ref a), .val (.int (Nat.toInt32 (own_A us_ e_ q_))), .val (.int (Nat.toInt32 i_))] [(.int (Nat.toInt32 i_)), (.ref b_)])) rfl rfl (hb hby d10_42) _ k) ?_
        show own_Go p e below s _ _ _ (T36.setTop (mkF m 43 #[.val (.ref a), .val (.int (Nat.toInt32 (own_A us_ e_ q_))), .val (.int (Nat.toInt32 i_))] [(.int (own_g us_ i_))]))
        obtain ⟨_, _, ⟨T38, L38, k38, n38⟩, -, X38, ⟨Lc38, hQ38, l38, y38, z38⟩, st38⟩ := Jvm.LawKit.callS X36 hx (y := (⟨"com/example/enlace/enlace/graph/LineFields", "isBlank", "(B)Z"⟩ : MethodName)) hown (mvT hZ (hw _ (List.mem_of_getElem? (i := 62) rfl))) (mvT hZ (hw _ (List.mem_of_getElem? (i := 63) rfl))) (mvT hZ (hw _ (List.mem_of_getElem? (i := 18) rfl))) (mvT hZ (hw _ (List.mem_of_getElem? (i := 64) rfl))) (by decide) (backOf (W := 0) (rm13 l Z a0 hw [] (own_g us_ i_) h12 n0 Z12 ) hZ (hw _ (List.mem_of_getElem? (i := 64) rfl)) (hw _ (List.mem_of_getElem? (i := 18) rfl)) (by decide) (by decide)) (g := (mkF m 43 #[.val (.ref a), .val (.int (Nat.toInt32 (own_A us_ e_ q_))), .val (.int (Nat.toInt32 i_))] [(.int (own_g us_ i_))])) rfl (by rw [hml]; rfl) (argsL := [(.int (own_g us_ i_))]) (rest := []) (lenOf pd_0 rfl) rfl (by show 2 * 0 + _ ≤ _; exact Nat.le_of_eq rfl) (hb hby d10_43) (fun _ _ => ⟨rfl, e36, (by decide : 0 + 0 ≤ _), (by decide : 0 + 0 ≤ _)⟩)
        dsimp only [Pt.U, Pt.locs, Pt.cells, Pt.slots] at X38 l38 y38 z38 st38 hQ38
        subst l38 y38 z38
        obtain ⟨rfl, N38q, e38⟩ := hQ38
        have N38 := Fr.app N12 N38q
        refine own_via st38 ?_
        show own_Go p e below s _ _ _ (T38.setTop (mkF m 46 #[.val (.ref a), .val (.int (Nat.toInt32 (own_A us_ e_ q_))), .val (.int (Nat.toInt32 i_))] [(.int (own_bl (own_g us_ i_)))]))
        by_cases hc39 : (own_bl (own_g us_ i_)) = (0 : Int32)
        · refine own_via (fun _ k => XS.ifNo X38.here hx rfl (hb hby d10_46) rfl (Jvm.Free.XT.i0_ne_f hc39) k) ?_
          show own_Go p e below s _ _ _ (T38.setTop (mkF m 49 #[.val (.ref a), .val (.int (Nat.toInt32 (own_A us_ e_ q_))), .val (.int (Nat.toInt32 i_))] []))
          refine own_via (fun _ k => XS.iinc X38.here hx rfl (hb hby d10_49) rfl (l' := #[.val (.ref a), .val (.int (Nat.toInt32 (own_A us_ e_ q_))), .val (.int ((Nat.toInt32 i_) + (1 : Int32)))]) rfl k) ?_
          show own_Go p e below s _ _ _ (T38.setTop (mkF m 52 #[.val (.ref a), .val (.int (Nat.toInt32 (own_A us_ e_ q_))), .val (.int ((Nat.toInt32 i_) + (1 : Int32)))] []))
          rw [own_succ]
          show own_Go p e below s _ _ _ (T38.setTop (mkF m 52 #[.val (.ref a), .val (.int (Nat.toInt32 (own_A us_ e_ q_))), .val (.int (Nat.toInt32 (i_ + 1)))] []))
          refine own_via (fun _ k => XS.goto X38.here hx rfl (pc0 := 52) (pc' := 29) rfl (hb hby d10_52) (by decide) (by decide) k) ?_
          show own_Go p e below s _ _ _ (T38.setTop (mkF m 29 #[.val (.ref a), .val (.int (Nat.toInt32 (own_A us_ e_ q_))), .val (.int (Nat.toInt32 (i_ + 1)))] []))
          exact ih (i_ + 1) _ _ _ X38 e38 N38 Z12 K12 F13 F14 F15 F16 F17 F18 F19 (by omega) (by rw [← hr, own_nb, if_pos hc39])
        · refine own_via (fun _ k => XS.ifYes X38.here hx rfl (pc0 := 46) (pc' := 55) rfl (hb hby d10_46) rfl (Jvm.Free.XT.i0_ne_t hc39) (by decide) (by decide) k) ?_
          show own_Go p e below s _ _ _ (T38.setTop (mkF m 55 #[.val (.ref a), .val (.int (Nat.toInt32 (own_A us_ e_ q_))), .val (.int (Nat.toInt32 i_))] []))
          refine own_via (fun _ k => XS.aloadN X38.here hx rfl (hb hby d10_55) rfl rfl k) ?_
          show own_Go p e below s _ _ _ (T38.setTop (mkF m 56 #[.val (.ref a), .val (.int (Nat.toInt32 (own_A us_ e_ q_))), .val (.int (Nat.toInt32 i_))] [(.ref a)]))
          refine own_via (fun _ k => XS.iloadN X38.here hx rfl (hb hby d10_56) rfl k) ?_
          show own_Go p e below s _ _ _ (T38.setTop (mkF m 57 #[.val (.ref a), .val (.int (Nat.toInt32 (own_A us_ e_ q_))), .val (.int (Nat.toInt32 i_))] [(.int (Nat.toInt32 (own_A us_ e_ q_))), (.ref a)]))
          obtain ⟨T40, h40, X40, e40, W40, st40⟩ := putF X38 hx hZ hown (host := "") (Or.inl (hw _ (List.mem_of_getElem? (i := 40) rfl))) Via.refl e38 F17 F13 (Or.inl (hw _ (List.mem_of_getElem? (i := 41) rfl))) (hw _ (List.mem_of_getElem? (i := 17) rfl)) (ty := .int) (by decide) rfl rfl (g := (mkF m 57 #[.val (.ref a), .val (.int (Nat.toInt32 (own_A us_ e_ q_))), .val (.int (Nat.toInt32 i_))] [(.int (Nat.toInt32 (own_A us_ e_ q_))), (.ref a)])) rfl rfl (hb hby d10_57)
          have N40 := Fr.snoc X40 N38 g_a
          have Fw40 := F17.same W40
          have Z40 : n0 ≤ h40.size := Nat.le_trans Z12 (Keep.of_wr W40).1
          have K40 : Keep h0 h40 [a] := K12.wr W40 (Or.inl (List.mem_of_getElem? (i := 0) rfl))
          refine own_via st40 ?_
          show own_Go p e below s _ _ _ (T40.setTop (mkF m 60 #[.val (.ref a), .val (.int (Nat.toInt32 (own_A us_ e_ q_))), .val (.int (Nat.toInt32 i_))] []))
          refine own_via (fun _ k => XS.aloadN X40.here hx rfl (hb hby d10_60) rfl rfl k) ?_
          show own_Go p e below s _ _ _ (T40.setTop (mkF m 61 #[.val (.ref a), .val (.int (Nat.toInt32 (own_A us_ e_ q_))), .val (.int (Nat.toInt32 i_))] [(.ref a)]))
          refine own_via (fun _ k => XS.iloadN X40.here hx rfl (hb hby d10_61) rfl k) ?_
          show own_Go p e below s _ _ _ (T40.setTop (mkF m 62 #[.val (.ref a), .val (.int (Nat.toInt32 (own_A us_ e_ q_))), .val (.int (Nat.toInt32 i_))] [(.int (Nat.toInt32 i_)), (.ref a)]))
          have F41 := (F13.wr W40)
          have F42 := (F18.other W40 (Or.inr (slot_ne (Or.inl (hw _ (List.mem_of_getElem? (i := 43) rfl))) (Or.inl (hw _ (List.mem_of_getElem? (i := 41) rfl))) (by decide) (t := .int) (t' := .int) (by decide) (by decide))))
          obtain ⟨T43, h43, X43, e43, W43, st43⟩ := putF X40 hx hZ hown (host := "") (Or.inl (hw _ (List.mem_of_getElem? (i := 42) rfl))) Via.refl e40 F42 F41 (Or.inl (hw _ (List.mem_of_getElem? (i := 43) rfl))) (hw _ (List.mem_of_getElem? (i := 17) rfl)) (ty := .int) (by decide) rfl rfl (g := (mkF m 62 #[.val (.ref a), .val (.int (Nat.toInt32 (own_A us_ e_ q_))), .val (.int (Nat.toInt32 i_))] [(.int (Nat.toInt32 i_)), (.ref a)])) rfl rfl (hb hby d10_62)
          have N43 := Fr.snoc X43 N40 g_a
          have Fw43 := F42.same W43
          have Z43 : n0 ≤ h43.size := Nat.le_trans Z40 (Keep.of_wr W43).1
          have K43 : Keep h0 h43 [a] := K40.wr W43 (Or.inl (List.mem_of_getElem? (i := 0) rfl))
          refine own_via st43 ?_
          show own_Go p e below s _ _ _ (T43.setTop (mkF m 65 #[.val (.ref a), .val (.int (Nat.toInt32 (own_A us_ e_ q_))), .val (.int (Nat.toInt32 i_))] []))
          refine own_via (fun _ k => XS.aloadN X43.here hx rfl (hb hby d10_65) rfl rfl k) ?_
          show own_Go p e below s _ _ _ (T43.setTop (mkF m 66 #[.val (.ref a), .val (.int (Nat.toInt32 (own_A us_ e_ q_))), .val (.int (Nat.toInt32 i_))] [(.ref a)]))
          refine own_via (fun _ k => XS.iloadN X43.here hx rfl (hb hby d10_66) rfl k) ?_
          show own_Go p e below s _ _ _ (T43.setTop (mkF m 67 #[.val (.ref a), .val (.int (Nat.toInt32 (own_A us_ e_ q_))), .val (.int (Nat.toInt32 i_))] [(.int (Nat.toInt32 i_)), (.ref a)]))
          have F44 := (F41.wr W43)
          have F45 := ((F16.other W40 (Or.inr (slot_ne (Or.inl (hw _ (List.mem_of_getElem? (i := 39) rfl))) (Or.inl (hw _ (List.mem_of_getElem? (i := 41) rfl))) (by decide) (t := .int) (t' := .int) (by decide) (by decide)))).other W43 (Or.inr (slot_ne (Or.inl (hw _ (List.mem_of_getElem? (i := 39) rfl))) (Or.inl (hw _ (List.mem_of_getElem? (i := 43) rfl))) (by decide) (t := .int) (t' := .int) (by decide) (by decide))))
          obtain ⟨T46, h46, X46, e46, W46, st46⟩ := putF X43 hx hZ hown (host := "") (Or.inl (hw _ (List.mem_of_getElem? (i := 38) rfl))) Via.refl e43 F45 F44 (Or.inl (hw _ (List.mem_of_getElem? (i := 39) rfl))) (hw _ (List.mem_of_getElem? (i := 17) rfl)) (ty := .int) (by decide) rfl rfl (g := (mkF m 67 #[.val (.ref a), .val (.int (Nat.toInt32 (own_A us_ e_ q_))), .val (.int (Nat.toInt32 i_))] [(.int (Nat.toInt32 i_)), (.ref a)])) rfl rfl (hb hby d10_67)
          have N46 := Fr.snoc X46 N43 g_a
          have Fw46 := F45.same W46
          have Z46 : n0 ≤ h46.size := Nat.le_trans Z43 (Keep.of_wr W46).1
          have K46 : Keep h0 h46 [a] := K43.wr W46 (Or.inl (List.mem_of_getElem? (i := 0) rfl))
          refine own_via st46 ?_
          show own_Go p e below s _ _ _ (T46.setTop (mkF m 70 #[.val (.ref a), .val (.int (Nat.toInt32 (own_A us_ e_ q_))), .val (.int (Nat.toInt32 i_))] []))
          refine own_via (fun _ k => XS.iconst X46.here hx rfl (hb hby d10_70) k) ?_
          show own_Go p e below s _ _ _ (T46.setTop (mkF m 71 #[.val (.ref a), .val (.int (Nat.toInt32 (own_A us_ e_ q_))), .val (.int (Nat.toInt32 i_))] [(.int (1 : Int32))]))
          have F47 := (F44.wr W46)
          have F48 := (((F14.other W40 (Or.inr (slot_ne (Or.inl (hw _ (List.mem_of_getElem? (i := 31) rfl))) (Or.inl (hw _ (List.mem_of_getElem? (i := 41) rfl))) (by decide) (t := (.array .byte)) (t' := .int) (by decide) (by decide)))).other W43 (Or.inr (slot_ne (Or.inl (hw _ (List.mem_of_getElem? (i := 31) rfl))) (Or.inl (hw _ (List.mem_of_getElem? (i := 43) rfl))) (by decide) (t := (.array .byte)) (t' := .int) (by decide) (by decide)))).other W46 (Or.inr (slot_ne (Or.inl (hw _ (List.mem_of_getElem? (i := 31) rfl))) (Or.inl (hw _ (List.mem_of_getElem? (i := 39) rfl))) (by decide) (t := (.array .byte)) (t' := .int) (by decide) (by decide))))
          have F49 := (((F15.other W40 (Or.inr (slot_ne (Or.inl (hw _ (List.mem_of_getElem? (i := 33) rfl))) (Or.inl (hw _ (List.mem_of_getElem? (i := 41) rfl))) (by decide) (t := .int) (t' := .int) (by decide) (by decide)))).other W43 (Or.inr (slot_ne (Or.inl (hw _ (List.mem_of_getElem? (i := 33) rfl))) (Or.inl (hw _ (List.mem_of_getElem? (i := 43) rfl))) (by decide) (t := .int) (t' := .int) (by decide) (by decide)))).other W46 (Or.inr (slot_ne (Or.inl (hw _ (List.mem_of_getElem? (i := 33) rfl))) (Or.inl (hw _ (List.mem_of_getElem? (i := 39) rfl))) (by decide) (t := .int) (t' := .int) (by decide) (by decide))))
          have F50 := ((Fw40.other W43 (Or.inr (slot_ne (Or.inl (hw _ (List.mem_of_getElem? (i := 41) rfl))) (Or.inl (hw _ (List.mem_of_getElem? (i := 43) rfl))) (by decide) (t := .int) (t' := .int) (by decide) (by decide)))).other W46 (Or.inr (slot_ne (Or.inl (hw _ (List.mem_of_getElem? (i := 41) rfl))) (Or.inl (hw _ (List.mem_of_getElem? (i := 39) rfl))) (by decide) (t := .int) (t' := .int) (by decide) (by decide))))
          have F51 := (Fw43.other W46 (Or.inr (slot_ne (Or.inl (hw _ (List.mem_of_getElem? (i := 43) rfl))) (Or.inl (hw _ (List.mem_of_getElem? (i := 39) rfl))) (by decide) (t := .int) (t' := .int) (by decide) (by decide))))
          exact own_goN X46 hx (t := .boolean) Bd.returns (by simp) (hb hby d10_71) Bd.notSynchronized (by decide) (by decide) (by rw [e46]; exact ⟨(by rw [own_nr, if_neg (fun q => hc4 ((own_eqn (by omega) (by omega)).mpr q))] <;> rfl), N46, K46, F47, F48, F49, (by rw [own_nq, if_neg (fun q => hc4 ((own_eqn (by omega) (by omega)).mpr q)), ← hr, own_nb, if_neg hc39]; exact Fw46), (by rw [own_nfs, if_neg (fun q => hc4 ((own_eqn (by omega) (by omega)).mpr q))]; exact F50), (by rw [own_nft, if_neg (fun q => hc4 ((own_eqn (by omega) (by omega)).mpr q)), ← hr, own_nb, if_neg hc39]; exact F51)⟩)
    exact loop (e_ - (own_A us_ e_ q_)) (own_A us_ e_ q_) _ _ _ X3 e3 N2 Z0 K0 E_a F_bytes_a F_end_a F_position_a F_fieldStart_a F_fieldEnd_a V_b_ (by omega) (rfl)
theorem d1_0 : decode method_4_code 0 = .ok (.iload_n 0, 1) := by decide +kernel
theorem d1_1 : decode method_4_code 1 = .ok (.iconst 3, 1) := by decide +kernel
theorem d1_2 : decode method_4_code 2 = .ok (.iload_n 3, 1) := by decide +kernel
theorem d1_3 : decode method_4_code 3 = .ok (.imul, 1) := by decide +kernel
theorem d1_4 : decode method_4_code 4 = .ok (.iushr, 1) := by decide +kernel
theorem d1_5 : decode method_4_code 5 = .ok (.bipush 7, 2) := by decide +kernel
theorem d1_7 : decode method_4_code 7 = .ok (.iand, 1) := by decide +kernel
theorem d1_8 : decode method_4_code 8 = .ok (.istore 4, 2) := by decide +kernel
theorem d1_10 : decode method_4_code 10 = .ok (.iload 4, 2) := by decide +kernel
theorem d1_12 : decode method_4_code 12 = .ok (.ifCond .ne 6, 3) := by decide +kernel
theorem d1_15 : decode method_4_code 15 = .ok (.bipush 32, 2) := by decide +kernel
theorem d1_17 : decode method_4_code 17 = .ok (.ireturn, 1) := by decide +kernel
theorem d1_18 : decode method_4_code 18 = .ok (.iload 4, 2) := by decide +kernel
theorem d1_20 : decode method_4_code 20 = .ok (.iconst 1, 1) := by decide +kernel
theorem d1_21 : decode method_4_code 21 = .ok (.if_icmp .ne 6, 3) := by decide +kernel
theorem d1_24 : decode method_4_code 24 = .ok (.bipush 9, 2) := by decide +kernel
theorem d1_26 : decode method_4_code 26 = .ok (.ireturn, 1) := by decide +kernel
theorem d1_27 : decode method_4_code 27 = .ok (.iload 4, 2) := by decide +kernel
theorem d1_29 : decode method_4_code 29 = .ok (.iconst 2, 1) := by decide +kernel
theorem d1_30 : decode method_4_code 30 = .ok (.if_icmp .ne 6, 3) := by decide +kernel
theorem d1_33 : decode method_4_code 33 = .ok (.bipush 35, 2) := by decide +kernel
theorem d1_35 : decode method_4_code 35 = .ok (.ireturn, 1) := by decide +kernel
theorem d1_36 : decode method_4_code 36 = .ok (.iload 4, 2) := by decide +kernel
theorem d1_38 : decode method_4_code 38 = .ok (.iconst 3, 1) := by decide +kernel
theorem d1_39 : decode method_4_code 39 = .ok (.if_icmp .ne 6, 3) := by decide +kernel
theorem d1_42 : decode method_4_code 42 = .ok (.bipush 13, 2) := by decide +kernel
theorem d1_44 : decode method_4_code 44 = .ok (.ireturn, 1) := by decide +kernel
theorem d1_45 : decode method_4_code 45 = .ok (.lload_n 1, 1) := by decide +kernel
theorem d1_46 : decode method_4_code 46 = .ok (.bipush 8, 2) := by decide +kernel
theorem d1_48 : decode method_4_code 48 = .ok (.iload_n 3, 1) := by decide +kernel
theorem d1_49 : decode method_4_code 49 = .ok (.imul, 1) := by decide +kernel
theorem d1_50 : decode method_4_code 50 = .ok (.lushr, 1) := by decide +kernel
theorem d1_51 : decode method_4_code 51 = .ok (.l2i, 1) := by decide +kernel
theorem d1_52 : decode method_4_code 52 = .ok (.i2b, 1) := by decide +kernel
theorem d1_53 : decode method_4_code 53 = .ok (.ireturn, 1) := by decide +kernel
def own_pk (p0 : Int32) (p1 : Int64) (p2 : Int32) : Int32 := (if ((o_iushr p0 ((3 : Int32) * p2)) &&& (7 : Int32)) = (0 : Int32) then (32 : Int32) else (if ((o_iushr p0 ((3 : Int32) * p2)) &&& (7 : Int32)) = (1 : Int32) then (9 : Int32) else (if ((o_iushr p0 ((3 : Int32) * p2)) &&& (7 : Int32)) = (2 : Int32) then (35 : Int32) else (if ((o_iushr p0 ((3 : Int32) * p2)) &&& (7 : Int32)) = (3 : Int32) then (13 : Int32) else (nar .byte (o_i2b (o_l2i (o_lushr p1 ((8 : Int32) * p2)))))))))
theorem pn_1 : plainName "com/example/enlace/enlace/graph/LineFieldsAdvancePinLaw" = true := by first | (simp [plainName, overriddenIn]; done) | decide +kernel
theorem ef_1 (m : MethodId) (x0 : Int32) (x1 : Int64) (x2 : Int32) : entryFrame m #[(.int x0), (.long x1), (.int x2)] 5 = mkF m 0 #[.val (.int x0), .val (.long x1), .second, .val (.int x2), .unset] [] := by first | (simp [entryFrame, mkF, argsToLocals, Value.category]; done) | rfl
def Q1 (Z : State) (p0 : Int32) (p1 : Int64) (p2 : Int32) (h0 : Heap) (n0 : Nat) (v : Option Value) (h : Heap) (L : List Loc) : Prop := v = some (.int (own_pk p0 p1 p2)) ∧ Fr n0 L ∧ h = h0
set_option maxRecDepth 65536 in
set_option maxHeartbeats 40000000 in
theorem rm1 (l : Launch) (Z : State) (a0 : Array Value) (hw : ∀ d ∈ tables_1, d.before a0 Z = true) (ws : List Jvm.Cond) (p0 : Int32) (p1 : Int64) (p2 : Int32) (h0 : Heap) (n0 : Nat) (Z0 : n0 ≤ h0.size) :
    MetFree l (⟨"com/example/enlace/enlace/graph/LineFieldsAdvancePinLaw", "pick", "(IJI)B"⟩ : MethodName) (head1 (Jvm.Cond.code (⟨"com/example/enlace/enlace/graph/LineFieldsAdvancePinLaw", "pick", "(IJI)B"⟩ : MethodName) method_4_code 5 (some .byte) :: ws) ({ frames := 0, cells := 0, slots := 0, locals := 0 } : Room)) (fun q_ U => q_ = #[(.int p0), (.long p1), (.int p2)] ∧ Z.Warmed39 U.vm ∧ U.heap = h0) (fun _ _ _ _ _ => True) (fun _ U o U' => ∃ v L, o = .returned v ∧ Q1 Z p0 p1 p2 h0 n0 v U'.heap L ∧ FrameEnd U o U' L ({ frames := 0, cells := 0, slots := 0, locals := 0 } : Room).cells ({ frames := 0, cells := 0, slots := 0, locals := 0 } : Room).slots) := by
  refine MetFree.of_bodySF (plainFor_of_name pn_1) hisR ?_
  intro p e s m args below meth c s₁ Bd hml0 hP hK
  obtain ⟨rfl, hZ, hh⟩ := hP
  have hx := Bd.exec
  have hby := Bd.bytes
  have hml : c.maxLocals = 5 := hml0
  have hown : s.vm.findClass "com/example/enlace/enlace/graph/LineFieldsAdvancePinLaw" = some m.cls := findClass_of_methodNamed Bd.named
  have hnm := (name_of_methodNamed Bd.named Bd.method).1
  have X0 : Stand p l e ({ frames := 0, cells := 0, slots := 0, locals := 0 } : Room) s m #[(.int p0), (.long p1), (.int p2)] below meth c s₁ [] 0 0 := Stand.of_body Bd
  have e0 : s₁.heap = h0 := by rw [← hh, Bd.state]; rfl
  have N0 := Fr.nil n0
  show own_Go p e below s (Q1 Z p0 p1 p2 h0 n0) ({ frames := 0, cells := 0, slots := 0, locals := 0 } : Room).cells ({ frames := 0, cells := 0, slots := 0, locals := 0 } : Room).slots (s₁.setTop (entryFrame m #[(.int p0), (.long p1), (.int p2)] 5))
  refine own_via (fun t k => castTop (ef_1 m p0 p1 p2) k) ?_
  show own_Go p e below s _ _ _ (s₁.setTop (mkF m 0 #[.val (.int p0), .val (.long p1), .second, .val (.int p2), .unset] []))
  refine own_via (fun _ k => XS.iloadN X0.here hx rfl (hb hby d1_0) rfl k) ?_
  show own_Go p e below s _ _ _ (s₁.setTop (mkF m 1 #[.val (.int p0), .val (.long p1), .second, .val (.int p2), .unset] [(.int p0)]))
  refine own_via (fun _ k => XS.iconst X0.here hx rfl (hb hby d1_1) k) ?_
  show own_Go p e below s _ _ _ (s₁.setTop (mkF m 2 #[.val (.int p0), .val (.long p1), .second, .val (.int p2), .unset] [(.int (3 : Int32)), (.int p0)]))
  refine own_via (fun _ k => XS.iloadN X0.here hx rfl (hb hby d1_2) rfl k) ?_
  show own_Go p e below s _ _ _ (s₁.setTop (mkF m 3 #[.val (.int p0), .val (.long p1), .second, .val (.int p2), .unset] [(.int p2), (.int (3 : Int32)), (.int p0)]))
  refine own_via (fun _ k => XS.imul X0.here hx rfl (hb hby d1_3) rfl k) ?_
  show own_Go p e below s _ _ _ (s₁.setTop (mkF m 4 #[.val (.int p0), .val (.long p1), .second, .val (.int p2), .unset] [(.int ((3 : Int32) * p2)), (.int p0)]))
  refine own_via (fun _ k => XS.iushr X0.here hx rfl (hb hby d1_4) rfl k) ?_
  show own_Go p e below s _ _ _ (s₁.setTop (mkF m 5 #[.val (.int p0), .val (.long p1), .second, .val (.int p2), .unset] [(.int (o_iushr p0 ((3 : Int32) * p2)))]))
  refine own_via (fun _ k => XS.bipush X0.here hx rfl (hb hby d1_5) k) ?_
  show own_Go p e below s _ _ _ (s₁.setTop (mkF m 7 #[.val (.int p0), .val (.long p1), .second, .val (.int p2), .unset] [(.int (7 : Int32)), (.int (o_iushr p0 ((3 : Int32) * p2)))]))
  refine own_via (fun _ k => XS.iand X0.here hx rfl (hb hby d1_7) rfl k) ?_
  show own_Go p e below s _ _ _ (s₁.setTop (mkF m 8 #[.val (.int p0), .val (.long p1), .second, .val (.int p2), .unset] [(.int ((o_iushr p0 ((3 : Int32) * p2)) &&& (7 : Int32)))]))
  refine own_via (fun _ k => XS.istore X0.here hx rfl (hb hby d1_8) rfl (l' := #[.val (.int p0), .val (.long p1), .second, .val (.int p2), .val (.int ((o_iushr p0 ((3 : Int32) * p2)) &&& (7 : Int32)))]) rfl k) ?_
  show own_Go p e below s _ _ _ (s₁.setTop (mkF m 10 #[.val (.int p0), .val (.long p1), .second, .val (.int p2), .val (.int ((o_iushr p0 ((3 : Int32) * p2)) &&& (7 : Int32)))] []))
  refine own_via (fun _ k => XS.iload X0.here hx rfl (hb hby d1_10) rfl k) ?_
  show own_Go p e below s _ _ _ (s₁.setTop (mkF m 12 #[.val (.int p0), .val (.long p1), .second, .val (.int p2), .val (.int ((o_iushr p0 ((3 : Int32) * p2)) &&& (7 : Int32)))] [(.int ((o_iushr p0 ((3 : Int32) * p2)) &&& (7 : Int32)))]))
  by_cases hc1 : ((o_iushr p0 ((3 : Int32) * p2)) &&& (7 : Int32)) = (0 : Int32)
  · refine own_via (fun _ k => XS.ifNo X0.here hx rfl (hb hby d1_12) rfl (Jvm.Free.XT.i0_ne_f hc1) k) ?_
    show own_Go p e below s _ _ _ (s₁.setTop (mkF m 15 #[.val (.int p0), .val (.long p1), .second, .val (.int p2), .val (.int ((o_iushr p0 ((3 : Int32) * p2)) &&& (7 : Int32)))] []))
    refine own_via (fun _ k => XS.bipush X0.here hx rfl (hb hby d1_15) k) ?_
    show own_Go p e below s _ _ _ (s₁.setTop (mkF m 17 #[.val (.int p0), .val (.long p1), .second, .val (.int p2), .val (.int ((o_iushr p0 ((3 : Int32) * p2)) &&& (7 : Int32)))] [(.int (32 : Int32))]))
    exact own_goN X0 hx (t := .byte) Bd.returns (by simp) (hb hby d1_17) Bd.notSynchronized (by decide) (by decide) (by rw [e0]; exact ⟨by rw [own_pk, if_pos hc1] <;> rfl, N0, rfl⟩)
  · refine own_via (fun _ k => XS.ifYes X0.here hx rfl (pc0 := 12) (pc' := 18) rfl (hb hby d1_12) rfl (Jvm.Free.XT.i0_ne_t hc1) (by decide) (by decide) k) ?_
    show own_Go p e below s _ _ _ (s₁.setTop (mkF m 18 #[.val (.int p0), .val (.long p1), .second, .val (.int p2), .val (.int ((o_iushr p0 ((3 : Int32) * p2)) &&& (7 : Int32)))] []))
    refine own_via (fun _ k => XS.iload X0.here hx rfl (hb hby d1_18) rfl k) ?_
    show own_Go p e below s _ _ _ (s₁.setTop (mkF m 20 #[.val (.int p0), .val (.long p1), .second, .val (.int p2), .val (.int ((o_iushr p0 ((3 : Int32) * p2)) &&& (7 : Int32)))] [(.int ((o_iushr p0 ((3 : Int32) * p2)) &&& (7 : Int32)))]))
    refine own_via (fun _ k => XS.iconst X0.here hx rfl (hb hby d1_20) k) ?_
    show own_Go p e below s _ _ _ (s₁.setTop (mkF m 21 #[.val (.int p0), .val (.long p1), .second, .val (.int p2), .val (.int ((o_iushr p0 ((3 : Int32) * p2)) &&& (7 : Int32)))] [(.int (1 : Int32)), (.int ((o_iushr p0 ((3 : Int32) * p2)) &&& (7 : Int32)))]))
    by_cases hc2 : ((o_iushr p0 ((3 : Int32) * p2)) &&& (7 : Int32)) = (1 : Int32)
    · refine own_via (fun _ k => XS.icmpNo X0.here hx rfl (hb hby d1_21) rfl (Jvm.Free.XT.ii_ne_f hc2) k) ?_
      show own_Go p e below s _ _ _ (s₁.setTop (mkF m 24 #[.val (.int p0), .val (.long p1), .second, .val (.int p2), .val (.int ((o_iushr p0 ((3 : Int32) * p2)) &&& (7 : Int32)))] []))
      refine own_via (fun _ k => XS.bipush X0.here hx rfl (hb hby d1_24) k) ?_
      show own_Go p e below s _ _ _ (s₁.setTop (mkF m 26 #[.val (.int p0), .val (.long p1), .second, .val (.int p2), .val (.int ((o_iushr p0 ((3 : Int32) * p2)) &&& (7 : Int32)))] [(.int (9 : Int32))]))
      exact own_goN X0 hx (t := .byte) Bd.returns (by simp) (hb hby d1_26) Bd.notSynchronized (by decide) (by decide) (by rw [e0]; exact ⟨by rw [own_pk, if_neg hc1, if_pos hc2] <;> rfl, N0, rfl⟩)
    · refine own_via (fun _ k => XS.icmpYes X0.here hx rfl (pc0 := 21) (pc' := 27) rfl (hb hby d1_21) rfl (Jvm.Free.XT.ii_ne_t hc2) (by decide) (by decide) k) ?_
      show own_Go p e below s _ _ _ (s₁.setTop (mkF m 27 #[.val (.int p0), .val (.long p1), .second, .val (.int p2), .val (.int ((o_iushr p0 ((3 : Int32) * p2)) &&& (7 : Int32)))] []))
      refine own_via (fun _ k => XS.iload X0.here hx rfl (hb hby d1_27) rfl k) ?_
      show own_Go p e below s _ _ _ (s₁.setTop (mkF m 29 #[.val (.int p0), .val (.long p1), .second, .val (.int p2), .val (.int ((o_iushr p0 ((3 : Int32) * p2)) &&& (7 : Int32)))] [(.int ((o_iushr p0 ((3 : Int32) * p2)) &&& (7 : Int32)))]))
      refine own_via (fun _ k => XS.iconst X0.here hx rfl (hb hby d1_29) k) ?_
      show own_Go p e below s _ _ _ (s₁.setTop (mkF m 30 #[.val (.int p0), .val (.long p1), .second, .val (.int p2), .val (.int ((o_iushr p0 ((3 : Int32) * p2)) &&& (7 : Int32)))] [(.int (2 : Int32)), (.int ((o_iushr p0 ((3 : Int32) * p2)) &&& (7 : Int32)))]))
      by_cases hc3 : ((o_iushr p0 ((3 : Int32) * p2)) &&& (7 : Int32)) = (2 : Int32)
      · refine own_via (fun _ k => XS.icmpNo X0.here hx rfl (hb hby d1_30) rfl (Jvm.Free.XT.ii_ne_f hc3) k) ?_
        show own_Go p e below s _ _ _ (s₁.setTop (mkF m 33 #[.val (.int p0), .val (.long p1), .second, .val (.int p2), .val (.int ((o_iushr p0 ((3 : Int32) * p2)) &&& (7 : Int32)))] []))
        refine own_via (fun _ k => XS.bipush X0.here hx rfl (hb hby d1_33) k) ?_
        show own_Go p e below s _ _ _ (s₁.setTop (mkF m 35 #[.val (.int p0), .val (.long p1), .second, .val (.int p2), .val (.int ((o_iushr p0 ((3 : Int32) * p2)) &&& (7 : Int32)))] [(.int (35 : Int32))]))
        exact own_goN X0 hx (t := .byte) Bd.returns (by simp) (hb hby d1_35) Bd.notSynchronized (by decide) (by decide) (by rw [e0]; exact ⟨by rw [own_pk, if_neg hc1, if_neg hc2, if_pos hc3] <;> rfl, N0, rfl⟩)
      · refine own_via (fun _ k => XS.icmpYes X0.here hx rfl (pc0 := 30) (pc' := 36) rfl (hb hby d1_30) rfl (Jvm.Free.XT.ii_ne_t hc3) (by decide) (by decide) k) ?_
        show own_Go p e below s _ _ _ (s₁.setTop (mkF m 36 #[.val (.int p0), .val (.long p1), .second, .val (.int p2), .val (.int ((o_iushr p0 ((3 : Int32) * p2)) &&& (7 : Int32)))] []))
        refine own_via (fun _ k => XS.iload X0.here hx rfl (hb hby d1_36) rfl k) ?_
        show own_Go p e below s _ _ _ (s₁.setTop (mkF m 38 #[.val (.int p0), .val (.long p1), .second, .val (.int p2), .val (.int ((o_iushr p0 ((3 : Int32) * p2)) &&& (7 : Int32)))] [(.int ((o_iushr p0 ((3 : Int32) * p2)) &&& (7 : Int32)))]))
        refine own_via (fun _ k => XS.iconst X0.here hx rfl (hb hby d1_38) k) ?_
        show own_Go p e below s _ _ _ (s₁.setTop (mkF m 39 #[.val (.int p0), .val (.long p1), .second, .val (.int p2), .val (.int ((o_iushr p0 ((3 : Int32) * p2)) &&& (7 : Int32)))] [(.int (3 : Int32)), (.int ((o_iushr p0 ((3 : Int32) * p2)) &&& (7 : Int32)))]))
        by_cases hc4 : ((o_iushr p0 ((3 : Int32) * p2)) &&& (7 : Int32)) = (3 : Int32)
        · refine own_via (fun _ k => XS.icmpNo X0.here hx rfl (hb hby d1_39) rfl (Jvm.Free.XT.ii_ne_f hc4) k) ?_
          show own_Go p e below s _ _ _ (s₁.setTop (mkF m 42 #[.val (.int p0), .val (.long p1), .second, .val (.int p2), .val (.int ((o_iushr p0 ((3 : Int32) * p2)) &&& (7 : Int32)))] []))
          refine own_via (fun _ k => XS.bipush X0.here hx rfl (hb hby d1_42) k) ?_
          show own_Go p e below s _ _ _ (s₁.setTop (mkF m 44 #[.val (.int p0), .val (.long p1), .second, .val (.int p2), .val (.int ((o_iushr p0 ((3 : Int32) * p2)) &&& (7 : Int32)))] [(.int (13 : Int32))]))
          exact own_goN X0 hx (t := .byte) Bd.returns (by simp) (hb hby d1_44) Bd.notSynchronized (by decide) (by decide) (by rw [e0]; exact ⟨by rw [own_pk, if_neg hc1, if_neg hc2, if_neg hc3, if_pos hc4] <;> rfl, N0, rfl⟩)
        · refine own_via (fun _ k => XS.icmpYes X0.here hx rfl (pc0 := 39) (pc' := 45) rfl (hb hby d1_39) rfl (Jvm.Free.XT.ii_ne_t hc4) (by decide) (by decide) k) ?_
          show own_Go p e below s _ _ _ (s₁.setTop (mkF m 45 #[.val (.int p0), .val (.long p1), .second, .val (.int p2), .val (.int ((o_iushr p0 ((3 : Int32) * p2)) &&& (7 : Int32)))] []))
          refine own_via (fun _ k => XS.lloadN X0.here hx rfl (hb hby d1_45) rfl k) ?_
          show own_Go p e below s _ _ _ (s₁.setTop (mkF m 46 #[.val (.int p0), .val (.long p1), .second, .val (.int p2), .val (.int ((o_iushr p0 ((3 : Int32) * p2)) &&& (7 : Int32)))] [(.long p1)]))
          refine own_via (fun _ k => XS.bipush X0.here hx rfl (hb hby d1_46) k) ?_
          show own_Go p e below s _ _ _ (s₁.setTop (mkF m 48 #[.val (.int p0), .val (.long p1), .second, .val (.int p2), .val (.int ((o_iushr p0 ((3 : Int32) * p2)) &&& (7 : Int32)))] [(.int (8 : Int32)), (.long p1)]))
          refine own_via (fun _ k => XS.iloadN X0.here hx rfl (hb hby d1_48) rfl k) ?_
          show own_Go p e below s _ _ _ (s₁.setTop (mkF m 49 #[.val (.int p0), .val (.long p1), .second, .val (.int p2), .val (.int ((o_iushr p0 ((3 : Int32) * p2)) &&& (7 : Int32)))] [(.int p2), (.int (8 : Int32)), (.long p1)]))
          refine own_via (fun _ k => XS.imul X0.here hx rfl (hb hby d1_49) rfl k) ?_
          show own_Go p e below s _ _ _ (s₁.setTop (mkF m 50 #[.val (.int p0), .val (.long p1), .second, .val (.int p2), .val (.int ((o_iushr p0 ((3 : Int32) * p2)) &&& (7 : Int32)))] [(.int ((8 : Int32) * p2)), (.long p1)]))
          refine own_via (fun _ k => XS.lushr X0.here hx rfl (hb hby d1_50) rfl k) ?_
          show own_Go p e below s _ _ _ (s₁.setTop (mkF m 51 #[.val (.int p0), .val (.long p1), .second, .val (.int p2), .val (.int ((o_iushr p0 ((3 : Int32) * p2)) &&& (7 : Int32)))] [(.long (o_lushr p1 ((8 : Int32) * p2)))]))
          refine own_via (fun _ k => XS.l2i X0.here hx rfl (hb hby d1_51) rfl k) ?_
          show own_Go p e below s _ _ _ (s₁.setTop (mkF m 52 #[.val (.int p0), .val (.long p1), .second, .val (.int p2), .val (.int ((o_iushr p0 ((3 : Int32) * p2)) &&& (7 : Int32)))] [(.int (o_l2i (o_lushr p1 ((8 : Int32) * p2))))]))
          refine own_via (fun _ k => XS.i2b X0.here hx rfl (hb hby d1_52) rfl k) ?_
          show own_Go p e below s _ _ _ (s₁.setTop (mkF m 53 #[.val (.int p0), .val (.long p1), .second, .val (.int p2), .val (.int ((o_iushr p0 ((3 : Int32) * p2)) &&& (7 : Int32)))] [(.int (o_i2b (o_l2i (o_lushr p1 ((8 : Int32) * p2)))))]))
          exact own_goN X0 hx (t := .byte) Bd.returns (by simp) (hb hby d1_53) Bd.notSynchronized (by decide) (by decide) (by rw [e0]; exact ⟨by rw [own_pk, if_neg hc1, if_neg hc2, if_neg hc3, if_neg hc4] <;> rfl, N0, rfl⟩)
theorem d2_0 : decode method_5_code 0 = .ok (.iload_n 0, 1) := by decide +kernel
theorem d2_1 : decode method_5_code 1 = .ok (.bipush 32, 2) := by decide +kernel
theorem d2_3 : decode method_5_code 3 = .ok (.if_icmp .eq 9, 3) := by decide +kernel
theorem d2_12 : decode method_5_code 12 = .ok (.iconst 1, 1) := by decide +kernel
theorem d2_13 : decode method_5_code 13 = .ok (.goto 4, 3) := by decide +kernel
theorem d2_17 : decode method_5_code 17 = .ok (.ireturn, 1) := by decide +kernel
theorem d2_6 : decode method_5_code 6 = .ok (.iload_n 0, 1) := by decide +kernel
theorem d2_7 : decode method_5_code 7 = .ok (.bipush 9, 2) := by decide +kernel
theorem d2_9 : decode method_5_code 9 = .ok (.if_icmp .ne 7, 3) := by decide +kernel
theorem d2_16 : decode method_5_code 16 = .ok (.iconst 0, 1) := by decide +kernel
def own_lb (p0 : Int32) : Int32 := (if p0 = (32 : Int32) then (1 : Int32) else (if p0 = (9 : Int32) then (1 : Int32) else (0 : Int32)))
theorem ef_2 (m : MethodId) (x0 : Int32) : entryFrame m #[(.int x0)] 1 = mkF m 0 #[.val (.int x0)] [] := by first | (simp [entryFrame, mkF, argsToLocals, Value.category]; done) | rfl
def Q2 (Z : State) (p0 : Int32) (h0 : Heap) (n0 : Nat) (v : Option Value) (h : Heap) (L : List Loc) : Prop := v = some (.int (own_lb p0)) ∧ Fr n0 L ∧ h = h0
set_option maxRecDepth 65536 in
set_option maxHeartbeats 40000000 in
theorem rm2 (l : Launch) (Z : State) (a0 : Array Value) (hw : ∀ d ∈ tables_1, d.before a0 Z = true) (ws : List Jvm.Cond) (p0 : Int32) (h0 : Heap) (n0 : Nat) (Z0 : n0 ≤ h0.size) :
    MetFree l (⟨"com/example/enlace/enlace/graph/LineFieldsAdvancePinLaw", "isBlank", "(B)Z"⟩ : MethodName) (head1 (Jvm.Cond.code (⟨"com/example/enlace/enlace/graph/LineFieldsAdvancePinLaw", "isBlank", "(B)Z"⟩ : MethodName) method_5_code 1 (some .boolean) :: ws) ({ frames := 0, cells := 0, slots := 0, locals := 0 } : Room)) (fun q_ U => q_ = #[(.int p0)] ∧ Z.Warmed39 U.vm ∧ U.heap = h0) (fun _ _ _ _ _ => True) (fun _ U o U' => ∃ v L, o = .returned v ∧ Q2 Z p0 h0 n0 v U'.heap L ∧ FrameEnd U o U' L ({ frames := 0, cells := 0, slots := 0, locals := 0 } : Room).cells ({ frames := 0, cells := 0, slots := 0, locals := 0 } : Room).slots) := by
  refine MetFree.of_bodySF (plainFor_of_name pn_1) hisR ?_
  intro p e s m args below meth c s₁ Bd hml0 hP hK
  obtain ⟨rfl, hZ, hh⟩ := hP
  have hx := Bd.exec
  have hby := Bd.bytes
  have hml : c.maxLocals = 1 := hml0
  have hown : s.vm.findClass "com/example/enlace/enlace/graph/LineFieldsAdvancePinLaw" = some m.cls := findClass_of_methodNamed Bd.named
  have hnm := (name_of_methodNamed Bd.named Bd.method).1
  have X0 : Stand p l e ({ frames := 0, cells := 0, slots := 0, locals := 0 } : Room) s m #[(.int p0)] below meth c s₁ [] 0 0 := Stand.of_body Bd
  have e0 : s₁.heap = h0 := by rw [← hh, Bd.state]; rfl
  have N0 := Fr.nil n0
  show own_Go p e below s (Q2 Z p0 h0 n0) ({ frames := 0, cells := 0, slots := 0, locals := 0 } : Room).cells ({ frames := 0, cells := 0, slots := 0, locals := 0 } : Room).slots (s₁.setTop (entryFrame m #[(.int p0)] 1))
  refine own_via (fun t k => castTop (ef_2 m p0) k) ?_
  show own_Go p e below s _ _ _ (s₁.setTop (mkF m 0 #[.val (.int p0)] []))
  refine own_via (fun _ k => XS.iloadN X0.here hx rfl (hb hby d2_0) rfl k) ?_
  show own_Go p e below s _ _ _ (s₁.setTop (mkF m 1 #[.val (.int p0)] [(.int p0)]))
  refine own_via (fun _ k => XS.bipush X0.here hx rfl (hb hby d2_1) k) ?_
  show own_Go p e below s _ _ _ (s₁.setTop (mkF m 3 #[.val (.int p0)] [(.int (32 : Int32)), (.int p0)]))
  by_cases hc1 : p0 = (32 : Int32)
  · refine own_via (fun _ k => XS.icmpYes X0.here hx rfl (pc0 := 3) (pc' := 12) rfl (hb hby d2_3) rfl (Jvm.Free.XT.ii_eq_t hc1) (by decide) (by decide) k) ?_
    show own_Go p e below s _ _ _ (s₁.setTop (mkF m 12 #[.val (.int p0)] []))
    refine own_via (fun _ k => XS.iconst X0.here hx rfl (hb hby d2_12) k) ?_
    show own_Go p e below s _ _ _ (s₁.setTop (mkF m 13 #[.val (.int p0)] [(.int (1 : Int32))]))
    refine own_via (fun _ k => XS.goto X0.here hx rfl (pc0 := 13) (pc' := 17) rfl (hb hby d2_13) (by decide) (by decide) k) ?_
    show own_Go p e below s _ _ _ (s₁.setTop (mkF m 17 #[.val (.int p0)] [(.int (1 : Int32))]))
    exact own_goN X0 hx (t := .boolean) Bd.returns (by simp) (hb hby d2_17) Bd.notSynchronized (by decide) (by decide) (by rw [e0]; exact ⟨by rw [own_lb, if_pos hc1] <;> rfl, N0, rfl⟩)
  · refine own_via (fun _ k => XS.icmpNo X0.here hx rfl (hb hby d2_3) rfl (Jvm.Free.XT.ii_eq_f hc1) k) ?_
    show own_Go p e below s _ _ _ (s₁.setTop (mkF m 6 #[.val (.int p0)] []))
    refine own_via (fun _ k => XS.iloadN X0.here hx rfl (hb hby d2_6) rfl k) ?_
    show own_Go p e below s _ _ _ (s₁.setTop (mkF m 7 #[.val (.int p0)] [(.int p0)]))
    refine own_via (fun _ k => XS.bipush X0.here hx rfl (hb hby d2_7) k) ?_
    show own_Go p e below s _ _ _ (s₁.setTop (mkF m 9 #[.val (.int p0)] [(.int (9 : Int32)), (.int p0)]))
    by_cases hc2 : p0 = (9 : Int32)
    · refine own_via (fun _ k => XS.icmpNo X0.here hx rfl (hb hby d2_9) rfl (Jvm.Free.XT.ii_ne_f hc2) k) ?_
      show own_Go p e below s _ _ _ (s₁.setTop (mkF m 12 #[.val (.int p0)] []))
      refine own_via (fun _ k => XS.iconst X0.here hx rfl (hb hby d2_12) k) ?_
      show own_Go p e below s _ _ _ (s₁.setTop (mkF m 13 #[.val (.int p0)] [(.int (1 : Int32))]))
      refine own_via (fun _ k => XS.goto X0.here hx rfl (pc0 := 13) (pc' := 17) rfl (hb hby d2_13) (by decide) (by decide) k) ?_
      show own_Go p e below s _ _ _ (s₁.setTop (mkF m 17 #[.val (.int p0)] [(.int (1 : Int32))]))
      exact own_goN X0 hx (t := .boolean) Bd.returns (by simp) (hb hby d2_17) Bd.notSynchronized (by decide) (by decide) (by rw [e0]; exact ⟨by rw [own_lb, if_neg hc1, if_pos hc2] <;> rfl, N0, rfl⟩)
    · refine own_via (fun _ k => XS.icmpYes X0.here hx rfl (pc0 := 9) (pc' := 16) rfl (hb hby d2_9) rfl (Jvm.Free.XT.ii_ne_t hc2) (by decide) (by decide) k) ?_
      show own_Go p e below s _ _ _ (s₁.setTop (mkF m 16 #[.val (.int p0)] []))
      refine own_via (fun _ k => XS.iconst X0.here hx rfl (hb hby d2_16) k) ?_
      show own_Go p e below s _ _ _ (s₁.setTop (mkF m 17 #[.val (.int p0)] [(.int (0 : Int32))]))
      exact own_goN X0 hx (t := .boolean) Bd.returns (by simp) (hb hby d2_17) Bd.notSynchronized (by decide) (by decide) (by rw [e0]; exact ⟨by rw [own_lb, if_neg hc1, if_neg hc2] <;> rfl, N0, rfl⟩)
theorem d3_0 : decode method_6_code 0 = .ok (.iconst 1, 1) := by decide +kernel
theorem d3_1 : decode method_6_code 1 = .ok (.iload_n 1, 1) := by decide +kernel
theorem d3_2 : decode method_6_code 2 = .ok (.ishl, 1) := by decide +kernel
theorem d3_3 : decode method_6_code 3 = .ok (.iconst 1, 1) := by decide +kernel
theorem d3_4 : decode method_6_code 4 = .ok (.isub, 1) := by decide +kernel
theorem d3_5 : decode method_6_code 5 = .ok (.iconst 1, 1) := by decide +kernel
theorem d3_6 : decode method_6_code 6 = .ok (.iload_n 0, 1) := by decide +kernel
theorem d3_7 : decode method_6_code 7 = .ok (.ishl, 1) := by decide +kernel
theorem d3_8 : decode method_6_code 8 = .ok (.iconst 1, 1) := by decide +kernel
theorem d3_9 : decode method_6_code 9 = .ok (.isub, 1) := by decide +kernel
theorem d3_10 : decode method_6_code 10 = .ok (.iconst (-1), 1) := by decide +kernel
theorem d3_11 : decode method_6_code 11 = .ok (.ixor, 1) := by decide +kernel
theorem d3_12 : decode method_6_code 12 = .ok (.iand, 1) := by decide +kernel
theorem d3_13 : decode method_6_code 13 = .ok (.ireturn, 1) := by decide +kernel
def own_rng (p0 : Int32) (p1 : Int32) : Int32 := (((o_ishl (1 : Int32) p1) - (1 : Int32)) &&& (((o_ishl (1 : Int32) p0) - (1 : Int32)) ^^^ (-1 : Int32)))
theorem ef_3 (m : MethodId) (x0 : Int32) (x1 : Int32) : entryFrame m #[(.int x0), (.int x1)] 2 = mkF m 0 #[.val (.int x0), .val (.int x1)] [] := by first | (simp [entryFrame, mkF, argsToLocals, Value.category]; done) | rfl
def Q3 (Z : State) (p0 : Int32) (p1 : Int32) (h0 : Heap) (n0 : Nat) (v : Option Value) (h : Heap) (L : List Loc) : Prop := v = some (.int (own_rng p0 p1)) ∧ Fr n0 L ∧ h = h0
set_option maxRecDepth 65536 in
set_option maxHeartbeats 40000000 in
theorem rm3 (l : Launch) (Z : State) (a0 : Array Value) (hw : ∀ d ∈ tables_1, d.before a0 Z = true) (ws : List Jvm.Cond) (p0 : Int32) (p1 : Int32) (h0 : Heap) (n0 : Nat) (Z0 : n0 ≤ h0.size) :
    MetFree l (⟨"com/example/enlace/enlace/graph/LineFieldsAdvancePinLaw", "range", "(II)I"⟩ : MethodName) (head1 (Jvm.Cond.code (⟨"com/example/enlace/enlace/graph/LineFieldsAdvancePinLaw", "range", "(II)I"⟩ : MethodName) method_6_code 2 (some .int) :: ws) ({ frames := 0, cells := 0, slots := 0, locals := 0 } : Room)) (fun q_ U => q_ = #[(.int p0), (.int p1)] ∧ Z.Warmed39 U.vm ∧ U.heap = h0) (fun _ _ _ _ _ => True) (fun _ U o U' => ∃ v L, o = .returned v ∧ Q3 Z p0 p1 h0 n0 v U'.heap L ∧ FrameEnd U o U' L ({ frames := 0, cells := 0, slots := 0, locals := 0 } : Room).cells ({ frames := 0, cells := 0, slots := 0, locals := 0 } : Room).slots) := by
  refine MetFree.of_bodySF (plainFor_of_name pn_1) hisR ?_
  intro p e s m args below meth c s₁ Bd hml0 hP hK
  obtain ⟨rfl, hZ, hh⟩ := hP
  have hx := Bd.exec
  have hby := Bd.bytes
  have hml : c.maxLocals = 2 := hml0
  have hown : s.vm.findClass "com/example/enlace/enlace/graph/LineFieldsAdvancePinLaw" = some m.cls := findClass_of_methodNamed Bd.named
  have hnm := (name_of_methodNamed Bd.named Bd.method).1
  have X0 : Stand p l e ({ frames := 0, cells := 0, slots := 0, locals := 0 } : Room) s m #[(.int p0), (.int p1)] below meth c s₁ [] 0 0 := Stand.of_body Bd
  have e0 : s₁.heap = h0 := by rw [← hh, Bd.state]; rfl
  have N0 := Fr.nil n0
  show own_Go p e below s (Q3 Z p0 p1 h0 n0) ({ frames := 0, cells := 0, slots := 0, locals := 0 } : Room).cells ({ frames := 0, cells := 0, slots := 0, locals := 0 } : Room).slots (s₁.setTop (entryFrame m #[(.int p0), (.int p1)] 2))
  refine own_via (fun t k => castTop (ef_3 m p0 p1) k) ?_
  show own_Go p e below s _ _ _ (s₁.setTop (mkF m 0 #[.val (.int p0), .val (.int p1)] []))
  refine own_via (fun _ k => XS.iconst X0.here hx rfl (hb hby d3_0) k) ?_
  show own_Go p e below s _ _ _ (s₁.setTop (mkF m 1 #[.val (.int p0), .val (.int p1)] [(.int (1 : Int32))]))
  refine own_via (fun _ k => XS.iloadN X0.here hx rfl (hb hby d3_1) rfl k) ?_
  show own_Go p e below s _ _ _ (s₁.setTop (mkF m 2 #[.val (.int p0), .val (.int p1)] [(.int p1), (.int (1 : Int32))]))
  refine own_via (fun _ k => XS.ishl X0.here hx rfl (hb hby d3_2) rfl k) ?_
  show own_Go p e below s _ _ _ (s₁.setTop (mkF m 3 #[.val (.int p0), .val (.int p1)] [(.int (o_ishl (1 : Int32) p1))]))
  refine own_via (fun _ k => XS.iconst X0.here hx rfl (hb hby d3_3) k) ?_
  show own_Go p e below s _ _ _ (s₁.setTop (mkF m 4 #[.val (.int p0), .val (.int p1)] [(.int (1 : Int32)), (.int (o_ishl (1 : Int32) p1))]))
  refine own_via (fun _ k => XS.isub X0.here hx rfl (hb hby d3_4) rfl k) ?_
  show own_Go p e below s _ _ _ (s₁.setTop (mkF m 5 #[.val (.int p0), .val (.int p1)] [(.int ((o_ishl (1 : Int32) p1) - (1 : Int32)))]))
  refine own_via (fun _ k => XS.iconst X0.here hx rfl (hb hby d3_5) k) ?_
  show own_Go p e below s _ _ _ (s₁.setTop (mkF m 6 #[.val (.int p0), .val (.int p1)] [(.int (1 : Int32)), (.int ((o_ishl (1 : Int32) p1) - (1 : Int32)))]))
  refine own_via (fun _ k => XS.iloadN X0.here hx rfl (hb hby d3_6) rfl k) ?_
  show own_Go p e below s _ _ _ (s₁.setTop (mkF m 7 #[.val (.int p0), .val (.int p1)] [(.int p0), (.int (1 : Int32)), (.int ((o_ishl (1 : Int32) p1) - (1 : Int32)))]))
  refine own_via (fun _ k => XS.ishl X0.here hx rfl (hb hby d3_7) rfl k) ?_
  show own_Go p e below s _ _ _ (s₁.setTop (mkF m 8 #[.val (.int p0), .val (.int p1)] [(.int (o_ishl (1 : Int32) p0)), (.int ((o_ishl (1 : Int32) p1) - (1 : Int32)))]))
  refine own_via (fun _ k => XS.iconst X0.here hx rfl (hb hby d3_8) k) ?_
  show own_Go p e below s _ _ _ (s₁.setTop (mkF m 9 #[.val (.int p0), .val (.int p1)] [(.int (1 : Int32)), (.int (o_ishl (1 : Int32) p0)), (.int ((o_ishl (1 : Int32) p1) - (1 : Int32)))]))
  refine own_via (fun _ k => XS.isub X0.here hx rfl (hb hby d3_9) rfl k) ?_
  show own_Go p e below s _ _ _ (s₁.setTop (mkF m 10 #[.val (.int p0), .val (.int p1)] [(.int ((o_ishl (1 : Int32) p0) - (1 : Int32))), (.int ((o_ishl (1 : Int32) p1) - (1 : Int32)))]))
  refine own_via (fun _ k => XS.iconst X0.here hx rfl (hb hby d3_10) k) ?_
  show own_Go p e below s _ _ _ (s₁.setTop (mkF m 11 #[.val (.int p0), .val (.int p1)] [(.int (-1 : Int32)), (.int ((o_ishl (1 : Int32) p0) - (1 : Int32))), (.int ((o_ishl (1 : Int32) p1) - (1 : Int32)))]))
  refine own_via (fun _ k => XS.ixor X0.here hx rfl (hb hby d3_11) rfl k) ?_
  show own_Go p e below s _ _ _ (s₁.setTop (mkF m 12 #[.val (.int p0), .val (.int p1)] [(.int (((o_ishl (1 : Int32) p0) - (1 : Int32)) ^^^ (-1 : Int32))), (.int ((o_ishl (1 : Int32) p1) - (1 : Int32)))]))
  refine own_via (fun _ k => XS.iand X0.here hx rfl (hb hby d3_12) rfl k) ?_
  show own_Go p e below s _ _ _ (s₁.setTop (mkF m 13 #[.val (.int p0), .val (.int p1)] [(.int (((o_ishl (1 : Int32) p1) - (1 : Int32)) &&& (((o_ishl (1 : Int32) p0) - (1 : Int32)) ^^^ (-1 : Int32))))]))
  exact own_goI X0 hx Bd.returns (hb hby d3_13) Bd.notSynchronized (by decide) (by decide) (by rw [e0]; exact ⟨by rw [own_rng] <;> rfl, N0, rfl⟩)
theorem d4_0 : decode method_7_code 0 = .ok (.iload_n 0, 1) := by decide +kernel
theorem d4_1 : decode method_7_code 1 = .ok (.iconst 1, 1) := by decide +kernel
theorem d4_2 : decode method_7_code 2 = .ok (.iand, 1) := by decide +kernel
theorem d4_3 : decode method_7_code 3 = .ok (.ifCond .eq 5, 3) := by decide +kernel
theorem d4_8 : decode method_7_code 8 = .ok (.iload_n 0, 1) := by decide +kernel
theorem d4_9 : decode method_7_code 9 = .ok (.iconst 2, 1) := by decide +kernel
theorem d4_10 : decode method_7_code 10 = .ok (.iand, 1) := by decide +kernel
theorem d4_11 : decode method_7_code 11 = .ok (.ifCond .eq 5, 3) := by decide +kernel
theorem d4_16 : decode method_7_code 16 = .ok (.iload_n 0, 1) := by decide +kernel
theorem d4_17 : decode method_7_code 17 = .ok (.iconst 4, 1) := by decide +kernel
theorem d4_18 : decode method_7_code 18 = .ok (.iand, 1) := by decide +kernel
theorem d4_19 : decode method_7_code 19 = .ok (.ifCond .eq 5, 3) := by decide +kernel
theorem d4_24 : decode method_7_code 24 = .ok (.iload_n 0, 1) := by decide +kernel
theorem d4_25 : decode method_7_code 25 = .ok (.bipush 8, 2) := by decide +kernel
theorem d4_27 : decode method_7_code 27 = .ok (.iand, 1) := by decide +kernel
theorem d4_28 : decode method_7_code 28 = .ok (.ifCond .eq 5, 3) := by decide +kernel
theorem d4_33 : decode method_7_code 33 = .ok (.iload_n 0, 1) := by decide +kernel
theorem d4_34 : decode method_7_code 34 = .ok (.bipush 16, 2) := by decide +kernel
theorem d4_36 : decode method_7_code 36 = .ok (.iand, 1) := by decide +kernel
theorem d4_37 : decode method_7_code 37 = .ok (.ifCond .eq 5, 3) := by decide +kernel
theorem d4_42 : decode method_7_code 42 = .ok (.iconst (-1), 1) := by decide +kernel
theorem d4_43 : decode method_7_code 43 = .ok (.ireturn, 1) := by decide +kernel
theorem d4_40 : decode method_7_code 40 = .ok (.iconst 4, 1) := by decide +kernel
theorem d4_41 : decode method_7_code 41 = .ok (.ireturn, 1) := by decide +kernel
theorem d4_31 : decode method_7_code 31 = .ok (.iconst 3, 1) := by decide +kernel
theorem d4_32 : decode method_7_code 32 = .ok (.ireturn, 1) := by decide +kernel
theorem d4_22 : decode method_7_code 22 = .ok (.iconst 2, 1) := by decide +kernel
theorem d4_23 : decode method_7_code 23 = .ok (.ireturn, 1) := by decide +kernel
theorem d4_14 : decode method_7_code 14 = .ok (.iconst 1, 1) := by decide +kernel
theorem d4_15 : decode method_7_code 15 = .ok (.ireturn, 1) := by decide +kernel
theorem d4_6 : decode method_7_code 6 = .ok (.iconst 0, 1) := by decide +kernel
theorem d4_7 : decode method_7_code 7 = .ok (.ireturn, 1) := by decide +kernel
def own_low (p0 : Int32) : Int32 := (if (p0 &&& (1 : Int32)) = (0 : Int32) then (if (p0 &&& (2 : Int32)) = (0 : Int32) then (if (p0 &&& (4 : Int32)) = (0 : Int32) then (if (p0 &&& (8 : Int32)) = (0 : Int32) then (if (p0 &&& (16 : Int32)) = (0 : Int32) then (-1 : Int32) else (4 : Int32)) else (3 : Int32)) else (2 : Int32)) else (1 : Int32)) else (0 : Int32))
theorem ef_4 (m : MethodId) (x0 : Int32) : entryFrame m #[(.int x0)] 1 = mkF m 0 #[.val (.int x0)] [] := by first | (simp [entryFrame, mkF, argsToLocals, Value.category]; done) | rfl
def Q4 (Z : State) (p0 : Int32) (h0 : Heap) (n0 : Nat) (v : Option Value) (h : Heap) (L : List Loc) : Prop := v = some (.int (own_low p0)) ∧ Fr n0 L ∧ h = h0
set_option maxRecDepth 65536 in
set_option maxHeartbeats 40000000 in
theorem rm4 (l : Launch) (Z : State) (a0 : Array Value) (hw : ∀ d ∈ tables_1, d.before a0 Z = true) (ws : List Jvm.Cond) (p0 : Int32) (h0 : Heap) (n0 : Nat) (Z0 : n0 ≤ h0.size) :
    MetFree l (⟨"com/example/enlace/enlace/graph/LineFieldsAdvancePinLaw", "lowest", "(I)I"⟩ : MethodName) (head1 (Jvm.Cond.code (⟨"com/example/enlace/enlace/graph/LineFieldsAdvancePinLaw", "lowest", "(I)I"⟩ : MethodName) method_7_code 1 (some .int) :: ws) ({ frames := 0, cells := 0, slots := 0, locals := 0 } : Room)) (fun q_ U => q_ = #[(.int p0)] ∧ Z.Warmed39 U.vm ∧ U.heap = h0) (fun _ _ _ _ _ => True) (fun _ U o U' => ∃ v L, o = .returned v ∧ Q4 Z p0 h0 n0 v U'.heap L ∧ FrameEnd U o U' L ({ frames := 0, cells := 0, slots := 0, locals := 0 } : Room).cells ({ frames := 0, cells := 0, slots := 0, locals := 0 } : Room).slots) := by
  refine MetFree.of_bodySF (plainFor_of_name pn_1) hisR ?_
  intro p e s m args below meth c s₁ Bd hml0 hP hK
  obtain ⟨rfl, hZ, hh⟩ := hP
  have hx := Bd.exec
  have hby := Bd.bytes
  have hml : c.maxLocals = 1 := hml0
  have hown : s.vm.findClass "com/example/enlace/enlace/graph/LineFieldsAdvancePinLaw" = some m.cls := findClass_of_methodNamed Bd.named
  have hnm := (name_of_methodNamed Bd.named Bd.method).1
  have X0 : Stand p l e ({ frames := 0, cells := 0, slots := 0, locals := 0 } : Room) s m #[(.int p0)] below meth c s₁ [] 0 0 := Stand.of_body Bd
  have e0 : s₁.heap = h0 := by rw [← hh, Bd.state]; rfl
  have N0 := Fr.nil n0
  show own_Go p e below s (Q4 Z p0 h0 n0) ({ frames := 0, cells := 0, slots := 0, locals := 0 } : Room).cells ({ frames := 0, cells := 0, slots := 0, locals := 0 } : Room).slots (s₁.setTop (entryFrame m #[(.int p0)] 1))
  refine own_via (fun t k => castTop (ef_4 m p0) k) ?_
  show own_Go p e below s _ _ _ (s₁.setTop (mkF m 0 #[.val (.int p0)] []))
  refine own_via (fun _ k => XS.iloadN X0.here hx rfl (hb hby d4_0) rfl k) ?_
  show own_Go p e below s _ _ _ (s₁.setTop (mkF m 1 #[.val (.int p0)] [(.int p0)]))
  refine own_via (fun _ k => XS.iconst X0.here hx rfl (hb hby d4_1) k) ?_
  show own_Go p e below s _ _ _ (s₁.setTop (mkF m 2 #[.val (.int p0)] [(.int (1 : Int32)), (.int p0)]))
  refine own_via (fun _ k => XS.iand X0.here hx rfl (hb hby d4_2) rfl k) ?_
  show own_Go p e below s _ _ _ (s₁.setTop (mkF m 3 #[.val (.int p0)] [(.int (p0 &&& (1 : Int32)))]))
  by_cases hc1 : (p0 &&& (1 : Int32)) = (0 : Int32)
  · refine own_via (fun _ k => XS.ifYes X0.here hx rfl (pc0 := 3) (pc' := 8) rfl (hb hby d4_3) rfl (Jvm.Free.XT.i0_eq_t hc1) (by decide) (by decide) k) ?_
    show own_Go p e below s _ _ _ (s₁.setTop (mkF m 8 #[.val (.int p0)] []))
    refine own_via (fun _ k => XS.iloadN X0.here hx rfl (hb hby d4_8) rfl k) ?_
    show own_Go p e below s _ _ _ (s₁.setTop (mkF m 9 #[.val (.int p0)] [(.int p0)]))
    refine own_via (fun _ k => XS.iconst X0.here hx rfl (hb hby d4_9) k) ?_
    show own_Go p e below s _ _ _ (s₁.setTop (mkF m 10 #[.val (.int p0)] [(.int (2 : Int32)), (.int p0)]))
    refine own_via (fun _ k => XS.iand X0.here hx rfl (hb hby d4_10) rfl k) ?_
    show own_Go p e below s _ _ _ (s₁.setTop (mkF m 11 #[.val (.int p0)] [(.int (p0 &&& (2 : Int32)))]))
    by_cases hc2 : (p0 &&& (2 : Int32)) = (0 : Int32)
    · refine own_via (fun _ k => XS.ifYes X0.here hx rfl (pc0 := 11) (pc' := 16) rfl (hb hby d4_11) rfl (Jvm.Free.XT.i0_eq_t hc2) (by decide) (by decide) k) ?_
      show own_Go p e below s _ _ _ (s₁.setTop (mkF m 16 #[.val (.int p0)] []))
      refine own_via (fun _ k => XS.iloadN X0.here hx rfl (hb hby d4_16) rfl k) ?_
      show own_Go p e below s _ _ _ (s₁.setTop (mkF m 17 #[.val (.int p0)] [(.int p0)]))
      refine own_via (fun _ k => XS.iconst X0.here hx rfl (hb hby d4_17) k) ?_
      show own_Go p e below s _ _ _ (s₁.setTop (mkF m 18 #[.val (.int p0)] [(.int (4 : Int32)), (.int p0)]))
      refine own_via (fun _ k => XS.iand X0.here hx rfl (hb hby d4_18) rfl k) ?_
      show own_Go p e below s _ _ _ (s₁.setTop (mkF m 19 #[.val (.int p0)] [(.int (p0 &&& (4 : Int32)))]))
      by_cases hc3 : (p0 &&& (4 : Int32)) = (0 : Int32)
      · refine own_via (fun _ k => XS.ifYes X0.here hx rfl (pc0 := 19) (pc' := 24) rfl (hb hby d4_19) rfl (Jvm.Free.XT.i0_eq_t hc3) (by decide) (by decide) k) ?_
        show own_Go p e below s _ _ _ (s₁.setTop (mkF m 24 #[.val (.int p0)] []))
        refine own_via (fun _ k => XS.iloadN X0.here hx rfl (hb hby d4_24) rfl k) ?_
        show own_Go p e below s _ _ _ (s₁.setTop (mkF m 25 #[.val (.int p0)] [(.int p0)]))
        refine own_via (fun _ k => XS.bipush X0.here hx rfl (hb hby d4_25) k) ?_
        show own_Go p e below s _ _ _ (s₁.setTop (mkF m 27 #[.val (.int p0)] [(.int (8 : Int32)), (.int p0)]))
        refine own_via (fun _ k => XS.iand X0.here hx rfl (hb hby d4_27) rfl k) ?_
        show own_Go p e below s _ _ _ (s₁.setTop (mkF m 28 #[.val (.int p0)] [(.int (p0 &&& (8 : Int32)))]))
        by_cases hc4 : (p0 &&& (8 : Int32)) = (0 : Int32)
        · refine own_via (fun _ k => XS.ifYes X0.here hx rfl (pc0 := 28) (pc' := 33) rfl (hb hby d4_28) rfl (Jvm.Free.XT.i0_eq_t hc4) (by decide) (by decide) k) ?_
          show own_Go p e below s _ _ _ (s₁.setTop (mkF m 33 #[.val (.int p0)] []))
          refine own_via (fun _ k => XS.iloadN X0.here hx rfl (hb hby d4_33) rfl k) ?_
          show own_Go p e below s _ _ _ (s₁.setTop (mkF m 34 #[.val (.int p0)] [(.int p0)]))
          refine own_via (fun _ k => XS.bipush X0.here hx rfl (hb hby d4_34) k) ?_
          show own_Go p e below s _ _ _ (s₁.setTop (mkF m 36 #[.val (.int p0)] [(.int (16 : Int32)), (.int p0)]))
          refine own_via (fun _ k => XS.iand X0.here hx rfl (hb hby d4_36) rfl k) ?_
          show own_Go p e below s _ _ _ (s₁.setTop (mkF m 37 #[.val (.int p0)] [(.int (p0 &&& (16 : Int32)))]))
          by_cases hc5 : (p0 &&& (16 : Int32)) = (0 : Int32)
          · refine own_via (fun _ k => XS.ifYes X0.here hx rfl (pc0 := 37) (pc' := 42) rfl (hb hby d4_37) rfl (Jvm.Free.XT.i0_eq_t hc5) (by decide) (by decide) k) ?_
            show own_Go p e below s _ _ _ (s₁.setTop (mkF m 42 #[.val (.int p0)] []))
            refine own_via (fun _ k => XS.iconst X0.here hx rfl (hb hby d4_42) k) ?_
            show own_Go p e below s _ _ _ (s₁.setTop (mkF m 43 #[.val (.int p0)] [(.int (-1 : Int32))]))
            exact own_goI X0 hx Bd.returns (hb hby d4_43) Bd.notSynchronized (by decide) (by decide) (by rw [e0]; exact ⟨by rw [own_low, if_pos hc1, if_pos hc2, if_pos hc3, if_pos hc4, if_pos hc5] <;> rfl, N0, rfl⟩)
          · refine own_via (fun _ k => XS.ifNo X0.here hx rfl (hb hby d4_37) rfl (Jvm.Free.XT.i0_eq_f hc5) k) ?_
            show own_Go p e below s _ _ _ (s₁.setTop (mkF m 40 #[.val (.int p0)] []))
            refine own_via (fun _ k => XS.iconst X0.here hx rfl (hb hby d4_40) k) ?_
            show own_Go p e below s _ _ _ (s₁.setTop (mkF m 41 #[.val (.int p0)] [(.int (4 : Int32))]))
            exact own_goI X0 hx Bd.returns (hb hby d4_41) Bd.notSynchronized (by decide) (by decide) (by rw [e0]; exact ⟨by rw [own_low, if_pos hc1, if_pos hc2, if_pos hc3, if_pos hc4, if_neg hc5] <;> rfl, N0, rfl⟩)
        · refine own_via (fun _ k => XS.ifNo X0.here hx rfl (hb hby d4_28) rfl (Jvm.Free.XT.i0_eq_f hc4) k) ?_
          show own_Go p e below s _ _ _ (s₁.setTop (mkF m 31 #[.val (.int p0)] []))
          refine own_via (fun _ k => XS.iconst X0.here hx rfl (hb hby d4_31) k) ?_
          show own_Go p e below s _ _ _ (s₁.setTop (mkF m 32 #[.val (.int p0)] [(.int (3 : Int32))]))
          exact own_goI X0 hx Bd.returns (hb hby d4_32) Bd.notSynchronized (by decide) (by decide) (by rw [e0]; exact ⟨by rw [own_low, if_pos hc1, if_pos hc2, if_pos hc3, if_neg hc4] <;> rfl, N0, rfl⟩)
      · refine own_via (fun _ k => XS.ifNo X0.here hx rfl (hb hby d4_19) rfl (Jvm.Free.XT.i0_eq_f hc3) k) ?_
        show own_Go p e below s _ _ _ (s₁.setTop (mkF m 22 #[.val (.int p0)] []))
        refine own_via (fun _ k => XS.iconst X0.here hx rfl (hb hby d4_22) k) ?_
        show own_Go p e below s _ _ _ (s₁.setTop (mkF m 23 #[.val (.int p0)] [(.int (2 : Int32))]))
        exact own_goI X0 hx Bd.returns (hb hby d4_23) Bd.notSynchronized (by decide) (by decide) (by rw [e0]; exact ⟨by rw [own_low, if_pos hc1, if_pos hc2, if_neg hc3] <;> rfl, N0, rfl⟩)
    · refine own_via (fun _ k => XS.ifNo X0.here hx rfl (hb hby d4_11) rfl (Jvm.Free.XT.i0_eq_f hc2) k) ?_
      show own_Go p e below s _ _ _ (s₁.setTop (mkF m 14 #[.val (.int p0)] []))
      refine own_via (fun _ k => XS.iconst X0.here hx rfl (hb hby d4_14) k) ?_
      show own_Go p e below s _ _ _ (s₁.setTop (mkF m 15 #[.val (.int p0)] [(.int (1 : Int32))]))
      exact own_goI X0 hx Bd.returns (hb hby d4_15) Bd.notSynchronized (by decide) (by decide) (by rw [e0]; exact ⟨by rw [own_low, if_pos hc1, if_neg hc2] <;> rfl, N0, rfl⟩)
  · refine own_via (fun _ k => XS.ifNo X0.here hx rfl (hb hby d4_3) rfl (Jvm.Free.XT.i0_eq_f hc1) k) ?_
    show own_Go p e below s _ _ _ (s₁.setTop (mkF m 6 #[.val (.int p0)] []))
    refine own_via (fun _ k => XS.iconst X0.here hx rfl (hb hby d4_6) k) ?_
    show own_Go p e below s _ _ _ (s₁.setTop (mkF m 7 #[.val (.int p0)] [(.int (0 : Int32))]))
    exact own_goI X0 hx Bd.returns (hb hby d4_7) Bd.notSynchronized (by decide) (by decide) (by rw [e0]; exact ⟨by rw [own_low, if_neg hc1] <;> rfl, N0, rfl⟩)

def own_S (m : Int32) (e : Nat) (s2 : Int32) : Int32 := own_low ((m ^^^ (-1 : Int32)) &&& (own_rng s2 (Nat.toInt32 e)))
def own_T (m : Int32) (e : Nat) (s2 : Int32) : Int32 := if (own_low (m &&& (own_rng (own_S m e s2) (Nat.toInt32 e)))) < (0 : Int32) then (Nat.toInt32 e) else (own_low (m &&& (own_rng (own_S m e s2) (Nat.toInt32 e))))
def own_t0 (m : Int32) (e : Nat) (s0 s2 : Int32) : Int32 := if own_S m e s2 < (0 : Int32) then s0 else own_S m e s2
def own_t1 (m : Int32) (e : Nat) (s1 s2 : Int32) : Int32 := if own_S m e s2 < (0 : Int32) then s1 else own_T m e s2
def own_t2 (m : Int32) (e : Nat) (s2 : Int32) : Int32 := if own_S m e s2 < (0 : Int32) then (Nat.toInt32 e) else own_T m e s2
/-- the law's mask and the walk agree on one step -/
abbrev own_rel (us : List Int32) (e q : Nat) (fs ft m s0 s1 s2 : Int32) : Prop :=
  (own_nr us e q = (if own_S m e s2 < (0 : Int32) then (0 : Int32) else (1 : Int32))) ∧ (own_nfs us e q fs = own_t0 m e s0 s2) ∧ (own_nft us e q ft = own_t1 m e s1 s2)

theorem d9_0 : decode method_3_code 0 = .ok (.iload_n 1, 1) := by decide +kernel
theorem d9_1 : decode method_3_code 1 = .ok (.iconst (-1), 1) := by decide +kernel
theorem d9_2 : decode method_3_code 2 = .ok (.ixor, 1) := by decide +kernel
theorem d9_3 : decode method_3_code 3 = .ok (.aload_n 3, 1) := by decide +kernel
theorem d9_4 : decode method_3_code 4 = .ok (.iconst 2, 1) := by decide +kernel
theorem d9_5 : decode method_3_code 5 = .ok (.iaload, 1) := by decide +kernel
theorem d9_6 : decode method_3_code 6 = .ok (.iload_n 2, 1) := by decide +kernel
theorem pd_2 : parseMethodDescriptor "(II)I" = some ⟨[.int, .int], some .int⟩ := by decide +kernel
theorem d9_7 : decode method_3_code 7 = .ok (.invokestatic 18, 3) := by decide +kernel
theorem d9_10 : decode method_3_code 10 = .ok (.iand, 1) := by decide +kernel
theorem d9_11 : decode method_3_code 11 = .ok (.invokestatic 22, 3) := by decide +kernel
theorem d9_14 : decode method_3_code 14 = .ok (.istore 4, 2) := by decide +kernel
theorem d9_16 : decode method_3_code 16 = .ok (.aload_n 0, 1) := by decide +kernel
theorem pd_3 : parseMethodDescriptor "()Z" = some ⟨[], some .boolean⟩ := by decide +kernel
theorem d9_17 : decode method_3_code 17 = .ok (.invokevirtual 37, 3) := by decide +kernel
theorem d9_20 : decode method_3_code 20 = .ok (.istore 5, 2) := by decide +kernel
theorem d9_22 : decode method_3_code 22 = .ok (.iload 4, 2) := by decide +kernel
theorem d9_24 : decode method_3_code 24 = .ok (.ifCond .ge 10, 3) := by decide +kernel
theorem d9_27 : decode method_3_code 27 = .ok (.aload_n 3, 1) := by decide +kernel
theorem d9_28 : decode method_3_code 28 = .ok (.iconst 2, 1) := by decide +kernel
theorem d9_29 : decode method_3_code 29 = .ok (.iload_n 2, 1) := by decide +kernel
theorem d9_30 : decode method_3_code 30 = .ok (.iastore, 1) := by decide +kernel
theorem d9_31 : decode method_3_code 31 = .ok (.goto 39, 3) := by decide +kernel
theorem d9_70 : decode method_3_code 70 = .ok (.iload 5, 2) := by decide +kernel
theorem d9_72 : decode method_3_code 72 = .ok (.iload 4, 2) := by decide +kernel
theorem d9_74 : decode method_3_code 74 = .ok (.ifCond .lt 7, 3) := by decide +kernel
theorem d9_81 : decode method_3_code 81 = .ok (.iconst 0, 1) := by decide +kernel
theorem d9_82 : decode method_3_code 82 = .ok (.if_icmp .ne 27, 3) := by decide +kernel
theorem d9_85 : decode method_3_code 85 = .ok (.aload_n 0, 1) := by decide +kernel
theorem pd_4 : parseMethodDescriptor "()I" = some ⟨[], some .int⟩ := by decide +kernel
theorem d9_86 : decode method_3_code 86 = .ok (.invokevirtual 41, 3) := by decide +kernel
theorem d9_89 : decode method_3_code 89 = .ok (.aload_n 3, 1) := by decide +kernel
theorem d9_90 : decode method_3_code 90 = .ok (.iconst 0, 1) := by decide +kernel
theorem d9_91 : decode method_3_code 91 = .ok (.iaload, 1) := by decide +kernel
theorem d9_92 : decode method_3_code 92 = .ok (.if_icmp .ne 17, 3) := by decide +kernel
theorem d9_95 : decode method_3_code 95 = .ok (.aload_n 0, 1) := by decide +kernel
theorem d9_96 : decode method_3_code 96 = .ok (.invokevirtual 45, 3) := by decide +kernel
theorem d9_99 : decode method_3_code 99 = .ok (.aload_n 3, 1) := by decide +kernel
theorem d9_100 : decode method_3_code 100 = .ok (.iconst 1, 1) := by decide +kernel
theorem d9_101 : decode method_3_code 101 = .ok (.iaload, 1) := by decide +kernel
theorem d9_102 : decode method_3_code 102 = .ok (.if_icmp .ne 7, 3) := by decide +kernel
theorem d9_105 : decode method_3_code 105 = .ok (.iconst 1, 1) := by decide +kernel
theorem d9_106 : decode method_3_code 106 = .ok (.goto 4, 3) := by decide +kernel
theorem d9_110 : decode method_3_code 110 = .ok (.ireturn, 1) := by decide +kernel
theorem d9_34 : decode method_3_code 34 = .ok (.iload_n 1, 1) := by decide +kernel
theorem d9_35 : decode method_3_code 35 = .ok (.iload 4, 2) := by decide +kernel
theorem d9_37 : decode method_3_code 37 = .ok (.iload_n 2, 1) := by decide +kernel
theorem d9_38 : decode method_3_code 38 = .ok (.invokestatic 18, 3) := by decide +kernel
theorem d9_41 : decode method_3_code 41 = .ok (.iand, 1) := by decide +kernel
theorem d9_42 : decode method_3_code 42 = .ok (.invokestatic 22, 3) := by decide +kernel
theorem d9_45 : decode method_3_code 45 = .ok (.istore 6, 2) := by decide +kernel
theorem d9_47 : decode method_3_code 47 = .ok (.iload 6, 2) := by decide +kernel
theorem d9_49 : decode method_3_code 49 = .ok (.ifCond .ge 6, 3) := by decide +kernel
theorem d9_52 : decode method_3_code 52 = .ok (.iload_n 2, 1) := by decide +kernel
theorem d9_53 : decode method_3_code 53 = .ok (.istore 6, 2) := by decide +kernel
theorem d9_55 : decode method_3_code 55 = .ok (.aload_n 3, 1) := by decide +kernel
theorem d9_56 : decode method_3_code 56 = .ok (.iconst 0, 1) := by decide +kernel
theorem d9_57 : decode method_3_code 57 = .ok (.iload 4, 2) := by decide +kernel
theorem d9_59 : decode method_3_code 59 = .ok (.iastore, 1) := by decide +kernel
theorem d9_60 : decode method_3_code 60 = .ok (.aload_n 3, 1) := by decide +kernel
theorem d9_61 : decode method_3_code 61 = .ok (.iconst 1, 1) := by decide +kernel
theorem d9_62 : decode method_3_code 62 = .ok (.iload 6, 2) := by decide +kernel
theorem d9_64 : decode method_3_code 64 = .ok (.iastore, 1) := by decide +kernel
theorem d9_65 : decode method_3_code 65 = .ok (.aload_n 3, 1) := by decide +kernel
theorem d9_66 : decode method_3_code 66 = .ok (.iconst 2, 1) := by decide +kernel
theorem d9_67 : decode method_3_code 67 = .ok (.iload 6, 2) := by decide +kernel
theorem d9_69 : decode method_3_code 69 = .ok (.iastore, 1) := by decide +kernel
theorem d9_77 : decode method_3_code 77 = .ok (.iconst 1, 1) := by decide +kernel
theorem d9_78 : decode method_3_code 78 = .ok (.goto 4, 3) := by decide +kernel
theorem ef_9 (m : MethodId) (x0 : Addr) (x1 : Int32) (x2 : Int32) (x3 : Addr) : entryFrame m #[(.ref x0), (.int x1), (.int x2), (.ref x3)] 7 = mkF m 0 #[.val (.ref x0), .val (.int x1), .val (.int x2), .val (.ref x3), .unset, .unset, .unset] [] := by first | (simp [entryFrame, mkF, argsToLocals, Value.category]; done) | rfl
def Q9 (Z : State) (a : Addr) (pm_ : Int32) (pe_ : Int32) (st_ : Addr) (b_ : Addr) (k_ : ClassId) (z_ : Int32) (us_ : List Int32) (e_ : Nat) (q_ : Nat) (fs_ : Int32) (ft_ : Int32) (kst_ : ClassId) (s0_ : Int32) (s1_ : Int32) (s2_ : Int32) (h0 : Heap) (n0 : Nat) (v : Option Value) (h : Heap) (L : List Loc) : Prop := v = some (.int (1 : Int32)) ∧ Fr n0 L ∧ Keep h0 h [a, st_] ∧ Exa Z h a "com/example/enlace/enlace/graph/LineFields" ∧ Fld Z h a "com/example/enlace/enlace/graph/LineFields" "bytes" "[B" (.ref b_) ∧ Fld Z h a "com/example/enlace/enlace/graph/LineFields" "end" "I" (.int (Nat.toInt32 e_)) ∧ Fld Z h a "com/example/enlace/enlace/graph/LineFields" "position" "I" (.int (Nat.toInt32 (own_nq us_ e_ q_))) ∧ Fld Z h a "com/example/enlace/enlace/graph/LineFields" "fieldStart" "I" (.int (own_nfs us_ e_ q_ fs_)) ∧ Fld Z h a "com/example/enlace/enlace/graph/LineFields" "fieldEnd" "I" (.int (own_nft us_ e_ q_ ft_)) ∧ Arv Z h st_ kst_ .int (3 : Int32) [(.int (own_t0 pm_ e_ s0_ s2_)), (.int (own_t1 pm_ e_ s1_ s2_)), (.int (own_t2 pm_ e_ s2_))] (.int (0 : Int32))
set_option maxRecDepth 65536 in
set_option maxHeartbeats 40000000 in
theorem rm9 (l : Launch) (Z : State) (a0 : Array Value) (hw : ∀ d ∈ tables_1, d.before a0 Z = true) (ws : List Jvm.Cond) (a : Addr) (pm_ : Int32) (pe_ : Int32) (st_ : Addr) (b_ : Addr) (k_ : ClassId) (z_ : Int32) (us_ : List Int32) (e_ : Nat) (q_ : Nat) (fs_ : Int32) (ft_ : Int32) (kst_ : ClassId) (s0_ : Int32) (s1_ : Int32) (s2_ : Int32) (h0 : Heap) (n0 : Nat) (Z0 : n0 ≤ h0.size) (E_a : Exa Z h0 a "com/example/enlace/enlace/graph/LineFields") (F_bytes_a : Fld Z h0 a "com/example/enlace/enlace/graph/LineFields" "bytes" "[B" (.ref b_)) (F_end_a : Fld Z h0 a "com/example/enlace/enlace/graph/LineFields" "end" "I" (.int (Nat.toInt32 e_))) (F_position_a : Fld Z h0 a "com/example/enlace/enlace/graph/LineFields" "position" "I" (.int (Nat.toInt32 q_))) (F_fieldStart_a : Fld Z h0 a "com/example/enlace/enlace/graph/LineFields" "fieldStart" "I" (.int fs_)) (F_fieldEnd_a : Fld Z h0 a "com/example/enlace/enlace/graph/LineFields" "fieldEnd" "I" (.int ft_)) (V_b_ : Arv Z h0 b_ k_ .byte z_ (us_.map Value.int) (.int (0 : Int32))) (V_st_ : Arv Z h0 st_ kst_ .int (3 : Int32) [(.int s0_), (.int s1_), (.int s2_)] (.int (0 : Int32))) (g_a : n0 ≤ a) (g_st_ : n0 ≤ st_) (ne_b__a : b_ ≠ a) (ne_b__st_ : b_ ≠ st_) (hp12 : q_ ≤ e_) (hp13 : e_ ≤ 16) (hp14 : (e_ : Int) ≤ z_.toInt) (hp15 : own_rel us_ e_ q_ fs_ ft_ pm_ s0_ s1_ s2_) (hp16 : pe_ = Nat.toInt32 e_) (ne_a_st_ : a ≠ st_) :
    MetFree l (⟨"com/example/enlace/enlace/graph/LineFieldsAdvancePinLaw", "step", "(Lcom/example/enlace/enlace/graph/LineFields;II[I)Z"⟩ : MethodName) (head1 (Jvm.Cond.code (⟨"com/example/enlace/enlace/graph/LineFieldsAdvancePinLaw", "step", "(Lcom/example/enlace/enlace/graph/LineFields;II[I)Z"⟩ : MethodName) method_3_code 7 (some .boolean) :: ws) ({ frames := 3, cells := 0, slots := 0, locals := 40 } : Room)) (fun q_ U => q_ = #[(.ref a), (.int pm_), (.int pe_), (.ref st_)] ∧ Z.Warmed39 U.vm ∧ U.heap = h0) (fun _ _ _ _ _ => True) (fun _ U o U' => ∃ v L, o = .returned v ∧ Q9 Z a pm_ pe_ st_ b_ k_ z_ us_ e_ q_ fs_ ft_ kst_ s0_ s1_ s2_ h0 n0 v U'.heap L ∧ FrameEnd U o U' L ({ frames := 3, cells := 0, slots := 0, locals := 40 } : Room).cells ({ frames := 3, cells := 0, slots := 0, locals := 40 } : Room).slots) := by
  refine MetFree.of_bodySF (plainFor_of_name pn_1) hisR ?_
  intro p e s m args below meth c s₁ Bd hml0 hP hK
  obtain ⟨rfl, hZ, hh⟩ := hP
  have hx := Bd.exec
  have hby := Bd.bytes
  have hml : c.maxLocals = 7 := hml0
  have hown : s.vm.findClass "com/example/enlace/enlace/graph/LineFieldsAdvancePinLaw" = some m.cls := findClass_of_methodNamed Bd.named
  have hnm := (name_of_methodNamed Bd.named Bd.method).1
  have X0 : Stand p l e ({ frames := 3, cells := 0, slots := 0, locals := 40 } : Room) s m #[(.ref a), (.int pm_), (.int pe_), (.ref st_)] below meth c s₁ [] 0 0 := Stand.of_body Bd
  have e0 : s₁.heap = h0 := by rw [← hh, Bd.state]; rfl
  have N0 := Fr.nil n0
  show own_Go p e below s (Q9 Z a pm_ pe_ st_ b_ k_ z_ us_ e_ q_ fs_ ft_ kst_ s0_ s1_ s2_ h0 n0) ({ frames := 3, cells := 0, slots := 0, locals := 40 } : Room).cells ({ frames := 3, cells := 0, slots := 0, locals := 40 } : Room).slots (s₁.setTop (entryFrame m #[(.ref a), (.int pm_), (.int pe_), (.ref st_)] 7))
  refine own_via (fun t k => castTop (ef_9 m a pm_ pe_ st_) k) ?_
  have K0 : Keep h0 h0 [a, st_] := Keep.refl _ _
  show own_Go p e below s _ _ _ (s₁.setTop (mkF m 0 #[.val (.ref a), .val (.int pm_), .val (.int pe_), .val (.ref st_), .unset, .unset, .unset] []))
  subst hp16
  show own_Go p e below s _ _ _ (s₁.setTop (mkF m 0 #[.val (.ref a), .val (.int pm_), .val (.int (Nat.toInt32 e_)), .val (.ref st_), .unset, .unset, .unset] []))
  refine own_via (fun _ k => XS.iloadN X0.here hx rfl (hb hby d9_0) rfl k) ?_
  show own_Go p e below s _ _ _ (s₁.setTop (mkF m 1 #[.val (.ref a), .val (.int pm_), .val (.int (Nat.toInt32 e_)), .val (.ref st_), .unset, .unset, .unset] [(.int pm_)]))
  refine own_via (fun _ k => XS.iconst X0.here hx rfl (hb hby d9_1) k) ?_
  show own_Go p e below s _ _ _ (s₁.setTop (mkF m 2 #[.val (.ref a), .val (.int pm_), .val (.int (Nat.toInt32 e_)), .val (.ref st_), .unset, .unset, .unset] [(.int (-1 : Int32)), (.int pm_)]))
  refine own_via (fun _ k => XS.ixor X0.here hx rfl (hb hby d9_2) rfl k) ?_
  show own_Go p e below s _ _ _ (s₁.setTop (mkF m 3 #[.val (.ref a), .val (.int pm_), .val (.int (Nat.toInt32 e_)), .val (.ref st_), .unset, .unset, .unset] [(.int (pm_ ^^^ (-1 : Int32)))]))
  refine own_via (fun _ k => XS.aloadN X0.here hx rfl (hb hby d9_3) rfl rfl k) ?_
  show own_Go p e below s _ _ _ (s₁.setTop (mkF m 4 #[.val (.ref a), .val (.int pm_), .val (.int (Nat.toInt32 e_)), .val (.ref st_), .unset, .unset, .unset] [(.ref st_), (.int (pm_ ^^^ (-1 : Int32)))]))
  refine own_via (fun _ k => XS.iconst X0.here hx rfl (hb hby d9_4) k) ?_
  show own_Go p e below s _ _ _ (s₁.setTop (mkF m 5 #[.val (.ref a), .val (.int pm_), .val (.int (Nat.toInt32 e_)), .val (.ref st_), .unset, .unset, .unset] [(.int (2 : Int32)), (.ref st_), (.int (pm_ ^^^ (-1 : Int32)))]))
  obtain ⟨cl1, Ar1, q1, S1, M1, H1, G1⟩ := (id V_st_)
  have hin1 : ¬ ((2 : Int32) < 0 ∨ cl1.slots.size ≤ ((2 : Int32)).toNatClampNeg) := inb_of S1 ⟨by decide, by decide⟩
  have hat1 : cl1.slots[((2 : Int32)).toNatClampNeg]? = some (.int s2_) := Has.at H1 hin1 rfl
  refine own_via (fun _ k => X0.iaload hx (j := (2 : Int32)) (v := (.int s2_)) (by rw [e0]; exact Ar1.1) (State.isArrayOf_alike hZ.alike Ar1.2.1) Ar1.2.2 hin1 hat1 (g := (mkF m 5 #[.val (.ref a), .val (.int pm_), .val (.int (Nat.toInt32 e_)), .val (.ref st_), .unset, .unset, .unset] [(.int (2 : Int32)), (.ref st_), (.int (pm_ ^^^ (-1 : Int32)))])) rfl rfl (hb hby d9_5) _ k) ?_
  show own_Go p e below s _ _ _ (s₁.setTop (mkF m 6 #[.val (.ref a), .val (.int pm_), .val (.int (Nat.toInt32 e_)), .val (.ref st_), .unset, .unset, .unset] [(.int s2_), (.int (pm_ ^^^ (-1 : Int32)))]))
  refine own_via (fun _ k => XS.iloadN X0.here hx rfl (hb hby d9_6) rfl k) ?_
  show own_Go p e below s _ _ _ (s₁.setTop (mkF m 7 #[.val (.ref a), .val (.int pm_), .val (.int (Nat.toInt32 e_)), .val (.ref st_), .unset, .unset, .unset] [(.int (Nat.toInt32 e_)), (.int s2_), (.int (pm_ ^^^ (-1 : Int32)))]))
  obtain ⟨_, _, ⟨T2, L2, k2, n2⟩, -, X2, ⟨Lc2, hQ2, l2, y2, z2⟩, st2⟩ := Jvm.LawKit.callS X0 hx (y := (⟨"com/example/enlace/enlace/graph/LineFieldsAdvancePinLaw", "range", "(II)I"⟩ : MethodName)) hown (mvT hZ (hw _ (List.mem_of_getElem? (i := 9) rfl))) (mvT hZ (hw _ (List.mem_of_getElem? (i := 10) rfl))) (mvT hZ (hw _ (List.mem_of_getElem? (i := 3) rfl))) (mvT hZ (hw _ (List.mem_of_getElem? (i := 11) rfl))) (by decide) (backOf (W := 1) (rm3 l Z a0 hw [] s2_ (Nat.toInt32 e_) h0 n0 Z0 ) hZ (hw _ (List.mem_of_getElem? (i := 11) rfl)) (hw _ (List.mem_of_getElem? (i := 3) rfl)) (by decide) (by decide)) (g := (mkF m 7 #[.val (.ref a), .val (.int pm_), .val (.int (Nat.toInt32 e_)), .val (.ref st_), .unset, .unset, .unset] [(.int (Nat.toInt32 e_)), (.int s2_), (.int (pm_ ^^^ (-1 : Int32)))])) rfl (by rw [hml]; rfl) (argsL := [(.int s2_), (.int (Nat.toInt32 e_))]) (rest := [(.int (pm_ ^^^ (-1 : Int32)))]) (lenOf pd_2 rfl) rfl (by show 2 * 0 + _ ≤ _; exact Nat.le_of_eq rfl) (hb hby d9_7) (fun _ _ => ⟨rfl, e0, (by decide : 0 + 0 ≤ _), (by decide : 0 + 0 ≤ _)⟩)
  dsimp only [Pt.U, Pt.locs, Pt.cells, Pt.slots] at X2 l2 y2 z2 st2 hQ2
  subst l2 y2 z2
  obtain ⟨rfl, N2q, e2⟩ := hQ2
  have N2 := Fr.app N0 N2q
  refine own_via st2 ?_
  show own_Go p e below s _ _ _ (T2.setTop (mkF m 10 #[.val (.ref a), .val (.int pm_), .val (.int (Nat.toInt32 e_)), .val (.ref st_), .unset, .unset, .unset] [(.int (own_rng s2_ (Nat.toInt32 e_))), (.int (pm_ ^^^ (-1 : Int32)))]))
  refine own_via (fun _ k => XS.iand X2.here hx rfl (hb hby d9_10) rfl k) ?_
  show own_Go p e below s _ _ _ (T2.setTop (mkF m 11 #[.val (.ref a), .val (.int pm_), .val (.int (Nat.toInt32 e_)), .val (.ref st_), .unset, .unset, .unset] [(.int ((pm_ ^^^ (-1 : Int32)) &&& (own_rng s2_ (Nat.toInt32 e_))))]))
  obtain ⟨_, _, ⟨T3, L3, k3, n3⟩, -, X3, ⟨Lc3, hQ3, l3, y3, z3⟩, st3⟩ := Jvm.LawKit.callS X2 hx (y := (⟨"com/example/enlace/enlace/graph/LineFieldsAdvancePinLaw", "lowest", "(I)I"⟩ : MethodName)) hown (mvT hZ (hw _ (List.mem_of_getElem? (i := 12) rfl))) (mvT hZ (hw _ (List.mem_of_getElem? (i := 13) rfl))) (mvT hZ (hw _ (List.mem_of_getElem? (i := 3) rfl))) (mvT hZ (hw _ (List.mem_of_getElem? (i := 14) rfl))) (by decide) (backOf (W := 0) (rm4 l Z a0 hw [] ((pm_ ^^^ (-1 : Int32)) &&& (own_rng s2_ (Nat.toInt32 e_))) h0 n0 Z0 ) hZ (hw _ (List.mem_of_getElem? (i := 14) rfl)) (hw _ (List.mem_of_getElem? (i := 3) rfl)) (by decide) (by decide)) (g := (mkF m 11 #[.val (.ref a), .val (.int pm_), .val (.int (Nat.toInt32 e_)), .val (.ref st_), .unset, .unset, .unset] [(.int ((pm_ ^^^ (-1 : Int32)) &&& (own_rng s2_ (Nat.toInt32 e_))))])) rfl (by rw [hml]; rfl) (argsL := [(.int ((pm_ ^^^ (-1 : Int32)) &&& (own_rng s2_ (Nat.toInt32 e_))))]) (rest := []) (lenOf pd_1 rfl) rfl (by show 2 * 0 + _ ≤ _; exact Nat.le_of_eq rfl) (hb hby d9_11) (fun _ _ => ⟨rfl, e2, (by decide : 0 + 0 ≤ _), (by decide : 0 + 0 ≤ _)⟩)
  dsimp only [Pt.U, Pt.locs, Pt.cells, Pt.slots] at X3 l3 y3 z3 st3 hQ3
  subst l3 y3 z3
  obtain ⟨rfl, N3q, e3⟩ := hQ3
  have N3 := Fr.app N2 N3q
  refine own_via st3 ?_
  show own_Go p e below s _ _ _ (T3.setTop (mkF m 14 #[.val (.ref a), .val (.int pm_), .val (.int (Nat.toInt32 e_)), .val (.ref st_), .unset, .unset, .unset] [(.int (own_low ((pm_ ^^^ (-1 : Int32)) &&& (own_rng s2_ (Nat.toInt32 e_)))))]))
  rw [show (own_low ((pm_ ^^^ (-1 : Int32)) &&& (own_rng s2_ (Nat.toInt32 e_)))) = (own_S pm_ e_ s2_) from rfl]
  show own_Go p e below s _ _ _ (T3.setTop (mkF m 14 #[.val (.ref a), .val (.int pm_), .val (.int (Nat.toInt32 e_)), .val (.ref st_), .unset, .unset, .unset] [(.int (own_S pm_ e_ s2_))]))
  refine own_via (fun _ k => XS.istore X3.here hx rfl (hb hby d9_14) rfl (l' := #[.val (.ref a), .val (.int pm_), .val (.int (Nat.toInt32 e_)), .val (.ref st_), .val (.int (own_S pm_ e_ s2_)), .unset, .unset]) rfl k) ?_
  show own_Go p e below s _ _ _ (T3.setTop (mkF m 16 #[.val (.ref a), .val (.int pm_), .val (.int (Nat.toInt32 e_)), .val (.ref st_), .val (.int (own_S pm_ e_ s2_)), .unset, .unset] []))
  refine own_via (fun _ k => XS.aloadN X3.here hx rfl (hb hby d9_16) rfl rfl k) ?_
  show own_Go p e below s _ _ _ (T3.setTop (mkF m 17 #[.val (.ref a), .val (.int pm_), .val (.int (Nat.toInt32 e_)), .val (.ref st_), .val (.int (own_S pm_ e_ s2_)), .unset, .unset] [(.ref a)]))
  obtain ⟨cq4, kq4, qa4, qb4, qc4⟩ := isOf hZ e3 E_a
  obtain ⟨_, _, ⟨T4, L4, k4, n4⟩, -, X4, ⟨Lc4, hQ4, l4, y4, z4⟩, st4⟩ := X3.virtualBack hx (y := (⟨"com/example/enlace/enlace/graph/LineFields", "advance", "()Z"⟩ : MethodName)) (z := (⟨"com/example/enlace/enlace/graph/LineFields", "advance", "()Z"⟩ : MethodName)) hown (mvT hZ (hw _ (List.mem_of_getElem? (i := 47) rfl))) (mvT hZ (hw _ (List.mem_of_getElem? (i := 48) rfl))) (notFace_of_selects (args := #[]) (mvT hZ (hw _ (List.mem_of_getElem? (i := 50) rfl)))) (mvT hZ (hw _ (List.mem_of_getElem? (i := 50) rfl))) (mvT hZ (hw _ (List.mem_of_getElem? (i := 49) rfl))) (by decide) (backOf (W := 0) (rm10 l Z a0 hw [] a b_ k_ z_ us_ e_ q_ fs_ ft_ h0 n0 Z0 E_a F_bytes_a F_end_a F_position_a F_fieldStart_a F_fieldEnd_a V_b_ g_a ne_b__a hp12 hp13 hp14) hZ (hw _ (List.mem_of_getElem? (i := 51) rfl)) (hw _ (List.mem_of_getElem? (i := 18) rfl)) (by decide) (by decide)) qa4 qc4 (g := (mkF m 17 #[.val (.ref a), .val (.int pm_), .val (.int (Nat.toInt32 e_)), .val (.ref st_), .val (.int (own_S pm_ e_ s2_)), .unset, .unset] [(.ref a)])) rfl (by rw [hml]; rfl) (Steps.refl _) (argsL := []) (rest := []) (lenOf pd_3 rfl) rfl (by show 2 * 0 + _ ≤ _; exact Nat.le_of_eq rfl) (hb hby d9_17) (fun _ _ => ⟨rfl, e3, (by decide : 0 + 0 ≤ _), (by decide : 0 + 0 ≤ _)⟩)
  dsimp only [Pt.U, Pt.locs, Pt.cells, Pt.slots] at X4 l4 y4 z4 st4 hQ4
  subst l4 y4 z4
  obtain ⟨h4, e4⟩ : ∃ h, T4.heap = h := ⟨_, rfl⟩
  rw [e4] at hQ4
  obtain ⟨rfl, N4q, Kq4, F5, F6, F7, F8, F9, F10⟩ := hQ4
  have Z4 : n0 ≤ h4.size := Nat.le_trans Z0 Kq4.1
  have K4 : Keep h0 h4 [a, st_] := K0.trans Kq4 (allS (Or.inl (List.mem_of_getElem? (i := 0) rfl)) all0)
  have N4 := Fr.app N3 N4q
  refine own_viaT st4 ?_
  show own_Go p e below s _ _ _ (T4.setTop (mkF m 20 #[.val (.ref a), .val (.int pm_), .val (.int (Nat.toInt32 e_)), .val (.ref st_), .val (.int (own_S pm_ e_ s2_)), .unset, .unset] [(.int (own_nr us_ e_ q_))]))
  refine own_via (fun _ k => XS.istore X4.here hx rfl (hb hby d9_20) rfl (l' := #[.val (.ref a), .val (.int pm_), .val (.int (Nat.toInt32 e_)), .val (.ref st_), .val (.int (own_S pm_ e_ s2_)), .val (.int (own_nr us_ e_ q_)), .unset]) rfl k) ?_
  show own_Go p e below s _ _ _ (T4.setTop (mkF m 22 #[.val (.ref a), .val (.int pm_), .val (.int (Nat.toInt32 e_)), .val (.ref st_), .val (.int (own_S pm_ e_ s2_)), .val (.int (own_nr us_ e_ q_)), .unset] []))
  refine own_via (fun _ k => XS.iload X4.here hx rfl (hb hby d9_22) rfl k) ?_
  show own_Go p e below s _ _ _ (T4.setTop (mkF m 24 #[.val (.ref a), .val (.int pm_), .val (.int (Nat.toInt32 e_)), .val (.ref st_), .val (.int (own_S pm_ e_ s2_)), .val (.int (own_nr us_ e_ q_)), .unset] [(.int (own_S pm_ e_ s2_))]))
  by_cases hc11 : (own_S pm_ e_ s2_) < (0 : Int32)
  · refine own_via (fun _ k => XS.ifNo X4.here hx rfl (hb hby d9_24) rfl (Jvm.Free.XT.i0_ge_f hc11) k) ?_
    show own_Go p e below s _ _ _ (T4.setTop (mkF m 27 #[.val (.ref a), .val (.int pm_), .val (.int (Nat.toInt32 e_)), .val (.ref st_), .val (.int (own_S pm_ e_ s2_)), .val (.int (own_nr us_ e_ q_)), .unset] []))
    refine own_via (fun _ k => XS.aloadN X4.here hx rfl (hb hby d9_27) rfl rfl k) ?_
    show own_Go p e below s _ _ _ (T4.setTop (mkF m 28 #[.val (.ref a), .val (.int pm_), .val (.int (Nat.toInt32 e_)), .val (.ref st_), .val (.int (own_S pm_ e_ s2_)), .val (.int (own_nr us_ e_ q_)), .unset] [(.ref st_)]))
    refine own_via (fun _ k => XS.iconst X4.here hx rfl (hb hby d9_28) k) ?_
    show own_Go p e below s _ _ _ (T4.setTop (mkF m 29 #[.val (.ref a), .val (.int pm_), .val (.int (Nat.toInt32 e_)), .val (.ref st_), .val (.int (own_S pm_ e_ s2_)), .val (.int (own_nr us_ e_ q_)), .unset] [(.int (2 : Int32)), (.ref st_)]))
    refine own_via (fun _ k => XS.iloadN X4.here hx rfl (hb hby d9_29) rfl k) ?_
    show own_Go p e below s _ _ _ (T4.setTop (mkF m 30 #[.val (.ref a), .val (.int pm_), .val (.int (Nat.toInt32 e_)), .val (.ref st_), .val (.int (own_S pm_ e_ s2_)), .val (.int (own_nr us_ e_ q_)), .unset] [(.int (Nat.toInt32 e_)), (.int (2 : Int32)), (.ref st_)]))
    have F13 := (V_st_.keep Kq4 (ninS (Ne.symm ne_a_st_) nin0))
    obtain ⟨cl12, Ar12, q12, S12, M12, H12, G12⟩ := (id F13)
    have hin12 : ¬ ((2 : Int32) < 0 ∨ cl12.slots.size ≤ ((2 : Int32)).toNatClampNeg) := inb_of S12 ⟨by decide, by decide⟩
    obtain ⟨T12, h12, X12, e12, W12, st12⟩ := stI X4 hx hZ e4 Ar12 (j := (2 : Int32)) hin12 (g := (mkF m 30 #[.val (.ref a), .val (.int pm_), .val (.int (Nat.toInt32 e_)), .val (.ref st_), .val (.int (own_S pm_ e_ s2_)), .val (.int (own_nr us_ e_ q_)), .unset] [(.int (Nat.toInt32 e_)), (.int (2 : Int32)), (.ref st_)])) rfl rfl (hb hby d9_30)
    have V12 : Arv Z h12 st_ kst_ .int (3 : Int32) [(.int s0_), (.int s1_), (.int (Nat.toInt32 e_))] (.int (0 : Int32)) := Arv.set Ar12 q12 S12 M12 H12 G12 rfl W12 2 rfl (Nat.le_of_ble_eq_true rfl)
    have N12 := Fr.snoc X12 N4 g_st_
    have Z12 : n0 ≤ h12.size := Nat.le_trans Z4 (Keep.of_wr W12).1
    have K12 : Keep h0 h12 [a, st_] := K4.wr W12 (Or.inl (List.mem_of_getElem? (i := 1) rfl))
    refine own_via st12 ?_
    show own_Go p e below s _ _ _ (T12.setTop (mkF m 31 #[.val (.ref a), .val (.int pm_), .val (.int (Nat.toInt32 e_)), .val (.ref st_), .val (.int (own_S pm_ e_ s2_)), .val (.int (own_nr us_ e_ q_)), .unset] []))
    refine own_via (fun _ k => XS.goto X12.here hx rfl (pc0 := 31) (pc' := 70) rfl (hb hby d9_31) (by decide) (by decide) k) ?_
    show own_Go p e below s _ _ _ (T12.setTop (mkF m 70 #[.val (.ref a), .val (.int pm_), .val (.int (Nat.toInt32 e_)), .val (.ref st_), .val (.int (own_S pm_ e_ s2_)), .val (.int (own_nr us_ e_ q_)), .unset] []))
    refine own_via (fun _ k => XS.iload X12.here hx rfl (hb hby d9_70) rfl k) ?_
    show own_Go p e below s _ _ _ (T12.setTop (mkF m 72 #[.val (.ref a), .val (.int pm_), .val (.int (Nat.toInt32 e_)), .val (.ref st_), .val (.int (own_S pm_ e_ s2_)), .val (.int (own_nr us_ e_ q_)), .unset] [(.int (own_nr us_ e_ q_))]))
    refine own_via (fun _ k => XS.iload X12.here hx rfl (hb hby d9_72) rfl k) ?_
    show own_Go p e below s _ _ _ (T12.setTop (mkF m 74 #[.val (.ref a), .val (.int pm_), .val (.int (Nat.toInt32 e_)), .val (.ref st_), .val (.int (own_S pm_ e_ s2_)), .val (.int (own_nr us_ e_ q_)), .unset] [(.int (own_S pm_ e_ s2_)), (.int (own_nr us_ e_ q_))]))
    have hc14 : (own_S pm_ e_ s2_) < (0 : Int32) := hc11
    refine own_via (fun _ k => XS.ifYes X12.here hx rfl (pc0 := 74) (pc' := 81) rfl (hb hby d9_74) rfl (Jvm.Free.XT.i0_lt_t hc14) (by decide) (by decide) k) ?_
    show own_Go p e below s _ _ _ (T12.setTop (mkF m 81 #[.val (.ref a), .val (.int pm_), .val (.int (Nat.toInt32 e_)), .val (.ref st_), .val (.int (own_S pm_ e_ s2_)), .val (.int (own_nr us_ e_ q_)), .unset] [(.int (own_nr us_ e_ q_))]))
    refine own_via (fun _ k => XS.iconst X12.here hx rfl (hb hby d9_81) k) ?_
    show own_Go p e below s _ _ _ (T12.setTop (mkF m 82 #[.val (.ref a), .val (.int pm_), .val (.int (Nat.toInt32 e_)), .val (.ref st_), .val (.int (own_S pm_ e_ s2_)), .val (.int (own_nr us_ e_ q_)), .unset] [(.int (0 : Int32)), (.int (own_nr us_ e_ q_))]))
    have hc15 : (own_nr us_ e_ q_) = (0 : Int32) := by rw [hp15.1, if_pos hc11]
    refine own_via (fun _ k => XS.icmpNo X12.here hx rfl (hb hby d9_82) rfl (Jvm.Free.XT.ii_ne_f hc15) k) ?_
    show own_Go p e below s _ _ _ (T12.setTop (mkF m 85 #[.val (.ref a), .val (.int pm_), .val (.int (Nat.toInt32 e_)), .val (.ref st_), .val (.int (own_S pm_ e_ s2_)), .val (.int (own_nr us_ e_ q_)), .unset] []))
    refine own_via (fun _ k => XS.aloadN X12.here hx rfl (hb hby d9_85) rfl rfl k) ?_
    show own_Go p e below s _ _ _ (T12.setTop (mkF m 86 #[.val (.ref a), .val (.int pm_), .val (.int (Nat.toInt32 e_)), .val (.ref st_), .val (.int (own_S pm_ e_ s2_)), .val (.int (own_nr us_ e_ q_)), .unset] [(.ref a)]))
    have F17 := (F9.other W12 (Or.inl ne_a_st_))
    have F18 := (F5.wr W12)
    obtain ⟨cq16, kq16, qa16, qb16, qc16⟩ := isOf hZ e12 F18
    obtain ⟨_, _, ⟨T16, L16, k16, n16⟩, -, X16, ⟨Lc16, hQ16, l16, y16, z16⟩, st16⟩ := X12.virtualBack hx (y := (⟨"com/example/enlace/enlace/graph/LineFields", "fieldStart", "()I"⟩ : MethodName)) (z := (⟨"com/example/enlace/enlace/graph/LineFields", "fieldStart", "()I"⟩ : MethodName)) hown (mvT hZ (hw _ (List.mem_of_getElem? (i := 52) rfl))) (mvT hZ (hw _ (List.mem_of_getElem? (i := 53) rfl))) (notFace_of_selects (args := #[]) (mvT hZ (hw _ (List.mem_of_getElem? (i := 55) rfl)))) (mvT hZ (hw _ (List.mem_of_getElem? (i := 55) rfl))) (mvT hZ (hw _ (List.mem_of_getElem? (i := 54) rfl))) (by decide) (backOf (W := 0) (rm11 l Z a0 hw [] a (own_nfs us_ e_ q_ fs_) h12 n0 Z12 F17) hZ (hw _ (List.mem_of_getElem? (i := 56) rfl)) (hw _ (List.mem_of_getElem? (i := 18) rfl)) (by decide) (by decide)) qa16 qc16 (g := (mkF m 86 #[.val (.ref a), .val (.int pm_), .val (.int (Nat.toInt32 e_)), .val (.ref st_), .val (.int (own_S pm_ e_ s2_)), .val (.int (own_nr us_ e_ q_)), .unset] [(.ref a)])) rfl (by rw [hml]; rfl) (Steps.refl _) (argsL := []) (rest := []) (lenOf pd_4 rfl) rfl (by show 2 * 0 + _ ≤ _; exact Nat.le_of_eq rfl) (hb hby d9_86) (fun _ _ => ⟨rfl, e12, (by decide : 0 + 0 ≤ _), (by decide : 0 + 0 ≤ _)⟩)
    dsimp only [Pt.U, Pt.locs, Pt.cells, Pt.slots] at X16 l16 y16 z16 st16 hQ16
    subst l16 y16 z16
    obtain ⟨rfl, N16q, e16⟩ := hQ16
    have N16 := Fr.app N12 N16q
    refine own_viaT st16 ?_
    show own_Go p e below s _ _ _ (T16.setTop (mkF m 89 #[.val (.ref a), .val (.int pm_), .val (.int (Nat.toInt32 e_)), .val (.ref st_), .val (.int (own_S pm_ e_ s2_)), .val (.int (own_nr us_ e_ q_)), .unset] [(.int (own_nfs us_ e_ q_ fs_))]))
    refine own_via (fun _ k => XS.aloadN X16.here hx rfl (hb hby d9_89) rfl rfl k) ?_
    show own_Go p e below s _ _ _ (T16.setTop (mkF m 90 #[.val (.ref a), .val (.int pm_), .val (.int (Nat.toInt32 e_)), .val (.ref st_), .val (.int (own_S pm_ e_ s2_)), .val (.int (own_nr us_ e_ q_)), .unset] [(.ref st_), (.int (own_nfs us_ e_ q_ fs_))]))
    refine own_via (fun _ k => XS.iconst X16.here hx rfl (hb hby d9_90) k) ?_
    show own_Go p e below s _ _ _ (T16.setTop (mkF m 91 #[.val (.ref a), .val (.int pm_), .val (.int (Nat.toInt32 e_)), .val (.ref st_), .val (.int (own_S pm_ e_ s2_)), .val (.int (own_nr us_ e_ q_)), .unset] [(.int (0 : Int32)), (.ref st_), (.int (own_nfs us_ e_ q_ fs_))]))
    obtain ⟨cl19, Ar19, q19, S19, M19, H19, G19⟩ := (id V12)
    have hin19 : ¬ ((0 : Int32) < 0 ∨ cl19.slots.size ≤ ((0 : Int32)).toNatClampNeg) := inb_of S19 ⟨by decide, by decide⟩
    have hat19 : cl19.slots[((0 : Int32)).toNatClampNeg]? = some (.int s0_) := Has.at H19 hin19 rfl
    refine own_via (fun _ k => X16.iaload hx (j := (0 : Int32)) (v := (.int s0_)) (by rw [e16]; exact Ar19.1) (State.isArrayOf_alike hZ.alike Ar19.2.1) Ar19.2.2 hin19 hat19 (g := (mkF m 91 #[.val (.ref a), .val (.int pm_), .val (.int (Nat.toInt32 e_)), .val (.ref st_), .val (.int (own_S pm_ e_ s2_)), .val (.int (own_nr us_ e_ q_)), .unset] [(.int (0 : Int32)), (.ref st_), (.int (own_nfs us_ e_ q_ fs_))])) rfl rfl (hb hby d9_91) _ k) ?_
    show own_Go p e below s _ _ _ (T16.setTop (mkF m 92 #[.val (.ref a), .val (.int pm_), .val (.int (Nat.toInt32 e_)), .val (.ref st_), .val (.int (own_S pm_ e_ s2_)), .val (.int (own_nr us_ e_ q_)), .unset] [(.int s0_), (.int (own_nfs us_ e_ q_ fs_))]))
    have hc20 : (own_nfs us_ e_ q_ fs_) = s0_ := by rw [hp15.2.1, own_t0, if_pos hc11]
    refine own_via (fun _ k => XS.icmpNo X16.here hx rfl (hb hby d9_92) rfl (Jvm.Free.XT.ii_ne_f hc20) k) ?_
    show own_Go p e below s _ _ _ (T16.setTop (mkF m 95 #[.val (.ref a), .val (.int pm_), .val (.int (Nat.toInt32 e_)), .val (.ref st_), .val (.int (own_S pm_ e_ s2_)), .val (.int (own_nr us_ e_ q_)), .unset] []))
    refine own_via (fun _ k => XS.aloadN X16.here hx rfl (hb hby d9_95) rfl rfl k) ?_
    show own_Go p e below s _ _ _ (T16.setTop (mkF m 96 #[.val (.ref a), .val (.int pm_), .val (.int (Nat.toInt32 e_)), .val (.ref st_), .val (.int (own_S pm_ e_ s2_)), .val (.int (own_nr us_ e_ q_)), .unset] [(.ref a)]))
    have F22 := (F10.other W12 (Or.inl ne_a_st_))
    obtain ⟨cq21, kq21, qa21, qb21, qc21⟩ := isOf hZ e16 F18
    obtain ⟨_, _, ⟨T21, L21, k21, n21⟩, -, X21, ⟨Lc21, hQ21, l21, y21, z21⟩, st21⟩ := X16.virtualBack hx (y := (⟨"com/example/enlace/enlace/graph/LineFields", "fieldEnd", "()I"⟩ : MethodName)) (z := (⟨"com/example/enlace/enlace/graph/LineFields", "fieldEnd", "()I"⟩ : MethodName)) hown (mvT hZ (hw _ (List.mem_of_getElem? (i := 57) rfl))) (mvT hZ (hw _ (List.mem_of_getElem? (i := 58) rfl))) (notFace_of_selects (args := #[]) (mvT hZ (hw _ (List.mem_of_getElem? (i := 60) rfl)))) (mvT hZ (hw _ (List.mem_of_getElem? (i := 60) rfl))) (mvT hZ (hw _ (List.mem_of_getElem? (i := 59) rfl))) (by decide) (backOf (W := 0) (rm12 l Z a0 hw [] a (own_nft us_ e_ q_ ft_) h12 n0 Z12 F22) hZ (hw _ (List.mem_of_getElem? (i := 61) rfl)) (hw _ (List.mem_of_getElem? (i := 18) rfl)) (by decide) (by decide)) qa21 qc21 (g := (mkF m 96 #[.val (.ref a), .val (.int pm_), .val (.int (Nat.toInt32 e_)), .val (.ref st_), .val (.int (own_S pm_ e_ s2_)), .val (.int (own_nr us_ e_ q_)), .unset] [(.ref a)])) rfl (by rw [hml]; rfl) (Steps.refl _) (argsL := []) (rest := []) (lenOf pd_4 rfl) rfl (by show 2 * 0 + _ ≤ _; exact Nat.le_of_eq rfl) (hb hby d9_96) (fun _ _ => ⟨rfl, e16, (by decide : 0 + 0 ≤ _), (by decide : 0 + 0 ≤ _)⟩)
    dsimp only [Pt.U, Pt.locs, Pt.cells, Pt.slots] at X21 l21 y21 z21 st21 hQ21
    subst l21 y21 z21
    obtain ⟨rfl, N21q, e21⟩ := hQ21
    have N21 := Fr.app N16 N21q
    refine own_viaT st21 ?_
    show own_Go p e below s _ _ _ (T21.setTop (mkF m 99 #[.val (.ref a), .val (.int pm_), .val (.int (Nat.toInt32 e_)), .val (.ref st_), .val (.int (own_S pm_ e_ s2_)), .val (.int (own_nr us_ e_ q_)), .unset] [(.int (own_nft us_ e_ q_ ft_))]))
    refine own_via (fun _ k => XS.aloadN X21.here hx rfl (hb hby d9_99) rfl rfl k) ?_
    show own_Go p e below s _ _ _ (T21.setTop (mkF m 100 #[.val (.ref a), .val (.int pm_), .val (.int (Nat.toInt32 e_)), .val (.ref st_), .val (.int (own_S pm_ e_ s2_)), .val (.int (own_nr us_ e_ q_)), .unset] [(.ref st_), (.int (own_nft us_ e_ q_ ft_))]))
    refine own_via (fun _ k => XS.iconst X21.here hx rfl (hb hby d9_100) k) ?_
    show own_Go p e below s _ _ _ (T21.setTop (mkF m 101 #[.val (.ref a), .val (.int pm_), .val (.int (Nat.toInt32 e_)), .val (.ref st_), .val (.int (own_S pm_ e_ s2_)), .val (.int (own_nr us_ e_ q_)), .unset] [(.int (1 : Int32)), (.ref st_), (.int (own_nft us_ e_ q_ ft_))]))
    obtain ⟨cl23, Ar23, q23, S23, M23, H23, G23⟩ := (id V12)
    have hin23 : ¬ ((1 : Int32) < 0 ∨ cl23.slots.size ≤ ((1 : Int32)).toNatClampNeg) := inb_of S23 ⟨by decide, by decide⟩
    have hat23 : cl23.slots[((1 : Int32)).toNatClampNeg]? = some (.int s1_) := Has.at H23 hin23 rfl
    refine own_via (fun _ k => X21.iaload hx (j := (1 : Int32)) (v := (.int s1_)) (by rw [e21]; exact Ar23.1) (State.isArrayOf_alike hZ.alike Ar23.2.1) Ar23.2.2 hin23 hat23 (g := (mkF m 101 #[.val (.ref a), .val (.int pm_), .val (.int (Nat.toInt32 e_)), .val (.ref st_), .val (.int (own_S pm_ e_ s2_)), .val (.int (own_nr us_ e_ q_)), .unset] [(.int (1 : Int32)), (.ref st_), (.int (own_nft us_ e_ q_ ft_))])) rfl rfl (hb hby d9_101) _ k) ?_
    show own_Go p e below s _ _ _ (T21.setTop (mkF m 102 #[.val (.ref a), .val (.int pm_), .val (.int (Nat.toInt32 e_)), .val (.ref st_), .val (.int (own_S pm_ e_ s2_)), .val (.int (own_nr us_ e_ q_)), .unset] [(.int s1_), (.int (own_nft us_ e_ q_ ft_))]))
    have hc24 : (own_nft us_ e_ q_ ft_) = s1_ := by rw [hp15.2.2, own_t1, if_pos hc11]
    refine own_via (fun _ k => XS.icmpNo X21.here hx rfl (hb hby d9_102) rfl (Jvm.Free.XT.ii_ne_f hc24) k) ?_
    show own_Go p e below s _ _ _ (T21.setTop (mkF m 105 #[.val (.ref a), .val (.int pm_), .val (.int (Nat.toInt32 e_)), .val (.ref st_), .val (.int (own_S pm_ e_ s2_)), .val (.int (own_nr us_ e_ q_)), .unset] []))
    refine own_via (fun _ k => XS.iconst X21.here hx rfl (hb hby d9_105) k) ?_
    show own_Go p e below s _ _ _ (T21.setTop (mkF m 106 #[.val (.ref a), .val (.int pm_), .val (.int (Nat.toInt32 e_)), .val (.ref st_), .val (.int (own_S pm_ e_ s2_)), .val (.int (own_nr us_ e_ q_)), .unset] [(.int (1 : Int32))]))
    refine own_via (fun _ k => XS.goto X21.here hx rfl (pc0 := 106) (pc' := 110) rfl (hb hby d9_106) (by decide) (by decide) k) ?_
    show own_Go p e below s _ _ _ (T21.setTop (mkF m 110 #[.val (.ref a), .val (.int pm_), .val (.int (Nat.toInt32 e_)), .val (.ref st_), .val (.int (own_S pm_ e_ s2_)), .val (.int (own_nr us_ e_ q_)), .unset] [(.int (1 : Int32))]))
    have F25 := (F6.other W12 (Or.inl ne_a_st_))
    have F26 := (F7.other W12 (Or.inl ne_a_st_))
    have F27 := (F8.other W12 (Or.inl ne_a_st_))
    exact own_goN X21 hx (t := .boolean) Bd.returns (by simp) (hb hby d9_110) Bd.notSynchronized (by decide) (by decide) (by rw [e21]; exact ⟨rfl, N21, K12, F18, F25, F26, F27, F17, F22, (by rw [own_t0, own_t1, own_t2, if_pos hc11, if_pos hc11, if_pos hc11]; exact V12)⟩)
  · refine own_via (fun _ k => XS.ifYes X4.here hx rfl (pc0 := 24) (pc' := 34) rfl (hb hby d9_24) rfl (Jvm.Free.XT.i0_ge_t hc11) (by decide) (by decide) k) ?_
    show own_Go p e below s _ _ _ (T4.setTop (mkF m 34 #[.val (.ref a), .val (.int pm_), .val (.int (Nat.toInt32 e_)), .val (.ref st_), .val (.int (own_S pm_ e_ s2_)), .val (.int (own_nr us_ e_ q_)), .unset] []))
    refine own_via (fun _ k => XS.iloadN X4.here hx rfl (hb hby d9_34) rfl k) ?_
    show own_Go p e below s _ _ _ (T4.setTop (mkF m 35 #[.val (.ref a), .val (.int pm_), .val (.int (Nat.toInt32 e_)), .val (.ref st_), .val (.int (own_S pm_ e_ s2_)), .val (.int (own_nr us_ e_ q_)), .unset] [(.int pm_)]))
    refine own_via (fun _ k => XS.iload X4.here hx rfl (hb hby d9_35) rfl k) ?_
    show own_Go p e below s _ _ _ (T4.setTop (mkF m 37 #[.val (.ref a), .val (.int pm_), .val (.int (Nat.toInt32 e_)), .val (.ref st_), .val (.int (own_S pm_ e_ s2_)), .val (.int (own_nr us_ e_ q_)), .unset] [(.int (own_S pm_ e_ s2_)), (.int pm_)]))
    refine own_via (fun _ k => XS.iloadN X4.here hx rfl (hb hby d9_37) rfl k) ?_
    show own_Go p e below s _ _ _ (T4.setTop (mkF m 38 #[.val (.ref a), .val (.int pm_), .val (.int (Nat.toInt32 e_)), .val (.ref st_), .val (.int (own_S pm_ e_ s2_)), .val (.int (own_nr us_ e_ q_)), .unset] [(.int (Nat.toInt32 e_)), (.int (own_S pm_ e_ s2_)), (.int pm_)]))
    obtain ⟨_, _, ⟨T28, L28, k28, n28⟩, -, X28, ⟨Lc28, hQ28, l28, y28, z28⟩, st28⟩ := Jvm.LawKit.callS X4 hx (y := (⟨"com/example/enlace/enlace/graph/LineFieldsAdvancePinLaw", "range", "(II)I"⟩ : MethodName)) hown (mvT hZ (hw _ (List.mem_of_getElem? (i := 9) rfl))) (mvT hZ (hw _ (List.mem_of_getElem? (i := 10) rfl))) (mvT hZ (hw _ (List.mem_of_getElem? (i := 3) rfl))) (mvT hZ (hw _ (List.mem_of_getElem? (i := 11) rfl))) (by decide) (backOf (W := 1) (rm3 l Z a0 hw [] (own_S pm_ e_ s2_) (Nat.toInt32 e_) h4 n0 Z4 ) hZ (hw _ (List.mem_of_getElem? (i := 11) rfl)) (hw _ (List.mem_of_getElem? (i := 3) rfl)) (by decide) (by decide)) (g := (mkF m 38 #[.val (.ref a), .val (.int pm_), .val (.int (Nat.toInt32 e_)), .val (.ref st_), .val (.int (own_S pm_ e_ s2_)), .val (.int (own_nr us_ e_ q_)), .unset] [(.int (Nat.toInt32 e_)), (.int (own_S pm_ e_ s2_)), (.int pm_)])) rfl (by rw [hml]; rfl) (argsL := [(.int (own_S pm_ e_ s2_)), (.int (Nat.toInt32 e_))]) (rest := [(.int pm_)]) (lenOf pd_2 rfl) rfl (by show 2 * 0 + _ ≤ _; exact Nat.le_of_eq rfl) (hb hby d9_38) (fun _ _ => ⟨rfl, e4, (by decide : 0 + 0 ≤ _), (by decide : 0 + 0 ≤ _)⟩)
    dsimp only [Pt.U, Pt.locs, Pt.cells, Pt.slots] at X28 l28 y28 z28 st28 hQ28
    subst l28 y28 z28
    obtain ⟨rfl, N28q, e28⟩ := hQ28
    have N28 := Fr.app N4 N28q
    refine own_via st28 ?_
    show own_Go p e below s _ _ _ (T28.setTop (mkF m 41 #[.val (.ref a), .val (.int pm_), .val (.int (Nat.toInt32 e_)), .val (.ref st_), .val (.int (own_S pm_ e_ s2_)), .val (.int (own_nr us_ e_ q_)), .unset] [(.int (own_rng (own_S pm_ e_ s2_) (Nat.toInt32 e_))), (.int pm_)]))
    refine own_via (fun _ k => XS.iand X28.here hx rfl (hb hby d9_41) rfl k) ?_
    show own_Go p e below s _ _ _ (T28.setTop (mkF m 42 #[.val (.ref a), .val (.int pm_), .val (.int (Nat.toInt32 e_)), .val (.ref st_), .val (.int (own_S pm_ e_ s2_)), .val (.int (own_nr us_ e_ q_)), .unset] [(.int (pm_ &&& (own_rng (own_S pm_ e_ s2_) (Nat.toInt32 e_))))]))
    obtain ⟨_, _, ⟨T29, L29, k29, n29⟩, -, X29, ⟨Lc29, hQ29, l29, y29, z29⟩, st29⟩ := Jvm.LawKit.callS X28 hx (y := (⟨"com/example/enlace/enlace/graph/LineFieldsAdvancePinLaw", "lowest", "(I)I"⟩ : MethodName)) hown (mvT hZ (hw _ (List.mem_of_getElem? (i := 12) rfl))) (mvT hZ (hw _ (List.mem_of_getElem? (i := 13) rfl))) (mvT hZ (hw _ (List.mem_of_getElem? (i := 3) rfl))) (mvT hZ (hw _ (List.mem_of_getElem? (i := 14) rfl))) (by decide) (backOf (W := 0) (rm4 l Z a0 hw [] (pm_ &&& (own_rng (own_S pm_ e_ s2_) (Nat.toInt32 e_))) h4 n0 Z4 ) hZ (hw _ (List.mem_of_getElem? (i := 14) rfl)) (hw _ (List.mem_of_getElem? (i := 3) rfl)) (by decide) (by decide)) (g := (mkF m 42 #[.val (.ref a), .val (.int pm_), .val (.int (Nat.toInt32 e_)), .val (.ref st_), .val (.int (own_S pm_ e_ s2_)), .val (.int (own_nr us_ e_ q_)), .unset] [(.int (pm_ &&& (own_rng (own_S pm_ e_ s2_) (Nat.toInt32 e_))))])) rfl (by rw [hml]; rfl) (argsL := [(.int (pm_ &&& (own_rng (own_S pm_ e_ s2_) (Nat.toInt32 e_))))]) (rest := []) (lenOf pd_1 rfl) rfl (by show 2 * 0 + _ ≤ _; exact Nat.le_of_eq rfl) (hb hby d9_42) (fun _ _ => ⟨rfl, e28, (by decide : 0 + 0 ≤ _), (by decide : 0 + 0 ≤ _)⟩)
    dsimp only [Pt.U, Pt.locs, Pt.cells, Pt.slots] at X29 l29 y29 z29 st29 hQ29
    subst l29 y29 z29
    obtain ⟨rfl, N29q, e29⟩ := hQ29
    have N29 := Fr.app N28 N29q
    refine own_via st29 ?_
    show own_Go p e below s _ _ _ (T29.setTop (mkF m 45 #[.val (.ref a), .val (.int pm_), .val (.int (Nat.toInt32 e_)), .val (.ref st_), .val (.int (own_S pm_ e_ s2_)), .val (.int (own_nr us_ e_ q_)), .unset] [(.int (own_low (pm_ &&& (own_rng (own_S pm_ e_ s2_) (Nat.toInt32 e_)))))]))
    refine own_via (fun _ k => XS.istore X29.here hx rfl (hb hby d9_45) rfl (l' := #[.val (.ref a), .val (.int pm_), .val (.int (Nat.toInt32 e_)), .val (.ref st_), .val (.int (own_S pm_ e_ s2_)), .val (.int (own_nr us_ e_ q_)), .val (.int (own_low (pm_ &&& (own_rng (own_S pm_ e_ s2_) (Nat.toInt32 e_)))))]) rfl k) ?_
    show own_Go p e below s _ _ _ (T29.setTop (mkF m 47 #[.val (.ref a), .val (.int pm_), .val (.int (Nat.toInt32 e_)), .val (.ref st_), .val (.int (own_S pm_ e_ s2_)), .val (.int (own_nr us_ e_ q_)), .val (.int (own_low (pm_ &&& (own_rng (own_S pm_ e_ s2_) (Nat.toInt32 e_)))))] []))
    have st30 : ∀ t, Steps p.tables e below (T29.setTop (mkF m 55 #[.val (.ref a), .val (.int pm_), .val (.int (Nat.toInt32 e_)), .val (.ref st_), .val (.int (own_S pm_ e_ s2_)), .val (.int (own_nr us_ e_ q_)), .val (.int (if (own_low (pm_ &&& (own_rng (own_S pm_ e_ s2_) (Nat.toInt32 e_)))) < (0 : Int32) then (Nat.toInt32 e_) else (own_low (pm_ &&& (own_rng (own_S pm_ e_ s2_) (Nat.toInt32 e_))))))] [])) t → Steps p.tables e below (T29.setTop (mkF m 47 #[.val (.ref a), .val (.int pm_), .val (.int (Nat.toInt32 e_)), .val (.ref st_), .val (.int (own_S pm_ e_ s2_)), .val (.int (own_nr us_ e_ q_)), .val (.int (own_low (pm_ &&& (own_rng (own_S pm_ e_ s2_) (Nat.toInt32 e_)))))] [])) t := by
      intro t k
      refine XS.iload X29.here hx rfl (hb hby d9_47) rfl ?_
      show Steps p.tables e below (T29.setTop (mkF m 49 #[.val (.ref a), .val (.int pm_), .val (.int (Nat.toInt32 e_)), .val (.ref st_), .val (.int (own_S pm_ e_ s2_)), .val (.int (own_nr us_ e_ q_)), .val (.int (own_low (pm_ &&& (own_rng (own_S pm_ e_ s2_) (Nat.toInt32 e_)))))] [(.int (own_low (pm_ &&& (own_rng (own_S pm_ e_ s2_) (Nat.toInt32 e_)))))])) t
      by_cases hq31 : (own_low (pm_ &&& (own_rng (own_S pm_ e_ s2_) (Nat.toInt32 e_)))) < (0 : Int32)
      · refine XS.ifNo X29.here hx rfl (hb hby d9_49) rfl (Jvm.Free.XT.i0_ge_f hq31) ?_
        show Steps p.tables e below (T29.setTop (mkF m 52 #[.val (.ref a), .val (.int pm_), .val (.int (Nat.toInt32 e_)), .val (.ref st_), .val (.int (own_S pm_ e_ s2_)), .val (.int (own_nr us_ e_ q_)), .val (.int (own_low (pm_ &&& (own_rng (own_S pm_ e_ s2_) (Nat.toInt32 e_)))))] [])) t
        refine XS.iloadN X29.here hx rfl (hb hby d9_52) rfl ?_
        show Steps p.tables e below (T29.setTop (mkF m 53 #[.val (.ref a), .val (.int pm_), .val (.int (Nat.toInt32 e_)), .val (.ref st_), .val (.int (own_S pm_ e_ s2_)), .val (.int (own_nr us_ e_ q_)), .val (.int (own_low (pm_ &&& (own_rng (own_S pm_ e_ s2_) (Nat.toInt32 e_)))))] [(.int (Nat.toInt32 e_))])) t
        refine XS.istore X29.here hx rfl (hb hby d9_53) rfl (l' := #[.val (.ref a), .val (.int pm_), .val (.int (Nat.toInt32 e_)), .val (.ref st_), .val (.int (own_S pm_ e_ s2_)), .val (.int (own_nr us_ e_ q_)), .val (.int (Nat.toInt32 e_))]) rfl ?_
        show Steps p.tables e below (T29.setTop (mkF m 55 #[.val (.ref a), .val (.int pm_), .val (.int (Nat.toInt32 e_)), .val (.ref st_), .val (.int (own_S pm_ e_ s2_)), .val (.int (own_nr us_ e_ q_)), .val (.int (Nat.toInt32 e_))] [])) t
        simp only [if_pos hq31] at k
        exact k
      · refine XS.ifYes X29.here hx rfl (pc0 := 49) (pc' := 55) rfl (hb hby d9_49) rfl (Jvm.Free.XT.i0_ge_t hq31) (by decide) (by decide) ?_
        show Steps p.tables e below (T29.setTop (mkF m 55 #[.val (.ref a), .val (.int pm_), .val (.int (Nat.toInt32 e_)), .val (.ref st_), .val (.int (own_S pm_ e_ s2_)), .val (.int (own_nr us_ e_ q_)), .val (.int (own_low (pm_ &&& (own_rng (own_S pm_ e_ s2_) (Nat.toInt32 e_)))))] [])) t
        simp only [if_neg hq31] at k
        exact k
    refine own_via st30 ?_
    show own_Go p e below s _ _ _ (T29.setTop (mkF m 55 #[.val (.ref a), .val (.int pm_), .val (.int (Nat.toInt32 e_)), .val (.ref st_), .val (.int (own_S pm_ e_ s2_)), .val (.int (own_nr us_ e_ q_)), .val (.int (if (own_low (pm_ &&& (own_rng (own_S pm_ e_ s2_) (Nat.toInt32 e_)))) < (0 : Int32) then (Nat.toInt32 e_) else (own_low (pm_ &&& (own_rng (own_S pm_ e_ s2_) (Nat.toInt32 e_))))))] []))
    rw [show (if (own_low (pm_ &&& (own_rng (own_S pm_ e_ s2_) (Nat.toInt32 e_)))) < (0 : Int32) then (Nat.toInt32 e_) else (own_low (pm_ &&& (own_rng (own_S pm_ e_ s2_) (Nat.toInt32 e_))))) = (own_T pm_ e_ s2_) from rfl]
    show own_Go p e below s _ _ _ (T29.setTop (mkF m 55 #[.val (.ref a), .val (.int pm_), .val (.int (Nat.toInt32 e_)), .val (.ref st_), .val (.int (own_S pm_ e_ s2_)), .val (.int (own_nr us_ e_ q_)), .val (.int (own_T pm_ e_ s2_))] []))
    refine own_via (fun _ k => XS.aloadN X29.here hx rfl (hb hby d9_55) rfl rfl k) ?_
    show own_Go p e below s _ _ _ (T29.setTop (mkF m 56 #[.val (.ref a), .val (.int pm_), .val (.int (Nat.toInt32 e_)), .val (.ref st_), .val (.int (own_S pm_ e_ s2_)), .val (.int (own_nr us_ e_ q_)), .val (.int (own_T pm_ e_ s2_))] [(.ref st_)]))
    refine own_via (fun _ k => XS.iconst X29.here hx rfl (hb hby d9_56) k) ?_
    show own_Go p e below s _ _ _ (T29.setTop (mkF m 57 #[.val (.ref a), .val (.int pm_), .val (.int (Nat.toInt32 e_)), .val (.ref st_), .val (.int (own_S pm_ e_ s2_)), .val (.int (own_nr us_ e_ q_)), .val (.int (own_T pm_ e_ s2_))] [(.int (0 : Int32)), (.ref st_)]))
    refine own_via (fun _ k => XS.iload X29.here hx rfl (hb hby d9_57) rfl k) ?_
    show own_Go p e below s _ _ _ (T29.setTop (mkF m 59 #[.val (.ref a), .val (.int pm_), .val (.int (Nat.toInt32 e_)), .val (.ref st_), .val (.int (own_S pm_ e_ s2_)), .val (.int (own_nr us_ e_ q_)), .val (.int (own_T pm_ e_ s2_))] [(.int (own_S pm_ e_ s2_)), (.int (0 : Int32)), (.ref st_)]))
    have F33 := (V_st_.keep Kq4 (ninS (Ne.symm ne_a_st_) nin0))
    obtain ⟨cl32, Ar32, q32, S32, M32, H32, G32⟩ := (id F33)
    have hin32 : ¬ ((0 : Int32) < 0 ∨ cl32.slots.size ≤ ((0 : Int32)).toNatClampNeg) := inb_of S32 ⟨by decide, by decide⟩
    obtain ⟨T32, h32, X32, e32, W32, st32⟩ := stI X29 hx hZ e29 Ar32 (j := (0 : Int32)) hin32 (g := (mkF m 59 #[.val (.ref a), .val (.int pm_), .val (.int (Nat.toInt32 e_)), .val (.ref st_), .val (.int (own_S pm_ e_ s2_)), .val (.int (own_nr us_ e_ q_)), .val (.int (own_T pm_ e_ s2_))] [(.int (own_S pm_ e_ s2_)), (.int (0 : Int32)), (.ref st_)])) rfl rfl (hb hby d9_59)
    have V32 : Arv Z h32 st_ kst_ .int (3 : Int32) [(.int (own_S pm_ e_ s2_)), (.int s1_), (.int s2_)] (.int (0 : Int32)) := Arv.set Ar32 q32 S32 M32 H32 G32 rfl W32 0 rfl (Nat.le_of_ble_eq_true rfl)
    have N32 := Fr.snoc X32 N29 g_st_
    have Z32 : n0 ≤ h32.size := Nat.le_trans Z4 (Keep.of_wr W32).1
    have K32 : Keep h0 h32 [a, st_] := K4.wr W32 (Or.inl (List.mem_of_getElem? (i := 1) rfl))
    refine own_via st32 ?_
    show own_Go p e below s _ _ _ (T32.setTop (mkF m 60 #[.val (.ref a), .val (.int pm_), .val (.int (Nat.toInt32 e_)), .val (.ref st_), .val (.int (own_S pm_ e_ s2_)), .val (.int (own_nr us_ e_ q_)), .val (.int (own_T pm_ e_ s2_))] []))
    refine own_via (fun _ k => XS.aloadN X32.here hx rfl (hb hby d9_60) rfl rfl k) ?_
    show own_Go p e below s _ _ _ (T32.setTop (mkF m 61 #[.val (.ref a), .val (.int pm_), .val (.int (Nat.toInt32 e_)), .val (.ref st_), .val (.int (own_S pm_ e_ s2_)), .val (.int (own_nr us_ e_ q_)), .val (.int (own_T pm_ e_ s2_))] [(.ref st_)]))
    refine own_via (fun _ k => XS.iconst X32.here hx rfl (hb hby d9_61) k) ?_
    show own_Go p e below s _ _ _ (T32.setTop (mkF m 62 #[.val (.ref a), .val (.int pm_), .val (.int (Nat.toInt32 e_)), .val (.ref st_), .val (.int (own_S pm_ e_ s2_)), .val (.int (own_nr us_ e_ q_)), .val (.int (own_T pm_ e_ s2_))] [(.int (1 : Int32)), (.ref st_)]))
    refine own_via (fun _ k => XS.iload X32.here hx rfl (hb hby d9_62) rfl k) ?_
    show own_Go p e below s _ _ _ (T32.setTop (mkF m 64 #[.val (.ref a), .val (.int pm_), .val (.int (Nat.toInt32 e_)), .val (.ref st_), .val (.int (own_S pm_ e_ s2_)), .val (.int (own_nr us_ e_ q_)), .val (.int (own_T pm_ e_ s2_))] [(.int (own_T pm_ e_ s2_)), (.int (1 : Int32)), (.ref st_)]))
    obtain ⟨cl34, Ar34, q34, S34, M34, H34, G34⟩ := (id V32)
    have hin34 : ¬ ((1 : Int32) < 0 ∨ cl34.slots.size ≤ ((1 : Int32)).toNatClampNeg) := inb_of S34 ⟨by decide, by decide⟩
    obtain ⟨T34, h34, X34, e34, W34, st34⟩ := stI X32 hx hZ e32 Ar34 (j := (1 : Int32)) hin34 (g := (mkF m 64 #[.val (.ref a), .val (.int pm_), .val (.int (Nat.toInt32 e_)), .val (.ref st_), .val (.int (own_S pm_ e_ s2_)), .val (.int (own_nr us_ e_ q_)), .val (.int (own_T pm_ e_ s2_))] [(.int (own_T pm_ e_ s2_)), (.int (1 : Int32)), (.ref st_)])) rfl rfl (hb hby d9_64)
    have V34 : Arv Z h34 st_ kst_ .int (3 : Int32) [(.int (own_S pm_ e_ s2_)), (.int (own_T pm_ e_ s2_)), (.int s2_)] (.int (0 : Int32)) := Arv.set Ar34 q34 S34 M34 H34 G34 rfl W34 1 rfl (Nat.le_of_ble_eq_true rfl)
    have N34 := Fr.snoc X34 N32 g_st_
    have Z34 : n0 ≤ h34.size := Nat.le_trans Z32 (Keep.of_wr W34).1
    have K34 : Keep h0 h34 [a, st_] := K32.wr W34 (Or.inl (List.mem_of_getElem? (i := 1) rfl))
    refine own_via st34 ?_
    show own_Go p e below s _ _ _ (T34.setTop (mkF m 65 #[.val (.ref a), .val (.int pm_), .val (.int (Nat.toInt32 e_)), .val (.ref st_), .val (.int (own_S pm_ e_ s2_)), .val (.int (own_nr us_ e_ q_)), .val (.int (own_T pm_ e_ s2_))] []))
    refine own_via (fun _ k => XS.aloadN X34.here hx rfl (hb hby d9_65) rfl rfl k) ?_
    show own_Go p e below s _ _ _ (T34.setTop (mkF m 66 #[.val (.ref a), .val (.int pm_), .val (.int (Nat.toInt32 e_)), .val (.ref st_), .val (.int (own_S pm_ e_ s2_)), .val (.int (own_nr us_ e_ q_)), .val (.int (own_T pm_ e_ s2_))] [(.ref st_)]))
    refine own_via (fun _ k => XS.iconst X34.here hx rfl (hb hby d9_66) k) ?_
    show own_Go p e below s _ _ _ (T34.setTop (mkF m 67 #[.val (.ref a), .val (.int pm_), .val (.int (Nat.toInt32 e_)), .val (.ref st_), .val (.int (own_S pm_ e_ s2_)), .val (.int (own_nr us_ e_ q_)), .val (.int (own_T pm_ e_ s2_))] [(.int (2 : Int32)), (.ref st_)]))
    refine own_via (fun _ k => XS.iload X34.here hx rfl (hb hby d9_67) rfl k) ?_
    show own_Go p e below s _ _ _ (T34.setTop (mkF m 69 #[.val (.ref a), .val (.int pm_), .val (.int (Nat.toInt32 e_)), .val (.ref st_), .val (.int (own_S pm_ e_ s2_)), .val (.int (own_nr us_ e_ q_)), .val (.int (own_T pm_ e_ s2_))] [(.int (own_T pm_ e_ s2_)), (.int (2 : Int32)), (.ref st_)]))
    obtain ⟨cl35, Ar35, q35, S35, M35, H35, G35⟩ := (id V34)
    have hin35 : ¬ ((2 : Int32) < 0 ∨ cl35.slots.size ≤ ((2 : Int32)).toNatClampNeg) := inb_of S35 ⟨by decide, by decide⟩
    obtain ⟨T35, h35, X35, e35, W35, st35⟩ := stI X34 hx hZ e34 Ar35 (j := (2 : Int32)) hin35 (g := (mkF m 69 #[.val (.ref a), .val (.int pm_), .val (.int (Nat.toInt32 e_)), .val (.ref st_), .val (.int (own_S pm_ e_ s2_)), .val (.int (own_nr us_ e_ q_)), .val (.int (own_T pm_ e_ s2_))] [(.int (own_T pm_ e_ s2_)), (.int (2 : Int32)), (.ref st_)])) rfl rfl (hb hby d9_69)
    have V35 : Arv Z h35 st_ kst_ .int (3 : Int32) [(.int (own_S pm_ e_ s2_)), (.int (own_T pm_ e_ s2_)), (.int (own_T pm_ e_ s2_))] (.int (0 : Int32)) := Arv.set Ar35 q35 S35 M35 H35 G35 rfl W35 2 rfl (Nat.le_of_ble_eq_true rfl)
    have N35 := Fr.snoc X35 N34 g_st_
    have Z35 : n0 ≤ h35.size := Nat.le_trans Z34 (Keep.of_wr W35).1
    have K35 : Keep h0 h35 [a, st_] := K34.wr W35 (Or.inl (List.mem_of_getElem? (i := 1) rfl))
    refine own_via st35 ?_
    show own_Go p e below s _ _ _ (T35.setTop (mkF m 70 #[.val (.ref a), .val (.int pm_), .val (.int (Nat.toInt32 e_)), .val (.ref st_), .val (.int (own_S pm_ e_ s2_)), .val (.int (own_nr us_ e_ q_)), .val (.int (own_T pm_ e_ s2_))] []))
    refine own_via (fun _ k => XS.iload X35.here hx rfl (hb hby d9_70) rfl k) ?_
    show own_Go p e below s _ _ _ (T35.setTop (mkF m 72 #[.val (.ref a), .val (.int pm_), .val (.int (Nat.toInt32 e_)), .val (.ref st_), .val (.int (own_S pm_ e_ s2_)), .val (.int (own_nr us_ e_ q_)), .val (.int (own_T pm_ e_ s2_))] [(.int (own_nr us_ e_ q_))]))
    refine own_via (fun _ k => XS.iload X35.here hx rfl (hb hby d9_72) rfl k) ?_
    show own_Go p e below s _ _ _ (T35.setTop (mkF m 74 #[.val (.ref a), .val (.int pm_), .val (.int (Nat.toInt32 e_)), .val (.ref st_), .val (.int (own_S pm_ e_ s2_)), .val (.int (own_nr us_ e_ q_)), .val (.int (own_T pm_ e_ s2_))] [(.int (own_S pm_ e_ s2_)), (.int (own_nr us_ e_ q_))]))
    have hc36 : ¬ ((own_S pm_ e_ s2_) < (0 : Int32)) := hc11
    refine own_via (fun _ k => XS.ifNo X35.here hx rfl (hb hby d9_74) rfl (Jvm.Free.XT.i0_lt_f hc36) k) ?_
    show own_Go p e below s _ _ _ (T35.setTop (mkF m 77 #[.val (.ref a), .val (.int pm_), .val (.int (Nat.toInt32 e_)), .val (.ref st_), .val (.int (own_S pm_ e_ s2_)), .val (.int (own_nr us_ e_ q_)), .val (.int (own_T pm_ e_ s2_))] [(.int (own_nr us_ e_ q_))]))
    refine own_via (fun _ k => XS.iconst X35.here hx rfl (hb hby d9_77) k) ?_
    show own_Go p e below s _ _ _ (T35.setTop (mkF m 78 #[.val (.ref a), .val (.int pm_), .val (.int (Nat.toInt32 e_)), .val (.ref st_), .val (.int (own_S pm_ e_ s2_)), .val (.int (own_nr us_ e_ q_)), .val (.int (own_T pm_ e_ s2_))] [(.int (1 : Int32)), (.int (own_nr us_ e_ q_))]))
    refine own_via (fun _ k => XS.goto X35.here hx rfl (pc0 := 78) (pc' := 82) rfl (hb hby d9_78) (by decide) (by decide) k) ?_
    show own_Go p e below s _ _ _ (T35.setTop (mkF m 82 #[.val (.ref a), .val (.int pm_), .val (.int (Nat.toInt32 e_)), .val (.ref st_), .val (.int (own_S pm_ e_ s2_)), .val (.int (own_nr us_ e_ q_)), .val (.int (own_T pm_ e_ s2_))] [(.int (1 : Int32)), (.int (own_nr us_ e_ q_))]))
    have hc37 : (own_nr us_ e_ q_) = (1 : Int32) := by rw [hp15.1, if_neg hc11]
    refine own_via (fun _ k => XS.icmpNo X35.here hx rfl (hb hby d9_82) rfl (Jvm.Free.XT.ii_ne_f hc37) k) ?_
    show own_Go p e below s _ _ _ (T35.setTop (mkF m 85 #[.val (.ref a), .val (.int pm_), .val (.int (Nat.toInt32 e_)), .val (.ref st_), .val (.int (own_S pm_ e_ s2_)), .val (.int (own_nr us_ e_ q_)), .val (.int (own_T pm_ e_ s2_))] []))
    refine own_via (fun _ k => XS.aloadN X35.here hx rfl (hb hby d9_85) rfl rfl k) ?_
    show own_Go p e below s _ _ _ (T35.setTop (mkF m 86 #[.val (.ref a), .val (.int pm_), .val (.int (Nat.toInt32 e_)), .val (.ref st_), .val (.int (own_S pm_ e_ s2_)), .val (.int (own_nr us_ e_ q_)), .val (.int (own_T pm_ e_ s2_))] [(.ref a)]))
    have F39 := (((F9.other W32 (Or.inl ne_a_st_)).other W34 (Or.inl ne_a_st_)).other W35 (Or.inl ne_a_st_))
    have F40 := (((F5.wr W32).wr W34).wr W35)
    obtain ⟨cq38, kq38, qa38, qb38, qc38⟩ := isOf hZ e35 F40
    obtain ⟨_, _, ⟨T38, L38, k38, n38⟩, -, X38, ⟨Lc38, hQ38, l38, y38, z38⟩, st38⟩ := X35.virtualBack hx (y := (⟨"com/example/enlace/enlace/graph/LineFields", "fieldStart", "()I"⟩ : MethodName)) (z := (⟨"com/example/enlace/enlace/graph/LineFields", "fieldStart", "()I"⟩ : MethodName)) hown (mvT hZ (hw _ (List.mem_of_getElem? (i := 52) rfl))) (mvT hZ (hw _ (List.mem_of_getElem? (i := 53) rfl))) (notFace_of_selects (args := #[]) (mvT hZ (hw _ (List.mem_of_getElem? (i := 55) rfl)))) (mvT hZ (hw _ (List.mem_of_getElem? (i := 55) rfl))) (mvT hZ (hw _ (List.mem_of_getElem? (i := 54) rfl))) (by decide) (backOf (W := 0) (rm11 l Z a0 hw [] a (own_nfs us_ e_ q_ fs_) h35 n0 Z35 F39) hZ (hw _ (List.mem_of_getElem? (i := 56) rfl)) (hw _ (List.mem_of_getElem? (i := 18) rfl)) (by decide) (by decide)) qa38 qc38 (g := (mkF m 86 #[.val (.ref a), .val (.int pm_), .val (.int (Nat.toInt32 e_)), .val (.ref st_), .val (.int (own_S pm_ e_ s2_)), .val (.int (own_nr us_ e_ q_)), .val (.int (own_T pm_ e_ s2_))] [(.ref a)])) rfl (by rw [hml]; rfl) (Steps.refl _) (argsL := []) (rest := []) (lenOf pd_4 rfl) rfl (by show 2 * 0 + _ ≤ _; exact Nat.le_of_eq rfl) (hb hby d9_86) (fun _ _ => ⟨rfl, e35, (by decide : 0 + 0 ≤ _), (by decide : 0 + 0 ≤ _)⟩)
    dsimp only [Pt.U, Pt.locs, Pt.cells, Pt.slots] at X38 l38 y38 z38 st38 hQ38
    subst l38 y38 z38
    obtain ⟨rfl, N38q, e38⟩ := hQ38
    have N38 := Fr.app N35 N38q
    refine own_viaT st38 ?_
    show own_Go p e below s _ _ _ (T38.setTop (mkF m 89 #[.val (.ref a), .val (.int pm_), .val (.int (Nat.toInt32 e_)), .val (.ref st_), .val (.int (own_S pm_ e_ s2_)), .val (.int (own_nr us_ e_ q_)), .val (.int (own_T pm_ e_ s2_))] [(.int (own_nfs us_ e_ q_ fs_))]))
    refine own_via (fun _ k => XS.aloadN X38.here hx rfl (hb hby d9_89) rfl rfl k) ?_
    show own_Go p e below s _ _ _ (T38.setTop (mkF m 90 #[.val (.ref a), .val (.int pm_), .val (.int (Nat.toInt32 e_)), .val (.ref st_), .val (.int (own_S pm_ e_ s2_)), .val (.int (own_nr us_ e_ q_)), .val (.int (own_T pm_ e_ s2_))] [(.ref st_), (.int (own_nfs us_ e_ q_ fs_))]))
    refine own_via (fun _ k => XS.iconst X38.here hx rfl (hb hby d9_90) k) ?_
    show own_Go p e below s _ _ _ (T38.setTop (mkF m 91 #[.val (.ref a), .val (.int pm_), .val (.int (Nat.toInt32 e_)), .val (.ref st_), .val (.int (own_S pm_ e_ s2_)), .val (.int (own_nr us_ e_ q_)), .val (.int (own_T pm_ e_ s2_))] [(.int (0 : Int32)), (.ref st_), (.int (own_nfs us_ e_ q_ fs_))]))
    obtain ⟨cl41, Ar41, q41, S41, M41, H41, G41⟩ := (id V35)
    have hin41 : ¬ ((0 : Int32) < 0 ∨ cl41.slots.size ≤ ((0 : Int32)).toNatClampNeg) := inb_of S41 ⟨by decide, by decide⟩
    have hat41 : cl41.slots[((0 : Int32)).toNatClampNeg]? = some (.int (own_S pm_ e_ s2_)) := Has.at H41 hin41 rfl
    refine own_via (fun _ k => X38.iaload hx (j := (0 : Int32)) (v := (.int (own_S pm_ e_ s2_))) (by rw [e38]; exact Ar41.1) (State.isArrayOf_alike hZ.alike Ar41.2.1) Ar41.2.2 hin41 hat41 (g := (mkF m 91 #[.val (.ref a), .val (.int pm_), .val (.int (Nat.toInt32 e_)), .val (.ref st_), .val (.int (own_S pm_ e_ s2_)), .val (.int (own_nr us_ e_ q_)), .val (.int (own_T pm_ e_ s2_))] [(.int (0 : Int32)), (.ref st_), (.int (own_nfs us_ e_ q_ fs_))])) rfl rfl (hb hby d9_91) _ k) ?_
    show own_Go p e below s _ _ _ (T38.setTop (mkF m 92 #[.val (.ref a), .val (.int pm_), .val (.int (Nat.toInt32 e_)), .val (.ref st_), .val (.int (own_S pm_ e_ s2_)), .val (.int (own_nr us_ e_ q_)), .val (.int (own_T pm_ e_ s2_))] [(.int (own_S pm_ e_ s2_)), (.int (own_nfs us_ e_ q_ fs_))]))
    have hc42 : (own_nfs us_ e_ q_ fs_) = (own_S pm_ e_ s2_) := by rw [hp15.2.1, own_t0, if_neg hc11]
    refine own_via (fun _ k => XS.icmpNo X38.here hx rfl (hb hby d9_92) rfl (Jvm.Free.XT.ii_ne_f hc42) k) ?_
    show own_Go p e below s _ _ _ (T38.setTop (mkF m 95 #[.val (.ref a), .val (.int pm_), .val (.int (Nat.toInt32 e_)), .val (.ref st_), .val (.int (own_S pm_ e_ s2_)), .val (.int (own_nr us_ e_ q_)), .val (.int (own_T pm_ e_ s2_))] []))
    refine own_via (fun _ k => XS.aloadN X38.here hx rfl (hb hby d9_95) rfl rfl k) ?_
    show own_Go p e below s _ _ _ (T38.setTop (mkF m 96 #[.val (.ref a), .val (.int pm_), .val (.int (Nat.toInt32 e_)), .val (.ref st_), .val (.int (own_S pm_ e_ s2_)), .val (.int (own_nr us_ e_ q_)), .val (.int (own_T pm_ e_ s2_))] [(.ref a)]))
    have F44 := (((F10.other W32 (Or.inl ne_a_st_)).other W34 (Or.inl ne_a_st_)).other W35 (Or.inl ne_a_st_))
    obtain ⟨cq43, kq43, qa43, qb43, qc43⟩ := isOf hZ e38 F40
    obtain ⟨_, _, ⟨T43, L43, k43, n43⟩, -, X43, ⟨Lc43, hQ43, l43, y43, z43⟩, st43⟩ := X38.virtualBack hx (y := (⟨"com/example/enlace/enlace/graph/LineFields", "fieldEnd", "()I"⟩ : MethodName)) (z := (⟨"com/example/enlace/enlace/graph/LineFields", "fieldEnd", "()I"⟩ : MethodName)) hown (mvT hZ (hw _ (List.mem_of_getElem? (i := 57) rfl))) (mvT hZ (hw _ (List.mem_of_getElem? (i := 58) rfl))) (notFace_of_selects (args := #[]) (mvT hZ (hw _ (List.mem_of_getElem? (i := 60) rfl)))) (mvT hZ (hw _ (List.mem_of_getElem? (i := 60) rfl))) (mvT hZ (hw _ (List.mem_of_getElem? (i := 59) rfl))) (by decide) (backOf (W := 0) (rm12 l Z a0 hw [] a (own_nft us_ e_ q_ ft_) h35 n0 Z35 F44) hZ (hw _ (List.mem_of_getElem? (i := 61) rfl)) (hw _ (List.mem_of_getElem? (i := 18) rfl)) (by decide) (by decide)) qa43 qc43 (g := (mkF m 96 #[.val (.ref a), .val (.int pm_), .val (.int (Nat.toInt32 e_)), .val (.ref st_), .val (.int (own_S pm_ e_ s2_)), .val (.int (own_nr us_ e_ q_)), .val (.int (own_T pm_ e_ s2_))] [(.ref a)])) rfl (by rw [hml]; rfl) (Steps.refl _) (argsL := []) (rest := []) (lenOf pd_4 rfl) rfl (by show 2 * 0 + _ ≤ _; exact Nat.le_of_eq rfl) (hb hby d9_96) (fun _ _ => ⟨rfl, e38, (by decide : 0 + 0 ≤ _), (by decide : 0 + 0 ≤ _)⟩)
    dsimp only [Pt.U, Pt.locs, Pt.cells, Pt.slots] at X43 l43 y43 z43 st43 hQ43
    subst l43 y43 z43
    obtain ⟨rfl, N43q, e43⟩ := hQ43
    have N43 := Fr.app N38 N43q
    refine own_viaT st43 ?_
    show own_Go p e below s _ _ _ (T43.setTop (mkF m 99 #[.val (.ref a), .val (.int pm_), .val (.int (Nat.toInt32 e_)), .val (.ref st_), .val (.int (own_S pm_ e_ s2_)), .val (.int (own_nr us_ e_ q_)), .val (.int (own_T pm_ e_ s2_))] [(.int (own_nft us_ e_ q_ ft_))]))
    refine own_via (fun _ k => XS.aloadN X43.here hx rfl (hb hby d9_99) rfl rfl k) ?_
    show own_Go p e below s _ _ _ (T43.setTop (mkF m 100 #[.val (.ref a), .val (.int pm_), .val (.int (Nat.toInt32 e_)), .val (.ref st_), .val (.int (own_S pm_ e_ s2_)), .val (.int (own_nr us_ e_ q_)), .val (.int (own_T pm_ e_ s2_))] [(.ref st_), (.int (own_nft us_ e_ q_ ft_))]))
    refine own_via (fun _ k => XS.iconst X43.here hx rfl (hb hby d9_100) k) ?_
    show own_Go p e below s _ _ _ (T43.setTop (mkF m 101 #[.val (.ref a), .val (.int pm_), .val (.int (Nat.toInt32 e_)), .val (.ref st_), .val (.int (own_S pm_ e_ s2_)), .val (.int (own_nr us_ e_ q_)), .val (.int (own_T pm_ e_ s2_))] [(.int (1 : Int32)), (.ref st_), (.int (own_nft us_ e_ q_ ft_))]))
    obtain ⟨cl45, Ar45, q45, S45, M45, H45, G45⟩ := (id V35)
    have hin45 : ¬ ((1 : Int32) < 0 ∨ cl45.slots.size ≤ ((1 : Int32)).toNatClampNeg) := inb_of S45 ⟨by decide, by decide⟩
    have hat45 : cl45.slots[((1 : Int32)).toNatClampNeg]? = some (.int (own_T pm_ e_ s2_)) := Has.at H45 hin45 rfl
    refine own_via (fun _ k => X43.iaload hx (j := (1 : Int32)) (v := (.int (own_T pm_ e_ s2_))) (by rw [e43]; exact Ar45.1) (State.isArrayOf_alike hZ.alike Ar45.2.1) Ar45.2.2 hin45 hat45 (g := (mkF m 101 #[.val (.ref a), .val (.int pm_), .val (.int (Nat.toInt32 e_)), .val (.ref st_), .val (.int (own_S pm_ e_ s2_)), .val (.int (own_nr us_ e_ q_)), .val (.int (own_T pm_ e_ s2_))] [(.int (1 : Int32)), (.ref st_), (.int (own_nft us_ e_ q_ ft_))])) rfl rfl (hb hby d9_101) _ k) ?_
    show own_Go p e below s _ _ _ (T43.setTop (mkF m 102 #[.val (.ref a), .val (.int pm_), .val (.int (Nat.toInt32 e_)), .val (.ref st_), .val (.int (own_S pm_ e_ s2_)), .val (.int (own_nr us_ e_ q_)), .val (.int (own_T pm_ e_ s2_))] [(.int (own_T pm_ e_ s2_)), (.int (own_nft us_ e_ q_ ft_))]))
    have hc46 : (own_nft us_ e_ q_ ft_) = (own_T pm_ e_ s2_) := by rw [hp15.2.2, own_t1, if_neg hc11]
    refine own_via (fun _ k => XS.icmpNo X43.here hx rfl (hb hby d9_102) rfl (Jvm.Free.XT.ii_ne_f hc46) k) ?_
    show own_Go p e below s _ _ _ (T43.setTop (mkF m 105 #[.val (.ref a), .val (.int pm_), .val (.int (Nat.toInt32 e_)), .val (.ref st_), .val (.int (own_S pm_ e_ s2_)), .val (.int (own_nr us_ e_ q_)), .val (.int (own_T pm_ e_ s2_))] []))
    refine own_via (fun _ k => XS.iconst X43.here hx rfl (hb hby d9_105) k) ?_
    show own_Go p e below s _ _ _ (T43.setTop (mkF m 106 #[.val (.ref a), .val (.int pm_), .val (.int (Nat.toInt32 e_)), .val (.ref st_), .val (.int (own_S pm_ e_ s2_)), .val (.int (own_nr us_ e_ q_)), .val (.int (own_T pm_ e_ s2_))] [(.int (1 : Int32))]))
    refine own_via (fun _ k => XS.goto X43.here hx rfl (pc0 := 106) (pc' := 110) rfl (hb hby d9_106) (by decide) (by decide) k) ?_
    show own_Go p e below s _ _ _ (T43.setTop (mkF m 110 #[.val (.ref a), .val (.int pm_), .val (.int (Nat.toInt32 e_)), .val (.ref st_), .val (.int (own_S pm_ e_ s2_)), .val (.int (own_nr us_ e_ q_)), .val (.int (own_T pm_ e_ s2_))] [(.int (1 : Int32))]))
    have F47 := (((F6.other W32 (Or.inl ne_a_st_)).other W34 (Or.inl ne_a_st_)).other W35 (Or.inl ne_a_st_))
    have F48 := (((F7.other W32 (Or.inl ne_a_st_)).other W34 (Or.inl ne_a_st_)).other W35 (Or.inl ne_a_st_))
    have F49 := (((F8.other W32 (Or.inl ne_a_st_)).other W34 (Or.inl ne_a_st_)).other W35 (Or.inl ne_a_st_))
    exact own_goN X43 hx (t := .boolean) Bd.returns (by simp) (hb hby d9_110) Bd.notSynchronized (by decide) (by decide) (by rw [e43]; exact ⟨rfl, N43, K35, F40, F47, F48, F49, F39, F44, (by rw [own_t0, own_t1, own_t2, if_neg hc11, if_neg hc11, if_neg hc11]; exact V35)⟩)
theorem own_pos_r {us : List Int32} {s e : Nat} (h : s ≤ e) : own_pos us s e ≤ e := by
  have := own_sk_r us (e - s) s
  unfold own_pos; split <;> omega
theorem own_st (x : Int32) {v : Int32} (h : (o_irem (x &&& (2147483647 : Int32)) (6 : Int32)) = v) : ∃ s : Nat, s < 6 ∧ v = Nat.toInt32 s := by
  have m0 := (c_and x 2147483647 (by decide)).1
  have m1 : o_irem (x &&& (2147483647 : Int32)) (6 : Int32) = (x &&& (2147483647 : Int32)) % 6 := irem_eq_mod _ _
  have m2 := (c_irem (x &&& (2147483647 : Int32)) 6 6 rfl).1 m0
  rw [← m1, h] at m2
  refine ⟨v.toInt.toNat, by omega, ?_⟩
  apply Int32.toInt_inj.mp
  rw [own_t _ (by omega)]; omega
theorem own_sub6 {s : Nat} (hs : s < 6) : ((6 : Int32) - Nat.toInt32 s).toInt = 6 - s := by
  have := c_isub 6 (Nat.toInt32 s); have := rng32 ((6 : Int32) - Nat.toInt32 s); have := own_t s (by omega)
  simp only [Int32.reduceToInt] at *; omega
theorem own_nz6 {s : Nat} (hs : s < 6) : ((6 : Int32) - Nat.toInt32 s) ≠ 0 := by
  intro q; have := own_sub6 hs; rw [q] at this; simp only [Int32.reduceToInt] at this; omega
theorem own_en (x : Int32) {s : Nat} {v : Int32} (hs : s < 6) (h : ((Nat.toInt32 s) + (o_irem (x &&& (2147483647 : Int32)) ((6 : Int32) - (Nat.toInt32 s)))) = v) : ∃ e : Nat, s ≤ e ∧ e ≤ 5 ∧ v = Nat.toInt32 e := by
  have m0 := (c_and x 2147483647 (by decide)).1
  have m1 : o_irem (x &&& (2147483647 : Int32)) ((6 : Int32) - Nat.toInt32 s) = (x &&& (2147483647 : Int32)) % ((6 : Int32) - Nat.toInt32 s) := irem_eq_mod _ _
  have m3 := own_sub6 hs
  have m2 := (c_iremV (x &&& (2147483647 : Int32)) ((6 : Int32) - Nat.toInt32 s)).1 m0 (by omega)
  rw [← m1] at m2
  have m4 := c_iadd (Nat.toInt32 s) (o_irem (x &&& (2147483647 : Int32)) ((6 : Int32) - Nat.toInt32 s))
  rw [h] at m4
  have m5 := rng32 v
  have m6 := own_t s (by omega)
  refine ⟨v.toInt.toNat, by omega, by omega, ?_⟩
  apply Int32.toInt_inj.mp
  rw [own_t _ (by omega)]; omega
theorem own_mask {x0 x1 x2 x3 x4 m1 m2 m3 m4 m5 : Int32} (h1 : (if own_lb x0 = (0 : Int32) then (0 : Int32) else (1 : Int32)) = m1) (h2 : (if own_lb x1 = (0 : Int32) then m1 else (m1 ||| (2 : Int32))) = m2) (h3 : (if own_lb x2 = (0 : Int32) then m2 else (m2 ||| (4 : Int32))) = m3) (h4 : (if own_lb x3 = (0 : Int32) then m3 else (m3 ||| (8 : Int32))) = m4) (h5 : (if own_lb x4 = (0 : Int32) then m4 else (m4 ||| (16 : Int32))) = m5) :
    ∃ m : Nat, m < 32 ∧ (∀ i, i < 5 → (own_bl (own_g [x0, x1, x2, x3, x4] i) = (0 : Int32) ↔ m.testBit i = false)) ∧ m5 = Nat.toInt32 m := by
  have e0 : own_bl (own_g [x0, x1, x2, x3, x4] 0) = own_lb x0 := rfl
  have e1 : own_bl (own_g [x0, x1, x2, x3, x4] 1) = own_lb x1 := rfl
  have e2 : own_bl (own_g [x0, x1, x2, x3, x4] 2) = own_lb x2 := rfl
  have e3 : own_bl (own_g [x0, x1, x2, x3, x4] 3) = own_lb x3 := rfl
  have e4 : own_bl (own_g [x0, x1, x2, x3, x4] 4) = own_lb x4 := rfl
  refine ⟨(if own_lb x0 = (0 : Int32) then 0 else 1) + (if own_lb x1 = (0 : Int32) then 0 else 2) + (if own_lb x2 = (0 : Int32) then 0 else 4) + (if own_lb x3 = (0 : Int32) then 0 else 8) + (if own_lb x4 = (0 : Int32) then 0 else 16), ?_, ?_, ?_⟩
  · (repeat' split) <;> omega
  · intro i hi
    have : i = 0 ∨ i = 1 ∨ i = 2 ∨ i = 3 ∨ i = 4 := by omega
    rcases this with rfl | rfl | rfl | rfl | rfl
    · rw [e0]; by_cases q0 : own_lb x0 = 0 <;> by_cases q1 : own_lb x1 = 0 <;> by_cases q2 : own_lb x2 = 0 <;> by_cases q3 : own_lb x3 = 0 <;> by_cases q4 : own_lb x4 = 0 <;> simp only [q0, q1, q2, q3, q4, if_true, if_false, true_iff, false_iff] <;> decide
    · rw [e1]; by_cases q0 : own_lb x0 = 0 <;> by_cases q1 : own_lb x1 = 0 <;> by_cases q2 : own_lb x2 = 0 <;> by_cases q3 : own_lb x3 = 0 <;> by_cases q4 : own_lb x4 = 0 <;> simp only [q0, q1, q2, q3, q4, if_true, if_false, true_iff, false_iff] <;> decide
    · rw [e2]; by_cases q0 : own_lb x0 = 0 <;> by_cases q1 : own_lb x1 = 0 <;> by_cases q2 : own_lb x2 = 0 <;> by_cases q3 : own_lb x3 = 0 <;> by_cases q4 : own_lb x4 = 0 <;> simp only [q0, q1, q2, q3, q4, if_true, if_false, true_iff, false_iff] <;> decide
    · rw [e3]; by_cases q0 : own_lb x0 = 0 <;> by_cases q1 : own_lb x1 = 0 <;> by_cases q2 : own_lb x2 = 0 <;> by_cases q3 : own_lb x3 = 0 <;> by_cases q4 : own_lb x4 = 0 <;> simp only [q0, q1, q2, q3, q4, if_true, if_false, true_iff, false_iff] <;> decide
    · rw [e4]; by_cases q0 : own_lb x0 = 0 <;> by_cases q1 : own_lb x1 = 0 <;> by_cases q2 : own_lb x2 = 0 <;> by_cases q3 : own_lb x3 = 0 <;> by_cases q4 : own_lb x4 = 0 <;> simp only [q0, q1, q2, q3, q4, if_true, if_false, true_iff, false_iff] <;> decide
  · subst h5 h4 h3 h2 h1
    by_cases q0 : own_lb x0 = 0 <;> by_cases q1 : own_lb x1 = 0 <;> by_cases q2 : own_lb x2 = 0 <;> by_cases q3 : own_lb x3 = 0 <;> by_cases q4 : own_lb x4 = 0 <;> simp only [q0, q1, q2, q3, q4, if_true, if_false] <;> decide
def own_cn (m : Nat) : List Int32 := [if m.testBit 0 then 32 else 0, if m.testBit 1 then 32 else 0, if m.testBit 2 then 32 else 0, if m.testBit 3 then 32 else 0, if m.testBit 4 then 32 else 0]
abbrev own_agr (us : List Int32) (m : Nat) : Prop := ∀ i, i < 5 → (own_bl (own_g us i) = (0 : Int32) ↔ m.testBit i = false)
theorem own_cn_agr : ∀ m : Fin 32, ∀ i : Fin 5, (own_bl (own_g (own_cn m.val) i.val) = (0 : Int32) ↔ m.val.testBit i.val = false) := by decide +kernel
theorem own_same {us : List Int32} {m : Nat} (hm : m < 32) (h : own_agr us m) {i : Nat} (hi : i < 5) : own_bl (own_g us i) = (0 : Int32) ↔ own_bl (own_g (own_cn m) i) = (0 : Int32) := (h i hi).trans (own_cn_agr ⟨m, hm⟩ ⟨i, hi⟩).symm
theorem own_sk_c {us : List Int32} {m : Nat} (hm : m < 32) (h : own_agr us m) : ∀ (n i : Nat), i + n ≤ 5 → own_sk us n i = own_sk (own_cn m) n i
  | 0, i, _ => rfl
  | n + 1, i, hi => by
    have q := own_same hm h (i := i) (by omega)
    simp only [own_sk, own_sk_c hm h n (i + 1) (by omega), q]
theorem own_nb_c {us : List Int32} {m : Nat} (hm : m < 32) (h : own_agr us m) : ∀ (n i : Nat), i + n ≤ 5 → own_nb us n i = own_nb (own_cn m) n i
  | 0, i, _ => rfl
  | n + 1, i, hi => by
    have q := own_same hm h (i := i) (by omega)
    simp only [own_nb, own_nb_c hm h n (i + 1) (by omega), q]
theorem own_A_c {us : List Int32} {m e q : Nat} (hm : m < 32) (h : own_agr us m) (he : e ≤ 5) (hq : q ≤ e) : own_A us e q = own_A (own_cn m) e q := own_sk_c hm h _ _ (by omega)
theorem own_B_c {us : List Int32} {m e q : Nat} (hm : m < 32) (h : own_agr us m) (he : e ≤ 5) (hq : q ≤ e) : own_Bk us e q = own_Bk (own_cn m) e q := by
  have a := own_A_r (us := own_cn m) hq
  rw [own_Bk, own_Bk, own_A_c hm h he hq]; exact own_nb_c hm h _ _ (by omega)
theorem own_nq_c {us : List Int32} {m e q : Nat} (hm : m < 32) (h : own_agr us m) (he : e ≤ 5) (hq : q ≤ e) : own_nq us e q = own_nq (own_cn m) e q := by rw [own_nq, own_nq, own_A_c hm h he hq, own_B_c hm h he hq]
theorem own_nr_c {us : List Int32} {m e q : Nat} (hm : m < 32) (h : own_agr us m) (he : e ≤ 5) (hq : q ≤ e) : own_nr us e q = own_nr (own_cn m) e q := by rw [own_nr, own_nr, own_A_c hm h he hq]
theorem own_nfs_c {us : List Int32} {m e q : Nat} {f : Int32} (hm : m < 32) (h : own_agr us m) (he : e ≤ 5) (hq : q ≤ e) : own_nfs us e q f = own_nfs (own_cn m) e q f := by rw [own_nfs, own_nfs, own_A_c hm h he hq]
theorem own_nft_c {us : List Int32} {m e q : Nat} {f : Int32} (hm : m < 32) (h : own_agr us m) (he : e ≤ 5) (hq : q ≤ e) : own_nft us e q f = own_nft (own_cn m) e q f := by rw [own_nft, own_nft, own_A_c hm h he hq, own_B_c hm h he hq]
/-- three steps from position q and the law's third cell p -/
abbrev own_tri (us : List Int32) (e q : Nat) (m s p : Int32) : Prop :=
  own_rel us e q s s m s s p ∧ own_rel us e (own_nq us e q) (own_nfs us e q s) (own_nft us e q s) m (own_t0 m e s p) (own_t1 m e s p) (own_t2 m e p) ∧
    own_rel us e (own_nq us e (own_nq us e q)) (own_nfs us e (own_nq us e q) (own_nfs us e q s)) (own_nft us e (own_nq us e q) (own_nft us e q s)) m (own_t0 m e (own_t0 m e s p) (own_t2 m e p)) (own_t1 m e (own_t1 m e s p) (own_t2 m e p)) (own_t2 m e (own_t2 m e p))
theorem own_tri_c {us : List Int32} {m e q : Nat} {s p : Int32} (hm : m < 32) (h : own_agr us m) (he : e ≤ 5) (hq : q ≤ e) (t : own_tri (own_cn m) e q (Nat.toInt32 m) s p) : own_tri us e q (Nat.toInt32 m) s p := by
  have h1 : own_nq (own_cn m) e q ≤ e := own_nq_r hq
  have h2 : own_nq (own_cn m) e (own_nq (own_cn m) e q) ≤ e := own_nq_r h1
  unfold own_tri own_rel at *
  rw [own_nq_c hm h he hq, own_nfs_c hm h he hq, own_nft_c hm h he hq, own_nr_c hm h he hq, own_nq_c hm h he h1, own_nfs_c hm h he h1, own_nft_c hm h he h1, own_nr_c hm h he h1, own_nr_c hm h he h2, own_nfs_c hm h he h2, own_nft_c hm h he h2]
  exact t
set_option maxRecDepth 65536 in
theorem own_chk1 : ∀ m : Fin 32, ∀ e : Fin 6, ∀ s : Fin 6, s.val ≤ e.val → own_tri (own_cn m.val) e.val (own_sk (own_cn m.val) (e.val - s.val) s.val) (Nat.toInt32 m.val) (Nat.toInt32 s.val) (Nat.toInt32 s.val) := by decide +kernel
set_option maxRecDepth 65536 in
theorem own_chk2 : ∀ m : Fin 32, ∀ e : Fin 6, ∀ s : Fin 6, s.val ≤ e.val → own_tri (own_cn m.val) e.val e.val (Nat.toInt32 m.val) (Nat.toInt32 s.val) (Nat.toInt32 e.val) := by decide +kernel
set_option maxRecDepth 65536 in
theorem own_chk3 : ∀ m : Fin 32, ∀ e : Fin 6, ∀ s : Fin 6, s.val ≤ e.val → own_low (((Nat.toInt32 m.val) ^^^ (-1 : Int32)) &&& (own_rng (Nat.toInt32 s.val) (Nat.toInt32 e.val))) = (if own_sk (own_cn m.val) (e.val - s.val) s.val < e.val then Nat.toInt32 (own_sk (own_cn m.val) (e.val - s.val) s.val) else -1) := by decide +kernel
theorem own_first {us : List Int32} {m s e : Nat} {v : Int32} (hm : m < 32) (h : own_agr us m) (hs : s ≤ e) (he : e ≤ 5) (hv : own_low (((Nat.toInt32 m) ^^^ (-1 : Int32)) &&& (own_rng (Nat.toInt32 s) (Nat.toInt32 e))) = v) : v = (if own_sk us (e - s) s < e then Nat.toInt32 (own_sk us (e - s) s) else -1) := by
  rw [← hv, own_sk_c hm h _ _ (by omega)]; exact own_chk3 ⟨m, hm⟩ ⟨e, by omega⟩ ⟨s, by omega⟩ hs
theorem own_fi {f e : Nat} {v : Int32} (h : v = (if f < e then Nat.toInt32 f else -1)) (hc : ¬ v < (0 : Int32)) : f < e ∧ v = Nat.toInt32 f := by
  by_cases q : f < e
  · exact ⟨q, by rw [h, if_pos q]⟩
  · rw [if_neg q] at h; rw [h] at hc; exact absurd (by decide) hc
theorem own_fn {f e : Nat} {v : Int32} (h : v = (if f < e then Nat.toInt32 f else -1)) (hc : v < (0 : Int32)) (he : e ≤ 16) : ¬ f < e := by
  intro q; rw [if_pos q] at h; rw [h] at hc; exact absurd hc (own_nn (by omega))
theorem own_all1 {us : List Int32} {m s e : Nat} (hm : m < 32) (h : own_agr us m) (hs : s ≤ e) (he : e ≤ 5) (hf : own_sk us (e - s) s < e) (hh : own_g us (own_sk us (e - s) s) = (35 : Int32)) : own_tri us e (own_pos us s e) (Nat.toInt32 m) (Nat.toInt32 s) (Nat.toInt32 e) := by
  rw [own_pos, if_pos ⟨hf, hh⟩]; exact own_tri_c hm h he (Nat.le_refl _) (own_chk2 ⟨m, hm⟩ ⟨e, by omega⟩ ⟨s, by omega⟩ hs)
theorem own_all0 {us : List Int32} {m s e : Nat} (hm : m < 32) (h : own_agr us m) (hs : s ≤ e) (he : e ≤ 5) (hp : own_pos us s e = own_sk us (e - s) s) : own_tri us e (own_pos us s e) (Nat.toInt32 m) (Nat.toInt32 s) (Nat.toInt32 s) := by
  have r := own_sk_r us (e - s) s
  rw [hp]
  refine own_tri_c hm h he (by omega) ?_
  rw [own_sk_c hm h _ _ (by omega)]
  exact own_chk1 ⟨m, hm⟩ ⟨e, by omega⟩ ⟨s, by omega⟩ hs
theorem own_all2 {us : List Int32} {m s e : Nat} (hm : m < 32) (h : own_agr us m) (hs : s ≤ e) (he : e ≤ 5) (hf : ¬ own_sk us (e - s) s < e) : own_tri us e (own_pos us s e) (Nat.toInt32 m) (Nat.toInt32 s) (Nat.toInt32 s) := own_all0 hm h hs he (by rw [own_pos, if_neg (fun q => hf q.1)])
theorem own_all3 {us : List Int32} {m s e : Nat} (hm : m < 32) (h : own_agr us m) (hs : s ≤ e) (he : e ≤ 5) (hf : own_sk us (e - s) s < e) (hh : ¬ own_g us (own_sk us (e - s) s) = (35 : Int32)) : own_tri us e (own_pos us s e) (Nat.toInt32 m) (Nat.toInt32 s) (Nat.toInt32 s) := own_all0 hm h hs he (by rw [own_pos, if_neg (fun q => hh q.2)])

theorem pd_5 : parseMethodDescriptor "(IJI)B" = some ⟨[.int, .long, .int], some .byte⟩ := by decide +kernel
theorem pd_6 : parseMethodDescriptor "()V" = some ⟨[], none⟩ := by decide +kernel
theorem pd_7 : parseMethodDescriptor "([BII)V" = some ⟨[(.array .byte), .int, .int], none⟩ := by decide +kernel
theorem pd_8 : parseMethodDescriptor "(Lcom/example/enlace/enlace/graph/LineFields;II[I)Z" = some ⟨[(.object "com/example/enlace/enlace/graph/LineFields"), .int, .int, (.array .int)], some .boolean⟩ := by decide +kernel
theorem ef_0 (m : MethodId) (x0 : Int32) (x1 : Int64) (x2 : Int32) (x3 : Int32) : entryFrame m #[(.int x0), (.long x1), (.int x2), (.int x3)] maxLocals = mkF m 0 #[.val (.int x0), .val (.long x1), .second, .val (.int x2), .val (.int x3), .unset, .unset, .unset, .unset, .unset, .unset, .unset, .unset, .unset] [] := by first | (simp [entryFrame, mkF, argsToLocals, Value.category, maxLocals]; done) | rfl
def Q0 (Z : State) (p0 : Int32) (p1 : Int64) (p2 : Int32) (p3 : Int32) (h0 : Heap) (n0 : Nat) (v : Option Value) (h : Heap) (L : List Loc) : Prop := v = some (.int 1) ∧ Fr n0 L
set_option maxRecDepth 65536 in
set_option maxHeartbeats 40000000 in
theorem rm0 (l : Launch) (Z : State) (a0 : Array Value) (hw : ∀ d ∈ tables_1, d.before a0 Z = true) (ws : List Jvm.Cond) (p0 : Int32) (p1 : Int64) (p2 : Int32) (p3 : Int32) (h0 : Heap) (n0 : Nat) (Z0 : n0 ≤ h0.size) :
    MetFree l x (head1 (Jvm.Cond.code x code maxLocals ret :: ws) room_1) (fun q_ U => q_ = #[(.int p0), (.long p1), (.int p2), (.int p3)] ∧ Z.Warmed39 U.vm ∧ U.heap = h0) (fun _ _ _ _ _ => True) (fun _ U o U' => ∃ v L, o = .returned v ∧ Q0 Z p0 p1 p2 p3 h0 n0 v U'.heap L ∧ FrameEnd U o U' L room_1.cells room_1.slots) := by
  refine MetFree.of_bodySF (plainFor_of_name pn_1) hisR ?_
  intro p e s m args below meth c s₁ Bd hml0 hP hK
  obtain ⟨rfl, hZ, hh⟩ := hP
  have hx := Bd.exec
  have hby := Bd.bytes
  have hml : c.maxLocals = 14 := hml0
  have hown : s.vm.findClass "com/example/enlace/enlace/graph/LineFieldsAdvancePinLaw" = some m.cls := findClass_of_methodNamed Bd.named
  have hnm := (name_of_methodNamed Bd.named Bd.method).1
  have X0 : Stand p l e room_1 s m #[(.int p0), (.long p1), (.int p2), (.int p3)] below meth c s₁ [] 0 0 := Stand.of_body Bd
  have e0 : s₁.heap = h0 := by rw [← hh, Bd.state]; rfl
  have N0 := Fr.nil n0
  show own_Go p e below s (Q0 Z p0 p1 p2 p3 h0 n0) room_1.cells room_1.slots (s₁.setTop (entryFrame m #[(.int p0), (.long p1), (.int p2), (.int p3)] maxLocals))
  refine own_via (fun t k => castTop (ef_0 m p0 p1 p2 p3) k) ?_
  show own_Go p e below s _ _ _ (s₁.setTop (mkF m 0 #[.val (.int p0), .val (.long p1), .second, .val (.int p2), .val (.int p3), .unset, .unset, .unset, .unset, .unset, .unset, .unset, .unset, .unset] []))
  refine own_via (fun _ k => XS.iconst X0.here hx rfl (hb hby at_0) k) ?_
  show own_Go p e below s _ _ _ (s₁.setTop (mkF m 1 #[.val (.int p0), .val (.long p1), .second, .val (.int p2), .val (.int p3), .unset, .unset, .unset, .unset, .unset, .unset, .unset, .unset, .unset] [(.int (5 : Int32))]))
  obtain ⟨T1, h1, k1, X1, e1, E1, A1, st1⟩ := newP X0 hx hZ (hw _ (List.mem_of_getElem? (i := 0) rfl)) e0 (g := (mkF m 1 #[.val (.int p0), .val (.long p1), .second, .val (.int p2), .val (.int p3), .unset, .unset, .unset, .unset, .unset, .unset, .unset, .unset, .unset] [(.int (5 : Int32))])) rfl (hb hby at_1) rfl (by decide) (cap := 5) (by decide) (by decide) (by decide) (by decide)
  obtain ⟨b1, gg1⟩ : ∃ z, z = h0.size := ⟨_, rfl⟩
  rw [← gg1] at A1 st1
  have g_b1 : n0 ≤ b1 := Nat.le_trans Z0 (Nat.le_of_eq gg1.symm)
  have Z1 : n0 ≤ h1.size := Nat.le_trans Z0 E1.1
  have V1 : Arv Z h1 b1 k1 .byte (5 : Int32) [(.int (0 : Int32)), (.int (0 : Int32)), (.int (0 : Int32)), (.int (0 : Int32)), (.int (0 : Int32))] (.int (0 : Int32)) := (Arv.new A1 (by decide)).pad (pad_rep [] (.int (0 : Int32)) 5)
  refine own_via st1 ?_
  show own_Go p e below s _ _ _ (T1.setTop (mkF m 3 #[.val (.int p0), .val (.long p1), .second, .val (.int p2), .val (.int p3), .unset, .unset, .unset, .unset, .unset, .unset, .unset, .unset, .unset] [(.ref b1)]))
  refine own_via (fun _ k => XS.astore X1.here hx rfl (hb hby at_3) rfl rfl (l' := #[.val (.int p0), .val (.long p1), .second, .val (.int p2), .val (.int p3), .val (.ref b1), .unset, .unset, .unset, .unset, .unset, .unset, .unset, .unset]) rfl k) ?_
  show own_Go p e below s _ _ _ (T1.setTop (mkF m 5 #[.val (.int p0), .val (.long p1), .second, .val (.int p2), .val (.int p3), .val (.ref b1), .unset, .unset, .unset, .unset, .unset, .unset, .unset, .unset] []))
  refine own_via (fun _ k => XS.aload X1.here hx rfl (hb hby at_5) rfl rfl k) ?_
  show own_Go p e below s _ _ _ (T1.setTop (mkF m 7 #[.val (.int p0), .val (.long p1), .second, .val (.int p2), .val (.int p3), .val (.ref b1), .unset, .unset, .unset, .unset, .unset, .unset, .unset, .unset] [(.ref b1)]))
  refine own_via (fun _ k => XS.iconst X1.here hx rfl (hb hby at_7) k) ?_
  show own_Go p e below s _ _ _ (T1.setTop (mkF m 8 #[.val (.int p0), .val (.long p1), .second, .val (.int p2), .val (.int p3), .val (.ref b1), .unset, .unset, .unset, .unset, .unset, .unset, .unset, .unset] [(.int (0 : Int32)), (.ref b1)]))
  refine own_via (fun _ k => XS.iloadN X1.here hx rfl (hb hby at_8) rfl k) ?_
  show own_Go p e below s _ _ _ (T1.setTop (mkF m 9 #[.val (.int p0), .val (.long p1), .second, .val (.int p2), .val (.int p3), .val (.ref b1), .unset, .unset, .unset, .unset, .unset, .unset, .unset, .unset] [(.int p0), (.int (0 : Int32)), (.ref b1)]))
  refine own_via (fun _ k => XS.lloadN X1.here hx rfl (hb hby at_9) rfl k) ?_
  show own_Go p e below s _ _ _ (T1.setTop (mkF m 10 #[.val (.int p0), .val (.long p1), .second, .val (.int p2), .val (.int p3), .val (.ref b1), .unset, .unset, .unset, .unset, .unset, .unset, .unset, .unset] [(.long p1), (.int p0), (.int (0 : Int32)), (.ref b1)]))
  refine own_via (fun _ k => XS.iconst X1.here hx rfl (hb hby at_10) k) ?_
  show own_Go p e below s _ _ _ (T1.setTop (mkF m 11 #[.val (.int p0), .val (.long p1), .second, .val (.int p2), .val (.int p3), .val (.ref b1), .unset, .unset, .unset, .unset, .unset, .unset, .unset, .unset] [(.int (0 : Int32)), (.long p1), (.int p0), (.int (0 : Int32)), (.ref b1)]))
  obtain ⟨_, _, ⟨T2, L2, k2, n2⟩, -, X2, ⟨Lc2, hQ2, l2, y2, z2⟩, st2⟩ := Jvm.LawKit.callS X1 hx (y := (⟨"com/example/enlace/enlace/graph/LineFieldsAdvancePinLaw", "pick", "(IJI)B"⟩ : MethodName)) hown (mvT hZ (hw _ (List.mem_of_getElem? (i := 1) rfl))) (mvT hZ (hw _ (List.mem_of_getElem? (i := 2) rfl))) (mvT hZ (hw _ (List.mem_of_getElem? (i := 3) rfl))) (mvT hZ (hw _ (List.mem_of_getElem? (i := 4) rfl))) (by decide) (backOf (W := 2) (rm1 l Z a0 hw [] p0 p1 (0 : Int32) h1 n0 Z1 ) hZ (hw _ (List.mem_of_getElem? (i := 4) rfl)) (hw _ (List.mem_of_getElem? (i := 3) rfl)) (by decide) (by decide)) (g := (mkF m 11 #[.val (.int p0), .val (.long p1), .second, .val (.int p2), .val (.int p3), .val (.ref b1), .unset, .unset, .unset, .unset, .unset, .unset, .unset, .unset] [(.int (0 : Int32)), (.long p1), (.int p0), (.int (0 : Int32)), (.ref b1)])) rfl (by rw [hml]; rfl) (argsL := [(.int p0), (.long p1), (.int (0 : Int32))]) (rest := [(.int (0 : Int32)), (.ref b1)]) (lenOf pd_5 rfl) rfl (by show 2 * 0 + _ ≤ _; exact Nat.le_of_eq rfl) (hb hby at_11) (fun _ _ => ⟨rfl, e1, (by decide : 1 + 0 ≤ _), (by decide : 5 + 0 ≤ _)⟩)
  dsimp only [Pt.U, Pt.locs, Pt.cells, Pt.slots] at X2 l2 y2 z2 st2 hQ2
  subst l2 y2 z2
  obtain ⟨rfl, N2q, e2⟩ := hQ2
  have N2 := Fr.app N0 N2q
  refine own_via st2 ?_
  show own_Go p e below s _ _ _ (T2.setTop (mkF m 14 #[.val (.int p0), .val (.long p1), .second, .val (.int p2), .val (.int p3), .val (.ref b1), .unset, .unset, .unset, .unset, .unset, .unset, .unset, .unset] [(.int (own_pk p0 p1 (0 : Int32))), (.int (0 : Int32)), (.ref b1)]))
  obtain ⟨cl3, Ar3, q3, S3, M3, H3, G3⟩ := (id V1)
  have hin3 : ¬ ((0 : Int32) < 0 ∨ cl3.slots.size ≤ ((0 : Int32)).toNatClampNeg) := inb_of S3 ⟨by decide, by decide⟩
  obtain ⟨T3, h3, X3, e3, W3, st3⟩ := stB X2 hx hZ e2 Ar3 (j := (0 : Int32)) hin3 (g := (mkF m 14 #[.val (.int p0), .val (.long p1), .second, .val (.int p2), .val (.int p3), .val (.ref b1), .unset, .unset, .unset, .unset, .unset, .unset, .unset, .unset] [(.int (own_pk p0 p1 (0 : Int32))), (.int (0 : Int32)), (.ref b1)])) rfl rfl (hb hby at_14)
  have V3 : Arv Z h3 b1 k1 .byte (5 : Int32) [(.int (nar .byte (own_pk p0 p1 (0 : Int32)))), (.int (0 : Int32)), (.int (0 : Int32)), (.int (0 : Int32)), (.int (0 : Int32))] (.int (0 : Int32)) := Arv.set Ar3 q3 S3 M3 H3 G3 (fits_nar_byte _) W3 0 rfl (Nat.le_of_ble_eq_true rfl)
  have N3 := Fr.snoc X3 N2 g_b1
  have Z3 : n0 ≤ h3.size := Nat.le_trans Z1 (Keep.of_wr W3).1
  refine own_via st3 ?_
  show own_Go p e below s _ _ _ (T3.setTop (mkF m 15 #[.val (.int p0), .val (.long p1), .second, .val (.int p2), .val (.int p3), .val (.ref b1), .unset, .unset, .unset, .unset, .unset, .unset, .unset, .unset] []))
  refine own_via (fun _ k => XS.aload X3.here hx rfl (hb hby at_15) rfl rfl k) ?_
  show own_Go p e below s _ _ _ (T3.setTop (mkF m 17 #[.val (.int p0), .val (.long p1), .second, .val (.int p2), .val (.int p3), .val (.ref b1), .unset, .unset, .unset, .unset, .unset, .unset, .unset, .unset] [(.ref b1)]))
  refine own_via (fun _ k => XS.iconst X3.here hx rfl (hb hby at_17) k) ?_
  show own_Go p e below s _ _ _ (T3.setTop (mkF m 18 #[.val (.int p0), .val (.long p1), .second, .val (.int p2), .val (.int p3), .val (.ref b1), .unset, .unset, .unset, .unset, .unset, .unset, .unset, .unset] [(.int (1 : Int32)), (.ref b1)]))
  refine own_via (fun _ k => XS.iloadN X3.here hx rfl (hb hby at_18) rfl k) ?_
  show own_Go p e below s _ _ _ (T3.setTop (mkF m 19 #[.val (.int p0), .val (.long p1), .second, .val (.int p2), .val (.int p3), .val (.ref b1), .unset, .unset, .unset, .unset, .unset, .unset, .unset, .unset] [(.int p0), (.int (1 : Int32)), (.ref b1)]))
  refine own_via (fun _ k => XS.lloadN X3.here hx rfl (hb hby at_19) rfl k) ?_
  show own_Go p e below s _ _ _ (T3.setTop (mkF m 20 #[.val (.int p0), .val (.long p1), .second, .val (.int p2), .val (.int p3), .val (.ref b1), .unset, .unset, .unset, .unset, .unset, .unset, .unset, .unset] [(.long p1), (.int p0), (.int (1 : Int32)), (.ref b1)]))
  refine own_via (fun _ k => XS.iconst X3.here hx rfl (hb hby at_20) k) ?_
  show own_Go p e below s _ _ _ (T3.setTop (mkF m 21 #[.val (.int p0), .val (.long p1), .second, .val (.int p2), .val (.int p3), .val (.ref b1), .unset, .unset, .unset, .unset, .unset, .unset, .unset, .unset] [(.int (1 : Int32)), (.long p1), (.int p0), (.int (1 : Int32)), (.ref b1)]))
  obtain ⟨_, _, ⟨T4, L4, k4, n4⟩, -, X4, ⟨Lc4, hQ4, l4, y4, z4⟩, st4⟩ := Jvm.LawKit.callS X3 hx (y := (⟨"com/example/enlace/enlace/graph/LineFieldsAdvancePinLaw", "pick", "(IJI)B"⟩ : MethodName)) hown (mvT hZ (hw _ (List.mem_of_getElem? (i := 1) rfl))) (mvT hZ (hw _ (List.mem_of_getElem? (i := 2) rfl))) (mvT hZ (hw _ (List.mem_of_getElem? (i := 3) rfl))) (mvT hZ (hw _ (List.mem_of_getElem? (i := 4) rfl))) (by decide) (backOf (W := 2) (rm1 l Z a0 hw [] p0 p1 (1 : Int32) h3 n0 Z3 ) hZ (hw _ (List.mem_of_getElem? (i := 4) rfl)) (hw _ (List.mem_of_getElem? (i := 3) rfl)) (by decide) (by decide)) (g := (mkF m 21 #[.val (.int p0), .val (.long p1), .second, .val (.int p2), .val (.int p3), .val (.ref b1), .unset, .unset, .unset, .unset, .unset, .unset, .unset, .unset] [(.int (1 : Int32)), (.long p1), (.int p0), (.int (1 : Int32)), (.ref b1)])) rfl (by rw [hml]; rfl) (argsL := [(.int p0), (.long p1), (.int (1 : Int32))]) (rest := [(.int (1 : Int32)), (.ref b1)]) (lenOf pd_5 rfl) rfl (by show 2 * 0 + _ ≤ _; exact Nat.le_of_eq rfl) (hb hby at_21) (fun _ _ => ⟨rfl, e3, (by decide : 1 + 0 ≤ _), (by decide : 5 + 0 ≤ _)⟩)
  dsimp only [Pt.U, Pt.locs, Pt.cells, Pt.slots] at X4 l4 y4 z4 st4 hQ4
  subst l4 y4 z4
  obtain ⟨rfl, N4q, e4⟩ := hQ4
  have N4 := Fr.app N3 N4q
  refine own_via st4 ?_
  show own_Go p e below s _ _ _ (T4.setTop (mkF m 24 #[.val (.int p0), .val (.long p1), .second, .val (.int p2), .val (.int p3), .val (.ref b1), .unset, .unset, .unset, .unset, .unset, .unset, .unset, .unset] [(.int (own_pk p0 p1 (1 : Int32))), (.int (1 : Int32)), (.ref b1)]))
  obtain ⟨cl5, Ar5, q5, S5, M5, H5, G5⟩ := (id V3)
  have hin5 : ¬ ((1 : Int32) < 0 ∨ cl5.slots.size ≤ ((1 : Int32)).toNatClampNeg) := inb_of S5 ⟨by decide, by decide⟩
  obtain ⟨T5, h5, X5, e5, W5, st5⟩ := stB X4 hx hZ e4 Ar5 (j := (1 : Int32)) hin5 (g := (mkF m 24 #[.val (.int p0), .val (.long p1), .second, .val (.int p2), .val (.int p3), .val (.ref b1), .unset, .unset, .unset, .unset, .unset, .unset, .unset, .unset] [(.int (own_pk p0 p1 (1 : Int32))), (.int (1 : Int32)), (.ref b1)])) rfl rfl (hb hby at_24)
  have V5 : Arv Z h5 b1 k1 .byte (5 : Int32) [(.int (nar .byte (own_pk p0 p1 (0 : Int32)))), (.int (nar .byte (own_pk p0 p1 (1 : Int32)))), (.int (0 : Int32)), (.int (0 : Int32)), (.int (0 : Int32))] (.int (0 : Int32)) := Arv.set Ar5 q5 S5 M5 H5 G5 (fits_nar_byte _) W5 1 rfl (Nat.le_of_ble_eq_true rfl)
  have N5 := Fr.snoc X5 N4 g_b1
  have Z5 : n0 ≤ h5.size := Nat.le_trans Z3 (Keep.of_wr W5).1
  refine own_via st5 ?_
  show own_Go p e below s _ _ _ (T5.setTop (mkF m 25 #[.val (.int p0), .val (.long p1), .second, .val (.int p2), .val (.int p3), .val (.ref b1), .unset, .unset, .unset, .unset, .unset, .unset, .unset, .unset] []))
  refine own_via (fun _ k => XS.aload X5.here hx rfl (hb hby at_25) rfl rfl k) ?_
  show own_Go p e below s _ _ _ (T5.setTop (mkF m 27 #[.val (.int p0), .val (.long p1), .second, .val (.int p2), .val (.int p3), .val (.ref b1), .unset, .unset, .unset, .unset, .unset, .unset, .unset, .unset] [(.ref b1)]))
  refine own_via (fun _ k => XS.iconst X5.here hx rfl (hb hby at_27) k) ?_
  show own_Go p e below s _ _ _ (T5.setTop (mkF m 28 #[.val (.int p0), .val (.long p1), .second, .val (.int p2), .val (.int p3), .val (.ref b1), .unset, .unset, .unset, .unset, .unset, .unset, .unset, .unset] [(.int (2 : Int32)), (.ref b1)]))
  refine own_via (fun _ k => XS.iloadN X5.here hx rfl (hb hby at_28) rfl k) ?_
  show own_Go p e below s _ _ _ (T5.setTop (mkF m 29 #[.val (.int p0), .val (.long p1), .second, .val (.int p2), .val (.int p3), .val (.ref b1), .unset, .unset, .unset, .unset, .unset, .unset, .unset, .unset] [(.int p0), (.int (2 : Int32)), (.ref b1)]))
  refine own_via (fun _ k => XS.lloadN X5.here hx rfl (hb hby at_29) rfl k) ?_
  show own_Go p e below s _ _ _ (T5.setTop (mkF m 30 #[.val (.int p0), .val (.long p1), .second, .val (.int p2), .val (.int p3), .val (.ref b1), .unset, .unset, .unset, .unset, .unset, .unset, .unset, .unset] [(.long p1), (.int p0), (.int (2 : Int32)), (.ref b1)]))
  refine own_via (fun _ k => XS.iconst X5.here hx rfl (hb hby at_30) k) ?_
  show own_Go p e below s _ _ _ (T5.setTop (mkF m 31 #[.val (.int p0), .val (.long p1), .second, .val (.int p2), .val (.int p3), .val (.ref b1), .unset, .unset, .unset, .unset, .unset, .unset, .unset, .unset] [(.int (2 : Int32)), (.long p1), (.int p0), (.int (2 : Int32)), (.ref b1)]))
  obtain ⟨_, _, ⟨T6, L6, k6, n6⟩, -, X6, ⟨Lc6, hQ6, l6, y6, z6⟩, st6⟩ := Jvm.LawKit.callS X5 hx (y := (⟨"com/example/enlace/enlace/graph/LineFieldsAdvancePinLaw", "pick", "(IJI)B"⟩ : MethodName)) hown (mvT hZ (hw _ (List.mem_of_getElem? (i := 1) rfl))) (mvT hZ (hw _ (List.mem_of_getElem? (i := 2) rfl))) (mvT hZ (hw _ (List.mem_of_getElem? (i := 3) rfl))) (mvT hZ (hw _ (List.mem_of_getElem? (i := 4) rfl))) (by decide) (backOf (W := 2) (rm1 l Z a0 hw [] p0 p1 (2 : Int32) h5 n0 Z5 ) hZ (hw _ (List.mem_of_getElem? (i := 4) rfl)) (hw _ (List.mem_of_getElem? (i := 3) rfl)) (by decide) (by decide)) (g := (mkF m 31 #[.val (.int p0), .val (.long p1), .second, .val (.int p2), .val (.int p3), .val (.ref b1), .unset, .unset, .unset, .unset, .unset, .unset, .unset, .unset] [(.int (2 : Int32)), (.long p1), (.int p0), (.int (2 : Int32)), (.ref b1)])) rfl (by rw [hml]; rfl) (argsL := [(.int p0), (.long p1), (.int (2 : Int32))]) (rest := [(.int (2 : Int32)), (.ref b1)]) (lenOf pd_5 rfl) rfl (by show 2 * 0 + _ ≤ _; exact Nat.le_of_eq rfl) (hb hby at_31) (fun _ _ => ⟨rfl, e5, (by decide : 1 + 0 ≤ _), (by decide : 5 + 0 ≤ _)⟩)
  dsimp only [Pt.U, Pt.locs, Pt.cells, Pt.slots] at X6 l6 y6 z6 st6 hQ6
  subst l6 y6 z6
  obtain ⟨rfl, N6q, e6⟩ := hQ6
  have N6 := Fr.app N5 N6q
  refine own_via st6 ?_
  show own_Go p e below s _ _ _ (T6.setTop (mkF m 34 #[.val (.int p0), .val (.long p1), .second, .val (.int p2), .val (.int p3), .val (.ref b1), .unset, .unset, .unset, .unset, .unset, .unset, .unset, .unset] [(.int (own_pk p0 p1 (2 : Int32))), (.int (2 : Int32)), (.ref b1)]))
  obtain ⟨cl7, Ar7, q7, S7, M7, H7, G7⟩ := (id V5)
  have hin7 : ¬ ((2 : Int32) < 0 ∨ cl7.slots.size ≤ ((2 : Int32)).toNatClampNeg) := inb_of S7 ⟨by decide, by decide⟩
  obtain ⟨T7, h7, X7, e7, W7, st7⟩ := stB X6 hx hZ e6 Ar7 (j := (2 : Int32)) hin7 (g := (mkF m 34 #[.val (.int p0), .val (.long p1), .second, .val (.int p2), .val (.int p3), .val (.ref b1), .unset, .unset, .unset, .unset, .unset, .unset, .unset, .unset] [(.int (own_pk p0 p1 (2 : Int32))), (.int (2 : Int32)), (.ref b1)])) rfl rfl (hb hby at_34)
  have V7 : Arv Z h7 b1 k1 .byte (5 : Int32) [(.int (nar .byte (own_pk p0 p1 (0 : Int32)))), (.int (nar .byte (own_pk p0 p1 (1 : Int32)))), (.int (nar .byte (own_pk p0 p1 (2 : Int32)))), (.int (0 : Int32)), (.int (0 : Int32))] (.int (0 : Int32)) := Arv.set Ar7 q7 S7 M7 H7 G7 (fits_nar_byte _) W7 2 rfl (Nat.le_of_ble_eq_true rfl)
  have N7 := Fr.snoc X7 N6 g_b1
  have Z7 : n0 ≤ h7.size := Nat.le_trans Z5 (Keep.of_wr W7).1
  refine own_via st7 ?_
  show own_Go p e below s _ _ _ (T7.setTop (mkF m 35 #[.val (.int p0), .val (.long p1), .second, .val (.int p2), .val (.int p3), .val (.ref b1), .unset, .unset, .unset, .unset, .unset, .unset, .unset, .unset] []))
  refine own_via (fun _ k => XS.aload X7.here hx rfl (hb hby at_35) rfl rfl k) ?_
  show own_Go p e below s _ _ _ (T7.setTop (mkF m 37 #[.val (.int p0), .val (.long p1), .second, .val (.int p2), .val (.int p3), .val (.ref b1), .unset, .unset, .unset, .unset, .unset, .unset, .unset, .unset] [(.ref b1)]))
  refine own_via (fun _ k => XS.iconst X7.here hx rfl (hb hby at_37) k) ?_
  show own_Go p e below s _ _ _ (T7.setTop (mkF m 38 #[.val (.int p0), .val (.long p1), .second, .val (.int p2), .val (.int p3), .val (.ref b1), .unset, .unset, .unset, .unset, .unset, .unset, .unset, .unset] [(.int (3 : Int32)), (.ref b1)]))
  refine own_via (fun _ k => XS.iloadN X7.here hx rfl (hb hby at_38) rfl k) ?_
  show own_Go p e below s _ _ _ (T7.setTop (mkF m 39 #[.val (.int p0), .val (.long p1), .second, .val (.int p2), .val (.int p3), .val (.ref b1), .unset, .unset, .unset, .unset, .unset, .unset, .unset, .unset] [(.int p0), (.int (3 : Int32)), (.ref b1)]))
  refine own_via (fun _ k => XS.lloadN X7.here hx rfl (hb hby at_39) rfl k) ?_
  show own_Go p e below s _ _ _ (T7.setTop (mkF m 40 #[.val (.int p0), .val (.long p1), .second, .val (.int p2), .val (.int p3), .val (.ref b1), .unset, .unset, .unset, .unset, .unset, .unset, .unset, .unset] [(.long p1), (.int p0), (.int (3 : Int32)), (.ref b1)]))
  refine own_via (fun _ k => XS.iconst X7.here hx rfl (hb hby at_40) k) ?_
  show own_Go p e below s _ _ _ (T7.setTop (mkF m 41 #[.val (.int p0), .val (.long p1), .second, .val (.int p2), .val (.int p3), .val (.ref b1), .unset, .unset, .unset, .unset, .unset, .unset, .unset, .unset] [(.int (3 : Int32)), (.long p1), (.int p0), (.int (3 : Int32)), (.ref b1)]))
  obtain ⟨_, _, ⟨T8, L8, k8, n8⟩, -, X8, ⟨Lc8, hQ8, l8, y8, z8⟩, st8⟩ := Jvm.LawKit.callS X7 hx (y := (⟨"com/example/enlace/enlace/graph/LineFieldsAdvancePinLaw", "pick", "(IJI)B"⟩ : MethodName)) hown (mvT hZ (hw _ (List.mem_of_getElem? (i := 1) rfl))) (mvT hZ (hw _ (List.mem_of_getElem? (i := 2) rfl))) (mvT hZ (hw _ (List.mem_of_getElem? (i := 3) rfl))) (mvT hZ (hw _ (List.mem_of_getElem? (i := 4) rfl))) (by decide) (backOf (W := 2) (rm1 l Z a0 hw [] p0 p1 (3 : Int32) h7 n0 Z7 ) hZ (hw _ (List.mem_of_getElem? (i := 4) rfl)) (hw _ (List.mem_of_getElem? (i := 3) rfl)) (by decide) (by decide)) (g := (mkF m 41 #[.val (.int p0), .val (.long p1), .second, .val (.int p2), .val (.int p3), .val (.ref b1), .unset, .unset, .unset, .unset, .unset, .unset, .unset, .unset] [(.int (3 : Int32)), (.long p1), (.int p0), (.int (3 : Int32)), (.ref b1)])) rfl (by rw [hml]; rfl) (argsL := [(.int p0), (.long p1), (.int (3 : Int32))]) (rest := [(.int (3 : Int32)), (.ref b1)]) (lenOf pd_5 rfl) rfl (by show 2 * 0 + _ ≤ _; exact Nat.le_of_eq rfl) (hb hby at_41) (fun _ _ => ⟨rfl, e7, (by decide : 1 + 0 ≤ _), (by decide : 5 + 0 ≤ _)⟩)
  dsimp only [Pt.U, Pt.locs, Pt.cells, Pt.slots] at X8 l8 y8 z8 st8 hQ8
  subst l8 y8 z8
  obtain ⟨rfl, N8q, e8⟩ := hQ8
  have N8 := Fr.app N7 N8q
  refine own_via st8 ?_
  show own_Go p e below s _ _ _ (T8.setTop (mkF m 44 #[.val (.int p0), .val (.long p1), .second, .val (.int p2), .val (.int p3), .val (.ref b1), .unset, .unset, .unset, .unset, .unset, .unset, .unset, .unset] [(.int (own_pk p0 p1 (3 : Int32))), (.int (3 : Int32)), (.ref b1)]))
  obtain ⟨cl9, Ar9, q9, S9, M9, H9, G9⟩ := (id V7)
  have hin9 : ¬ ((3 : Int32) < 0 ∨ cl9.slots.size ≤ ((3 : Int32)).toNatClampNeg) := inb_of S9 ⟨by decide, by decide⟩
  obtain ⟨T9, h9, X9, e9, W9, st9⟩ := stB X8 hx hZ e8 Ar9 (j := (3 : Int32)) hin9 (g := (mkF m 44 #[.val (.int p0), .val (.long p1), .second, .val (.int p2), .val (.int p3), .val (.ref b1), .unset, .unset, .unset, .unset, .unset, .unset, .unset, .unset] [(.int (own_pk p0 p1 (3 : Int32))), (.int (3 : Int32)), (.ref b1)])) rfl rfl (hb hby at_44)
  have V9 : Arv Z h9 b1 k1 .byte (5 : Int32) [(.int (nar .byte (own_pk p0 p1 (0 : Int32)))), (.int (nar .byte (own_pk p0 p1 (1 : Int32)))), (.int (nar .byte (own_pk p0 p1 (2 : Int32)))), (.int (nar .byte (own_pk p0 p1 (3 : Int32)))), (.int (0 : Int32))] (.int (0 : Int32)) := Arv.set Ar9 q9 S9 M9 H9 G9 (fits_nar_byte _) W9 3 rfl (Nat.le_of_ble_eq_true rfl)
  have N9 := Fr.snoc X9 N8 g_b1
  have Z9 : n0 ≤ h9.size := Nat.le_trans Z7 (Keep.of_wr W9).1
  refine own_via st9 ?_
  show own_Go p e below s _ _ _ (T9.setTop (mkF m 45 #[.val (.int p0), .val (.long p1), .second, .val (.int p2), .val (.int p3), .val (.ref b1), .unset, .unset, .unset, .unset, .unset, .unset, .unset, .unset] []))
  refine own_via (fun _ k => XS.aload X9.here hx rfl (hb hby at_45) rfl rfl k) ?_
  show own_Go p e below s _ _ _ (T9.setTop (mkF m 47 #[.val (.int p0), .val (.long p1), .second, .val (.int p2), .val (.int p3), .val (.ref b1), .unset, .unset, .unset, .unset, .unset, .unset, .unset, .unset] [(.ref b1)]))
  refine own_via (fun _ k => XS.iconst X9.here hx rfl (hb hby at_47) k) ?_
  show own_Go p e below s _ _ _ (T9.setTop (mkF m 48 #[.val (.int p0), .val (.long p1), .second, .val (.int p2), .val (.int p3), .val (.ref b1), .unset, .unset, .unset, .unset, .unset, .unset, .unset, .unset] [(.int (4 : Int32)), (.ref b1)]))
  refine own_via (fun _ k => XS.iloadN X9.here hx rfl (hb hby at_48) rfl k) ?_
  show own_Go p e below s _ _ _ (T9.setTop (mkF m 49 #[.val (.int p0), .val (.long p1), .second, .val (.int p2), .val (.int p3), .val (.ref b1), .unset, .unset, .unset, .unset, .unset, .unset, .unset, .unset] [(.int p0), (.int (4 : Int32)), (.ref b1)]))
  refine own_via (fun _ k => XS.lloadN X9.here hx rfl (hb hby at_49) rfl k) ?_
  show own_Go p e below s _ _ _ (T9.setTop (mkF m 50 #[.val (.int p0), .val (.long p1), .second, .val (.int p2), .val (.int p3), .val (.ref b1), .unset, .unset, .unset, .unset, .unset, .unset, .unset, .unset] [(.long p1), (.int p0), (.int (4 : Int32)), (.ref b1)]))
  refine own_via (fun _ k => XS.iconst X9.here hx rfl (hb hby at_50) k) ?_
  show own_Go p e below s _ _ _ (T9.setTop (mkF m 51 #[.val (.int p0), .val (.long p1), .second, .val (.int p2), .val (.int p3), .val (.ref b1), .unset, .unset, .unset, .unset, .unset, .unset, .unset, .unset] [(.int (4 : Int32)), (.long p1), (.int p0), (.int (4 : Int32)), (.ref b1)]))
  obtain ⟨_, _, ⟨T10, L10, k10, n10⟩, -, X10, ⟨Lc10, hQ10, l10, y10, z10⟩, st10⟩ := Jvm.LawKit.callS X9 hx (y := (⟨"com/example/enlace/enlace/graph/LineFieldsAdvancePinLaw", "pick", "(IJI)B"⟩ : MethodName)) hown (mvT hZ (hw _ (List.mem_of_getElem? (i := 1) rfl))) (mvT hZ (hw _ (List.mem_of_getElem? (i := 2) rfl))) (mvT hZ (hw _ (List.mem_of_getElem? (i := 3) rfl))) (mvT hZ (hw _ (List.mem_of_getElem? (i := 4) rfl))) (by decide) (backOf (W := 2) (rm1 l Z a0 hw [] p0 p1 (4 : Int32) h9 n0 Z9 ) hZ (hw _ (List.mem_of_getElem? (i := 4) rfl)) (hw _ (List.mem_of_getElem? (i := 3) rfl)) (by decide) (by decide)) (g := (mkF m 51 #[.val (.int p0), .val (.long p1), .second, .val (.int p2), .val (.int p3), .val (.ref b1), .unset, .unset, .unset, .unset, .unset, .unset, .unset, .unset] [(.int (4 : Int32)), (.long p1), (.int p0), (.int (4 : Int32)), (.ref b1)])) rfl (by rw [hml]; rfl) (argsL := [(.int p0), (.long p1), (.int (4 : Int32))]) (rest := [(.int (4 : Int32)), (.ref b1)]) (lenOf pd_5 rfl) rfl (by show 2 * 0 + _ ≤ _; exact Nat.le_of_eq rfl) (hb hby at_51) (fun _ _ => ⟨rfl, e9, (by decide : 1 + 0 ≤ _), (by decide : 5 + 0 ≤ _)⟩)
  dsimp only [Pt.U, Pt.locs, Pt.cells, Pt.slots] at X10 l10 y10 z10 st10 hQ10
  subst l10 y10 z10
  obtain ⟨rfl, N10q, e10⟩ := hQ10
  have N10 := Fr.app N9 N10q
  refine own_via st10 ?_
  show own_Go p e below s _ _ _ (T10.setTop (mkF m 54 #[.val (.int p0), .val (.long p1), .second, .val (.int p2), .val (.int p3), .val (.ref b1), .unset, .unset, .unset, .unset, .unset, .unset, .unset, .unset] [(.int (own_pk p0 p1 (4 : Int32))), (.int (4 : Int32)), (.ref b1)]))
  obtain ⟨cl11, Ar11, q11, S11, M11, H11, G11⟩ := (id V9)
  have hin11 : ¬ ((4 : Int32) < 0 ∨ cl11.slots.size ≤ ((4 : Int32)).toNatClampNeg) := inb_of S11 ⟨by decide, by decide⟩
  obtain ⟨T11, h11, X11, e11, W11, st11⟩ := stB X10 hx hZ e10 Ar11 (j := (4 : Int32)) hin11 (g := (mkF m 54 #[.val (.int p0), .val (.long p1), .second, .val (.int p2), .val (.int p3), .val (.ref b1), .unset, .unset, .unset, .unset, .unset, .unset, .unset, .unset] [(.int (own_pk p0 p1 (4 : Int32))), (.int (4 : Int32)), (.ref b1)])) rfl rfl (hb hby at_54)
  have V11 : Arv Z h11 b1 k1 .byte (5 : Int32) [(.int (nar .byte (own_pk p0 p1 (0 : Int32)))), (.int (nar .byte (own_pk p0 p1 (1 : Int32)))), (.int (nar .byte (own_pk p0 p1 (2 : Int32)))), (.int (nar .byte (own_pk p0 p1 (3 : Int32)))), (.int (nar .byte (own_pk p0 p1 (4 : Int32))))] (.int (0 : Int32)) := Arv.set Ar11 q11 S11 M11 H11 G11 (fits_nar_byte _) W11 4 rfl (Nat.le_of_ble_eq_true rfl)
  have N11 := Fr.snoc X11 N10 g_b1
  have Z11 : n0 ≤ h11.size := Nat.le_trans Z9 (Keep.of_wr W11).1
  refine own_via st11 ?_
  show own_Go p e below s _ _ _ (T11.setTop (mkF m 55 #[.val (.int p0), .val (.long p1), .second, .val (.int p2), .val (.int p3), .val (.ref b1), .unset, .unset, .unset, .unset, .unset, .unset, .unset, .unset] []))
  obtain ⟨x0, hx0⟩ : ∃ x, x = (nar .byte (own_pk p0 p1 (0 : Int32))) := ⟨_, rfl⟩
  rw [← hx0] at V11
  obtain ⟨x1, hx1⟩ : ∃ x, x = (nar .byte (own_pk p0 p1 (1 : Int32))) := ⟨_, rfl⟩
  rw [← hx1] at V11
  obtain ⟨x2, hx2⟩ : ∃ x, x = (nar .byte (own_pk p0 p1 (2 : Int32))) := ⟨_, rfl⟩
  rw [← hx2] at V11
  obtain ⟨x3, hx3⟩ : ∃ x, x = (nar .byte (own_pk p0 p1 (3 : Int32))) := ⟨_, rfl⟩
  rw [← hx3] at V11
  obtain ⟨x4, hx4⟩ : ∃ x, x = (nar .byte (own_pk p0 p1 (4 : Int32))) := ⟨_, rfl⟩
  rw [← hx4] at V11
  show own_Go p e below s _ _ _ (T11.setTop (mkF m 55 #[.val (.int p0), .val (.long p1), .second, .val (.int p2), .val (.int p3), .val (.ref b1), .unset, .unset, .unset, .unset, .unset, .unset, .unset, .unset] []))
  refine own_via (fun _ k => XS.iloadN X11.here hx rfl (hb hby at_55) rfl k) ?_
  show own_Go p e below s _ _ _ (T11.setTop (mkF m 56 #[.val (.int p0), .val (.long p1), .second, .val (.int p2), .val (.int p3), .val (.ref b1), .unset, .unset, .unset, .unset, .unset, .unset, .unset, .unset] [(.int p2)]))
  refine own_via (fun _ k => X11.ldcInt hx hown (mvT hZ (hw _ (List.mem_of_getElem? (i := 5) rfl))) (g := (mkF m 56 #[.val (.int p0), .val (.long p1), .second, .val (.int p2), .val (.int p3), .val (.ref b1), .unset, .unset, .unset, .unset, .unset, .unset, .unset, .unset] [(.int p2)])) rfl (hb hby at_56) _ k) ?_
  show own_Go p e below s _ _ _ (T11.setTop (mkF m 58 #[.val (.int p0), .val (.long p1), .second, .val (.int p2), .val (.int p3), .val (.ref b1), .unset, .unset, .unset, .unset, .unset, .unset, .unset, .unset] [(.int (2147483647 : Int32)), (.int p2)]))
  refine own_via (fun _ k => XS.iand X11.here hx rfl (hb hby at_58) rfl k) ?_
  show own_Go p e below s _ _ _ (T11.setTop (mkF m 59 #[.val (.int p0), .val (.long p1), .second, .val (.int p2), .val (.int p3), .val (.ref b1), .unset, .unset, .unset, .unset, .unset, .unset, .unset, .unset] [(.int (p2 &&& (2147483647 : Int32)))]))
  refine own_via (fun _ k => XS.bipush X11.here hx rfl (hb hby at_59) k) ?_
  show own_Go p e below s _ _ _ (T11.setTop (mkF m 61 #[.val (.int p0), .val (.long p1), .second, .val (.int p2), .val (.int p3), .val (.ref b1), .unset, .unset, .unset, .unset, .unset, .unset, .unset, .unset] [(.int (6 : Int32)), (.int (p2 &&& (2147483647 : Int32)))]))
  refine own_via (fun _ k => XS.irem X11.here hx rfl (hb hby at_61) rfl (by decide) k) ?_
  show own_Go p e below s _ _ _ (T11.setTop (mkF m 62 #[.val (.int p0), .val (.long p1), .second, .val (.int p2), .val (.int p3), .val (.ref b1), .unset, .unset, .unset, .unset, .unset, .unset, .unset, .unset] [(.int (o_irem (p2 &&& (2147483647 : Int32)) (6 : Int32)))]))
  refine own_via (fun _ k => XS.istore X11.here hx rfl (hb hby at_62) rfl (l' := #[.val (.int p0), .val (.long p1), .second, .val (.int p2), .val (.int p3), .val (.ref b1), .val (.int (o_irem (p2 &&& (2147483647 : Int32)) (6 : Int32))), .unset, .unset, .unset, .unset, .unset, .unset, .unset]) rfl k) ?_
  show own_Go p e below s _ _ _ (T11.setTop (mkF m 64 #[.val (.int p0), .val (.long p1), .second, .val (.int p2), .val (.int p3), .val (.ref b1), .val (.int (o_irem (p2 &&& (2147483647 : Int32)) (6 : Int32))), .unset, .unset, .unset, .unset, .unset, .unset, .unset] []))
  generalize hv12 : (o_irem (p2 &&& (2147483647 : Int32)) (6 : Int32)) = v12
  show own_Go p e below s _ _ _ (T11.setTop (mkF m 64 #[.val (.int p0), .val (.long p1), .second, .val (.int p2), .val (.int p3), .val (.ref b1), .val (.int v12), .unset, .unset, .unset, .unset, .unset, .unset, .unset] []))
  obtain ⟨sN, hs, rfl⟩ := own_st p2 hv12
  show own_Go p e below s _ _ _ (T11.setTop (mkF m 64 #[.val (.int p0), .val (.long p1), .second, .val (.int p2), .val (.int p3), .val (.ref b1), .val (.int (Nat.toInt32 sN)), .unset, .unset, .unset, .unset, .unset, .unset, .unset] []))
  refine own_via (fun _ k => XS.iload X11.here hx rfl (hb hby at_64) rfl k) ?_
  show own_Go p e below s _ _ _ (T11.setTop (mkF m 66 #[.val (.int p0), .val (.long p1), .second, .val (.int p2), .val (.int p3), .val (.ref b1), .val (.int (Nat.toInt32 sN)), .unset, .unset, .unset, .unset, .unset, .unset, .unset] [(.int (Nat.toInt32 sN))]))
  refine own_via (fun _ k => XS.iload X11.here hx rfl (hb hby at_66) rfl k) ?_
  show own_Go p e below s _ _ _ (T11.setTop (mkF m 68 #[.val (.int p0), .val (.long p1), .second, .val (.int p2), .val (.int p3), .val (.ref b1), .val (.int (Nat.toInt32 sN)), .unset, .unset, .unset, .unset, .unset, .unset, .unset] [(.int p3), (.int (Nat.toInt32 sN))]))
  refine own_via (fun _ k => X11.ldcInt hx hown (mvT hZ (hw _ (List.mem_of_getElem? (i := 5) rfl))) (g := (mkF m 68 #[.val (.int p0), .val (.long p1), .second, .val (.int p2), .val (.int p3), .val (.ref b1), .val (.int (Nat.toInt32 sN)), .unset, .unset, .unset, .unset, .unset, .unset, .unset] [(.int p3), (.int (Nat.toInt32 sN))])) rfl (hb hby at_68) _ k) ?_
  show own_Go p e below s _ _ _ (T11.setTop (mkF m 70 #[.val (.int p0), .val (.long p1), .second, .val (.int p2), .val (.int p3), .val (.ref b1), .val (.int (Nat.toInt32 sN)), .unset, .unset, .unset, .unset, .unset, .unset, .unset] [(.int (2147483647 : Int32)), (.int p3), (.int (Nat.toInt32 sN))]))
  refine own_via (fun _ k => XS.iand X11.here hx rfl (hb hby at_70) rfl k) ?_
  show own_Go p e below s _ _ _ (T11.setTop (mkF m 71 #[.val (.int p0), .val (.long p1), .second, .val (.int p2), .val (.int p3), .val (.ref b1), .val (.int (Nat.toInt32 sN)), .unset, .unset, .unset, .unset, .unset, .unset, .unset] [(.int (p3 &&& (2147483647 : Int32))), (.int (Nat.toInt32 sN))]))
  refine own_via (fun _ k => XS.bipush X11.here hx rfl (hb hby at_71) k) ?_
  show own_Go p e below s _ _ _ (T11.setTop (mkF m 73 #[.val (.int p0), .val (.long p1), .second, .val (.int p2), .val (.int p3), .val (.ref b1), .val (.int (Nat.toInt32 sN)), .unset, .unset, .unset, .unset, .unset, .unset, .unset] [(.int (6 : Int32)), (.int (p3 &&& (2147483647 : Int32))), (.int (Nat.toInt32 sN))]))
  refine own_via (fun _ k => XS.iload X11.here hx rfl (hb hby at_73) rfl k) ?_
  show own_Go p e below s _ _ _ (T11.setTop (mkF m 75 #[.val (.int p0), .val (.long p1), .second, .val (.int p2), .val (.int p3), .val (.ref b1), .val (.int (Nat.toInt32 sN)), .unset, .unset, .unset, .unset, .unset, .unset, .unset] [(.int (Nat.toInt32 sN)), (.int (6 : Int32)), (.int (p3 &&& (2147483647 : Int32))), (.int (Nat.toInt32 sN))]))
  refine own_via (fun _ k => XS.isub X11.here hx rfl (hb hby at_75) rfl k) ?_
  show own_Go p e below s _ _ _ (T11.setTop (mkF m 76 #[.val (.int p0), .val (.long p1), .second, .val (.int p2), .val (.int p3), .val (.ref b1), .val (.int (Nat.toInt32 sN)), .unset, .unset, .unset, .unset, .unset, .unset, .unset] [(.int ((6 : Int32) - (Nat.toInt32 sN))), (.int (p3 &&& (2147483647 : Int32))), (.int (Nat.toInt32 sN))]))
  have hnz76 := own_nz6 hs
  refine own_via (fun _ k => XS.irem X11.here hx rfl (hb hby at_76) rfl hnz76 k) ?_
  show own_Go p e below s _ _ _ (T11.setTop (mkF m 77 #[.val (.int p0), .val (.long p1), .second, .val (.int p2), .val (.int p3), .val (.ref b1), .val (.int (Nat.toInt32 sN)), .unset, .unset, .unset, .unset, .unset, .unset, .unset] [(.int (o_irem (p3 &&& (2147483647 : Int32)) ((6 : Int32) - (Nat.toInt32 sN)))), (.int (Nat.toInt32 sN))]))
  refine own_via (fun _ k => XS.iadd X11.here hx rfl (hb hby at_77) rfl k) ?_
  show own_Go p e below s _ _ _ (T11.setTop (mkF m 78 #[.val (.int p0), .val (.long p1), .second, .val (.int p2), .val (.int p3), .val (.ref b1), .val (.int (Nat.toInt32 sN)), .unset, .unset, .unset, .unset, .unset, .unset, .unset] [(.int ((Nat.toInt32 sN) + (o_irem (p3 &&& (2147483647 : Int32)) ((6 : Int32) - (Nat.toInt32 sN)))))]))
  refine own_via (fun _ k => XS.istore X11.here hx rfl (hb hby at_78) rfl (l' := #[.val (.int p0), .val (.long p1), .second, .val (.int p2), .val (.int p3), .val (.ref b1), .val (.int (Nat.toInt32 sN)), .val (.int ((Nat.toInt32 sN) + (o_irem (p3 &&& (2147483647 : Int32)) ((6 : Int32) - (Nat.toInt32 sN))))), .unset, .unset, .unset, .unset, .unset, .unset]) rfl k) ?_
  show own_Go p e below s _ _ _ (T11.setTop (mkF m 80 #[.val (.int p0), .val (.long p1), .second, .val (.int p2), .val (.int p3), .val (.ref b1), .val (.int (Nat.toInt32 sN)), .val (.int ((Nat.toInt32 sN) + (o_irem (p3 &&& (2147483647 : Int32)) ((6 : Int32) - (Nat.toInt32 sN))))), .unset, .unset, .unset, .unset, .unset, .unset] []))
  generalize hv13 : ((Nat.toInt32 sN) + (o_irem (p3 &&& (2147483647 : Int32)) ((6 : Int32) - (Nat.toInt32 sN)))) = v13
  show own_Go p e below s _ _ _ (T11.setTop (mkF m 80 #[.val (.int p0), .val (.long p1), .second, .val (.int p2), .val (.int p3), .val (.ref b1), .val (.int (Nat.toInt32 sN)), .val (.int v13), .unset, .unset, .unset, .unset, .unset, .unset] []))
  obtain ⟨eN, he1, he2, rfl⟩ := own_en p3 hs hv13
  show own_Go p e below s _ _ _ (T11.setTop (mkF m 80 #[.val (.int p0), .val (.long p1), .second, .val (.int p2), .val (.int p3), .val (.ref b1), .val (.int (Nat.toInt32 sN)), .val (.int (Nat.toInt32 eN)), .unset, .unset, .unset, .unset, .unset, .unset] []))
  refine own_via (fun _ k => XS.iload X11.here hx rfl (hb hby at_80) rfl k) ?_
  show own_Go p e below s _ _ _ (T11.setTop (mkF m 82 #[.val (.int p0), .val (.long p1), .second, .val (.int p2), .val (.int p3), .val (.ref b1), .val (.int (Nat.toInt32 sN)), .val (.int (Nat.toInt32 eN)), .unset, .unset, .unset, .unset, .unset, .unset] [(.int (Nat.toInt32 eN))]))
  refine own_via (fun _ k => XS.istore X11.here hx rfl (hb hby at_82) rfl (l' := #[.val (.int p0), .val (.long p1), .second, .val (.int p2), .val (.int p3), .val (.ref b1), .val (.int (Nat.toInt32 sN)), .val (.int (Nat.toInt32 eN)), .val (.int (Nat.toInt32 eN)), .unset, .unset, .unset, .unset, .unset]) rfl k) ?_
  show own_Go p e below s _ _ _ (T11.setTop (mkF m 84 #[.val (.int p0), .val (.long p1), .second, .val (.int p2), .val (.int p3), .val (.ref b1), .val (.int (Nat.toInt32 sN)), .val (.int (Nat.toInt32 eN)), .val (.int (Nat.toInt32 eN)), .unset, .unset, .unset, .unset, .unset] []))
  generalize hv14 : (Nat.toInt32 eN) = v14
  show own_Go p e below s _ _ _ (T11.setTop (mkF m 84 #[.val (.int p0), .val (.long p1), .second, .val (.int p2), .val (.int p3), .val (.ref b1), .val (.int (Nat.toInt32 sN)), .val (.int v14), .val (.int v14), .unset, .unset, .unset, .unset, .unset] []))
  subst hv14
  show own_Go p e below s _ _ _ (T11.setTop (mkF m 84 #[.val (.int p0), .val (.long p1), .second, .val (.int p2), .val (.int p3), .val (.ref b1), .val (.int (Nat.toInt32 sN)), .val (.int (Nat.toInt32 eN)), .val (.int (Nat.toInt32 eN)), .unset, .unset, .unset, .unset, .unset] []))
  have jn : ∀ (EN : Nat) (T15 : State) (lo15 : List Loc) (h15 : Heap), Stand p l e room_1 s m #[(.int p0), (.long p1), (.int p2), (.int p3)] below meth c T15 lo15 1 5 → T15.heap = h15 → Fr n0 lo15 → n0 ≤ h15.size → Arv Z h15 b1 k1 .byte (5 : Int32) [(.int x0), (.int x1), (.int x2), (.int x3), (.int x4)] (.int (0 : Int32)) → sN ≤ EN → EN ≤ eN → own_end [x0, x1, x2, x3, x4] sN eN = EN → own_Go p e below s (Q0 Z p0 p1 p2 p3 h0 n0) room_1.cells room_1.slots (T15.setTop (mkF m 109 #[.val (.int p0), .val (.long p1), .second, .val (.int p2), .val (.int p3), .val (.ref b1), .val (.int (Nat.toInt32 sN)), .val (.int (Nat.toInt32 eN)), .val (.int (Nat.toInt32 EN)), .unset, .unset, .unset, .unset, .unset] [])) := by
    intro EN T15 lo15 h15 X15 e15 N15 Z15 F16 h1 h2 h3
    show own_Go p e below s _ _ _ (T15.setTop (mkF m 109 #[.val (.int p0), .val (.long p1), .second, .val (.int p2), .val (.int p3), .val (.ref b1), .val (.int (Nat.toInt32 sN)), .val (.int (Nat.toInt32 eN)), .val (.int (Nat.toInt32 EN)), .unset, .unset, .unset, .unset, .unset] []))
    refine own_via (fun _ k => XS.iconst X15.here hx rfl (hb hby at_109) k) ?_
    show own_Go p e below s _ _ _ (T15.setTop (mkF m 110 #[.val (.int p0), .val (.long p1), .second, .val (.int p2), .val (.int p3), .val (.ref b1), .val (.int (Nat.toInt32 sN)), .val (.int (Nat.toInt32 eN)), .val (.int (Nat.toInt32 EN)), .unset, .unset, .unset, .unset, .unset] [(.int (0 : Int32))]))
    refine own_via (fun _ k => XS.istore X15.here hx rfl (hb hby at_110) rfl (l' := #[.val (.int p0), .val (.long p1), .second, .val (.int p2), .val (.int p3), .val (.ref b1), .val (.int (Nat.toInt32 sN)), .val (.int (Nat.toInt32 eN)), .val (.int (Nat.toInt32 EN)), .val (.int (0 : Int32)), .unset, .unset, .unset, .unset]) rfl k) ?_
    show own_Go p e below s _ _ _ (T15.setTop (mkF m 112 #[.val (.int p0), .val (.long p1), .second, .val (.int p2), .val (.int p3), .val (.ref b1), .val (.int (Nat.toInt32 sN)), .val (.int (Nat.toInt32 eN)), .val (.int (Nat.toInt32 EN)), .val (.int (0 : Int32)), .unset, .unset, .unset, .unset] []))
    refine own_via (fun _ k => XS.aload X15.here hx rfl (hb hby at_112) rfl rfl k) ?_
    show own_Go p e below s _ _ _ (T15.setTop (mkF m 114 #[.val (.int p0), .val (.long p1), .second, .val (.int p2), .val (.int p3), .val (.ref b1), .val (.int (Nat.toInt32 sN)), .val (.int (Nat.toInt32 eN)), .val (.int (Nat.toInt32 EN)), .val (.int (0 : Int32)), .unset, .unset, .unset, .unset] [(.ref b1)]))
    refine own_via (fun _ k => XS.iconst X15.here hx rfl (hb hby at_114) k) ?_
    show own_Go p e below s _ _ _ (T15.setTop (mkF m 115 #[.val (.int p0), .val (.long p1), .second, .val (.int p2), .val (.int p3), .val (.ref b1), .val (.int (Nat.toInt32 sN)), .val (.int (Nat.toInt32 eN)), .val (.int (Nat.toInt32 EN)), .val (.int (0 : Int32)), .unset, .unset, .unset, .unset] [(.int (0 : Int32)), (.ref b1)]))
    obtain ⟨cl17, Ar17, q17, S17, M17, H17, G17⟩ := (id F16)
    have hin17 : ¬ ((0 : Int32) < 0 ∨ cl17.slots.size ≤ ((0 : Int32)).toNatClampNeg) := inb_of S17 ⟨by decide, by decide⟩
    have hat17 : cl17.slots[((0 : Int32)).toNatClampNeg]? = some (.int x0) := Has.at H17 hin17 rfl
    refine own_via (fun _ k => X15.baloadBytes hx (j := (0 : Int32)) (v := (.int x0)) (by rw [e15]; exact Ar17.1) (State.isArrayOf_alike hZ.alike Ar17.2.1) Ar17.2.2 hin17 hat17 (g := (mkF m 115 #[.val (.int p0), .val (.long p1), .second, .val (.int p2), .val (.int p3), .val (.ref b1), .val (.int (Nat.toInt32 sN)), .val (.int (Nat.toInt32 eN)), .val (.int (Nat.toInt32 EN)), .val (.int (0 : Int32)), .unset, .unset, .unset, .unset] [(.int (0 : Int32)), (.ref b1)])) rfl rfl (hb hby at_115) _ k) ?_
    show own_Go p e below s _ _ _ (T15.setTop (mkF m 116 #[.val (.int p0), .val (.long p1), .second, .val (.int p2), .val (.int p3), .val (.ref b1), .val (.int (Nat.toInt32 sN)), .val (.int (Nat.toInt32 eN)), .val (.int (Nat.toInt32 EN)), .val (.int (0 : Int32)), .unset, .unset, .unset, .unset] [(.int x0)]))
    obtain ⟨_, _, ⟨T18, L18, k18, n18⟩, -, X18, ⟨Lc18, hQ18, l18, y18, z18⟩, st18⟩ := Jvm.LawKit.callS X15 hx (y := (⟨"com/example/enlace/enlace/graph/LineFieldsAdvancePinLaw", "isBlank", "(B)Z"⟩ : MethodName)) hown (mvT hZ (hw _ (List.mem_of_getElem? (i := 6) rfl))) (mvT hZ (hw _ (List.mem_of_getElem? (i := 7) rfl))) (mvT hZ (hw _ (List.mem_of_getElem? (i := 3) rfl))) (mvT hZ (hw _ (List.mem_of_getElem? (i := 8) rfl))) (by decide) (backOf (W := 0) (rm2 l Z a0 hw [] x0 h15 n0 Z15 ) hZ (hw _ (List.mem_of_getElem? (i := 8) rfl)) (hw _ (List.mem_of_getElem? (i := 3) rfl)) (by decide) (by decide)) (g := (mkF m 116 #[.val (.int p0), .val (.long p1), .second, .val (.int p2), .val (.int p3), .val (.ref b1), .val (.int (Nat.toInt32 sN)), .val (.int (Nat.toInt32 eN)), .val (.int (Nat.toInt32 EN)), .val (.int (0 : Int32)), .unset, .unset, .unset, .unset] [(.int x0)])) rfl (by rw [hml]; rfl) (argsL := [(.int x0)]) (rest := []) (lenOf pd_0 rfl) rfl (by show 2 * 0 + _ ≤ _; exact Nat.le_of_eq rfl) (hb hby at_116) (fun _ _ => ⟨rfl, e15, (by decide : 1 + 0 ≤ _), (by decide : 5 + 0 ≤ _)⟩)
    dsimp only [Pt.U, Pt.locs, Pt.cells, Pt.slots] at X18 l18 y18 z18 st18 hQ18
    subst l18 y18 z18
    obtain ⟨rfl, N18q, e18⟩ := hQ18
    have N18 := Fr.app N15 N18q
    refine own_via st18 ?_
    show own_Go p e below s _ _ _ (T18.setTop (mkF m 119 #[.val (.int p0), .val (.long p1), .second, .val (.int p2), .val (.int p3), .val (.ref b1), .val (.int (Nat.toInt32 sN)), .val (.int (Nat.toInt32 eN)), .val (.int (Nat.toInt32 EN)), .val (.int (0 : Int32)), .unset, .unset, .unset, .unset] [(.int (own_lb x0))]))
    have st19 : ∀ t, Steps p.tables e below (T18.setTop (mkF m 128 #[.val (.int p0), .val (.long p1), .second, .val (.int p2), .val (.int p3), .val (.ref b1), .val (.int (Nat.toInt32 sN)), .val (.int (Nat.toInt32 eN)), .val (.int (Nat.toInt32 EN)), .val (.int (if (own_lb x0) = (0 : Int32) then (0 : Int32) else (1 : Int32))), .unset, .unset, .unset, .unset] [])) t → Steps p.tables e below (T18.setTop (mkF m 119 #[.val (.int p0), .val (.long p1), .second, .val (.int p2), .val (.int p3), .val (.ref b1), .val (.int (Nat.toInt32 sN)), .val (.int (Nat.toInt32 eN)), .val (.int (Nat.toInt32 EN)), .val (.int (0 : Int32)), .unset, .unset, .unset, .unset] [(.int (own_lb x0))])) t := by
      intro t k
      by_cases hq20 : (own_lb x0) = (0 : Int32)
      · refine XS.ifYes X18.here hx rfl (pc0 := 119) (pc' := 128) rfl (hb hby at_119) rfl (Jvm.Free.XT.i0_eq_t hq20) (by decide) (by decide) ?_
        show Steps p.tables e below (T18.setTop (mkF m 128 #[.val (.int p0), .val (.long p1), .second, .val (.int p2), .val (.int p3), .val (.ref b1), .val (.int (Nat.toInt32 sN)), .val (.int (Nat.toInt32 eN)), .val (.int (Nat.toInt32 EN)), .val (.int (0 : Int32)), .unset, .unset, .unset, .unset] [])) t
        simp only [if_pos hq20] at k
        exact k
      · refine XS.ifNo X18.here hx rfl (hb hby at_119) rfl (Jvm.Free.XT.i0_eq_f hq20) ?_
        show Steps p.tables e below (T18.setTop (mkF m 122 #[.val (.int p0), .val (.long p1), .second, .val (.int p2), .val (.int p3), .val (.ref b1), .val (.int (Nat.toInt32 sN)), .val (.int (Nat.toInt32 eN)), .val (.int (Nat.toInt32 EN)), .val (.int (0 : Int32)), .unset, .unset, .unset, .unset] [])) t
        refine XS.iload X18.here hx rfl (hb hby at_122) rfl ?_
        show Steps p.tables e below (T18.setTop (mkF m 124 #[.val (.int p0), .val (.long p1), .second, .val (.int p2), .val (.int p3), .val (.ref b1), .val (.int (Nat.toInt32 sN)), .val (.int (Nat.toInt32 eN)), .val (.int (Nat.toInt32 EN)), .val (.int (0 : Int32)), .unset, .unset, .unset, .unset] [(.int (0 : Int32))])) t
        refine XS.iconst X18.here hx rfl (hb hby at_124) ?_
        show Steps p.tables e below (T18.setTop (mkF m 125 #[.val (.int p0), .val (.long p1), .second, .val (.int p2), .val (.int p3), .val (.ref b1), .val (.int (Nat.toInt32 sN)), .val (.int (Nat.toInt32 eN)), .val (.int (Nat.toInt32 EN)), .val (.int (0 : Int32)), .unset, .unset, .unset, .unset] [(.int (1 : Int32)), (.int (0 : Int32))])) t
        refine XS.ior X18.here hx rfl (hb hby at_125) rfl ?_
        show Steps p.tables e below (T18.setTop (mkF m 126 #[.val (.int p0), .val (.long p1), .second, .val (.int p2), .val (.int p3), .val (.ref b1), .val (.int (Nat.toInt32 sN)), .val (.int (Nat.toInt32 eN)), .val (.int (Nat.toInt32 EN)), .val (.int (0 : Int32)), .unset, .unset, .unset, .unset] [(.int (1 : Int32))])) t
        refine XS.istore X18.here hx rfl (hb hby at_126) rfl (l' := #[.val (.int p0), .val (.long p1), .second, .val (.int p2), .val (.int p3), .val (.ref b1), .val (.int (Nat.toInt32 sN)), .val (.int (Nat.toInt32 eN)), .val (.int (Nat.toInt32 EN)), .val (.int (1 : Int32)), .unset, .unset, .unset, .unset]) rfl ?_
        show Steps p.tables e below (T18.setTop (mkF m 128 #[.val (.int p0), .val (.long p1), .second, .val (.int p2), .val (.int p3), .val (.ref b1), .val (.int (Nat.toInt32 sN)), .val (.int (Nat.toInt32 eN)), .val (.int (Nat.toInt32 EN)), .val (.int (1 : Int32)), .unset, .unset, .unset, .unset] [])) t
        simp only [if_neg hq20] at k
        exact k
    refine own_via st19 ?_
    show own_Go p e below s _ _ _ (T18.setTop (mkF m 128 #[.val (.int p0), .val (.long p1), .second, .val (.int p2), .val (.int p3), .val (.ref b1), .val (.int (Nat.toInt32 sN)), .val (.int (Nat.toInt32 eN)), .val (.int (Nat.toInt32 EN)), .val (.int (if (own_lb x0) = (0 : Int32) then (0 : Int32) else (1 : Int32))), .unset, .unset, .unset, .unset] []))
    generalize hv21 : (if (own_lb x0) = (0 : Int32) then (0 : Int32) else (1 : Int32)) = v21
    show own_Go p e below s _ _ _ (T18.setTop (mkF m 128 #[.val (.int p0), .val (.long p1), .second, .val (.int p2), .val (.int p3), .val (.ref b1), .val (.int (Nat.toInt32 sN)), .val (.int (Nat.toInt32 eN)), .val (.int (Nat.toInt32 EN)), .val (.int v21), .unset, .unset, .unset, .unset] []))
    refine own_via (fun _ k => XS.aload X18.here hx rfl (hb hby at_128) rfl rfl k) ?_
    show own_Go p e below s _ _ _ (T18.setTop (mkF m 130 #[.val (.int p0), .val (.long p1), .second, .val (.int p2), .val (.int p3), .val (.ref b1), .val (.int (Nat.toInt32 sN)), .val (.int (Nat.toInt32 eN)), .val (.int (Nat.toInt32 EN)), .val (.int v21), .unset, .unset, .unset, .unset] [(.ref b1)]))
    refine own_via (fun _ k => XS.iconst X18.here hx rfl (hb hby at_130) k) ?_
    show own_Go p e below s _ _ _ (T18.setTop (mkF m 131 #[.val (.int p0), .val (.long p1), .second, .val (.int p2), .val (.int p3), .val (.ref b1), .val (.int (Nat.toInt32 sN)), .val (.int (Nat.toInt32 eN)), .val (.int (Nat.toInt32 EN)), .val (.int v21), .unset, .unset, .unset, .unset] [(.int (1 : Int32)), (.ref b1)]))
    obtain ⟨cl22, Ar22, q22, S22, M22, H22, G22⟩ := (id F16)
    have hin22 : ¬ ((1 : Int32) < 0 ∨ cl22.slots.size ≤ ((1 : Int32)).toNatClampNeg) := inb_of S22 ⟨by decide, by decide⟩
    have hat22 : cl22.slots[((1 : Int32)).toNatClampNeg]? = some (.int x1) := Has.at H22 hin22 rfl
    refine own_via (fun _ k => X18.baloadBytes hx (j := (1 : Int32)) (v := (.int x1)) (by rw [e18]; exact Ar22.1) (State.isArrayOf_alike hZ.alike Ar22.2.1) Ar22.2.2 hin22 hat22 (g := (mkF m 131 #[.val (.int p0), .val (.long p1), .second, .val (.int p2), .val (.int p3), .val (.ref b1), .val (.int (Nat.toInt32 sN)), .val (.int (Nat.toInt32 eN)), .val (.int (Nat.toInt32 EN)), .val (.int v21), .unset, .unset, .unset, .unset] [(.int (1 : Int32)), (.ref b1)])) rfl rfl (hb hby at_131) _ k) ?_
    show own_Go p e below s _ _ _ (T18.setTop (mkF m 132 #[.val (.int p0), .val (.long p1), .second, .val (.int p2), .val (.int p3), .val (.ref b1), .val (.int (Nat.toInt32 sN)), .val (.int (Nat.toInt32 eN)), .val (.int (Nat.toInt32 EN)), .val (.int v21), .unset, .unset, .unset, .unset] [(.int x1)]))
    obtain ⟨_, _, ⟨T23, L23, k23, n23⟩, -, X23, ⟨Lc23, hQ23, l23, y23, z23⟩, st23⟩ := Jvm.LawKit.callS X18 hx (y := (⟨"com/example/enlace/enlace/graph/LineFieldsAdvancePinLaw", "isBlank", "(B)Z"⟩ : MethodName)) hown (mvT hZ (hw _ (List.mem_of_getElem? (i := 6) rfl))) (mvT hZ (hw _ (List.mem_of_getElem? (i := 7) rfl))) (mvT hZ (hw _ (List.mem_of_getElem? (i := 3) rfl))) (mvT hZ (hw _ (List.mem_of_getElem? (i := 8) rfl))) (by decide) (backOf (W := 0) (rm2 l Z a0 hw [] x1 h15 n0 Z15 ) hZ (hw _ (List.mem_of_getElem? (i := 8) rfl)) (hw _ (List.mem_of_getElem? (i := 3) rfl)) (by decide) (by decide)) (g := (mkF m 132 #[.val (.int p0), .val (.long p1), .second, .val (.int p2), .val (.int p3), .val (.ref b1), .val (.int (Nat.toInt32 sN)), .val (.int (Nat.toInt32 eN)), .val (.int (Nat.toInt32 EN)), .val (.int v21), .unset, .unset, .unset, .unset] [(.int x1)])) rfl (by rw [hml]; rfl) (argsL := [(.int x1)]) (rest := []) (lenOf pd_0 rfl) rfl (by show 2 * 0 + _ ≤ _; exact Nat.le_of_eq rfl) (hb hby at_132) (fun _ _ => ⟨rfl, e18, (by decide : 1 + 0 ≤ _), (by decide : 5 + 0 ≤ _)⟩)
    dsimp only [Pt.U, Pt.locs, Pt.cells, Pt.slots] at X23 l23 y23 z23 st23 hQ23
    subst l23 y23 z23
    obtain ⟨rfl, N23q, e23⟩ := hQ23
    have N23 := Fr.app N18 N23q
    refine own_via st23 ?_
    show own_Go p e below s _ _ _ (T23.setTop (mkF m 135 #[.val (.int p0), .val (.long p1), .second, .val (.int p2), .val (.int p3), .val (.ref b1), .val (.int (Nat.toInt32 sN)), .val (.int (Nat.toInt32 eN)), .val (.int (Nat.toInt32 EN)), .val (.int v21), .unset, .unset, .unset, .unset] [(.int (own_lb x1))]))
    have st24 : ∀ t, Steps p.tables e below (T23.setTop (mkF m 144 #[.val (.int p0), .val (.long p1), .second, .val (.int p2), .val (.int p3), .val (.ref b1), .val (.int (Nat.toInt32 sN)), .val (.int (Nat.toInt32 eN)), .val (.int (Nat.toInt32 EN)), .val (.int (if (own_lb x1) = (0 : Int32) then v21 else (v21 ||| (2 : Int32)))), .unset, .unset, .unset, .unset] [])) t → Steps p.tables e below (T23.setTop (mkF m 135 #[.val (.int p0), .val (.long p1), .second, .val (.int p2), .val (.int p3), .val (.ref b1), .val (.int (Nat.toInt32 sN)), .val (.int (Nat.toInt32 eN)), .val (.int (Nat.toInt32 EN)), .val (.int v21), .unset, .unset, .unset, .unset] [(.int (own_lb x1))])) t := by
      intro t k
      by_cases hq25 : (own_lb x1) = (0 : Int32)
      · refine XS.ifYes X23.here hx rfl (pc0 := 135) (pc' := 144) rfl (hb hby at_135) rfl (Jvm.Free.XT.i0_eq_t hq25) (by decide) (by decide) ?_
        show Steps p.tables e below (T23.setTop (mkF m 144 #[.val (.int p0), .val (.long p1), .second, .val (.int p2), .val (.int p3), .val (.ref b1), .val (.int (Nat.toInt32 sN)), .val (.int (Nat.toInt32 eN)), .val (.int (Nat.toInt32 EN)), .val (.int v21), .unset, .unset, .unset, .unset] [])) t
        simp only [if_pos hq25] at k
        exact k
      · refine XS.ifNo X23.here hx rfl (hb hby at_135) rfl (Jvm.Free.XT.i0_eq_f hq25) ?_
        show Steps p.tables e below (T23.setTop (mkF m 138 #[.val (.int p0), .val (.long p1), .second, .val (.int p2), .val (.int p3), .val (.ref b1), .val (.int (Nat.toInt32 sN)), .val (.int (Nat.toInt32 eN)), .val (.int (Nat.toInt32 EN)), .val (.int v21), .unset, .unset, .unset, .unset] [])) t
        refine XS.iload X23.here hx rfl (hb hby at_138) rfl ?_
        show Steps p.tables e below (T23.setTop (mkF m 140 #[.val (.int p0), .val (.long p1), .second, .val (.int p2), .val (.int p3), .val (.ref b1), .val (.int (Nat.toInt32 sN)), .val (.int (Nat.toInt32 eN)), .val (.int (Nat.toInt32 EN)), .val (.int v21), .unset, .unset, .unset, .unset] [(.int v21)])) t
        refine XS.iconst X23.here hx rfl (hb hby at_140) ?_
        show Steps p.tables e below (T23.setTop (mkF m 141 #[.val (.int p0), .val (.long p1), .second, .val (.int p2), .val (.int p3), .val (.ref b1), .val (.int (Nat.toInt32 sN)), .val (.int (Nat.toInt32 eN)), .val (.int (Nat.toInt32 EN)), .val (.int v21), .unset, .unset, .unset, .unset] [(.int (2 : Int32)), (.int v21)])) t
        refine XS.ior X23.here hx rfl (hb hby at_141) rfl ?_
        show Steps p.tables e below (T23.setTop (mkF m 142 #[.val (.int p0), .val (.long p1), .second, .val (.int p2), .val (.int p3), .val (.ref b1), .val (.int (Nat.toInt32 sN)), .val (.int (Nat.toInt32 eN)), .val (.int (Nat.toInt32 EN)), .val (.int v21), .unset, .unset, .unset, .unset] [(.int (v21 ||| (2 : Int32)))])) t
        refine XS.istore X23.here hx rfl (hb hby at_142) rfl (l' := #[.val (.int p0), .val (.long p1), .second, .val (.int p2), .val (.int p3), .val (.ref b1), .val (.int (Nat.toInt32 sN)), .val (.int (Nat.toInt32 eN)), .val (.int (Nat.toInt32 EN)), .val (.int (v21 ||| (2 : Int32))), .unset, .unset, .unset, .unset]) rfl ?_
        show Steps p.tables e below (T23.setTop (mkF m 144 #[.val (.int p0), .val (.long p1), .second, .val (.int p2), .val (.int p3), .val (.ref b1), .val (.int (Nat.toInt32 sN)), .val (.int (Nat.toInt32 eN)), .val (.int (Nat.toInt32 EN)), .val (.int (v21 ||| (2 : Int32))), .unset, .unset, .unset, .unset] [])) t
        simp only [if_neg hq25] at k
        exact k
    refine own_via st24 ?_
    show own_Go p e below s _ _ _ (T23.setTop (mkF m 144 #[.val (.int p0), .val (.long p1), .second, .val (.int p2), .val (.int p3), .val (.ref b1), .val (.int (Nat.toInt32 sN)), .val (.int (Nat.toInt32 eN)), .val (.int (Nat.toInt32 EN)), .val (.int (if (own_lb x1) = (0 : Int32) then v21 else (v21 ||| (2 : Int32)))), .unset, .unset, .unset, .unset] []))
    generalize hv26 : (if (own_lb x1) = (0 : Int32) then v21 else (v21 ||| (2 : Int32))) = v26
    show own_Go p e below s _ _ _ (T23.setTop (mkF m 144 #[.val (.int p0), .val (.long p1), .second, .val (.int p2), .val (.int p3), .val (.ref b1), .val (.int (Nat.toInt32 sN)), .val (.int (Nat.toInt32 eN)), .val (.int (Nat.toInt32 EN)), .val (.int v26), .unset, .unset, .unset, .unset] []))
    refine own_via (fun _ k => XS.aload X23.here hx rfl (hb hby at_144) rfl rfl k) ?_
    show own_Go p e below s _ _ _ (T23.setTop (mkF m 146 #[.val (.int p0), .val (.long p1), .second, .val (.int p2), .val (.int p3), .val (.ref b1), .val (.int (Nat.toInt32 sN)), .val (.int (Nat.toInt32 eN)), .val (.int (Nat.toInt32 EN)), .val (.int v26), .unset, .unset, .unset, .unset] [(.ref b1)]))
    refine own_via (fun _ k => XS.iconst X23.here hx rfl (hb hby at_146) k) ?_
    show own_Go p e below s _ _ _ (T23.setTop (mkF m 147 #[.val (.int p0), .val (.long p1), .second, .val (.int p2), .val (.int p3), .val (.ref b1), .val (.int (Nat.toInt32 sN)), .val (.int (Nat.toInt32 eN)), .val (.int (Nat.toInt32 EN)), .val (.int v26), .unset, .unset, .unset, .unset] [(.int (2 : Int32)), (.ref b1)]))
    obtain ⟨cl27, Ar27, q27, S27, M27, H27, G27⟩ := (id F16)
    have hin27 : ¬ ((2 : Int32) < 0 ∨ cl27.slots.size ≤ ((2 : Int32)).toNatClampNeg) := inb_of S27 ⟨by decide, by decide⟩
    have hat27 : cl27.slots[((2 : Int32)).toNatClampNeg]? = some (.int x2) := Has.at H27 hin27 rfl
    refine own_via (fun _ k => X23.baloadBytes hx (j := (2 : Int32)) (v := (.int x2)) (by rw [e23]; exact Ar27.1) (State.isArrayOf_alike hZ.alike Ar27.2.1) Ar27.2.2 hin27 hat27 (g := (mkF m 147 #[.val (.int p0), .val (.long p1), .second, .val (.int p2), .val (.int p3), .val (.ref b1), .val (.int (Nat.toInt32 sN)), .val (.int (Nat.toInt32 eN)), .val (.int (Nat.toInt32 EN)), .val (.int v26), .unset, .unset, .unset, .unset] [(.int (2 : Int32)), (.ref b1)])) rfl rfl (hb hby at_147) _ k) ?_
    show own_Go p e below s _ _ _ (T23.setTop (mkF m 148 #[.val (.int p0), .val (.long p1), .second, .val (.int p2), .val (.int p3), .val (.ref b1), .val (.int (Nat.toInt32 sN)), .val (.int (Nat.toInt32 eN)), .val (.int (Nat.toInt32 EN)), .val (.int v26), .unset, .unset, .unset, .unset] [(.int x2)]))
    obtain ⟨_, _, ⟨T28, L28, k28, n28⟩, -, X28, ⟨Lc28, hQ28, l28, y28, z28⟩, st28⟩ := Jvm.LawKit.callS X23 hx (y := (⟨"com/example/enlace/enlace/graph/LineFieldsAdvancePinLaw", "isBlank", "(B)Z"⟩ : MethodName)) hown (mvT hZ (hw _ (List.mem_of_getElem? (i := 6) rfl))) (mvT hZ (hw _ (List.mem_of_getElem? (i := 7) rfl))) (mvT hZ (hw _ (List.mem_of_getElem? (i := 3) rfl))) (mvT hZ (hw _ (List.mem_of_getElem? (i := 8) rfl))) (by decide) (backOf (W := 0) (rm2 l Z a0 hw [] x2 h15 n0 Z15 ) hZ (hw _ (List.mem_of_getElem? (i := 8) rfl)) (hw _ (List.mem_of_getElem? (i := 3) rfl)) (by decide) (by decide)) (g := (mkF m 148 #[.val (.int p0), .val (.long p1), .second, .val (.int p2), .val (.int p3), .val (.ref b1), .val (.int (Nat.toInt32 sN)), .val (.int (Nat.toInt32 eN)), .val (.int (Nat.toInt32 EN)), .val (.int v26), .unset, .unset, .unset, .unset] [(.int x2)])) rfl (by rw [hml]; rfl) (argsL := [(.int x2)]) (rest := []) (lenOf pd_0 rfl) rfl (by show 2 * 0 + _ ≤ _; exact Nat.le_of_eq rfl) (hb hby at_148) (fun _ _ => ⟨rfl, e23, (by decide : 1 + 0 ≤ _), (by decide : 5 + 0 ≤ _)⟩)
    dsimp only [Pt.U, Pt.locs, Pt.cells, Pt.slots] at X28 l28 y28 z28 st28 hQ28
    subst l28 y28 z28
    obtain ⟨rfl, N28q, e28⟩ := hQ28
    have N28 := Fr.app N23 N28q
    refine own_via st28 ?_
    show own_Go p e below s _ _ _ (T28.setTop (mkF m 151 #[.val (.int p0), .val (.long p1), .second, .val (.int p2), .val (.int p3), .val (.ref b1), .val (.int (Nat.toInt32 sN)), .val (.int (Nat.toInt32 eN)), .val (.int (Nat.toInt32 EN)), .val (.int v26), .unset, .unset, .unset, .unset] [(.int (own_lb x2))]))
    have st29 : ∀ t, Steps p.tables e below (T28.setTop (mkF m 160 #[.val (.int p0), .val (.long p1), .second, .val (.int p2), .val (.int p3), .val (.ref b1), .val (.int (Nat.toInt32 sN)), .val (.int (Nat.toInt32 eN)), .val (.int (Nat.toInt32 EN)), .val (.int (if (own_lb x2) = (0 : Int32) then v26 else (v26 ||| (4 : Int32)))), .unset, .unset, .unset, .unset] [])) t → Steps p.tables e below (T28.setTop (mkF m 151 #[.val (.int p0), .val (.long p1), .second, .val (.int p2), .val (.int p3), .val (.ref b1), .val (.int (Nat.toInt32 sN)), .val (.int (Nat.toInt32 eN)), .val (.int (Nat.toInt32 EN)), .val (.int v26), .unset, .unset, .unset, .unset] [(.int (own_lb x2))])) t := by
      intro t k
      by_cases hq30 : (own_lb x2) = (0 : Int32)
      · refine XS.ifYes X28.here hx rfl (pc0 := 151) (pc' := 160) rfl (hb hby at_151) rfl (Jvm.Free.XT.i0_eq_t hq30) (by decide) (by decide) ?_
        show Steps p.tables e below (T28.setTop (mkF m 160 #[.val (.int p0), .val (.long p1), .second, .val (.int p2), .val (.int p3), .val (.ref b1), .val (.int (Nat.toInt32 sN)), .val (.int (Nat.toInt32 eN)), .val (.int (Nat.toInt32 EN)), .val (.int v26), .unset, .unset, .unset, .unset] [])) t
        simp only [if_pos hq30] at k
        exact k
      · refine XS.ifNo X28.here hx rfl (hb hby at_151) rfl (Jvm.Free.XT.i0_eq_f hq30) ?_
        show Steps p.tables e below (T28.setTop (mkF m 154 #[.val (.int p0), .val (.long p1), .second, .val (.int p2), .val (.int p3), .val (.ref b1), .val (.int (Nat.toInt32 sN)), .val (.int (Nat.toInt32 eN)), .val (.int (Nat.toInt32 EN)), .val (.int v26), .unset, .unset, .unset, .unset] [])) t
        refine XS.iload X28.here hx rfl (hb hby at_154) rfl ?_
        show Steps p.tables e below (T28.setTop (mkF m 156 #[.val (.int p0), .val (.long p1), .second, .val (.int p2), .val (.int p3), .val (.ref b1), .val (.int (Nat.toInt32 sN)), .val (.int (Nat.toInt32 eN)), .val (.int (Nat.toInt32 EN)), .val (.int v26), .unset, .unset, .unset, .unset] [(.int v26)])) t
        refine XS.iconst X28.here hx rfl (hb hby at_156) ?_
        show Steps p.tables e below (T28.setTop (mkF m 157 #[.val (.int p0), .val (.long p1), .second, .val (.int p2), .val (.int p3), .val (.ref b1), .val (.int (Nat.toInt32 sN)), .val (.int (Nat.toInt32 eN)), .val (.int (Nat.toInt32 EN)), .val (.int v26), .unset, .unset, .unset, .unset] [(.int (4 : Int32)), (.int v26)])) t
        refine XS.ior X28.here hx rfl (hb hby at_157) rfl ?_
        show Steps p.tables e below (T28.setTop (mkF m 158 #[.val (.int p0), .val (.long p1), .second, .val (.int p2), .val (.int p3), .val (.ref b1), .val (.int (Nat.toInt32 sN)), .val (.int (Nat.toInt32 eN)), .val (.int (Nat.toInt32 EN)), .val (.int v26), .unset, .unset, .unset, .unset] [(.int (v26 ||| (4 : Int32)))])) t
        refine XS.istore X28.here hx rfl (hb hby at_158) rfl (l' := #[.val (.int p0), .val (.long p1), .second, .val (.int p2), .val (.int p3), .val (.ref b1), .val (.int (Nat.toInt32 sN)), .val (.int (Nat.toInt32 eN)), .val (.int (Nat.toInt32 EN)), .val (.int (v26 ||| (4 : Int32))), .unset, .unset, .unset, .unset]) rfl ?_
        show Steps p.tables e below (T28.setTop (mkF m 160 #[.val (.int p0), .val (.long p1), .second, .val (.int p2), .val (.int p3), .val (.ref b1), .val (.int (Nat.toInt32 sN)), .val (.int (Nat.toInt32 eN)), .val (.int (Nat.toInt32 EN)), .val (.int (v26 ||| (4 : Int32))), .unset, .unset, .unset, .unset] [])) t
        simp only [if_neg hq30] at k
        exact k
    refine own_via st29 ?_
    show own_Go p e below s _ _ _ (T28.setTop (mkF m 160 #[.val (.int p0), .val (.long p1), .second, .val (.int p2), .val (.int p3), .val (.ref b1), .val (.int (Nat.toInt32 sN)), .val (.int (Nat.toInt32 eN)), .val (.int (Nat.toInt32 EN)), .val (.int (if (own_lb x2) = (0 : Int32) then v26 else (v26 ||| (4 : Int32)))), .unset, .unset, .unset, .unset] []))
    generalize hv31 : (if (own_lb x2) = (0 : Int32) then v26 else (v26 ||| (4 : Int32))) = v31
    show own_Go p e below s _ _ _ (T28.setTop (mkF m 160 #[.val (.int p0), .val (.long p1), .second, .val (.int p2), .val (.int p3), .val (.ref b1), .val (.int (Nat.toInt32 sN)), .val (.int (Nat.toInt32 eN)), .val (.int (Nat.toInt32 EN)), .val (.int v31), .unset, .unset, .unset, .unset] []))
    refine own_via (fun _ k => XS.aload X28.here hx rfl (hb hby at_160) rfl rfl k) ?_
    show own_Go p e below s _ _ _ (T28.setTop (mkF m 162 #[.val (.int p0), .val (.long p1), .second, .val (.int p2), .val (.int p3), .val (.ref b1), .val (.int (Nat.toInt32 sN)), .val (.int (Nat.toInt32 eN)), .val (.int (Nat.toInt32 EN)), .val (.int v31), .unset, .unset, .unset, .unset] [(.ref b1)]))
    refine own_via (fun _ k => XS.iconst X28.here hx rfl (hb hby at_162) k) ?_
    show own_Go p e below s _ _ _ (T28.setTop (mkF m 163 #[.val (.int p0), .val (.long p1), .second, .val (.int p2), .val (.int p3), .val (.ref b1), .val (.int (Nat.toInt32 sN)), .val (.int (Nat.toInt32 eN)), .val (.int (Nat.toInt32 EN)), .val (.int v31), .unset, .unset, .unset, .unset] [(.int (3 : Int32)), (.ref b1)]))
    obtain ⟨cl32, Ar32, q32, S32, M32, H32, G32⟩ := (id F16)
    have hin32 : ¬ ((3 : Int32) < 0 ∨ cl32.slots.size ≤ ((3 : Int32)).toNatClampNeg) := inb_of S32 ⟨by decide, by decide⟩
    have hat32 : cl32.slots[((3 : Int32)).toNatClampNeg]? = some (.int x3) := Has.at H32 hin32 rfl
    refine own_via (fun _ k => X28.baloadBytes hx (j := (3 : Int32)) (v := (.int x3)) (by rw [e28]; exact Ar32.1) (State.isArrayOf_alike hZ.alike Ar32.2.1) Ar32.2.2 hin32 hat32 (g := (mkF m 163 #[.val (.int p0), .val (.long p1), .second, .val (.int p2), .val (.int p3), .val (.ref b1), .val (.int (Nat.toInt32 sN)), .val (.int (Nat.toInt32 eN)), .val (.int (Nat.toInt32 EN)), .val (.int v31), .unset, .unset, .unset, .unset] [(.int (3 : Int32)), (.ref b1)])) rfl rfl (hb hby at_163) _ k) ?_
    show own_Go p e below s _ _ _ (T28.setTop (mkF m 164 #[.val (.int p0), .val (.long p1), .second, .val (.int p2), .val (.int p3), .val (.ref b1), .val (.int (Nat.toInt32 sN)), .val (.int (Nat.toInt32 eN)), .val (.int (Nat.toInt32 EN)), .val (.int v31), .unset, .unset, .unset, .unset] [(.int x3)]))
    obtain ⟨_, _, ⟨T33, L33, k33, n33⟩, -, X33, ⟨Lc33, hQ33, l33, y33, z33⟩, st33⟩ := Jvm.LawKit.callS X28 hx (y := (⟨"com/example/enlace/enlace/graph/LineFieldsAdvancePinLaw", "isBlank", "(B)Z"⟩ : MethodName)) hown (mvT hZ (hw _ (List.mem_of_getElem? (i := 6) rfl))) (mvT hZ (hw _ (List.mem_of_getElem? (i := 7) rfl))) (mvT hZ (hw _ (List.mem_of_getElem? (i := 3) rfl))) (mvT hZ (hw _ (List.mem_of_getElem? (i := 8) rfl))) (by decide) (backOf (W := 0) (rm2 l Z a0 hw [] x3 h15 n0 Z15 ) hZ (hw _ (List.mem_of_getElem? (i := 8) rfl)) (hw _ (List.mem_of_getElem? (i := 3) rfl)) (by decide) (by decide)) (g := (mkF m 164 #[.val (.int p0), .val (.long p1), .second, .val (.int p2), .val (.int p3), .val (.ref b1), .val (.int (Nat.toInt32 sN)), .val (.int (Nat.toInt32 eN)), .val (.int (Nat.toInt32 EN)), .val (.int v31), .unset, .unset, .unset, .unset] [(.int x3)])) rfl (by rw [hml]; rfl) (argsL := [(.int x3)]) (rest := []) (lenOf pd_0 rfl) rfl (by show 2 * 0 + _ ≤ _; exact Nat.le_of_eq rfl) (hb hby at_164) (fun _ _ => ⟨rfl, e28, (by decide : 1 + 0 ≤ _), (by decide : 5 + 0 ≤ _)⟩)
    dsimp only [Pt.U, Pt.locs, Pt.cells, Pt.slots] at X33 l33 y33 z33 st33 hQ33
    subst l33 y33 z33
    obtain ⟨rfl, N33q, e33⟩ := hQ33
    have N33 := Fr.app N28 N33q
    refine own_via st33 ?_
    show own_Go p e below s _ _ _ (T33.setTop (mkF m 167 #[.val (.int p0), .val (.long p1), .second, .val (.int p2), .val (.int p3), .val (.ref b1), .val (.int (Nat.toInt32 sN)), .val (.int (Nat.toInt32 eN)), .val (.int (Nat.toInt32 EN)), .val (.int v31), .unset, .unset, .unset, .unset] [(.int (own_lb x3))]))
    have st34 : ∀ t, Steps p.tables e below (T33.setTop (mkF m 177 #[.val (.int p0), .val (.long p1), .second, .val (.int p2), .val (.int p3), .val (.ref b1), .val (.int (Nat.toInt32 sN)), .val (.int (Nat.toInt32 eN)), .val (.int (Nat.toInt32 EN)), .val (.int (if (own_lb x3) = (0 : Int32) then v31 else (v31 ||| (8 : Int32)))), .unset, .unset, .unset, .unset] [])) t → Steps p.tables e below (T33.setTop (mkF m 167 #[.val (.int p0), .val (.long p1), .second, .val (.int p2), .val (.int p3), .val (.ref b1), .val (.int (Nat.toInt32 sN)), .val (.int (Nat.toInt32 eN)), .val (.int (Nat.toInt32 EN)), .val (.int v31), .unset, .unset, .unset, .unset] [(.int (own_lb x3))])) t := by
      intro t k
      by_cases hq35 : (own_lb x3) = (0 : Int32)
      · refine XS.ifYes X33.here hx rfl (pc0 := 167) (pc' := 177) rfl (hb hby at_167) rfl (Jvm.Free.XT.i0_eq_t hq35) (by decide) (by decide) ?_
        show Steps p.tables e below (T33.setTop (mkF m 177 #[.val (.int p0), .val (.long p1), .second, .val (.int p2), .val (.int p3), .val (.ref b1), .val (.int (Nat.toInt32 sN)), .val (.int (Nat.toInt32 eN)), .val (.int (Nat.toInt32 EN)), .val (.int v31), .unset, .unset, .unset, .unset] [])) t
        simp only [if_pos hq35] at k
        exact k
      · refine XS.ifNo X33.here hx rfl (hb hby at_167) rfl (Jvm.Free.XT.i0_eq_f hq35) ?_
        show Steps p.tables e below (T33.setTop (mkF m 170 #[.val (.int p0), .val (.long p1), .second, .val (.int p2), .val (.int p3), .val (.ref b1), .val (.int (Nat.toInt32 sN)), .val (.int (Nat.toInt32 eN)), .val (.int (Nat.toInt32 EN)), .val (.int v31), .unset, .unset, .unset, .unset] [])) t
        refine XS.iload X33.here hx rfl (hb hby at_170) rfl ?_
        show Steps p.tables e below (T33.setTop (mkF m 172 #[.val (.int p0), .val (.long p1), .second, .val (.int p2), .val (.int p3), .val (.ref b1), .val (.int (Nat.toInt32 sN)), .val (.int (Nat.toInt32 eN)), .val (.int (Nat.toInt32 EN)), .val (.int v31), .unset, .unset, .unset, .unset] [(.int v31)])) t
        refine XS.bipush X33.here hx rfl (hb hby at_172) ?_
        show Steps p.tables e below (T33.setTop (mkF m 174 #[.val (.int p0), .val (.long p1), .second, .val (.int p2), .val (.int p3), .val (.ref b1), .val (.int (Nat.toInt32 sN)), .val (.int (Nat.toInt32 eN)), .val (.int (Nat.toInt32 EN)), .val (.int v31), .unset, .unset, .unset, .unset] [(.int (8 : Int32)), (.int v31)])) t
        refine XS.ior X33.here hx rfl (hb hby at_174) rfl ?_
        show Steps p.tables e below (T33.setTop (mkF m 175 #[.val (.int p0), .val (.long p1), .second, .val (.int p2), .val (.int p3), .val (.ref b1), .val (.int (Nat.toInt32 sN)), .val (.int (Nat.toInt32 eN)), .val (.int (Nat.toInt32 EN)), .val (.int v31), .unset, .unset, .unset, .unset] [(.int (v31 ||| (8 : Int32)))])) t
        refine XS.istore X33.here hx rfl (hb hby at_175) rfl (l' := #[.val (.int p0), .val (.long p1), .second, .val (.int p2), .val (.int p3), .val (.ref b1), .val (.int (Nat.toInt32 sN)), .val (.int (Nat.toInt32 eN)), .val (.int (Nat.toInt32 EN)), .val (.int (v31 ||| (8 : Int32))), .unset, .unset, .unset, .unset]) rfl ?_
        show Steps p.tables e below (T33.setTop (mkF m 177 #[.val (.int p0), .val (.long p1), .second, .val (.int p2), .val (.int p3), .val (.ref b1), .val (.int (Nat.toInt32 sN)), .val (.int (Nat.toInt32 eN)), .val (.int (Nat.toInt32 EN)), .val (.int (v31 ||| (8 : Int32))), .unset, .unset, .unset, .unset] [])) t
        simp only [if_neg hq35] at k
        exact k
    refine own_via st34 ?_
    show own_Go p e below s _ _ _ (T33.setTop (mkF m 177 #[.val (.int p0), .val (.long p1), .second, .val (.int p2), .val (.int p3), .val (.ref b1), .val (.int (Nat.toInt32 sN)), .val (.int (Nat.toInt32 eN)), .val (.int (Nat.toInt32 EN)), .val (.int (if (own_lb x3) = (0 : Int32) then v31 else (v31 ||| (8 : Int32)))), .unset, .unset, .unset, .unset] []))
    generalize hv36 : (if (own_lb x3) = (0 : Int32) then v31 else (v31 ||| (8 : Int32))) = v36
    show own_Go p e below s _ _ _ (T33.setTop (mkF m 177 #[.val (.int p0), .val (.long p1), .second, .val (.int p2), .val (.int p3), .val (.ref b1), .val (.int (Nat.toInt32 sN)), .val (.int (Nat.toInt32 eN)), .val (.int (Nat.toInt32 EN)), .val (.int v36), .unset, .unset, .unset, .unset] []))
    refine own_via (fun _ k => XS.aload X33.here hx rfl (hb hby at_177) rfl rfl k) ?_
    show own_Go p e below s _ _ _ (T33.setTop (mkF m 179 #[.val (.int p0), .val (.long p1), .second, .val (.int p2), .val (.int p3), .val (.ref b1), .val (.int (Nat.toInt32 sN)), .val (.int (Nat.toInt32 eN)), .val (.int (Nat.toInt32 EN)), .val (.int v36), .unset, .unset, .unset, .unset] [(.ref b1)]))
    refine own_via (fun _ k => XS.iconst X33.here hx rfl (hb hby at_179) k) ?_
    show own_Go p e below s _ _ _ (T33.setTop (mkF m 180 #[.val (.int p0), .val (.long p1), .second, .val (.int p2), .val (.int p3), .val (.ref b1), .val (.int (Nat.toInt32 sN)), .val (.int (Nat.toInt32 eN)), .val (.int (Nat.toInt32 EN)), .val (.int v36), .unset, .unset, .unset, .unset] [(.int (4 : Int32)), (.ref b1)]))
    obtain ⟨cl37, Ar37, q37, S37, M37, H37, G37⟩ := (id F16)
    have hin37 : ¬ ((4 : Int32) < 0 ∨ cl37.slots.size ≤ ((4 : Int32)).toNatClampNeg) := inb_of S37 ⟨by decide, by decide⟩
    have hat37 : cl37.slots[((4 : Int32)).toNatClampNeg]? = some (.int x4) := Has.at H37 hin37 rfl
    refine own_via (fun _ k => X33.baloadBytes hx (j := (4 : Int32)) (v := (.int x4)) (by rw [e33]; exact Ar37.1) (State.isArrayOf_alike hZ.alike Ar37.2.1) Ar37.2.2 hin37 hat37 (g := (mkF m 180 #[.val (.int p0), .val (.long p1), .second, .val (.int p2), .val (.int p3), .val (.ref b1), .val (.int (Nat.toInt32 sN)), .val (.int (Nat.toInt32 eN)), .val (.int (Nat.toInt32 EN)), .val (.int v36), .unset, .unset, .unset, .unset] [(.int (4 : Int32)), (.ref b1)])) rfl rfl (hb hby at_180) _ k) ?_
    show own_Go p e below s _ _ _ (T33.setTop (mkF m 181 #[.val (.int p0), .val (.long p1), .second, .val (.int p2), .val (.int p3), .val (.ref b1), .val (.int (Nat.toInt32 sN)), .val (.int (Nat.toInt32 eN)), .val (.int (Nat.toInt32 EN)), .val (.int v36), .unset, .unset, .unset, .unset] [(.int x4)]))
    obtain ⟨_, _, ⟨T38, L38, k38, n38⟩, -, X38, ⟨Lc38, hQ38, l38, y38, z38⟩, st38⟩ := Jvm.LawKit.callS X33 hx (y := (⟨"com/example/enlace/enlace/graph/LineFieldsAdvancePinLaw", "isBlank", "(B)Z"⟩ : MethodName)) hown (mvT hZ (hw _ (List.mem_of_getElem? (i := 6) rfl))) (mvT hZ (hw _ (List.mem_of_getElem? (i := 7) rfl))) (mvT hZ (hw _ (List.mem_of_getElem? (i := 3) rfl))) (mvT hZ (hw _ (List.mem_of_getElem? (i := 8) rfl))) (by decide) (backOf (W := 0) (rm2 l Z a0 hw [] x4 h15 n0 Z15 ) hZ (hw _ (List.mem_of_getElem? (i := 8) rfl)) (hw _ (List.mem_of_getElem? (i := 3) rfl)) (by decide) (by decide)) (g := (mkF m 181 #[.val (.int p0), .val (.long p1), .second, .val (.int p2), .val (.int p3), .val (.ref b1), .val (.int (Nat.toInt32 sN)), .val (.int (Nat.toInt32 eN)), .val (.int (Nat.toInt32 EN)), .val (.int v36), .unset, .unset, .unset, .unset] [(.int x4)])) rfl (by rw [hml]; rfl) (argsL := [(.int x4)]) (rest := []) (lenOf pd_0 rfl) rfl (by show 2 * 0 + _ ≤ _; exact Nat.le_of_eq rfl) (hb hby at_181) (fun _ _ => ⟨rfl, e33, (by decide : 1 + 0 ≤ _), (by decide : 5 + 0 ≤ _)⟩)
    dsimp only [Pt.U, Pt.locs, Pt.cells, Pt.slots] at X38 l38 y38 z38 st38 hQ38
    subst l38 y38 z38
    obtain ⟨rfl, N38q, e38⟩ := hQ38
    have N38 := Fr.app N33 N38q
    refine own_via st38 ?_
    show own_Go p e below s _ _ _ (T38.setTop (mkF m 184 #[.val (.int p0), .val (.long p1), .second, .val (.int p2), .val (.int p3), .val (.ref b1), .val (.int (Nat.toInt32 sN)), .val (.int (Nat.toInt32 eN)), .val (.int (Nat.toInt32 EN)), .val (.int v36), .unset, .unset, .unset, .unset] [(.int (own_lb x4))]))
    have st39 : ∀ t, Steps p.tables e below (T38.setTop (mkF m 194 #[.val (.int p0), .val (.long p1), .second, .val (.int p2), .val (.int p3), .val (.ref b1), .val (.int (Nat.toInt32 sN)), .val (.int (Nat.toInt32 eN)), .val (.int (Nat.toInt32 EN)), .val (.int (if (own_lb x4) = (0 : Int32) then v36 else (v36 ||| (16 : Int32)))), .unset, .unset, .unset, .unset] [])) t → Steps p.tables e below (T38.setTop (mkF m 184 #[.val (.int p0), .val (.long p1), .second, .val (.int p2), .val (.int p3), .val (.ref b1), .val (.int (Nat.toInt32 sN)), .val (.int (Nat.toInt32 eN)), .val (.int (Nat.toInt32 EN)), .val (.int v36), .unset, .unset, .unset, .unset] [(.int (own_lb x4))])) t := by
      intro t k
      by_cases hq40 : (own_lb x4) = (0 : Int32)
      · refine XS.ifYes X38.here hx rfl (pc0 := 184) (pc' := 194) rfl (hb hby at_184) rfl (Jvm.Free.XT.i0_eq_t hq40) (by decide) (by decide) ?_
        show Steps p.tables e below (T38.setTop (mkF m 194 #[.val (.int p0), .val (.long p1), .second, .val (.int p2), .val (.int p3), .val (.ref b1), .val (.int (Nat.toInt32 sN)), .val (.int (Nat.toInt32 eN)), .val (.int (Nat.toInt32 EN)), .val (.int v36), .unset, .unset, .unset, .unset] [])) t
        simp only [if_pos hq40] at k
        exact k
      · refine XS.ifNo X38.here hx rfl (hb hby at_184) rfl (Jvm.Free.XT.i0_eq_f hq40) ?_
        show Steps p.tables e below (T38.setTop (mkF m 187 #[.val (.int p0), .val (.long p1), .second, .val (.int p2), .val (.int p3), .val (.ref b1), .val (.int (Nat.toInt32 sN)), .val (.int (Nat.toInt32 eN)), .val (.int (Nat.toInt32 EN)), .val (.int v36), .unset, .unset, .unset, .unset] [])) t
        refine XS.iload X38.here hx rfl (hb hby at_187) rfl ?_
        show Steps p.tables e below (T38.setTop (mkF m 189 #[.val (.int p0), .val (.long p1), .second, .val (.int p2), .val (.int p3), .val (.ref b1), .val (.int (Nat.toInt32 sN)), .val (.int (Nat.toInt32 eN)), .val (.int (Nat.toInt32 EN)), .val (.int v36), .unset, .unset, .unset, .unset] [(.int v36)])) t
        refine XS.bipush X38.here hx rfl (hb hby at_189) ?_
        show Steps p.tables e below (T38.setTop (mkF m 191 #[.val (.int p0), .val (.long p1), .second, .val (.int p2), .val (.int p3), .val (.ref b1), .val (.int (Nat.toInt32 sN)), .val (.int (Nat.toInt32 eN)), .val (.int (Nat.toInt32 EN)), .val (.int v36), .unset, .unset, .unset, .unset] [(.int (16 : Int32)), (.int v36)])) t
        refine XS.ior X38.here hx rfl (hb hby at_191) rfl ?_
        show Steps p.tables e below (T38.setTop (mkF m 192 #[.val (.int p0), .val (.long p1), .second, .val (.int p2), .val (.int p3), .val (.ref b1), .val (.int (Nat.toInt32 sN)), .val (.int (Nat.toInt32 eN)), .val (.int (Nat.toInt32 EN)), .val (.int v36), .unset, .unset, .unset, .unset] [(.int (v36 ||| (16 : Int32)))])) t
        refine XS.istore X38.here hx rfl (hb hby at_192) rfl (l' := #[.val (.int p0), .val (.long p1), .second, .val (.int p2), .val (.int p3), .val (.ref b1), .val (.int (Nat.toInt32 sN)), .val (.int (Nat.toInt32 eN)), .val (.int (Nat.toInt32 EN)), .val (.int (v36 ||| (16 : Int32))), .unset, .unset, .unset, .unset]) rfl ?_
        show Steps p.tables e below (T38.setTop (mkF m 194 #[.val (.int p0), .val (.long p1), .second, .val (.int p2), .val (.int p3), .val (.ref b1), .val (.int (Nat.toInt32 sN)), .val (.int (Nat.toInt32 eN)), .val (.int (Nat.toInt32 EN)), .val (.int (v36 ||| (16 : Int32))), .unset, .unset, .unset, .unset] [])) t
        simp only [if_neg hq40] at k
        exact k
    refine own_via st39 ?_
    show own_Go p e below s _ _ _ (T38.setTop (mkF m 194 #[.val (.int p0), .val (.long p1), .second, .val (.int p2), .val (.int p3), .val (.ref b1), .val (.int (Nat.toInt32 sN)), .val (.int (Nat.toInt32 eN)), .val (.int (Nat.toInt32 EN)), .val (.int (if (own_lb x4) = (0 : Int32) then v36 else (v36 ||| (16 : Int32)))), .unset, .unset, .unset, .unset] []))
    generalize hv41 : (if (own_lb x4) = (0 : Int32) then v36 else (v36 ||| (16 : Int32))) = v41
    show own_Go p e below s _ _ _ (T38.setTop (mkF m 194 #[.val (.int p0), .val (.long p1), .second, .val (.int p2), .val (.int p3), .val (.ref b1), .val (.int (Nat.toInt32 sN)), .val (.int (Nat.toInt32 eN)), .val (.int (Nat.toInt32 EN)), .val (.int v41), .unset, .unset, .unset, .unset] []))
    refine own_via (fun _ k => XS.iload X38.here hx rfl (hb hby at_194) rfl k) ?_
    show own_Go p e below s _ _ _ (T38.setTop (mkF m 196 #[.val (.int p0), .val (.long p1), .second, .val (.int p2), .val (.int p3), .val (.ref b1), .val (.int (Nat.toInt32 sN)), .val (.int (Nat.toInt32 eN)), .val (.int (Nat.toInt32 EN)), .val (.int v41), .unset, .unset, .unset, .unset] [(.int v41)]))
    refine own_via (fun _ k => XS.iconst X38.here hx rfl (hb hby at_196) k) ?_
    show own_Go p e below s _ _ _ (T38.setTop (mkF m 197 #[.val (.int p0), .val (.long p1), .second, .val (.int p2), .val (.int p3), .val (.ref b1), .val (.int (Nat.toInt32 sN)), .val (.int (Nat.toInt32 eN)), .val (.int (Nat.toInt32 EN)), .val (.int v41), .unset, .unset, .unset, .unset] [(.int (-1 : Int32)), (.int v41)]))
    refine own_via (fun _ k => XS.ixor X38.here hx rfl (hb hby at_197) rfl k) ?_
    show own_Go p e below s _ _ _ (T38.setTop (mkF m 198 #[.val (.int p0), .val (.long p1), .second, .val (.int p2), .val (.int p3), .val (.ref b1), .val (.int (Nat.toInt32 sN)), .val (.int (Nat.toInt32 eN)), .val (.int (Nat.toInt32 EN)), .val (.int v41), .unset, .unset, .unset, .unset] [(.int (v41 ^^^ (-1 : Int32)))]))
    refine own_via (fun _ k => XS.iload X38.here hx rfl (hb hby at_198) rfl k) ?_
    show own_Go p e below s _ _ _ (T38.setTop (mkF m 200 #[.val (.int p0), .val (.long p1), .second, .val (.int p2), .val (.int p3), .val (.ref b1), .val (.int (Nat.toInt32 sN)), .val (.int (Nat.toInt32 eN)), .val (.int (Nat.toInt32 EN)), .val (.int v41), .unset, .unset, .unset, .unset] [(.int (Nat.toInt32 sN)), (.int (v41 ^^^ (-1 : Int32)))]))
    refine own_via (fun _ k => XS.iload X38.here hx rfl (hb hby at_200) rfl k) ?_
    show own_Go p e below s _ _ _ (T38.setTop (mkF m 202 #[.val (.int p0), .val (.long p1), .second, .val (.int p2), .val (.int p3), .val (.ref b1), .val (.int (Nat.toInt32 sN)), .val (.int (Nat.toInt32 eN)), .val (.int (Nat.toInt32 EN)), .val (.int v41), .unset, .unset, .unset, .unset] [(.int (Nat.toInt32 EN)), (.int (Nat.toInt32 sN)), (.int (v41 ^^^ (-1 : Int32)))]))
    obtain ⟨_, _, ⟨T42, L42, k42, n42⟩, -, X42, ⟨Lc42, hQ42, l42, y42, z42⟩, st42⟩ := Jvm.LawKit.callS X38 hx (y := (⟨"com/example/enlace/enlace/graph/LineFieldsAdvancePinLaw", "range", "(II)I"⟩ : MethodName)) hown (mvT hZ (hw _ (List.mem_of_getElem? (i := 9) rfl))) (mvT hZ (hw _ (List.mem_of_getElem? (i := 10) rfl))) (mvT hZ (hw _ (List.mem_of_getElem? (i := 3) rfl))) (mvT hZ (hw _ (List.mem_of_getElem? (i := 11) rfl))) (by decide) (backOf (W := 1) (rm3 l Z a0 hw [] (Nat.toInt32 sN) (Nat.toInt32 EN) h15 n0 Z15 ) hZ (hw _ (List.mem_of_getElem? (i := 11) rfl)) (hw _ (List.mem_of_getElem? (i := 3) rfl)) (by decide) (by decide)) (g := (mkF m 202 #[.val (.int p0), .val (.long p1), .second, .val (.int p2), .val (.int p3), .val (.ref b1), .val (.int (Nat.toInt32 sN)), .val (.int (Nat.toInt32 eN)), .val (.int (Nat.toInt32 EN)), .val (.int v41), .unset, .unset, .unset, .unset] [(.int (Nat.toInt32 EN)), (.int (Nat.toInt32 sN)), (.int (v41 ^^^ (-1 : Int32)))])) rfl (by rw [hml]; rfl) (argsL := [(.int (Nat.toInt32 sN)), (.int (Nat.toInt32 EN))]) (rest := [(.int (v41 ^^^ (-1 : Int32)))]) (lenOf pd_2 rfl) rfl (by show 2 * 0 + _ ≤ _; exact Nat.le_of_eq rfl) (hb hby at_202) (fun _ _ => ⟨rfl, e38, (by decide : 1 + 0 ≤ _), (by decide : 5 + 0 ≤ _)⟩)
    dsimp only [Pt.U, Pt.locs, Pt.cells, Pt.slots] at X42 l42 y42 z42 st42 hQ42
    subst l42 y42 z42
    obtain ⟨rfl, N42q, e42⟩ := hQ42
    have N42 := Fr.app N38 N42q
    refine own_via st42 ?_
    show own_Go p e below s _ _ _ (T42.setTop (mkF m 205 #[.val (.int p0), .val (.long p1), .second, .val (.int p2), .val (.int p3), .val (.ref b1), .val (.int (Nat.toInt32 sN)), .val (.int (Nat.toInt32 eN)), .val (.int (Nat.toInt32 EN)), .val (.int v41), .unset, .unset, .unset, .unset] [(.int (own_rng (Nat.toInt32 sN) (Nat.toInt32 EN))), (.int (v41 ^^^ (-1 : Int32)))]))
    refine own_via (fun _ k => XS.iand X42.here hx rfl (hb hby at_205) rfl k) ?_
    show own_Go p e below s _ _ _ (T42.setTop (mkF m 206 #[.val (.int p0), .val (.long p1), .second, .val (.int p2), .val (.int p3), .val (.ref b1), .val (.int (Nat.toInt32 sN)), .val (.int (Nat.toInt32 eN)), .val (.int (Nat.toInt32 EN)), .val (.int v41), .unset, .unset, .unset, .unset] [(.int ((v41 ^^^ (-1 : Int32)) &&& (own_rng (Nat.toInt32 sN) (Nat.toInt32 EN))))]))
    obtain ⟨_, _, ⟨T43, L43, k43, n43⟩, -, X43, ⟨Lc43, hQ43, l43, y43, z43⟩, st43⟩ := Jvm.LawKit.callS X42 hx (y := (⟨"com/example/enlace/enlace/graph/LineFieldsAdvancePinLaw", "lowest", "(I)I"⟩ : MethodName)) hown (mvT hZ (hw _ (List.mem_of_getElem? (i := 12) rfl))) (mvT hZ (hw _ (List.mem_of_getElem? (i := 13) rfl))) (mvT hZ (hw _ (List.mem_of_getElem? (i := 3) rfl))) (mvT hZ (hw _ (List.mem_of_getElem? (i := 14) rfl))) (by decide) (backOf (W := 0) (rm4 l Z a0 hw [] ((v41 ^^^ (-1 : Int32)) &&& (own_rng (Nat.toInt32 sN) (Nat.toInt32 EN))) h15 n0 Z15 ) hZ (hw _ (List.mem_of_getElem? (i := 14) rfl)) (hw _ (List.mem_of_getElem? (i := 3) rfl)) (by decide) (by decide)) (g := (mkF m 206 #[.val (.int p0), .val (.long p1), .second, .val (.int p2), .val (.int p3), .val (.ref b1), .val (.int (Nat.toInt32 sN)), .val (.int (Nat.toInt32 eN)), .val (.int (Nat.toInt32 EN)), .val (.int v41), .unset, .unset, .unset, .unset] [(.int ((v41 ^^^ (-1 : Int32)) &&& (own_rng (Nat.toInt32 sN) (Nat.toInt32 EN))))])) rfl (by rw [hml]; rfl) (argsL := [(.int ((v41 ^^^ (-1 : Int32)) &&& (own_rng (Nat.toInt32 sN) (Nat.toInt32 EN))))]) (rest := []) (lenOf pd_1 rfl) rfl (by show 2 * 0 + _ ≤ _; exact Nat.le_of_eq rfl) (hb hby at_206) (fun _ _ => ⟨rfl, e42, (by decide : 1 + 0 ≤ _), (by decide : 5 + 0 ≤ _)⟩)
    dsimp only [Pt.U, Pt.locs, Pt.cells, Pt.slots] at X43 l43 y43 z43 st43 hQ43
    subst l43 y43 z43
    obtain ⟨rfl, N43q, e43⟩ := hQ43
    have N43 := Fr.app N42 N43q
    refine own_via st43 ?_
    show own_Go p e below s _ _ _ (T43.setTop (mkF m 209 #[.val (.int p0), .val (.long p1), .second, .val (.int p2), .val (.int p3), .val (.ref b1), .val (.int (Nat.toInt32 sN)), .val (.int (Nat.toInt32 eN)), .val (.int (Nat.toInt32 EN)), .val (.int v41), .unset, .unset, .unset, .unset] [(.int (own_low ((v41 ^^^ (-1 : Int32)) &&& (own_rng (Nat.toInt32 sN) (Nat.toInt32 EN)))))]))
    refine own_via (fun _ k => XS.istore X43.here hx rfl (hb hby at_209) rfl (l' := #[.val (.int p0), .val (.long p1), .second, .val (.int p2), .val (.int p3), .val (.ref b1), .val (.int (Nat.toInt32 sN)), .val (.int (Nat.toInt32 eN)), .val (.int (Nat.toInt32 EN)), .val (.int v41), .val (.int (own_low ((v41 ^^^ (-1 : Int32)) &&& (own_rng (Nat.toInt32 sN) (Nat.toInt32 EN))))), .unset, .unset, .unset]) rfl k) ?_
    show own_Go p e below s _ _ _ (T43.setTop (mkF m 211 #[.val (.int p0), .val (.long p1), .second, .val (.int p2), .val (.int p3), .val (.ref b1), .val (.int (Nat.toInt32 sN)), .val (.int (Nat.toInt32 eN)), .val (.int (Nat.toInt32 EN)), .val (.int v41), .val (.int (own_low ((v41 ^^^ (-1 : Int32)) &&& (own_rng (Nat.toInt32 sN) (Nat.toInt32 EN))))), .unset, .unset, .unset] []))
    generalize hv44 : (own_low ((v41 ^^^ (-1 : Int32)) &&& (own_rng (Nat.toInt32 sN) (Nat.toInt32 EN)))) = v44
    show own_Go p e below s _ _ _ (T43.setTop (mkF m 211 #[.val (.int p0), .val (.long p1), .second, .val (.int p2), .val (.int p3), .val (.ref b1), .val (.int (Nat.toInt32 sN)), .val (.int (Nat.toInt32 eN)), .val (.int (Nat.toInt32 EN)), .val (.int v41), .val (.int v44), .unset, .unset, .unset] []))
    obtain ⟨mK, hm, hbK, rfl⟩ := own_mask hv21 hv26 hv31 hv36 hv41
    have hfst := own_first hm hbK (by omega : sN ≤ EN) (by omega : EN ≤ 5) hv44
    show own_Go p e below s _ _ _ (T43.setTop (mkF m 211 #[.val (.int p0), .val (.long p1), .second, .val (.int p2), .val (.int p3), .val (.ref b1), .val (.int (Nat.toInt32 sN)), .val (.int (Nat.toInt32 eN)), .val (.int (Nat.toInt32 EN)), .val (.int (Nat.toInt32 mK)), .val (.int v44), .unset, .unset, .unset] []))
    refine own_via (fun _ k => XS.iload X43.here hx rfl (hb hby at_211) rfl k) ?_
    show own_Go p e below s _ _ _ (T43.setTop (mkF m 213 #[.val (.int p0), .val (.long p1), .second, .val (.int p2), .val (.int p3), .val (.ref b1), .val (.int (Nat.toInt32 sN)), .val (.int (Nat.toInt32 eN)), .val (.int (Nat.toInt32 EN)), .val (.int (Nat.toInt32 mK)), .val (.int v44), .unset, .unset, .unset] [(.int v44)]))
    by_cases hc45 : v44 < (0 : Int32)
    · refine own_via (fun _ k => XS.ifYes X43.here hx rfl (pc0 := 213) (pc' := 231) rfl (hb hby at_213) rfl (Jvm.Free.XT.i0_lt_t hc45) (by decide) (by decide) k) ?_
      show own_Go p e below s _ _ _ (T43.setTop (mkF m 231 #[.val (.int p0), .val (.long p1), .second, .val (.int p2), .val (.int p3), .val (.ref b1), .val (.int (Nat.toInt32 sN)), .val (.int (Nat.toInt32 eN)), .val (.int (Nat.toInt32 EN)), .val (.int (Nat.toInt32 mK)), .val (.int v44), .unset, .unset, .unset] []))
      refine own_via (fun _ k => XS.iload X43.here hx rfl (hb hby at_231) rfl k) ?_
      show own_Go p e below s _ _ _ (T43.setTop (mkF m 233 #[.val (.int p0), .val (.long p1), .second, .val (.int p2), .val (.int p3), .val (.ref b1), .val (.int (Nat.toInt32 sN)), .val (.int (Nat.toInt32 eN)), .val (.int (Nat.toInt32 EN)), .val (.int (Nat.toInt32 mK)), .val (.int v44), .unset, .unset, .unset] [(.int (Nat.toInt32 sN))]))
      refine own_via (fun _ k => XS.istore X43.here hx rfl (hb hby at_233) rfl (l' := #[.val (.int p0), .val (.long p1), .second, .val (.int p2), .val (.int p3), .val (.ref b1), .val (.int (Nat.toInt32 sN)), .val (.int (Nat.toInt32 eN)), .val (.int (Nat.toInt32 EN)), .val (.int (Nat.toInt32 mK)), .val (.int v44), .val (.int (Nat.toInt32 sN)), .unset, .unset]) rfl k) ?_
      show own_Go p e below s _ _ _ (T43.setTop (mkF m 235 #[.val (.int p0), .val (.long p1), .second, .val (.int p2), .val (.int p3), .val (.ref b1), .val (.int (Nat.toInt32 sN)), .val (.int (Nat.toInt32 eN)), .val (.int (Nat.toInt32 EN)), .val (.int (Nat.toInt32 mK)), .val (.int v44), .val (.int (Nat.toInt32 sN)), .unset, .unset] []))
      generalize hv46 : (Nat.toInt32 sN) = v46
      show own_Go p e below s _ _ _ (T43.setTop (mkF m 235 #[.val (.int p0), .val (.long p1), .second, .val (.int p2), .val (.int p3), .val (.ref b1), .val (.int v46), .val (.int (Nat.toInt32 eN)), .val (.int (Nat.toInt32 EN)), .val (.int (Nat.toInt32 mK)), .val (.int v44), .val (.int v46), .unset, .unset] []))
      subst hv46
      show own_Go p e below s _ _ _ (T43.setTop (mkF m 235 #[.val (.int p0), .val (.long p1), .second, .val (.int p2), .val (.int p3), .val (.ref b1), .val (.int (Nat.toInt32 sN)), .val (.int (Nat.toInt32 eN)), .val (.int (Nat.toInt32 EN)), .val (.int (Nat.toInt32 mK)), .val (.int v44), .val (.int (Nat.toInt32 sN)), .unset, .unset] []))
      refine own_via (fun _ k => XS.iconst X43.here hx rfl (hb hby at_235) k) ?_
      show own_Go p e below s _ _ _ (T43.setTop (mkF m 236 #[.val (.int p0), .val (.long p1), .second, .val (.int p2), .val (.int p3), .val (.ref b1), .val (.int (Nat.toInt32 sN)), .val (.int (Nat.toInt32 eN)), .val (.int (Nat.toInt32 EN)), .val (.int (Nat.toInt32 mK)), .val (.int v44), .val (.int (Nat.toInt32 sN)), .unset, .unset] [(.int (3 : Int32))]))
      obtain ⟨T47, h47, k47, X47, e47, E47, A47, st47⟩ := newP X43 hx hZ (hw _ (List.mem_of_getElem? (i := 15) rfl)) e43 (g := (mkF m 236 #[.val (.int p0), .val (.long p1), .second, .val (.int p2), .val (.int p3), .val (.ref b1), .val (.int (Nat.toInt32 sN)), .val (.int (Nat.toInt32 eN)), .val (.int (Nat.toInt32 EN)), .val (.int (Nat.toInt32 mK)), .val (.int v44), .val (.int (Nat.toInt32 sN)), .unset, .unset] [(.int (3 : Int32))])) rfl (hb hby at_236) rfl (by decide) (cap := 3) (by decide) (by decide) (by decide) (by decide)
      obtain ⟨b47, gg47⟩ : ∃ z, z = h15.size := ⟨_, rfl⟩
      rw [← gg47] at A47 st47
      have ne_b1_b47 : b1 ≠ b47 := Nat.ne_of_lt (Nat.lt_of_lt_of_le F16.lt (Nat.le_of_eq gg47.symm))
      have g_b47 : n0 ≤ b47 := Nat.le_trans Z15 (Nat.le_of_eq gg47.symm)
      have Z47 : n0 ≤ h47.size := Nat.le_trans Z15 E47.1
      have V47 : Arv Z h47 b47 k47 .int (3 : Int32) [(.int (0 : Int32)), (.int (0 : Int32)), (.int (0 : Int32))] (.int (0 : Int32)) := (Arv.new A47 (by decide)).pad (pad_rep [] (.int (0 : Int32)) 3)
      refine own_via st47 ?_
      show own_Go p e below s _ _ _ (T47.setTop (mkF m 238 #[.val (.int p0), .val (.long p1), .second, .val (.int p2), .val (.int p3), .val (.ref b1), .val (.int (Nat.toInt32 sN)), .val (.int (Nat.toInt32 eN)), .val (.int (Nat.toInt32 EN)), .val (.int (Nat.toInt32 mK)), .val (.int v44), .val (.int (Nat.toInt32 sN)), .unset, .unset] [(.ref b47)]))
      refine own_via (fun _ k => XS.astore X47.here hx rfl (hb hby at_238) rfl rfl (l' := #[.val (.int p0), .val (.long p1), .second, .val (.int p2), .val (.int p3), .val (.ref b1), .val (.int (Nat.toInt32 sN)), .val (.int (Nat.toInt32 eN)), .val (.int (Nat.toInt32 EN)), .val (.int (Nat.toInt32 mK)), .val (.int v44), .val (.int (Nat.toInt32 sN)), .val (.ref b47), .unset]) rfl k) ?_
      show own_Go p e below s _ _ _ (T47.setTop (mkF m 240 #[.val (.int p0), .val (.long p1), .second, .val (.int p2), .val (.int p3), .val (.ref b1), .val (.int (Nat.toInt32 sN)), .val (.int (Nat.toInt32 eN)), .val (.int (Nat.toInt32 EN)), .val (.int (Nat.toInt32 mK)), .val (.int v44), .val (.int (Nat.toInt32 sN)), .val (.ref b47), .unset] []))
      refine own_via (fun _ k => XS.aload X47.here hx rfl (hb hby at_240) rfl rfl k) ?_
      show own_Go p e below s _ _ _ (T47.setTop (mkF m 242 #[.val (.int p0), .val (.long p1), .second, .val (.int p2), .val (.int p3), .val (.ref b1), .val (.int (Nat.toInt32 sN)), .val (.int (Nat.toInt32 eN)), .val (.int (Nat.toInt32 EN)), .val (.int (Nat.toInt32 mK)), .val (.int v44), .val (.int (Nat.toInt32 sN)), .val (.ref b47), .unset] [(.ref b47)]))
      refine own_via (fun _ k => XS.iconst X47.here hx rfl (hb hby at_242) k) ?_
      show own_Go p e below s _ _ _ (T47.setTop (mkF m 243 #[.val (.int p0), .val (.long p1), .second, .val (.int p2), .val (.int p3), .val (.ref b1), .val (.int (Nat.toInt32 sN)), .val (.int (Nat.toInt32 eN)), .val (.int (Nat.toInt32 EN)), .val (.int (Nat.toInt32 mK)), .val (.int v44), .val (.int (Nat.toInt32 sN)), .val (.ref b47), .unset] [(.int (0 : Int32)), (.ref b47)]))
      refine own_via (fun _ k => XS.iload X47.here hx rfl (hb hby at_243) rfl k) ?_
      show own_Go p e below s _ _ _ (T47.setTop (mkF m 245 #[.val (.int p0), .val (.long p1), .second, .val (.int p2), .val (.int p3), .val (.ref b1), .val (.int (Nat.toInt32 sN)), .val (.int (Nat.toInt32 eN)), .val (.int (Nat.toInt32 EN)), .val (.int (Nat.toInt32 mK)), .val (.int v44), .val (.int (Nat.toInt32 sN)), .val (.ref b47), .unset] [(.int (Nat.toInt32 sN)), (.int (0 : Int32)), (.ref b47)]))
      obtain ⟨cl48, Ar48, q48, S48, M48, H48, G48⟩ := (id V47)
      have hin48 : ¬ ((0 : Int32) < 0 ∨ cl48.slots.size ≤ ((0 : Int32)).toNatClampNeg) := inb_of S48 ⟨by decide, by decide⟩
      obtain ⟨T48, h48, X48, e48, W48, st48⟩ := stI X47 hx hZ e47 Ar48 (j := (0 : Int32)) hin48 (g := (mkF m 245 #[.val (.int p0), .val (.long p1), .second, .val (.int p2), .val (.int p3), .val (.ref b1), .val (.int (Nat.toInt32 sN)), .val (.int (Nat.toInt32 eN)), .val (.int (Nat.toInt32 EN)), .val (.int (Nat.toInt32 mK)), .val (.int v44), .val (.int (Nat.toInt32 sN)), .val (.ref b47), .unset] [(.int (Nat.toInt32 sN)), (.int (0 : Int32)), (.ref b47)])) rfl rfl (hb hby at_245)
      have V48 : Arv Z h48 b47 k47 .int (3 : Int32) [(.int (Nat.toInt32 sN)), (.int (0 : Int32)), (.int (0 : Int32))] (.int (0 : Int32)) := Arv.set Ar48 q48 S48 M48 H48 G48 rfl W48 0 rfl (Nat.le_of_ble_eq_true rfl)
      have N48 := Fr.snoc X48 N43 g_b47
      have Z48 : n0 ≤ h48.size := Nat.le_trans Z47 (Keep.of_wr W48).1
      refine own_via st48 ?_
      show own_Go p e below s _ _ _ (T48.setTop (mkF m 246 #[.val (.int p0), .val (.long p1), .second, .val (.int p2), .val (.int p3), .val (.ref b1), .val (.int (Nat.toInt32 sN)), .val (.int (Nat.toInt32 eN)), .val (.int (Nat.toInt32 EN)), .val (.int (Nat.toInt32 mK)), .val (.int v44), .val (.int (Nat.toInt32 sN)), .val (.ref b47), .unset] []))
      refine own_via (fun _ k => XS.aload X48.here hx rfl (hb hby at_246) rfl rfl k) ?_
      show own_Go p e below s _ _ _ (T48.setTop (mkF m 248 #[.val (.int p0), .val (.long p1), .second, .val (.int p2), .val (.int p3), .val (.ref b1), .val (.int (Nat.toInt32 sN)), .val (.int (Nat.toInt32 eN)), .val (.int (Nat.toInt32 EN)), .val (.int (Nat.toInt32 mK)), .val (.int v44), .val (.int (Nat.toInt32 sN)), .val (.ref b47), .unset] [(.ref b47)]))
      refine own_via (fun _ k => XS.iconst X48.here hx rfl (hb hby at_248) k) ?_
      show own_Go p e below s _ _ _ (T48.setTop (mkF m 249 #[.val (.int p0), .val (.long p1), .second, .val (.int p2), .val (.int p3), .val (.ref b1), .val (.int (Nat.toInt32 sN)), .val (.int (Nat.toInt32 eN)), .val (.int (Nat.toInt32 EN)), .val (.int (Nat.toInt32 mK)), .val (.int v44), .val (.int (Nat.toInt32 sN)), .val (.ref b47), .unset] [(.int (1 : Int32)), (.ref b47)]))
      refine own_via (fun _ k => XS.iload X48.here hx rfl (hb hby at_249) rfl k) ?_
      show own_Go p e below s _ _ _ (T48.setTop (mkF m 251 #[.val (.int p0), .val (.long p1), .second, .val (.int p2), .val (.int p3), .val (.ref b1), .val (.int (Nat.toInt32 sN)), .val (.int (Nat.toInt32 eN)), .val (.int (Nat.toInt32 EN)), .val (.int (Nat.toInt32 mK)), .val (.int v44), .val (.int (Nat.toInt32 sN)), .val (.ref b47), .unset] [(.int (Nat.toInt32 sN)), (.int (1 : Int32)), (.ref b47)]))
      obtain ⟨cl49, Ar49, q49, S49, M49, H49, G49⟩ := (id V48)
      have hin49 : ¬ ((1 : Int32) < 0 ∨ cl49.slots.size ≤ ((1 : Int32)).toNatClampNeg) := inb_of S49 ⟨by decide, by decide⟩
      obtain ⟨T49, h49, X49, e49, W49, st49⟩ := stI X48 hx hZ e48 Ar49 (j := (1 : Int32)) hin49 (g := (mkF m 251 #[.val (.int p0), .val (.long p1), .second, .val (.int p2), .val (.int p3), .val (.ref b1), .val (.int (Nat.toInt32 sN)), .val (.int (Nat.toInt32 eN)), .val (.int (Nat.toInt32 EN)), .val (.int (Nat.toInt32 mK)), .val (.int v44), .val (.int (Nat.toInt32 sN)), .val (.ref b47), .unset] [(.int (Nat.toInt32 sN)), (.int (1 : Int32)), (.ref b47)])) rfl rfl (hb hby at_251)
      have V49 : Arv Z h49 b47 k47 .int (3 : Int32) [(.int (Nat.toInt32 sN)), (.int (Nat.toInt32 sN)), (.int (0 : Int32))] (.int (0 : Int32)) := Arv.set Ar49 q49 S49 M49 H49 G49 rfl W49 1 rfl (Nat.le_of_ble_eq_true rfl)
      have N49 := Fr.snoc X49 N48 g_b47
      have Z49 : n0 ≤ h49.size := Nat.le_trans Z48 (Keep.of_wr W49).1
      refine own_via st49 ?_
      show own_Go p e below s _ _ _ (T49.setTop (mkF m 252 #[.val (.int p0), .val (.long p1), .second, .val (.int p2), .val (.int p3), .val (.ref b1), .val (.int (Nat.toInt32 sN)), .val (.int (Nat.toInt32 eN)), .val (.int (Nat.toInt32 EN)), .val (.int (Nat.toInt32 mK)), .val (.int v44), .val (.int (Nat.toInt32 sN)), .val (.ref b47), .unset] []))
      refine own_via (fun _ k => XS.aload X49.here hx rfl (hb hby at_252) rfl rfl k) ?_
      show own_Go p e below s _ _ _ (T49.setTop (mkF m 254 #[.val (.int p0), .val (.long p1), .second, .val (.int p2), .val (.int p3), .val (.ref b1), .val (.int (Nat.toInt32 sN)), .val (.int (Nat.toInt32 eN)), .val (.int (Nat.toInt32 EN)), .val (.int (Nat.toInt32 mK)), .val (.int v44), .val (.int (Nat.toInt32 sN)), .val (.ref b47), .unset] [(.ref b47)]))
      refine own_via (fun _ k => XS.iconst X49.here hx rfl (hb hby at_254) k) ?_
      show own_Go p e below s _ _ _ (T49.setTop (mkF m 255 #[.val (.int p0), .val (.long p1), .second, .val (.int p2), .val (.int p3), .val (.ref b1), .val (.int (Nat.toInt32 sN)), .val (.int (Nat.toInt32 eN)), .val (.int (Nat.toInt32 EN)), .val (.int (Nat.toInt32 mK)), .val (.int v44), .val (.int (Nat.toInt32 sN)), .val (.ref b47), .unset] [(.int (2 : Int32)), (.ref b47)]))
      refine own_via (fun _ k => XS.iload X49.here hx rfl (hb hby at_255) rfl k) ?_
      show own_Go p e below s _ _ _ (T49.setTop (mkF m 257 #[.val (.int p0), .val (.long p1), .second, .val (.int p2), .val (.int p3), .val (.ref b1), .val (.int (Nat.toInt32 sN)), .val (.int (Nat.toInt32 eN)), .val (.int (Nat.toInt32 EN)), .val (.int (Nat.toInt32 mK)), .val (.int v44), .val (.int (Nat.toInt32 sN)), .val (.ref b47), .unset] [(.int (Nat.toInt32 sN)), (.int (2 : Int32)), (.ref b47)]))
      obtain ⟨cl50, Ar50, q50, S50, M50, H50, G50⟩ := (id V49)
      have hin50 : ¬ ((2 : Int32) < 0 ∨ cl50.slots.size ≤ ((2 : Int32)).toNatClampNeg) := inb_of S50 ⟨by decide, by decide⟩
      obtain ⟨T50, h50, X50, e50, W50, st50⟩ := stI X49 hx hZ e49 Ar50 (j := (2 : Int32)) hin50 (g := (mkF m 257 #[.val (.int p0), .val (.long p1), .second, .val (.int p2), .val (.int p3), .val (.ref b1), .val (.int (Nat.toInt32 sN)), .val (.int (Nat.toInt32 eN)), .val (.int (Nat.toInt32 EN)), .val (.int (Nat.toInt32 mK)), .val (.int v44), .val (.int (Nat.toInt32 sN)), .val (.ref b47), .unset] [(.int (Nat.toInt32 sN)), (.int (2 : Int32)), (.ref b47)])) rfl rfl (hb hby at_257)
      have V50 : Arv Z h50 b47 k47 .int (3 : Int32) [(.int (Nat.toInt32 sN)), (.int (Nat.toInt32 sN)), (.int (Nat.toInt32 sN))] (.int (0 : Int32)) := Arv.set Ar50 q50 S50 M50 H50 G50 rfl W50 2 rfl (Nat.le_of_ble_eq_true rfl)
      have N50 := Fr.snoc X50 N49 g_b47
      have Z50 : n0 ≤ h50.size := Nat.le_trans Z49 (Keep.of_wr W50).1
      refine own_via st50 ?_
      show own_Go p e below s _ _ _ (T50.setTop (mkF m 258 #[.val (.int p0), .val (.long p1), .second, .val (.int p2), .val (.int p3), .val (.ref b1), .val (.int (Nat.toInt32 sN)), .val (.int (Nat.toInt32 eN)), .val (.int (Nat.toInt32 EN)), .val (.int (Nat.toInt32 mK)), .val (.int v44), .val (.int (Nat.toInt32 sN)), .val (.ref b47), .unset] []))
      obtain ⟨T51, h51, X51, e51, E51, A51, D51, -, st51⟩ := newO X50 hx hZ hown (hw _ (List.mem_of_getElem? (i := 16) rfl)) (hw _ (List.mem_of_getElem? (i := 17) rfl)) (hw _ (List.mem_of_getElem? (i := 18) rfl)) e50 (g := (mkF m 258 #[.val (.int p0), .val (.long p1), .second, .val (.int p2), .val (.int p3), .val (.ref b1), .val (.int (Nat.toInt32 sN)), .val (.int (Nat.toInt32 eN)), .val (.int (Nat.toInt32 EN)), .val (.int (Nat.toInt32 mK)), .val (.int v44), .val (.int (Nat.toInt32 sN)), .val (.ref b47), .unset] [])) rfl (hb hby at_258) (by decide) (by decide)
      obtain ⟨b51, gg51⟩ : ∃ z, z = h50.size := ⟨_, rfl⟩
      rw [← gg51] at A51 D51 st51
      have ne_b1_b51 : b1 ≠ b51 := Nat.ne_of_lt (Nat.lt_of_lt_of_le ((((F16.ext E47).other W48 ne_b1_b47).other W49 ne_b1_b47).other W50 ne_b1_b47).lt (Nat.le_of_eq gg51.symm))
      have ne_b47_b51 : b47 ≠ b51 := Nat.ne_of_lt (Nat.lt_of_lt_of_le V50.lt (Nat.le_of_eq gg51.symm))
      have g_b51 : n0 ≤ b51 := Nat.le_trans Z50 (Nat.le_of_eq gg51.symm)
      have Z51 : n0 ≤ h51.size := Nat.le_trans Z50 E51.1
      have F52 : Fld Z h51 b51 "com/example/enlace/enlace/graph/LineFields" "bytes" "[B" .null := D51 (Or.inl (hw _ (List.mem_of_getElem? (i := 31) rfl))) (ty := (.array .byte)) (by decide)
      have F53 : Fld Z h51 b51 "com/example/enlace/enlace/graph/LineFields" "end" "I" (.int (0 : Int32)) := D51 (Or.inl (hw _ (List.mem_of_getElem? (i := 33) rfl))) (ty := .int) (by decide)
      have F54 : Fld Z h51 b51 "com/example/enlace/enlace/graph/LineFields" "position" "I" (.int (0 : Int32)) := D51 (Or.inl (hw _ (List.mem_of_getElem? (i := 39) rfl))) (ty := .int) (by decide)
      have F55 : Fld Z h51 b51 "com/example/enlace/enlace/graph/LineFields" "fieldStart" "I" (.int (0 : Int32)) := D51 (Or.inl (hw _ (List.mem_of_getElem? (i := 41) rfl))) (ty := .int) (by decide)
      have F56 : Fld Z h51 b51 "com/example/enlace/enlace/graph/LineFields" "fieldEnd" "I" (.int (0 : Int32)) := D51 (Or.inl (hw _ (List.mem_of_getElem? (i := 43) rfl))) (ty := .int) (by decide)
      refine own_via st51 ?_
      show own_Go p e below s _ _ _ (T51.setTop (mkF m 261 #[.val (.int p0), .val (.long p1), .second, .val (.int p2), .val (.int p3), .val (.ref b1), .val (.int (Nat.toInt32 sN)), .val (.int (Nat.toInt32 eN)), .val (.int (Nat.toInt32 EN)), .val (.int (Nat.toInt32 mK)), .val (.int v44), .val (.int (Nat.toInt32 sN)), .val (.ref b47), .unset] [(.ref b51)]))
      refine own_via (fun _ k => XS.dup X51.here hx rfl (hb hby at_261) rfl rfl k) ?_
      show own_Go p e below s _ _ _ (T51.setTop (mkF m 262 #[.val (.int p0), .val (.long p1), .second, .val (.int p2), .val (.int p3), .val (.ref b1), .val (.int (Nat.toInt32 sN)), .val (.int (Nat.toInt32 eN)), .val (.int (Nat.toInt32 EN)), .val (.int (Nat.toInt32 mK)), .val (.int v44), .val (.int (Nat.toInt32 sN)), .val (.ref b47), .unset] [(.ref b51), (.ref b51)]))
      obtain ⟨_, _, ⟨T57, L57, k57, n57⟩, -, X57, ⟨Lc57, hQ57, l57, y57, z57⟩, st57⟩ := X51.specialBack hx (y := (⟨"com/example/enlace/enlace/graph/LineFields", "<init>", "()V"⟩ : MethodName)) rfl hown (mvT hZ (hw _ (List.mem_of_getElem? (i := 19) rfl))) (mvT hZ (hw _ (List.mem_of_getElem? (i := 20) rfl))) (mvT hZ (hw _ (List.mem_of_getElem? (i := 21) rfl))) (by decide) (backOf (W := 1) (rm5 l Z a0 hw [] b51 h51 n0 Z51 ) hZ (hw _ (List.mem_of_getElem? (i := 21) rfl)) (hw _ (List.mem_of_getElem? (i := 18) rfl)) (by decide) (by decide)) (g := (mkF m 262 #[.val (.int p0), .val (.long p1), .second, .val (.int p2), .val (.int p3), .val (.ref b1), .val (.int (Nat.toInt32 sN)), .val (.int (Nat.toInt32 eN)), .val (.int (Nat.toInt32 EN)), .val (.int (Nat.toInt32 mK)), .val (.int v44), .val (.int (Nat.toInt32 sN)), .val (.ref b47), .unset] [(.ref b51), (.ref b51)])) rfl (by rw [hml]; rfl) (Steps.refl _) (a := b51) (argsL := []) (rest := [(.ref b51)]) (lenOf pd_6 rfl) rfl (by show 2 * 0 + _ ≤ _; exact Nat.le_of_eq rfl) (hb hby at_262) (fun _ _ => ⟨rfl, e51, (by decide : 3 + 0 ≤ _), (by decide : 13 + 0 ≤ _)⟩)
      dsimp only [Pt.U, Pt.locs, Pt.cells, Pt.slots] at X57 l57 y57 z57 st57 hQ57
      subst l57 y57 z57
      obtain ⟨rfl, N57q, e57⟩ := hQ57
      have N57 := Fr.app N50 N57q
      refine own_viaT st57 ?_
      show own_Go p e below s _ _ _ (T57.setTop (mkF m 265 #[.val (.int p0), .val (.long p1), .second, .val (.int p2), .val (.int p3), .val (.ref b1), .val (.int (Nat.toInt32 sN)), .val (.int (Nat.toInt32 eN)), .val (.int (Nat.toInt32 EN)), .val (.int (Nat.toInt32 mK)), .val (.int v44), .val (.int (Nat.toInt32 sN)), .val (.ref b47), .unset] [(.ref b51)]))
      refine own_via (fun _ k => XS.astore X57.here hx rfl (hb hby at_265) rfl rfl (l' := #[.val (.int p0), .val (.long p1), .second, .val (.int p2), .val (.int p3), .val (.ref b1), .val (.int (Nat.toInt32 sN)), .val (.int (Nat.toInt32 eN)), .val (.int (Nat.toInt32 EN)), .val (.int (Nat.toInt32 mK)), .val (.int v44), .val (.int (Nat.toInt32 sN)), .val (.ref b47), .val (.ref b51)]) rfl k) ?_
      show own_Go p e below s _ _ _ (T57.setTop (mkF m 267 #[.val (.int p0), .val (.long p1), .second, .val (.int p2), .val (.int p3), .val (.ref b1), .val (.int (Nat.toInt32 sN)), .val (.int (Nat.toInt32 eN)), .val (.int (Nat.toInt32 EN)), .val (.int (Nat.toInt32 mK)), .val (.int v44), .val (.int (Nat.toInt32 sN)), .val (.ref b47), .val (.ref b51)] []))
      refine own_via (fun _ k => XS.aload X57.here hx rfl (hb hby at_267) rfl rfl k) ?_
      show own_Go p e below s _ _ _ (T57.setTop (mkF m 269 #[.val (.int p0), .val (.long p1), .second, .val (.int p2), .val (.int p3), .val (.ref b1), .val (.int (Nat.toInt32 sN)), .val (.int (Nat.toInt32 eN)), .val (.int (Nat.toInt32 EN)), .val (.int (Nat.toInt32 mK)), .val (.int v44), .val (.int (Nat.toInt32 sN)), .val (.ref b47), .val (.ref b51)] [(.ref b51)]))
      refine own_via (fun _ k => XS.aload X57.here hx rfl (hb hby at_269) rfl rfl k) ?_
      show own_Go p e below s _ _ _ (T57.setTop (mkF m 271 #[.val (.int p0), .val (.long p1), .second, .val (.int p2), .val (.int p3), .val (.ref b1), .val (.int (Nat.toInt32 sN)), .val (.int (Nat.toInt32 eN)), .val (.int (Nat.toInt32 EN)), .val (.int (Nat.toInt32 mK)), .val (.int v44), .val (.int (Nat.toInt32 sN)), .val (.ref b47), .val (.ref b51)] [(.ref b1), (.ref b51)]))
      refine own_via (fun _ k => XS.iload X57.here hx rfl (hb hby at_271) rfl k) ?_
      show own_Go p e below s _ _ _ (T57.setTop (mkF m 273 #[.val (.int p0), .val (.long p1), .second, .val (.int p2), .val (.int p3), .val (.ref b1), .val (.int (Nat.toInt32 sN)), .val (.int (Nat.toInt32 eN)), .val (.int (Nat.toInt32 EN)), .val (.int (Nat.toInt32 mK)), .val (.int v44), .val (.int (Nat.toInt32 sN)), .val (.ref b47), .val (.ref b51)] [(.int (Nat.toInt32 sN)), (.ref b1), (.ref b51)]))
      refine own_via (fun _ k => XS.iload X57.here hx rfl (hb hby at_273) rfl k) ?_
      show own_Go p e below s _ _ _ (T57.setTop (mkF m 275 #[.val (.int p0), .val (.long p1), .second, .val (.int p2), .val (.int p3), .val (.ref b1), .val (.int (Nat.toInt32 sN)), .val (.int (Nat.toInt32 eN)), .val (.int (Nat.toInt32 EN)), .val (.int (Nat.toInt32 mK)), .val (.int v44), .val (.int (Nat.toInt32 sN)), .val (.ref b47), .val (.ref b51)] [(.int (Nat.toInt32 eN)), (.int (Nat.toInt32 sN)), (.ref b1), (.ref b51)]))
      have F59 := (((((F16.ext E47).other W48 ne_b1_b47).other W49 ne_b1_b47).other W50 ne_b1_b47).ext E51)
      obtain ⟨cq58, kq58, qa58, qb58, qc58⟩ := isOf hZ e57 A51
      obtain ⟨_, _, ⟨T58, L58, k58, n58⟩, -, X58, ⟨Lc58, hQ58, l58, y58, z58⟩, st58⟩ := X57.virtualBack hx (y := (⟨"com/example/enlace/enlace/graph/LineFields", "reset", "([BII)V"⟩ : MethodName)) (z := (⟨"com/example/enlace/enlace/graph/LineFields", "reset", "([BII)V"⟩ : MethodName)) hown (mvT hZ (hw _ (List.mem_of_getElem? (i := 25) rfl))) (mvT hZ (hw _ (List.mem_of_getElem? (i := 26) rfl))) (notFace_of_selects (args := #[]) (mvT hZ (hw _ (List.mem_of_getElem? (i := 28) rfl)))) (mvT hZ (hw _ (List.mem_of_getElem? (i := 28) rfl))) (mvT hZ (hw _ (List.mem_of_getElem? (i := 27) rfl))) (by decide) (backOf (W := 0) (rm7 l Z a0 hw [] b51 b1 (Nat.toInt32 sN) (Nat.toInt32 eN) .null (0 : Int32) (0 : Int32) (0 : Int32) (0 : Int32) k1 (5 : Int32) [x0, x1, x2, x3, x4] sN eN h51 n0 Z51 A51 F52 F53 F54 F55 F56 F59 g_b51 ne_b1_b51 rfl rfl he1 (by omega) (by show (eN : Int) ≤ 5; omega)) hZ (hw _ (List.mem_of_getElem? (i := 29) rfl)) (hw _ (List.mem_of_getElem? (i := 18) rfl)) (by decide) (by decide)) qa58 qc58 (g := (mkF m 275 #[.val (.int p0), .val (.long p1), .second, .val (.int p2), .val (.int p3), .val (.ref b1), .val (.int (Nat.toInt32 sN)), .val (.int (Nat.toInt32 eN)), .val (.int (Nat.toInt32 EN)), .val (.int (Nat.toInt32 mK)), .val (.int v44), .val (.int (Nat.toInt32 sN)), .val (.ref b47), .val (.ref b51)] [(.int (Nat.toInt32 eN)), (.int (Nat.toInt32 sN)), (.ref b1), (.ref b51)])) rfl (by rw [hml]; rfl) (Steps.refl _) (argsL := [(.ref b1), (.int (Nat.toInt32 sN)), (.int (Nat.toInt32 eN))]) (rest := []) (lenOf pd_7 rfl) rfl (by show 2 * 0 + _ ≤ _; exact Nat.le_of_eq rfl) (hb hby at_275) (fun _ _ => ⟨rfl, e57, (by decide : 3 + 0 ≤ _), (by decide : 13 + 0 ≤ _)⟩)
      dsimp only [Pt.U, Pt.locs, Pt.cells, Pt.slots] at X58 l58 y58 z58 st58 hQ58
      subst l58 y58 z58
      obtain ⟨h58, e58⟩ : ∃ h, T58.heap = h := ⟨_, rfl⟩
      rw [e58] at hQ58
      obtain ⟨rfl, N58q, Kq58, F60, F61, F62, F63, F64, F65⟩ := hQ58
      have Z58 : n0 ≤ h58.size := Nat.le_trans Z51 Kq58.1
      have N58 := Fr.app N57 N58q
      refine own_viaT st58 ?_
      show own_Go p e below s _ _ _ (T58.setTop (mkF m 278 #[.val (.int p0), .val (.long p1), .second, .val (.int p2), .val (.int p3), .val (.ref b1), .val (.int (Nat.toInt32 sN)), .val (.int (Nat.toInt32 eN)), .val (.int (Nat.toInt32 EN)), .val (.int (Nat.toInt32 mK)), .val (.int v44), .val (.int (Nat.toInt32 sN)), .val (.ref b47), .val (.ref b51)] []))
      rw [h3] at F62
      rw [h3] at F63
      obtain ⟨r1, r2, r3⟩ := own_all2 hm hbK (by omega : sN ≤ EN) (by omega : EN ≤ 5) (own_fn hfst hc45 (by omega : EN ≤ 16))
      refine own_via (fun _ k => XS.aload X58.here hx rfl (hb hby at_278) rfl rfl k) ?_
      show own_Go p e below s _ _ _ (T58.setTop (mkF m 280 #[.val (.int p0), .val (.long p1), .second, .val (.int p2), .val (.int p3), .val (.ref b1), .val (.int (Nat.toInt32 sN)), .val (.int (Nat.toInt32 eN)), .val (.int (Nat.toInt32 EN)), .val (.int (Nat.toInt32 mK)), .val (.int v44), .val (.int (Nat.toInt32 sN)), .val (.ref b47), .val (.ref b51)] [(.ref b51)]))
      refine own_via (fun _ k => XS.iload X58.here hx rfl (hb hby at_280) rfl k) ?_
      show own_Go p e below s _ _ _ (T58.setTop (mkF m 282 #[.val (.int p0), .val (.long p1), .second, .val (.int p2), .val (.int p3), .val (.ref b1), .val (.int (Nat.toInt32 sN)), .val (.int (Nat.toInt32 eN)), .val (.int (Nat.toInt32 EN)), .val (.int (Nat.toInt32 mK)), .val (.int v44), .val (.int (Nat.toInt32 sN)), .val (.ref b47), .val (.ref b51)] [(.int (Nat.toInt32 mK)), (.ref b51)]))
      refine own_via (fun _ k => XS.iload X58.here hx rfl (hb hby at_282) rfl k) ?_
      show own_Go p e below s _ _ _ (T58.setTop (mkF m 284 #[.val (.int p0), .val (.long p1), .second, .val (.int p2), .val (.int p3), .val (.ref b1), .val (.int (Nat.toInt32 sN)), .val (.int (Nat.toInt32 eN)), .val (.int (Nat.toInt32 EN)), .val (.int (Nat.toInt32 mK)), .val (.int v44), .val (.int (Nat.toInt32 sN)), .val (.ref b47), .val (.ref b51)] [(.int (Nat.toInt32 EN)), (.int (Nat.toInt32 mK)), (.ref b51)]))
      refine own_via (fun _ k => XS.aload X58.here hx rfl (hb hby at_284) rfl rfl k) ?_
      show own_Go p e below s _ _ _ (T58.setTop (mkF m 286 #[.val (.int p0), .val (.long p1), .second, .val (.int p2), .val (.int p3), .val (.ref b1), .val (.int (Nat.toInt32 sN)), .val (.int (Nat.toInt32 eN)), .val (.int (Nat.toInt32 EN)), .val (.int (Nat.toInt32 mK)), .val (.int v44), .val (.int (Nat.toInt32 sN)), .val (.ref b47), .val (.ref b51)] [(.ref b47), (.int (Nat.toInt32 EN)), (.int (Nat.toInt32 mK)), (.ref b51)]))
      have F67 := (F59.keep Kq58 (ninS ne_b1_b51 nin0))
      have F68 := ((V50.ext E51).keep Kq58 (ninS ne_b47_b51 nin0))
      obtain ⟨_, _, ⟨T66, L66, k66, n66⟩, -, X66, ⟨Lc66, hQ66, l66, y66, z66⟩, st66⟩ := Jvm.LawKit.callS X58 hx (y := (⟨"com/example/enlace/enlace/graph/LineFieldsAdvancePinLaw", "step", "(Lcom/example/enlace/enlace/graph/LineFields;II[I)Z"⟩ : MethodName)) hown (mvT hZ (hw _ (List.mem_of_getElem? (i := 44) rfl))) (mvT hZ (hw _ (List.mem_of_getElem? (i := 45) rfl))) (mvT hZ (hw _ (List.mem_of_getElem? (i := 3) rfl))) (mvT hZ (hw _ (List.mem_of_getElem? (i := 46) rfl))) (by decide) (backOf (W := 0) (rm9 l Z a0 hw [] b51 (Nat.toInt32 mK) (Nat.toInt32 EN) b47 b1 k1 (5 : Int32) [x0, x1, x2, x3, x4] EN (own_pos [x0, x1, x2, x3, x4] sN EN) (Nat.toInt32 sN) (Nat.toInt32 sN) k47 (Nat.toInt32 sN) (Nat.toInt32 sN) (Nat.toInt32 sN) h58 n0 Z58 F60 F61 F62 F63 F64 F65 F67 F68 g_b51 g_b47 ne_b1_b51 ne_b1_b47 (own_pos_r (by omega)) (by omega) (by show (EN : Int) ≤ 5; omega) r1 rfl (Ne.symm ne_b47_b51)) hZ (hw _ (List.mem_of_getElem? (i := 46) rfl)) (hw _ (List.mem_of_getElem? (i := 3) rfl)) (by decide) (by decide)) (g := (mkF m 286 #[.val (.int p0), .val (.long p1), .second, .val (.int p2), .val (.int p3), .val (.ref b1), .val (.int (Nat.toInt32 sN)), .val (.int (Nat.toInt32 eN)), .val (.int (Nat.toInt32 EN)), .val (.int (Nat.toInt32 mK)), .val (.int v44), .val (.int (Nat.toInt32 sN)), .val (.ref b47), .val (.ref b51)] [(.ref b47), (.int (Nat.toInt32 EN)), (.int (Nat.toInt32 mK)), (.ref b51)])) rfl (by rw [hml]; rfl) (argsL := [(.ref b51), (.int (Nat.toInt32 mK)), (.int (Nat.toInt32 EN)), (.ref b47)]) (rest := []) (lenOf pd_8 rfl) rfl (by show 2 * 0 + _ ≤ _; exact Nat.le_of_eq rfl) (hb hby at_286) (fun _ _ => ⟨rfl, e58, (by decide : 3 + 0 ≤ _), (by decide : 13 + 0 ≤ _)⟩)
      dsimp only [Pt.U, Pt.locs, Pt.cells, Pt.slots] at X66 l66 y66 z66 st66 hQ66
      subst l66 y66 z66
      obtain ⟨h66, e66⟩ : ∃ h, T66.heap = h := ⟨_, rfl⟩
      rw [e66] at hQ66
      obtain ⟨rfl, N66q, Kq66, F69, F70, F71, F72, F73, F74, F75⟩ := hQ66
      have Z66 : n0 ≤ h66.size := Nat.le_trans Z58 Kq66.1
      have N66 := Fr.app N58 N66q
      refine own_via st66 ?_
      show own_Go p e below s _ _ _ (T66.setTop (mkF m 289 #[.val (.int p0), .val (.long p1), .second, .val (.int p2), .val (.int p3), .val (.ref b1), .val (.int (Nat.toInt32 sN)), .val (.int (Nat.toInt32 eN)), .val (.int (Nat.toInt32 EN)), .val (.int (Nat.toInt32 mK)), .val (.int v44), .val (.int (Nat.toInt32 sN)), .val (.ref b47), .val (.ref b51)] [(.int (1 : Int32))]))
      refine own_via (fun _ k => XS.ifNo X66.here hx rfl (hb hby at_289) rfl (Jvm.Free.XT.i0_eq_f (by decide)) k) ?_
      show own_Go p e below s _ _ _ (T66.setTop (mkF m 292 #[.val (.int p0), .val (.long p1), .second, .val (.int p2), .val (.int p3), .val (.ref b1), .val (.int (Nat.toInt32 sN)), .val (.int (Nat.toInt32 eN)), .val (.int (Nat.toInt32 EN)), .val (.int (Nat.toInt32 mK)), .val (.int v44), .val (.int (Nat.toInt32 sN)), .val (.ref b47), .val (.ref b51)] []))
      refine own_via (fun _ k => XS.aload X66.here hx rfl (hb hby at_292) rfl rfl k) ?_
      show own_Go p e below s _ _ _ (T66.setTop (mkF m 294 #[.val (.int p0), .val (.long p1), .second, .val (.int p2), .val (.int p3), .val (.ref b1), .val (.int (Nat.toInt32 sN)), .val (.int (Nat.toInt32 eN)), .val (.int (Nat.toInt32 EN)), .val (.int (Nat.toInt32 mK)), .val (.int v44), .val (.int (Nat.toInt32 sN)), .val (.ref b47), .val (.ref b51)] [(.ref b51)]))
      refine own_via (fun _ k => XS.iload X66.here hx rfl (hb hby at_294) rfl k) ?_
      show own_Go p e below s _ _ _ (T66.setTop (mkF m 296 #[.val (.int p0), .val (.long p1), .second, .val (.int p2), .val (.int p3), .val (.ref b1), .val (.int (Nat.toInt32 sN)), .val (.int (Nat.toInt32 eN)), .val (.int (Nat.toInt32 EN)), .val (.int (Nat.toInt32 mK)), .val (.int v44), .val (.int (Nat.toInt32 sN)), .val (.ref b47), .val (.ref b51)] [(.int (Nat.toInt32 mK)), (.ref b51)]))
      refine own_via (fun _ k => XS.iload X66.here hx rfl (hb hby at_296) rfl k) ?_
      show own_Go p e below s _ _ _ (T66.setTop (mkF m 298 #[.val (.int p0), .val (.long p1), .second, .val (.int p2), .val (.int p3), .val (.ref b1), .val (.int (Nat.toInt32 sN)), .val (.int (Nat.toInt32 eN)), .val (.int (Nat.toInt32 EN)), .val (.int (Nat.toInt32 mK)), .val (.int v44), .val (.int (Nat.toInt32 sN)), .val (.ref b47), .val (.ref b51)] [(.int (Nat.toInt32 EN)), (.int (Nat.toInt32 mK)), (.ref b51)]))
      refine own_via (fun _ k => XS.aload X66.here hx rfl (hb hby at_298) rfl rfl k) ?_
      show own_Go p e below s _ _ _ (T66.setTop (mkF m 300 #[.val (.int p0), .val (.long p1), .second, .val (.int p2), .val (.int p3), .val (.ref b1), .val (.int (Nat.toInt32 sN)), .val (.int (Nat.toInt32 eN)), .val (.int (Nat.toInt32 EN)), .val (.int (Nat.toInt32 mK)), .val (.int v44), .val (.int (Nat.toInt32 sN)), .val (.ref b47), .val (.ref b51)] [(.ref b47), (.int (Nat.toInt32 EN)), (.int (Nat.toInt32 mK)), (.ref b51)]))
      have F77 := (F67.keep Kq66 (ninS ne_b1_b51 (ninS ne_b1_b47 nin0)))
      obtain ⟨_, _, ⟨T76, L76, k76, n76⟩, -, X76, ⟨Lc76, hQ76, l76, y76, z76⟩, st76⟩ := Jvm.LawKit.callS X66 hx (y := (⟨"com/example/enlace/enlace/graph/LineFieldsAdvancePinLaw", "step", "(Lcom/example/enlace/enlace/graph/LineFields;II[I)Z"⟩ : MethodName)) hown (mvT hZ (hw _ (List.mem_of_getElem? (i := 44) rfl))) (mvT hZ (hw _ (List.mem_of_getElem? (i := 45) rfl))) (mvT hZ (hw _ (List.mem_of_getElem? (i := 3) rfl))) (mvT hZ (hw _ (List.mem_of_getElem? (i := 46) rfl))) (by decide) (backOf (W := 0) (rm9 l Z a0 hw [] b51 (Nat.toInt32 mK) (Nat.toInt32 EN) b47 b1 k1 (5 : Int32) [x0, x1, x2, x3, x4] EN (own_nq [x0, x1, x2, x3, x4] EN (own_pos [x0, x1, x2, x3, x4] sN EN)) (own_nfs [x0, x1, x2, x3, x4] EN (own_pos [x0, x1, x2, x3, x4] sN EN) (Nat.toInt32 sN)) (own_nft [x0, x1, x2, x3, x4] EN (own_pos [x0, x1, x2, x3, x4] sN EN) (Nat.toInt32 sN)) k47 (own_t0 (Nat.toInt32 mK) EN (Nat.toInt32 sN) (Nat.toInt32 sN)) (own_t1 (Nat.toInt32 mK) EN (Nat.toInt32 sN) (Nat.toInt32 sN)) (own_t2 (Nat.toInt32 mK) EN (Nat.toInt32 sN)) h66 n0 Z66 F69 F70 F71 F72 F73 F74 F77 F75 g_b51 g_b47 ne_b1_b51 ne_b1_b47 (own_nq_r (own_pos_r (by omega))) (by omega) (by show (EN : Int) ≤ 5; omega) r2 rfl (Ne.symm ne_b47_b51)) hZ (hw _ (List.mem_of_getElem? (i := 46) rfl)) (hw _ (List.mem_of_getElem? (i := 3) rfl)) (by decide) (by decide)) (g := (mkF m 300 #[.val (.int p0), .val (.long p1), .second, .val (.int p2), .val (.int p3), .val (.ref b1), .val (.int (Nat.toInt32 sN)), .val (.int (Nat.toInt32 eN)), .val (.int (Nat.toInt32 EN)), .val (.int (Nat.toInt32 mK)), .val (.int v44), .val (.int (Nat.toInt32 sN)), .val (.ref b47), .val (.ref b51)] [(.ref b47), (.int (Nat.toInt32 EN)), (.int (Nat.toInt32 mK)), (.ref b51)])) rfl (by rw [hml]; rfl) (argsL := [(.ref b51), (.int (Nat.toInt32 mK)), (.int (Nat.toInt32 EN)), (.ref b47)]) (rest := []) (lenOf pd_8 rfl) rfl (by show 2 * 0 + _ ≤ _; exact Nat.le_of_eq rfl) (hb hby at_300) (fun _ _ => ⟨rfl, e66, (by decide : 3 + 0 ≤ _), (by decide : 13 + 0 ≤ _)⟩)
      dsimp only [Pt.U, Pt.locs, Pt.cells, Pt.slots] at X76 l76 y76 z76 st76 hQ76
      subst l76 y76 z76
      obtain ⟨h76, e76⟩ : ∃ h, T76.heap = h := ⟨_, rfl⟩
      rw [e76] at hQ76
      obtain ⟨rfl, N76q, Kq76, F78, F79, F80, F81, F82, F83, F84⟩ := hQ76
      have Z76 : n0 ≤ h76.size := Nat.le_trans Z66 Kq76.1
      have N76 := Fr.app N66 N76q
      refine own_via st76 ?_
      show own_Go p e below s _ _ _ (T76.setTop (mkF m 303 #[.val (.int p0), .val (.long p1), .second, .val (.int p2), .val (.int p3), .val (.ref b1), .val (.int (Nat.toInt32 sN)), .val (.int (Nat.toInt32 eN)), .val (.int (Nat.toInt32 EN)), .val (.int (Nat.toInt32 mK)), .val (.int v44), .val (.int (Nat.toInt32 sN)), .val (.ref b47), .val (.ref b51)] [(.int (1 : Int32))]))
      refine own_via (fun _ k => XS.ifNo X76.here hx rfl (hb hby at_303) rfl (Jvm.Free.XT.i0_eq_f (by decide)) k) ?_
      show own_Go p e below s _ _ _ (T76.setTop (mkF m 306 #[.val (.int p0), .val (.long p1), .second, .val (.int p2), .val (.int p3), .val (.ref b1), .val (.int (Nat.toInt32 sN)), .val (.int (Nat.toInt32 eN)), .val (.int (Nat.toInt32 EN)), .val (.int (Nat.toInt32 mK)), .val (.int v44), .val (.int (Nat.toInt32 sN)), .val (.ref b47), .val (.ref b51)] []))
      refine own_via (fun _ k => XS.aload X76.here hx rfl (hb hby at_306) rfl rfl k) ?_
      show own_Go p e below s _ _ _ (T76.setTop (mkF m 308 #[.val (.int p0), .val (.long p1), .second, .val (.int p2), .val (.int p3), .val (.ref b1), .val (.int (Nat.toInt32 sN)), .val (.int (Nat.toInt32 eN)), .val (.int (Nat.toInt32 EN)), .val (.int (Nat.toInt32 mK)), .val (.int v44), .val (.int (Nat.toInt32 sN)), .val (.ref b47), .val (.ref b51)] [(.ref b51)]))
      refine own_via (fun _ k => XS.iload X76.here hx rfl (hb hby at_308) rfl k) ?_
      show own_Go p e below s _ _ _ (T76.setTop (mkF m 310 #[.val (.int p0), .val (.long p1), .second, .val (.int p2), .val (.int p3), .val (.ref b1), .val (.int (Nat.toInt32 sN)), .val (.int (Nat.toInt32 eN)), .val (.int (Nat.toInt32 EN)), .val (.int (Nat.toInt32 mK)), .val (.int v44), .val (.int (Nat.toInt32 sN)), .val (.ref b47), .val (.ref b51)] [(.int (Nat.toInt32 mK)), (.ref b51)]))
      refine own_via (fun _ k => XS.iload X76.here hx rfl (hb hby at_310) rfl k) ?_
      show own_Go p e below s _ _ _ (T76.setTop (mkF m 312 #[.val (.int p0), .val (.long p1), .second, .val (.int p2), .val (.int p3), .val (.ref b1), .val (.int (Nat.toInt32 sN)), .val (.int (Nat.toInt32 eN)), .val (.int (Nat.toInt32 EN)), .val (.int (Nat.toInt32 mK)), .val (.int v44), .val (.int (Nat.toInt32 sN)), .val (.ref b47), .val (.ref b51)] [(.int (Nat.toInt32 EN)), (.int (Nat.toInt32 mK)), (.ref b51)]))
      refine own_via (fun _ k => XS.aload X76.here hx rfl (hb hby at_312) rfl rfl k) ?_
      show own_Go p e below s _ _ _ (T76.setTop (mkF m 314 #[.val (.int p0), .val (.long p1), .second, .val (.int p2), .val (.int p3), .val (.ref b1), .val (.int (Nat.toInt32 sN)), .val (.int (Nat.toInt32 eN)), .val (.int (Nat.toInt32 EN)), .val (.int (Nat.toInt32 mK)), .val (.int v44), .val (.int (Nat.toInt32 sN)), .val (.ref b47), .val (.ref b51)] [(.ref b47), (.int (Nat.toInt32 EN)), (.int (Nat.toInt32 mK)), (.ref b51)]))
      have F86 := (F77.keep Kq76 (ninS ne_b1_b51 (ninS ne_b1_b47 nin0)))
      obtain ⟨_, _, ⟨T85, L85, k85, n85⟩, -, X85, ⟨Lc85, hQ85, l85, y85, z85⟩, st85⟩ := Jvm.LawKit.callS X76 hx (y := (⟨"com/example/enlace/enlace/graph/LineFieldsAdvancePinLaw", "step", "(Lcom/example/enlace/enlace/graph/LineFields;II[I)Z"⟩ : MethodName)) hown (mvT hZ (hw _ (List.mem_of_getElem? (i := 44) rfl))) (mvT hZ (hw _ (List.mem_of_getElem? (i := 45) rfl))) (mvT hZ (hw _ (List.mem_of_getElem? (i := 3) rfl))) (mvT hZ (hw _ (List.mem_of_getElem? (i := 46) rfl))) (by decide) (backOf (W := 0) (rm9 l Z a0 hw [] b51 (Nat.toInt32 mK) (Nat.toInt32 EN) b47 b1 k1 (5 : Int32) [x0, x1, x2, x3, x4] EN (own_nq [x0, x1, x2, x3, x4] EN (own_nq [x0, x1, x2, x3, x4] EN (own_pos [x0, x1, x2, x3, x4] sN EN))) (own_nfs [x0, x1, x2, x3, x4] EN (own_nq [x0, x1, x2, x3, x4] EN (own_pos [x0, x1, x2, x3, x4] sN EN)) (own_nfs [x0, x1, x2, x3, x4] EN (own_pos [x0, x1, x2, x3, x4] sN EN) (Nat.toInt32 sN))) (own_nft [x0, x1, x2, x3, x4] EN (own_nq [x0, x1, x2, x3, x4] EN (own_pos [x0, x1, x2, x3, x4] sN EN)) (own_nft [x0, x1, x2, x3, x4] EN (own_pos [x0, x1, x2, x3, x4] sN EN) (Nat.toInt32 sN))) k47 (own_t0 (Nat.toInt32 mK) EN (own_t0 (Nat.toInt32 mK) EN (Nat.toInt32 sN) (Nat.toInt32 sN)) (own_t2 (Nat.toInt32 mK) EN (Nat.toInt32 sN))) (own_t1 (Nat.toInt32 mK) EN (own_t1 (Nat.toInt32 mK) EN (Nat.toInt32 sN) (Nat.toInt32 sN)) (own_t2 (Nat.toInt32 mK) EN (Nat.toInt32 sN))) (own_t2 (Nat.toInt32 mK) EN (own_t2 (Nat.toInt32 mK) EN (Nat.toInt32 sN))) h76 n0 Z76 F78 F79 F80 F81 F82 F83 F86 F84 g_b51 g_b47 ne_b1_b51 ne_b1_b47 (own_nq_r (own_nq_r (own_pos_r (by omega)))) (by omega) (by show (EN : Int) ≤ 5; omega) r3 rfl (Ne.symm ne_b47_b51)) hZ (hw _ (List.mem_of_getElem? (i := 46) rfl)) (hw _ (List.mem_of_getElem? (i := 3) rfl)) (by decide) (by decide)) (g := (mkF m 314 #[.val (.int p0), .val (.long p1), .second, .val (.int p2), .val (.int p3), .val (.ref b1), .val (.int (Nat.toInt32 sN)), .val (.int (Nat.toInt32 eN)), .val (.int (Nat.toInt32 EN)), .val (.int (Nat.toInt32 mK)), .val (.int v44), .val (.int (Nat.toInt32 sN)), .val (.ref b47), .val (.ref b51)] [(.ref b47), (.int (Nat.toInt32 EN)), (.int (Nat.toInt32 mK)), (.ref b51)])) rfl (by rw [hml]; rfl) (argsL := [(.ref b51), (.int (Nat.toInt32 mK)), (.int (Nat.toInt32 EN)), (.ref b47)]) (rest := []) (lenOf pd_8 rfl) rfl (by show 2 * 0 + _ ≤ _; exact Nat.le_of_eq rfl) (hb hby at_314) (fun _ _ => ⟨rfl, e76, (by decide : 3 + 0 ≤ _), (by decide : 13 + 0 ≤ _)⟩)
      dsimp only [Pt.U, Pt.locs, Pt.cells, Pt.slots] at X85 l85 y85 z85 st85 hQ85
      subst l85 y85 z85
      obtain ⟨h85, e85⟩ : ∃ h, T85.heap = h := ⟨_, rfl⟩
      rw [e85] at hQ85
      obtain ⟨rfl, N85q, Kq85, F87, F88, F89, F90, F91, F92, F93⟩ := hQ85
      have Z85 : n0 ≤ h85.size := Nat.le_trans Z76 Kq85.1
      have N85 := Fr.app N76 N85q
      refine own_via st85 ?_
      show own_Go p e below s _ _ _ (T85.setTop (mkF m 317 #[.val (.int p0), .val (.long p1), .second, .val (.int p2), .val (.int p3), .val (.ref b1), .val (.int (Nat.toInt32 sN)), .val (.int (Nat.toInt32 eN)), .val (.int (Nat.toInt32 EN)), .val (.int (Nat.toInt32 mK)), .val (.int v44), .val (.int (Nat.toInt32 sN)), .val (.ref b47), .val (.ref b51)] [(.int (1 : Int32))]))
      refine own_via (fun _ k => XS.ifNo X85.here hx rfl (hb hby at_317) rfl (Jvm.Free.XT.i0_eq_f (by decide)) k) ?_
      show own_Go p e below s _ _ _ (T85.setTop (mkF m 320 #[.val (.int p0), .val (.long p1), .second, .val (.int p2), .val (.int p3), .val (.ref b1), .val (.int (Nat.toInt32 sN)), .val (.int (Nat.toInt32 eN)), .val (.int (Nat.toInt32 EN)), .val (.int (Nat.toInt32 mK)), .val (.int v44), .val (.int (Nat.toInt32 sN)), .val (.ref b47), .val (.ref b51)] []))
      refine own_via (fun _ k => XS.iconst X85.here hx rfl (hb hby at_320) k) ?_
      show own_Go p e below s _ _ _ (T85.setTop (mkF m 321 #[.val (.int p0), .val (.long p1), .second, .val (.int p2), .val (.int p3), .val (.ref b1), .val (.int (Nat.toInt32 sN)), .val (.int (Nat.toInt32 eN)), .val (.int (Nat.toInt32 EN)), .val (.int (Nat.toInt32 mK)), .val (.int v44), .val (.int (Nat.toInt32 sN)), .val (.ref b47), .val (.ref b51)] [(.int (1 : Int32))]))
      refine own_via (fun _ k => XS.goto X85.here hx rfl (pc0 := 321) (pc' := 325) rfl (hb hby at_321) (by decide) (by decide) k) ?_
      show own_Go p e below s _ _ _ (T85.setTop (mkF m 325 #[.val (.int p0), .val (.long p1), .second, .val (.int p2), .val (.int p3), .val (.ref b1), .val (.int (Nat.toInt32 sN)), .val (.int (Nat.toInt32 eN)), .val (.int (Nat.toInt32 EN)), .val (.int (Nat.toInt32 mK)), .val (.int v44), .val (.int (Nat.toInt32 sN)), .val (.ref b47), .val (.ref b51)] [(.int (1 : Int32))]))
      exact own_goN X85 hx (t := .boolean) Bd.returns (by simp) (hb hby at_325) Bd.notSynchronized (by decide) (by decide) (by rw [e85]; exact ⟨rfl, N85⟩)
    · refine own_via (fun _ k => XS.ifNo X43.here hx rfl (hb hby at_213) rfl (Jvm.Free.XT.i0_lt_f hc45) k) ?_
      show own_Go p e below s _ _ _ (T43.setTop (mkF m 216 #[.val (.int p0), .val (.long p1), .second, .val (.int p2), .val (.int p3), .val (.ref b1), .val (.int (Nat.toInt32 sN)), .val (.int (Nat.toInt32 eN)), .val (.int (Nat.toInt32 EN)), .val (.int (Nat.toInt32 mK)), .val (.int v44), .unset, .unset, .unset] []))
      obtain ⟨hf1, hf2⟩ := own_fi hfst hc45
      subst hf2
      show own_Go p e below s _ _ _ (T43.setTop (mkF m 216 #[.val (.int p0), .val (.long p1), .second, .val (.int p2), .val (.int p3), .val (.ref b1), .val (.int (Nat.toInt32 sN)), .val (.int (Nat.toInt32 eN)), .val (.int (Nat.toInt32 EN)), .val (.int (Nat.toInt32 mK)), .val (.int (Nat.toInt32 (own_sk [x0, x1, x2, x3, x4] (EN - sN) sN))), .unset, .unset, .unset] []))
      refine own_via (fun _ k => XS.aload X43.here hx rfl (hb hby at_216) rfl rfl k) ?_
      show own_Go p e below s _ _ _ (T43.setTop (mkF m 218 #[.val (.int p0), .val (.long p1), .second, .val (.int p2), .val (.int p3), .val (.ref b1), .val (.int (Nat.toInt32 sN)), .val (.int (Nat.toInt32 eN)), .val (.int (Nat.toInt32 EN)), .val (.int (Nat.toInt32 mK)), .val (.int (Nat.toInt32 (own_sk [x0, x1, x2, x3, x4] (EN - sN) sN))), .unset, .unset, .unset] [(.ref b1)]))
      refine own_via (fun _ k => XS.iload X43.here hx rfl (hb hby at_218) rfl k) ?_
      show own_Go p e below s _ _ _ (T43.setTop (mkF m 220 #[.val (.int p0), .val (.long p1), .second, .val (.int p2), .val (.int p3), .val (.ref b1), .val (.int (Nat.toInt32 sN)), .val (.int (Nat.toInt32 eN)), .val (.int (Nat.toInt32 EN)), .val (.int (Nat.toInt32 mK)), .val (.int (Nat.toInt32 (own_sk [x0, x1, x2, x3, x4] (EN - sN) sN))), .unset, .unset, .unset] [(.int (Nat.toInt32 (own_sk [x0, x1, x2, x3, x4] (EN - sN) sN))), (.ref b1)]))
      obtain ⟨cl94, Ar94, q94, S94, M94, H94, G94⟩ := (id F16)
      have hin94 : ¬ ((Nat.toInt32 (own_sk [x0, x1, x2, x3, x4] (EN - sN) sN)) < 0 ∨ cl94.slots.size ≤ ((Nat.toInt32 (own_sk [x0, x1, x2, x3, x4] (EN - sN) sN))).toNatClampNeg) := inb_of S94 (own_inb (by omega) (by show ((own_sk [x0, x1, x2, x3, x4] (EN - sN) sN : Nat) : Int) < 5; omega))
      have hat94 : cl94.slots[((Nat.toInt32 (own_sk [x0, x1, x2, x3, x4] (EN - sN) sN))).toNatClampNeg]? = some (.int (own_g [x0, x1, x2, x3, x4] (own_sk [x0, x1, x2, x3, x4] (EN - sN) sN))) := Has.at H94 hin94 (own_gm [x0, x1, x2, x3, x4] (by omega))
      refine own_via (fun _ k => X43.baloadBytes hx (j := (Nat.toInt32 (own_sk [x0, x1, x2, x3, x4] (EN - sN) sN))) (v := (.int (own_g [x0, x1, x2, x3, x4] (own_sk [x0, x1, x2, x3, x4] (EN - sN) sN)))) (by rw [e43]; exact Ar94.1) (State.isArrayOf_alike hZ.alike Ar94.2.1) Ar94.2.2 hin94 hat94 (g := (mkF m 220 #[.val (.int p0), .val (.long p1), .second, .val (.int p2), .val (.int p3), .val (.ref b1), .val (.int (Nat.toInt32 sN)), .val (.int (Nat.toInt32 eN)), .val (.int (Nat.toInt32 EN)), .val (.int (Nat.toInt32 mK)), .val (.int (Nat.toInt32 (own_sk [x0, x1, x2, x3, x4] (EN - sN) sN))), .unset, .unset, .unset] [(.int (Nat.toInt32 (own_sk [x0, x1, x2, x3, x4] (EN - sN) sN))), (.ref b1)])) rfl rfl (hb hby at_220) _ k) ?_
      show own_Go p e below s _ _ _ (T43.setTop (mkF m 221 #[.val (.int p0), .val (.long p1), .second, .val (.int p2), .val (.int p3), .val (.ref b1), .val (.int (Nat.toInt32 sN)), .val (.int (Nat.toInt32 eN)), .val (.int (Nat.toInt32 EN)), .val (.int (Nat.toInt32 mK)), .val (.int (Nat.toInt32 (own_sk [x0, x1, x2, x3, x4] (EN - sN) sN))), .unset, .unset, .unset] [(.int (own_g [x0, x1, x2, x3, x4] (own_sk [x0, x1, x2, x3, x4] (EN - sN) sN)))]))
      refine own_via (fun _ k => XS.bipush X43.here hx rfl (hb hby at_221) k) ?_
      show own_Go p e below s _ _ _ (T43.setTop (mkF m 223 #[.val (.int p0), .val (.long p1), .second, .val (.int p2), .val (.int p3), .val (.ref b1), .val (.int (Nat.toInt32 sN)), .val (.int (Nat.toInt32 eN)), .val (.int (Nat.toInt32 EN)), .val (.int (Nat.toInt32 mK)), .val (.int (Nat.toInt32 (own_sk [x0, x1, x2, x3, x4] (EN - sN) sN))), .unset, .unset, .unset] [(.int (35 : Int32)), (.int (own_g [x0, x1, x2, x3, x4] (own_sk [x0, x1, x2, x3, x4] (EN - sN) sN)))]))
      by_cases hc95 : (own_g [x0, x1, x2, x3, x4] (own_sk [x0, x1, x2, x3, x4] (EN - sN) sN)) = (35 : Int32)
      · refine own_via (fun _ k => XS.icmpNo X43.here hx rfl (hb hby at_223) rfl (Jvm.Free.XT.ii_ne_f hc95) k) ?_
        show own_Go p e below s _ _ _ (T43.setTop (mkF m 226 #[.val (.int p0), .val (.long p1), .second, .val (.int p2), .val (.int p3), .val (.ref b1), .val (.int (Nat.toInt32 sN)), .val (.int (Nat.toInt32 eN)), .val (.int (Nat.toInt32 EN)), .val (.int (Nat.toInt32 mK)), .val (.int (Nat.toInt32 (own_sk [x0, x1, x2, x3, x4] (EN - sN) sN))), .unset, .unset, .unset] []))
        refine own_via (fun _ k => XS.iload X43.here hx rfl (hb hby at_226) rfl k) ?_
        show own_Go p e below s _ _ _ (T43.setTop (mkF m 228 #[.val (.int p0), .val (.long p1), .second, .val (.int p2), .val (.int p3), .val (.ref b1), .val (.int (Nat.toInt32 sN)), .val (.int (Nat.toInt32 eN)), .val (.int (Nat.toInt32 EN)), .val (.int (Nat.toInt32 mK)), .val (.int (Nat.toInt32 (own_sk [x0, x1, x2, x3, x4] (EN - sN) sN))), .unset, .unset, .unset] [(.int (Nat.toInt32 EN))]))
        refine own_via (fun _ k => XS.goto X43.here hx rfl (pc0 := 228) (pc' := 233) rfl (hb hby at_228) (by decide) (by decide) k) ?_
        show own_Go p e below s _ _ _ (T43.setTop (mkF m 233 #[.val (.int p0), .val (.long p1), .second, .val (.int p2), .val (.int p3), .val (.ref b1), .val (.int (Nat.toInt32 sN)), .val (.int (Nat.toInt32 eN)), .val (.int (Nat.toInt32 EN)), .val (.int (Nat.toInt32 mK)), .val (.int (Nat.toInt32 (own_sk [x0, x1, x2, x3, x4] (EN - sN) sN))), .unset, .unset, .unset] [(.int (Nat.toInt32 EN))]))
        refine own_via (fun _ k => XS.istore X43.here hx rfl (hb hby at_233) rfl (l' := #[.val (.int p0), .val (.long p1), .second, .val (.int p2), .val (.int p3), .val (.ref b1), .val (.int (Nat.toInt32 sN)), .val (.int (Nat.toInt32 eN)), .val (.int (Nat.toInt32 EN)), .val (.int (Nat.toInt32 mK)), .val (.int (Nat.toInt32 (own_sk [x0, x1, x2, x3, x4] (EN - sN) sN))), .val (.int (Nat.toInt32 EN)), .unset, .unset]) rfl k) ?_
        show own_Go p e below s _ _ _ (T43.setTop (mkF m 235 #[.val (.int p0), .val (.long p1), .second, .val (.int p2), .val (.int p3), .val (.ref b1), .val (.int (Nat.toInt32 sN)), .val (.int (Nat.toInt32 eN)), .val (.int (Nat.toInt32 EN)), .val (.int (Nat.toInt32 mK)), .val (.int (Nat.toInt32 (own_sk [x0, x1, x2, x3, x4] (EN - sN) sN))), .val (.int (Nat.toInt32 EN)), .unset, .unset] []))
        generalize hv96 : (Nat.toInt32 EN) = v96
        show own_Go p e below s _ _ _ (T43.setTop (mkF m 235 #[.val (.int p0), .val (.long p1), .second, .val (.int p2), .val (.int p3), .val (.ref b1), .val (.int (Nat.toInt32 sN)), .val (.int (Nat.toInt32 eN)), .val (.int v96), .val (.int (Nat.toInt32 mK)), .val (.int (Nat.toInt32 (own_sk [x0, x1, x2, x3, x4] (EN - sN) sN))), .val (.int v96), .unset, .unset] []))
        subst hv96
        show own_Go p e below s _ _ _ (T43.setTop (mkF m 235 #[.val (.int p0), .val (.long p1), .second, .val (.int p2), .val (.int p3), .val (.ref b1), .val (.int (Nat.toInt32 sN)), .val (.int (Nat.toInt32 eN)), .val (.int (Nat.toInt32 EN)), .val (.int (Nat.toInt32 mK)), .val (.int (Nat.toInt32 (own_sk [x0, x1, x2, x3, x4] (EN - sN) sN))), .val (.int (Nat.toInt32 EN)), .unset, .unset] []))
        refine own_via (fun _ k => XS.iconst X43.here hx rfl (hb hby at_235) k) ?_
        show own_Go p e below s _ _ _ (T43.setTop (mkF m 236 #[.val (.int p0), .val (.long p1), .second, .val (.int p2), .val (.int p3), .val (.ref b1), .val (.int (Nat.toInt32 sN)), .val (.int (Nat.toInt32 eN)), .val (.int (Nat.toInt32 EN)), .val (.int (Nat.toInt32 mK)), .val (.int (Nat.toInt32 (own_sk [x0, x1, x2, x3, x4] (EN - sN) sN))), .val (.int (Nat.toInt32 EN)), .unset, .unset] [(.int (3 : Int32))]))
        obtain ⟨T97, h97, k97, X97, e97, E97, A97, st97⟩ := newP X43 hx hZ (hw _ (List.mem_of_getElem? (i := 15) rfl)) e43 (g := (mkF m 236 #[.val (.int p0), .val (.long p1), .second, .val (.int p2), .val (.int p3), .val (.ref b1), .val (.int (Nat.toInt32 sN)), .val (.int (Nat.toInt32 eN)), .val (.int (Nat.toInt32 EN)), .val (.int (Nat.toInt32 mK)), .val (.int (Nat.toInt32 (own_sk [x0, x1, x2, x3, x4] (EN - sN) sN))), .val (.int (Nat.toInt32 EN)), .unset, .unset] [(.int (3 : Int32))])) rfl (hb hby at_236) rfl (by decide) (cap := 3) (by decide) (by decide) (by decide) (by decide)
        obtain ⟨b97, gg97⟩ : ∃ z, z = h15.size := ⟨_, rfl⟩
        rw [← gg97] at A97 st97
        have ne_b1_b97 : b1 ≠ b97 := Nat.ne_of_lt (Nat.lt_of_lt_of_le F16.lt (Nat.le_of_eq gg97.symm))
        have g_b97 : n0 ≤ b97 := Nat.le_trans Z15 (Nat.le_of_eq gg97.symm)
        have Z97 : n0 ≤ h97.size := Nat.le_trans Z15 E97.1
        have V97 : Arv Z h97 b97 k97 .int (3 : Int32) [(.int (0 : Int32)), (.int (0 : Int32)), (.int (0 : Int32))] (.int (0 : Int32)) := (Arv.new A97 (by decide)).pad (pad_rep [] (.int (0 : Int32)) 3)
        refine own_via st97 ?_
        show own_Go p e below s _ _ _ (T97.setTop (mkF m 238 #[.val (.int p0), .val (.long p1), .second, .val (.int p2), .val (.int p3), .val (.ref b1), .val (.int (Nat.toInt32 sN)), .val (.int (Nat.toInt32 eN)), .val (.int (Nat.toInt32 EN)), .val (.int (Nat.toInt32 mK)), .val (.int (Nat.toInt32 (own_sk [x0, x1, x2, x3, x4] (EN - sN) sN))), .val (.int (Nat.toInt32 EN)), .unset, .unset] [(.ref b97)]))
        refine own_via (fun _ k => XS.astore X97.here hx rfl (hb hby at_238) rfl rfl (l' := #[.val (.int p0), .val (.long p1), .second, .val (.int p2), .val (.int p3), .val (.ref b1), .val (.int (Nat.toInt32 sN)), .val (.int (Nat.toInt32 eN)), .val (.int (Nat.toInt32 EN)), .val (.int (Nat.toInt32 mK)), .val (.int (Nat.toInt32 (own_sk [x0, x1, x2, x3, x4] (EN - sN) sN))), .val (.int (Nat.toInt32 EN)), .val (.ref b97), .unset]) rfl k) ?_
        show own_Go p e below s _ _ _ (T97.setTop (mkF m 240 #[.val (.int p0), .val (.long p1), .second, .val (.int p2), .val (.int p3), .val (.ref b1), .val (.int (Nat.toInt32 sN)), .val (.int (Nat.toInt32 eN)), .val (.int (Nat.toInt32 EN)), .val (.int (Nat.toInt32 mK)), .val (.int (Nat.toInt32 (own_sk [x0, x1, x2, x3, x4] (EN - sN) sN))), .val (.int (Nat.toInt32 EN)), .val (.ref b97), .unset] []))
        refine own_via (fun _ k => XS.aload X97.here hx rfl (hb hby at_240) rfl rfl k) ?_
        show own_Go p e below s _ _ _ (T97.setTop (mkF m 242 #[.val (.int p0), .val (.long p1), .second, .val (.int p2), .val (.int p3), .val (.ref b1), .val (.int (Nat.toInt32 sN)), .val (.int (Nat.toInt32 eN)), .val (.int (Nat.toInt32 EN)), .val (.int (Nat.toInt32 mK)), .val (.int (Nat.toInt32 (own_sk [x0, x1, x2, x3, x4] (EN - sN) sN))), .val (.int (Nat.toInt32 EN)), .val (.ref b97), .unset] [(.ref b97)]))
        refine own_via (fun _ k => XS.iconst X97.here hx rfl (hb hby at_242) k) ?_
        show own_Go p e below s _ _ _ (T97.setTop (mkF m 243 #[.val (.int p0), .val (.long p1), .second, .val (.int p2), .val (.int p3), .val (.ref b1), .val (.int (Nat.toInt32 sN)), .val (.int (Nat.toInt32 eN)), .val (.int (Nat.toInt32 EN)), .val (.int (Nat.toInt32 mK)), .val (.int (Nat.toInt32 (own_sk [x0, x1, x2, x3, x4] (EN - sN) sN))), .val (.int (Nat.toInt32 EN)), .val (.ref b97), .unset] [(.int (0 : Int32)), (.ref b97)]))
        refine own_via (fun _ k => XS.iload X97.here hx rfl (hb hby at_243) rfl k) ?_
        show own_Go p e below s _ _ _ (T97.setTop (mkF m 245 #[.val (.int p0), .val (.long p1), .second, .val (.int p2), .val (.int p3), .val (.ref b1), .val (.int (Nat.toInt32 sN)), .val (.int (Nat.toInt32 eN)), .val (.int (Nat.toInt32 EN)), .val (.int (Nat.toInt32 mK)), .val (.int (Nat.toInt32 (own_sk [x0, x1, x2, x3, x4] (EN - sN) sN))), .val (.int (Nat.toInt32 EN)), .val (.ref b97), .unset] [(.int (Nat.toInt32 sN)), (.int (0 : Int32)), (.ref b97)]))
        obtain ⟨cl98, Ar98, q98, S98, M98, H98, G98⟩ := (id V97)
        have hin98 : ¬ ((0 : Int32) < 0 ∨ cl98.slots.size ≤ ((0 : Int32)).toNatClampNeg) := inb_of S98 ⟨by decide, by decide⟩
        obtain ⟨T98, h98, X98, e98, W98, st98⟩ := stI X97 hx hZ e97 Ar98 (j := (0 : Int32)) hin98 (g := (mkF m 245 #[.val (.int p0), .val (.long p1), .second, .val (.int p2), .val (.int p3), .val (.ref b1), .val (.int (Nat.toInt32 sN)), .val (.int (Nat.toInt32 eN)), .val (.int (Nat.toInt32 EN)), .val (.int (Nat.toInt32 mK)), .val (.int (Nat.toInt32 (own_sk [x0, x1, x2, x3, x4] (EN - sN) sN))), .val (.int (Nat.toInt32 EN)), .val (.ref b97), .unset] [(.int (Nat.toInt32 sN)), (.int (0 : Int32)), (.ref b97)])) rfl rfl (hb hby at_245)
        have V98 : Arv Z h98 b97 k97 .int (3 : Int32) [(.int (Nat.toInt32 sN)), (.int (0 : Int32)), (.int (0 : Int32))] (.int (0 : Int32)) := Arv.set Ar98 q98 S98 M98 H98 G98 rfl W98 0 rfl (Nat.le_of_ble_eq_true rfl)
        have N98 := Fr.snoc X98 N43 g_b97
        have Z98 : n0 ≤ h98.size := Nat.le_trans Z97 (Keep.of_wr W98).1
        refine own_via st98 ?_
        show own_Go p e below s _ _ _ (T98.setTop (mkF m 246 #[.val (.int p0), .val (.long p1), .second, .val (.int p2), .val (.int p3), .val (.ref b1), .val (.int (Nat.toInt32 sN)), .val (.int (Nat.toInt32 eN)), .val (.int (Nat.toInt32 EN)), .val (.int (Nat.toInt32 mK)), .val (.int (Nat.toInt32 (own_sk [x0, x1, x2, x3, x4] (EN - sN) sN))), .val (.int (Nat.toInt32 EN)), .val (.ref b97), .unset] []))
        refine own_via (fun _ k => XS.aload X98.here hx rfl (hb hby at_246) rfl rfl k) ?_
        show own_Go p e below s _ _ _ (T98.setTop (mkF m 248 #[.val (.int p0), .val (.long p1), .second, .val (.int p2), .val (.int p3), .val (.ref b1), .val (.int (Nat.toInt32 sN)), .val (.int (Nat.toInt32 eN)), .val (.int (Nat.toInt32 EN)), .val (.int (Nat.toInt32 mK)), .val (.int (Nat.toInt32 (own_sk [x0, x1, x2, x3, x4] (EN - sN) sN))), .val (.int (Nat.toInt32 EN)), .val (.ref b97), .unset] [(.ref b97)]))
        refine own_via (fun _ k => XS.iconst X98.here hx rfl (hb hby at_248) k) ?_
        show own_Go p e below s _ _ _ (T98.setTop (mkF m 249 #[.val (.int p0), .val (.long p1), .second, .val (.int p2), .val (.int p3), .val (.ref b1), .val (.int (Nat.toInt32 sN)), .val (.int (Nat.toInt32 eN)), .val (.int (Nat.toInt32 EN)), .val (.int (Nat.toInt32 mK)), .val (.int (Nat.toInt32 (own_sk [x0, x1, x2, x3, x4] (EN - sN) sN))), .val (.int (Nat.toInt32 EN)), .val (.ref b97), .unset] [(.int (1 : Int32)), (.ref b97)]))
        refine own_via (fun _ k => XS.iload X98.here hx rfl (hb hby at_249) rfl k) ?_
        show own_Go p e below s _ _ _ (T98.setTop (mkF m 251 #[.val (.int p0), .val (.long p1), .second, .val (.int p2), .val (.int p3), .val (.ref b1), .val (.int (Nat.toInt32 sN)), .val (.int (Nat.toInt32 eN)), .val (.int (Nat.toInt32 EN)), .val (.int (Nat.toInt32 mK)), .val (.int (Nat.toInt32 (own_sk [x0, x1, x2, x3, x4] (EN - sN) sN))), .val (.int (Nat.toInt32 EN)), .val (.ref b97), .unset] [(.int (Nat.toInt32 sN)), (.int (1 : Int32)), (.ref b97)]))
        obtain ⟨cl99, Ar99, q99, S99, M99, H99, G99⟩ := (id V98)
        have hin99 : ¬ ((1 : Int32) < 0 ∨ cl99.slots.size ≤ ((1 : Int32)).toNatClampNeg) := inb_of S99 ⟨by decide, by decide⟩
        obtain ⟨T99, h99, X99, e99, W99, st99⟩ := stI X98 hx hZ e98 Ar99 (j := (1 : Int32)) hin99 (g := (mkF m 251 #[.val (.int p0), .val (.long p1), .second, .val (.int p2), .val (.int p3), .val (.ref b1), .val (.int (Nat.toInt32 sN)), .val (.int (Nat.toInt32 eN)), .val (.int (Nat.toInt32 EN)), .val (.int (Nat.toInt32 mK)), .val (.int (Nat.toInt32 (own_sk [x0, x1, x2, x3, x4] (EN - sN) sN))), .val (.int (Nat.toInt32 EN)), .val (.ref b97), .unset] [(.int (Nat.toInt32 sN)), (.int (1 : Int32)), (.ref b97)])) rfl rfl (hb hby at_251)
        have V99 : Arv Z h99 b97 k97 .int (3 : Int32) [(.int (Nat.toInt32 sN)), (.int (Nat.toInt32 sN)), (.int (0 : Int32))] (.int (0 : Int32)) := Arv.set Ar99 q99 S99 M99 H99 G99 rfl W99 1 rfl (Nat.le_of_ble_eq_true rfl)
        have N99 := Fr.snoc X99 N98 g_b97
        have Z99 : n0 ≤ h99.size := Nat.le_trans Z98 (Keep.of_wr W99).1
        refine own_via st99 ?_
        show own_Go p e below s _ _ _ (T99.setTop (mkF m 252 #[.val (.int p0), .val (.long p1), .second, .val (.int p2), .val (.int p3), .val (.ref b1), .val (.int (Nat.toInt32 sN)), .val (.int (Nat.toInt32 eN)), .val (.int (Nat.toInt32 EN)), .val (.int (Nat.toInt32 mK)), .val (.int (Nat.toInt32 (own_sk [x0, x1, x2, x3, x4] (EN - sN) sN))), .val (.int (Nat.toInt32 EN)), .val (.ref b97), .unset] []))
        refine own_via (fun _ k => XS.aload X99.here hx rfl (hb hby at_252) rfl rfl k) ?_
        show own_Go p e below s _ _ _ (T99.setTop (mkF m 254 #[.val (.int p0), .val (.long p1), .second, .val (.int p2), .val (.int p3), .val (.ref b1), .val (.int (Nat.toInt32 sN)), .val (.int (Nat.toInt32 eN)), .val (.int (Nat.toInt32 EN)), .val (.int (Nat.toInt32 mK)), .val (.int (Nat.toInt32 (own_sk [x0, x1, x2, x3, x4] (EN - sN) sN))), .val (.int (Nat.toInt32 EN)), .val (.ref b97), .unset] [(.ref b97)]))
        refine own_via (fun _ k => XS.iconst X99.here hx rfl (hb hby at_254) k) ?_
        show own_Go p e below s _ _ _ (T99.setTop (mkF m 255 #[.val (.int p0), .val (.long p1), .second, .val (.int p2), .val (.int p3), .val (.ref b1), .val (.int (Nat.toInt32 sN)), .val (.int (Nat.toInt32 eN)), .val (.int (Nat.toInt32 EN)), .val (.int (Nat.toInt32 mK)), .val (.int (Nat.toInt32 (own_sk [x0, x1, x2, x3, x4] (EN - sN) sN))), .val (.int (Nat.toInt32 EN)), .val (.ref b97), .unset] [(.int (2 : Int32)), (.ref b97)]))
        refine own_via (fun _ k => XS.iload X99.here hx rfl (hb hby at_255) rfl k) ?_
        show own_Go p e below s _ _ _ (T99.setTop (mkF m 257 #[.val (.int p0), .val (.long p1), .second, .val (.int p2), .val (.int p3), .val (.ref b1), .val (.int (Nat.toInt32 sN)), .val (.int (Nat.toInt32 eN)), .val (.int (Nat.toInt32 EN)), .val (.int (Nat.toInt32 mK)), .val (.int (Nat.toInt32 (own_sk [x0, x1, x2, x3, x4] (EN - sN) sN))), .val (.int (Nat.toInt32 EN)), .val (.ref b97), .unset] [(.int (Nat.toInt32 EN)), (.int (2 : Int32)), (.ref b97)]))
        obtain ⟨cl100, Ar100, q100, S100, M100, H100, G100⟩ := (id V99)
        have hin100 : ¬ ((2 : Int32) < 0 ∨ cl100.slots.size ≤ ((2 : Int32)).toNatClampNeg) := inb_of S100 ⟨by decide, by decide⟩
        obtain ⟨T100, h100, X100, e100, W100, st100⟩ := stI X99 hx hZ e99 Ar100 (j := (2 : Int32)) hin100 (g := (mkF m 257 #[.val (.int p0), .val (.long p1), .second, .val (.int p2), .val (.int p3), .val (.ref b1), .val (.int (Nat.toInt32 sN)), .val (.int (Nat.toInt32 eN)), .val (.int (Nat.toInt32 EN)), .val (.int (Nat.toInt32 mK)), .val (.int (Nat.toInt32 (own_sk [x0, x1, x2, x3, x4] (EN - sN) sN))), .val (.int (Nat.toInt32 EN)), .val (.ref b97), .unset] [(.int (Nat.toInt32 EN)), (.int (2 : Int32)), (.ref b97)])) rfl rfl (hb hby at_257)
        have V100 : Arv Z h100 b97 k97 .int (3 : Int32) [(.int (Nat.toInt32 sN)), (.int (Nat.toInt32 sN)), (.int (Nat.toInt32 EN))] (.int (0 : Int32)) := Arv.set Ar100 q100 S100 M100 H100 G100 rfl W100 2 rfl (Nat.le_of_ble_eq_true rfl)
        have N100 := Fr.snoc X100 N99 g_b97
        have Z100 : n0 ≤ h100.size := Nat.le_trans Z99 (Keep.of_wr W100).1
        refine own_via st100 ?_
        show own_Go p e below s _ _ _ (T100.setTop (mkF m 258 #[.val (.int p0), .val (.long p1), .second, .val (.int p2), .val (.int p3), .val (.ref b1), .val (.int (Nat.toInt32 sN)), .val (.int (Nat.toInt32 eN)), .val (.int (Nat.toInt32 EN)), .val (.int (Nat.toInt32 mK)), .val (.int (Nat.toInt32 (own_sk [x0, x1, x2, x3, x4] (EN - sN) sN))), .val (.int (Nat.toInt32 EN)), .val (.ref b97), .unset] []))
        obtain ⟨T101, h101, X101, e101, E101, A101, D101, -, st101⟩ := newO X100 hx hZ hown (hw _ (List.mem_of_getElem? (i := 16) rfl)) (hw _ (List.mem_of_getElem? (i := 17) rfl)) (hw _ (List.mem_of_getElem? (i := 18) rfl)) e100 (g := (mkF m 258 #[.val (.int p0), .val (.long p1), .second, .val (.int p2), .val (.int p3), .val (.ref b1), .val (.int (Nat.toInt32 sN)), .val (.int (Nat.toInt32 eN)), .val (.int (Nat.toInt32 EN)), .val (.int (Nat.toInt32 mK)), .val (.int (Nat.toInt32 (own_sk [x0, x1, x2, x3, x4] (EN - sN) sN))), .val (.int (Nat.toInt32 EN)), .val (.ref b97), .unset] [])) rfl (hb hby at_258) (by decide) (by decide)
        obtain ⟨b101, gg101⟩ : ∃ z, z = h100.size := ⟨_, rfl⟩
        rw [← gg101] at A101 D101 st101
        have ne_b1_b101 : b1 ≠ b101 := Nat.ne_of_lt (Nat.lt_of_lt_of_le ((((F16.ext E97).other W98 ne_b1_b97).other W99 ne_b1_b97).other W100 ne_b1_b97).lt (Nat.le_of_eq gg101.symm))
        have ne_b97_b101 : b97 ≠ b101 := Nat.ne_of_lt (Nat.lt_of_lt_of_le V100.lt (Nat.le_of_eq gg101.symm))
        have g_b101 : n0 ≤ b101 := Nat.le_trans Z100 (Nat.le_of_eq gg101.symm)
        have Z101 : n0 ≤ h101.size := Nat.le_trans Z100 E101.1
        have F102 : Fld Z h101 b101 "com/example/enlace/enlace/graph/LineFields" "bytes" "[B" .null := D101 (Or.inl (hw _ (List.mem_of_getElem? (i := 31) rfl))) (ty := (.array .byte)) (by decide)
        have F103 : Fld Z h101 b101 "com/example/enlace/enlace/graph/LineFields" "end" "I" (.int (0 : Int32)) := D101 (Or.inl (hw _ (List.mem_of_getElem? (i := 33) rfl))) (ty := .int) (by decide)
        have F104 : Fld Z h101 b101 "com/example/enlace/enlace/graph/LineFields" "position" "I" (.int (0 : Int32)) := D101 (Or.inl (hw _ (List.mem_of_getElem? (i := 39) rfl))) (ty := .int) (by decide)
        have F105 : Fld Z h101 b101 "com/example/enlace/enlace/graph/LineFields" "fieldStart" "I" (.int (0 : Int32)) := D101 (Or.inl (hw _ (List.mem_of_getElem? (i := 41) rfl))) (ty := .int) (by decide)
        have F106 : Fld Z h101 b101 "com/example/enlace/enlace/graph/LineFields" "fieldEnd" "I" (.int (0 : Int32)) := D101 (Or.inl (hw _ (List.mem_of_getElem? (i := 43) rfl))) (ty := .int) (by decide)
        refine own_via st101 ?_
        show own_Go p e below s _ _ _ (T101.setTop (mkF m 261 #[.val (.int p0), .val (.long p1), .second, .val (.int p2), .val (.int p3), .val (.ref b1), .val (.int (Nat.toInt32 sN)), .val (.int (Nat.toInt32 eN)), .val (.int (Nat.toInt32 EN)), .val (.int (Nat.toInt32 mK)), .val (.int (Nat.toInt32 (own_sk [x0, x1, x2, x3, x4] (EN - sN) sN))), .val (.int (Nat.toInt32 EN)), .val (.ref b97), .unset] [(.ref b101)]))
        refine own_via (fun _ k => XS.dup X101.here hx rfl (hb hby at_261) rfl rfl k) ?_
        show own_Go p e below s _ _ _ (T101.setTop (mkF m 262 #[.val (.int p0), .val (.long p1), .second, .val (.int p2), .val (.int p3), .val (.ref b1), .val (.int (Nat.toInt32 sN)), .val (.int (Nat.toInt32 eN)), .val (.int (Nat.toInt32 EN)), .val (.int (Nat.toInt32 mK)), .val (.int (Nat.toInt32 (own_sk [x0, x1, x2, x3, x4] (EN - sN) sN))), .val (.int (Nat.toInt32 EN)), .val (.ref b97), .unset] [(.ref b101), (.ref b101)]))
        obtain ⟨_, _, ⟨T107, L107, k107, n107⟩, -, X107, ⟨Lc107, hQ107, l107, y107, z107⟩, st107⟩ := X101.specialBack hx (y := (⟨"com/example/enlace/enlace/graph/LineFields", "<init>", "()V"⟩ : MethodName)) rfl hown (mvT hZ (hw _ (List.mem_of_getElem? (i := 19) rfl))) (mvT hZ (hw _ (List.mem_of_getElem? (i := 20) rfl))) (mvT hZ (hw _ (List.mem_of_getElem? (i := 21) rfl))) (by decide) (backOf (W := 1) (rm5 l Z a0 hw [] b101 h101 n0 Z101 ) hZ (hw _ (List.mem_of_getElem? (i := 21) rfl)) (hw _ (List.mem_of_getElem? (i := 18) rfl)) (by decide) (by decide)) (g := (mkF m 262 #[.val (.int p0), .val (.long p1), .second, .val (.int p2), .val (.int p3), .val (.ref b1), .val (.int (Nat.toInt32 sN)), .val (.int (Nat.toInt32 eN)), .val (.int (Nat.toInt32 EN)), .val (.int (Nat.toInt32 mK)), .val (.int (Nat.toInt32 (own_sk [x0, x1, x2, x3, x4] (EN - sN) sN))), .val (.int (Nat.toInt32 EN)), .val (.ref b97), .unset] [(.ref b101), (.ref b101)])) rfl (by rw [hml]; rfl) (Steps.refl _) (a := b101) (argsL := []) (rest := [(.ref b101)]) (lenOf pd_6 rfl) rfl (by show 2 * 0 + _ ≤ _; exact Nat.le_of_eq rfl) (hb hby at_262) (fun _ _ => ⟨rfl, e101, (by decide : 3 + 0 ≤ _), (by decide : 13 + 0 ≤ _)⟩)
        dsimp only [Pt.U, Pt.locs, Pt.cells, Pt.slots] at X107 l107 y107 z107 st107 hQ107
        subst l107 y107 z107
        obtain ⟨rfl, N107q, e107⟩ := hQ107
        have N107 := Fr.app N100 N107q
        refine own_viaT st107 ?_
        show own_Go p e below s _ _ _ (T107.setTop (mkF m 265 #[.val (.int p0), .val (.long p1), .second, .val (.int p2), .val (.int p3), .val (.ref b1), .val (.int (Nat.toInt32 sN)), .val (.int (Nat.toInt32 eN)), .val (.int (Nat.toInt32 EN)), .val (.int (Nat.toInt32 mK)), .val (.int (Nat.toInt32 (own_sk [x0, x1, x2, x3, x4] (EN - sN) sN))), .val (.int (Nat.toInt32 EN)), .val (.ref b97), .unset] [(.ref b101)]))
        refine own_via (fun _ k => XS.astore X107.here hx rfl (hb hby at_265) rfl rfl (l' := #[.val (.int p0), .val (.long p1), .second, .val (.int p2), .val (.int p3), .val (.ref b1), .val (.int (Nat.toInt32 sN)), .val (.int (Nat.toInt32 eN)), .val (.int (Nat.toInt32 EN)), .val (.int (Nat.toInt32 mK)), .val (.int (Nat.toInt32 (own_sk [x0, x1, x2, x3, x4] (EN - sN) sN))), .val (.int (Nat.toInt32 EN)), .val (.ref b97), .val (.ref b101)]) rfl k) ?_
        show own_Go p e below s _ _ _ (T107.setTop (mkF m 267 #[.val (.int p0), .val (.long p1), .second, .val (.int p2), .val (.int p3), .val (.ref b1), .val (.int (Nat.toInt32 sN)), .val (.int (Nat.toInt32 eN)), .val (.int (Nat.toInt32 EN)), .val (.int (Nat.toInt32 mK)), .val (.int (Nat.toInt32 (own_sk [x0, x1, x2, x3, x4] (EN - sN) sN))), .val (.int (Nat.toInt32 EN)), .val (.ref b97), .val (.ref b101)] []))
        refine own_via (fun _ k => XS.aload X107.here hx rfl (hb hby at_267) rfl rfl k) ?_
        show own_Go p e below s _ _ _ (T107.setTop (mkF m 269 #[.val (.int p0), .val (.long p1), .second, .val (.int p2), .val (.int p3), .val (.ref b1), .val (.int (Nat.toInt32 sN)), .val (.int (Nat.toInt32 eN)), .val (.int (Nat.toInt32 EN)), .val (.int (Nat.toInt32 mK)), .val (.int (Nat.toInt32 (own_sk [x0, x1, x2, x3, x4] (EN - sN) sN))), .val (.int (Nat.toInt32 EN)), .val (.ref b97), .val (.ref b101)] [(.ref b101)]))
        refine own_via (fun _ k => XS.aload X107.here hx rfl (hb hby at_269) rfl rfl k) ?_
        show own_Go p e below s _ _ _ (T107.setTop (mkF m 271 #[.val (.int p0), .val (.long p1), .second, .val (.int p2), .val (.int p3), .val (.ref b1), .val (.int (Nat.toInt32 sN)), .val (.int (Nat.toInt32 eN)), .val (.int (Nat.toInt32 EN)), .val (.int (Nat.toInt32 mK)), .val (.int (Nat.toInt32 (own_sk [x0, x1, x2, x3, x4] (EN - sN) sN))), .val (.int (Nat.toInt32 EN)), .val (.ref b97), .val (.ref b101)] [(.ref b1), (.ref b101)]))
        refine own_via (fun _ k => XS.iload X107.here hx rfl (hb hby at_271) rfl k) ?_
        show own_Go p e below s _ _ _ (T107.setTop (mkF m 273 #[.val (.int p0), .val (.long p1), .second, .val (.int p2), .val (.int p3), .val (.ref b1), .val (.int (Nat.toInt32 sN)), .val (.int (Nat.toInt32 eN)), .val (.int (Nat.toInt32 EN)), .val (.int (Nat.toInt32 mK)), .val (.int (Nat.toInt32 (own_sk [x0, x1, x2, x3, x4] (EN - sN) sN))), .val (.int (Nat.toInt32 EN)), .val (.ref b97), .val (.ref b101)] [(.int (Nat.toInt32 sN)), (.ref b1), (.ref b101)]))
        refine own_via (fun _ k => XS.iload X107.here hx rfl (hb hby at_273) rfl k) ?_
        show own_Go p e below s _ _ _ (T107.setTop (mkF m 275 #[.val (.int p0), .val (.long p1), .second, .val (.int p2), .val (.int p3), .val (.ref b1), .val (.int (Nat.toInt32 sN)), .val (.int (Nat.toInt32 eN)), .val (.int (Nat.toInt32 EN)), .val (.int (Nat.toInt32 mK)), .val (.int (Nat.toInt32 (own_sk [x0, x1, x2, x3, x4] (EN - sN) sN))), .val (.int (Nat.toInt32 EN)), .val (.ref b97), .val (.ref b101)] [(.int (Nat.toInt32 eN)), (.int (Nat.toInt32 sN)), (.ref b1), (.ref b101)]))
        have F109 := (((((F16.ext E97).other W98 ne_b1_b97).other W99 ne_b1_b97).other W100 ne_b1_b97).ext E101)
        obtain ⟨cq108, kq108, qa108, qb108, qc108⟩ := isOf hZ e107 A101
        obtain ⟨_, _, ⟨T108, L108, k108, n108⟩, -, X108, ⟨Lc108, hQ108, l108, y108, z108⟩, st108⟩ := X107.virtualBack hx (y := (⟨"com/example/enlace/enlace/graph/LineFields", "reset", "([BII)V"⟩ : MethodName)) (z := (⟨"com/example/enlace/enlace/graph/LineFields", "reset", "([BII)V"⟩ : MethodName)) hown (mvT hZ (hw _ (List.mem_of_getElem? (i := 25) rfl))) (mvT hZ (hw _ (List.mem_of_getElem? (i := 26) rfl))) (notFace_of_selects (args := #[]) (mvT hZ (hw _ (List.mem_of_getElem? (i := 28) rfl)))) (mvT hZ (hw _ (List.mem_of_getElem? (i := 28) rfl))) (mvT hZ (hw _ (List.mem_of_getElem? (i := 27) rfl))) (by decide) (backOf (W := 0) (rm7 l Z a0 hw [] b101 b1 (Nat.toInt32 sN) (Nat.toInt32 eN) .null (0 : Int32) (0 : Int32) (0 : Int32) (0 : Int32) k1 (5 : Int32) [x0, x1, x2, x3, x4] sN eN h101 n0 Z101 A101 F102 F103 F104 F105 F106 F109 g_b101 ne_b1_b101 rfl rfl he1 (by omega) (by show (eN : Int) ≤ 5; omega)) hZ (hw _ (List.mem_of_getElem? (i := 29) rfl)) (hw _ (List.mem_of_getElem? (i := 18) rfl)) (by decide) (by decide)) qa108 qc108 (g := (mkF m 275 #[.val (.int p0), .val (.long p1), .second, .val (.int p2), .val (.int p3), .val (.ref b1), .val (.int (Nat.toInt32 sN)), .val (.int (Nat.toInt32 eN)), .val (.int (Nat.toInt32 EN)), .val (.int (Nat.toInt32 mK)), .val (.int (Nat.toInt32 (own_sk [x0, x1, x2, x3, x4] (EN - sN) sN))), .val (.int (Nat.toInt32 EN)), .val (.ref b97), .val (.ref b101)] [(.int (Nat.toInt32 eN)), (.int (Nat.toInt32 sN)), (.ref b1), (.ref b101)])) rfl (by rw [hml]; rfl) (Steps.refl _) (argsL := [(.ref b1), (.int (Nat.toInt32 sN)), (.int (Nat.toInt32 eN))]) (rest := []) (lenOf pd_7 rfl) rfl (by show 2 * 0 + _ ≤ _; exact Nat.le_of_eq rfl) (hb hby at_275) (fun _ _ => ⟨rfl, e107, (by decide : 3 + 0 ≤ _), (by decide : 13 + 0 ≤ _)⟩)
        dsimp only [Pt.U, Pt.locs, Pt.cells, Pt.slots] at X108 l108 y108 z108 st108 hQ108
        subst l108 y108 z108
        obtain ⟨h108, e108⟩ : ∃ h, T108.heap = h := ⟨_, rfl⟩
        rw [e108] at hQ108
        obtain ⟨rfl, N108q, Kq108, F110, F111, F112, F113, F114, F115⟩ := hQ108
        have Z108 : n0 ≤ h108.size := Nat.le_trans Z101 Kq108.1
        have N108 := Fr.app N107 N108q
        refine own_viaT st108 ?_
        show own_Go p e below s _ _ _ (T108.setTop (mkF m 278 #[.val (.int p0), .val (.long p1), .second, .val (.int p2), .val (.int p3), .val (.ref b1), .val (.int (Nat.toInt32 sN)), .val (.int (Nat.toInt32 eN)), .val (.int (Nat.toInt32 EN)), .val (.int (Nat.toInt32 mK)), .val (.int (Nat.toInt32 (own_sk [x0, x1, x2, x3, x4] (EN - sN) sN))), .val (.int (Nat.toInt32 EN)), .val (.ref b97), .val (.ref b101)] []))
        rw [h3] at F112
        rw [h3] at F113
        obtain ⟨r1, r2, r3⟩ := own_all1 hm hbK (by omega : sN ≤ EN) (by omega : EN ≤ 5) hf1 hc95
        refine own_via (fun _ k => XS.aload X108.here hx rfl (hb hby at_278) rfl rfl k) ?_
        show own_Go p e below s _ _ _ (T108.setTop (mkF m 280 #[.val (.int p0), .val (.long p1), .second, .val (.int p2), .val (.int p3), .val (.ref b1), .val (.int (Nat.toInt32 sN)), .val (.int (Nat.toInt32 eN)), .val (.int (Nat.toInt32 EN)), .val (.int (Nat.toInt32 mK)), .val (.int (Nat.toInt32 (own_sk [x0, x1, x2, x3, x4] (EN - sN) sN))), .val (.int (Nat.toInt32 EN)), .val (.ref b97), .val (.ref b101)] [(.ref b101)]))
        refine own_via (fun _ k => XS.iload X108.here hx rfl (hb hby at_280) rfl k) ?_
        show own_Go p e below s _ _ _ (T108.setTop (mkF m 282 #[.val (.int p0), .val (.long p1), .second, .val (.int p2), .val (.int p3), .val (.ref b1), .val (.int (Nat.toInt32 sN)), .val (.int (Nat.toInt32 eN)), .val (.int (Nat.toInt32 EN)), .val (.int (Nat.toInt32 mK)), .val (.int (Nat.toInt32 (own_sk [x0, x1, x2, x3, x4] (EN - sN) sN))), .val (.int (Nat.toInt32 EN)), .val (.ref b97), .val (.ref b101)] [(.int (Nat.toInt32 mK)), (.ref b101)]))
        refine own_via (fun _ k => XS.iload X108.here hx rfl (hb hby at_282) rfl k) ?_
        show own_Go p e below s _ _ _ (T108.setTop (mkF m 284 #[.val (.int p0), .val (.long p1), .second, .val (.int p2), .val (.int p3), .val (.ref b1), .val (.int (Nat.toInt32 sN)), .val (.int (Nat.toInt32 eN)), .val (.int (Nat.toInt32 EN)), .val (.int (Nat.toInt32 mK)), .val (.int (Nat.toInt32 (own_sk [x0, x1, x2, x3, x4] (EN - sN) sN))), .val (.int (Nat.toInt32 EN)), .val (.ref b97), .val (.ref b101)] [(.int (Nat.toInt32 EN)), (.int (Nat.toInt32 mK)), (.ref b101)]))
        refine own_via (fun _ k => XS.aload X108.here hx rfl (hb hby at_284) rfl rfl k) ?_
        show own_Go p e below s _ _ _ (T108.setTop (mkF m 286 #[.val (.int p0), .val (.long p1), .second, .val (.int p2), .val (.int p3), .val (.ref b1), .val (.int (Nat.toInt32 sN)), .val (.int (Nat.toInt32 eN)), .val (.int (Nat.toInt32 EN)), .val (.int (Nat.toInt32 mK)), .val (.int (Nat.toInt32 (own_sk [x0, x1, x2, x3, x4] (EN - sN) sN))), .val (.int (Nat.toInt32 EN)), .val (.ref b97), .val (.ref b101)] [(.ref b97), (.int (Nat.toInt32 EN)), (.int (Nat.toInt32 mK)), (.ref b101)]))
        have F117 := (F109.keep Kq108 (ninS ne_b1_b101 nin0))
        have F118 := ((V100.ext E101).keep Kq108 (ninS ne_b97_b101 nin0))
        obtain ⟨_, _, ⟨T116, L116, k116, n116⟩, -, X116, ⟨Lc116, hQ116, l116, y116, z116⟩, st116⟩ := Jvm.LawKit.callS X108 hx (y := (⟨"com/example/enlace/enlace/graph/LineFieldsAdvancePinLaw", "step", "(Lcom/example/enlace/enlace/graph/LineFields;II[I)Z"⟩ : MethodName)) hown (mvT hZ (hw _ (List.mem_of_getElem? (i := 44) rfl))) (mvT hZ (hw _ (List.mem_of_getElem? (i := 45) rfl))) (mvT hZ (hw _ (List.mem_of_getElem? (i := 3) rfl))) (mvT hZ (hw _ (List.mem_of_getElem? (i := 46) rfl))) (by decide) (backOf (W := 0) (rm9 l Z a0 hw [] b101 (Nat.toInt32 mK) (Nat.toInt32 EN) b97 b1 k1 (5 : Int32) [x0, x1, x2, x3, x4] EN (own_pos [x0, x1, x2, x3, x4] sN EN) (Nat.toInt32 sN) (Nat.toInt32 sN) k97 (Nat.toInt32 sN) (Nat.toInt32 sN) (Nat.toInt32 EN) h108 n0 Z108 F110 F111 F112 F113 F114 F115 F117 F118 g_b101 g_b97 ne_b1_b101 ne_b1_b97 (own_pos_r (by omega)) (by omega) (by show (EN : Int) ≤ 5; omega) r1 rfl (Ne.symm ne_b97_b101)) hZ (hw _ (List.mem_of_getElem? (i := 46) rfl)) (hw _ (List.mem_of_getElem? (i := 3) rfl)) (by decide) (by decide)) (g := (mkF m 286 #[.val (.int p0), .val (.long p1), .second, .val (.int p2), .val (.int p3), .val (.ref b1), .val (.int (Nat.toInt32 sN)), .val (.int (Nat.toInt32 eN)), .val (.int (Nat.toInt32 EN)), .val (.int (Nat.toInt32 mK)), .val (.int (Nat.toInt32 (own_sk [x0, x1, x2, x3, x4] (EN - sN) sN))), .val (.int (Nat.toInt32 EN)), .val (.ref b97), .val (.ref b101)] [(.ref b97), (.int (Nat.toInt32 EN)), (.int (Nat.toInt32 mK)), (.ref b101)])) rfl (by rw [hml]; rfl) (argsL := [(.ref b101), (.int (Nat.toInt32 mK)), (.int (Nat.toInt32 EN)), (.ref b97)]) (rest := []) (lenOf pd_8 rfl) rfl (by show 2 * 0 + _ ≤ _; exact Nat.le_of_eq rfl) (hb hby at_286) (fun _ _ => ⟨rfl, e108, (by decide : 3 + 0 ≤ _), (by decide : 13 + 0 ≤ _)⟩)
        dsimp only [Pt.U, Pt.locs, Pt.cells, Pt.slots] at X116 l116 y116 z116 st116 hQ116
        subst l116 y116 z116
        obtain ⟨h116, e116⟩ : ∃ h, T116.heap = h := ⟨_, rfl⟩
        rw [e116] at hQ116
        obtain ⟨rfl, N116q, Kq116, F119, F120, F121, F122, F123, F124, F125⟩ := hQ116
        have Z116 : n0 ≤ h116.size := Nat.le_trans Z108 Kq116.1
        have N116 := Fr.app N108 N116q
        refine own_via st116 ?_
        show own_Go p e below s _ _ _ (T116.setTop (mkF m 289 #[.val (.int p0), .val (.long p1), .second, .val (.int p2), .val (.int p3), .val (.ref b1), .val (.int (Nat.toInt32 sN)), .val (.int (Nat.toInt32 eN)), .val (.int (Nat.toInt32 EN)), .val (.int (Nat.toInt32 mK)), .val (.int (Nat.toInt32 (own_sk [x0, x1, x2, x3, x4] (EN - sN) sN))), .val (.int (Nat.toInt32 EN)), .val (.ref b97), .val (.ref b101)] [(.int (1 : Int32))]))
        refine own_via (fun _ k => XS.ifNo X116.here hx rfl (hb hby at_289) rfl (Jvm.Free.XT.i0_eq_f (by decide)) k) ?_
        show own_Go p e below s _ _ _ (T116.setTop (mkF m 292 #[.val (.int p0), .val (.long p1), .second, .val (.int p2), .val (.int p3), .val (.ref b1), .val (.int (Nat.toInt32 sN)), .val (.int (Nat.toInt32 eN)), .val (.int (Nat.toInt32 EN)), .val (.int (Nat.toInt32 mK)), .val (.int (Nat.toInt32 (own_sk [x0, x1, x2, x3, x4] (EN - sN) sN))), .val (.int (Nat.toInt32 EN)), .val (.ref b97), .val (.ref b101)] []))
        refine own_via (fun _ k => XS.aload X116.here hx rfl (hb hby at_292) rfl rfl k) ?_
        show own_Go p e below s _ _ _ (T116.setTop (mkF m 294 #[.val (.int p0), .val (.long p1), .second, .val (.int p2), .val (.int p3), .val (.ref b1), .val (.int (Nat.toInt32 sN)), .val (.int (Nat.toInt32 eN)), .val (.int (Nat.toInt32 EN)), .val (.int (Nat.toInt32 mK)), .val (.int (Nat.toInt32 (own_sk [x0, x1, x2, x3, x4] (EN - sN) sN))), .val (.int (Nat.toInt32 EN)), .val (.ref b97), .val (.ref b101)] [(.ref b101)]))
        refine own_via (fun _ k => XS.iload X116.here hx rfl (hb hby at_294) rfl k) ?_
        show own_Go p e below s _ _ _ (T116.setTop (mkF m 296 #[.val (.int p0), .val (.long p1), .second, .val (.int p2), .val (.int p3), .val (.ref b1), .val (.int (Nat.toInt32 sN)), .val (.int (Nat.toInt32 eN)), .val (.int (Nat.toInt32 EN)), .val (.int (Nat.toInt32 mK)), .val (.int (Nat.toInt32 (own_sk [x0, x1, x2, x3, x4] (EN - sN) sN))), .val (.int (Nat.toInt32 EN)), .val (.ref b97), .val (.ref b101)] [(.int (Nat.toInt32 mK)), (.ref b101)]))
        refine own_via (fun _ k => XS.iload X116.here hx rfl (hb hby at_296) rfl k) ?_
        show own_Go p e below s _ _ _ (T116.setTop (mkF m 298 #[.val (.int p0), .val (.long p1), .second, .val (.int p2), .val (.int p3), .val (.ref b1), .val (.int (Nat.toInt32 sN)), .val (.int (Nat.toInt32 eN)), .val (.int (Nat.toInt32 EN)), .val (.int (Nat.toInt32 mK)), .val (.int (Nat.toInt32 (own_sk [x0, x1, x2, x3, x4] (EN - sN) sN))), .val (.int (Nat.toInt32 EN)), .val (.ref b97), .val (.ref b101)] [(.int (Nat.toInt32 EN)), (.int (Nat.toInt32 mK)), (.ref b101)]))
        refine own_via (fun _ k => XS.aload X116.here hx rfl (hb hby at_298) rfl rfl k) ?_
        show own_Go p e below s _ _ _ (T116.setTop (mkF m 300 #[.val (.int p0), .val (.long p1), .second, .val (.int p2), .val (.int p3), .val (.ref b1), .val (.int (Nat.toInt32 sN)), .val (.int (Nat.toInt32 eN)), .val (.int (Nat.toInt32 EN)), .val (.int (Nat.toInt32 mK)), .val (.int (Nat.toInt32 (own_sk [x0, x1, x2, x3, x4] (EN - sN) sN))), .val (.int (Nat.toInt32 EN)), .val (.ref b97), .val (.ref b101)] [(.ref b97), (.int (Nat.toInt32 EN)), (.int (Nat.toInt32 mK)), (.ref b101)]))
        have F127 := (F117.keep Kq116 (ninS ne_b1_b101 (ninS ne_b1_b97 nin0)))
        obtain ⟨_, _, ⟨T126, L126, k126, n126⟩, -, X126, ⟨Lc126, hQ126, l126, y126, z126⟩, st126⟩ := Jvm.LawKit.callS X116 hx (y := (⟨"com/example/enlace/enlace/graph/LineFieldsAdvancePinLaw", "step", "(Lcom/example/enlace/enlace/graph/LineFields;II[I)Z"⟩ : MethodName)) hown (mvT hZ (hw _ (List.mem_of_getElem? (i := 44) rfl))) (mvT hZ (hw _ (List.mem_of_getElem? (i := 45) rfl))) (mvT hZ (hw _ (List.mem_of_getElem? (i := 3) rfl))) (mvT hZ (hw _ (List.mem_of_getElem? (i := 46) rfl))) (by decide) (backOf (W := 0) (rm9 l Z a0 hw [] b101 (Nat.toInt32 mK) (Nat.toInt32 EN) b97 b1 k1 (5 : Int32) [x0, x1, x2, x3, x4] EN (own_nq [x0, x1, x2, x3, x4] EN (own_pos [x0, x1, x2, x3, x4] sN EN)) (own_nfs [x0, x1, x2, x3, x4] EN (own_pos [x0, x1, x2, x3, x4] sN EN) (Nat.toInt32 sN)) (own_nft [x0, x1, x2, x3, x4] EN (own_pos [x0, x1, x2, x3, x4] sN EN) (Nat.toInt32 sN)) k97 (own_t0 (Nat.toInt32 mK) EN (Nat.toInt32 sN) (Nat.toInt32 EN)) (own_t1 (Nat.toInt32 mK) EN (Nat.toInt32 sN) (Nat.toInt32 EN)) (own_t2 (Nat.toInt32 mK) EN (Nat.toInt32 EN)) h116 n0 Z116 F119 F120 F121 F122 F123 F124 F127 F125 g_b101 g_b97 ne_b1_b101 ne_b1_b97 (own_nq_r (own_pos_r (by omega))) (by omega) (by show (EN : Int) ≤ 5; omega) r2 rfl (Ne.symm ne_b97_b101)) hZ (hw _ (List.mem_of_getElem? (i := 46) rfl)) (hw _ (List.mem_of_getElem? (i := 3) rfl)) (by decide) (by decide)) (g := (mkF m 300 #[.val (.int p0), .val (.long p1), .second, .val (.int p2), .val (.int p3), .val (.ref b1), .val (.int (Nat.toInt32 sN)), .val (.int (Nat.toInt32 eN)), .val (.int (Nat.toInt32 EN)), .val (.int (Nat.toInt32 mK)), .val (.int (Nat.toInt32 (own_sk [x0, x1, x2, x3, x4] (EN - sN) sN))), .val (.int (Nat.toInt32 EN)), .val (.ref b97), .val (.ref b101)] [(.ref b97), (.int (Nat.toInt32 EN)), (.int (Nat.toInt32 mK)), (.ref b101)])) rfl (by rw [hml]; rfl) (argsL := [(.ref b101), (.int (Nat.toInt32 mK)), (.int (Nat.toInt32 EN)), (.ref b97)]) (rest := []) (lenOf pd_8 rfl) rfl (by show 2 * 0 + _ ≤ _; exact Nat.le_of_eq rfl) (hb hby at_300) (fun _ _ => ⟨rfl, e116, (by decide : 3 + 0 ≤ _), (by decide : 13 + 0 ≤ _)⟩)
        dsimp only [Pt.U, Pt.locs, Pt.cells, Pt.slots] at X126 l126 y126 z126 st126 hQ126
        subst l126 y126 z126
        obtain ⟨h126, e126⟩ : ∃ h, T126.heap = h := ⟨_, rfl⟩
        rw [e126] at hQ126
        obtain ⟨rfl, N126q, Kq126, F128, F129, F130, F131, F132, F133, F134⟩ := hQ126
        have Z126 : n0 ≤ h126.size := Nat.le_trans Z116 Kq126.1
        have N126 := Fr.app N116 N126q
        refine own_via st126 ?_
        show own_Go p e below s _ _ _ (T126.setTop (mkF m 303 #[.val (.int p0), .val (.long p1), .second, .val (.int p2), .val (.int p3), .val (.ref b1), .val (.int (Nat.toInt32 sN)), .val (.int (Nat.toInt32 eN)), .val (.int (Nat.toInt32 EN)), .val (.int (Nat.toInt32 mK)), .val (.int (Nat.toInt32 (own_sk [x0, x1, x2, x3, x4] (EN - sN) sN))), .val (.int (Nat.toInt32 EN)), .val (.ref b97), .val (.ref b101)] [(.int (1 : Int32))]))
        refine own_via (fun _ k => XS.ifNo X126.here hx rfl (hb hby at_303) rfl (Jvm.Free.XT.i0_eq_f (by decide)) k) ?_
        show own_Go p e below s _ _ _ (T126.setTop (mkF m 306 #[.val (.int p0), .val (.long p1), .second, .val (.int p2), .val (.int p3), .val (.ref b1), .val (.int (Nat.toInt32 sN)), .val (.int (Nat.toInt32 eN)), .val (.int (Nat.toInt32 EN)), .val (.int (Nat.toInt32 mK)), .val (.int (Nat.toInt32 (own_sk [x0, x1, x2, x3, x4] (EN - sN) sN))), .val (.int (Nat.toInt32 EN)), .val (.ref b97), .val (.ref b101)] []))
        refine own_via (fun _ k => XS.aload X126.here hx rfl (hb hby at_306) rfl rfl k) ?_
        show own_Go p e below s _ _ _ (T126.setTop (mkF m 308 #[.val (.int p0), .val (.long p1), .second, .val (.int p2), .val (.int p3), .val (.ref b1), .val (.int (Nat.toInt32 sN)), .val (.int (Nat.toInt32 eN)), .val (.int (Nat.toInt32 EN)), .val (.int (Nat.toInt32 mK)), .val (.int (Nat.toInt32 (own_sk [x0, x1, x2, x3, x4] (EN - sN) sN))), .val (.int (Nat.toInt32 EN)), .val (.ref b97), .val (.ref b101)] [(.ref b101)]))
        refine own_via (fun _ k => XS.iload X126.here hx rfl (hb hby at_308) rfl k) ?_
        show own_Go p e below s _ _ _ (T126.setTop (mkF m 310 #[.val (.int p0), .val (.long p1), .second, .val (.int p2), .val (.int p3), .val (.ref b1), .val (.int (Nat.toInt32 sN)), .val (.int (Nat.toInt32 eN)), .val (.int (Nat.toInt32 EN)), .val (.int (Nat.toInt32 mK)), .val (.int (Nat.toInt32 (own_sk [x0, x1, x2, x3, x4] (EN - sN) sN))), .val (.int (Nat.toInt32 EN)), .val (.ref b97), .val (.ref b101)] [(.int (Nat.toInt32 mK)), (.ref b101)]))
        refine own_via (fun _ k => XS.iload X126.here hx rfl (hb hby at_310) rfl k) ?_
        show own_Go p e below s _ _ _ (T126.setTop (mkF m 312 #[.val (.int p0), .val (.long p1), .second, .val (.int p2), .val (.int p3), .val (.ref b1), .val (.int (Nat.toInt32 sN)), .val (.int (Nat.toInt32 eN)), .val (.int (Nat.toInt32 EN)), .val (.int (Nat.toInt32 mK)), .val (.int (Nat.toInt32 (own_sk [x0, x1, x2, x3, x4] (EN - sN) sN))), .val (.int (Nat.toInt32 EN)), .val (.ref b97), .val (.ref b101)] [(.int (Nat.toInt32 EN)), (.int (Nat.toInt32 mK)), (.ref b101)]))
        refine own_via (fun _ k => XS.aload X126.here hx rfl (hb hby at_312) rfl rfl k) ?_
        show own_Go p e below s _ _ _ (T126.setTop (mkF m 314 #[.val (.int p0), .val (.long p1), .second, .val (.int p2), .val (.int p3), .val (.ref b1), .val (.int (Nat.toInt32 sN)), .val (.int (Nat.toInt32 eN)), .val (.int (Nat.toInt32 EN)), .val (.int (Nat.toInt32 mK)), .val (.int (Nat.toInt32 (own_sk [x0, x1, x2, x3, x4] (EN - sN) sN))), .val (.int (Nat.toInt32 EN)), .val (.ref b97), .val (.ref b101)] [(.ref b97), (.int (Nat.toInt32 EN)), (.int (Nat.toInt32 mK)), (.ref b101)]))
        have F136 := (F127.keep Kq126 (ninS ne_b1_b101 (ninS ne_b1_b97 nin0)))
        obtain ⟨_, _, ⟨T135, L135, k135, n135⟩, -, X135, ⟨Lc135, hQ135, l135, y135, z135⟩, st135⟩ := Jvm.LawKit.callS X126 hx (y := (⟨"com/example/enlace/enlace/graph/LineFieldsAdvancePinLaw", "step", "(Lcom/example/enlace/enlace/graph/LineFields;II[I)Z"⟩ : MethodName)) hown (mvT hZ (hw _ (List.mem_of_getElem? (i := 44) rfl))) (mvT hZ (hw _ (List.mem_of_getElem? (i := 45) rfl))) (mvT hZ (hw _ (List.mem_of_getElem? (i := 3) rfl))) (mvT hZ (hw _ (List.mem_of_getElem? (i := 46) rfl))) (by decide) (backOf (W := 0) (rm9 l Z a0 hw [] b101 (Nat.toInt32 mK) (Nat.toInt32 EN) b97 b1 k1 (5 : Int32) [x0, x1, x2, x3, x4] EN (own_nq [x0, x1, x2, x3, x4] EN (own_nq [x0, x1, x2, x3, x4] EN (own_pos [x0, x1, x2, x3, x4] sN EN))) (own_nfs [x0, x1, x2, x3, x4] EN (own_nq [x0, x1, x2, x3, x4] EN (own_pos [x0, x1, x2, x3, x4] sN EN)) (own_nfs [x0, x1, x2, x3, x4] EN (own_pos [x0, x1, x2, x3, x4] sN EN) (Nat.toInt32 sN))) (own_nft [x0, x1, x2, x3, x4] EN (own_nq [x0, x1, x2, x3, x4] EN (own_pos [x0, x1, x2, x3, x4] sN EN)) (own_nft [x0, x1, x2, x3, x4] EN (own_pos [x0, x1, x2, x3, x4] sN EN) (Nat.toInt32 sN))) k97 (own_t0 (Nat.toInt32 mK) EN (own_t0 (Nat.toInt32 mK) EN (Nat.toInt32 sN) (Nat.toInt32 EN)) (own_t2 (Nat.toInt32 mK) EN (Nat.toInt32 EN))) (own_t1 (Nat.toInt32 mK) EN (own_t1 (Nat.toInt32 mK) EN (Nat.toInt32 sN) (Nat.toInt32 EN)) (own_t2 (Nat.toInt32 mK) EN (Nat.toInt32 EN))) (own_t2 (Nat.toInt32 mK) EN (own_t2 (Nat.toInt32 mK) EN (Nat.toInt32 EN))) h126 n0 Z126 F128 F129 F130 F131 F132 F133 F136 F134 g_b101 g_b97 ne_b1_b101 ne_b1_b97 (own_nq_r (own_nq_r (own_pos_r (by omega)))) (by omega) (by show (EN : Int) ≤ 5; omega) r3 rfl (Ne.symm ne_b97_b101)) hZ (hw _ (List.mem_of_getElem? (i := 46) rfl)) (hw _ (List.mem_of_getElem? (i := 3) rfl)) (by decide) (by decide)) (g := (mkF m 314 #[.val (.int p0), .val (.long p1), .second, .val (.int p2), .val (.int p3), .val (.ref b1), .val (.int (Nat.toInt32 sN)), .val (.int (Nat.toInt32 eN)), .val (.int (Nat.toInt32 EN)), .val (.int (Nat.toInt32 mK)), .val (.int (Nat.toInt32 (own_sk [x0, x1, x2, x3, x4] (EN - sN) sN))), .val (.int (Nat.toInt32 EN)), .val (.ref b97), .val (.ref b101)] [(.ref b97), (.int (Nat.toInt32 EN)), (.int (Nat.toInt32 mK)), (.ref b101)])) rfl (by rw [hml]; rfl) (argsL := [(.ref b101), (.int (Nat.toInt32 mK)), (.int (Nat.toInt32 EN)), (.ref b97)]) (rest := []) (lenOf pd_8 rfl) rfl (by show 2 * 0 + _ ≤ _; exact Nat.le_of_eq rfl) (hb hby at_314) (fun _ _ => ⟨rfl, e126, (by decide : 3 + 0 ≤ _), (by decide : 13 + 0 ≤ _)⟩)
        dsimp only [Pt.U, Pt.locs, Pt.cells, Pt.slots] at X135 l135 y135 z135 st135 hQ135
        subst l135 y135 z135
        obtain ⟨h135, e135⟩ : ∃ h, T135.heap = h := ⟨_, rfl⟩
        rw [e135] at hQ135
        obtain ⟨rfl, N135q, Kq135, F137, F138, F139, F140, F141, F142, F143⟩ := hQ135
        have Z135 : n0 ≤ h135.size := Nat.le_trans Z126 Kq135.1
        have N135 := Fr.app N126 N135q
        refine own_via st135 ?_
        show own_Go p e below s _ _ _ (T135.setTop (mkF m 317 #[.val (.int p0), .val (.long p1), .second, .val (.int p2), .val (.int p3), .val (.ref b1), .val (.int (Nat.toInt32 sN)), .val (.int (Nat.toInt32 eN)), .val (.int (Nat.toInt32 EN)), .val (.int (Nat.toInt32 mK)), .val (.int (Nat.toInt32 (own_sk [x0, x1, x2, x3, x4] (EN - sN) sN))), .val (.int (Nat.toInt32 EN)), .val (.ref b97), .val (.ref b101)] [(.int (1 : Int32))]))
        refine own_via (fun _ k => XS.ifNo X135.here hx rfl (hb hby at_317) rfl (Jvm.Free.XT.i0_eq_f (by decide)) k) ?_
        show own_Go p e below s _ _ _ (T135.setTop (mkF m 320 #[.val (.int p0), .val (.long p1), .second, .val (.int p2), .val (.int p3), .val (.ref b1), .val (.int (Nat.toInt32 sN)), .val (.int (Nat.toInt32 eN)), .val (.int (Nat.toInt32 EN)), .val (.int (Nat.toInt32 mK)), .val (.int (Nat.toInt32 (own_sk [x0, x1, x2, x3, x4] (EN - sN) sN))), .val (.int (Nat.toInt32 EN)), .val (.ref b97), .val (.ref b101)] []))
        refine own_via (fun _ k => XS.iconst X135.here hx rfl (hb hby at_320) k) ?_
        show own_Go p e below s _ _ _ (T135.setTop (mkF m 321 #[.val (.int p0), .val (.long p1), .second, .val (.int p2), .val (.int p3), .val (.ref b1), .val (.int (Nat.toInt32 sN)), .val (.int (Nat.toInt32 eN)), .val (.int (Nat.toInt32 EN)), .val (.int (Nat.toInt32 mK)), .val (.int (Nat.toInt32 (own_sk [x0, x1, x2, x3, x4] (EN - sN) sN))), .val (.int (Nat.toInt32 EN)), .val (.ref b97), .val (.ref b101)] [(.int (1 : Int32))]))
        refine own_via (fun _ k => XS.goto X135.here hx rfl (pc0 := 321) (pc' := 325) rfl (hb hby at_321) (by decide) (by decide) k) ?_
        show own_Go p e below s _ _ _ (T135.setTop (mkF m 325 #[.val (.int p0), .val (.long p1), .second, .val (.int p2), .val (.int p3), .val (.ref b1), .val (.int (Nat.toInt32 sN)), .val (.int (Nat.toInt32 eN)), .val (.int (Nat.toInt32 EN)), .val (.int (Nat.toInt32 mK)), .val (.int (Nat.toInt32 (own_sk [x0, x1, x2, x3, x4] (EN - sN) sN))), .val (.int (Nat.toInt32 EN)), .val (.ref b97), .val (.ref b101)] [(.int (1 : Int32))]))
        exact own_goN X135 hx (t := .boolean) Bd.returns (by simp) (hb hby at_325) Bd.notSynchronized (by decide) (by decide) (by rw [e135]; exact ⟨rfl, N135⟩)
      · refine own_via (fun _ k => XS.icmpYes X43.here hx rfl (pc0 := 223) (pc' := 231) rfl (hb hby at_223) rfl (Jvm.Free.XT.ii_ne_t hc95) (by decide) (by decide) k) ?_
        show own_Go p e below s _ _ _ (T43.setTop (mkF m 231 #[.val (.int p0), .val (.long p1), .second, .val (.int p2), .val (.int p3), .val (.ref b1), .val (.int (Nat.toInt32 sN)), .val (.int (Nat.toInt32 eN)), .val (.int (Nat.toInt32 EN)), .val (.int (Nat.toInt32 mK)), .val (.int (Nat.toInt32 (own_sk [x0, x1, x2, x3, x4] (EN - sN) sN))), .unset, .unset, .unset] []))
        refine own_via (fun _ k => XS.iload X43.here hx rfl (hb hby at_231) rfl k) ?_
        show own_Go p e below s _ _ _ (T43.setTop (mkF m 233 #[.val (.int p0), .val (.long p1), .second, .val (.int p2), .val (.int p3), .val (.ref b1), .val (.int (Nat.toInt32 sN)), .val (.int (Nat.toInt32 eN)), .val (.int (Nat.toInt32 EN)), .val (.int (Nat.toInt32 mK)), .val (.int (Nat.toInt32 (own_sk [x0, x1, x2, x3, x4] (EN - sN) sN))), .unset, .unset, .unset] [(.int (Nat.toInt32 sN))]))
        refine own_via (fun _ k => XS.istore X43.here hx rfl (hb hby at_233) rfl (l' := #[.val (.int p0), .val (.long p1), .second, .val (.int p2), .val (.int p3), .val (.ref b1), .val (.int (Nat.toInt32 sN)), .val (.int (Nat.toInt32 eN)), .val (.int (Nat.toInt32 EN)), .val (.int (Nat.toInt32 mK)), .val (.int (Nat.toInt32 (own_sk [x0, x1, x2, x3, x4] (EN - sN) sN))), .val (.int (Nat.toInt32 sN)), .unset, .unset]) rfl k) ?_
        show own_Go p e below s _ _ _ (T43.setTop (mkF m 235 #[.val (.int p0), .val (.long p1), .second, .val (.int p2), .val (.int p3), .val (.ref b1), .val (.int (Nat.toInt32 sN)), .val (.int (Nat.toInt32 eN)), .val (.int (Nat.toInt32 EN)), .val (.int (Nat.toInt32 mK)), .val (.int (Nat.toInt32 (own_sk [x0, x1, x2, x3, x4] (EN - sN) sN))), .val (.int (Nat.toInt32 sN)), .unset, .unset] []))
        generalize hv144 : (Nat.toInt32 sN) = v144
        show own_Go p e below s _ _ _ (T43.setTop (mkF m 235 #[.val (.int p0), .val (.long p1), .second, .val (.int p2), .val (.int p3), .val (.ref b1), .val (.int v144), .val (.int (Nat.toInt32 eN)), .val (.int (Nat.toInt32 EN)), .val (.int (Nat.toInt32 mK)), .val (.int (Nat.toInt32 (own_sk [x0, x1, x2, x3, x4] (EN - sN) sN))), .val (.int v144), .unset, .unset] []))
        subst hv144
        show own_Go p e below s _ _ _ (T43.setTop (mkF m 235 #[.val (.int p0), .val (.long p1), .second, .val (.int p2), .val (.int p3), .val (.ref b1), .val (.int (Nat.toInt32 sN)), .val (.int (Nat.toInt32 eN)), .val (.int (Nat.toInt32 EN)), .val (.int (Nat.toInt32 mK)), .val (.int (Nat.toInt32 (own_sk [x0, x1, x2, x3, x4] (EN - sN) sN))), .val (.int (Nat.toInt32 sN)), .unset, .unset] []))
        refine own_via (fun _ k => XS.iconst X43.here hx rfl (hb hby at_235) k) ?_
        show own_Go p e below s _ _ _ (T43.setTop (mkF m 236 #[.val (.int p0), .val (.long p1), .second, .val (.int p2), .val (.int p3), .val (.ref b1), .val (.int (Nat.toInt32 sN)), .val (.int (Nat.toInt32 eN)), .val (.int (Nat.toInt32 EN)), .val (.int (Nat.toInt32 mK)), .val (.int (Nat.toInt32 (own_sk [x0, x1, x2, x3, x4] (EN - sN) sN))), .val (.int (Nat.toInt32 sN)), .unset, .unset] [(.int (3 : Int32))]))
        obtain ⟨T145, h145, k145, X145, e145, E145, A145, st145⟩ := newP X43 hx hZ (hw _ (List.mem_of_getElem? (i := 15) rfl)) e43 (g := (mkF m 236 #[.val (.int p0), .val (.long p1), .second, .val (.int p2), .val (.int p3), .val (.ref b1), .val (.int (Nat.toInt32 sN)), .val (.int (Nat.toInt32 eN)), .val (.int (Nat.toInt32 EN)), .val (.int (Nat.toInt32 mK)), .val (.int (Nat.toInt32 (own_sk [x0, x1, x2, x3, x4] (EN - sN) sN))), .val (.int (Nat.toInt32 sN)), .unset, .unset] [(.int (3 : Int32))])) rfl (hb hby at_236) rfl (by decide) (cap := 3) (by decide) (by decide) (by decide) (by decide)
        obtain ⟨b145, gg145⟩ : ∃ z, z = h15.size := ⟨_, rfl⟩
        rw [← gg145] at A145 st145
        have ne_b1_b145 : b1 ≠ b145 := Nat.ne_of_lt (Nat.lt_of_lt_of_le F16.lt (Nat.le_of_eq gg145.symm))
        have g_b145 : n0 ≤ b145 := Nat.le_trans Z15 (Nat.le_of_eq gg145.symm)
        have Z145 : n0 ≤ h145.size := Nat.le_trans Z15 E145.1
        have V145 : Arv Z h145 b145 k145 .int (3 : Int32) [(.int (0 : Int32)), (.int (0 : Int32)), (.int (0 : Int32))] (.int (0 : Int32)) := (Arv.new A145 (by decide)).pad (pad_rep [] (.int (0 : Int32)) 3)
        refine own_via st145 ?_
        show own_Go p e below s _ _ _ (T145.setTop (mkF m 238 #[.val (.int p0), .val (.long p1), .second, .val (.int p2), .val (.int p3), .val (.ref b1), .val (.int (Nat.toInt32 sN)), .val (.int (Nat.toInt32 eN)), .val (.int (Nat.toInt32 EN)), .val (.int (Nat.toInt32 mK)), .val (.int (Nat.toInt32 (own_sk [x0, x1, x2, x3, x4] (EN - sN) sN))), .val (.int (Nat.toInt32 sN)), .unset, .unset] [(.ref b145)]))
        refine own_via (fun _ k => XS.astore X145.here hx rfl (hb hby at_238) rfl rfl (l' := #[.val (.int p0), .val (.long p1), .second, .val (.int p2), .val (.int p3), .val (.ref b1), .val (.int (Nat.toInt32 sN)), .val (.int (Nat.toInt32 eN)), .val (.int (Nat.toInt32 EN)), .val (.int (Nat.toInt32 mK)), .val (.int (Nat.toInt32 (own_sk [x0, x1, x2, x3, x4] (EN - sN) sN))), .val (.int (Nat.toInt32 sN)), .val (.ref b145), .unset]) rfl k) ?_
        show own_Go p e below s _ _ _ (T145.setTop (mkF m 240 #[.val (.int p0), .val (.long p1), .second, .val (.int p2), .val (.int p3), .val (.ref b1), .val (.int (Nat.toInt32 sN)), .val (.int (Nat.toInt32 eN)), .val (.int (Nat.toInt32 EN)), .val (.int (Nat.toInt32 mK)), .val (.int (Nat.toInt32 (own_sk [x0, x1, x2, x3, x4] (EN - sN) sN))), .val (.int (Nat.toInt32 sN)), .val (.ref b145), .unset] []))
        refine own_via (fun _ k => XS.aload X145.here hx rfl (hb hby at_240) rfl rfl k) ?_
        show own_Go p e below s _ _ _ (T145.setTop (mkF m 242 #[.val (.int p0), .val (.long p1), .second, .val (.int p2), .val (.int p3), .val (.ref b1), .val (.int (Nat.toInt32 sN)), .val (.int (Nat.toInt32 eN)), .val (.int (Nat.toInt32 EN)), .val (.int (Nat.toInt32 mK)), .val (.int (Nat.toInt32 (own_sk [x0, x1, x2, x3, x4] (EN - sN) sN))), .val (.int (Nat.toInt32 sN)), .val (.ref b145), .unset] [(.ref b145)]))
        refine own_via (fun _ k => XS.iconst X145.here hx rfl (hb hby at_242) k) ?_
        show own_Go p e below s _ _ _ (T145.setTop (mkF m 243 #[.val (.int p0), .val (.long p1), .second, .val (.int p2), .val (.int p3), .val (.ref b1), .val (.int (Nat.toInt32 sN)), .val (.int (Nat.toInt32 eN)), .val (.int (Nat.toInt32 EN)), .val (.int (Nat.toInt32 mK)), .val (.int (Nat.toInt32 (own_sk [x0, x1, x2, x3, x4] (EN - sN) sN))), .val (.int (Nat.toInt32 sN)), .val (.ref b145), .unset] [(.int (0 : Int32)), (.ref b145)]))
        refine own_via (fun _ k => XS.iload X145.here hx rfl (hb hby at_243) rfl k) ?_
        show own_Go p e below s _ _ _ (T145.setTop (mkF m 245 #[.val (.int p0), .val (.long p1), .second, .val (.int p2), .val (.int p3), .val (.ref b1), .val (.int (Nat.toInt32 sN)), .val (.int (Nat.toInt32 eN)), .val (.int (Nat.toInt32 EN)), .val (.int (Nat.toInt32 mK)), .val (.int (Nat.toInt32 (own_sk [x0, x1, x2, x3, x4] (EN - sN) sN))), .val (.int (Nat.toInt32 sN)), .val (.ref b145), .unset] [(.int (Nat.toInt32 sN)), (.int (0 : Int32)), (.ref b145)]))
        obtain ⟨cl146, Ar146, q146, S146, M146, H146, G146⟩ := (id V145)
        have hin146 : ¬ ((0 : Int32) < 0 ∨ cl146.slots.size ≤ ((0 : Int32)).toNatClampNeg) := inb_of S146 ⟨by decide, by decide⟩
        obtain ⟨T146, h146, X146, e146, W146, st146⟩ := stI X145 hx hZ e145 Ar146 (j := (0 : Int32)) hin146 (g := (mkF m 245 #[.val (.int p0), .val (.long p1), .second, .val (.int p2), .val (.int p3), .val (.ref b1), .val (.int (Nat.toInt32 sN)), .val (.int (Nat.toInt32 eN)), .val (.int (Nat.toInt32 EN)), .val (.int (Nat.toInt32 mK)), .val (.int (Nat.toInt32 (own_sk [x0, x1, x2, x3, x4] (EN - sN) sN))), .val (.int (Nat.toInt32 sN)), .val (.ref b145), .unset] [(.int (Nat.toInt32 sN)), (.int (0 : Int32)), (.ref b145)])) rfl rfl (hb hby at_245)
        have V146 : Arv Z h146 b145 k145 .int (3 : Int32) [(.int (Nat.toInt32 sN)), (.int (0 : Int32)), (.int (0 : Int32))] (.int (0 : Int32)) := Arv.set Ar146 q146 S146 M146 H146 G146 rfl W146 0 rfl (Nat.le_of_ble_eq_true rfl)
        have N146 := Fr.snoc X146 N43 g_b145
        have Z146 : n0 ≤ h146.size := Nat.le_trans Z145 (Keep.of_wr W146).1
        refine own_via st146 ?_
        show own_Go p e below s _ _ _ (T146.setTop (mkF m 246 #[.val (.int p0), .val (.long p1), .second, .val (.int p2), .val (.int p3), .val (.ref b1), .val (.int (Nat.toInt32 sN)), .val (.int (Nat.toInt32 eN)), .val (.int (Nat.toInt32 EN)), .val (.int (Nat.toInt32 mK)), .val (.int (Nat.toInt32 (own_sk [x0, x1, x2, x3, x4] (EN - sN) sN))), .val (.int (Nat.toInt32 sN)), .val (.ref b145), .unset] []))
        refine own_via (fun _ k => XS.aload X146.here hx rfl (hb hby at_246) rfl rfl k) ?_
        show own_Go p e below s _ _ _ (T146.setTop (mkF m 248 #[.val (.int p0), .val (.long p1), .second, .val (.int p2), .val (.int p3), .val (.ref b1), .val (.int (Nat.toInt32 sN)), .val (.int (Nat.toInt32 eN)), .val (.int (Nat.toInt32 EN)), .val (.int (Nat.toInt32 mK)), .val (.int (Nat.toInt32 (own_sk [x0, x1, x2, x3, x4] (EN - sN) sN))), .val (.int (Nat.toInt32 sN)), .val (.ref b145), .unset] [(.ref b145)]))
        refine own_via (fun _ k => XS.iconst X146.here hx rfl (hb hby at_248) k) ?_
        show own_Go p e below s _ _ _ (T146.setTop (mkF m 249 #[.val (.int p0), .val (.long p1), .second, .val (.int p2), .val (.int p3), .val (.ref b1), .val (.int (Nat.toInt32 sN)), .val (.int (Nat.toInt32 eN)), .val (.int (Nat.toInt32 EN)), .val (.int (Nat.toInt32 mK)), .val (.int (Nat.toInt32 (own_sk [x0, x1, x2, x3, x4] (EN - sN) sN))), .val (.int (Nat.toInt32 sN)), .val (.ref b145), .unset] [(.int (1 : Int32)), (.ref b145)]))
        refine own_via (fun _ k => XS.iload X146.here hx rfl (hb hby at_249) rfl k) ?_
        show own_Go p e below s _ _ _ (T146.setTop (mkF m 251 #[.val (.int p0), .val (.long p1), .second, .val (.int p2), .val (.int p3), .val (.ref b1), .val (.int (Nat.toInt32 sN)), .val (.int (Nat.toInt32 eN)), .val (.int (Nat.toInt32 EN)), .val (.int (Nat.toInt32 mK)), .val (.int (Nat.toInt32 (own_sk [x0, x1, x2, x3, x4] (EN - sN) sN))), .val (.int (Nat.toInt32 sN)), .val (.ref b145), .unset] [(.int (Nat.toInt32 sN)), (.int (1 : Int32)), (.ref b145)]))
        obtain ⟨cl147, Ar147, q147, S147, M147, H147, G147⟩ := (id V146)
        have hin147 : ¬ ((1 : Int32) < 0 ∨ cl147.slots.size ≤ ((1 : Int32)).toNatClampNeg) := inb_of S147 ⟨by decide, by decide⟩
        obtain ⟨T147, h147, X147, e147, W147, st147⟩ := stI X146 hx hZ e146 Ar147 (j := (1 : Int32)) hin147 (g := (mkF m 251 #[.val (.int p0), .val (.long p1), .second, .val (.int p2), .val (.int p3), .val (.ref b1), .val (.int (Nat.toInt32 sN)), .val (.int (Nat.toInt32 eN)), .val (.int (Nat.toInt32 EN)), .val (.int (Nat.toInt32 mK)), .val (.int (Nat.toInt32 (own_sk [x0, x1, x2, x3, x4] (EN - sN) sN))), .val (.int (Nat.toInt32 sN)), .val (.ref b145), .unset] [(.int (Nat.toInt32 sN)), (.int (1 : Int32)), (.ref b145)])) rfl rfl (hb hby at_251)
        have V147 : Arv Z h147 b145 k145 .int (3 : Int32) [(.int (Nat.toInt32 sN)), (.int (Nat.toInt32 sN)), (.int (0 : Int32))] (.int (0 : Int32)) := Arv.set Ar147 q147 S147 M147 H147 G147 rfl W147 1 rfl (Nat.le_of_ble_eq_true rfl)
        have N147 := Fr.snoc X147 N146 g_b145
        have Z147 : n0 ≤ h147.size := Nat.le_trans Z146 (Keep.of_wr W147).1
        refine own_via st147 ?_
        show own_Go p e below s _ _ _ (T147.setTop (mkF m 252 #[.val (.int p0), .val (.long p1), .second, .val (.int p2), .val (.int p3), .val (.ref b1), .val (.int (Nat.toInt32 sN)), .val (.int (Nat.toInt32 eN)), .val (.int (Nat.toInt32 EN)), .val (.int (Nat.toInt32 mK)), .val (.int (Nat.toInt32 (own_sk [x0, x1, x2, x3, x4] (EN - sN) sN))), .val (.int (Nat.toInt32 sN)), .val (.ref b145), .unset] []))
        refine own_via (fun _ k => XS.aload X147.here hx rfl (hb hby at_252) rfl rfl k) ?_
        show own_Go p e below s _ _ _ (T147.setTop (mkF m 254 #[.val (.int p0), .val (.long p1), .second, .val (.int p2), .val (.int p3), .val (.ref b1), .val (.int (Nat.toInt32 sN)), .val (.int (Nat.toInt32 eN)), .val (.int (Nat.toInt32 EN)), .val (.int (Nat.toInt32 mK)), .val (.int (Nat.toInt32 (own_sk [x0, x1, x2, x3, x4] (EN - sN) sN))), .val (.int (Nat.toInt32 sN)), .val (.ref b145), .unset] [(.ref b145)]))
        refine own_via (fun _ k => XS.iconst X147.here hx rfl (hb hby at_254) k) ?_
        show own_Go p e below s _ _ _ (T147.setTop (mkF m 255 #[.val (.int p0), .val (.long p1), .second, .val (.int p2), .val (.int p3), .val (.ref b1), .val (.int (Nat.toInt32 sN)), .val (.int (Nat.toInt32 eN)), .val (.int (Nat.toInt32 EN)), .val (.int (Nat.toInt32 mK)), .val (.int (Nat.toInt32 (own_sk [x0, x1, x2, x3, x4] (EN - sN) sN))), .val (.int (Nat.toInt32 sN)), .val (.ref b145), .unset] [(.int (2 : Int32)), (.ref b145)]))
        refine own_via (fun _ k => XS.iload X147.here hx rfl (hb hby at_255) rfl k) ?_
        show own_Go p e below s _ _ _ (T147.setTop (mkF m 257 #[.val (.int p0), .val (.long p1), .second, .val (.int p2), .val (.int p3), .val (.ref b1), .val (.int (Nat.toInt32 sN)), .val (.int (Nat.toInt32 eN)), .val (.int (Nat.toInt32 EN)), .val (.int (Nat.toInt32 mK)), .val (.int (Nat.toInt32 (own_sk [x0, x1, x2, x3, x4] (EN - sN) sN))), .val (.int (Nat.toInt32 sN)), .val (.ref b145), .unset] [(.int (Nat.toInt32 sN)), (.int (2 : Int32)), (.ref b145)]))
        obtain ⟨cl148, Ar148, q148, S148, M148, H148, G148⟩ := (id V147)
        have hin148 : ¬ ((2 : Int32) < 0 ∨ cl148.slots.size ≤ ((2 : Int32)).toNatClampNeg) := inb_of S148 ⟨by decide, by decide⟩
        obtain ⟨T148, h148, X148, e148, W148, st148⟩ := stI X147 hx hZ e147 Ar148 (j := (2 : Int32)) hin148 (g := (mkF m 257 #[.val (.int p0), .val (.long p1), .second, .val (.int p2), .val (.int p3), .val (.ref b1), .val (.int (Nat.toInt32 sN)), .val (.int (Nat.toInt32 eN)), .val (.int (Nat.toInt32 EN)), .val (.int (Nat.toInt32 mK)), .val (.int (Nat.toInt32 (own_sk [x0, x1, x2, x3, x4] (EN - sN) sN))), .val (.int (Nat.toInt32 sN)), .val (.ref b145), .unset] [(.int (Nat.toInt32 sN)), (.int (2 : Int32)), (.ref b145)])) rfl rfl (hb hby at_257)
        have V148 : Arv Z h148 b145 k145 .int (3 : Int32) [(.int (Nat.toInt32 sN)), (.int (Nat.toInt32 sN)), (.int (Nat.toInt32 sN))] (.int (0 : Int32)) := Arv.set Ar148 q148 S148 M148 H148 G148 rfl W148 2 rfl (Nat.le_of_ble_eq_true rfl)
        have N148 := Fr.snoc X148 N147 g_b145
        have Z148 : n0 ≤ h148.size := Nat.le_trans Z147 (Keep.of_wr W148).1
        refine own_via st148 ?_
        show own_Go p e below s _ _ _ (T148.setTop (mkF m 258 #[.val (.int p0), .val (.long p1), .second, .val (.int p2), .val (.int p3), .val (.ref b1), .val (.int (Nat.toInt32 sN)), .val (.int (Nat.toInt32 eN)), .val (.int (Nat.toInt32 EN)), .val (.int (Nat.toInt32 mK)), .val (.int (Nat.toInt32 (own_sk [x0, x1, x2, x3, x4] (EN - sN) sN))), .val (.int (Nat.toInt32 sN)), .val (.ref b145), .unset] []))
        obtain ⟨T149, h149, X149, e149, E149, A149, D149, -, st149⟩ := newO X148 hx hZ hown (hw _ (List.mem_of_getElem? (i := 16) rfl)) (hw _ (List.mem_of_getElem? (i := 17) rfl)) (hw _ (List.mem_of_getElem? (i := 18) rfl)) e148 (g := (mkF m 258 #[.val (.int p0), .val (.long p1), .second, .val (.int p2), .val (.int p3), .val (.ref b1), .val (.int (Nat.toInt32 sN)), .val (.int (Nat.toInt32 eN)), .val (.int (Nat.toInt32 EN)), .val (.int (Nat.toInt32 mK)), .val (.int (Nat.toInt32 (own_sk [x0, x1, x2, x3, x4] (EN - sN) sN))), .val (.int (Nat.toInt32 sN)), .val (.ref b145), .unset] [])) rfl (hb hby at_258) (by decide) (by decide)
        obtain ⟨b149, gg149⟩ : ∃ z, z = h148.size := ⟨_, rfl⟩
        rw [← gg149] at A149 D149 st149
        have ne_b1_b149 : b1 ≠ b149 := Nat.ne_of_lt (Nat.lt_of_lt_of_le ((((F16.ext E145).other W146 ne_b1_b145).other W147 ne_b1_b145).other W148 ne_b1_b145).lt (Nat.le_of_eq gg149.symm))
        have ne_b145_b149 : b145 ≠ b149 := Nat.ne_of_lt (Nat.lt_of_lt_of_le V148.lt (Nat.le_of_eq gg149.symm))
        have g_b149 : n0 ≤ b149 := Nat.le_trans Z148 (Nat.le_of_eq gg149.symm)
        have Z149 : n0 ≤ h149.size := Nat.le_trans Z148 E149.1
        have F150 : Fld Z h149 b149 "com/example/enlace/enlace/graph/LineFields" "bytes" "[B" .null := D149 (Or.inl (hw _ (List.mem_of_getElem? (i := 31) rfl))) (ty := (.array .byte)) (by decide)
        have F151 : Fld Z h149 b149 "com/example/enlace/enlace/graph/LineFields" "end" "I" (.int (0 : Int32)) := D149 (Or.inl (hw _ (List.mem_of_getElem? (i := 33) rfl))) (ty := .int) (by decide)
        have F152 : Fld Z h149 b149 "com/example/enlace/enlace/graph/LineFields" "position" "I" (.int (0 : Int32)) := D149 (Or.inl (hw _ (List.mem_of_getElem? (i := 39) rfl))) (ty := .int) (by decide)
        have F153 : Fld Z h149 b149 "com/example/enlace/enlace/graph/LineFields" "fieldStart" "I" (.int (0 : Int32)) := D149 (Or.inl (hw _ (List.mem_of_getElem? (i := 41) rfl))) (ty := .int) (by decide)
        have F154 : Fld Z h149 b149 "com/example/enlace/enlace/graph/LineFields" "fieldEnd" "I" (.int (0 : Int32)) := D149 (Or.inl (hw _ (List.mem_of_getElem? (i := 43) rfl))) (ty := .int) (by decide)
        refine own_via st149 ?_
        show own_Go p e below s _ _ _ (T149.setTop (mkF m 261 #[.val (.int p0), .val (.long p1), .second, .val (.int p2), .val (.int p3), .val (.ref b1), .val (.int (Nat.toInt32 sN)), .val (.int (Nat.toInt32 eN)), .val (.int (Nat.toInt32 EN)), .val (.int (Nat.toInt32 mK)), .val (.int (Nat.toInt32 (own_sk [x0, x1, x2, x3, x4] (EN - sN) sN))), .val (.int (Nat.toInt32 sN)), .val (.ref b145), .unset] [(.ref b149)]))
        refine own_via (fun _ k => XS.dup X149.here hx rfl (hb hby at_261) rfl rfl k) ?_
        show own_Go p e below s _ _ _ (T149.setTop (mkF m 262 #[.val (.int p0), .val (.long p1), .second, .val (.int p2), .val (.int p3), .val (.ref b1), .val (.int (Nat.toInt32 sN)), .val (.int (Nat.toInt32 eN)), .val (.int (Nat.toInt32 EN)), .val (.int (Nat.toInt32 mK)), .val (.int (Nat.toInt32 (own_sk [x0, x1, x2, x3, x4] (EN - sN) sN))), .val (.int (Nat.toInt32 sN)), .val (.ref b145), .unset] [(.ref b149), (.ref b149)]))
        obtain ⟨_, _, ⟨T155, L155, k155, n155⟩, -, X155, ⟨Lc155, hQ155, l155, y155, z155⟩, st155⟩ := X149.specialBack hx (y := (⟨"com/example/enlace/enlace/graph/LineFields", "<init>", "()V"⟩ : MethodName)) rfl hown (mvT hZ (hw _ (List.mem_of_getElem? (i := 19) rfl))) (mvT hZ (hw _ (List.mem_of_getElem? (i := 20) rfl))) (mvT hZ (hw _ (List.mem_of_getElem? (i := 21) rfl))) (by decide) (backOf (W := 1) (rm5 l Z a0 hw [] b149 h149 n0 Z149 ) hZ (hw _ (List.mem_of_getElem? (i := 21) rfl)) (hw _ (List.mem_of_getElem? (i := 18) rfl)) (by decide) (by decide)) (g := (mkF m 262 #[.val (.int p0), .val (.long p1), .second, .val (.int p2), .val (.int p3), .val (.ref b1), .val (.int (Nat.toInt32 sN)), .val (.int (Nat.toInt32 eN)), .val (.int (Nat.toInt32 EN)), .val (.int (Nat.toInt32 mK)), .val (.int (Nat.toInt32 (own_sk [x0, x1, x2, x3, x4] (EN - sN) sN))), .val (.int (Nat.toInt32 sN)), .val (.ref b145), .unset] [(.ref b149), (.ref b149)])) rfl (by rw [hml]; rfl) (Steps.refl _) (a := b149) (argsL := []) (rest := [(.ref b149)]) (lenOf pd_6 rfl) rfl (by show 2 * 0 + _ ≤ _; exact Nat.le_of_eq rfl) (hb hby at_262) (fun _ _ => ⟨rfl, e149, (by decide : 3 + 0 ≤ _), (by decide : 13 + 0 ≤ _)⟩)
        dsimp only [Pt.U, Pt.locs, Pt.cells, Pt.slots] at X155 l155 y155 z155 st155 hQ155
        subst l155 y155 z155
        obtain ⟨rfl, N155q, e155⟩ := hQ155
        have N155 := Fr.app N148 N155q
        refine own_viaT st155 ?_
        show own_Go p e below s _ _ _ (T155.setTop (mkF m 265 #[.val (.int p0), .val (.long p1), .second, .val (.int p2), .val (.int p3), .val (.ref b1), .val (.int (Nat.toInt32 sN)), .val (.int (Nat.toInt32 eN)), .val (.int (Nat.toInt32 EN)), .val (.int (Nat.toInt32 mK)), .val (.int (Nat.toInt32 (own_sk [x0, x1, x2, x3, x4] (EN - sN) sN))), .val (.int (Nat.toInt32 sN)), .val (.ref b145), .unset] [(.ref b149)]))
        refine own_via (fun _ k => XS.astore X155.here hx rfl (hb hby at_265) rfl rfl (l' := #[.val (.int p0), .val (.long p1), .second, .val (.int p2), .val (.int p3), .val (.ref b1), .val (.int (Nat.toInt32 sN)), .val (.int (Nat.toInt32 eN)), .val (.int (Nat.toInt32 EN)), .val (.int (Nat.toInt32 mK)), .val (.int (Nat.toInt32 (own_sk [x0, x1, x2, x3, x4] (EN - sN) sN))), .val (.int (Nat.toInt32 sN)), .val (.ref b145), .val (.ref b149)]) rfl k) ?_
        show own_Go p e below s _ _ _ (T155.setTop (mkF m 267 #[.val (.int p0), .val (.long p1), .second, .val (.int p2), .val (.int p3), .val (.ref b1), .val (.int (Nat.toInt32 sN)), .val (.int (Nat.toInt32 eN)), .val (.int (Nat.toInt32 EN)), .val (.int (Nat.toInt32 mK)), .val (.int (Nat.toInt32 (own_sk [x0, x1, x2, x3, x4] (EN - sN) sN))), .val (.int (Nat.toInt32 sN)), .val (.ref b145), .val (.ref b149)] []))
        refine own_via (fun _ k => XS.aload X155.here hx rfl (hb hby at_267) rfl rfl k) ?_
        show own_Go p e below s _ _ _ (T155.setTop (mkF m 269 #[.val (.int p0), .val (.long p1), .second, .val (.int p2), .val (.int p3), .val (.ref b1), .val (.int (Nat.toInt32 sN)), .val (.int (Nat.toInt32 eN)), .val (.int (Nat.toInt32 EN)), .val (.int (Nat.toInt32 mK)), .val (.int (Nat.toInt32 (own_sk [x0, x1, x2, x3, x4] (EN - sN) sN))), .val (.int (Nat.toInt32 sN)), .val (.ref b145), .val (.ref b149)] [(.ref b149)]))
        refine own_via (fun _ k => XS.aload X155.here hx rfl (hb hby at_269) rfl rfl k) ?_
        show own_Go p e below s _ _ _ (T155.setTop (mkF m 271 #[.val (.int p0), .val (.long p1), .second, .val (.int p2), .val (.int p3), .val (.ref b1), .val (.int (Nat.toInt32 sN)), .val (.int (Nat.toInt32 eN)), .val (.int (Nat.toInt32 EN)), .val (.int (Nat.toInt32 mK)), .val (.int (Nat.toInt32 (own_sk [x0, x1, x2, x3, x4] (EN - sN) sN))), .val (.int (Nat.toInt32 sN)), .val (.ref b145), .val (.ref b149)] [(.ref b1), (.ref b149)]))
        refine own_via (fun _ k => XS.iload X155.here hx rfl (hb hby at_271) rfl k) ?_
        show own_Go p e below s _ _ _ (T155.setTop (mkF m 273 #[.val (.int p0), .val (.long p1), .second, .val (.int p2), .val (.int p3), .val (.ref b1), .val (.int (Nat.toInt32 sN)), .val (.int (Nat.toInt32 eN)), .val (.int (Nat.toInt32 EN)), .val (.int (Nat.toInt32 mK)), .val (.int (Nat.toInt32 (own_sk [x0, x1, x2, x3, x4] (EN - sN) sN))), .val (.int (Nat.toInt32 sN)), .val (.ref b145), .val (.ref b149)] [(.int (Nat.toInt32 sN)), (.ref b1), (.ref b149)]))
        refine own_via (fun _ k => XS.iload X155.here hx rfl (hb hby at_273) rfl k) ?_
        show own_Go p e below s _ _ _ (T155.setTop (mkF m 275 #[.val (.int p0), .val (.long p1), .second, .val (.int p2), .val (.int p3), .val (.ref b1), .val (.int (Nat.toInt32 sN)), .val (.int (Nat.toInt32 eN)), .val (.int (Nat.toInt32 EN)), .val (.int (Nat.toInt32 mK)), .val (.int (Nat.toInt32 (own_sk [x0, x1, x2, x3, x4] (EN - sN) sN))), .val (.int (Nat.toInt32 sN)), .val (.ref b145), .val (.ref b149)] [(.int (Nat.toInt32 eN)), (.int (Nat.toInt32 sN)), (.ref b1), (.ref b149)]))
        have F157 := (((((F16.ext E145).other W146 ne_b1_b145).other W147 ne_b1_b145).other W148 ne_b1_b145).ext E149)
        obtain ⟨cq156, kq156, qa156, qb156, qc156⟩ := isOf hZ e155 A149
        obtain ⟨_, _, ⟨T156, L156, k156, n156⟩, -, X156, ⟨Lc156, hQ156, l156, y156, z156⟩, st156⟩ := X155.virtualBack hx (y := (⟨"com/example/enlace/enlace/graph/LineFields", "reset", "([BII)V"⟩ : MethodName)) (z := (⟨"com/example/enlace/enlace/graph/LineFields", "reset", "([BII)V"⟩ : MethodName)) hown (mvT hZ (hw _ (List.mem_of_getElem? (i := 25) rfl))) (mvT hZ (hw _ (List.mem_of_getElem? (i := 26) rfl))) (notFace_of_selects (args := #[]) (mvT hZ (hw _ (List.mem_of_getElem? (i := 28) rfl)))) (mvT hZ (hw _ (List.mem_of_getElem? (i := 28) rfl))) (mvT hZ (hw _ (List.mem_of_getElem? (i := 27) rfl))) (by decide) (backOf (W := 0) (rm7 l Z a0 hw [] b149 b1 (Nat.toInt32 sN) (Nat.toInt32 eN) .null (0 : Int32) (0 : Int32) (0 : Int32) (0 : Int32) k1 (5 : Int32) [x0, x1, x2, x3, x4] sN eN h149 n0 Z149 A149 F150 F151 F152 F153 F154 F157 g_b149 ne_b1_b149 rfl rfl he1 (by omega) (by show (eN : Int) ≤ 5; omega)) hZ (hw _ (List.mem_of_getElem? (i := 29) rfl)) (hw _ (List.mem_of_getElem? (i := 18) rfl)) (by decide) (by decide)) qa156 qc156 (g := (mkF m 275 #[.val (.int p0), .val (.long p1), .second, .val (.int p2), .val (.int p3), .val (.ref b1), .val (.int (Nat.toInt32 sN)), .val (.int (Nat.toInt32 eN)), .val (.int (Nat.toInt32 EN)), .val (.int (Nat.toInt32 mK)), .val (.int (Nat.toInt32 (own_sk [x0, x1, x2, x3, x4] (EN - sN) sN))), .val (.int (Nat.toInt32 sN)), .val (.ref b145), .val (.ref b149)] [(.int (Nat.toInt32 eN)), (.int (Nat.toInt32 sN)), (.ref b1), (.ref b149)])) rfl (by rw [hml]; rfl) (Steps.refl _) (argsL := [(.ref b1), (.int (Nat.toInt32 sN)), (.int (Nat.toInt32 eN))]) (rest := []) (lenOf pd_7 rfl) rfl (by show 2 * 0 + _ ≤ _; exact Nat.le_of_eq rfl) (hb hby at_275) (fun _ _ => ⟨rfl, e155, (by decide : 3 + 0 ≤ _), (by decide : 13 + 0 ≤ _)⟩)
        dsimp only [Pt.U, Pt.locs, Pt.cells, Pt.slots] at X156 l156 y156 z156 st156 hQ156
        subst l156 y156 z156
        obtain ⟨h156, e156⟩ : ∃ h, T156.heap = h := ⟨_, rfl⟩
        rw [e156] at hQ156
        obtain ⟨rfl, N156q, Kq156, F158, F159, F160, F161, F162, F163⟩ := hQ156
        have Z156 : n0 ≤ h156.size := Nat.le_trans Z149 Kq156.1
        have N156 := Fr.app N155 N156q
        refine own_viaT st156 ?_
        show own_Go p e below s _ _ _ (T156.setTop (mkF m 278 #[.val (.int p0), .val (.long p1), .second, .val (.int p2), .val (.int p3), .val (.ref b1), .val (.int (Nat.toInt32 sN)), .val (.int (Nat.toInt32 eN)), .val (.int (Nat.toInt32 EN)), .val (.int (Nat.toInt32 mK)), .val (.int (Nat.toInt32 (own_sk [x0, x1, x2, x3, x4] (EN - sN) sN))), .val (.int (Nat.toInt32 sN)), .val (.ref b145), .val (.ref b149)] []))
        rw [h3] at F160
        rw [h3] at F161
        obtain ⟨r1, r2, r3⟩ := own_all3 hm hbK (by omega : sN ≤ EN) (by omega : EN ≤ 5) hf1 hc95
        refine own_via (fun _ k => XS.aload X156.here hx rfl (hb hby at_278) rfl rfl k) ?_
        show own_Go p e below s _ _ _ (T156.setTop (mkF m 280 #[.val (.int p0), .val (.long p1), .second, .val (.int p2), .val (.int p3), .val (.ref b1), .val (.int (Nat.toInt32 sN)), .val (.int (Nat.toInt32 eN)), .val (.int (Nat.toInt32 EN)), .val (.int (Nat.toInt32 mK)), .val (.int (Nat.toInt32 (own_sk [x0, x1, x2, x3, x4] (EN - sN) sN))), .val (.int (Nat.toInt32 sN)), .val (.ref b145), .val (.ref b149)] [(.ref b149)]))
        refine own_via (fun _ k => XS.iload X156.here hx rfl (hb hby at_280) rfl k) ?_
        show own_Go p e below s _ _ _ (T156.setTop (mkF m 282 #[.val (.int p0), .val (.long p1), .second, .val (.int p2), .val (.int p3), .val (.ref b1), .val (.int (Nat.toInt32 sN)), .val (.int (Nat.toInt32 eN)), .val (.int (Nat.toInt32 EN)), .val (.int (Nat.toInt32 mK)), .val (.int (Nat.toInt32 (own_sk [x0, x1, x2, x3, x4] (EN - sN) sN))), .val (.int (Nat.toInt32 sN)), .val (.ref b145), .val (.ref b149)] [(.int (Nat.toInt32 mK)), (.ref b149)]))
        refine own_via (fun _ k => XS.iload X156.here hx rfl (hb hby at_282) rfl k) ?_
        show own_Go p e below s _ _ _ (T156.setTop (mkF m 284 #[.val (.int p0), .val (.long p1), .second, .val (.int p2), .val (.int p3), .val (.ref b1), .val (.int (Nat.toInt32 sN)), .val (.int (Nat.toInt32 eN)), .val (.int (Nat.toInt32 EN)), .val (.int (Nat.toInt32 mK)), .val (.int (Nat.toInt32 (own_sk [x0, x1, x2, x3, x4] (EN - sN) sN))), .val (.int (Nat.toInt32 sN)), .val (.ref b145), .val (.ref b149)] [(.int (Nat.toInt32 EN)), (.int (Nat.toInt32 mK)), (.ref b149)]))
        refine own_via (fun _ k => XS.aload X156.here hx rfl (hb hby at_284) rfl rfl k) ?_
        show own_Go p e below s _ _ _ (T156.setTop (mkF m 286 #[.val (.int p0), .val (.long p1), .second, .val (.int p2), .val (.int p3), .val (.ref b1), .val (.int (Nat.toInt32 sN)), .val (.int (Nat.toInt32 eN)), .val (.int (Nat.toInt32 EN)), .val (.int (Nat.toInt32 mK)), .val (.int (Nat.toInt32 (own_sk [x0, x1, x2, x3, x4] (EN - sN) sN))), .val (.int (Nat.toInt32 sN)), .val (.ref b145), .val (.ref b149)] [(.ref b145), (.int (Nat.toInt32 EN)), (.int (Nat.toInt32 mK)), (.ref b149)]))
        have F165 := (F157.keep Kq156 (ninS ne_b1_b149 nin0))
        have F166 := ((V148.ext E149).keep Kq156 (ninS ne_b145_b149 nin0))
        obtain ⟨_, _, ⟨T164, L164, k164, n164⟩, -, X164, ⟨Lc164, hQ164, l164, y164, z164⟩, st164⟩ := Jvm.LawKit.callS X156 hx (y := (⟨"com/example/enlace/enlace/graph/LineFieldsAdvancePinLaw", "step", "(Lcom/example/enlace/enlace/graph/LineFields;II[I)Z"⟩ : MethodName)) hown (mvT hZ (hw _ (List.mem_of_getElem? (i := 44) rfl))) (mvT hZ (hw _ (List.mem_of_getElem? (i := 45) rfl))) (mvT hZ (hw _ (List.mem_of_getElem? (i := 3) rfl))) (mvT hZ (hw _ (List.mem_of_getElem? (i := 46) rfl))) (by decide) (backOf (W := 0) (rm9 l Z a0 hw [] b149 (Nat.toInt32 mK) (Nat.toInt32 EN) b145 b1 k1 (5 : Int32) [x0, x1, x2, x3, x4] EN (own_pos [x0, x1, x2, x3, x4] sN EN) (Nat.toInt32 sN) (Nat.toInt32 sN) k145 (Nat.toInt32 sN) (Nat.toInt32 sN) (Nat.toInt32 sN) h156 n0 Z156 F158 F159 F160 F161 F162 F163 F165 F166 g_b149 g_b145 ne_b1_b149 ne_b1_b145 (own_pos_r (by omega)) (by omega) (by show (EN : Int) ≤ 5; omega) r1 rfl (Ne.symm ne_b145_b149)) hZ (hw _ (List.mem_of_getElem? (i := 46) rfl)) (hw _ (List.mem_of_getElem? (i := 3) rfl)) (by decide) (by decide)) (g := (mkF m 286 #[.val (.int p0), .val (.long p1), .second, .val (.int p2), .val (.int p3), .val (.ref b1), .val (.int (Nat.toInt32 sN)), .val (.int (Nat.toInt32 eN)), .val (.int (Nat.toInt32 EN)), .val (.int (Nat.toInt32 mK)), .val (.int (Nat.toInt32 (own_sk [x0, x1, x2, x3, x4] (EN - sN) sN))), .val (.int (Nat.toInt32 sN)), .val (.ref b145), .val (.ref b149)] [(.ref b145), (.int (Nat.toInt32 EN)), (.int (Nat.toInt32 mK)), (.ref b149)])) rfl (by rw [hml]; rfl) (argsL := [(.ref b149), (.int (Nat.toInt32 mK)), (.int (Nat.toInt32 EN)), (.ref b145)]) (rest := []) (lenOf pd_8 rfl) rfl (by show 2 * 0 + _ ≤ _; exact Nat.le_of_eq rfl) (hb hby at_286) (fun _ _ => ⟨rfl, e156, (by decide : 3 + 0 ≤ _), (by decide : 13 + 0 ≤ _)⟩)
        dsimp only [Pt.U, Pt.locs, Pt.cells, Pt.slots] at X164 l164 y164 z164 st164 hQ164
        subst l164 y164 z164
        obtain ⟨h164, e164⟩ : ∃ h, T164.heap = h := ⟨_, rfl⟩
        rw [e164] at hQ164
        obtain ⟨rfl, N164q, Kq164, F167, F168, F169, F170, F171, F172, F173⟩ := hQ164
        have Z164 : n0 ≤ h164.size := Nat.le_trans Z156 Kq164.1
        have N164 := Fr.app N156 N164q
        refine own_via st164 ?_
        show own_Go p e below s _ _ _ (T164.setTop (mkF m 289 #[.val (.int p0), .val (.long p1), .second, .val (.int p2), .val (.int p3), .val (.ref b1), .val (.int (Nat.toInt32 sN)), .val (.int (Nat.toInt32 eN)), .val (.int (Nat.toInt32 EN)), .val (.int (Nat.toInt32 mK)), .val (.int (Nat.toInt32 (own_sk [x0, x1, x2, x3, x4] (EN - sN) sN))), .val (.int (Nat.toInt32 sN)), .val (.ref b145), .val (.ref b149)] [(.int (1 : Int32))]))
        refine own_via (fun _ k => XS.ifNo X164.here hx rfl (hb hby at_289) rfl (Jvm.Free.XT.i0_eq_f (by decide)) k) ?_
        show own_Go p e below s _ _ _ (T164.setTop (mkF m 292 #[.val (.int p0), .val (.long p1), .second, .val (.int p2), .val (.int p3), .val (.ref b1), .val (.int (Nat.toInt32 sN)), .val (.int (Nat.toInt32 eN)), .val (.int (Nat.toInt32 EN)), .val (.int (Nat.toInt32 mK)), .val (.int (Nat.toInt32 (own_sk [x0, x1, x2, x3, x4] (EN - sN) sN))), .val (.int (Nat.toInt32 sN)), .val (.ref b145), .val (.ref b149)] []))
        refine own_via (fun _ k => XS.aload X164.here hx rfl (hb hby at_292) rfl rfl k) ?_
        show own_Go p e below s _ _ _ (T164.setTop (mkF m 294 #[.val (.int p0), .val (.long p1), .second, .val (.int p2), .val (.int p3), .val (.ref b1), .val (.int (Nat.toInt32 sN)), .val (.int (Nat.toInt32 eN)), .val (.int (Nat.toInt32 EN)), .val (.int (Nat.toInt32 mK)), .val (.int (Nat.toInt32 (own_sk [x0, x1, x2, x3, x4] (EN - sN) sN))), .val (.int (Nat.toInt32 sN)), .val (.ref b145), .val (.ref b149)] [(.ref b149)]))
        refine own_via (fun _ k => XS.iload X164.here hx rfl (hb hby at_294) rfl k) ?_
        show own_Go p e below s _ _ _ (T164.setTop (mkF m 296 #[.val (.int p0), .val (.long p1), .second, .val (.int p2), .val (.int p3), .val (.ref b1), .val (.int (Nat.toInt32 sN)), .val (.int (Nat.toInt32 eN)), .val (.int (Nat.toInt32 EN)), .val (.int (Nat.toInt32 mK)), .val (.int (Nat.toInt32 (own_sk [x0, x1, x2, x3, x4] (EN - sN) sN))), .val (.int (Nat.toInt32 sN)), .val (.ref b145), .val (.ref b149)] [(.int (Nat.toInt32 mK)), (.ref b149)]))
        refine own_via (fun _ k => XS.iload X164.here hx rfl (hb hby at_296) rfl k) ?_
        show own_Go p e below s _ _ _ (T164.setTop (mkF m 298 #[.val (.int p0), .val (.long p1), .second, .val (.int p2), .val (.int p3), .val (.ref b1), .val (.int (Nat.toInt32 sN)), .val (.int (Nat.toInt32 eN)), .val (.int (Nat.toInt32 EN)), .val (.int (Nat.toInt32 mK)), .val (.int (Nat.toInt32 (own_sk [x0, x1, x2, x3, x4] (EN - sN) sN))), .val (.int (Nat.toInt32 sN)), .val (.ref b145), .val (.ref b149)] [(.int (Nat.toInt32 EN)), (.int (Nat.toInt32 mK)), (.ref b149)]))
        refine own_via (fun _ k => XS.aload X164.here hx rfl (hb hby at_298) rfl rfl k) ?_
        show own_Go p e below s _ _ _ (T164.setTop (mkF m 300 #[.val (.int p0), .val (.long p1), .second, .val (.int p2), .val (.int p3), .val (.ref b1), .val (.int (Nat.toInt32 sN)), .val (.int (Nat.toInt32 eN)), .val (.int (Nat.toInt32 EN)), .val (.int (Nat.toInt32 mK)), .val (.int (Nat.toInt32 (own_sk [x0, x1, x2, x3, x4] (EN - sN) sN))), .val (.int (Nat.toInt32 sN)), .val (.ref b145), .val (.ref b149)] [(.ref b145), (.int (Nat.toInt32 EN)), (.int (Nat.toInt32 mK)), (.ref b149)]))
        have F175 := (F165.keep Kq164 (ninS ne_b1_b149 (ninS ne_b1_b145 nin0)))
        obtain ⟨_, _, ⟨T174, L174, k174, n174⟩, -, X174, ⟨Lc174, hQ174, l174, y174, z174⟩, st174⟩ := Jvm.LawKit.callS X164 hx (y := (⟨"com/example/enlace/enlace/graph/LineFieldsAdvancePinLaw", "step", "(Lcom/example/enlace/enlace/graph/LineFields;II[I)Z"⟩ : MethodName)) hown (mvT hZ (hw _ (List.mem_of_getElem? (i := 44) rfl))) (mvT hZ (hw _ (List.mem_of_getElem? (i := 45) rfl))) (mvT hZ (hw _ (List.mem_of_getElem? (i := 3) rfl))) (mvT hZ (hw _ (List.mem_of_getElem? (i := 46) rfl))) (by decide) (backOf (W := 0) (rm9 l Z a0 hw [] b149 (Nat.toInt32 mK) (Nat.toInt32 EN) b145 b1 k1 (5 : Int32) [x0, x1, x2, x3, x4] EN (own_nq [x0, x1, x2, x3, x4] EN (own_pos [x0, x1, x2, x3, x4] sN EN)) (own_nfs [x0, x1, x2, x3, x4] EN (own_pos [x0, x1, x2, x3, x4] sN EN) (Nat.toInt32 sN)) (own_nft [x0, x1, x2, x3, x4] EN (own_pos [x0, x1, x2, x3, x4] sN EN) (Nat.toInt32 sN)) k145 (own_t0 (Nat.toInt32 mK) EN (Nat.toInt32 sN) (Nat.toInt32 sN)) (own_t1 (Nat.toInt32 mK) EN (Nat.toInt32 sN) (Nat.toInt32 sN)) (own_t2 (Nat.toInt32 mK) EN (Nat.toInt32 sN)) h164 n0 Z164 F167 F168 F169 F170 F171 F172 F175 F173 g_b149 g_b145 ne_b1_b149 ne_b1_b145 (own_nq_r (own_pos_r (by omega))) (by omega) (by show (EN : Int) ≤ 5; omega) r2 rfl (Ne.symm ne_b145_b149)) hZ (hw _ (List.mem_of_getElem? (i := 46) rfl)) (hw _ (List.mem_of_getElem? (i := 3) rfl)) (by decide) (by decide)) (g := (mkF m 300 #[.val (.int p0), .val (.long p1), .second, .val (.int p2), .val (.int p3), .val (.ref b1), .val (.int (Nat.toInt32 sN)), .val (.int (Nat.toInt32 eN)), .val (.int (Nat.toInt32 EN)), .val (.int (Nat.toInt32 mK)), .val (.int (Nat.toInt32 (own_sk [x0, x1, x2, x3, x4] (EN - sN) sN))), .val (.int (Nat.toInt32 sN)), .val (.ref b145), .val (.ref b149)] [(.ref b145), (.int (Nat.toInt32 EN)), (.int (Nat.toInt32 mK)), (.ref b149)])) rfl (by rw [hml]; rfl) (argsL := [(.ref b149), (.int (Nat.toInt32 mK)), (.int (Nat.toInt32 EN)), (.ref b145)]) (rest := []) (lenOf pd_8 rfl) rfl (by show 2 * 0 + _ ≤ _; exact Nat.le_of_eq rfl) (hb hby at_300) (fun _ _ => ⟨rfl, e164, (by decide : 3 + 0 ≤ _), (by decide : 13 + 0 ≤ _)⟩)
        dsimp only [Pt.U, Pt.locs, Pt.cells, Pt.slots] at X174 l174 y174 z174 st174 hQ174
        subst l174 y174 z174
        obtain ⟨h174, e174⟩ : ∃ h, T174.heap = h := ⟨_, rfl⟩
        rw [e174] at hQ174
        obtain ⟨rfl, N174q, Kq174, F176, F177, F178, F179, F180, F181, F182⟩ := hQ174
        have Z174 : n0 ≤ h174.size := Nat.le_trans Z164 Kq174.1
        have N174 := Fr.app N164 N174q
        refine own_via st174 ?_
        show own_Go p e below s _ _ _ (T174.setTop (mkF m 303 #[.val (.int p0), .val (.long p1), .second, .val (.int p2), .val (.int p3), .val (.ref b1), .val (.int (Nat.toInt32 sN)), .val (.int (Nat.toInt32 eN)), .val (.int (Nat.toInt32 EN)), .val (.int (Nat.toInt32 mK)), .val (.int (Nat.toInt32 (own_sk [x0, x1, x2, x3, x4] (EN - sN) sN))), .val (.int (Nat.toInt32 sN)), .val (.ref b145), .val (.ref b149)] [(.int (1 : Int32))]))
        refine own_via (fun _ k => XS.ifNo X174.here hx rfl (hb hby at_303) rfl (Jvm.Free.XT.i0_eq_f (by decide)) k) ?_
        show own_Go p e below s _ _ _ (T174.setTop (mkF m 306 #[.val (.int p0), .val (.long p1), .second, .val (.int p2), .val (.int p3), .val (.ref b1), .val (.int (Nat.toInt32 sN)), .val (.int (Nat.toInt32 eN)), .val (.int (Nat.toInt32 EN)), .val (.int (Nat.toInt32 mK)), .val (.int (Nat.toInt32 (own_sk [x0, x1, x2, x3, x4] (EN - sN) sN))), .val (.int (Nat.toInt32 sN)), .val (.ref b145), .val (.ref b149)] []))
        refine own_via (fun _ k => XS.aload X174.here hx rfl (hb hby at_306) rfl rfl k) ?_
        show own_Go p e below s _ _ _ (T174.setTop (mkF m 308 #[.val (.int p0), .val (.long p1), .second, .val (.int p2), .val (.int p3), .val (.ref b1), .val (.int (Nat.toInt32 sN)), .val (.int (Nat.toInt32 eN)), .val (.int (Nat.toInt32 EN)), .val (.int (Nat.toInt32 mK)), .val (.int (Nat.toInt32 (own_sk [x0, x1, x2, x3, x4] (EN - sN) sN))), .val (.int (Nat.toInt32 sN)), .val (.ref b145), .val (.ref b149)] [(.ref b149)]))
        refine own_via (fun _ k => XS.iload X174.here hx rfl (hb hby at_308) rfl k) ?_
        show own_Go p e below s _ _ _ (T174.setTop (mkF m 310 #[.val (.int p0), .val (.long p1), .second, .val (.int p2), .val (.int p3), .val (.ref b1), .val (.int (Nat.toInt32 sN)), .val (.int (Nat.toInt32 eN)), .val (.int (Nat.toInt32 EN)), .val (.int (Nat.toInt32 mK)), .val (.int (Nat.toInt32 (own_sk [x0, x1, x2, x3, x4] (EN - sN) sN))), .val (.int (Nat.toInt32 sN)), .val (.ref b145), .val (.ref b149)] [(.int (Nat.toInt32 mK)), (.ref b149)]))
        refine own_via (fun _ k => XS.iload X174.here hx rfl (hb hby at_310) rfl k) ?_
        show own_Go p e below s _ _ _ (T174.setTop (mkF m 312 #[.val (.int p0), .val (.long p1), .second, .val (.int p2), .val (.int p3), .val (.ref b1), .val (.int (Nat.toInt32 sN)), .val (.int (Nat.toInt32 eN)), .val (.int (Nat.toInt32 EN)), .val (.int (Nat.toInt32 mK)), .val (.int (Nat.toInt32 (own_sk [x0, x1, x2, x3, x4] (EN - sN) sN))), .val (.int (Nat.toInt32 sN)), .val (.ref b145), .val (.ref b149)] [(.int (Nat.toInt32 EN)), (.int (Nat.toInt32 mK)), (.ref b149)]))
        refine own_via (fun _ k => XS.aload X174.here hx rfl (hb hby at_312) rfl rfl k) ?_
        show own_Go p e below s _ _ _ (T174.setTop (mkF m 314 #[.val (.int p0), .val (.long p1), .second, .val (.int p2), .val (.int p3), .val (.ref b1), .val (.int (Nat.toInt32 sN)), .val (.int (Nat.toInt32 eN)), .val (.int (Nat.toInt32 EN)), .val (.int (Nat.toInt32 mK)), .val (.int (Nat.toInt32 (own_sk [x0, x1, x2, x3, x4] (EN - sN) sN))), .val (.int (Nat.toInt32 sN)), .val (.ref b145), .val (.ref b149)] [(.ref b145), (.int (Nat.toInt32 EN)), (.int (Nat.toInt32 mK)), (.ref b149)]))
        have F184 := (F175.keep Kq174 (ninS ne_b1_b149 (ninS ne_b1_b145 nin0)))
        obtain ⟨_, _, ⟨T183, L183, k183, n183⟩, -, X183, ⟨Lc183, hQ183, l183, y183, z183⟩, st183⟩ := Jvm.LawKit.callS X174 hx (y := (⟨"com/example/enlace/enlace/graph/LineFieldsAdvancePinLaw", "step", "(Lcom/example/enlace/enlace/graph/LineFields;II[I)Z"⟩ : MethodName)) hown (mvT hZ (hw _ (List.mem_of_getElem? (i := 44) rfl))) (mvT hZ (hw _ (List.mem_of_getElem? (i := 45) rfl))) (mvT hZ (hw _ (List.mem_of_getElem? (i := 3) rfl))) (mvT hZ (hw _ (List.mem_of_getElem? (i := 46) rfl))) (by decide) (backOf (W := 0) (rm9 l Z a0 hw [] b149 (Nat.toInt32 mK) (Nat.toInt32 EN) b145 b1 k1 (5 : Int32) [x0, x1, x2, x3, x4] EN (own_nq [x0, x1, x2, x3, x4] EN (own_nq [x0, x1, x2, x3, x4] EN (own_pos [x0, x1, x2, x3, x4] sN EN))) (own_nfs [x0, x1, x2, x3, x4] EN (own_nq [x0, x1, x2, x3, x4] EN (own_pos [x0, x1, x2, x3, x4] sN EN)) (own_nfs [x0, x1, x2, x3, x4] EN (own_pos [x0, x1, x2, x3, x4] sN EN) (Nat.toInt32 sN))) (own_nft [x0, x1, x2, x3, x4] EN (own_nq [x0, x1, x2, x3, x4] EN (own_pos [x0, x1, x2, x3, x4] sN EN)) (own_nft [x0, x1, x2, x3, x4] EN (own_pos [x0, x1, x2, x3, x4] sN EN) (Nat.toInt32 sN))) k145 (own_t0 (Nat.toInt32 mK) EN (own_t0 (Nat.toInt32 mK) EN (Nat.toInt32 sN) (Nat.toInt32 sN)) (own_t2 (Nat.toInt32 mK) EN (Nat.toInt32 sN))) (own_t1 (Nat.toInt32 mK) EN (own_t1 (Nat.toInt32 mK) EN (Nat.toInt32 sN) (Nat.toInt32 sN)) (own_t2 (Nat.toInt32 mK) EN (Nat.toInt32 sN))) (own_t2 (Nat.toInt32 mK) EN (own_t2 (Nat.toInt32 mK) EN (Nat.toInt32 sN))) h174 n0 Z174 F176 F177 F178 F179 F180 F181 F184 F182 g_b149 g_b145 ne_b1_b149 ne_b1_b145 (own_nq_r (own_nq_r (own_pos_r (by omega)))) (by omega) (by show (EN : Int) ≤ 5; omega) r3 rfl (Ne.symm ne_b145_b149)) hZ (hw _ (List.mem_of_getElem? (i := 46) rfl)) (hw _ (List.mem_of_getElem? (i := 3) rfl)) (by decide) (by decide)) (g := (mkF m 314 #[.val (.int p0), .val (.long p1), .second, .val (.int p2), .val (.int p3), .val (.ref b1), .val (.int (Nat.toInt32 sN)), .val (.int (Nat.toInt32 eN)), .val (.int (Nat.toInt32 EN)), .val (.int (Nat.toInt32 mK)), .val (.int (Nat.toInt32 (own_sk [x0, x1, x2, x3, x4] (EN - sN) sN))), .val (.int (Nat.toInt32 sN)), .val (.ref b145), .val (.ref b149)] [(.ref b145), (.int (Nat.toInt32 EN)), (.int (Nat.toInt32 mK)), (.ref b149)])) rfl (by rw [hml]; rfl) (argsL := [(.ref b149), (.int (Nat.toInt32 mK)), (.int (Nat.toInt32 EN)), (.ref b145)]) (rest := []) (lenOf pd_8 rfl) rfl (by show 2 * 0 + _ ≤ _; exact Nat.le_of_eq rfl) (hb hby at_314) (fun _ _ => ⟨rfl, e174, (by decide : 3 + 0 ≤ _), (by decide : 13 + 0 ≤ _)⟩)
        dsimp only [Pt.U, Pt.locs, Pt.cells, Pt.slots] at X183 l183 y183 z183 st183 hQ183
        subst l183 y183 z183
        obtain ⟨h183, e183⟩ : ∃ h, T183.heap = h := ⟨_, rfl⟩
        rw [e183] at hQ183
        obtain ⟨rfl, N183q, Kq183, F185, F186, F187, F188, F189, F190, F191⟩ := hQ183
        have Z183 : n0 ≤ h183.size := Nat.le_trans Z174 Kq183.1
        have N183 := Fr.app N174 N183q
        refine own_via st183 ?_
        show own_Go p e below s _ _ _ (T183.setTop (mkF m 317 #[.val (.int p0), .val (.long p1), .second, .val (.int p2), .val (.int p3), .val (.ref b1), .val (.int (Nat.toInt32 sN)), .val (.int (Nat.toInt32 eN)), .val (.int (Nat.toInt32 EN)), .val (.int (Nat.toInt32 mK)), .val (.int (Nat.toInt32 (own_sk [x0, x1, x2, x3, x4] (EN - sN) sN))), .val (.int (Nat.toInt32 sN)), .val (.ref b145), .val (.ref b149)] [(.int (1 : Int32))]))
        refine own_via (fun _ k => XS.ifNo X183.here hx rfl (hb hby at_317) rfl (Jvm.Free.XT.i0_eq_f (by decide)) k) ?_
        show own_Go p e below s _ _ _ (T183.setTop (mkF m 320 #[.val (.int p0), .val (.long p1), .second, .val (.int p2), .val (.int p3), .val (.ref b1), .val (.int (Nat.toInt32 sN)), .val (.int (Nat.toInt32 eN)), .val (.int (Nat.toInt32 EN)), .val (.int (Nat.toInt32 mK)), .val (.int (Nat.toInt32 (own_sk [x0, x1, x2, x3, x4] (EN - sN) sN))), .val (.int (Nat.toInt32 sN)), .val (.ref b145), .val (.ref b149)] []))
        refine own_via (fun _ k => XS.iconst X183.here hx rfl (hb hby at_320) k) ?_
        show own_Go p e below s _ _ _ (T183.setTop (mkF m 321 #[.val (.int p0), .val (.long p1), .second, .val (.int p2), .val (.int p3), .val (.ref b1), .val (.int (Nat.toInt32 sN)), .val (.int (Nat.toInt32 eN)), .val (.int (Nat.toInt32 EN)), .val (.int (Nat.toInt32 mK)), .val (.int (Nat.toInt32 (own_sk [x0, x1, x2, x3, x4] (EN - sN) sN))), .val (.int (Nat.toInt32 sN)), .val (.ref b145), .val (.ref b149)] [(.int (1 : Int32))]))
        refine own_via (fun _ k => XS.goto X183.here hx rfl (pc0 := 321) (pc' := 325) rfl (hb hby at_321) (by decide) (by decide) k) ?_
        show own_Go p e below s _ _ _ (T183.setTop (mkF m 325 #[.val (.int p0), .val (.long p1), .second, .val (.int p2), .val (.int p3), .val (.ref b1), .val (.int (Nat.toInt32 sN)), .val (.int (Nat.toInt32 eN)), .val (.int (Nat.toInt32 EN)), .val (.int (Nat.toInt32 mK)), .val (.int (Nat.toInt32 (own_sk [x0, x1, x2, x3, x4] (EN - sN) sN))), .val (.int (Nat.toInt32 sN)), .val (.ref b145), .val (.ref b149)] [(.int (1 : Int32))]))
        exact own_goN X183 hx (t := .boolean) Bd.returns (by simp) (hb hby at_325) Bd.notSynchronized (by decide) (by decide) (by rw [e183]; exact ⟨rfl, N183⟩)
  show own_Go p e below s _ _ _ (T11.setTop (mkF m 84 #[.val (.int p0), .val (.long p1), .second, .val (.int p2), .val (.int p3), .val (.ref b1), .val (.int (Nat.toInt32 sN)), .val (.int (Nat.toInt32 eN)), .val (.int (Nat.toInt32 eN)), .unset, .unset, .unset, .unset, .unset] []))
  refine own_via (fun _ k => XS.iload X11.here hx rfl (hb hby at_84) rfl k) ?_
  show own_Go p e below s _ _ _ (T11.setTop (mkF m 86 #[.val (.int p0), .val (.long p1), .second, .val (.int p2), .val (.int p3), .val (.ref b1), .val (.int (Nat.toInt32 sN)), .val (.int (Nat.toInt32 eN)), .val (.int (Nat.toInt32 eN)), .unset, .unset, .unset, .unset, .unset] [(.int (Nat.toInt32 eN))]))
  refine own_via (fun _ k => XS.iload X11.here hx rfl (hb hby at_86) rfl k) ?_
  show own_Go p e below s _ _ _ (T11.setTop (mkF m 88 #[.val (.int p0), .val (.long p1), .second, .val (.int p2), .val (.int p3), .val (.ref b1), .val (.int (Nat.toInt32 sN)), .val (.int (Nat.toInt32 eN)), .val (.int (Nat.toInt32 eN)), .unset, .unset, .unset, .unset, .unset] [(.int (Nat.toInt32 sN)), (.int (Nat.toInt32 eN))]))
  by_cases hc192 : (Nat.toInt32 sN) < (Nat.toInt32 eN)
  · refine own_via (fun _ k => XS.icmpNo X11.here hx rfl (hb hby at_88) rfl (Jvm.Free.XT.ii_le_f hc192) k) ?_
    show own_Go p e below s _ _ _ (T11.setTop (mkF m 91 #[.val (.int p0), .val (.long p1), .second, .val (.int p2), .val (.int p3), .val (.ref b1), .val (.int (Nat.toInt32 sN)), .val (.int (Nat.toInt32 eN)), .val (.int (Nat.toInt32 eN)), .unset, .unset, .unset, .unset, .unset] []))
    refine own_via (fun _ k => XS.aload X11.here hx rfl (hb hby at_91) rfl rfl k) ?_
    show own_Go p e below s _ _ _ (T11.setTop (mkF m 93 #[.val (.int p0), .val (.long p1), .second, .val (.int p2), .val (.int p3), .val (.ref b1), .val (.int (Nat.toInt32 sN)), .val (.int (Nat.toInt32 eN)), .val (.int (Nat.toInt32 eN)), .unset, .unset, .unset, .unset, .unset] [(.ref b1)]))
    refine own_via (fun _ k => XS.iload X11.here hx rfl (hb hby at_93) rfl k) ?_
    show own_Go p e below s _ _ _ (T11.setTop (mkF m 95 #[.val (.int p0), .val (.long p1), .second, .val (.int p2), .val (.int p3), .val (.ref b1), .val (.int (Nat.toInt32 sN)), .val (.int (Nat.toInt32 eN)), .val (.int (Nat.toInt32 eN)), .unset, .unset, .unset, .unset, .unset] [(.int (Nat.toInt32 eN)), (.ref b1)]))
    refine own_via (fun _ k => XS.iconst X11.here hx rfl (hb hby at_95) k) ?_
    show own_Go p e below s _ _ _ (T11.setTop (mkF m 96 #[.val (.int p0), .val (.long p1), .second, .val (.int p2), .val (.int p3), .val (.ref b1), .val (.int (Nat.toInt32 sN)), .val (.int (Nat.toInt32 eN)), .val (.int (Nat.toInt32 eN)), .unset, .unset, .unset, .unset, .unset] [(.int (1 : Int32)), (.int (Nat.toInt32 eN)), (.ref b1)]))
    refine own_via (fun _ k => XS.isub X11.here hx rfl (hb hby at_96) rfl k) ?_
    show own_Go p e below s _ _ _ (T11.setTop (mkF m 97 #[.val (.int p0), .val (.long p1), .second, .val (.int p2), .val (.int p3), .val (.ref b1), .val (.int (Nat.toInt32 sN)), .val (.int (Nat.toInt32 eN)), .val (.int (Nat.toInt32 eN)), .unset, .unset, .unset, .unset, .unset] [(.int ((Nat.toInt32 eN) - (1 : Int32))), (.ref b1)]))
    have h0e : sN < eN := (own_ltn (by omega) (by omega)).mp hc192
    rw [show ((Nat.toInt32 eN) - (1 : Int32)) = (Nat.toInt32 (eN - 1)) from (own_pred (by omega))]
    show own_Go p e below s _ _ _ (T11.setTop (mkF m 97 #[.val (.int p0), .val (.long p1), .second, .val (.int p2), .val (.int p3), .val (.ref b1), .val (.int (Nat.toInt32 sN)), .val (.int (Nat.toInt32 eN)), .val (.int (Nat.toInt32 eN)), .unset, .unset, .unset, .unset, .unset] [(.int (Nat.toInt32 (eN - 1))), (.ref b1)]))
    obtain ⟨cl193, Ar193, q193, S193, M193, H193, G193⟩ := (id V11)
    have hin193 : ¬ ((Nat.toInt32 (eN - 1)) < 0 ∨ cl193.slots.size ≤ ((Nat.toInt32 (eN - 1))).toNatClampNeg) := inb_of S193 (own_inb (by omega) (by show ((eN - 1 : Nat) : Int) < 5; omega))
    have hat193 : cl193.slots[((Nat.toInt32 (eN - 1))).toNatClampNeg]? = some (.int (own_g [x0, x1, x2, x3, x4] (eN - 1))) := Has.at H193 hin193 (own_gm [x0, x1, x2, x3, x4] (by omega))
    refine own_via (fun _ k => X11.baloadBytes hx (j := (Nat.toInt32 (eN - 1))) (v := (.int (own_g [x0, x1, x2, x3, x4] (eN - 1)))) (by rw [e11]; exact Ar193.1) (State.isArrayOf_alike hZ.alike Ar193.2.1) Ar193.2.2 hin193 hat193 (g := (mkF m 97 #[.val (.int p0), .val (.long p1), .second, .val (.int p2), .val (.int p3), .val (.ref b1), .val (.int (Nat.toInt32 sN)), .val (.int (Nat.toInt32 eN)), .val (.int (Nat.toInt32 eN)), .unset, .unset, .unset, .unset, .unset] [(.int (Nat.toInt32 (eN - 1))), (.ref b1)])) rfl rfl (hb hby at_97) _ k) ?_
    show own_Go p e below s _ _ _ (T11.setTop (mkF m 98 #[.val (.int p0), .val (.long p1), .second, .val (.int p2), .val (.int p3), .val (.ref b1), .val (.int (Nat.toInt32 sN)), .val (.int (Nat.toInt32 eN)), .val (.int (Nat.toInt32 eN)), .unset, .unset, .unset, .unset, .unset] [(.int (own_g [x0, x1, x2, x3, x4] (eN - 1)))]))
    refine own_via (fun _ k => XS.bipush X11.here hx rfl (hb hby at_98) k) ?_
    show own_Go p e below s _ _ _ (T11.setTop (mkF m 100 #[.val (.int p0), .val (.long p1), .second, .val (.int p2), .val (.int p3), .val (.ref b1), .val (.int (Nat.toInt32 sN)), .val (.int (Nat.toInt32 eN)), .val (.int (Nat.toInt32 eN)), .unset, .unset, .unset, .unset, .unset] [(.int (13 : Int32)), (.int (own_g [x0, x1, x2, x3, x4] (eN - 1)))]))
    by_cases hc194 : (own_g [x0, x1, x2, x3, x4] (eN - 1)) = (13 : Int32)
    · refine own_via (fun _ k => XS.icmpNo X11.here hx rfl (hb hby at_100) rfl (Jvm.Free.XT.ii_ne_f hc194) k) ?_
      show own_Go p e below s _ _ _ (T11.setTop (mkF m 103 #[.val (.int p0), .val (.long p1), .second, .val (.int p2), .val (.int p3), .val (.ref b1), .val (.int (Nat.toInt32 sN)), .val (.int (Nat.toInt32 eN)), .val (.int (Nat.toInt32 eN)), .unset, .unset, .unset, .unset, .unset] []))
      refine own_via (fun _ k => XS.iload X11.here hx rfl (hb hby at_103) rfl k) ?_
      show own_Go p e below s _ _ _ (T11.setTop (mkF m 105 #[.val (.int p0), .val (.long p1), .second, .val (.int p2), .val (.int p3), .val (.ref b1), .val (.int (Nat.toInt32 sN)), .val (.int (Nat.toInt32 eN)), .val (.int (Nat.toInt32 eN)), .unset, .unset, .unset, .unset, .unset] [(.int (Nat.toInt32 eN))]))
      refine own_via (fun _ k => XS.iconst X11.here hx rfl (hb hby at_105) k) ?_
      show own_Go p e below s _ _ _ (T11.setTop (mkF m 106 #[.val (.int p0), .val (.long p1), .second, .val (.int p2), .val (.int p3), .val (.ref b1), .val (.int (Nat.toInt32 sN)), .val (.int (Nat.toInt32 eN)), .val (.int (Nat.toInt32 eN)), .unset, .unset, .unset, .unset, .unset] [(.int (1 : Int32)), (.int (Nat.toInt32 eN))]))
      refine own_via (fun _ k => XS.isub X11.here hx rfl (hb hby at_106) rfl k) ?_
      show own_Go p e below s _ _ _ (T11.setTop (mkF m 107 #[.val (.int p0), .val (.long p1), .second, .val (.int p2), .val (.int p3), .val (.ref b1), .val (.int (Nat.toInt32 sN)), .val (.int (Nat.toInt32 eN)), .val (.int (Nat.toInt32 eN)), .unset, .unset, .unset, .unset, .unset] [(.int ((Nat.toInt32 eN) - (1 : Int32)))]))
      refine own_via (fun _ k => XS.istore X11.here hx rfl (hb hby at_107) rfl (l' := #[.val (.int p0), .val (.long p1), .second, .val (.int p2), .val (.int p3), .val (.ref b1), .val (.int (Nat.toInt32 sN)), .val (.int (Nat.toInt32 eN)), .val (.int ((Nat.toInt32 eN) - (1 : Int32))), .unset, .unset, .unset, .unset, .unset]) rfl k) ?_
      show own_Go p e below s _ _ _ (T11.setTop (mkF m 109 #[.val (.int p0), .val (.long p1), .second, .val (.int p2), .val (.int p3), .val (.ref b1), .val (.int (Nat.toInt32 sN)), .val (.int (Nat.toInt32 eN)), .val (.int ((Nat.toInt32 eN) - (1 : Int32))), .unset, .unset, .unset, .unset, .unset] []))
      generalize hv195 : ((Nat.toInt32 eN) - (1 : Int32)) = v195
      show own_Go p e below s _ _ _ (T11.setTop (mkF m 109 #[.val (.int p0), .val (.long p1), .second, .val (.int p2), .val (.int p3), .val (.ref b1), .val (.int (Nat.toInt32 sN)), .val (.int (Nat.toInt32 eN)), .val (.int v195), .unset, .unset, .unset, .unset, .unset] []))
      rw [own_pred (by omega : 0 < eN)] at hv195
      subst hv195
      show own_Go p e below s _ _ _ (T11.setTop (mkF m 109 #[.val (.int p0), .val (.long p1), .second, .val (.int p2), .val (.int p3), .val (.ref b1), .val (.int (Nat.toInt32 sN)), .val (.int (Nat.toInt32 eN)), .val (.int (Nat.toInt32 (eN - 1))), .unset, .unset, .unset, .unset, .unset] []))
      exact jn (eN - 1) _ _ _ X11 e11 N11 Z11 V11 (by omega) (by omega) (by rw [own_end, if_pos ⟨h0e, hc194⟩])
    · refine own_via (fun _ k => XS.icmpYes X11.here hx rfl (pc0 := 100) (pc' := 109) rfl (hb hby at_100) rfl (Jvm.Free.XT.ii_ne_t hc194) (by decide) (by decide) k) ?_
      show own_Go p e below s _ _ _ (T11.setTop (mkF m 109 #[.val (.int p0), .val (.long p1), .second, .val (.int p2), .val (.int p3), .val (.ref b1), .val (.int (Nat.toInt32 sN)), .val (.int (Nat.toInt32 eN)), .val (.int (Nat.toInt32 eN)), .unset, .unset, .unset, .unset, .unset] []))
      exact jn eN _ _ _ X11 e11 N11 Z11 V11 (by omega) (by omega) (by rw [own_end, if_neg (fun q => hc194 q.2)])
  · refine own_via (fun _ k => XS.icmpYes X11.here hx rfl (pc0 := 88) (pc' := 109) rfl (hb hby at_88) rfl (Jvm.Free.XT.ii_le_t hc192) (by decide) (by decide) k) ?_
    show own_Go p e below s _ _ _ (T11.setTop (mkF m 109 #[.val (.int p0), .val (.long p1), .second, .val (.int p2), .val (.int p3), .val (.ref b1), .val (.int (Nat.toInt32 sN)), .val (.int (Nat.toInt32 eN)), .val (.int (Nat.toInt32 eN)), .unset, .unset, .unset, .unset, .unset] []))
    exact jn eN _ _ _ X11 e11 N11 Z11 V11 (by omega) (by omega) (by rw [own_end, if_neg (fun q => hc192 ((own_ltn (by omega) (by omega)).mpr q.1))])
set_option maxRecDepth 65536 in
set_option maxHeartbeats 40000000 in
theorem comes_1 {Post : Tables → Env → Array Value → State → Outcome → State → Prop} (hpost : ∀ tb e args s v u, (limb_1_1.after args s (.returned v) u = true ∧ limb_1_2.after args s (.returned v) u = true ∧ True) → FrameEnd s (.returned v) u (Jvm.fieldLocs frame_1_writes args s ++ Jvm.arrayLocs frame_1_arrays args s ++ Jvm.staticLocs frame_1_statics s) 16 128 → Post tb e args s (.returned v) u) :
    ArmFor flags0 classFile x code maxLocals ret World_1 tables_1 room_1 Calls_1 rest_1 Pre_1 Post := by
  intro l hfl _ _ p e ha hc hk s m args below hf hA hF happ hP
  obtain ⟨hcalls, hrest, hpre⟩ := hP
  obtain ⟨-, -, -, hnamed, -, -, -, hat⟩ := (Spec.applies_iff hf).mp happ
  obtain ⟨hg, hn⟩ := and_e (Cond.before_iff.mp (show (Jvm.Cond.and given_1 narrow_1).before args s = true from hpre))
  obtain ⟨g1, g2⟩ := and_e hg
  obtain ⟨g3, g4⟩ := and_e g2
  obtain ⟨g5, g6⟩ := and_e g4
  obtain ⟨g7, g8⟩ := and_e g6
  obtain ⟨w0, w1, w2, w3, rfl⟩ : ∃ w0 w1 w2 w3 : Value, args = #[w0, w1, w2, w3] := by
    have hs : args.size = 4 := by simpa [Cond.value, given_1] using g1
    obtain ⟨L⟩ := args
    match L, hs with
    | [w0, w1, w2, w3], _ => exact ⟨w0, w1, w2, w3, rfl⟩
  have hw := fun d (hd : d ∈ tables_1) => atoms_spec (ws := Jvm.Cond.code x code maxLocals ret :: tables_1) hat d (List.mem_cons_of_mem _ hd)
  have hfit : Fit s := fun {y c} hc i hi => by
    obtain ⟨ha, rfl⟩ := Array.getElem?_eq_some_iff.mp hc
    have q := List.all_eq_true.mp ((Array.all_eq_true_iff_forall_mem.mp hF) _ (Array.getElem_mem ha)) i (List.mem_range.mpr hi)
    simpa [Array.getElem?_eq_getElem hi] using q
  obtain ⟨i0, ei0⟩ := is_v g3
  obtain rfl : w0 = (.int i0) := Option.some.inj ei0
  obtain ⟨i1, ei1⟩ := isL_v g5
  obtain rfl : w1 = (.long i1) := Option.some.inj ei1
  obtain ⟨i2, ei2⟩ := is_v g7
  obtain rfl : w2 = (.int i2) := Option.some.inj ei2
  obtain ⟨i3, ei3⟩ := is_v g8
  obtain rfl : w3 = (.int i3) := Option.some.inj ei3
  obtain ⟨n, o, h1, h2, h3, _, L, rfl, ⟨rfl, N⟩, hq⟩ := rm0 l s _ hw tables_1 i0 i1 i2 i3 s.heap s.heap.size (Nat.le_refl _)  p e ha hc hk s m _ below hf ((Spec.applies_iff_loose hf).mp happ).1 ⟨rfl, State.Warmed39.refl s, rfl⟩ trivial
  refine ⟨n, _, h1, h2, h3, hpost _ _ _ _ _ _ ⟨Cond.after_iff.mpr rfl, Cond.after_iff.mpr (eq_i res_at (Term.int_eval (1)) rfl), trivial⟩ ⟨hq.1, hq.2.1, (hq.2.2.sift fun y hy => Or.inr (N y hy)).mono (by decide) (by decide)⟩⟩
theorem main_1_1 : Claimed_1_1 := comes_1 fun _ _ _ _ _ _ h hF => ⟨h.1, hF⟩
theorem main_1_2 : Claimed_1_2 := comes_1 fun _ _ _ _ _ _ h hF => ⟨h.2.1, hF⟩
end Jvm.Pilot.@@N@@
namespace Jvm.Pilot.@@N@@
open Jvm Jvm.ClassFile Sem Op Lib Jvm.Free Jvm.Stand Jvm.Pilot.@@N@@.Jvm.D
/-! MADE BY PROGRAM (witnessworld.py) out of the Statement's table words and the real class files: 9 classes; the members and pool entries that the words name. The judged class is class 1, her method 1. -/
namespace start1
open Jvm.ClassFile
def u (s : String) : CpInfo := .utf8 (stringToUtf16 s)
/-- a pool by its gaps: so many unusable entries, then the entry; so many at the end -/
def gap : Nat → List CpInfo → List CpInfo
  | 0, r => r
  | n + 1, r => .unusable :: gap n r
def poolList (es : List (Nat × CpInfo)) (last : Nat) : List CpInfo := es.foldr (fun e r => gap e.1 (e.2 :: r)) (gap last [])
def pool (es : List (Nat × CpInfo)) (last : Nat) : Array CpInfo := ⟨poolList es last⟩
def fileOf (pool : Array CpInfo) (this : Nat) (attrs : Array Attribute := #[]) (ms : Array MethodInfo := #[]) (fl : Nat := 33) (sup : Nat := 0) (ifs : Array Nat := #[]) (fds : Array FieldInfo := #[]) : ClassFile where
  minorVersion := 0
  majorVersion := 65
  constantPool := pool
  accessFlags := fl
  thisClass := this
  superClass := sup
  interfaces := ifs
  fields := fds
  methods := ms
  attributes := attrs
def plain (name : String) (sup : Option ClassId) : Class where
  name := name
  kind := .ordinary
  loader := none
  accessFlags := 33
  super := sup
  interfaces := #[]
  cf := none
  fields := #[]
  methods := #[]
  instanceTypes := #[]
  staticTypes := #[]
  resolved := #[]
  callSites := []
  init := .initialized
  statics := none
  mirror := none

def pool0 : Array CpInfo := pool [(5, u "<init>"), (0, u "()V"), (1, .class_ 10), (1, u "java/lang/Object")] 113

def k0c0 : Code := { maxStack := 0, maxLocals := 1, code := object_method_1_code, exceptionTable := #[], attributes := #[] }
def k0m0 : Method := { name := "<init>", desc := "()V", sig := { parameters := [], returnType := none }, accessFlags := 1, code := some k0c0 }
/-- java/lang/Object -/
def k0 : Class := { plain "java/lang/Object" none with
  accessFlags := 33
  interfaces := #[]
  cf := some (fileOf pool0 8 #[] #[{ accessFlags := 1, nameIndex := 5, descriptorIndex := 6, attributes := #[] }] 33 0 #[] #[])
  fields := #[]
  methods := #[k0m0]
  instanceTypes := #[]
  staticTypes := #[]
  resolved := Array.replicate 124 none
  statics := none }

def pool1 : Array CpInfo := pool [(2, .class_ 4), (0, .nameAndType 5 6), (0, u "java/lang/Object"), (0, u "<init>"), (0, u "()V"), (0, .methodref 8 9), (0, .class_ 10), (0, .nameAndType 11 12), (0, u "com/example/enlace/enlace/graph/LineFieldsAdvancePinLaw"), (0, u "pick"), (0, u "(IJI)B"), (0, .integer 2147483647), (0, .methodref 8 15), (0, .nameAndType 16 17), (0, u "isBlank"), (0, u "(B)Z"), (0, .methodref 8 19), (0, .nameAndType 20 21), (0, u "range"), (0, u "(II)I"), (0, .methodref 8 23), (0, .nameAndType 24 25), (0, u "lowest"), (0, u "(I)I"), (0, .class_ 27), (0, u "com/example/enlace/enlace/graph/LineFields"), (0, .methodref 26 3), (0, .methodref 26 30), (0, .nameAndType 31 32), (0, u "reset"), (0, u "([BII)V"), (0, .methodref 8 34), (0, .nameAndType 35 36), (0, u "step"), (0, u "(Lcom/example/enlace/enlace/graph/LineFields;II[I)Z"), (0, .methodref 26 38), (0, .nameAndType 39 40), (0, u "advance"), (0, u "()Z"), (0, .methodref 26 42), (0, .nameAndType 43 44), (0, u "fieldStart"), (0, u "()I"), (0, .methodref 26 46), (0, .nameAndType 47 44), (0, u "fieldEnd"), (2, u "law"), (0, u "(IJII)Z")] 7

def k1m0 : Method := { name := "<init>", desc := "()V", sig := { parameters := [], returnType := none }, accessFlags := 1, code := none }
def k1c1 : Code := { maxStack := 6, maxLocals := 14, code := code, exceptionTable := #[], attributes := #[] }
def k1m1 : Method := { name := "law", desc := "(IJII)Z", sig := { parameters := [.int, .long, .int, .int], returnType := some .boolean }, accessFlags := 9, code := some k1c1 }
def k1c2 : Code := { maxStack := 3, maxLocals := 7, code := method_3_code, exceptionTable := #[], attributes := #[] }
def k1m2 : Method := { name := "step", desc := "(Lcom/example/enlace/enlace/graph/LineFields;II[I)Z", sig := { parameters := [(.object "com/example/enlace/enlace/graph/LineFields"), .int, .int, (.array .int)], returnType := some .boolean }, accessFlags := 10, code := some k1c2 }
def k1c3 : Code := { maxStack := 4, maxLocals := 5, code := method_4_code, exceptionTable := #[], attributes := #[] }
def k1m3 : Method := { name := "pick", desc := "(IJI)B", sig := { parameters := [.int, .long, .int], returnType := some .byte }, accessFlags := 10, code := some k1c3 }
def k1c4 : Code := { maxStack := 2, maxLocals := 1, code := method_5_code, exceptionTable := #[], attributes := #[] }
def k1m4 : Method := { name := "isBlank", desc := "(B)Z", sig := { parameters := [.byte], returnType := some .boolean }, accessFlags := 10, code := some k1c4 }
def k1c5 : Code := { maxStack := 3, maxLocals := 2, code := method_6_code, exceptionTable := #[], attributes := #[] }
def k1m5 : Method := { name := "range", desc := "(II)I", sig := { parameters := [.int, .int], returnType := some .int }, accessFlags := 10, code := some k1c5 }
def k1c6 : Code := { maxStack := 2, maxLocals := 1, code := method_7_code, exceptionTable := #[], attributes := #[] }
def k1m6 : Method := { name := "lowest", desc := "(I)I", sig := { parameters := [.int], returnType := some .int }, accessFlags := 10, code := some k1c6 }
/-- com/example/enlace/enlace/graph/LineFieldsAdvancePinLaw -/
def k1 : Class := { plain "com/example/enlace/enlace/graph/LineFieldsAdvancePinLaw" (some 0) with
  accessFlags := 49
  interfaces := #[]
  cf := some (fileOf pool1 8 #[] #[{ accessFlags := 1, nameIndex := 5, descriptorIndex := 6, attributes := #[] }, { accessFlags := 9, nameIndex := 50, descriptorIndex := 51, attributes := #[] }, { accessFlags := 10, nameIndex := 35, descriptorIndex := 36, attributes := #[] }, { accessFlags := 10, nameIndex := 11, descriptorIndex := 12, attributes := #[] }, { accessFlags := 10, nameIndex := 16, descriptorIndex := 17, attributes := #[] }, { accessFlags := 10, nameIndex := 20, descriptorIndex := 21, attributes := #[] }, { accessFlags := 10, nameIndex := 24, descriptorIndex := 25, attributes := #[] }] 49 2 #[] #[])
  fields := #[]
  methods := #[k1m0, k1m1, k1m2, k1m3, k1m4, k1m5, k1m6]
  instanceTypes := #[]
  staticTypes := #[]
  resolved := Array.replicate 59 none
  statics := none }

def pool2 : Array CpInfo := pool [(1, .methodref 2 3), (0, .class_ 4), (0, .nameAndType 5 6), (0, u "java/lang/Object"), (0, u "<init>"), (0, u "()V"), (1, .class_ 10), (1, u "com/example/enlace/enlace/graph/LineFields"), (12, u "reset"), (0, u "([BII)V"), (0, .fieldref 8 26), (0, .nameAndType 27 28), (0, u "bytes"), (0, u "[B"), (0, .fieldref 8 30), (0, .nameAndType 31 32), (0, u "end"), (0, u "I"), (0, .methodref 8 34), (0, .nameAndType 35 36), (0, u "skipBlanks"), (0, u "(I)I"), (0, .fieldref 8 38), (0, .nameAndType 39 32), (0, u "position"), (0, .fieldref 8 41), (0, .nameAndType 42 32), (0, u "fieldStart"), (0, .fieldref 8 44), (0, .nameAndType 45 32), (0, u "fieldEnd"), (0, .methodref 8 47), (0, .nameAndType 48 49), (0, u "isBlank"), (0, u "(B)Z"), (2, u "advance"), (0, u "()Z"), (43, u "()I")] 15

def k2c0 : Code := { maxStack := 1, maxLocals := 1, code := prog_21_method_1_code, exceptionTable := #[], attributes := #[] }
def k2m0 : Method := { name := "<init>", desc := "()V", sig := { parameters := [], returnType := none }, accessFlags := 0, code := some k2c0 }
def k2c1 : Code := { maxStack := 3, maxLocals := 6, code := prog_21_method_3_code, exceptionTable := #[], attributes := #[] }
def k2m1 : Method := { name := "reset", desc := "([BII)V", sig := { parameters := [(.array .byte), .int, .int], returnType := none }, accessFlags := 0, code := some k2c1 }
def k2c2 : Code := { maxStack := 2, maxLocals := 3, code := prog_21_method_4_code, exceptionTable := #[], attributes := #[] }
def k2m2 : Method := { name := "advance", desc := "()Z", sig := { parameters := [], returnType := some .boolean }, accessFlags := 0, code := some k2c2 }
def k2c3 : Code := { maxStack := 1, maxLocals := 1, code := prog_21_method_8_code, exceptionTable := #[], attributes := #[] }
def k2m3 : Method := { name := "fieldStart", desc := "()I", sig := { parameters := [], returnType := some .int }, accessFlags := 0, code := some k2c3 }
def k2c4 : Code := { maxStack := 1, maxLocals := 1, code := prog_21_method_9_code, exceptionTable := #[], attributes := #[] }
def k2m4 : Method := { name := "fieldEnd", desc := "()I", sig := { parameters := [], returnType := some .int }, accessFlags := 0, code := some k2c4 }
def k2c5 : Code := { maxStack := 2, maxLocals := 3, code := prog_21_method_12_code, exceptionTable := #[], attributes := #[] }
def k2m5 : Method := { name := "skipBlanks", desc := "(I)I", sig := { parameters := [.int], returnType := some .int }, accessFlags := 2, code := some k2c5 }
def k2c6 : Code := { maxStack := 2, maxLocals := 1, code := prog_21_method_13_code, exceptionTable := #[], attributes := #[] }
def k2m6 : Method := { name := "isBlank", desc := "(B)Z", sig := { parameters := [.byte], returnType := some .boolean }, accessFlags := 10, code := some k2c6 }
/-- com/example/enlace/enlace/graph/LineFields -/
def k2 : Class := { plain "com/example/enlace/enlace/graph/LineFields" (some 0) with
  accessFlags := 48
  interfaces := #[]
  cf := some (fileOf pool2 8 #[] #[{ accessFlags := 0, nameIndex := 5, descriptorIndex := 6, attributes := #[] }, { accessFlags := 0, nameIndex := 23, descriptorIndex := 24, attributes := #[] }, { accessFlags := 0, nameIndex := 52, descriptorIndex := 53, attributes := #[] }, { accessFlags := 0, nameIndex := 42, descriptorIndex := 97, attributes := #[] }, { accessFlags := 0, nameIndex := 45, descriptorIndex := 97, attributes := #[] }, { accessFlags := 2, nameIndex := 35, descriptorIndex := 36, attributes := #[] }, { accessFlags := 10, nameIndex := 48, descriptorIndex := 49, attributes := #[] }] 48 2 #[] #[{ accessFlags := 2, nameIndex := 27, descriptorIndex := 28, attributes := #[] }, { accessFlags := 2, nameIndex := 31, descriptorIndex := 32, attributes := #[] }, { accessFlags := 2, nameIndex := 39, descriptorIndex := 32, attributes := #[] }, { accessFlags := 2, nameIndex := 42, descriptorIndex := 32, attributes := #[] }, { accessFlags := 2, nameIndex := 45, descriptorIndex := 32, attributes := #[] }])
  fields := #[{ name := "bytes", type := (.array .byte), accessFlags := 2, slot := 0, constantValue := 0 }, { name := "end", type := .int, accessFlags := 2, slot := 1, constantValue := 0 }, { name := "position", type := .int, accessFlags := 2, slot := 2, constantValue := 0 }, { name := "fieldStart", type := .int, accessFlags := 2, slot := 3, constantValue := 0 }, { name := "fieldEnd", type := .int, accessFlags := 2, slot := 4, constantValue := 0 }]
  methods := #[k2m0, k2m1, k2m2, k2m3, k2m4, k2m5, k2m6]
  instanceTypes := #[(.array .byte), .int, .int, .int, .int]
  staticTypes := #[]
  resolved := Array.replicate 113 none
  statics := none }

def pool3 : Array CpInfo := pool [(1, u "java/lang/Cloneable"), (0, .class_ 1), (0, u "java/lang/Object"), (0, .class_ 3)] 3

/-- java/lang/Cloneable -/
def k3 : Class := { plain "java/lang/Cloneable" (some 0) with
  accessFlags := 1537
  interfaces := #[]
  cf := some (fileOf pool3 2 #[] #[] 1537 4 #[] #[])
  fields := #[]
  methods := #[]
  instanceTypes := #[]
  staticTypes := #[]
  resolved := Array.replicate 8 none
  statics := none }

def pool4 : Array CpInfo := pool [(1, u "java/io/Serializable"), (0, .class_ 1), (0, u "java/lang/Object"), (0, .class_ 3)] 3

/-- java/io/Serializable -/
def k4 : Class := { plain "java/io/Serializable" (some 0) with
  accessFlags := 1537
  interfaces := #[]
  cf := some (fileOf pool4 2 #[] #[] 1537 4 #[] #[])
  fields := #[]
  methods := #[]
  instanceTypes := #[]
  staticTypes := #[]
  resolved := Array.replicate 8 none
  statics := none }

/-- the primitive byte -/
def k5 : Class := { plain "byte" none with kind := .primitive 'B', accessFlags := 0x411 }
/-- [B -/
def k6 : Class := { plain "[B" (some 0) with kind := .array 5 .byte, interfaces := #[3, 4], accessFlags := 1041 }

/-- the primitive int -/
def k7 : Class := { plain "int" none with kind := .primitive 'I', accessFlags := 0x411 }
/-- [I -/
def k8 : Class := { plain "[I" (some 0) with kind := .array 7 .int, interfaces := #[3, 4], accessFlags := 1041 }

def heap : Heap := #[]
def classes : Array Class := #[k0, k1, k2, k3, k4, k5, k6, k7, k8]
def interned : List (Array UInt16 × Addr) := []
def slotsUsed : Nat := 0
def theMethod : MethodId := ⟨1, 1⟩
def args0 : Array Value := #[.int 5, .long 77, .int 1, .int 3]
def aboutOver (below : List Frame) : State where
  vm := { classes := classes, interned := interned.toArray }
  heap := heap
  slotsUsed := slotsUsed
  threads := #[{ frames := .invoking theMethod args0 :: below }]
def below0 : List Frame := [.native { method := ⟨0, 0⟩, args := #[] }]
def about1 : State := aboutOver below0
def p0 : Program := .bare "" "" ""
def e0 : Env := launch0.env 0 0 0
theorem w_frames : about1.frames = Frame.invoking theMethod args0 :: below0 := rfl
set_option maxRecDepth 65536 in
theorem w_args : argsFit about1.vm theMethod args0 = true := by decide +kernel
set_option maxRecDepth 65536 in
theorem w_heap : heapFits about1 = true := by decide +kernel
set_option maxRecDepth 65536 in
theorem w_runnable : about1.curStatus? = some .runnable := by decide +kernel
set_option maxRecDepth 65536 in
theorem w_alone : about1.alone = true := by decide +kernel
set_option maxRecDepth 65536 in
theorem w_named : about1.methodNamed? x = some theMethod := by decide +kernel
set_option maxRecDepth 65536 in
theorem w_hears : about1.hears theMethod below0 = true := by decide +kernel
set_option maxRecDepth 65536 in
theorem w_ripe : about1.ripe theMethod args0 below0 = true := by decide +kernel
theorem w_running : about1.status = .running := rfl
set_option maxRecDepth 65536 in
theorem w_room : about1.hasRoom e0.platform room_1 = true :=
  launch0.hasRoom_least _ room_1 (by decide +kernel) (by decide +kernel) (by decide +kernel) (by decide +kernel) (by decide +kernel) (by decide +kernel)
theorem allAtoms_all (ts : List Jvm.Cond) (a : Array Jvm.Value) (st : Jvm.State) : (allAtoms ts).before a st = ts.all (fun c => c.before a st) := by
  induction ts with
  | nil => rfl
  | cons c t ih =>
    show (Jvm.Cond.and c (allAtoms t)).before a st = _
    rw [Jvm.Cond.before_and, ih, List.all_cons]
def words1 : List Jvm.Cond := Jvm.Cond.code x code maxLocals ret :: tables_1
/-- a 'code' word, met by the world's own term for the bytes: nothing is compared byte by byte -/
theorem code_word {y : MethodName} {bytes : ByteArray} {mx : Nat} {rt : Option FieldType} {a : Array Value} {s : State} {m : MethodId} {meth : Method} {c : Code} (h1 : s.methodNamed? y = some m) (h2 : s.vm.method? m = some meth) (h3 : meth.code = some c) (h4 : c.code = bytes)
    (h5 : (c.maxLocals == mx && c.exceptionTable.isEmpty && decide (c.maxStack ≤ mostOperands) && decide (meth.sig.returnType = rt) && !meth.locks && decide (parseMethodDescriptor y.desc = some meth.sig)) = true) : (Jvm.Cond.code y bytes mx rt).before a s = true := by
  simp only [Bool.and_eq_true, beq_iff_eq, Bool.not_eq_true', decide_eq_true_eq] at h5
  obtain ⟨⟨⟨⟨⟨g1, g2⟩, g3⟩, g4⟩, g5⟩, g6⟩ := h5
  simp [Cond.before, Cond.holds, Cond.value, h1, h2, h3, h4, g1, g2, g3, g4, g5, g6]
def isCode : Jvm.Cond → Bool
  | .code _ _ _ _ => true
  | _ => false
theorem all_split {L : List Jvm.Cond} {P : Jvm.Cond → Bool} (h1 : L.all (fun c => isCode c || P c) = true) (h2 : ∀ c ∈ L.filter isCode, P c = true) : L.all P = true := by
  refine List.all_eq_true.mpr fun c hc => ?_
  have h := List.all_eq_true.mp h1 c hc
  rcases Bool.eq_false_or_eq_true (isCode c) with hi | hi
  · exact h2 c (List.mem_filter.mpr ⟨hc, hi⟩)
  · simpa [hi] using h
set_option maxRecDepth 65536 in
theorem w_c0 : (Jvm.Cond.code x code maxLocals ret).before args0 about1 = true := code_word (m := ⟨1, 1⟩) (meth := k1m1) (c := k1c1) (by decide +kernel) rfl rfl rfl (by decide +kernel)
set_option maxRecDepth 65536 in
theorem w_c1 : (Jvm.Cond.code ({ cls := "com/example/enlace/enlace/graph/LineFieldsAdvancePinLaw", name := "pick", desc := "(IJI)B" } : Jvm.MethodName) method_4_code (5 : Nat) (Option.some Jvm.ClassFile.FieldType.byte)).before args0 about1 = true := code_word (m := ⟨1, 3⟩) (meth := k1m3) (c := k1c3) (by decide +kernel) rfl rfl rfl (by decide +kernel)
set_option maxRecDepth 65536 in
theorem w_c2 : (Jvm.Cond.code ({ cls := "com/example/enlace/enlace/graph/LineFieldsAdvancePinLaw", name := "isBlank", desc := "(B)Z" } : Jvm.MethodName) method_5_code (1 : Nat) (Option.some Jvm.ClassFile.FieldType.boolean)).before args0 about1 = true := code_word (m := ⟨1, 4⟩) (meth := k1m4) (c := k1c4) (by decide +kernel) rfl rfl rfl (by decide +kernel)
set_option maxRecDepth 65536 in
theorem w_c3 : (Jvm.Cond.code ({ cls := "com/example/enlace/enlace/graph/LineFieldsAdvancePinLaw", name := "range", desc := "(II)I" } : Jvm.MethodName) method_6_code (2 : Nat) (Option.some Jvm.ClassFile.FieldType.int)).before args0 about1 = true := code_word (m := ⟨1, 5⟩) (meth := k1m5) (c := k1c5) (by decide +kernel) rfl rfl rfl (by decide +kernel)
set_option maxRecDepth 65536 in
theorem w_c4 : (Jvm.Cond.code ({ cls := "com/example/enlace/enlace/graph/LineFieldsAdvancePinLaw", name := "lowest", desc := "(I)I" } : Jvm.MethodName) method_7_code (1 : Nat) (Option.some Jvm.ClassFile.FieldType.int)).before args0 about1 = true := code_word (m := ⟨1, 6⟩) (meth := k1m6) (c := k1c6) (by decide +kernel) rfl rfl rfl (by decide +kernel)
set_option maxRecDepth 65536 in
theorem w_c5 : (Jvm.Cond.code ({ cls := "com/example/enlace/enlace/graph/LineFields", name := "<init>", desc := "()V" } : Jvm.MethodName) prog_21_method_1_code (1 : Nat) (Option.none : Option Jvm.ClassFile.FieldType)).before args0 about1 = true := code_word (m := ⟨2, 0⟩) (meth := k2m0) (c := k2c0) (by decide +kernel) rfl rfl rfl (by decide +kernel)
set_option maxRecDepth 65536 in
theorem w_c6 : (Jvm.Cond.code ({ cls := "java/lang/Object", name := "<init>", desc := "()V" } : Jvm.MethodName) object_method_1_code (1 : Nat) (Option.none : Option Jvm.ClassFile.FieldType)).before args0 about1 = true := code_word (m := ⟨0, 0⟩) (meth := k0m0) (c := k0c0) (by decide +kernel) rfl rfl rfl (by decide +kernel)
set_option maxRecDepth 65536 in
theorem w_c7 : (Jvm.Cond.code ({ cls := "com/example/enlace/enlace/graph/LineFields", name := "reset", desc := "([BII)V" } : Jvm.MethodName) prog_21_method_3_code (6 : Nat) (Option.none : Option Jvm.ClassFile.FieldType)).before args0 about1 = true := code_word (m := ⟨2, 1⟩) (meth := k2m1) (c := k2c1) (by decide +kernel) rfl rfl rfl (by decide +kernel)
set_option maxRecDepth 65536 in
theorem w_c8 : (Jvm.Cond.code ({ cls := "com/example/enlace/enlace/graph/LineFields", name := "skipBlanks", desc := "(I)I" } : Jvm.MethodName) prog_21_method_12_code (3 : Nat) (Option.some Jvm.ClassFile.FieldType.int)).before args0 about1 = true := code_word (m := ⟨2, 5⟩) (meth := k2m5) (c := k2c5) (by decide +kernel) rfl rfl rfl (by decide +kernel)
set_option maxRecDepth 65536 in
theorem w_c9 : (Jvm.Cond.code ({ cls := "com/example/enlace/enlace/graph/LineFieldsAdvancePinLaw", name := "step", desc := "(Lcom/example/enlace/enlace/graph/LineFields;II[I)Z" } : Jvm.MethodName) method_3_code (7 : Nat) (Option.some Jvm.ClassFile.FieldType.boolean)).before args0 about1 = true := code_word (m := ⟨1, 2⟩) (meth := k1m2) (c := k1c2) (by decide +kernel) rfl rfl rfl (by decide +kernel)
set_option maxRecDepth 65536 in
theorem w_c10 : (Jvm.Cond.code ({ cls := "com/example/enlace/enlace/graph/LineFields", name := "advance", desc := "()Z" } : Jvm.MethodName) prog_21_method_4_code (3 : Nat) (Option.some Jvm.ClassFile.FieldType.boolean)).before args0 about1 = true := code_word (m := ⟨2, 2⟩) (meth := k2m2) (c := k2c2) (by decide +kernel) rfl rfl rfl (by decide +kernel)
set_option maxRecDepth 65536 in
theorem w_c11 : (Jvm.Cond.code ({ cls := "com/example/enlace/enlace/graph/LineFields", name := "fieldStart", desc := "()I" } : Jvm.MethodName) prog_21_method_8_code (1 : Nat) (Option.some Jvm.ClassFile.FieldType.int)).before args0 about1 = true := code_word (m := ⟨2, 3⟩) (meth := k2m3) (c := k2c3) (by decide +kernel) rfl rfl rfl (by decide +kernel)
set_option maxRecDepth 65536 in
theorem w_c12 : (Jvm.Cond.code ({ cls := "com/example/enlace/enlace/graph/LineFields", name := "fieldEnd", desc := "()I" } : Jvm.MethodName) prog_21_method_9_code (1 : Nat) (Option.some Jvm.ClassFile.FieldType.int)).before args0 about1 = true := code_word (m := ⟨2, 4⟩) (meth := k2m4) (c := k2c4) (by decide +kernel) rfl rfl rfl (by decide +kernel)
set_option maxRecDepth 65536 in
theorem w_c13 : (Jvm.Cond.code ({ cls := "com/example/enlace/enlace/graph/LineFields", name := "isBlank", desc := "(B)Z" } : Jvm.MethodName) prog_21_method_13_code (1 : Nat) (Option.some Jvm.ClassFile.FieldType.boolean)).before args0 about1 = true := code_word (m := ⟨2, 6⟩) (meth := k2m6) (c := k2c6) (by decide +kernel) rfl rfl rfl (by decide +kernel)
def codes1 : List Jvm.Cond := [Jvm.Cond.code x code maxLocals ret, Jvm.Cond.code ({ cls := "com/example/enlace/enlace/graph/LineFieldsAdvancePinLaw", name := "pick", desc := "(IJI)B" } : Jvm.MethodName) method_4_code (5 : Nat) (Option.some Jvm.ClassFile.FieldType.byte), Jvm.Cond.code ({ cls := "com/example/enlace/enlace/graph/LineFieldsAdvancePinLaw", name := "isBlank", desc := "(B)Z" } : Jvm.MethodName) method_5_code (1 : Nat) (Option.some Jvm.ClassFile.FieldType.boolean), Jvm.Cond.code ({ cls := "com/example/enlace/enlace/graph/LineFieldsAdvancePinLaw", name := "range", desc := "(II)I" } : Jvm.MethodName) method_6_code (2 : Nat) (Option.some Jvm.ClassFile.FieldType.int), Jvm.Cond.code ({ cls := "com/example/enlace/enlace/graph/LineFieldsAdvancePinLaw", name := "lowest", desc := "(I)I" } : Jvm.MethodName) method_7_code (1 : Nat) (Option.some Jvm.ClassFile.FieldType.int), Jvm.Cond.code ({ cls := "com/example/enlace/enlace/graph/LineFields", name := "<init>", desc := "()V" } : Jvm.MethodName) prog_21_method_1_code (1 : Nat) (Option.none : Option Jvm.ClassFile.FieldType), Jvm.Cond.code ({ cls := "java/lang/Object", name := "<init>", desc := "()V" } : Jvm.MethodName) object_method_1_code (1 : Nat) (Option.none : Option Jvm.ClassFile.FieldType), Jvm.Cond.code ({ cls := "com/example/enlace/enlace/graph/LineFields", name := "reset", desc := "([BII)V" } : Jvm.MethodName) prog_21_method_3_code (6 : Nat) (Option.none : Option Jvm.ClassFile.FieldType), Jvm.Cond.code ({ cls := "com/example/enlace/enlace/graph/LineFields", name := "skipBlanks", desc := "(I)I" } : Jvm.MethodName) prog_21_method_12_code (3 : Nat) (Option.some Jvm.ClassFile.FieldType.int), Jvm.Cond.code ({ cls := "com/example/enlace/enlace/graph/LineFieldsAdvancePinLaw", name := "step", desc := "(Lcom/example/enlace/enlace/graph/LineFields;II[I)Z" } : Jvm.MethodName) method_3_code (7 : Nat) (Option.some Jvm.ClassFile.FieldType.boolean), Jvm.Cond.code ({ cls := "com/example/enlace/enlace/graph/LineFields", name := "advance", desc := "()Z" } : Jvm.MethodName) prog_21_method_4_code (3 : Nat) (Option.some Jvm.ClassFile.FieldType.boolean), Jvm.Cond.code ({ cls := "com/example/enlace/enlace/graph/LineFields", name := "fieldStart", desc := "()I" } : Jvm.MethodName) prog_21_method_8_code (1 : Nat) (Option.some Jvm.ClassFile.FieldType.int), Jvm.Cond.code ({ cls := "com/example/enlace/enlace/graph/LineFields", name := "fieldEnd", desc := "()I" } : Jvm.MethodName) prog_21_method_9_code (1 : Nat) (Option.some Jvm.ClassFile.FieldType.int), Jvm.Cond.code ({ cls := "com/example/enlace/enlace/graph/LineFields", name := "isBlank", desc := "(B)Z" } : Jvm.MethodName) prog_21_method_13_code (1 : Nat) (Option.some Jvm.ClassFile.FieldType.boolean)]
set_option maxRecDepth 65536 in
theorem codes_eq : words1.filter isCode = codes1 := rfl
theorem w_codes : ∀ c ∈ words1.filter isCode, c.before args0 about1 = true := by
  rw [codes_eq]
  intro c hc
  simp only [codes1, List.mem_cons, List.not_mem_nil, or_false] at hc
  rcases hc with rfl | rfl | rfl | rfl | rfl | rfl | rfl | rfl | rfl | rfl | rfl | rfl | rfl | rfl
  · exact w_c0
  · exact w_c1
  · exact w_c2
  · exact w_c3
  · exact w_c4
  · exact w_c5
  · exact w_c6
  · exact w_c7
  · exact w_c8
  · exact w_c9
  · exact w_c10
  · exact w_c11
  · exact w_c12
  · exact w_c13
set_option maxRecDepth 65536 in
theorem w_t1 : (words1.take 24).all (fun c => isCode c || c.before args0 about1) = true := by decide +kernel
set_option maxRecDepth 65536 in
theorem w_t2 : ((words1.drop 24).take 24).all (fun c => isCode c || c.before args0 about1) = true := by decide +kernel
set_option maxRecDepth 65536 in
theorem w_t3 : ((words1.drop 24).drop 24).all (fun c => isCode c || c.before args0 about1) = true := by decide +kernel
theorem w_tables : (allAtoms (Jvm.Cond.code x code maxLocals ret :: tables_1)).before args0 about1 = true := by
  rw [allAtoms_all]
  show words1.all (fun c => c.before args0 about1) = true
  refine all_split ?_ w_codes
  rw [← List.take_append_drop 24 words1, List.all_append, w_t1, ← List.take_append_drop 24 (words1.drop 24), List.all_append, w_t2, w_t3]
  rfl
set_option maxRecDepth 65536 in
theorem w_case : (Jvm.Cond.and given_1 narrow_1).before args0 about1 = true := by decide +kernel
theorem w_applies : (headSpec (Jvm.Cond.code x code maxLocals ret :: tables_1) room_1).applies x e0.platform about1 = true :=
  (Spec.applies_iff w_frames).mpr ⟨w_running, w_runnable, w_alone, w_named, w_hears, w_ripe, w_room, w_tables⟩
theorem atStart : AtStart classFile x code maxLocals ret World_1 tables_1 room_1 Calls_1 rest_1 Pre_1 launch0 p0 e0 about1 theMethod args0 below0 :=
  ⟨lists_1, trivial, launch0.admits_env _ _ _, launch0.least_env, fairChoices_fair.cas, fairChoices_fair.clock, w_frames, w_args, w_heap, w_applies, trivial, trivial, w_case⟩
end start1
theorem witness_1 : WitnessClaimed_1 := ⟨start1.p0, start1.e0, start1.about1, start1.theMethod, start1.args0, start1.below0, start1.atStart⟩
end Jvm.Pilot.@@N@@
