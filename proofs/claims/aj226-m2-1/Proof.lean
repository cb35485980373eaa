import JvmDerived
import JvmDerived.Pilot.@@N@@Statement
import JvmDerived.Pilot.@@N@@Code
set_option linter.unusedVariables false
set_option linter.unusedSimpArgs false
namespace Jvm.Pilot.@@N@@
open Jvm Jvm.ClassFile Sem Op Lib Jvm.Free Jvm.Stand Jvm.LawKit Jvm.RoadKit Bundle Jvm.Pilot.@@N@@.Jvm.D
section OwnGo
variable {p : Program} {l : Launch} {e : Env} {R : Room} {s : State} {m : MethodId} {args : Array Value} {below : List Frame} {meth : Method} {c : Code} {T : State} {locs : List Loc} {cells slots : Nat}
/-- from S the run ends, returned, with Q -/
def own_Go (p : Program) (e : Env) (below : List Frame) (s : State) (Q : Option Value → Heap → List Loc → Prop) (cs ss : Nat) (S : State) : Prop :=
  ∃ (U : State) (o : Outcome), Steps p.tables e below S U ∧ U.status = .running ∧ Ended U below o ∧ ∃ v L, o = .returned v ∧ Q v U.heap L ∧ FrameEnd s o U L cs ss
variable {Q : Option Value → Heap → List Loc → Prop} {cs ss : Nat} {S S' : State}
theorem own_via (st : ∀ t, Steps p.tables e below S' t → Steps p.tables e below S t) (k : own_Go p e below s Q cs ss S') : own_Go p e below s Q cs ss S := by
  obtain ⟨U, o, h, r⟩ := k; exact ⟨U, o, st U h, r⟩
theorem own_viaT (st : Steps p.tables e below S S') (k : own_Go p e below s Q cs ss S') : own_Go p e below s Q cs ss S := own_via (fun _ h => st.trans h) k
theorem own_goV (X : Stand p l e R s m args below meth c T locs cells slots) (hx : p.tables.exec = Jvm.exec) {pc : Nat} {Ls : Array Slot} (hret : meth.sig.returnType = none) (hd : decode c.code pc = .ok (.return_, 1)) (hk : meth.locks = false) (hc : cells ≤ cs) (hs : slots ≤ ss) (hQ : Q none T.heap locs) :
    own_Go p e below s Q cs ss (T.setTop (mkF m pc Ls [])) := by
  obtain ⟨fs, hr, hrun, hended, hW, hsame⟩ := X.leave (v := none) (fun _ => rfl) hk
  exact ⟨_, _, X.returnOut hx hret hd hr, hrun, hended, _, _, rfl, hQ, ⟨_, rfl⟩, hW, hsame.mono hc hs⟩
theorem own_goN (X : Stand p l e R s m args below meth c T locs cells slots) (hx : p.tables.exec = Jvm.exec) {pc : Nat} {Ls : Array Slot} {z : Int32} {t : FieldType} {rest : List Value} (hret : meth.sig.returnType = some t) (ht : t = .boolean ∨ t = .byte ∨ t = .char ∨ t = .short) (hd : decode c.code pc = .ok (.ireturn, 1)) (hk : meth.locks = false) (hc : cells ≤ cs) (hs : slots ≤ ss) (hQ : Q (some (.int (nar t z))) T.heap locs) :
    own_Go p e below s Q cs ss (T.setTop (mkF m pc Ls (.int z :: rest))) := by
  obtain ⟨fs, hr, hrun, hended, hW, hsame⟩ := X.leave (v := some (.int (nar t z))) (fun h => by rw [hret] at h; cases h) hk
  exact ⟨_, _, retN X hx hret ht hd hr, hrun, hended, _, _, rfl, hQ, ⟨_, rfl⟩, hW, hsame.mono hc hs⟩
theorem own_goI (X : Stand p l e R s m args below meth c T locs cells slots) (hx : p.tables.exec = Jvm.exec) {pc : Nat} {Ls : Array Slot} {z : Int32} (hret : meth.sig.returnType = some .int) (hd : decode c.code pc = .ok (.ireturn, 1)) (hk : meth.locks = false) (hc : cells ≤ cs) (hs : slots ≤ ss) (hQ : Q (some (.int z)) T.heap locs) :
    own_Go p e below s Q cs ss (T.setTop (mkF m pc Ls [.int z])) := by
  obtain ⟨fs, hr, hrun, hended, hW, hsame⟩ := X.leave (v := some (.int z)) (fun h => by rw [hret] at h; cases h) hk
  exact ⟨_, _, X.ireturnOut hx hret rfl (Or.inl rfl) hd hr, hrun, hended, _, _, rfl, hQ, ⟨_, rfl⟩, hW, hsame.mono hc hs⟩
theorem own_goJ (X : Stand p l e R s m args below meth c T locs cells slots) (hx : p.tables.exec = Jvm.exec) {pc : Nat} {Ls : Array Slot} {z : Int64} (hret : meth.sig.returnType = some .long) (hd : decode c.code pc = .ok (.lreturn, 1)) (hk : meth.locks = false) (hc : cells ≤ cs) (hs : slots ≤ ss) (hQ : Q (some (.long z)) T.heap locs) :
    own_Go p e below s Q cs ss (T.setTop (mkF m pc Ls [.long z])) := by
  obtain ⟨fs, hr, hrun, hended, hW, hsame⟩ := X.leave (v := some (.long z)) (fun h => by rw [hret] at h; cases h) hk
  exact ⟨_, _, X.lreturnOut hx hret hd hr, hrun, hended, _, _, rfl, hQ, ⟨_, rfl⟩, hW, hsame.mono hc hs⟩
theorem own_goA (X : Stand p l e R s m args below meth c T locs cells slots) (hx : p.tables.exec = Jvm.exec) {pc : Nat} {Ls : Array Slot} {w : Value} {t : FieldType} (hw : w.isRef = true) (hret : meth.sig.returnType = some t) (ht : t.isReference = true) (hd : decode c.code pc = .ok (.areturn, 1)) (hk : meth.locks = false) (hc : cells ≤ cs) (hs : slots ≤ ss) (hQ : Q (some w) T.heap locs) :
    own_Go p e below s Q cs ss (T.setTop (mkF m pc Ls [w])) := by
  obtain ⟨fs, hr, hrun, hended, hW, hsame⟩ := X.leave (v := some w) (fun h => by rw [hret] at h; cases h) hk
  exact ⟨_, _, X.areturnOut hx hw hret ht hd hr, hrun, hended, _, _, rfl, hQ, ⟨_, rfl⟩, hW, hsame.mono hc hs⟩
theorem own_selP {s : State} {args : Array Value} {y y' : MethodName} (hs : (Cond.selects y'.cls y' y').before args s = true) (hc : y'.cls = y.cls) (hpriv : s.PrivateAt y) (hinst : (Cond.instanceMethod y).before args s = true) (hy : y.cls ≠ "java/lang/invoke/MethodHandle" ∧ y.cls ≠ "java/lang/invoke/VarHandle") : (Cond.selects y.cls y y).before args s = true := by
  obtain ⟨c2, r2, m2, -, -, q3, -, kP, hkP, hkPi⟩ := Cond.selects_spec hs
  exact selects_self_of_private (hc ▸ findClass_of_methodNamed q3) hkP hkPi hpriv hinst hy
end OwnGo
def o_i2l (x : Int32) : Int64 := x.toInt64
def o_l2i (x : Int64) : Int32 := x.toInt32
def o_i2b (x : Int32) : Int32 := x.toInt8.toInt32
def o_i2s (x : Int32) : Int32 := x.toInt16.toInt32
def o_i2c (x : Int32) : Int32 := x.toUInt32.toUInt16.toUInt32.toInt32
def o_ishl (x y : Int32) : Int32 := x <<< (y &&& 31)
def o_ishr (x y : Int32) : Int32 := x >>> (y &&& 31)
def o_iushr (x y : Int32) : Int32 := (x.toUInt32 >>> (y &&& 31).toUInt32).toInt32
def o_lshl (x : Int64) (y : Int32) : Int64 := x <<< (y &&& 0x3f).toInt64
def o_lshr (x : Int64) (y : Int32) : Int64 := x >>> (y &&& 0x3f).toInt64
def o_lushr (x : Int64) (y : Int32) : Int64 := (x.toUInt64 >>> (y &&& 0x3f).toInt64.toUInt64).toInt64
def o_irem (x y : Int32) : Int32 := x - (x / y) * y
def o_lrem (x y : Int64) : Int64 := x - (x / y) * y
def o_d0 : UInt64 := FP.dconst0
def o_d1 : UInt64 := FP.dconst1
theorem d10_0 : decode prog_21_method_13_code 0 = .ok (.iload_n 0, 1) := by decide +kernel
theorem d10_1 : decode prog_21_method_13_code 1 = .ok (.bipush 32, 2) := by decide +kernel
theorem d10_3 : decode prog_21_method_13_code 3 = .ok (.if_icmp .eq 9, 3) := by decide +kernel
theorem d10_12 : decode prog_21_method_13_code 12 = .ok (.iconst 1, 1) := by decide +kernel
theorem d10_13 : decode prog_21_method_13_code 13 = .ok (.goto 4, 3) := by decide +kernel
theorem d10_17 : decode prog_21_method_13_code 17 = .ok (.ireturn, 1) := by decide +kernel
theorem d10_6 : decode prog_21_method_13_code 6 = .ok (.iload_n 0, 1) := by decide +kernel
theorem d10_7 : decode prog_21_method_13_code 7 = .ok (.bipush 9, 2) := by decide +kernel
theorem d10_9 : decode prog_21_method_13_code 9 = .ok (.if_icmp .ne 7, 3) := by decide +kernel
theorem d10_16 : decode prog_21_method_13_code 16 = .ok (.iconst 0, 1) := by decide +kernel
def own_bl (p0 : Int32) : Int32 := (if p0 = (32 : Int32) then (1 : Int32) else (if p0 = (9 : Int32) then (1 : Int32) else (0 : Int32)))
theorem pn_0 : plainName "com/example/enlace/enlace/graph/LineFields" = true := by first | (simp [plainName, overriddenIn]; done) | decide +kernel
theorem ef_10 (m : MethodId) (x0 : Int32) : entryFrame m #[(.int x0)] 1 = mkF m 0 #[.val (.int x0)] [] := by first | (simp [entryFrame, mkF, argsToLocals, Value.category]; done) | rfl
def Q10 (Z : State) (p0 : Int32) (h0 : Heap) (n0 : Nat) (v : Option Value) (h : Heap) (L : List Loc) : Prop := v = some (.int (own_bl p0)) ∧ Fr n0 L ∧ h = h0
set_option maxRecDepth 65536 in
set_option maxHeartbeats 40000000 in
theorem rm10 (l : Launch) (Z : State) (a0 : Array Value) (hw : ∀ d ∈ tables_1, d.before a0 Z = true) (ws : List Jvm.Cond) (p0 : Int32) (h0 : Heap) (n0 : Nat) (Z0 : n0 ≤ h0.size) :
    MetFree l (⟨"com/example/enlace/enlace/graph/LineFields", "isBlank", "(B)Z"⟩ : MethodName) (head1 (Jvm.Cond.code (⟨"com/example/enlace/enlace/graph/LineFields", "isBlank", "(B)Z"⟩ : MethodName) prog_21_method_13_code 1 (some .boolean) :: ws) ({ frames := 0, cells := 0, slots := 0, locals := 0 } : Room)) (fun q_ U => q_ = #[(.int p0)] ∧ Z.Warmed39 U.vm ∧ U.heap = h0) (fun _ _ _ _ _ => True) (fun _ U o U' => ∃ v L, o = .returned v ∧ Q10 Z p0 h0 n0 v U'.heap L ∧ FrameEnd U o U' L ({ frames := 0, cells := 0, slots := 0, locals := 0 } : Room).cells ({ frames := 0, cells := 0, slots := 0, locals := 0 } : Room).slots) := by
  refine MetFree.of_bodySF (plainFor_of_name pn_0) hisR ?_
  intro p e s m args below meth c s₁ Bd hml0 hP hK
  obtain ⟨rfl, hZ, hh⟩ := hP
  have hx := Bd.exec
  have hby := Bd.bytes
  have hml : c.maxLocals = 1 := hml0
  have hown : s.vm.findClass "com/example/enlace/enlace/graph/LineFields" = some m.cls := findClass_of_methodNamed Bd.named
  have hnm := (name_of_methodNamed Bd.named Bd.method).1
  have X0 : Stand p l e ({ frames := 0, cells := 0, slots := 0, locals := 0 } : Room) s m #[(.int p0)] below meth c s₁ [] 0 0 := Stand.of_body Bd
  have e0 : s₁.heap = h0 := by rw [← hh, Bd.state]; rfl
  have N0 := Fr.nil n0
  show own_Go p e below s (Q10 Z p0 h0 n0) ({ frames := 0, cells := 0, slots := 0, locals := 0 } : Room).cells ({ frames := 0, cells := 0, slots := 0, locals := 0 } : Room).slots (s₁.setTop (entryFrame m #[(.int p0)] 1))
  refine own_via (fun t k => castTop (ef_10 m p0) k) ?_
  show own_Go p e below s _ _ _ (s₁.setTop (mkF m 0 #[.val (.int p0)] []))
  refine own_via (fun _ k => XS.iloadN X0.here hx rfl (hb hby d10_0) rfl k) ?_
  show own_Go p e below s _ _ _ (s₁.setTop (mkF m 1 #[.val (.int p0)] [(.int p0)]))
  refine own_via (fun _ k => XS.bipush X0.here hx rfl (hb hby d10_1) k) ?_
  show own_Go p e below s _ _ _ (s₁.setTop (mkF m 3 #[.val (.int p0)] [(.int (32 : Int32)), (.int p0)]))
  by_cases hc1 : p0 = (32 : Int32)
  · refine own_via (fun _ k => XS.icmpYes X0.here hx rfl (pc0 := 3) (pc' := 12) rfl (hb hby d10_3) rfl (Jvm.Free.XT.ii_eq_t hc1) (by decide) (by decide) k) ?_
    show own_Go p e below s _ _ _ (s₁.setTop (mkF m 12 #[.val (.int p0)] []))
    refine own_via (fun _ k => XS.iconst X0.here hx rfl (hb hby d10_12) k) ?_
    show own_Go p e below s _ _ _ (s₁.setTop (mkF m 13 #[.val (.int p0)] [(.int (1 : Int32))]))
    refine own_via (fun _ k => XS.goto X0.here hx rfl (pc0 := 13) (pc' := 17) rfl (hb hby d10_13) (by decide) (by decide) k) ?_
    show own_Go p e below s _ _ _ (s₁.setTop (mkF m 17 #[.val (.int p0)] [(.int (1 : Int32))]))
    exact own_goN X0 hx (t := .boolean) Bd.returns (by simp) (hb hby d10_17) Bd.notSynchronized (by decide) (by decide) (by rw [e0]; exact ⟨by rw [own_bl, if_pos hc1] <;> rfl, N0, rfl⟩)
  · refine own_via (fun _ k => XS.icmpNo X0.here hx rfl (hb hby d10_3) rfl (Jvm.Free.XT.ii_eq_f hc1) k) ?_
    show own_Go p e below s _ _ _ (s₁.setTop (mkF m 6 #[.val (.int p0)] []))
    refine own_via (fun _ k => XS.iloadN X0.here hx rfl (hb hby d10_6) rfl k) ?_
    show own_Go p e below s _ _ _ (s₁.setTop (mkF m 7 #[.val (.int p0)] [(.int p0)]))
    refine own_via (fun _ k => XS.bipush X0.here hx rfl (hb hby d10_7) k) ?_
    show own_Go p e below s _ _ _ (s₁.setTop (mkF m 9 #[.val (.int p0)] [(.int (9 : Int32)), (.int p0)]))
    by_cases hc2 : p0 = (9 : Int32)
    · refine own_via (fun _ k => XS.icmpNo X0.here hx rfl (hb hby d10_9) rfl (Jvm.Free.XT.ii_ne_f hc2) k) ?_
      show own_Go p e below s _ _ _ (s₁.setTop (mkF m 12 #[.val (.int p0)] []))
      refine own_via (fun _ k => XS.iconst X0.here hx rfl (hb hby d10_12) k) ?_
      show own_Go p e below s _ _ _ (s₁.setTop (mkF m 13 #[.val (.int p0)] [(.int (1 : Int32))]))
      refine own_via (fun _ k => XS.goto X0.here hx rfl (pc0 := 13) (pc' := 17) rfl (hb hby d10_13) (by decide) (by decide) k) ?_
      show own_Go p e below s _ _ _ (s₁.setTop (mkF m 17 #[.val (.int p0)] [(.int (1 : Int32))]))
      exact own_goN X0 hx (t := .boolean) Bd.returns (by simp) (hb hby d10_17) Bd.notSynchronized (by decide) (by decide) (by rw [e0]; exact ⟨by rw [own_bl, if_neg hc1, if_pos hc2] <;> rfl, N0, rfl⟩)
    · refine own_via (fun _ k => XS.icmpYes X0.here hx rfl (pc0 := 9) (pc' := 16) rfl (hb hby d10_9) rfl (Jvm.Free.XT.ii_ne_t hc2) (by decide) (by decide) k) ?_
      show own_Go p e below s _ _ _ (s₁.setTop (mkF m 16 #[.val (.int p0)] []))
      refine own_via (fun _ k => XS.iconst X0.here hx rfl (hb hby d10_16) k) ?_
      show own_Go p e below s _ _ _ (s₁.setTop (mkF m 17 #[.val (.int p0)] [(.int (0 : Int32))]))
      exact own_goN X0 hx (t := .boolean) Bd.returns (by simp) (hb hby d10_17) Bd.notSynchronized (by decide) (by decide) (by rw [e0]; exact ⟨by rw [own_bl, if_neg hc1, if_neg hc2] <;> rfl, N0, rfl⟩)

theorem own_t (n : Nat) (h : n ≤ 16) : (Nat.toInt32 n).toInt = n := len_toInt (by omega)
theorem own_ltn {i j : Nat} (hj : j ≤ 16) (hi : i ≤ 16) : (Nat.toInt32 i) < (Nat.toInt32 j) ↔ i < j := by
  rw [Int32.lt_iff_toInt_lt, own_t i hi, own_t j hj]; omega
theorem own_nn {i : Nat} (hi : i ≤ 16) : ¬ (Nat.toInt32 i) < 0 := by
  rw [Int32.lt_iff_toInt_lt, own_t i hi]; simp only [Int32.reduceToInt]; omega
theorem own_nc {i : Nat} (hi : i ≤ 16) : (Nat.toInt32 i).toNatClampNeg = i := by simp only [Int32.toNatClampNeg, own_t i hi]; omega
theorem own_succ (i : Nat) : (Nat.toInt32 i) + (1 : Int32) = Nat.toInt32 (i + 1) := by
  apply Int32.toBitVec_inj.mp
  show BitVec.ofNat 32 i + 1#32 = BitVec.ofNat 32 (i + 1)
  apply BitVec.eq_of_toNat_eq; simp [BitVec.toNat_add]
theorem own_pred {i : Nat} (h : 0 < i) : (Nat.toInt32 i) - (1 : Int32) = Nat.toInt32 (i - 1) := by
  have q := own_succ (i - 1)
  rw [show i - 1 + 1 = i by omega] at q
  rw [← q, Int32.add_sub_cancel]
theorem own_pred' {i : Nat} (h : 0 < i) : (Nat.toInt32 i) + (-1 : Int32) = Nat.toInt32 (i - 1) := by
  rw [← own_pred h, Int32.sub_eq_add_neg]
theorem own_eqn {i j : Nat} (hi : i ≤ 16) (hj : j ≤ 16) : (Nat.toInt32 i) = (Nat.toInt32 j) ↔ i = j := by
  rw [← Int32.toInt_inj, own_t i hi, own_t j hj]; omega
theorem own_inb {i : Nat} {z : Int32} (hi : i ≤ 16) (hz : (i : Int) < z.toInt) : ¬ (Nat.toInt32 i) < 0 ∧ (Nat.toInt32 i) < z := by
  refine ⟨own_nn hi, ?_⟩
  rw [Int32.lt_iff_toInt_lt, own_t i hi]; exact hz
def own_g (us : List Int32) (i : Nat) : Int32 := us.getD i 0
theorem own_gm (us : List Int32) {i : Nat} (hi : i ≤ 16) : (us.map Value.int).getD (Nat.toInt32 i).toNatClampNeg (.int (0 : Int32)) = .int (own_g us i) := by
  rw [own_nc hi]
  simp only [own_g, List.getD_eq_getElem?_getD, List.getElem?_map]
  cases us[i]? <;> rfl
def own_sk (us : List Int32) : Nat → Nat → Nat
  | 0, i => i
  | n + 1, i => if own_bl (own_g us i) = (0 : Int32) then i else own_sk us n (i + 1)
def own_nb (us : List Int32) : Nat → Nat → Nat
  | 0, i => i
  | n + 1, i => if own_bl (own_g us i) = (0 : Int32) then own_nb us n (i + 1) else i
theorem own_sk_r (us : List Int32) : ∀ (n i : Nat), i ≤ own_sk us n i ∧ own_sk us n i ≤ i + n
  | 0, i => ⟨Nat.le_refl _, Nat.le_refl _⟩
  | n + 1, i => by
    rw [own_sk]
    have := own_sk_r us n (i + 1)
    split <;> omega
theorem own_nb_r (us : List Int32) : ∀ (n i : Nat), i ≤ own_nb us n i ∧ own_nb us n i ≤ i + n
  | 0, i => ⟨Nat.le_refl _, Nat.le_refl _⟩
  | n + 1, i => by
    rw [own_nb]
    have := own_nb_r us n (i + 1)
    split <;> omega
def own_end (us : List Int32) (s e : Nat) : Nat := if s < e ∧ own_g us (e - 1) = (13 : Int32) then e - 1 else e
def own_pos (us : List Int32) (s e : Nat) : Nat := if own_sk us (e - s) s < e ∧ own_g us (own_sk us (e - s) s) = (35 : Int32) then e else own_sk us (e - s) s
def own_A (us : List Int32) (e q : Nat) : Nat := own_sk us (e - q) q
def own_Bk (us : List Int32) (e q : Nat) : Nat := own_nb us (e - own_A us e q) (own_A us e q)
def own_nr (us : List Int32) (e q : Nat) : Int32 := if own_A us e q = e then (0 : Int32) else (1 : Int32)
def own_nq (us : List Int32) (e q : Nat) : Nat := if own_A us e q = e then e else own_Bk us e q
def own_nfs (us : List Int32) (e q : Nat) (f : Int32) : Int32 := if own_A us e q = e then f else Nat.toInt32 (own_A us e q)
def own_nft (us : List Int32) (e q : Nat) (f : Int32) : Int32 := if own_A us e q = e then f else Nat.toInt32 (own_Bk us e q)
theorem own_A_r {us : List Int32} {e q : Nat} (h : q ≤ e) : q ≤ own_A us e q ∧ own_A us e q ≤ e := by
  have := own_sk_r us (e - q) q
  unfold own_A; omega
theorem own_nq_r {us : List Int32} {e q : Nat} (h : q ≤ e) : own_nq us e q ≤ e := by
  have := own_A_r (us := us) h
  have := own_nb_r us (e - own_A us e q) (own_A us e q)
  unfold own_nq own_Bk
  split <;> omega

theorem d4_0 : decode prog_21_method_12_code 0 = .ok (.iload_n 1, 1) := by decide +kernel
theorem d4_1 : decode prog_21_method_12_code 1 = .ok (.istore_n 2, 1) := by decide +kernel
theorem d4_2 : decode prog_21_method_12_code 2 = .ok (.iload_n 2, 1) := by decide +kernel
theorem d4_3 : decode prog_21_method_12_code 3 = .ok (.aload_n 0, 1) := by decide +kernel
theorem d4_4 : decode prog_21_method_12_code 4 = .ok (.getfield 29, 3) := by decide +kernel
theorem d4_7 : decode prog_21_method_12_code 7 = .ok (.if_icmp .ge 21, 3) := by decide +kernel
theorem d4_28 : decode prog_21_method_12_code 28 = .ok (.iload_n 2, 1) := by decide +kernel
theorem d4_29 : decode prog_21_method_12_code 29 = .ok (.ireturn, 1) := by decide +kernel
theorem d4_10 : decode prog_21_method_12_code 10 = .ok (.aload_n 0, 1) := by decide +kernel
theorem d4_11 : decode prog_21_method_12_code 11 = .ok (.getfield 25, 3) := by decide +kernel
theorem d4_14 : decode prog_21_method_12_code 14 = .ok (.iload_n 2, 1) := by decide +kernel
theorem d4_15 : decode prog_21_method_12_code 15 = .ok (.baload, 1) := by decide +kernel
theorem pd_0 : parseMethodDescriptor "(B)Z" = some ⟨[.byte], some .boolean⟩ := by decide +kernel
theorem d4_16 : decode prog_21_method_12_code 16 = .ok (.invokestatic 46, 3) := by decide +kernel
theorem d4_19 : decode prog_21_method_12_code 19 = .ok (.ifCond .eq 9, 3) := by decide +kernel
theorem d4_22 : decode prog_21_method_12_code 22 = .ok (.iinc 2 1, 3) := by decide +kernel
theorem d4_25 : decode prog_21_method_12_code 25 = .ok (.goto (-23), 3) := by decide +kernel
theorem ef_4 (m : MethodId) (x0 : Addr) (x1 : Int32) : entryFrame m #[(.ref x0), (.int x1)] 3 = mkF m 0 #[.val (.ref x0), .val (.int x1), .unset] [] := by first | (simp [entryFrame, mkF, argsToLocals, Value.category]; done) | rfl
def Q4 (Z : State) (a : Addr) (p_ : Int32) (b_ : Addr) (k_ : ClassId) (z_ : Int32) (us_ : List Int32) (e_ : Int32) (i0_ : Nat) (n0_ : Nat) (h0 : Heap) (n0 : Nat) (v : Option Value) (h : Heap) (L : List Loc) : Prop := v = some (.int (Nat.toInt32 (own_sk us_ n0_ i0_))) ∧ Fr n0 L ∧ h = h0
set_option maxRecDepth 65536 in
set_option maxHeartbeats 40000000 in
theorem rm4 (l : Launch) (Z : State) (a0 : Array Value) (hw : ∀ d ∈ tables_1, d.before a0 Z = true) (ws : List Jvm.Cond) (a : Addr) (p_ : Int32) (b_ : Addr) (k_ : ClassId) (z_ : Int32) (us_ : List Int32) (e_ : Int32) (i0_ : Nat) (n0_ : Nat) (h0 : Heap) (n0 : Nat) (Z0 : n0 ≤ h0.size) (F_bytes_a : Fld Z h0 a "com/example/enlace/enlace/graph/LineFields" "bytes" "[B" (.ref b_)) (F_end_a : Fld Z h0 a "com/example/enlace/enlace/graph/LineFields" "end" "I" (.int e_)) (V_b_ : Arv Z h0 b_ k_ .byte z_ (us_.map Value.int) (.int (0 : Int32))) (hp3 : p_ = Nat.toInt32 i0_) (hp4 : e_ = Nat.toInt32 (i0_ + n0_)) (hp5 : i0_ + n0_ ≤ 16) (hp6 : ((i0_ + n0_ : Nat) : Int) ≤ z_.toInt) :
    MetFree l (⟨"com/example/enlace/enlace/graph/LineFields", "skipBlanks", "(I)I"⟩ : MethodName) (head1 (Jvm.Cond.code (⟨"com/example/enlace/enlace/graph/LineFields", "skipBlanks", "(I)I"⟩ : MethodName) prog_21_method_12_code 3 (some .int) :: ws) ({ frames := 1, cells := 0, slots := 0, locals := 12 } : Room)) (fun q_ U => q_ = #[(.ref a), (.int p_)] ∧ Z.Warmed39 U.vm ∧ U.heap = h0) (fun _ _ _ _ _ => True) (fun _ U o U' => ∃ v L, o = .returned v ∧ Q4 Z a p_ b_ k_ z_ us_ e_ i0_ n0_ h0 n0 v U'.heap L ∧ FrameEnd U o U' L ({ frames := 1, cells := 0, slots := 0, locals := 12 } : Room).cells ({ frames := 1, cells := 0, slots := 0, locals := 12 } : Room).slots) := by
  refine MetFree.of_bodySF (plainFor_of_name pn_0) hisR ?_
  intro p e s m args below meth c s₁ Bd hml0 hP hK
  obtain ⟨rfl, hZ, hh⟩ := hP
  have hx := Bd.exec
  have hby := Bd.bytes
  have hml : c.maxLocals = 3 := hml0
  have hown : s.vm.findClass "com/example/enlace/enlace/graph/LineFields" = some m.cls := findClass_of_methodNamed Bd.named
  have hnm := (name_of_methodNamed Bd.named Bd.method).1
  have X0 : Stand p l e ({ frames := 1, cells := 0, slots := 0, locals := 12 } : Room) s m #[(.ref a), (.int p_)] below meth c s₁ [] 0 0 := Stand.of_body Bd
  have e0 : s₁.heap = h0 := by rw [← hh, Bd.state]; rfl
  have N0 := Fr.nil n0
  show own_Go p e below s (Q4 Z a p_ b_ k_ z_ us_ e_ i0_ n0_ h0 n0) ({ frames := 1, cells := 0, slots := 0, locals := 12 } : Room).cells ({ frames := 1, cells := 0, slots := 0, locals := 12 } : Room).slots (s₁.setTop (entryFrame m #[(.ref a), (.int p_)] 3))
  refine own_via (fun t k => castTop (ef_4 m a p_) k) ?_
  show own_Go p e below s _ _ _ (s₁.setTop (mkF m 0 #[.val (.ref a), .val (.int p_), .unset] []))
  subst hp3 hp4
  show own_Go p e below s _ _ _ (s₁.setTop (mkF m 0 #[.val (.ref a), .val (.int (Nat.toInt32 i0_)), .unset] []))
  refine own_via (fun _ k => XS.iloadN X0.here hx rfl (hb hby d4_0) rfl k) ?_
  show own_Go p e below s _ _ _ (s₁.setTop (mkF m 1 #[.val (.ref a), .val (.int (Nat.toInt32 i0_)), .unset] [(.int (Nat.toInt32 i0_))]))
  refine own_via (fun _ k => XS.istoreN X0.here hx rfl (hb hby d4_1) rfl (l' := #[.val (.ref a), .val (.int (Nat.toInt32 i0_)), .val (.int (Nat.toInt32 i0_))]) rfl k) ?_
  show own_Go p e below s _ _ _ (s₁.setTop (mkF m 2 #[.val (.ref a), .val (.int (Nat.toInt32 i0_)), .val (.int (Nat.toInt32 i0_))] []))
  have loop : ∀ (n_ : Nat) (i_ : Nat) (T1 : State) (lo1 : List Loc) (h1 : Heap), Stand p l e ({ frames := 1, cells := 0, slots := 0, locals := 12 } : Room) s m #[(.ref a), (.int (Nat.toInt32 i0_))] below meth c T1 lo1 0 0 → T1.heap = h1 → Fr n0 lo1 → n0 ≤ h1.size → h1 = h0 → Fld Z h1 a "com/example/enlace/enlace/graph/LineFields" "bytes" "[B" (.ref b_) → Fld Z h1 a "com/example/enlace/enlace/graph/LineFields" "end" "I" (.int (Nat.toInt32 (i0_ + n0_))) → Arv Z h1 b_ k_ .byte z_ (us_.map Value.int) (.int (0 : Int32)) → i_ + n_ = i0_ + n0_ → own_sk us_ n_ i_ = own_sk us_ n0_ i0_ → own_Go p e below s (Q4 Z a (Nat.toInt32 i0_) b_ k_ z_ us_ (Nat.toInt32 (i0_ + n0_)) i0_ n0_ h0 n0) ({ frames := 1, cells := 0, slots := 0, locals := 12 } : Room).cells ({ frames := 1, cells := 0, slots := 0, locals := 12 } : Room).slots (T1.setTop (mkF m 2 #[.val (.ref a), .val (.int (Nat.toInt32 i0_)), .val (.int (Nat.toInt32 i_))] [])) := by
    intro n_
    induction n_ with
    | zero =>
      intro i_ T1 lo1 h1 X1 e1 N1 Z1 hh1 F2 F3 F4 hE hr
      show own_Go p e below s _ _ _ (T1.setTop (mkF m 2 #[.val (.ref a), .val (.int (Nat.toInt32 i0_)), .val (.int (Nat.toInt32 i_))] []))
      refine own_via (fun _ k => XS.iloadN X1.here hx rfl (hb hby d4_2) rfl k) ?_
      show own_Go p e below s _ _ _ (T1.setTop (mkF m 3 #[.val (.ref a), .val (.int (Nat.toInt32 i0_)), .val (.int (Nat.toInt32 i_))] [(.int (Nat.toInt32 i_))]))
      refine own_via (fun _ k => XS.aloadN X1.here hx rfl (hb hby d4_3) rfl rfl k) ?_
      show own_Go p e below s _ _ _ (T1.setTop (mkF m 4 #[.val (.ref a), .val (.int (Nat.toInt32 i0_)), .val (.int (Nat.toInt32 i_))] [(.ref a), (.int (Nat.toInt32 i_))]))
      obtain ⟨T5, X5, e5, st5⟩ := getF X1 hx hZ hown (host := "") (Or.inl (hw _ (List.mem_of_getElem? (i := 17) rfl))) Via.refl e1 F3 (g := (mkF m 4 #[.val (.ref a), .val (.int (Nat.toInt32 i0_)), .val (.int (Nat.toInt32 i_))] [(.ref a), (.int (Nat.toInt32 i_))])) rfl rfl (hb hby d4_4)
      refine own_via st5 ?_
      show own_Go p e below s _ _ _ (T5.setTop (mkF m 7 #[.val (.ref a), .val (.int (Nat.toInt32 i0_)), .val (.int (Nat.toInt32 i_))] [(.int (Nat.toInt32 (i0_ + n0_))), (.int (Nat.toInt32 i_))]))
      have hc6 : ¬ ((Nat.toInt32 i_) < (Nat.toInt32 (i0_ + n0_))) := fun q => absurd ((own_ltn (by omega) (by omega)).mp q) (by omega)
      refine own_via (fun _ k => XS.icmpYes X5.here hx rfl (pc0 := 7) (pc' := 28) rfl (hb hby d4_7) rfl (Jvm.Free.XT.ii_ge_t hc6) (by decide) (by decide) k) ?_
      show own_Go p e below s _ _ _ (T5.setTop (mkF m 28 #[.val (.ref a), .val (.int (Nat.toInt32 i0_)), .val (.int (Nat.toInt32 i_))] []))
      refine own_via (fun _ k => XS.iloadN X5.here hx rfl (hb hby d4_28) rfl k) ?_
      show own_Go p e below s _ _ _ (T5.setTop (mkF m 29 #[.val (.ref a), .val (.int (Nat.toInt32 i0_)), .val (.int (Nat.toInt32 i_))] [(.int (Nat.toInt32 i_))]))
      exact own_goI X5 hx Bd.returns (hb hby d4_29) Bd.notSynchronized (by decide) (by decide) (by rw [e5]; exact ⟨(by rw [← hr, own_sk]), N1, hh1⟩)
    | succ n_ ih =>
      intro i_ T1 lo1 h1 X1 e1 N1 Z1 hh1 F2 F3 F4 hE hr
      show own_Go p e below s _ _ _ (T1.setTop (mkF m 2 #[.val (.ref a), .val (.int (Nat.toInt32 i0_)), .val (.int (Nat.toInt32 i_))] []))
      refine own_via (fun _ k => XS.iloadN X1.here hx rfl (hb hby d4_2) rfl k) ?_
      show own_Go p e below s _ _ _ (T1.setTop (mkF m 3 #[.val (.ref a), .val (.int (Nat.toInt32 i0_)), .val (.int (Nat.toInt32 i_))] [(.int (Nat.toInt32 i_))]))
      refine own_via (fun _ k => XS.aloadN X1.here hx rfl (hb hby d4_3) rfl rfl k) ?_
      show own_Go p e below s _ _ _ (T1.setTop (mkF m 4 #[.val (.ref a), .val (.int (Nat.toInt32 i0_)), .val (.int (Nat.toInt32 i_))] [(.ref a), (.int (Nat.toInt32 i_))]))
      obtain ⟨T7, X7, e7, st7⟩ := getF X1 hx hZ hown (host := "") (Or.inl (hw _ (List.mem_of_getElem? (i := 17) rfl))) Via.refl e1 F3 (g := (mkF m 4 #[.val (.ref a), .val (.int (Nat.toInt32 i0_)), .val (.int (Nat.toInt32 i_))] [(.ref a), (.int (Nat.toInt32 i_))])) rfl rfl (hb hby d4_4)
      refine own_via st7 ?_
      show own_Go p e below s _ _ _ (T7.setTop (mkF m 7 #[.val (.ref a), .val (.int (Nat.toInt32 i0_)), .val (.int (Nat.toInt32 i_))] [(.int (Nat.toInt32 (i0_ + n0_))), (.int (Nat.toInt32 i_))]))
      have hc8 : (Nat.toInt32 i_) < (Nat.toInt32 (i0_ + n0_)) := (own_ltn (by omega) (by omega)).mpr (by omega)
      refine own_via (fun _ k => XS.icmpNo X7.here hx rfl (hb hby d4_7) rfl (Jvm.Free.XT.ii_ge_f hc8) k) ?_
      show own_Go p e below s _ _ _ (T7.setTop (mkF m 10 #[.val (.ref a), .val (.int (Nat.toInt32 i0_)), .val (.int (Nat.toInt32 i_))] []))
      refine own_via (fun _ k => XS.aloadN X7.here hx rfl (hb hby d4_10) rfl rfl k) ?_
      show own_Go p e below s _ _ _ (T7.setTop (mkF m 11 #[.val (.ref a), .val (.int (Nat.toInt32 i0_)), .val (.int (Nat.toInt32 i_))] [(.ref a)]))
      obtain ⟨T9, X9, e9, st9⟩ := getF X7 hx hZ hown (host := "") (Or.inl (hw _ (List.mem_of_getElem? (i := 15) rfl))) Via.refl e7 F2 (g := (mkF m 11 #[.val (.ref a), .val (.int (Nat.toInt32 i0_)), .val (.int (Nat.toInt32 i_))] [(.ref a)])) rfl rfl (hb hby d4_11)
      refine own_via st9 ?_
      show own_Go p e below s _ _ _ (T9.setTop (mkF m 14 #[.val (.ref a), .val (.int (Nat.toInt32 i0_)), .val (.int (Nat.toInt32 i_))] [(.ref b_)]))
      refine own_via (fun _ k => XS.iloadN X9.here hx rfl (hb hby d4_14) rfl k) ?_
      show own_Go p e below s _ _ _ (T9.setTop (mkF m 15 #[.val (.ref a), .val (.int (Nat.toInt32 i0_)), .val (.int (Nat.toInt32 i_))] [(.int (Nat.toInt32 i_)), (.ref b_)]))
      obtain ⟨cl10, Ar10, q10, S10, M10, H10, G10⟩ := (id F4)
      have hin10 : ¬ ((Nat.toInt32 i_) < 0 ∨ cl10.slots.size ≤ ((Nat.toInt32 i_)).toNatClampNeg) := inb_of S10 (own_inb (by omega) (by omega))
      have hat10 : cl10.slots[((Nat.toInt32 i_)).toNatClampNeg]? = some (.int (own_g us_ i_)) := Has.at H10 hin10 (own_gm us_ (by omega))
      refine own_via (fun _ k => X9.baloadBytes hx (j := (Nat.toInt32 i_)) (v := (.int (own_g us_ i_))) (by rw [e9]; exact Ar10.1) (State.isArrayOf_alike hZ.alike Ar10.2.1) Ar10.2.2 hin10 hat10 (g := (mkF m 15 #[.val (.ref a), .val (.int (Nat.toInt32 i0_)), .val (.int (Nat.toInt32 i_))] [(.int (Nat.toInt32 i_)), (.ref b_)])) rfl rfl (hb hby d4_15) _ k) ?_
      show own_Go p e below s _ _ _ (T9.setTop (mkF m 16 #[.val (.ref a), .val (.int (Nat.toInt32 i0_)), .val (.int (Nat.toInt32 i_))] [(.int (own_g us_ i_))]))
      obtain ⟨_, _, ⟨T11, L11, k11, n11⟩, -, X11, ⟨Lc11, hQ11, l11, y11, z11⟩, st11⟩ := Jvm.LawKit.callS X9 hx (y := (⟨"com/example/enlace/enlace/graph/LineFields", "isBlank", "(B)Z"⟩ : MethodName)) hown (mvT hZ (hw _ (List.mem_of_getElem? (i := 53) rfl))) (mvT hZ (hw _ (List.mem_of_getElem? (i := 54) rfl))) (mvT hZ (hw _ (List.mem_of_getElem? (i := 3) rfl))) (mvT hZ (hw _ (List.mem_of_getElem? (i := 55) rfl))) (by decide) (backOf (W := 0) (rm10 l Z a0 hw [] (own_g us_ i_) h1 n0 Z1 ) hZ (hw _ (List.mem_of_getElem? (i := 55) rfl)) (hw _ (List.mem_of_getElem? (i := 3) rfl)) (by decide) (by decide)) (g := (mkF m 16 #[.val (.ref a), .val (.int (Nat.toInt32 i0_)), .val (.int (Nat.toInt32 i_))] [(.int (own_g us_ i_))])) rfl (by rw [hml]; rfl) (argsL := [(.int (own_g us_ i_))]) (rest := []) (lenOf pd_0 rfl) rfl (by show 2 * 0 + _ ≤ _; exact Nat.le_of_eq rfl) (hb hby d4_16) (fun _ _ => ⟨rfl, e9, (by decide : 0 + 0 ≤ _), (by decide : 0 + 0 ≤ _)⟩)
      dsimp only [Pt.U, Pt.locs, Pt.cells, Pt.slots] at X11 l11 y11 z11 st11 hQ11
      subst l11 y11 z11
      obtain ⟨rfl, N11q, e11⟩ := hQ11
      have N11 := Fr.app N1 N11q
      refine own_via st11 ?_
      show own_Go p e below s _ _ _ (T11.setTop (mkF m 19 #[.val (.ref a), .val (.int (Nat.toInt32 i0_)), .val (.int (Nat.toInt32 i_))] [(.int (own_bl (own_g us_ i_)))]))
      by_cases hc12 : (own_bl (own_g us_ i_)) = (0 : Int32)
      · refine own_via (fun _ k => XS.ifYes X11.here hx rfl (pc0 := 19) (pc' := 28) rfl (hb hby d4_19) rfl (Jvm.Free.XT.i0_eq_t hc12) (by decide) (by decide) k) ?_
        show own_Go p e below s _ _ _ (T11.setTop (mkF m 28 #[.val (.ref a), .val (.int (Nat.toInt32 i0_)), .val (.int (Nat.toInt32 i_))] []))
        refine own_via (fun _ k => XS.iloadN X11.here hx rfl (hb hby d4_28) rfl k) ?_
        show own_Go p e below s _ _ _ (T11.setTop (mkF m 29 #[.val (.ref a), .val (.int (Nat.toInt32 i0_)), .val (.int (Nat.toInt32 i_))] [(.int (Nat.toInt32 i_))]))
        exact own_goI X11 hx Bd.returns (hb hby d4_29) Bd.notSynchronized (by decide) (by decide) (by rw [e11]; exact ⟨(by rw [← hr, own_sk, if_pos hc12]), N11, hh1⟩)
      · refine own_via (fun _ k => XS.ifNo X11.here hx rfl (hb hby d4_19) rfl (Jvm.Free.XT.i0_eq_f hc12) k) ?_
        show own_Go p e below s _ _ _ (T11.setTop (mkF m 22 #[.val (.ref a), .val (.int (Nat.toInt32 i0_)), .val (.int (Nat.toInt32 i_))] []))
        refine own_via (fun _ k => XS.iinc X11.here hx rfl (hb hby d4_22) rfl (l' := #[.val (.ref a), .val (.int (Nat.toInt32 i0_)), .val (.int ((Nat.toInt32 i_) + (1 : Int32)))]) rfl k) ?_
        show own_Go p e below s _ _ _ (T11.setTop (mkF m 25 #[.val (.ref a), .val (.int (Nat.toInt32 i0_)), .val (.int ((Nat.toInt32 i_) + (1 : Int32)))] []))
        rw [own_succ]
        show own_Go p e below s _ _ _ (T11.setTop (mkF m 25 #[.val (.ref a), .val (.int (Nat.toInt32 i0_)), .val (.int (Nat.toInt32 (i_ + 1)))] []))
        refine own_via (fun _ k => XS.goto X11.here hx rfl (pc0 := 25) (pc' := 2) rfl (hb hby d4_25) (by decide) (by decide) k) ?_
        show own_Go p e below s _ _ _ (T11.setTop (mkF m 2 #[.val (.ref a), .val (.int (Nat.toInt32 i0_)), .val (.int (Nat.toInt32 (i_ + 1)))] []))
        exact ih (i_ + 1) _ _ _ X11 e11 N11 Z1 hh1 F2 F3 F4 (by omega) (by rw [← hr, own_sk, if_neg hc12])
  exact loop n0_ i0_ _ _ _ X0 e0 N0 Z0 rfl F_bytes_a F_end_a V_b_ (rfl) (rfl)
theorem d1_0 : decode prog_21_method_1_code 0 = .ok (.aload_n 0, 1) := by decide +kernel
theorem d1_1 : decode prog_21_method_1_code 1 = .ok (.invokespecial 1, 3) := by decide +kernel
theorem d1_4 : decode prog_21_method_1_code 4 = .ok (.return_, 1) := by decide +kernel
theorem ef_1 (m : MethodId) (x0 : Addr) : entryFrame m #[(.ref x0)] 1 = mkF m 0 #[.val (.ref x0)] [] := by first | (simp [entryFrame, mkF, argsToLocals, Value.category]; done) | rfl
def Q1 (Z : State) (a : Addr) (h0 : Heap) (n0 : Nat) (v : Option Value) (h : Heap) (L : List Loc) : Prop := v = none ∧ Fr n0 L ∧ h = h0
set_option maxRecDepth 65536 in
set_option maxHeartbeats 40000000 in
theorem rm1 (l : Launch) (Z : State) (a0 : Array Value) (hw : ∀ d ∈ tables_1, d.before a0 Z = true) (ws : List Jvm.Cond) (a : Addr) (h0 : Heap) (n0 : Nat) (Z0 : n0 ≤ h0.size) :
    MetFree l (⟨"com/example/enlace/enlace/graph/LineFields", "<init>", "()V"⟩ : MethodName) (head1 (Jvm.Cond.code (⟨"com/example/enlace/enlace/graph/LineFields", "<init>", "()V"⟩ : MethodName) prog_21_method_1_code 1 none :: ws) ({ frames := 1, cells := 0, slots := 0, locals := 12 } : Room)) (fun q_ U => q_ = #[(.ref a)] ∧ Z.Warmed39 U.vm ∧ U.heap = h0) (fun _ _ _ _ _ => True) (fun _ U o U' => ∃ v L, o = .returned v ∧ Q1 Z a h0 n0 v U'.heap L ∧ FrameEnd U o U' L ({ frames := 1, cells := 0, slots := 0, locals := 12 } : Room).cells ({ frames := 1, cells := 0, slots := 0, locals := 12 } : Room).slots) := by
  refine MetFree.of_bodySF (plainFor_of_name pn_0) hisR ?_
  intro p e s m args below meth c s₁ Bd hml0 hP hK
  obtain ⟨rfl, hZ, hh⟩ := hP
  have hx := Bd.exec
  have hby := Bd.bytes
  have hml : c.maxLocals = 1 := hml0
  have hown : s.vm.findClass "com/example/enlace/enlace/graph/LineFields" = some m.cls := findClass_of_methodNamed Bd.named
  have hnm := (name_of_methodNamed Bd.named Bd.method).1
  have X0 : Stand p l e ({ frames := 1, cells := 0, slots := 0, locals := 12 } : Room) s m #[(.ref a)] below meth c s₁ [] 0 0 := Stand.of_body Bd
  have e0 : s₁.heap = h0 := by rw [← hh, Bd.state]; rfl
  have N0 := Fr.nil n0
  show own_Go p e below s (Q1 Z a h0 n0) ({ frames := 1, cells := 0, slots := 0, locals := 12 } : Room).cells ({ frames := 1, cells := 0, slots := 0, locals := 12 } : Room).slots (s₁.setTop (entryFrame m #[(.ref a)] 1))
  refine own_via (fun t k => castTop (ef_1 m a) k) ?_
  show own_Go p e below s _ _ _ (s₁.setTop (mkF m 0 #[.val (.ref a)] []))
  refine own_via (fun _ k => XS.aloadN X0.here hx rfl (hb hby d1_0) rfl rfl k) ?_
  show own_Go p e below s _ _ _ (s₁.setTop (mkF m 1 #[.val (.ref a)] [(.ref a)]))
  obtain ⟨T1, X1, e1, st1⟩ := initO X0 hx hZ hown (hw _ (List.mem_of_getElem? (i := 7) rfl)) (hw _ (List.mem_of_getElem? (i := 8) rfl)) (hw _ (List.mem_of_getElem? (i := 9) rfl)) e0 (g := (mkF m 1 #[.val (.ref a)] [(.ref a)])) rfl (by rw [hml]; rfl) rfl (hb hby d1_1) (by decide) (W := 0) (by show 2 * 0 + _ ≤ _; exact Nat.le_of_eq rfl) (by decide)
  refine own_via st1 ?_
  show own_Go p e below s _ _ _ (T1.setTop (mkF m 4 #[.val (.ref a)] []))
  exact own_goV X1 hx Bd.returns (hb hby d1_4) Bd.notSynchronized (by decide) (by decide) (by rw [e1]; exact ⟨rfl, N0, rfl⟩)
theorem d6_0 : decode prog_21_method_8_code 0 = .ok (.aload_n 0, 1) := by decide +kernel
theorem d6_1 : decode prog_21_method_8_code 1 = .ok (.getfield 40, 3) := by decide +kernel
theorem d6_4 : decode prog_21_method_8_code 4 = .ok (.ireturn, 1) := by decide +kernel
theorem ef_6 (m : MethodId) (x0 : Addr) : entryFrame m #[(.ref x0)] 1 = mkF m 0 #[.val (.ref x0)] [] := by first | (simp [entryFrame, mkF, argsToLocals, Value.category]; done) | rfl
def Q6 (Z : State) (a : Addr) (n_ : Int32) (h0 : Heap) (n0 : Nat) (v : Option Value) (h : Heap) (L : List Loc) : Prop := v = some (.int n_) ∧ Fr n0 L ∧ h = h0
set_option maxRecDepth 65536 in
set_option maxHeartbeats 40000000 in
theorem rm6 (l : Launch) (Z : State) (a0 : Array Value) (hw : ∀ d ∈ tables_1, d.before a0 Z = true) (ws : List Jvm.Cond) (a : Addr) (n_ : Int32) (h0 : Heap) (n0 : Nat) (Z0 : n0 ≤ h0.size) (F_fieldStart_a : Fld Z h0 a "com/example/enlace/enlace/graph/LineFields" "fieldStart" "I" (.int n_)) :
    MetFree l (⟨"com/example/enlace/enlace/graph/LineFields", "fieldStart", "()I"⟩ : MethodName) (head1 (Jvm.Cond.code (⟨"com/example/enlace/enlace/graph/LineFields", "fieldStart", "()I"⟩ : MethodName) prog_21_method_8_code 1 (some .int) :: ws) ({ frames := 0, cells := 0, slots := 0, locals := 0 } : Room)) (fun q_ U => q_ = #[(.ref a)] ∧ Z.Warmed39 U.vm ∧ U.heap = h0) (fun _ _ _ _ _ => True) (fun _ U o U' => ∃ v L, o = .returned v ∧ Q6 Z a n_ h0 n0 v U'.heap L ∧ FrameEnd U o U' L ({ frames := 0, cells := 0, slots := 0, locals := 0 } : Room).cells ({ frames := 0, cells := 0, slots := 0, locals := 0 } : Room).slots) := by
  refine MetFree.of_bodySF (plainFor_of_name pn_0) hisR ?_
  intro p e s m args below meth c s₁ Bd hml0 hP hK
  obtain ⟨rfl, hZ, hh⟩ := hP
  have hx := Bd.exec
  have hby := Bd.bytes
  have hml : c.maxLocals = 1 := hml0
  have hown : s.vm.findClass "com/example/enlace/enlace/graph/LineFields" = some m.cls := findClass_of_methodNamed Bd.named
  have hnm := (name_of_methodNamed Bd.named Bd.method).1
  have X0 : Stand p l e ({ frames := 0, cells := 0, slots := 0, locals := 0 } : Room) s m #[(.ref a)] below meth c s₁ [] 0 0 := Stand.of_body Bd
  have e0 : s₁.heap = h0 := by rw [← hh, Bd.state]; rfl
  have N0 := Fr.nil n0
  show own_Go p e below s (Q6 Z a n_ h0 n0) ({ frames := 0, cells := 0, slots := 0, locals := 0 } : Room).cells ({ frames := 0, cells := 0, slots := 0, locals := 0 } : Room).slots (s₁.setTop (entryFrame m #[(.ref a)] 1))
  refine own_via (fun t k => castTop (ef_6 m a) k) ?_
  show own_Go p e below s _ _ _ (s₁.setTop (mkF m 0 #[.val (.ref a)] []))
  refine own_via (fun _ k => XS.aloadN X0.here hx rfl (hb hby d6_0) rfl rfl k) ?_
  show own_Go p e below s _ _ _ (s₁.setTop (mkF m 1 #[.val (.ref a)] [(.ref a)]))
  obtain ⟨T1, X1, e1, st1⟩ := getF X0 hx hZ hown (host := "") (Or.inl (hw _ (List.mem_of_getElem? (i := 25) rfl))) Via.refl e0 F_fieldStart_a (g := (mkF m 1 #[.val (.ref a)] [(.ref a)])) rfl rfl (hb hby d6_1)
  refine own_via st1 ?_
  show own_Go p e below s _ _ _ (T1.setTop (mkF m 4 #[.val (.ref a)] [(.int n_)]))
  exact own_goI X1 hx Bd.returns (hb hby d6_4) Bd.notSynchronized (by decide) (by decide) (by rw [e1]; exact ⟨rfl, N0, rfl⟩)
theorem d7_0 : decode prog_21_method_9_code 0 = .ok (.aload_n 0, 1) := by decide +kernel
theorem d7_1 : decode prog_21_method_9_code 1 = .ok (.getfield 43, 3) := by decide +kernel
theorem d7_4 : decode prog_21_method_9_code 4 = .ok (.ireturn, 1) := by decide +kernel
theorem ef_7 (m : MethodId) (x0 : Addr) : entryFrame m #[(.ref x0)] 1 = mkF m 0 #[.val (.ref x0)] [] := by first | (simp [entryFrame, mkF, argsToLocals, Value.category]; done) | rfl
def Q7 (Z : State) (a : Addr) (n_ : Int32) (h0 : Heap) (n0 : Nat) (v : Option Value) (h : Heap) (L : List Loc) : Prop := v = some (.int n_) ∧ Fr n0 L ∧ h = h0
set_option maxRecDepth 65536 in
set_option maxHeartbeats 40000000 in
theorem rm7 (l : Launch) (Z : State) (a0 : Array Value) (hw : ∀ d ∈ tables_1, d.before a0 Z = true) (ws : List Jvm.Cond) (a : Addr) (n_ : Int32) (h0 : Heap) (n0 : Nat) (Z0 : n0 ≤ h0.size) (F_fieldEnd_a : Fld Z h0 a "com/example/enlace/enlace/graph/LineFields" "fieldEnd" "I" (.int n_)) :
    MetFree l (⟨"com/example/enlace/enlace/graph/LineFields", "fieldEnd", "()I"⟩ : MethodName) (head1 (Jvm.Cond.code (⟨"com/example/enlace/enlace/graph/LineFields", "fieldEnd", "()I"⟩ : MethodName) prog_21_method_9_code 1 (some .int) :: ws) ({ frames := 0, cells := 0, slots := 0, locals := 0 } : Room)) (fun q_ U => q_ = #[(.ref a)] ∧ Z.Warmed39 U.vm ∧ U.heap = h0) (fun _ _ _ _ _ => True) (fun _ U o U' => ∃ v L, o = .returned v ∧ Q7 Z a n_ h0 n0 v U'.heap L ∧ FrameEnd U o U' L ({ frames := 0, cells := 0, slots := 0, locals := 0 } : Room).cells ({ frames := 0, cells := 0, slots := 0, locals := 0 } : Room).slots) := by
  refine MetFree.of_bodySF (plainFor_of_name pn_0) hisR ?_
  intro p e s m args below meth c s₁ Bd hml0 hP hK
  obtain ⟨rfl, hZ, hh⟩ := hP
  have hx := Bd.exec
  have hby := Bd.bytes
  have hml : c.maxLocals = 1 := hml0
  have hown : s.vm.findClass "com/example/enlace/enlace/graph/LineFields" = some m.cls := findClass_of_methodNamed Bd.named
  have hnm := (name_of_methodNamed Bd.named Bd.method).1
  have X0 : Stand p l e ({ frames := 0, cells := 0, slots := 0, locals := 0 } : Room) s m #[(.ref a)] below meth c s₁ [] 0 0 := Stand.of_body Bd
  have e0 : s₁.heap = h0 := by rw [← hh, Bd.state]; rfl
  have N0 := Fr.nil n0
  show own_Go p e below s (Q7 Z a n_ h0 n0) ({ frames := 0, cells := 0, slots := 0, locals := 0 } : Room).cells ({ frames := 0, cells := 0, slots := 0, locals := 0 } : Room).slots (s₁.setTop (entryFrame m #[(.ref a)] 1))
  refine own_via (fun t k => castTop (ef_7 m a) k) ?_
  show own_Go p e below s _ _ _ (s₁.setTop (mkF m 0 #[.val (.ref a)] []))
  refine own_via (fun _ k => XS.aloadN X0.here hx rfl (hb hby d7_0) rfl rfl k) ?_
  show own_Go p e below s _ _ _ (s₁.setTop (mkF m 1 #[.val (.ref a)] [(.ref a)]))
  obtain ⟨T1, X1, e1, st1⟩ := getF X0 hx hZ hown (host := "") (Or.inl (hw _ (List.mem_of_getElem? (i := 27) rfl))) Via.refl e0 F_fieldEnd_a (g := (mkF m 1 #[.val (.ref a)] [(.ref a)])) rfl rfl (hb hby d7_1)
  refine own_via st1 ?_
  show own_Go p e below s _ _ _ (T1.setTop (mkF m 4 #[.val (.ref a)] [(.int n_)]))
  exact own_goI X1 hx Bd.returns (hb hby d7_4) Bd.notSynchronized (by decide) (by decide) (by rw [e1]; exact ⟨rfl, N0, rfl⟩)
theorem d3_23 : decode prog_21_method_3_code 23 = .ok (.aload_n 0, 1) := by decide +kernel
theorem d3_24 : decode prog_21_method_3_code 24 = .ok (.aload_n 1, 1) := by decide +kernel
theorem d3_25 : decode prog_21_method_3_code 25 = .ok (.putfield 25, 3) := by decide +kernel
theorem d3_28 : decode prog_21_method_3_code 28 = .ok (.aload_n 0, 1) := by decide +kernel
theorem d3_29 : decode prog_21_method_3_code 29 = .ok (.iload 4, 2) := by decide +kernel
theorem d3_31 : decode prog_21_method_3_code 31 = .ok (.putfield 29, 3) := by decide +kernel
theorem d3_34 : decode prog_21_method_3_code 34 = .ok (.aload_n 0, 1) := by decide +kernel
theorem d3_35 : decode prog_21_method_3_code 35 = .ok (.iload_n 2, 1) := by decide +kernel
theorem pd_1 : parseMethodDescriptor "(I)I" = some ⟨[.int], some .int⟩ := by decide +kernel
theorem d3_36 : decode prog_21_method_3_code 36 = .ok (.invokevirtual 33, 3) := by decide +kernel
theorem d3_39 : decode prog_21_method_3_code 39 = .ok (.istore 5, 2) := by decide +kernel
theorem d3_41 : decode prog_21_method_3_code 41 = .ok (.aload_n 0, 1) := by decide +kernel
theorem d3_42 : decode prog_21_method_3_code 42 = .ok (.iload 5, 2) := by decide +kernel
theorem d3_44 : decode prog_21_method_3_code 44 = .ok (.iload 4, 2) := by decide +kernel
theorem d3_46 : decode prog_21_method_3_code 46 = .ok (.if_icmp .ge 17, 3) := by decide +kernel
theorem d3_49 : decode prog_21_method_3_code 49 = .ok (.aload_n 1, 1) := by decide +kernel
theorem d3_50 : decode prog_21_method_3_code 50 = .ok (.iload 5, 2) := by decide +kernel
theorem d3_52 : decode prog_21_method_3_code 52 = .ok (.baload, 1) := by decide +kernel
theorem d3_53 : decode prog_21_method_3_code 53 = .ok (.bipush 35, 2) := by decide +kernel
theorem d3_55 : decode prog_21_method_3_code 55 = .ok (.if_icmp .ne 8, 3) := by decide +kernel
theorem d3_58 : decode prog_21_method_3_code 58 = .ok (.iload 4, 2) := by decide +kernel
theorem d3_60 : decode prog_21_method_3_code 60 = .ok (.goto 5, 3) := by decide +kernel
theorem d3_65 : decode prog_21_method_3_code 65 = .ok (.putfield 37, 3) := by decide +kernel
theorem d3_68 : decode prog_21_method_3_code 68 = .ok (.aload_n 0, 1) := by decide +kernel
theorem d3_69 : decode prog_21_method_3_code 69 = .ok (.iload_n 2, 1) := by decide +kernel
theorem d3_70 : decode prog_21_method_3_code 70 = .ok (.putfield 40, 3) := by decide +kernel
theorem d3_73 : decode prog_21_method_3_code 73 = .ok (.aload_n 0, 1) := by decide +kernel
theorem d3_74 : decode prog_21_method_3_code 74 = .ok (.iload_n 2, 1) := by decide +kernel
theorem d3_75 : decode prog_21_method_3_code 75 = .ok (.putfield 43, 3) := by decide +kernel
theorem d3_78 : decode prog_21_method_3_code 78 = .ok (.return_, 1) := by decide +kernel
theorem d3_63 : decode prog_21_method_3_code 63 = .ok (.iload 5, 2) := by decide +kernel
theorem d3_0 : decode prog_21_method_3_code 0 = .ok (.iload_n 3, 1) := by decide +kernel
theorem d3_1 : decode prog_21_method_3_code 1 = .ok (.istore 4, 2) := by decide +kernel
theorem d3_3 : decode prog_21_method_3_code 3 = .ok (.iload 4, 2) := by decide +kernel
theorem d3_5 : decode prog_21_method_3_code 5 = .ok (.iload_n 2, 1) := by decide +kernel
theorem d3_6 : decode prog_21_method_3_code 6 = .ok (.if_icmp .le 17, 3) := by decide +kernel
theorem d3_9 : decode prog_21_method_3_code 9 = .ok (.aload_n 1, 1) := by decide +kernel
theorem d3_10 : decode prog_21_method_3_code 10 = .ok (.iload 4, 2) := by decide +kernel
theorem d3_12 : decode prog_21_method_3_code 12 = .ok (.iconst 1, 1) := by decide +kernel
theorem d3_13 : decode prog_21_method_3_code 13 = .ok (.isub, 1) := by decide +kernel
theorem d3_14 : decode prog_21_method_3_code 14 = .ok (.baload, 1) := by decide +kernel
theorem d3_15 : decode prog_21_method_3_code 15 = .ok (.bipush 13, 2) := by decide +kernel
theorem d3_17 : decode prog_21_method_3_code 17 = .ok (.if_icmp .ne 6, 3) := by decide +kernel
theorem d3_20 : decode prog_21_method_3_code 20 = .ok (.iinc 4 (-1), 3) := by decide +kernel
theorem ef_3 (m : MethodId) (x0 : Addr) (x1 : Addr) (x2 : Int32) (x3 : Int32) : entryFrame m #[(.ref x0), (.ref x1), (.int x2), (.int x3)] 6 = mkF m 0 #[.val (.ref x0), .val (.ref x1), .val (.int x2), .val (.int x3), .unset, .unset] [] := by first | (simp [entryFrame, mkF, argsToLocals, Value.category]; done) | rfl
def Q3 (Z : State) (a : Addr) (b_ : Addr) (ps_ : Int32) (pe_ : Int32) (ob_ : Value) (oe_ : Int32) (op_ : Int32) (of_ : Int32) (og_ : Int32) (k_ : ClassId) (z_ : Int32) (us_ : List Int32) (s_ : Nat) (e_ : Nat) (h0 : Heap) (n0 : Nat) (v : Option Value) (h : Heap) (L : List Loc) : Prop := v = none ∧ Fr n0 L ∧ Keep h0 h [a] ∧ Exa Z h a "com/example/enlace/enlace/graph/LineFields" ∧ Fld Z h a "com/example/enlace/enlace/graph/LineFields" "bytes" "[B" (.ref b_) ∧ Fld Z h a "com/example/enlace/enlace/graph/LineFields" "end" "I" (.int (Nat.toInt32 (own_end us_ s_ e_))) ∧ Fld Z h a "com/example/enlace/enlace/graph/LineFields" "position" "I" (.int (Nat.toInt32 (own_pos us_ s_ (own_end us_ s_ e_)))) ∧ Fld Z h a "com/example/enlace/enlace/graph/LineFields" "fieldStart" "I" (.int (Nat.toInt32 s_)) ∧ Fld Z h a "com/example/enlace/enlace/graph/LineFields" "fieldEnd" "I" (.int (Nat.toInt32 s_))
set_option maxRecDepth 65536 in
set_option maxHeartbeats 40000000 in
theorem rm3 (l : Launch) (Z : State) (a0 : Array Value) (hw : ∀ d ∈ tables_1, d.before a0 Z = true) (ws : List Jvm.Cond) (a : Addr) (b_ : Addr) (ps_ : Int32) (pe_ : Int32) (ob_ : Value) (oe_ : Int32) (op_ : Int32) (of_ : Int32) (og_ : Int32) (k_ : ClassId) (z_ : Int32) (us_ : List Int32) (s_ : Nat) (e_ : Nat) (h0 : Heap) (n0 : Nat) (Z0 : n0 ≤ h0.size) (E_a : Exa Z h0 a "com/example/enlace/enlace/graph/LineFields") (F_bytes_a : Fld Z h0 a "com/example/enlace/enlace/graph/LineFields" "bytes" "[B" ob_) (F_end_a : Fld Z h0 a "com/example/enlace/enlace/graph/LineFields" "end" "I" (.int oe_)) (F_position_a : Fld Z h0 a "com/example/enlace/enlace/graph/LineFields" "position" "I" (.int op_)) (F_fieldStart_a : Fld Z h0 a "com/example/enlace/enlace/graph/LineFields" "fieldStart" "I" (.int of_)) (F_fieldEnd_a : Fld Z h0 a "com/example/enlace/enlace/graph/LineFields" "fieldEnd" "I" (.int og_)) (V_b_ : Arv Z h0 b_ k_ .byte z_ (us_.map Value.int) (.int (0 : Int32))) (g_a : n0 ≤ a) (ne_b__a : b_ ≠ a) (hp9 : ps_ = Nat.toInt32 s_) (hp10 : pe_ = Nat.toInt32 e_) (hp11 : s_ ≤ e_) (hp12 : e_ ≤ 16) (hp13 : (e_ : Int) ≤ z_.toInt) :
    MetFree l (⟨"com/example/enlace/enlace/graph/LineFields", "reset", "([BII)V"⟩ : MethodName) (head1 (Jvm.Cond.code (⟨"com/example/enlace/enlace/graph/LineFields", "reset", "([BII)V"⟩ : MethodName) prog_21_method_3_code 6 none :: ws) ({ frames := 2, cells := 0, slots := 0, locals := 26 } : Room)) (fun q_ U => q_ = #[(.ref a), (.ref b_), (.int ps_), (.int pe_)] ∧ Z.Warmed39 U.vm ∧ U.heap = h0) (fun _ _ _ _ _ => True) (fun _ U o U' => ∃ v L, o = .returned v ∧ Q3 Z a b_ ps_ pe_ ob_ oe_ op_ of_ og_ k_ z_ us_ s_ e_ h0 n0 v U'.heap L ∧ FrameEnd U o U' L ({ frames := 2, cells := 0, slots := 0, locals := 26 } : Room).cells ({ frames := 2, cells := 0, slots := 0, locals := 26 } : Room).slots) := by
  refine MetFree.of_bodySF (plainFor_of_name pn_0) hisR ?_
  intro p e s m args below meth c s₁ Bd hml0 hP hK
  obtain ⟨rfl, hZ, hh⟩ := hP
  have hx := Bd.exec
  have hby := Bd.bytes
  have hml : c.maxLocals = 6 := hml0
  have hown : s.vm.findClass "com/example/enlace/enlace/graph/LineFields" = some m.cls := findClass_of_methodNamed Bd.named
  have hnm := (name_of_methodNamed Bd.named Bd.method).1
  have X0 : Stand p l e ({ frames := 2, cells := 0, slots := 0, locals := 26 } : Room) s m #[(.ref a), (.ref b_), (.int ps_), (.int pe_)] below meth c s₁ [] 0 0 := Stand.of_body Bd
  have e0 : s₁.heap = h0 := by rw [← hh, Bd.state]; rfl
  have N0 := Fr.nil n0
  show own_Go p e below s (Q3 Z a b_ ps_ pe_ ob_ oe_ op_ of_ og_ k_ z_ us_ s_ e_ h0 n0) ({ frames := 2, cells := 0, slots := 0, locals := 26 } : Room).cells ({ frames := 2, cells := 0, slots := 0, locals := 26 } : Room).slots (s₁.setTop (entryFrame m #[(.ref a), (.ref b_), (.int ps_), (.int pe_)] 6))
  refine own_via (fun t k => castTop (ef_3 m a b_ ps_ pe_) k) ?_
  have K0 : Keep h0 h0 [a] := Keep.refl _ _
  show own_Go p e below s _ _ _ (s₁.setTop (mkF m 0 #[.val (.ref a), .val (.ref b_), .val (.int ps_), .val (.int pe_), .unset, .unset] []))
  subst hp9 hp10
  show own_Go p e below s _ _ _ (s₁.setTop (mkF m 0 #[.val (.ref a), .val (.ref b_), .val (.int (Nat.toInt32 s_)), .val (.int (Nat.toInt32 e_)), .unset, .unset] []))
  have jn : ∀ (E_ : Nat) (T1 : State) (lo1 : List Loc) (h1 : Heap), Stand p l e ({ frames := 2, cells := 0, slots := 0, locals := 26 } : Room) s m #[(.ref a), (.ref b_), (.int (Nat.toInt32 s_)), (.int (Nat.toInt32 e_))] below meth c T1 lo1 0 0 → T1.heap = h1 → Fr n0 lo1 → n0 ≤ h1.size → Keep h0 h1 [a] → Exa Z h1 a "com/example/enlace/enlace/graph/LineFields" → Fld Z h1 a "com/example/enlace/enlace/graph/LineFields" "bytes" "[B" ob_ → Fld Z h1 a "com/example/enlace/enlace/graph/LineFields" "end" "I" (.int oe_) → Fld Z h1 a "com/example/enlace/enlace/graph/LineFields" "position" "I" (.int op_) → Fld Z h1 a "com/example/enlace/enlace/graph/LineFields" "fieldStart" "I" (.int of_) → Fld Z h1 a "com/example/enlace/enlace/graph/LineFields" "fieldEnd" "I" (.int og_) → Arv Z h1 b_ k_ .byte z_ (us_.map Value.int) (.int (0 : Int32)) → s_ ≤ E_ → E_ ≤ e_ → own_end us_ s_ e_ = E_ → own_Go p e below s (Q3 Z a b_ (Nat.toInt32 s_) (Nat.toInt32 e_) ob_ oe_ op_ of_ og_ k_ z_ us_ s_ e_ h0 n0) ({ frames := 2, cells := 0, slots := 0, locals := 26 } : Room).cells ({ frames := 2, cells := 0, slots := 0, locals := 26 } : Room).slots (T1.setTop (mkF m 23 #[.val (.ref a), .val (.ref b_), .val (.int (Nat.toInt32 s_)), .val (.int (Nat.toInt32 e_)), .val (.int (Nat.toInt32 E_)), .unset] [])) := by
    intro E_ T1 lo1 h1 X1 e1 N1 Z1 K1 F2 F3 F4 F5 F6 F7 F8 h1 h2 h3
    show own_Go p e below s _ _ _ (T1.setTop (mkF m 23 #[.val (.ref a), .val (.ref b_), .val (.int (Nat.toInt32 s_)), .val (.int (Nat.toInt32 e_)), .val (.int (Nat.toInt32 E_)), .unset] []))
    refine own_via (fun _ k => XS.aloadN X1.here hx rfl (hb hby d3_23) rfl rfl k) ?_
    show own_Go p e below s _ _ _ (T1.setTop (mkF m 24 #[.val (.ref a), .val (.ref b_), .val (.int (Nat.toInt32 s_)), .val (.int (Nat.toInt32 e_)), .val (.int (Nat.toInt32 E_)), .unset] [(.ref a)]))
    refine own_via (fun _ k => XS.aloadN X1.here hx rfl (hb hby d3_24) rfl rfl k) ?_
    show own_Go p e below s _ _ _ (T1.setTop (mkF m 25 #[.val (.ref a), .val (.ref b_), .val (.int (Nat.toInt32 s_)), .val (.int (Nat.toInt32 e_)), .val (.int (Nat.toInt32 E_)), .unset] [(.ref b_), (.ref a)]))
    obtain ⟨T9, h9, X9, e9, W9, st9⟩ := putF X1 hx hZ hown (host := "") (Or.inl (hw _ (List.mem_of_getElem? (i := 15) rfl))) Via.refl e1 F3 F2 (Or.inl (hw _ (List.mem_of_getElem? (i := 16) rfl))) (hw _ (List.mem_of_getElem? (i := 2) rfl)) (ty := (.array .byte)) (by decide) rfl rfl (g := (mkF m 25 #[.val (.ref a), .val (.ref b_), .val (.int (Nat.toInt32 s_)), .val (.int (Nat.toInt32 e_)), .val (.int (Nat.toInt32 E_)), .unset] [(.ref b_), (.ref a)])) rfl rfl (hb hby d3_25)
    have N9 := Fr.snoc X9 N1 g_a
    have Fw9 := F3.same W9
    have Z9 : n0 ≤ h9.size := Nat.le_trans Z1 (Keep.of_wr W9).1
    have K9 : Keep h0 h9 [a] := K1.wr W9 (Or.inl (List.mem_of_getElem? (i := 0) rfl))
    refine own_via st9 ?_
    show own_Go p e below s _ _ _ (T9.setTop (mkF m 28 #[.val (.ref a), .val (.ref b_), .val (.int (Nat.toInt32 s_)), .val (.int (Nat.toInt32 e_)), .val (.int (Nat.toInt32 E_)), .unset] []))
    refine own_via (fun _ k => XS.aloadN X9.here hx rfl (hb hby d3_28) rfl rfl k) ?_
    show own_Go p e below s _ _ _ (T9.setTop (mkF m 29 #[.val (.ref a), .val (.ref b_), .val (.int (Nat.toInt32 s_)), .val (.int (Nat.toInt32 e_)), .val (.int (Nat.toInt32 E_)), .unset] [(.ref a)]))
    refine own_via (fun _ k => XS.iload X9.here hx rfl (hb hby d3_29) rfl k) ?_
    show own_Go p e below s _ _ _ (T9.setTop (mkF m 31 #[.val (.ref a), .val (.ref b_), .val (.int (Nat.toInt32 s_)), .val (.int (Nat.toInt32 e_)), .val (.int (Nat.toInt32 E_)), .unset] [(.int (Nat.toInt32 E_)), (.ref a)]))
    have F10 := (F2.wr W9)
    have F11 := (F4.other W9 (Or.inr (slot_ne (Or.inl (hw _ (List.mem_of_getElem? (i := 18) rfl))) (Or.inl (hw _ (List.mem_of_getElem? (i := 16) rfl))) (by decide) (t := .int) (t' := (.array .byte)) (by decide) (by decide))))
    obtain ⟨T12, h12, X12, e12, W12, st12⟩ := putF X9 hx hZ hown (host := "") (Or.inl (hw _ (List.mem_of_getElem? (i := 17) rfl))) Via.refl e9 F11 F10 (Or.inl (hw _ (List.mem_of_getElem? (i := 18) rfl))) (hw _ (List.mem_of_getElem? (i := 2) rfl)) (ty := .int) (by decide) rfl rfl (g := (mkF m 31 #[.val (.ref a), .val (.ref b_), .val (.int (Nat.toInt32 s_)), .val (.int (Nat.toInt32 e_)), .val (.int (Nat.toInt32 E_)), .unset] [(.int (Nat.toInt32 E_)), (.ref a)])) rfl rfl (hb hby d3_31)
    have N12 := Fr.snoc X12 N9 g_a
    have Fw12 := F11.same W12
    have Z12 : n0 ≤ h12.size := Nat.le_trans Z9 (Keep.of_wr W12).1
    have K12 : Keep h0 h12 [a] := K9.wr W12 (Or.inl (List.mem_of_getElem? (i := 0) rfl))
    refine own_via st12 ?_
    show own_Go p e below s _ _ _ (T12.setTop (mkF m 34 #[.val (.ref a), .val (.ref b_), .val (.int (Nat.toInt32 s_)), .val (.int (Nat.toInt32 e_)), .val (.int (Nat.toInt32 E_)), .unset] []))
    refine own_via (fun _ k => XS.aloadN X12.here hx rfl (hb hby d3_34) rfl rfl k) ?_
    show own_Go p e below s _ _ _ (T12.setTop (mkF m 35 #[.val (.ref a), .val (.ref b_), .val (.int (Nat.toInt32 s_)), .val (.int (Nat.toInt32 e_)), .val (.int (Nat.toInt32 E_)), .unset] [(.ref a)]))
    refine own_via (fun _ k => XS.iloadN X12.here hx rfl (hb hby d3_35) rfl k) ?_
    show own_Go p e below s _ _ _ (T12.setTop (mkF m 36 #[.val (.ref a), .val (.ref b_), .val (.int (Nat.toInt32 s_)), .val (.int (Nat.toInt32 e_)), .val (.int (Nat.toInt32 E_)), .unset] [(.int (Nat.toInt32 s_)), (.ref a)]))
    have F14 := (Fw9.other W12 (Or.inr (slot_ne (Or.inl (hw _ (List.mem_of_getElem? (i := 16) rfl))) (Or.inl (hw _ (List.mem_of_getElem? (i := 18) rfl))) (by decide) (t := (.array .byte)) (t' := .int) (by decide) (by decide))))
    have F15 := ((F8.other W9 ne_b__a).other W12 ne_b__a)
    have F16 := (F10.wr W12)
    obtain ⟨cq13, qa13, qb13⟩ := F16.cell
    obtain ⟨_, _, ⟨T13, L13, k13, n13⟩, -, X13, ⟨Lc13, hQ13, l13, y13, z13⟩, st13⟩ := X12.privateBack hx (y := (⟨"com/example/enlace/enlace/graph/LineFields", "skipBlanks", "(I)I"⟩ : MethodName)) hown (mvT hZ (hw _ (List.mem_of_getElem? (i := 19) rfl))) (mvT hZ (hw _ (List.mem_of_getElem? (i := 20) rfl))) (own_selP (y' := (⟨"com/example/enlace/enlace/graph/LineFields", "reset", "([BII)V"⟩ : MethodName)) (mvT hZ (hw _ (List.mem_of_getElem? (i := 13) rfl))) rfl (Cond.privateMethod_at (mvP hZ (hw _ (List.mem_of_getElem? (i := 21) rfl)) (args := #[]))) (mvT hZ (hw _ (List.mem_of_getElem? (i := 20) rfl))) (by decide)) (Cond.privateMethod_at (mvP hZ (hw _ (List.mem_of_getElem? (i := 21) rfl)) (args := #[]))) (mvT hZ (hw _ (List.mem_of_getElem? (i := 22) rfl))) (by decide) (backOf (W := 0) (rm4 l Z a0 hw [] a (Nat.toInt32 s_) b_ k_ z_ us_ (Nat.toInt32 E_) s_ (E_ - s_) h12 n0 Z12 F14 Fw12 F15 rfl (by rw [show s_ + (E_ - s_) = E_ by omega]) (by omega) (by omega)) hZ (hw _ (List.mem_of_getElem? (i := 22) rfl)) (hw _ (List.mem_of_getElem? (i := 3) rfl)) (by decide) (by decide)) (g := (mkF m 36 #[.val (.ref a), .val (.ref b_), .val (.int (Nat.toInt32 s_)), .val (.int (Nat.toInt32 e_)), .val (.int (Nat.toInt32 E_)), .unset] [(.int (Nat.toInt32 s_)), (.ref a)])) rfl (by rw [hml]; rfl) (Steps.refl _) (a := a) (by rw [e12]; exact qa13) qb13 (argsL := [(.int (Nat.toInt32 s_))]) (rest := []) (lenOf pd_1 rfl) rfl (by show 2 * 0 + _ ≤ _; exact Nat.le_of_eq rfl) (hb hby d3_36) (fun _ _ => ⟨rfl, e12, (by decide : 0 + 0 ≤ _), (by decide : 0 + 0 ≤ _)⟩)
    dsimp only [Pt.U, Pt.locs, Pt.cells, Pt.slots] at X13 l13 y13 z13 st13 hQ13
    subst l13 y13 z13
    obtain ⟨rfl, N13q, e13⟩ := hQ13
    have N13 := Fr.app N12 N13q
    refine own_viaT st13 ?_
    show own_Go p e below s _ _ _ (T13.setTop (mkF m 39 #[.val (.ref a), .val (.ref b_), .val (.int (Nat.toInt32 s_)), .val (.int (Nat.toInt32 e_)), .val (.int (Nat.toInt32 E_)), .unset] [(.int (Nat.toInt32 (own_sk us_ (E_ - s_) s_)))]))
    have hsk := own_sk_r us_ (E_ - s_) s_
    refine own_via (fun _ k => XS.istore X13.here hx rfl (hb hby d3_39) rfl (l' := #[.val (.ref a), .val (.ref b_), .val (.int (Nat.toInt32 s_)), .val (.int (Nat.toInt32 e_)), .val (.int (Nat.toInt32 E_)), .val (.int (Nat.toInt32 (own_sk us_ (E_ - s_) s_)))]) rfl k) ?_
    show own_Go p e below s _ _ _ (T13.setTop (mkF m 41 #[.val (.ref a), .val (.ref b_), .val (.int (Nat.toInt32 s_)), .val (.int (Nat.toInt32 e_)), .val (.int (Nat.toInt32 E_)), .val (.int (Nat.toInt32 (own_sk us_ (E_ - s_) s_)))] []))
    refine own_via (fun _ k => XS.aloadN X13.here hx rfl (hb hby d3_41) rfl rfl k) ?_
    show own_Go p e below s _ _ _ (T13.setTop (mkF m 42 #[.val (.ref a), .val (.ref b_), .val (.int (Nat.toInt32 s_)), .val (.int (Nat.toInt32 e_)), .val (.int (Nat.toInt32 E_)), .val (.int (Nat.toInt32 (own_sk us_ (E_ - s_) s_)))] [(.ref a)]))
    refine own_via (fun _ k => XS.iload X13.here hx rfl (hb hby d3_42) rfl k) ?_
    show own_Go p e below s _ _ _ (T13.setTop (mkF m 44 #[.val (.ref a), .val (.ref b_), .val (.int (Nat.toInt32 s_)), .val (.int (Nat.toInt32 e_)), .val (.int (Nat.toInt32 E_)), .val (.int (Nat.toInt32 (own_sk us_ (E_ - s_) s_)))] [(.int (Nat.toInt32 (own_sk us_ (E_ - s_) s_))), (.ref a)]))
    refine own_via (fun _ k => XS.iload X13.here hx rfl (hb hby d3_44) rfl k) ?_
    show own_Go p e below s _ _ _ (T13.setTop (mkF m 46 #[.val (.ref a), .val (.ref b_), .val (.int (Nat.toInt32 s_)), .val (.int (Nat.toInt32 e_)), .val (.int (Nat.toInt32 E_)), .val (.int (Nat.toInt32 (own_sk us_ (E_ - s_) s_)))] [(.int (Nat.toInt32 E_)), (.int (Nat.toInt32 (own_sk us_ (E_ - s_) s_))), (.ref a)]))
    by_cases hc17 : (Nat.toInt32 (own_sk us_ (E_ - s_) s_)) < (Nat.toInt32 E_)
    · refine own_via (fun _ k => XS.icmpNo X13.here hx rfl (hb hby d3_46) rfl (Jvm.Free.XT.ii_ge_f hc17) k) ?_
      show own_Go p e below s _ _ _ (T13.setTop (mkF m 49 #[.val (.ref a), .val (.ref b_), .val (.int (Nat.toInt32 s_)), .val (.int (Nat.toInt32 e_)), .val (.int (Nat.toInt32 E_)), .val (.int (Nat.toInt32 (own_sk us_ (E_ - s_) s_)))] [(.ref a)]))
      refine own_via (fun _ k => XS.aloadN X13.here hx rfl (hb hby d3_49) rfl rfl k) ?_
      show own_Go p e below s _ _ _ (T13.setTop (mkF m 50 #[.val (.ref a), .val (.ref b_), .val (.int (Nat.toInt32 s_)), .val (.int (Nat.toInt32 e_)), .val (.int (Nat.toInt32 E_)), .val (.int (Nat.toInt32 (own_sk us_ (E_ - s_) s_)))] [(.ref b_), (.ref a)]))
      refine own_via (fun _ k => XS.iload X13.here hx rfl (hb hby d3_50) rfl k) ?_
      show own_Go p e below s _ _ _ (T13.setTop (mkF m 52 #[.val (.ref a), .val (.ref b_), .val (.int (Nat.toInt32 s_)), .val (.int (Nat.toInt32 e_)), .val (.int (Nat.toInt32 E_)), .val (.int (Nat.toInt32 (own_sk us_ (E_ - s_) s_)))] [(.int (Nat.toInt32 (own_sk us_ (E_ - s_) s_))), (.ref b_), (.ref a)]))
      obtain ⟨cl18, Ar18, q18, S18, M18, H18, G18⟩ := (id F15)
      have hin18 : ¬ ((Nat.toInt32 (own_sk us_ (E_ - s_) s_)) < 0 ∨ cl18.slots.size ≤ ((Nat.toInt32 (own_sk us_ (E_ - s_) s_))).toNatClampNeg) := inb_of S18 (own_inb (by omega) (by have := (own_ltn (by omega) (by omega)).mp hc17; omega))
      have hat18 : cl18.slots[((Nat.toInt32 (own_sk us_ (E_ - s_) s_))).toNatClampNeg]? = some (.int (own_g us_ (own_sk us_ (E_ - s_) s_))) := Has.at H18 hin18 (own_gm us_ (by omega))
      refine own_via (fun _ k => X13.baloadBytes hx (j := (Nat.toInt32 (own_sk us_ (E_ - s_) s_))) (v := (.int (own_g us_ (own_sk us_ (E_ - s_) s_)))) (by rw [e13]; exact Ar18.1) (State.isArrayOf_alike hZ.alike Ar18.2.1) Ar18.2.2 hin18 hat18 (g := (mkF m 52 #[.val (.ref a), .val (.ref b_), .val (.int (Nat.toInt32 s_)), .val (.int (Nat.toInt32 e_)), .val (.int (Nat.toInt32 E_)), .val (.int (Nat.toInt32 (own_sk us_ (E_ - s_) s_)))] [(.int (Nat.toInt32 (own_sk us_ (E_ - s_) s_))), (.ref b_), (.ref a)])) rfl rfl (hb hby d3_52) _ k) ?_
      show own_Go p e below s _ _ _ (T13.setTop (mkF m 53 #[.val (.ref a), .val (.ref b_), .val (.int (Nat.toInt32 s_)), .val (.int (Nat.toInt32 e_)), .val (.int (Nat.toInt32 E_)), .val (.int (Nat.toInt32 (own_sk us_ (E_ - s_) s_)))] [(.int (own_g us_ (own_sk us_ (E_ - s_) s_))), (.ref a)]))
      refine own_via (fun _ k => XS.bipush X13.here hx rfl (hb hby d3_53) k) ?_
      show own_Go p e below s _ _ _ (T13.setTop (mkF m 55 #[.val (.ref a), .val (.ref b_), .val (.int (Nat.toInt32 s_)), .val (.int (Nat.toInt32 e_)), .val (.int (Nat.toInt32 E_)), .val (.int (Nat.toInt32 (own_sk us_ (E_ - s_) s_)))] [(.int (35 : Int32)), (.int (own_g us_ (own_sk us_ (E_ - s_) s_))), (.ref a)]))
      by_cases hc19 : (own_g us_ (own_sk us_ (E_ - s_) s_)) = (35 : Int32)
      · refine own_via (fun _ k => XS.icmpNo X13.here hx rfl (hb hby d3_55) rfl (Jvm.Free.XT.ii_ne_f hc19) k) ?_
        show own_Go p e below s _ _ _ (T13.setTop (mkF m 58 #[.val (.ref a), .val (.ref b_), .val (.int (Nat.toInt32 s_)), .val (.int (Nat.toInt32 e_)), .val (.int (Nat.toInt32 E_)), .val (.int (Nat.toInt32 (own_sk us_ (E_ - s_) s_)))] [(.ref a)]))
        refine own_via (fun _ k => XS.iload X13.here hx rfl (hb hby d3_58) rfl k) ?_
        show own_Go p e below s _ _ _ (T13.setTop (mkF m 60 #[.val (.ref a), .val (.ref b_), .val (.int (Nat.toInt32 s_)), .val (.int (Nat.toInt32 e_)), .val (.int (Nat.toInt32 E_)), .val (.int (Nat.toInt32 (own_sk us_ (E_ - s_) s_)))] [(.int (Nat.toInt32 E_)), (.ref a)]))
        refine own_via (fun _ k => XS.goto X13.here hx rfl (pc0 := 60) (pc' := 65) rfl (hb hby d3_60) (by decide) (by decide) k) ?_
        show own_Go p e below s _ _ _ (T13.setTop (mkF m 65 #[.val (.ref a), .val (.ref b_), .val (.int (Nat.toInt32 s_)), .val (.int (Nat.toInt32 e_)), .val (.int (Nat.toInt32 E_)), .val (.int (Nat.toInt32 (own_sk us_ (E_ - s_) s_)))] [(.int (Nat.toInt32 E_)), (.ref a)]))
        have F20 := ((F5.other W9 (Or.inr (slot_ne (Or.inl (hw _ (List.mem_of_getElem? (i := 24) rfl))) (Or.inl (hw _ (List.mem_of_getElem? (i := 16) rfl))) (by decide) (t := .int) (t' := (.array .byte)) (by decide) (by decide)))).other W12 (Or.inr (slot_ne (Or.inl (hw _ (List.mem_of_getElem? (i := 24) rfl))) (Or.inl (hw _ (List.mem_of_getElem? (i := 18) rfl))) (by decide) (t := .int) (t' := .int) (by decide) (by decide))))
        obtain ⟨T21, h21, X21, e21, W21, st21⟩ := putF X13 hx hZ hown (host := "") (Or.inl (hw _ (List.mem_of_getElem? (i := 23) rfl))) Via.refl e13 F20 F16 (Or.inl (hw _ (List.mem_of_getElem? (i := 24) rfl))) (hw _ (List.mem_of_getElem? (i := 2) rfl)) (ty := .int) (by decide) rfl rfl (g := (mkF m 65 #[.val (.ref a), .val (.ref b_), .val (.int (Nat.toInt32 s_)), .val (.int (Nat.toInt32 e_)), .val (.int (Nat.toInt32 E_)), .val (.int (Nat.toInt32 (own_sk us_ (E_ - s_) s_)))] [(.int (Nat.toInt32 E_)), (.ref a)])) rfl rfl (hb hby d3_65)
        have N21 := Fr.snoc X21 N13 g_a
        have Fw21 := F20.same W21
        have Z21 : n0 ≤ h21.size := Nat.le_trans Z12 (Keep.of_wr W21).1
        have K21 : Keep h0 h21 [a] := K12.wr W21 (Or.inl (List.mem_of_getElem? (i := 0) rfl))
        refine own_via st21 ?_
        show own_Go p e below s _ _ _ (T21.setTop (mkF m 68 #[.val (.ref a), .val (.ref b_), .val (.int (Nat.toInt32 s_)), .val (.int (Nat.toInt32 e_)), .val (.int (Nat.toInt32 E_)), .val (.int (Nat.toInt32 (own_sk us_ (E_ - s_) s_)))] []))
        refine own_via (fun _ k => XS.aloadN X21.here hx rfl (hb hby d3_68) rfl rfl k) ?_
        show own_Go p e below s _ _ _ (T21.setTop (mkF m 69 #[.val (.ref a), .val (.ref b_), .val (.int (Nat.toInt32 s_)), .val (.int (Nat.toInt32 e_)), .val (.int (Nat.toInt32 E_)), .val (.int (Nat.toInt32 (own_sk us_ (E_ - s_) s_)))] [(.ref a)]))
        refine own_via (fun _ k => XS.iloadN X21.here hx rfl (hb hby d3_69) rfl k) ?_
        show own_Go p e below s _ _ _ (T21.setTop (mkF m 70 #[.val (.ref a), .val (.ref b_), .val (.int (Nat.toInt32 s_)), .val (.int (Nat.toInt32 e_)), .val (.int (Nat.toInt32 E_)), .val (.int (Nat.toInt32 (own_sk us_ (E_ - s_) s_)))] [(.int (Nat.toInt32 s_)), (.ref a)]))
        have F22 := (F16.wr W21)
        have F23 := (((F6.other W9 (Or.inr (slot_ne (Or.inl (hw _ (List.mem_of_getElem? (i := 26) rfl))) (Or.inl (hw _ (List.mem_of_getElem? (i := 16) rfl))) (by decide) (t := .int) (t' := (.array .byte)) (by decide) (by decide)))).other W12 (Or.inr (slot_ne (Or.inl (hw _ (List.mem_of_getElem? (i := 26) rfl))) (Or.inl (hw _ (List.mem_of_getElem? (i := 18) rfl))) (by decide) (t := .int) (t' := .int) (by decide) (by decide)))).other W21 (Or.inr (slot_ne (Or.inl (hw _ (List.mem_of_getElem? (i := 26) rfl))) (Or.inl (hw _ (List.mem_of_getElem? (i := 24) rfl))) (by decide) (t := .int) (t' := .int) (by decide) (by decide))))
        obtain ⟨T24, h24, X24, e24, W24, st24⟩ := putF X21 hx hZ hown (host := "") (Or.inl (hw _ (List.mem_of_getElem? (i := 25) rfl))) Via.refl e21 F23 F22 (Or.inl (hw _ (List.mem_of_getElem? (i := 26) rfl))) (hw _ (List.mem_of_getElem? (i := 2) rfl)) (ty := .int) (by decide) rfl rfl (g := (mkF m 70 #[.val (.ref a), .val (.ref b_), .val (.int (Nat.toInt32 s_)), .val (.int (Nat.toInt32 e_)), .val (.int (Nat.toInt32 E_)), .val (.int (Nat.toInt32 (own_sk us_ (E_ - s_) s_)))] [(.int (Nat.toInt32 s_)), (.ref a)])) rfl rfl (hb hby d3_70)
        have N24 := Fr.snoc X24 N21 g_a
        have Fw24 := F23.same W24
        have Z24 : n0 ≤ h24.size := Nat.le_trans Z21 (Keep.of_wr W24).1
        have K24 : Keep h0 h24 [a] := K21.wr W24 (Or.inl (List.mem_of_getElem? (i := 0) rfl))
        refine own_via st24 ?_
        show own_Go p e below s _ _ _ (T24.setTop (mkF m 73 #[.val (.ref a), .val (.ref b_), .val (.int (Nat.toInt32 s_)), .val (.int (Nat.toInt32 e_)), .val (.int (Nat.toInt32 E_)), .val (.int (Nat.toInt32 (own_sk us_ (E_ - s_) s_)))] []))
        refine own_via (fun _ k => XS.aloadN X24.here hx rfl (hb hby d3_73) rfl rfl k) ?_
        show own_Go p e below s _ _ _ (T24.setTop (mkF m 74 #[.val (.ref a), .val (.ref b_), .val (.int (Nat.toInt32 s_)), .val (.int (Nat.toInt32 e_)), .val (.int (Nat.toInt32 E_)), .val (.int (Nat.toInt32 (own_sk us_ (E_ - s_) s_)))] [(.ref a)]))
        refine own_via (fun _ k => XS.iloadN X24.here hx rfl (hb hby d3_74) rfl k) ?_
        show own_Go p e below s _ _ _ (T24.setTop (mkF m 75 #[.val (.ref a), .val (.ref b_), .val (.int (Nat.toInt32 s_)), .val (.int (Nat.toInt32 e_)), .val (.int (Nat.toInt32 E_)), .val (.int (Nat.toInt32 (own_sk us_ (E_ - s_) s_)))] [(.int (Nat.toInt32 s_)), (.ref a)]))
        have F25 := (F22.wr W24)
        have F26 := ((((F7.other W9 (Or.inr (slot_ne (Or.inl (hw _ (List.mem_of_getElem? (i := 28) rfl))) (Or.inl (hw _ (List.mem_of_getElem? (i := 16) rfl))) (by decide) (t := .int) (t' := (.array .byte)) (by decide) (by decide)))).other W12 (Or.inr (slot_ne (Or.inl (hw _ (List.mem_of_getElem? (i := 28) rfl))) (Or.inl (hw _ (List.mem_of_getElem? (i := 18) rfl))) (by decide) (t := .int) (t' := .int) (by decide) (by decide)))).other W21 (Or.inr (slot_ne (Or.inl (hw _ (List.mem_of_getElem? (i := 28) rfl))) (Or.inl (hw _ (List.mem_of_getElem? (i := 24) rfl))) (by decide) (t := .int) (t' := .int) (by decide) (by decide)))).other W24 (Or.inr (slot_ne (Or.inl (hw _ (List.mem_of_getElem? (i := 28) rfl))) (Or.inl (hw _ (List.mem_of_getElem? (i := 26) rfl))) (by decide) (t := .int) (t' := .int) (by decide) (by decide))))
        obtain ⟨T27, h27, X27, e27, W27, st27⟩ := putF X24 hx hZ hown (host := "") (Or.inl (hw _ (List.mem_of_getElem? (i := 27) rfl))) Via.refl e24 F26 F25 (Or.inl (hw _ (List.mem_of_getElem? (i := 28) rfl))) (hw _ (List.mem_of_getElem? (i := 2) rfl)) (ty := .int) (by decide) rfl rfl (g := (mkF m 75 #[.val (.ref a), .val (.ref b_), .val (.int (Nat.toInt32 s_)), .val (.int (Nat.toInt32 e_)), .val (.int (Nat.toInt32 E_)), .val (.int (Nat.toInt32 (own_sk us_ (E_ - s_) s_)))] [(.int (Nat.toInt32 s_)), (.ref a)])) rfl rfl (hb hby d3_75)
        have N27 := Fr.snoc X27 N24 g_a
        have Fw27 := F26.same W27
        have Z27 : n0 ≤ h27.size := Nat.le_trans Z24 (Keep.of_wr W27).1
        have K27 : Keep h0 h27 [a] := K24.wr W27 (Or.inl (List.mem_of_getElem? (i := 0) rfl))
        refine own_via st27 ?_
        show own_Go p e below s _ _ _ (T27.setTop (mkF m 78 #[.val (.ref a), .val (.ref b_), .val (.int (Nat.toInt32 s_)), .val (.int (Nat.toInt32 e_)), .val (.int (Nat.toInt32 E_)), .val (.int (Nat.toInt32 (own_sk us_ (E_ - s_) s_)))] []))
        have hps28 : own_pos us_ s_ E_ = E_ := by rw [own_pos, if_pos ⟨(own_ltn (by omega) (by omega)).mp hc17, hc19⟩]
        have F29 := (F25.wr W27)
        have F30 := (((F14.other W21 (Or.inr (slot_ne (Or.inl (hw _ (List.mem_of_getElem? (i := 16) rfl))) (Or.inl (hw _ (List.mem_of_getElem? (i := 24) rfl))) (by decide) (t := (.array .byte)) (t' := .int) (by decide) (by decide)))).other W24 (Or.inr (slot_ne (Or.inl (hw _ (List.mem_of_getElem? (i := 16) rfl))) (Or.inl (hw _ (List.mem_of_getElem? (i := 26) rfl))) (by decide) (t := (.array .byte)) (t' := .int) (by decide) (by decide)))).other W27 (Or.inr (slot_ne (Or.inl (hw _ (List.mem_of_getElem? (i := 16) rfl))) (Or.inl (hw _ (List.mem_of_getElem? (i := 28) rfl))) (by decide) (t := (.array .byte)) (t' := .int) (by decide) (by decide))))
        have F31 := (((Fw12.other W21 (Or.inr (slot_ne (Or.inl (hw _ (List.mem_of_getElem? (i := 18) rfl))) (Or.inl (hw _ (List.mem_of_getElem? (i := 24) rfl))) (by decide) (t := .int) (t' := .int) (by decide) (by decide)))).other W24 (Or.inr (slot_ne (Or.inl (hw _ (List.mem_of_getElem? (i := 18) rfl))) (Or.inl (hw _ (List.mem_of_getElem? (i := 26) rfl))) (by decide) (t := .int) (t' := .int) (by decide) (by decide)))).other W27 (Or.inr (slot_ne (Or.inl (hw _ (List.mem_of_getElem? (i := 18) rfl))) (Or.inl (hw _ (List.mem_of_getElem? (i := 28) rfl))) (by decide) (t := .int) (t' := .int) (by decide) (by decide))))
        have F32 := ((Fw21.other W24 (Or.inr (slot_ne (Or.inl (hw _ (List.mem_of_getElem? (i := 24) rfl))) (Or.inl (hw _ (List.mem_of_getElem? (i := 26) rfl))) (by decide) (t := .int) (t' := .int) (by decide) (by decide)))).other W27 (Or.inr (slot_ne (Or.inl (hw _ (List.mem_of_getElem? (i := 24) rfl))) (Or.inl (hw _ (List.mem_of_getElem? (i := 28) rfl))) (by decide) (t := .int) (t' := .int) (by decide) (by decide))))
        have F33 := (Fw24.other W27 (Or.inr (slot_ne (Or.inl (hw _ (List.mem_of_getElem? (i := 26) rfl))) (Or.inl (hw _ (List.mem_of_getElem? (i := 28) rfl))) (by decide) (t := .int) (t' := .int) (by decide) (by decide))))
        exact own_goV X27 hx Bd.returns (hb hby d3_78) Bd.notSynchronized (by decide) (by decide) (by rw [e27]; exact ⟨rfl, N27, K27, F29, F30, (by rw [h3]; exact F31), (by rw [h3, hps28]; exact F32), F33, Fw27⟩)
      · refine own_via (fun _ k => XS.icmpYes X13.here hx rfl (pc0 := 55) (pc' := 63) rfl (hb hby d3_55) rfl (Jvm.Free.XT.ii_ne_t hc19) (by decide) (by decide) k) ?_
        show own_Go p e below s _ _ _ (T13.setTop (mkF m 63 #[.val (.ref a), .val (.ref b_), .val (.int (Nat.toInt32 s_)), .val (.int (Nat.toInt32 e_)), .val (.int (Nat.toInt32 E_)), .val (.int (Nat.toInt32 (own_sk us_ (E_ - s_) s_)))] [(.ref a)]))
        refine own_via (fun _ k => XS.iload X13.here hx rfl (hb hby d3_63) rfl k) ?_
        show own_Go p e below s _ _ _ (T13.setTop (mkF m 65 #[.val (.ref a), .val (.ref b_), .val (.int (Nat.toInt32 s_)), .val (.int (Nat.toInt32 e_)), .val (.int (Nat.toInt32 E_)), .val (.int (Nat.toInt32 (own_sk us_ (E_ - s_) s_)))] [(.int (Nat.toInt32 (own_sk us_ (E_ - s_) s_))), (.ref a)]))
        have F34 := ((F5.other W9 (Or.inr (slot_ne (Or.inl (hw _ (List.mem_of_getElem? (i := 24) rfl))) (Or.inl (hw _ (List.mem_of_getElem? (i := 16) rfl))) (by decide) (t := .int) (t' := (.array .byte)) (by decide) (by decide)))).other W12 (Or.inr (slot_ne (Or.inl (hw _ (List.mem_of_getElem? (i := 24) rfl))) (Or.inl (hw _ (List.mem_of_getElem? (i := 18) rfl))) (by decide) (t := .int) (t' := .int) (by decide) (by decide))))
        obtain ⟨T35, h35, X35, e35, W35, st35⟩ := putF X13 hx hZ hown (host := "") (Or.inl (hw _ (List.mem_of_getElem? (i := 23) rfl))) Via.refl e13 F34 F16 (Or.inl (hw _ (List.mem_of_getElem? (i := 24) rfl))) (hw _ (List.mem_of_getElem? (i := 2) rfl)) (ty := .int) (by decide) rfl rfl (g := (mkF m 65 #[.val (.ref a), .val (.ref b_), .val (.int (Nat.toInt32 s_)), .val (.int (Nat.toInt32 e_)), .val (.int (Nat.toInt32 E_)), .val (.int (Nat.toInt32 (own_sk us_ (E_ - s_) s_)))] [(.int (Nat.toInt32 (own_sk us_ (E_ - s_) s_))), (.ref a)])) rfl rfl (hb hby d3_65)
        have N35 := Fr.snoc X35 N13 g_a
        have Fw35 := F34.same W35
        have Z35 : n0 ≤ h35.size := Nat.le_trans Z12 (Keep.of_wr W35).1
        have K35 : Keep h0 h35 [a] := K12.wr W35 (Or.inl (List.mem_of_getElem? (i := 0) rfl))
        refine own_via st35 ?_
        show own_Go p e below s _ _ _ (T35.setTop (mkF m 68 #[.val (.ref a), .val (.ref b_), .val (.int (Nat.toInt32 s_)), .val (.int (Nat.toInt32 e_)), .val (.int (Nat.toInt32 E_)), .val (.int (Nat.toInt32 (own_sk us_ (E_ - s_) s_)))] []))
        refine own_via (fun _ k => XS.aloadN X35.here hx rfl (hb hby d3_68) rfl rfl k) ?_
        show own_Go p e below s _ _ _ (T35.setTop (mkF m 69 #[.val (.ref a), .val (.ref b_), .val (.int (Nat.toInt32 s_)), .val (.int (Nat.toInt32 e_)), .val (.int (Nat.toInt32 E_)), .val (.int (Nat.toInt32 (own_sk us_ (E_ - s_) s_)))] [(.ref a)]))
        refine own_via (fun _ k => XS.iloadN X35.here hx rfl (hb hby d3_69) rfl k) ?_
        show own_Go p e below s _ _ _ (T35.setTop (mkF m 70 #[.val (.ref a), .val (.ref b_), .val (.int (Nat.toInt32 s_)), .val (.int (Nat.toInt32 e_)), .val (.int (Nat.toInt32 E_)), .val (.int (Nat.toInt32 (own_sk us_ (E_ - s_) s_)))] [(.int (Nat.toInt32 s_)), (.ref a)]))
        have F36 := (F16.wr W35)
        have F37 := (((F6.other W9 (Or.inr (slot_ne (Or.inl (hw _ (List.mem_of_getElem? (i := 26) rfl))) (Or.inl (hw _ (List.mem_of_getElem? (i := 16) rfl))) (by decide) (t := .int) (t' := (.array .byte)) (by decide) (by decide)))).other W12 (Or.inr (slot_ne (Or.inl (hw _ (List.mem_of_getElem? (i := 26) rfl))) (Or.inl (hw _ (List.mem_of_getElem? (i := 18) rfl))) (by decide) (t := .int) (t' := .int) (by decide) (by decide)))).other W35 (Or.inr (slot_ne (Or.inl (hw _ (List.mem_of_getElem? (i := 26) rfl))) (Or.inl (hw _ (List.mem_of_getElem? (i := 24) rfl))) (by decide) (t := .int) (t' := .int) (by decide) (by decide))))
        obtain ⟨T38, h38, X38, e38, W38, st38⟩ := putF X35 hx hZ hown (host := "") (Or.inl (hw _ (List.mem_of_getElem? (i := 25) rfl))) Via.refl e35 F37 F36 (Or.inl (hw _ (List.mem_of_getElem? (i := 26) rfl))) (hw _ (List.mem_of_getElem? (i := 2) rfl)) (ty := .int) (by decide) rfl rfl (g := (mkF m 70 #[.val (.ref a), .val (.ref b_), .val (.int (Nat.toInt32 s_)), .val (.int (Nat.toInt32 e_)), .val (.int (Nat.toInt32 E_)), .val (.int (Nat.toInt32 (own_sk us_ (E_ - s_) s_)))] [(.int (Nat.toInt32 s_)), (.ref a)])) rfl rfl (hb hby d3_70)
        have N38 := Fr.snoc X38 N35 g_a
        have Fw38 := F37.same W38
        have Z38 : n0 ≤ h38.size := Nat.le_trans Z35 (Keep.of_wr W38).1
        have K38 : Keep h0 h38 [a] := K35.wr W38 (Or.inl (List.mem_of_getElem? (i := 0) rfl))
        refine own_via st38 ?_
        show own_Go p e below s _ _ _ (T38.setTop (mkF m 73 #[.val (.ref a), .val (.ref b_), .val (.int (Nat.toInt32 s_)), .val (.int (Nat.toInt32 e_)), .val (.int (Nat.toInt32 E_)), .val (.int (Nat.toInt32 (own_sk us_ (E_ - s_) s_)))] []))
        refine own_via (fun _ k => XS.aloadN X38.here hx rfl (hb hby d3_73) rfl rfl k) ?_
        show own_Go p e below s _ _ _ (T38.setTop (mkF m 74 #[.val (.ref a), .val (.ref b_), .val (.int (Nat.toInt32 s_)), .val (.int (Nat.toInt32 e_)), .val (.int (Nat.toInt32 E_)), .val (.int (Nat.toInt32 (own_sk us_ (E_ - s_) s_)))] [(.ref a)]))
        refine own_via (fun _ k => XS.iloadN X38.here hx rfl (hb hby d3_74) rfl k) ?_
        show own_Go p e below s _ _ _ (T38.setTop (mkF m 75 #[.val (.ref a), .val (.ref b_), .val (.int (Nat.toInt32 s_)), .val (.int (Nat.toInt32 e_)), .val (.int (Nat.toInt32 E_)), .val (.int (Nat.toInt32 (own_sk us_ (E_ - s_) s_)))] [(.int (Nat.toInt32 s_)), (.ref a)]))
        have F39 := (F36.wr W38)
        have F40 := ((((F7.other W9 (Or.inr (slot_ne (Or.inl (hw _ (List.mem_of_getElem? (i := 28) rfl))) (Or.inl (hw _ (List.mem_of_getElem? (i := 16) rfl))) (by decide) (t := .int) (t' := (.array .byte)) (by decide) (by decide)))).other W12 (Or.inr (slot_ne (Or.inl (hw _ (List.mem_of_getElem? (i := 28) rfl))) (Or.inl (hw _ (List.mem_of_getElem? (i := 18) rfl))) (by decide) (t := .int) (t' := .int) (by decide) (by decide)))).other W35 (Or.inr (slot_ne (Or.inl (hw _ (List.mem_of_getElem? (i := 28) rfl))) (Or.inl (hw _ (List.mem_of_getElem? (i := 24) rfl))) (by decide) (t := .int) (t' := .int) (by decide) (by decide)))).other W38 (Or.inr (slot_ne (Or.inl (hw _ (List.mem_of_getElem? (i := 28) rfl))) (Or.inl (hw _ (List.mem_of_getElem? (i := 26) rfl))) (by decide) (t := .int) (t' := .int) (by decide) (by decide))))
        obtain ⟨T41, h41, X41, e41, W41, st41⟩ := putF X38 hx hZ hown (host := "") (Or.inl (hw _ (List.mem_of_getElem? (i := 27) rfl))) Via.refl e38 F40 F39 (Or.inl (hw _ (List.mem_of_getElem? (i := 28) rfl))) (hw _ (List.mem_of_getElem? (i := 2) rfl)) (ty := .int) (by decide) rfl rfl (g := (mkF m 75 #[.val (.ref a), .val (.ref b_), .val (.int (Nat.toInt32 s_)), .val (.int (Nat.toInt32 e_)), .val (.int (Nat.toInt32 E_)), .val (.int (Nat.toInt32 (own_sk us_ (E_ - s_) s_)))] [(.int (Nat.toInt32 s_)), (.ref a)])) rfl rfl (hb hby d3_75)
        have N41 := Fr.snoc X41 N38 g_a
        have Fw41 := F40.same W41
        have Z41 : n0 ≤ h41.size := Nat.le_trans Z38 (Keep.of_wr W41).1
        have K41 : Keep h0 h41 [a] := K38.wr W41 (Or.inl (List.mem_of_getElem? (i := 0) rfl))
        refine own_via st41 ?_
        show own_Go p e below s _ _ _ (T41.setTop (mkF m 78 #[.val (.ref a), .val (.ref b_), .val (.int (Nat.toInt32 s_)), .val (.int (Nat.toInt32 e_)), .val (.int (Nat.toInt32 E_)), .val (.int (Nat.toInt32 (own_sk us_ (E_ - s_) s_)))] []))
        have hps42 : own_pos us_ s_ E_ = (own_sk us_ (E_ - s_) s_) := by rw [own_pos, if_neg (fun q => hc19 q.2)]
        have F43 := (F39.wr W41)
        have F44 := (((F14.other W35 (Or.inr (slot_ne (Or.inl (hw _ (List.mem_of_getElem? (i := 16) rfl))) (Or.inl (hw _ (List.mem_of_getElem? (i := 24) rfl))) (by decide) (t := (.array .byte)) (t' := .int) (by decide) (by decide)))).other W38 (Or.inr (slot_ne (Or.inl (hw _ (List.mem_of_getElem? (i := 16) rfl))) (Or.inl (hw _ (List.mem_of_getElem? (i := 26) rfl))) (by decide) (t := (.array .byte)) (t' := .int) (by decide) (by decide)))).other W41 (Or.inr (slot_ne (Or.inl (hw _ (List.mem_of_getElem? (i := 16) rfl))) (Or.inl (hw _ (List.mem_of_getElem? (i := 28) rfl))) (by decide) (t := (.array .byte)) (t' := .int) (by decide) (by decide))))
        have F45 := (((Fw12.other W35 (Or.inr (slot_ne (Or.inl (hw _ (List.mem_of_getElem? (i := 18) rfl))) (Or.inl (hw _ (List.mem_of_getElem? (i := 24) rfl))) (by decide) (t := .int) (t' := .int) (by decide) (by decide)))).other W38 (Or.inr (slot_ne (Or.inl (hw _ (List.mem_of_getElem? (i := 18) rfl))) (Or.inl (hw _ (List.mem_of_getElem? (i := 26) rfl))) (by decide) (t := .int) (t' := .int) (by decide) (by decide)))).other W41 (Or.inr (slot_ne (Or.inl (hw _ (List.mem_of_getElem? (i := 18) rfl))) (Or.inl (hw _ (List.mem_of_getElem? (i := 28) rfl))) (by decide) (t := .int) (t' := .int) (by decide) (by decide))))
        have F46 := ((Fw35.other W38 (Or.inr (slot_ne (Or.inl (hw _ (List.mem_of_getElem? (i := 24) rfl))) (Or.inl (hw _ (List.mem_of_getElem? (i := 26) rfl))) (by decide) (t := .int) (t' := .int) (by decide) (by decide)))).other W41 (Or.inr (slot_ne (Or.inl (hw _ (List.mem_of_getElem? (i := 24) rfl))) (Or.inl (hw _ (List.mem_of_getElem? (i := 28) rfl))) (by decide) (t := .int) (t' := .int) (by decide) (by decide))))
        have F47 := (Fw38.other W41 (Or.inr (slot_ne (Or.inl (hw _ (List.mem_of_getElem? (i := 26) rfl))) (Or.inl (hw _ (List.mem_of_getElem? (i := 28) rfl))) (by decide) (t := .int) (t' := .int) (by decide) (by decide))))
        exact own_goV X41 hx Bd.returns (hb hby d3_78) Bd.notSynchronized (by decide) (by decide) (by rw [e41]; exact ⟨rfl, N41, K41, F43, F44, (by rw [h3]; exact F45), (by rw [h3, hps42]; exact F46), F47, Fw41⟩)
    · refine own_via (fun _ k => XS.icmpYes X13.here hx rfl (pc0 := 46) (pc' := 63) rfl (hb hby d3_46) rfl (Jvm.Free.XT.ii_ge_t hc17) (by decide) (by decide) k) ?_
      show own_Go p e below s _ _ _ (T13.setTop (mkF m 63 #[.val (.ref a), .val (.ref b_), .val (.int (Nat.toInt32 s_)), .val (.int (Nat.toInt32 e_)), .val (.int (Nat.toInt32 E_)), .val (.int (Nat.toInt32 (own_sk us_ (E_ - s_) s_)))] [(.ref a)]))
      refine own_via (fun _ k => XS.iload X13.here hx rfl (hb hby d3_63) rfl k) ?_
      show own_Go p e below s _ _ _ (T13.setTop (mkF m 65 #[.val (.ref a), .val (.ref b_), .val (.int (Nat.toInt32 s_)), .val (.int (Nat.toInt32 e_)), .val (.int (Nat.toInt32 E_)), .val (.int (Nat.toInt32 (own_sk us_ (E_ - s_) s_)))] [(.int (Nat.toInt32 (own_sk us_ (E_ - s_) s_))), (.ref a)]))
      have F48 := ((F5.other W9 (Or.inr (slot_ne (Or.inl (hw _ (List.mem_of_getElem? (i := 24) rfl))) (Or.inl (hw _ (List.mem_of_getElem? (i := 16) rfl))) (by decide) (t := .int) (t' := (.array .byte)) (by decide) (by decide)))).other W12 (Or.inr (slot_ne (Or.inl (hw _ (List.mem_of_getElem? (i := 24) rfl))) (Or.inl (hw _ (List.mem_of_getElem? (i := 18) rfl))) (by decide) (t := .int) (t' := .int) (by decide) (by decide))))
      obtain ⟨T49, h49, X49, e49, W49, st49⟩ := putF X13 hx hZ hown (host := "") (Or.inl (hw _ (List.mem_of_getElem? (i := 23) rfl))) Via.refl e13 F48 F16 (Or.inl (hw _ (List.mem_of_getElem? (i := 24) rfl))) (hw _ (List.mem_of_getElem? (i := 2) rfl)) (ty := .int) (by decide) rfl rfl (g := (mkF m 65 #[.val (.ref a), .val (.ref b_), .val (.int (Nat.toInt32 s_)), .val (.int (Nat.toInt32 e_)), .val (.int (Nat.toInt32 E_)), .val (.int (Nat.toInt32 (own_sk us_ (E_ - s_) s_)))] [(.int (Nat.toInt32 (own_sk us_ (E_ - s_) s_))), (.ref a)])) rfl rfl (hb hby d3_65)
      have N49 := Fr.snoc X49 N13 g_a
      have Fw49 := F48.same W49
      have Z49 : n0 ≤ h49.size := Nat.le_trans Z12 (Keep.of_wr W49).1
      have K49 : Keep h0 h49 [a] := K12.wr W49 (Or.inl (List.mem_of_getElem? (i := 0) rfl))
      refine own_via st49 ?_
      show own_Go p e below s _ _ _ (T49.setTop (mkF m 68 #[.val (.ref a), .val (.ref b_), .val (.int (Nat.toInt32 s_)), .val (.int (Nat.toInt32 e_)), .val (.int (Nat.toInt32 E_)), .val (.int (Nat.toInt32 (own_sk us_ (E_ - s_) s_)))] []))
      refine own_via (fun _ k => XS.aloadN X49.here hx rfl (hb hby d3_68) rfl rfl k) ?_
      show own_Go p e below s _ _ _ (T49.setTop (mkF m 69 #[.val (.ref a), .val (.ref b_), .val (.int (Nat.toInt32 s_)), .val (.int (Nat.toInt32 e_)), .val (.int (Nat.toInt32 E_)), .val (.int (Nat.toInt32 (own_sk us_ (E_ - s_) s_)))] [(.ref a)]))
      refine own_via (fun _ k => XS.iloadN X49.here hx rfl (hb hby d3_69) rfl k) ?_
      show own_Go p e below s _ _ _ (T49.setTop (mkF m 70 #[.val (.ref a), .val (.ref b_), .val (.int (Nat.toInt32 s_)), .val (.int (Nat.toInt32 e_)), .val (.int (Nat.toInt32 E_)), .val (.int (Nat.toInt32 (own_sk us_ (E_ - s_) s_)))] [(.int (Nat.toInt32 s_)), (.ref a)]))
      have F50 := (F16.wr W49)
      have F51 := (((F6.other W9 (Or.inr (slot_ne (Or.inl (hw _ (List.mem_of_getElem? (i := 26) rfl))) (Or.inl (hw _ (List.mem_of_getElem? (i := 16) rfl))) (by decide) (t := .int) (t' := (.array .byte)) (by decide) (by decide)))).other W12 (Or.inr (slot_ne (Or.inl (hw _ (List.mem_of_getElem? (i := 26) rfl))) (Or.inl (hw _ (List.mem_of_getElem? (i := 18) rfl))) (by decide) (t := .int) (t' := .int) (by decide) (by decide)))).other W49 (Or.inr (slot_ne (Or.inl (hw _ (List.mem_of_getElem? (i := 26) rfl))) (Or.inl (hw _ (List.mem_of_getElem? (i := 24) rfl))) (by decide) (t := .int) (t' := .int) (by decide) (by decide))))
      obtain ⟨T52, h52, X52, e52, W52, st52⟩ := putF X49 hx hZ hown (host := "") (Or.inl (hw _ (List.mem_of_getElem? (i := 25) rfl))) Via.refl e49 F51 F50 (Or.inl (hw _ (List.mem_of_getElem? (i := 26) rfl))) (hw _ (List.mem_of_getElem? (i := 2) rfl)) (ty := .int) (by decide) rfl rfl (g := (mkF m 70 #[.val (.ref a), .val (.ref b_), .val (.int (Nat.toInt32 s_)), .val (.int (Nat.toInt32 e_)), .val (.int (Nat.toInt32 E_)), .val (.int (Nat.toInt32 (own_sk us_ (E_ - s_) s_)))] [(.int (Nat.toInt32 s_)), (.ref a)])) rfl rfl (hb hby d3_70)
      have N52 := Fr.snoc X52 N49 g_a
      have Fw52 := F51.same W52
      have Z52 : n0 ≤ h52.size := Nat.le_trans Z49 (Keep.of_wr W52).1
      have K52 : Keep h0 h52 [a] := K49.wr W52 (Or.inl (List.mem_of_getElem? (i := 0) rfl))
      refine own_via st52 ?_
      show own_Go p e below s _ _ _ (T52.setTop (mkF m 73 #[.val (.ref a), .val (.ref b_), .val (.int (Nat.toInt32 s_)), .val (.int (Nat.toInt32 e_)), .val (.int (Nat.toInt32 E_)), .val (.int (Nat.toInt32 (own_sk us_ (E_ - s_) s_)))] []))
      refine own_via (fun _ k => XS.aloadN X52.here hx rfl (hb hby d3_73) rfl rfl k) ?_
      show own_Go p e below s _ _ _ (T52.setTop (mkF m 74 #[.val (.ref a), .val (.ref b_), .val (.int (Nat.toInt32 s_)), .val (.int (Nat.toInt32 e_)), .val (.int (Nat.toInt32 E_)), .val (.int (Nat.toInt32 (own_sk us_ (E_ - s_) s_)))] [(.ref a)]))
      refine own_via (fun _ k => XS.iloadN X52.here hx rfl (hb hby d3_74) rfl k) ?_
      show own_Go p e below s _ _ _ (T52.setTop (mkF m 75 #[.val (.ref a), .val (.ref b_), .val (.int (Nat.toInt32 s_)), .val (.int (Nat.toInt32 e_)), .val (.int (Nat.toInt32 E_)), .val (.int (Nat.toInt32 (own_sk us_ (E_ - s_) s_)))] [(.int (Nat.toInt32 s_)), (.ref a)]))
      have F53 := (F50.wr W52)
      have F54 := ((((F7.other W9 (Or.inr (slot_ne (Or.inl (hw _ (List.mem_of_getElem? (i := 28) rfl))) (Or.inl (hw _ (List.mem_of_getElem? (i := 16) rfl))) (by decide) (t := .int) (t' := (.array .byte)) (by decide) (by decide)))).other W12 (Or.inr (slot_ne (Or.inl (hw _ (List.mem_of_getElem? (i := 28) rfl))) (Or.inl (hw _ (List.mem_of_getElem? (i := 18) rfl))) (by decide) (t := .int) (t' := .int) (by decide) (by decide)))).other W49 (Or.inr (slot_ne (Or.inl (hw _ (List.mem_of_getElem? (i := 28) rfl))) (Or.inl (hw _ (List.mem_of_getElem? (i := 24) rfl))) (by decide) (t := .int) (t' := .int) (by decide) (by decide)))).other W52 (Or.inr (slot_ne (Or.inl (hw _ (List.mem_of_getElem? (i := 28) rfl))) (Or.inl (hw _ (List.mem_of_getElem? (i := 26) rfl))) (by decide) (t := .int) (t' := .int) (by decide) (by decide))))
      obtain ⟨T55, h55, X55, e55, W55, st55⟩ := putF X52 hx hZ hown (host := "") (Or.inl (hw _ (List.mem_of_getElem? (i := 27) rfl))) Via.refl e52 F54 F53 (Or.inl (hw _ (List.mem_of_getElem? (i := 28) rfl))) (hw _ (List.mem_of_getElem? (i := 2) rfl)) (ty := .int) (by decide) rfl rfl (g := (mkF m 75 #[.val (.ref a), .val (.ref b_), .val (.int (Nat.toInt32 s_)), .val (.int (Nat.toInt32 e_)), .val (.int (Nat.toInt32 E_)), .val (.int (Nat.toInt32 (own_sk us_ (E_ - s_) s_)))] [(.int (Nat.toInt32 s_)), (.ref a)])) rfl rfl (hb hby d3_75)
      have N55 := Fr.snoc X55 N52 g_a
      have Fw55 := F54.same W55
      have Z55 : n0 ≤ h55.size := Nat.le_trans Z52 (Keep.of_wr W55).1
      have K55 : Keep h0 h55 [a] := K52.wr W55 (Or.inl (List.mem_of_getElem? (i := 0) rfl))
      refine own_via st55 ?_
      show own_Go p e below s _ _ _ (T55.setTop (mkF m 78 #[.val (.ref a), .val (.ref b_), .val (.int (Nat.toInt32 s_)), .val (.int (Nat.toInt32 e_)), .val (.int (Nat.toInt32 E_)), .val (.int (Nat.toInt32 (own_sk us_ (E_ - s_) s_)))] []))
      have hps56 : own_pos us_ s_ E_ = (own_sk us_ (E_ - s_) s_) := by rw [own_pos, if_neg (fun q => hc17 ((own_ltn (by omega) (by omega)).mpr q.1))]
      have F57 := (F53.wr W55)
      have F58 := (((F14.other W49 (Or.inr (slot_ne (Or.inl (hw _ (List.mem_of_getElem? (i := 16) rfl))) (Or.inl (hw _ (List.mem_of_getElem? (i := 24) rfl))) (by decide) (t := (.array .byte)) (t' := .int) (by decide) (by decide)))).other W52 (Or.inr (slot_ne (Or.inl (hw _ (List.mem_of_getElem? (i := 16) rfl))) (Or.inl (hw _ (List.mem_of_getElem? (i := 26) rfl))) (by decide) (t := (.array .byte)) (t' := .int) (by decide) (by decide)))).other W55 (Or.inr (slot_ne (Or.inl (hw _ (List.mem_of_getElem? (i := 16) rfl))) (Or.inl (hw _ (List.mem_of_getElem? (i := 28) rfl))) (by decide) (t := (.array .byte)) (t' := .int) (by decide) (by decide))))
      have F59 := (((Fw12.other W49 (Or.inr (slot_ne (Or.inl (hw _ (List.mem_of_getElem? (i := 18) rfl))) (Or.inl (hw _ (List.mem_of_getElem? (i := 24) rfl))) (by decide) (t := .int) (t' := .int) (by decide) (by decide)))).other W52 (Or.inr (slot_ne (Or.inl (hw _ (List.mem_of_getElem? (i := 18) rfl))) (Or.inl (hw _ (List.mem_of_getElem? (i := 26) rfl))) (by decide) (t := .int) (t' := .int) (by decide) (by decide)))).other W55 (Or.inr (slot_ne (Or.inl (hw _ (List.mem_of_getElem? (i := 18) rfl))) (Or.inl (hw _ (List.mem_of_getElem? (i := 28) rfl))) (by decide) (t := .int) (t' := .int) (by decide) (by decide))))
      have F60 := ((Fw49.other W52 (Or.inr (slot_ne (Or.inl (hw _ (List.mem_of_getElem? (i := 24) rfl))) (Or.inl (hw _ (List.mem_of_getElem? (i := 26) rfl))) (by decide) (t := .int) (t' := .int) (by decide) (by decide)))).other W55 (Or.inr (slot_ne (Or.inl (hw _ (List.mem_of_getElem? (i := 24) rfl))) (Or.inl (hw _ (List.mem_of_getElem? (i := 28) rfl))) (by decide) (t := .int) (t' := .int) (by decide) (by decide))))
      have F61 := (Fw52.other W55 (Or.inr (slot_ne (Or.inl (hw _ (List.mem_of_getElem? (i := 26) rfl))) (Or.inl (hw _ (List.mem_of_getElem? (i := 28) rfl))) (by decide) (t := .int) (t' := .int) (by decide) (by decide))))
      exact own_goV X55 hx Bd.returns (hb hby d3_78) Bd.notSynchronized (by decide) (by decide) (by rw [e55]; exact ⟨rfl, N55, K55, F57, F58, (by rw [h3]; exact F59), (by rw [h3, hps56]; exact F60), F61, Fw55⟩)
  show own_Go p e below s _ _ _ (s₁.setTop (mkF m 0 #[.val (.ref a), .val (.ref b_), .val (.int (Nat.toInt32 s_)), .val (.int (Nat.toInt32 e_)), .unset, .unset] []))
  refine own_via (fun _ k => XS.iloadN X0.here hx rfl (hb hby d3_0) rfl k) ?_
  show own_Go p e below s _ _ _ (s₁.setTop (mkF m 1 #[.val (.ref a), .val (.ref b_), .val (.int (Nat.toInt32 s_)), .val (.int (Nat.toInt32 e_)), .unset, .unset] [(.int (Nat.toInt32 e_))]))
  refine own_via (fun _ k => XS.istore X0.here hx rfl (hb hby d3_1) rfl (l' := #[.val (.ref a), .val (.ref b_), .val (.int (Nat.toInt32 s_)), .val (.int (Nat.toInt32 e_)), .val (.int (Nat.toInt32 e_)), .unset]) rfl k) ?_
  show own_Go p e below s _ _ _ (s₁.setTop (mkF m 3 #[.val (.ref a), .val (.ref b_), .val (.int (Nat.toInt32 s_)), .val (.int (Nat.toInt32 e_)), .val (.int (Nat.toInt32 e_)), .unset] []))
  refine own_via (fun _ k => XS.iload X0.here hx rfl (hb hby d3_3) rfl k) ?_
  show own_Go p e below s _ _ _ (s₁.setTop (mkF m 5 #[.val (.ref a), .val (.ref b_), .val (.int (Nat.toInt32 s_)), .val (.int (Nat.toInt32 e_)), .val (.int (Nat.toInt32 e_)), .unset] [(.int (Nat.toInt32 e_))]))
  refine own_via (fun _ k => XS.iloadN X0.here hx rfl (hb hby d3_5) rfl k) ?_
  show own_Go p e below s _ _ _ (s₁.setTop (mkF m 6 #[.val (.ref a), .val (.ref b_), .val (.int (Nat.toInt32 s_)), .val (.int (Nat.toInt32 e_)), .val (.int (Nat.toInt32 e_)), .unset] [(.int (Nat.toInt32 s_)), (.int (Nat.toInt32 e_))]))
  by_cases hc62 : (Nat.toInt32 s_) < (Nat.toInt32 e_)
  · refine own_via (fun _ k => XS.icmpNo X0.here hx rfl (hb hby d3_6) rfl (Jvm.Free.XT.ii_le_f hc62) k) ?_
    show own_Go p e below s _ _ _ (s₁.setTop (mkF m 9 #[.val (.ref a), .val (.ref b_), .val (.int (Nat.toInt32 s_)), .val (.int (Nat.toInt32 e_)), .val (.int (Nat.toInt32 e_)), .unset] []))
    refine own_via (fun _ k => XS.aloadN X0.here hx rfl (hb hby d3_9) rfl rfl k) ?_
    show own_Go p e below s _ _ _ (s₁.setTop (mkF m 10 #[.val (.ref a), .val (.ref b_), .val (.int (Nat.toInt32 s_)), .val (.int (Nat.toInt32 e_)), .val (.int (Nat.toInt32 e_)), .unset] [(.ref b_)]))
    refine own_via (fun _ k => XS.iload X0.here hx rfl (hb hby d3_10) rfl k) ?_
    show own_Go p e below s _ _ _ (s₁.setTop (mkF m 12 #[.val (.ref a), .val (.ref b_), .val (.int (Nat.toInt32 s_)), .val (.int (Nat.toInt32 e_)), .val (.int (Nat.toInt32 e_)), .unset] [(.int (Nat.toInt32 e_)), (.ref b_)]))
    refine own_via (fun _ k => XS.iconst X0.here hx rfl (hb hby d3_12) k) ?_
    show own_Go p e below s _ _ _ (s₁.setTop (mkF m 13 #[.val (.ref a), .val (.ref b_), .val (.int (Nat.toInt32 s_)), .val (.int (Nat.toInt32 e_)), .val (.int (Nat.toInt32 e_)), .unset] [(.int (1 : Int32)), (.int (Nat.toInt32 e_)), (.ref b_)]))
    refine own_via (fun _ k => XS.isub X0.here hx rfl (hb hby d3_13) rfl k) ?_
    show own_Go p e below s _ _ _ (s₁.setTop (mkF m 14 #[.val (.ref a), .val (.ref b_), .val (.int (Nat.toInt32 s_)), .val (.int (Nat.toInt32 e_)), .val (.int (Nat.toInt32 e_)), .unset] [(.int ((Nat.toInt32 e_) - (1 : Int32))), (.ref b_)]))
    have h0e : s_ < e_ := (own_ltn (by omega) (by omega)).mp hc62
    rw [show ((Nat.toInt32 e_) - (1 : Int32)) = (Nat.toInt32 (e_ - 1)) from (own_pred (by omega))]
    show own_Go p e below s _ _ _ (s₁.setTop (mkF m 14 #[.val (.ref a), .val (.ref b_), .val (.int (Nat.toInt32 s_)), .val (.int (Nat.toInt32 e_)), .val (.int (Nat.toInt32 e_)), .unset] [(.int (Nat.toInt32 (e_ - 1))), (.ref b_)]))
    obtain ⟨cl63, Ar63, q63, S63, M63, H63, G63⟩ := (id V_b_)
    have hin63 : ¬ ((Nat.toInt32 (e_ - 1)) < 0 ∨ cl63.slots.size ≤ ((Nat.toInt32 (e_ - 1))).toNatClampNeg) := inb_of S63 (own_inb (by omega) (by omega))
    have hat63 : cl63.slots[((Nat.toInt32 (e_ - 1))).toNatClampNeg]? = some (.int (own_g us_ (e_ - 1))) := Has.at H63 hin63 (own_gm us_ (by omega))
    refine own_via (fun _ k => X0.baloadBytes hx (j := (Nat.toInt32 (e_ - 1))) (v := (.int (own_g us_ (e_ - 1)))) (by rw [e0]; exact Ar63.1) (State.isArrayOf_alike hZ.alike Ar63.2.1) Ar63.2.2 hin63 hat63 (g := (mkF m 14 #[.val (.ref a), .val (.ref b_), .val (.int (Nat.toInt32 s_)), .val (.int (Nat.toInt32 e_)), .val (.int (Nat.toInt32 e_)), .unset] [(.int (Nat.toInt32 (e_ - 1))), (.ref b_)])) rfl rfl (hb hby d3_14) _ k) ?_
    show own_Go p e below s _ _ _ (s₁.setTop (mkF m 15 #[.val (.ref a), .val (.ref b_), .val (.int (Nat.toInt32 s_)), .val (.int (Nat.toInt32 e_)), .val (.int (Nat.toInt32 e_)), .unset] [(.int (own_g us_ (e_ - 1)))]))
    refine own_via (fun _ k => XS.bipush X0.here hx rfl (hb hby d3_15) k) ?_
    show own_Go p e below s _ _ _ (s₁.setTop (mkF m 17 #[.val (.ref a), .val (.ref b_), .val (.int (Nat.toInt32 s_)), .val (.int (Nat.toInt32 e_)), .val (.int (Nat.toInt32 e_)), .unset] [(.int (13 : Int32)), (.int (own_g us_ (e_ - 1)))]))
    by_cases hc64 : (own_g us_ (e_ - 1)) = (13 : Int32)
    · refine own_via (fun _ k => XS.icmpNo X0.here hx rfl (hb hby d3_17) rfl (Jvm.Free.XT.ii_ne_f hc64) k) ?_
      show own_Go p e below s _ _ _ (s₁.setTop (mkF m 20 #[.val (.ref a), .val (.ref b_), .val (.int (Nat.toInt32 s_)), .val (.int (Nat.toInt32 e_)), .val (.int (Nat.toInt32 e_)), .unset] []))
      refine own_via (fun _ k => XS.iinc X0.here hx rfl (hb hby d3_20) rfl (l' := #[.val (.ref a), .val (.ref b_), .val (.int (Nat.toInt32 s_)), .val (.int (Nat.toInt32 e_)), .val (.int ((Nat.toInt32 e_) + (-1 : Int32))), .unset]) rfl k) ?_
      show own_Go p e below s _ _ _ (s₁.setTop (mkF m 23 #[.val (.ref a), .val (.ref b_), .val (.int (Nat.toInt32 s_)), .val (.int (Nat.toInt32 e_)), .val (.int ((Nat.toInt32 e_) + (-1 : Int32))), .unset] []))
      rw [own_pred' (by omega : 0 < e_)]
      show own_Go p e below s _ _ _ (s₁.setTop (mkF m 23 #[.val (.ref a), .val (.ref b_), .val (.int (Nat.toInt32 s_)), .val (.int (Nat.toInt32 e_)), .val (.int (Nat.toInt32 (e_ - 1))), .unset] []))
      exact jn (e_ - 1) _ _ _ X0 e0 N0 Z0 K0 E_a F_bytes_a F_end_a F_position_a F_fieldStart_a F_fieldEnd_a V_b_ (by have := (own_ltn (by omega) (by omega)).mp hc62; omega) (by omega) (by rw [own_end, if_pos ⟨(own_ltn (by omega) (by omega)).mp hc62, hc64⟩])
    · refine own_via (fun _ k => XS.icmpYes X0.here hx rfl (pc0 := 17) (pc' := 23) rfl (hb hby d3_17) rfl (Jvm.Free.XT.ii_ne_t hc64) (by decide) (by decide) k) ?_
      show own_Go p e below s _ _ _ (s₁.setTop (mkF m 23 #[.val (.ref a), .val (.ref b_), .val (.int (Nat.toInt32 s_)), .val (.int (Nat.toInt32 e_)), .val (.int (Nat.toInt32 e_)), .unset] []))
      exact jn e_ _ _ _ X0 e0 N0 Z0 K0 E_a F_bytes_a F_end_a F_position_a F_fieldStart_a F_fieldEnd_a V_b_ (by omega) (by omega) (by rw [own_end, if_neg (fun q => hc64 q.2)])
  · refine own_via (fun _ k => XS.icmpYes X0.here hx rfl (pc0 := 6) (pc' := 23) rfl (hb hby d3_6) rfl (Jvm.Free.XT.ii_le_t hc62) (by decide) (by decide) k) ?_
    show own_Go p e below s _ _ _ (s₁.setTop (mkF m 23 #[.val (.ref a), .val (.ref b_), .val (.int (Nat.toInt32 s_)), .val (.int (Nat.toInt32 e_)), .val (.int (Nat.toInt32 e_)), .unset] []))
    exact jn e_ _ _ _ X0 e0 N0 Z0 K0 E_a F_bytes_a F_end_a F_position_a F_fieldStart_a F_fieldEnd_a V_b_ (by omega) (by omega) (by rw [own_end, if_neg (fun q => hc62 ((own_ltn (by omega) (by omega)).mpr q.1))])
theorem d8_0 : decode prog_21_method_4_code 0 = .ok (.aload_n 0, 1) := by decide +kernel
theorem d8_1 : decode prog_21_method_4_code 1 = .ok (.aload_n 0, 1) := by decide +kernel
theorem d8_2 : decode prog_21_method_4_code 2 = .ok (.getfield 37, 3) := by decide +kernel
theorem d8_5 : decode prog_21_method_4_code 5 = .ok (.invokevirtual 33, 3) := by decide +kernel
theorem d8_8 : decode prog_21_method_4_code 8 = .ok (.istore_n 1, 1) := by decide +kernel
theorem d8_9 : decode prog_21_method_4_code 9 = .ok (.iload_n 1, 1) := by decide +kernel
theorem d8_10 : decode prog_21_method_4_code 10 = .ok (.aload_n 0, 1) := by decide +kernel
theorem d8_11 : decode prog_21_method_4_code 11 = .ok (.getfield 29, 3) := by decide +kernel
theorem d8_14 : decode prog_21_method_4_code 14 = .ok (.if_icmp .ne 13, 3) := by decide +kernel
theorem d8_17 : decode prog_21_method_4_code 17 = .ok (.aload_n 0, 1) := by decide +kernel
theorem d8_18 : decode prog_21_method_4_code 18 = .ok (.aload_n 0, 1) := by decide +kernel
theorem d8_19 : decode prog_21_method_4_code 19 = .ok (.getfield 29, 3) := by decide +kernel
theorem d8_22 : decode prog_21_method_4_code 22 = .ok (.putfield 37, 3) := by decide +kernel
theorem d8_25 : decode prog_21_method_4_code 25 = .ok (.iconst 0, 1) := by decide +kernel
theorem d8_26 : decode prog_21_method_4_code 26 = .ok (.ireturn, 1) := by decide +kernel
theorem d8_27 : decode prog_21_method_4_code 27 = .ok (.iload_n 1, 1) := by decide +kernel
theorem d8_28 : decode prog_21_method_4_code 28 = .ok (.istore_n 2, 1) := by decide +kernel
theorem d8_29 : decode prog_21_method_4_code 29 = .ok (.iload_n 2, 1) := by decide +kernel
theorem d8_30 : decode prog_21_method_4_code 30 = .ok (.aload_n 0, 1) := by decide +kernel
theorem d8_31 : decode prog_21_method_4_code 31 = .ok (.getfield 29, 3) := by decide +kernel
theorem d8_34 : decode prog_21_method_4_code 34 = .ok (.if_icmp .ge 21, 3) := by decide +kernel
theorem d8_55 : decode prog_21_method_4_code 55 = .ok (.aload_n 0, 1) := by decide +kernel
theorem d8_56 : decode prog_21_method_4_code 56 = .ok (.iload_n 1, 1) := by decide +kernel
theorem d8_57 : decode prog_21_method_4_code 57 = .ok (.putfield 40, 3) := by decide +kernel
theorem d8_60 : decode prog_21_method_4_code 60 = .ok (.aload_n 0, 1) := by decide +kernel
theorem d8_61 : decode prog_21_method_4_code 61 = .ok (.iload_n 2, 1) := by decide +kernel
theorem d8_62 : decode prog_21_method_4_code 62 = .ok (.putfield 43, 3) := by decide +kernel
theorem d8_65 : decode prog_21_method_4_code 65 = .ok (.aload_n 0, 1) := by decide +kernel
theorem d8_66 : decode prog_21_method_4_code 66 = .ok (.iload_n 2, 1) := by decide +kernel
theorem d8_67 : decode prog_21_method_4_code 67 = .ok (.putfield 37, 3) := by decide +kernel
theorem d8_70 : decode prog_21_method_4_code 70 = .ok (.iconst 1, 1) := by decide +kernel
theorem d8_71 : decode prog_21_method_4_code 71 = .ok (.ireturn, 1) := by decide +kernel
theorem d8_37 : decode prog_21_method_4_code 37 = .ok (.aload_n 0, 1) := by decide +kernel
theorem d8_38 : decode prog_21_method_4_code 38 = .ok (.getfield 25, 3) := by decide +kernel
theorem d8_41 : decode prog_21_method_4_code 41 = .ok (.iload_n 2, 1) := by decide +kernel
theorem d8_42 : decode prog_21_method_4_code 42 = .ok (.baload, 1) := by decide +kernel
theorem d8_43 : decode prog_21_method_4_code 43 = .ok (.invokestatic 46, 3) := by decide +kernel
theorem d8_46 : decode prog_21_method_4_code 46 = .ok (.ifCond .ne 9, 3) := by decide +kernel
theorem d8_49 : decode prog_21_method_4_code 49 = .ok (.iinc 2 1, 3) := by decide +kernel
theorem d8_52 : decode prog_21_method_4_code 52 = .ok (.goto (-23), 3) := by decide +kernel
theorem ef_8 (m : MethodId) (x0 : Addr) : entryFrame m #[(.ref x0)] 3 = mkF m 0 #[.val (.ref x0), .unset, .unset] [] := by first | (simp [entryFrame, mkF, argsToLocals, Value.category]; done) | rfl
def Q8 (Z : State) (a : Addr) (b_ : Addr) (k_ : ClassId) (z_ : Int32) (us_ : List Int32) (e_ : Nat) (q_ : Nat) (fs_ : Int32) (ft_ : Int32) (h0 : Heap) (n0 : Nat) (v : Option Value) (h : Heap) (L : List Loc) : Prop := v = some (.int (own_nr us_ e_ q_)) ∧ Fr n0 L ∧ Keep h0 h [a] ∧ Exa Z h a "com/example/enlace/enlace/graph/LineFields" ∧ Fld Z h a "com/example/enlace/enlace/graph/LineFields" "bytes" "[B" (.ref b_) ∧ Fld Z h a "com/example/enlace/enlace/graph/LineFields" "end" "I" (.int (Nat.toInt32 e_)) ∧ Fld Z h a "com/example/enlace/enlace/graph/LineFields" "position" "I" (.int (Nat.toInt32 (own_nq us_ e_ q_))) ∧ Fld Z h a "com/example/enlace/enlace/graph/LineFields" "fieldStart" "I" (.int (own_nfs us_ e_ q_ fs_)) ∧ Fld Z h a "com/example/enlace/enlace/graph/LineFields" "fieldEnd" "I" (.int (own_nft us_ e_ q_ ft_))
set_option maxRecDepth 65536 in
set_option maxHeartbeats 40000000 in
theorem rm8 (l : Launch) (Z : State) (a0 : Array Value) (hw : ∀ d ∈ tables_1, d.before a0 Z = true) (ws : List Jvm.Cond) (a : Addr) (b_ : Addr) (k_ : ClassId) (z_ : Int32) (us_ : List Int32) (e_ : Nat) (q_ : Nat) (fs_ : Int32) (ft_ : Int32) (h0 : Heap) (n0 : Nat) (Z0 : n0 ≤ h0.size) (E_a : Exa Z h0 a "com/example/enlace/enlace/graph/LineFields") (F_bytes_a : Fld Z h0 a "com/example/enlace/enlace/graph/LineFields" "bytes" "[B" (.ref b_)) (F_end_a : Fld Z h0 a "com/example/enlace/enlace/graph/LineFields" "end" "I" (.int (Nat.toInt32 e_))) (F_position_a : Fld Z h0 a "com/example/enlace/enlace/graph/LineFields" "position" "I" (.int (Nat.toInt32 q_))) (F_fieldStart_a : Fld Z h0 a "com/example/enlace/enlace/graph/LineFields" "fieldStart" "I" (.int fs_)) (F_fieldEnd_a : Fld Z h0 a "com/example/enlace/enlace/graph/LineFields" "fieldEnd" "I" (.int ft_)) (V_b_ : Arv Z h0 b_ k_ .byte z_ (us_.map Value.int) (.int (0 : Int32))) (g_a : n0 ≤ a) (ne_b__a : b_ ≠ a) (hp9 : q_ ≤ e_) (hp10 : e_ ≤ 16) (hp11 : (e_ : Int) ≤ z_.toInt) :
    MetFree l (⟨"com/example/enlace/enlace/graph/LineFields", "advance", "()Z"⟩ : MethodName) (head1 (Jvm.Cond.code (⟨"com/example/enlace/enlace/graph/LineFields", "advance", "()Z"⟩ : MethodName) prog_21_method_4_code 3 (some .boolean) :: ws) ({ frames := 2, cells := 0, slots := 0, locals := 26 } : Room)) (fun q_ U => q_ = #[(.ref a)] ∧ Z.Warmed39 U.vm ∧ U.heap = h0) (fun _ _ _ _ _ => True) (fun _ U o U' => ∃ v L, o = .returned v ∧ Q8 Z a b_ k_ z_ us_ e_ q_ fs_ ft_ h0 n0 v U'.heap L ∧ FrameEnd U o U' L ({ frames := 2, cells := 0, slots := 0, locals := 26 } : Room).cells ({ frames := 2, cells := 0, slots := 0, locals := 26 } : Room).slots) := by
  refine MetFree.of_bodySF (plainFor_of_name pn_0) hisR ?_
  intro p e s m args below meth c s₁ Bd hml0 hP hK
  obtain ⟨rfl, hZ, hh⟩ := hP
  have hx := Bd.exec
  have hby := Bd.bytes
  have hml : c.maxLocals = 3 := hml0
  have hown : s.vm.findClass "com/example/enlace/enlace/graph/LineFields" = some m.cls := findClass_of_methodNamed Bd.named
  have hnm := (name_of_methodNamed Bd.named Bd.method).1
  have X0 : Stand p l e ({ frames := 2, cells := 0, slots := 0, locals := 26 } : Room) s m #[(.ref a)] below meth c s₁ [] 0 0 := Stand.of_body Bd
  have e0 : s₁.heap = h0 := by rw [← hh, Bd.state]; rfl
  have N0 := Fr.nil n0
  show own_Go p e below s (Q8 Z a b_ k_ z_ us_ e_ q_ fs_ ft_ h0 n0) ({ frames := 2, cells := 0, slots := 0, locals := 26 } : Room).cells ({ frames := 2, cells := 0, slots := 0, locals := 26 } : Room).slots (s₁.setTop (entryFrame m #[(.ref a)] 3))
  refine own_via (fun t k => castTop (ef_8 m a) k) ?_
  have K0 : Keep h0 h0 [a] := Keep.refl _ _
  show own_Go p e below s _ _ _ (s₁.setTop (mkF m 0 #[.val (.ref a), .unset, .unset] []))
  refine own_via (fun _ k => XS.aloadN X0.here hx rfl (hb hby d8_0) rfl rfl k) ?_
  show own_Go p e below s _ _ _ (s₁.setTop (mkF m 1 #[.val (.ref a), .unset, .unset] [(.ref a)]))
  refine own_via (fun _ k => XS.aloadN X0.here hx rfl (hb hby d8_1) rfl rfl k) ?_
  show own_Go p e below s _ _ _ (s₁.setTop (mkF m 2 #[.val (.ref a), .unset, .unset] [(.ref a), (.ref a)]))
  obtain ⟨T1, X1, e1, st1⟩ := getF X0 hx hZ hown (host := "") (Or.inl (hw _ (List.mem_of_getElem? (i := 23) rfl))) Via.refl e0 F_position_a (g := (mkF m 2 #[.val (.ref a), .unset, .unset] [(.ref a), (.ref a)])) rfl rfl (hb hby d8_2)
  refine own_via st1 ?_
  show own_Go p e below s _ _ _ (T1.setTop (mkF m 5 #[.val (.ref a), .unset, .unset] [(.int (Nat.toInt32 q_)), (.ref a)]))
  obtain ⟨cq2, qa2, qb2⟩ := E_a.cell
  obtain ⟨_, _, ⟨T2, L2, k2, n2⟩, -, X2, ⟨Lc2, hQ2, l2, y2, z2⟩, st2⟩ := X1.privateBack hx (y := (⟨"com/example/enlace/enlace/graph/LineFields", "skipBlanks", "(I)I"⟩ : MethodName)) hown (mvT hZ (hw _ (List.mem_of_getElem? (i := 19) rfl))) (mvT hZ (hw _ (List.mem_of_getElem? (i := 20) rfl))) (own_selP (y' := (⟨"com/example/enlace/enlace/graph/LineFields", "reset", "([BII)V"⟩ : MethodName)) (mvT hZ (hw _ (List.mem_of_getElem? (i := 13) rfl))) rfl (Cond.privateMethod_at (mvP hZ (hw _ (List.mem_of_getElem? (i := 21) rfl)) (args := #[]))) (mvT hZ (hw _ (List.mem_of_getElem? (i := 20) rfl))) (by decide)) (Cond.privateMethod_at (mvP hZ (hw _ (List.mem_of_getElem? (i := 21) rfl)) (args := #[]))) (mvT hZ (hw _ (List.mem_of_getElem? (i := 22) rfl))) (by decide) (backOf (W := 0) (rm4 l Z a0 hw [] a (Nat.toInt32 q_) b_ k_ z_ us_ (Nat.toInt32 e_) q_ (e_ - q_) h0 n0 Z0 F_bytes_a F_end_a V_b_ rfl (by rw [show q_ + (e_ - q_) = e_ by omega]) (by omega) (by omega)) hZ (hw _ (List.mem_of_getElem? (i := 22) rfl)) (hw _ (List.mem_of_getElem? (i := 3) rfl)) (by decide) (by decide)) (g := (mkF m 5 #[.val (.ref a), .unset, .unset] [(.int (Nat.toInt32 q_)), (.ref a)])) rfl (by rw [hml]; rfl) (Steps.refl _) (a := a) (by rw [e1]; exact qa2) qb2 (argsL := [(.int (Nat.toInt32 q_))]) (rest := []) (lenOf pd_1 rfl) rfl (by show 2 * 0 + _ ≤ _; exact Nat.le_of_eq rfl) (hb hby d8_5) (fun _ _ => ⟨rfl, e1, (by decide : 0 + 0 ≤ _), (by decide : 0 + 0 ≤ _)⟩)
  dsimp only [Pt.U, Pt.locs, Pt.cells, Pt.slots] at X2 l2 y2 z2 st2 hQ2
  subst l2 y2 z2
  obtain ⟨rfl, N2q, e2⟩ := hQ2
  have N2 := Fr.app N0 N2q
  refine own_viaT st2 ?_
  show own_Go p e below s _ _ _ (T2.setTop (mkF m 8 #[.val (.ref a), .unset, .unset] [(.int (Nat.toInt32 (own_sk us_ (e_ - q_) q_)))]))
  have hsk := own_A_r (us := us_) hp9
  rw [show (Nat.toInt32 (own_sk us_ (e_ - q_) q_)) = (Nat.toInt32 (own_A us_ e_ q_)) from rfl]
  show own_Go p e below s _ _ _ (T2.setTop (mkF m 8 #[.val (.ref a), .unset, .unset] [(.int (Nat.toInt32 (own_A us_ e_ q_)))]))
  refine own_via (fun _ k => XS.istoreN X2.here hx rfl (hb hby d8_8) rfl (l' := #[.val (.ref a), .val (.int (Nat.toInt32 (own_A us_ e_ q_))), .unset]) rfl k) ?_
  show own_Go p e below s _ _ _ (T2.setTop (mkF m 9 #[.val (.ref a), .val (.int (Nat.toInt32 (own_A us_ e_ q_))), .unset] []))
  refine own_via (fun _ k => XS.iloadN X2.here hx rfl (hb hby d8_9) rfl k) ?_
  show own_Go p e below s _ _ _ (T2.setTop (mkF m 10 #[.val (.ref a), .val (.int (Nat.toInt32 (own_A us_ e_ q_))), .unset] [(.int (Nat.toInt32 (own_A us_ e_ q_)))]))
  refine own_via (fun _ k => XS.aloadN X2.here hx rfl (hb hby d8_10) rfl rfl k) ?_
  show own_Go p e below s _ _ _ (T2.setTop (mkF m 11 #[.val (.ref a), .val (.int (Nat.toInt32 (own_A us_ e_ q_))), .unset] [(.ref a), (.int (Nat.toInt32 (own_A us_ e_ q_)))]))
  obtain ⟨T3, X3, e3, st3⟩ := getF X2 hx hZ hown (host := "") (Or.inl (hw _ (List.mem_of_getElem? (i := 17) rfl))) Via.refl e2 F_end_a (g := (mkF m 11 #[.val (.ref a), .val (.int (Nat.toInt32 (own_A us_ e_ q_))), .unset] [(.ref a), (.int (Nat.toInt32 (own_A us_ e_ q_)))])) rfl rfl (hb hby d8_11)
  refine own_via st3 ?_
  show own_Go p e below s _ _ _ (T3.setTop (mkF m 14 #[.val (.ref a), .val (.int (Nat.toInt32 (own_A us_ e_ q_))), .unset] [(.int (Nat.toInt32 e_)), (.int (Nat.toInt32 (own_A us_ e_ q_)))]))
  by_cases hc4 : (Nat.toInt32 (own_A us_ e_ q_)) = (Nat.toInt32 e_)
  · refine own_via (fun _ k => XS.icmpNo X3.here hx rfl (hb hby d8_14) rfl (Jvm.Free.XT.ii_ne_f hc4) k) ?_
    show own_Go p e below s _ _ _ (T3.setTop (mkF m 17 #[.val (.ref a), .val (.int (Nat.toInt32 (own_A us_ e_ q_))), .unset] []))
    refine own_via (fun _ k => XS.aloadN X3.here hx rfl (hb hby d8_17) rfl rfl k) ?_
    show own_Go p e below s _ _ _ (T3.setTop (mkF m 18 #[.val (.ref a), .val (.int (Nat.toInt32 (own_A us_ e_ q_))), .unset] [(.ref a)]))
    refine own_via (fun _ k => XS.aloadN X3.here hx rfl (hb hby d8_18) rfl rfl k) ?_
    show own_Go p e below s _ _ _ (T3.setTop (mkF m 19 #[.val (.ref a), .val (.int (Nat.toInt32 (own_A us_ e_ q_))), .unset] [(.ref a), (.ref a)]))
    obtain ⟨T5, X5, e5, st5⟩ := getF X3 hx hZ hown (host := "") (Or.inl (hw _ (List.mem_of_getElem? (i := 17) rfl))) Via.refl e3 F_end_a (g := (mkF m 19 #[.val (.ref a), .val (.int (Nat.toInt32 (own_A us_ e_ q_))), .unset] [(.ref a), (.ref a)])) rfl rfl (hb hby d8_19)
    refine own_via st5 ?_
    show own_Go p e below s _ _ _ (T5.setTop (mkF m 22 #[.val (.ref a), .val (.int (Nat.toInt32 (own_A us_ e_ q_))), .unset] [(.int (Nat.toInt32 e_)), (.ref a)]))
    obtain ⟨T6, h6, X6, e6, W6, st6⟩ := putF X5 hx hZ hown (host := "") (Or.inl (hw _ (List.mem_of_getElem? (i := 23) rfl))) Via.refl e5 F_position_a E_a (Or.inl (hw _ (List.mem_of_getElem? (i := 24) rfl))) (hw _ (List.mem_of_getElem? (i := 2) rfl)) (ty := .int) (by decide) rfl rfl (g := (mkF m 22 #[.val (.ref a), .val (.int (Nat.toInt32 (own_A us_ e_ q_))), .unset] [(.int (Nat.toInt32 e_)), (.ref a)])) rfl rfl (hb hby d8_22)
    have N6 := Fr.snoc X6 N2 g_a
    have Fw6 := F_position_a.same W6
    have Z6 : n0 ≤ h6.size := Nat.le_trans Z0 (Keep.of_wr W6).1
    have K6 : Keep h0 h6 [a] := K0.wr W6 (Or.inl (List.mem_of_getElem? (i := 0) rfl))
    refine own_via st6 ?_
    show own_Go p e below s _ _ _ (T6.setTop (mkF m 25 #[.val (.ref a), .val (.int (Nat.toInt32 (own_A us_ e_ q_))), .unset] []))
    refine own_via (fun _ k => XS.iconst X6.here hx rfl (hb hby d8_25) k) ?_
    show own_Go p e below s _ _ _ (T6.setTop (mkF m 26 #[.val (.ref a), .val (.int (Nat.toInt32 (own_A us_ e_ q_))), .unset] [(.int (0 : Int32))]))
    have F7 := (E_a.wr W6)
    have F8 := (F_bytes_a.other W6 (Or.inr (slot_ne (Or.inl (hw _ (List.mem_of_getElem? (i := 16) rfl))) (Or.inl (hw _ (List.mem_of_getElem? (i := 24) rfl))) (by decide) (t := (.array .byte)) (t' := .int) (by decide) (by decide))))
    have F9 := (F_end_a.other W6 (Or.inr (slot_ne (Or.inl (hw _ (List.mem_of_getElem? (i := 18) rfl))) (Or.inl (hw _ (List.mem_of_getElem? (i := 24) rfl))) (by decide) (t := .int) (t' := .int) (by decide) (by decide))))
    have F10 := (F_fieldStart_a.other W6 (Or.inr (slot_ne (Or.inl (hw _ (List.mem_of_getElem? (i := 26) rfl))) (Or.inl (hw _ (List.mem_of_getElem? (i := 24) rfl))) (by decide) (t := .int) (t' := .int) (by decide) (by decide))))
    have F11 := (F_fieldEnd_a.other W6 (Or.inr (slot_ne (Or.inl (hw _ (List.mem_of_getElem? (i := 28) rfl))) (Or.inl (hw _ (List.mem_of_getElem? (i := 24) rfl))) (by decide) (t := .int) (t' := .int) (by decide) (by decide))))
    exact own_goN X6 hx (t := .boolean) Bd.returns (by simp) (hb hby d8_26) Bd.notSynchronized (by decide) (by decide) (by rw [e6]; exact ⟨(by rw [own_nr, if_pos ((own_eqn (by omega) (by omega)).mp hc4)] <;> rfl), N6, K6, F7, F8, F9, (by rw [own_nq, if_pos ((own_eqn (by omega) (by omega)).mp hc4)]; exact Fw6), (by rw [own_nfs, if_pos ((own_eqn (by omega) (by omega)).mp hc4)]; exact F10), (by rw [own_nft, if_pos ((own_eqn (by omega) (by omega)).mp hc4)]; exact F11)⟩)
  · refine own_via (fun _ k => XS.icmpYes X3.here hx rfl (pc0 := 14) (pc' := 27) rfl (hb hby d8_14) rfl (Jvm.Free.XT.ii_ne_t hc4) (by decide) (by decide) k) ?_
    show own_Go p e below s _ _ _ (T3.setTop (mkF m 27 #[.val (.ref a), .val (.int (Nat.toInt32 (own_A us_ e_ q_))), .unset] []))
    refine own_via (fun _ k => XS.iloadN X3.here hx rfl (hb hby d8_27) rfl k) ?_
    show own_Go p e below s _ _ _ (T3.setTop (mkF m 28 #[.val (.ref a), .val (.int (Nat.toInt32 (own_A us_ e_ q_))), .unset] [(.int (Nat.toInt32 (own_A us_ e_ q_)))]))
    refine own_via (fun _ k => XS.istoreN X3.here hx rfl (hb hby d8_28) rfl (l' := #[.val (.ref a), .val (.int (Nat.toInt32 (own_A us_ e_ q_))), .val (.int (Nat.toInt32 (own_A us_ e_ q_)))]) rfl k) ?_
    show own_Go p e below s _ _ _ (T3.setTop (mkF m 29 #[.val (.ref a), .val (.int (Nat.toInt32 (own_A us_ e_ q_))), .val (.int (Nat.toInt32 (own_A us_ e_ q_)))] []))
    have loop : ∀ (n_ : Nat) (i_ : Nat) (T12 : State) (lo12 : List Loc) (h12 : Heap), Stand p l e ({ frames := 2, cells := 0, slots := 0, locals := 26 } : Room) s m #[(.ref a)] below meth c T12 lo12 0 0 → T12.heap = h12 → Fr n0 lo12 → n0 ≤ h12.size → Keep h0 h12 [a] → Exa Z h12 a "com/example/enlace/enlace/graph/LineFields" → Fld Z h12 a "com/example/enlace/enlace/graph/LineFields" "bytes" "[B" (.ref b_) → Fld Z h12 a "com/example/enlace/enlace/graph/LineFields" "end" "I" (.int (Nat.toInt32 e_)) → Fld Z h12 a "com/example/enlace/enlace/graph/LineFields" "position" "I" (.int (Nat.toInt32 q_)) → Fld Z h12 a "com/example/enlace/enlace/graph/LineFields" "fieldStart" "I" (.int fs_) → Fld Z h12 a "com/example/enlace/enlace/graph/LineFields" "fieldEnd" "I" (.int ft_) → Arv Z h12 b_ k_ .byte z_ (us_.map Value.int) (.int (0 : Int32)) → i_ + n_ = e_ → own_nb us_ n_ i_ = (own_Bk us_ e_ q_) → own_Go p e below s (Q8 Z a b_ k_ z_ us_ e_ q_ fs_ ft_ h0 n0) ({ frames := 2, cells := 0, slots := 0, locals := 26 } : Room).cells ({ frames := 2, cells := 0, slots := 0, locals := 26 } : Room).slots (T12.setTop (mkF m 29 #[.val (.ref a), .val (.int (Nat.toInt32 (own_A us_ e_ q_))), .val (.int (Nat.toInt32 i_))] [])) := by
      intro n_
      induction n_ with
      | zero =>
        intro i_ T12 lo12 h12 X12 e12 N12 Z12 K12 F13 F14 F15 F16 F17 F18 F19 hE hr
        show own_Go p e below s _ _ _ (T12.setTop (mkF m 29 #[.val (.ref a), .val (.int (Nat.toInt32 (own_A us_ e_ q_))), .val (.int (Nat.toInt32 i_))] []))
        refine own_via (fun _ k => XS.iloadN X12.here hx rfl (hb hby d8_29) rfl k) ?_
        show own_Go p e below s _ _ _ (T12.setTop (mkF m 30 #[.val (.ref a), .val (.int (Nat.toInt32 (own_A us_ e_ q_))), .val (.int (Nat.toInt32 i_))] [(.int (Nat.toInt32 i_))]))
        refine own_via (fun _ k => XS.aloadN X12.here hx rfl (hb hby d8_30) rfl rfl k) ?_
        show own_Go p e below s _ _ _ (T12.setTop (mkF m 31 #[.val (.ref a), .val (.int (Nat.toInt32 (own_A us_ e_ q_))), .val (.int (Nat.toInt32 i_))] [(.ref a), (.int (Nat.toInt32 i_))]))
        obtain ⟨T20, X20, e20, st20⟩ := getF X12 hx hZ hown (host := "") (Or.inl (hw _ (List.mem_of_getElem? (i := 17) rfl))) Via.refl e12 F15 (g := (mkF m 31 #[.val (.ref a), .val (.int (Nat.toInt32 (own_A us_ e_ q_))), .val (.int (Nat.toInt32 i_))] [(.ref a), (.int (Nat.toInt32 i_))])) rfl rfl (hb hby d8_31)
        refine own_via st20 ?_
        show own_Go p e below s _ _ _ (T20.setTop (mkF m 34 #[.val (.ref a), .val (.int (Nat.toInt32 (own_A us_ e_ q_))), .val (.int (Nat.toInt32 i_))] [(.int (Nat.toInt32 e_)), (.int (Nat.toInt32 i_))]))
        have hc21 : ¬ ((Nat.toInt32 i_) < (Nat.toInt32 e_)) := fun q => absurd ((own_ltn (by omega) (by omega)).mp q) (by omega)
        refine own_via (fun _ k => XS.icmpYes X20.here hx rfl (pc0 := 34) (pc' := 55) rfl (hb hby d8_34) rfl (Jvm.Free.XT.ii_ge_t hc21) (by decide) (by decide) k) ?_
        show own_Go p e below s _ _ _ (T20.setTop (mkF m 55 #[.val (.ref a), .val (.int (Nat.toInt32 (own_A us_ e_ q_))), .val (.int (Nat.toInt32 i_))] []))
        refine own_via (fun _ k => XS.aloadN X20.here hx rfl (hb hby d8_55) rfl rfl k) ?_
        show own_Go p e below s _ _ _ (T20.setTop (mkF m 56 #[.val (.ref a), .val (.int (Nat.toInt32 (own_A us_ e_ q_))), .val (.int (Nat.toInt32 i_))] [(.ref a)]))
        refine own_via (fun _ k => XS.iloadN X20.here hx rfl (hb hby d8_56) rfl k) ?_
        show own_Go p e below s _ _ _ (T20.setTop (mkF m 57 #[.val (.ref a), .val (.int (Nat.toInt32 (own_A us_ e_ q_))), .val (.int (Nat.toInt32 i_))] [(.int (Nat.toInt32 (own_A us_ e_ q_))), (.ref a)]))
        obtain ⟨T22, h22, X22, e22, W22, st22⟩ := putF X20 hx hZ hown (host := "") (Or.inl (hw _ (List.mem_of_getElem? (i := 25) rfl))) Via.refl e20 F17 F13 (Or.inl (hw _ (List.mem_of_getElem? (i := 26) rfl))) (hw _ (List.mem_of_getElem? (i := 2) rfl)) (ty := .int) (by decide) rfl rfl (g := (mkF m 57 #[.val (.ref a), .val (.int (Nat.toInt32 (own_A us_ e_ q_))), .val (.int (Nat.toInt32 i_))] [(.int (Nat.toInt32 (own_A us_ e_ q_))), (.ref a)])) rfl rfl (hb hby d8_57)
        have N22 := Fr.snoc X22 N12 g_a
        have Fw22 := F17.same W22
        have Z22 : n0 ≤ h22.size := Nat.le_trans Z12 (Keep.of_wr W22).1
        have K22 : Keep h0 h22 [a] := K12.wr W22 (Or.inl (List.mem_of_getElem? (i := 0) rfl))
        refine own_via st22 ?_
        show own_Go p e below s _ _ _ (T22.setTop (mkF m 60 #[.val (.ref a), .val (.int (Nat.toInt32 (own_A us_ e_ q_))), .val (.int (Nat.toInt32 i_))] []))
        refine own_via (fun _ k => XS.aloadN X22.here hx rfl (hb hby d8_60) rfl rfl k) ?_
        show own_Go p e below s _ _ _ (T22.setTop (mkF m 61 #[.val (.ref a), .val (.int (Nat.toInt32 (own_A us_ e_ q_))), .val (.int (Nat.toInt32 i_))] [(.ref a)]))
        refine own_via (fun _ k => XS.iloadN X22.here hx rfl (hb hby d8_61) rfl k) ?_
        show own_Go p e below s _ _ _ (T22.setTop (mkF m 62 #[.val (.ref a), .val (.int (Nat.toInt32 (own_A us_ e_ q_))), .val (.int (Nat.toInt32 i_))] [(.int (Nat.toInt32 i_)), (.ref a)]))
        have F23 := (F13.wr W22)
        have F24 := (F18.other W22 (Or.inr (slot_ne (Or.inl (hw _ (List.mem_of_getElem? (i := 28) rfl))) (Or.inl (hw _ (List.mem_of_getElem? (i := 26) rfl))) (by decide) (t := .int) (t' := .int) (by decide) (by decide))))
        obtain ⟨T25, h25, X25, e25, W25, st25⟩ := putF X22 hx hZ hown (host := "") (Or.inl (hw _ (List.mem_of_getElem? (i := 27) rfl))) Via.refl e22 F24 F23 (Or.inl (hw _ (List.mem_of_getElem? (i := 28) rfl))) (hw _ (List.mem_of_getElem? (i := 2) rfl)) (ty := .int) (by decide) rfl rfl (g := (mkF m 62 #[.val (.ref a), .val (.int (Nat.toInt32 (own_A us_ e_ q_))), .val (.int (Nat.toInt32 i_))] [(.int (Nat.toInt32 i_)), (.ref a)])) rfl rfl (hb hby d8_62)
        have N25 := Fr.snoc X25 N22 g_a
        have Fw25 := F24.same W25
        have Z25 : n0 ≤ h25.size := Nat.le_trans Z22 (Keep.of_wr W25).1
        have K25 : Keep h0 h25 [a] := K22.wr W25 (Or.inl (List.mem_of_getElem? (i := 0) rfl))
        refine own_via st25 ?_
        show own_Go p e below s _ _ _ (T25.setTop (mkF m 65 #[.val (.ref a), .val (.int (Nat.toInt32 (own_A us_ e_ q_))), .val (.int (Nat.toInt32 i_))] []))
        refine own_via (fun _ k => XS.aloadN X25.here hx rfl (hb hby d8_65) rfl rfl k) ?_
        show own_Go p e below s _ _ _ (T25.setTop (mkF m 66 #[.val (.ref a), .val (.int (Nat.toInt32 (own_A us_ e_ q_))), .val (.int (Nat.toInt32 i_))] [(.ref a)]))
        refine own_via (fun _ k => XS.iloadN X25.here hx rfl (hb hby d8_66) rfl k) ?_
        show own_Go p e below s _ _ _ (T25.setTop (mkF m 67 #[.val (.ref a), .val (.int (Nat.toInt32 (own_A us_ e_ q_))), .val (.int (Nat.toInt32 i_))] [(.int (Nat.toInt32 i_)), (.ref a)]))
        have F26 := (F23.wr W25)
        have F27 := ((F16.other W22 (Or.inr (slot_ne (Or.inl (hw _ (List.mem_of_getElem? (i := 24) rfl))) (Or.inl (hw _ (List.mem_of_getElem? (i := 26) rfl))) (by decide) (t := .int) (t' := .int) (by decide) (by decide)))).other W25 (Or.inr (slot_ne (Or.inl (hw _ (List.mem_of_getElem? (i := 24) rfl))) (Or.inl (hw _ (List.mem_of_getElem? (i := 28) rfl))) (by decide) (t := .int) (t' := .int) (by decide) (by decide))))
        obtain ⟨T28, h28, X28, e28, W28, st28⟩ := putF X25 hx hZ hown (host := "") (Or.inl (hw _ (List.mem_of_getElem? (i := 23) rfl))) Via.refl e25 F27 F26 (Or.inl (hw _ (List.mem_of_getElem? (i := 24) rfl))) (hw _ (List.mem_of_getElem? (i := 2) rfl)) (ty := .int) (by decide) rfl rfl (g := (mkF m 67 #[.val (.ref a), .val (.int (Nat.toInt32 (own_A us_ e_ q_))), .val (.int (Nat.toInt32 i_))] [(.int (Nat.toInt32 i_)), (.ref a)])) rfl rfl (hb hby d8_67)
        have N28 := Fr.snoc X28 N25 g_a
        have Fw28 := F27.same W28
        have Z28 : n0 ≤ h28.size := Nat.le_trans Z25 (Keep.of_wr W28).1
        have K28 : Keep h0 h28 [a] := K25.wr W28 (Or.inl (List.mem_of_getElem? (i := 0) rfl))
        refine own_via st28 ?_
        show own_Go p e below s _ _ _ (T28.setTop (mkF m 70 #[.val (.ref a), .val (.int (Nat.toInt32 (own_A us_ e_ q_))), .val (.int (Nat.toInt32 i_))] []))
        refine own_via (fun _ k => XS.iconst X28.here hx rfl (hb hby d8_70) k) ?_
        show own_Go p e below s _ _ _ (T28.setTop (mkF m 71 #[.val (.ref a), .val (.int (Nat.toInt32 (own_A us_ e_ q_))), .val (.int (Nat.toInt32 i_))] [(.int (1 : Int32))]))
        have F29 := (F26.wr W28)
        have F30 := (((F14.other W22 (Or.inr (slot_ne (Or.inl (hw _ (List.mem_of_getElem? (i := 16) rfl))) (Or.inl (hw _ (List.mem_of_getElem? (i := 26) rfl))) (by decide) (t := (.array .byte)) (t' := .int) (by decide) (by decide)))).other W25 (Or.inr (slot_ne (Or.inl (hw _ (List.mem_of_getElem? (i := 16) rfl))) (Or.inl (hw _ (List.mem_of_getElem? (i := 28) rfl))) (by decide) (t := (.array .byte)) (t' := .int) (by decide) (by decide)))).other W28 (Or.inr (slot_ne (Or.inl (hw _ (List.mem_of_getElem? (i := 16) rfl))) (Or.inl (hw _ (List.mem_of_getElem? (i := 24) rfl))) (by decide) (t := (.array .byte)) (t' := .int) (by decide) (by decide))))
        have F31 := (((F15.other W22 (Or.inr (slot_ne (Or.inl (hw _ (List.mem_of_getElem? (i := 18) rfl))) (Or.inl (hw _ (List.mem_of_getElem? (i := 26) rfl))) (by decide) (t := .int) (t' := .int) (by decide) (by decide)))).other W25 (Or.inr (slot_ne (Or.inl (hw _ (List.mem_of_getElem? (i := 18) rfl))) (Or.inl (hw _ (List.mem_of_getElem? (i := 28) rfl))) (by decide) (t := .int) (t' := .int) (by decide) (by decide)))).other W28 (Or.inr (slot_ne (Or.inl (hw _ (List.mem_of_getElem? (i := 18) rfl))) (Or.inl (hw _ (List.mem_of_getElem? (i := 24) rfl))) (by decide) (t := .int) (t' := .int) (by decide) (by decide))))
        have F32 := ((Fw22.other W25 (Or.inr (slot_ne (Or.inl (hw _ (List.mem_of_getElem? (i := 26) rfl))) (Or.inl (hw _ (List.mem_of_getElem? (i := 28) rfl))) (by decide) (t := .int) (t' := .int) (by decide) (by decide)))).other W28 (Or.inr (slot_ne (Or.inl (hw _ (List.mem_of_getElem? (i := 26) rfl))) (Or.inl (hw _ (List.mem_of_getElem? (i := 24) rfl))) (by decide) (t := .int) (t' := .int) (by decide) (by decide))))
        have F33 := (Fw25.other W28 (Or.inr (slot_ne (Or.inl (hw _ (List.mem_of_getElem? (i := 28) rfl))) (Or.inl (hw _ (List.mem_of_getElem? (i := 24) rfl))) (by decide) (t := .int) (t' := .int) (by decide) (by decide))))
        exact own_goN X28 hx (t := .boolean) Bd.returns (by simp) (hb hby d8_71) Bd.notSynchronized (by decide) (by decide) (by rw [e28]; exact ⟨(by rw [own_nr, if_neg (fun q => hc4 ((own_eqn (by omega) (by omega)).mpr q))] <;> rfl), N28, K28, F29, F30, F31, (by rw [own_nq, if_neg (fun q => hc4 ((own_eqn (by omega) (by omega)).mpr q)), ← hr, own_nb]; exact Fw28), (by rw [own_nfs, if_neg (fun q => hc4 ((own_eqn (by omega) (by omega)).mpr q))]; exact F32), (by rw [own_nft, if_neg (fun q => hc4 ((own_eqn (by omega) (by omega)).mpr q)), ← hr, own_nb]; exact F33)⟩)
      | succ n_ ih =>
        intro i_ T12 lo12 h12 X12 e12 N12 Z12 K12 F13 F14 F15 F16 F17 F18 F19 hE hr
        show own_Go p e below s _ _ _ (T12.setTop (mkF m 29 #[.val (.ref a), .val (.int (Nat.toInt32 (own_A us_ e_ q_))), .val (.int (Nat.toInt32 i_))] []))
        refine own_via (fun _ k => XS.iloadN X12.here hx rfl (hb hby d8_29) rfl k) ?_
        show own_Go p e below s _ _ _ (T12.setTop (mkF m 30 #[.val (.ref a), .val (.int (Nat.toInt32 (own_A us_ e_ q_))), .val (.int (Nat.toInt32 i_))] [(.int (Nat.toInt32 i_))]))
        refine own_via (fun _ k => XS.aloadN X12.here hx rfl (hb hby d8_30) rfl rfl k) ?_
        show own_Go p e below s _ _ _ (T12.setTop (mkF m 31 #[.val (.ref a), .val (.int (Nat.toInt32 (own_A us_ e_ q_))), .val (.int (Nat.toInt32 i_))] [(.ref a), (.int (Nat.toInt32 i_))]))
        obtain ⟨T34, X34, e34, st34⟩ := getF X12 hx hZ hown (host := "") (Or.inl (hw _ (List.mem_of_getElem? (i := 17) rfl))) Via.refl e12 F15 (g := (mkF m 31 #[.val (.ref a), .val (.int (Nat.toInt32 (own_A us_ e_ q_))), .val (.int (Nat.toInt32 i_))] [(.ref a), (.int (Nat.toInt32 i_))])) rfl rfl (hb hby d8_31)
        refine own_via st34 ?_
        show own_Go p e below s _ _ _ (T34.setTop (mkF m 34 #[.val (.ref a), .val (.int (Nat.toInt32 (own_A us_ e_ q_))), .val (.int (Nat.toInt32 i_))] [(.int (Nat.toInt32 e_)), (.int (Nat.toInt32 i_))]))
        have hc35 : (Nat.toInt32 i_) < (Nat.toInt32 e_) := (own_ltn (by omega) (by omega)).mpr (by omega)
        refine own_via (fun _ k => XS.icmpNo X34.here hx rfl (hb hby d8_34) rfl (Jvm.Free.XT.ii_ge_f hc35) k) ?_
        show own_Go p e below s _ _ _ (T34.setTop (mkF m 37 #[.val (.ref a), .val (.int (Nat.toInt32 (own_A us_ e_ q_))), .val (.int (Nat.toInt32 i_))] []))
        refine own_via (fun _ k => XS.aloadN X34.here hx rfl (hb hby d8_37) rfl rfl k) ?_
        show own_Go p e below s _ _ _ (T34.setTop (mkF m 38 #[.val (.ref a), .val (.int (Nat.toInt32 (own_A us_ e_ q_))), .val (.int (Nat.toInt32 i_))] [(.ref a)]))
        obtain ⟨T36, X36, e36, st36⟩ := getF X34 hx hZ hown (host := "") (Or.inl (hw _ (List.mem_of_getElem? (i := 15) rfl))) Via.refl e34 F14 (g := (mkF m 38 #[.val (.ref a), .val (.int (Nat.toInt32 (own_A us_ e_ q_))), .val (.int (Nat.toInt32 i_))] [(.ref a)])) rfl rfl (hb hby d8_38)
        refine own_via st36 ?_
        show own_Go p e below s _ _ _ (T36.setTop (mkF m 41 #[.val (.ref a), .val (.int (Nat.toInt32 (own_A us_ e_ q_))), .val (.int (Nat.toInt32 i_))] [(.ref b_)]))
        refine own_via (fun _ k => XS.iloadN X36.here hx rfl (hb hby d8_41) rfl k) ?_
        show own_Go p e below s _ _ _ (T36.setTop (mkF m 42 #[.val (.ref a), .val (.int (Nat.toInt32 (own_A us_ e_ q_))), .val (.int (Nat.toInt32 i_))] [(.int (Nat.toInt32 i_)), (.ref b_)]))
        obtain ⟨cl37, Ar37, q37, S37, M37, H37, G37⟩ := (id F19)
        have hin37 : ¬ ((Nat.toInt32 i_) < 0 ∨ cl37.slots.size ≤ ((Nat.toInt32 i_)).toNatClampNeg) := inb_of S37 (own_inb (by omega) (by omega))
        have hat37 : cl37.slots[((Nat.toInt32 i_)).toNatClampNeg]? = some (.int (own_g us_ i_)) := Has.at H37 hin37 (own_gm us_ (by omega))
        refine own_via (fun _ k => X36.baloadBytes hx (j := (Nat.toInt32 i_)) (v := (.int (own_g us_ i_))) (by rw [e36]; exact Ar37.1) (State.isArrayOf_alike hZ.alike Ar37.2.1) Ar37.2.2 hin37 hat37 (g := (mkF m 42 #[.val (.ref a), .val (.int (Nat.toInt32 (own_A us_ e_ q_))), .val (.int (Nat.toInt32 i_))] [(.int (Nat.toInt32 i_)), (.ref b_)])) rfl rfl (hb hby d8_42) _ k) ?_
        show own_Go p e below s _ _ _ (T36.setTop (mkF m 43 #[.val (.ref a), .val (.int (Nat.toInt32 (own_A us_ e_ q_))), .val (.int (Nat.toInt32 i_))] [(.int (own_g us_ i_))]))
        obtain ⟨_, _, ⟨T38, L38, k38, n38⟩, -, X38, ⟨Lc38, hQ38, l38, y38, z38⟩, st38⟩ := Jvm.LawKit.callS X36 hx (y := (⟨"com/example/enlace/enlace/graph/LineFields", "isBlank", "(B)Z"⟩ : MethodName)) hown (mvT hZ (hw _ (List.mem_of_getElem? (i := 53) rfl))) (mvT hZ (hw _ (List.mem_of_getElem? (i := 54) rfl))) (mvT hZ (hw _ (List.mem_of_getElem? (i := 3) rfl))) (mvT hZ (hw _ (List.mem_of_getElem? (i := 55) rfl))) (by decide) (backOf (W := 0) (rm10 l Z a0 hw [] (own_g us_ i_) h12 n0 Z12 ) hZ (hw _ (List.mem_of_getElem? (i := 55) rfl)) (hw _ (List.mem_of_getElem? (i := 3) rfl)) (by decide) (by decide)) (g := (mkF m 43 #[.val (.ref a), .val (.int (Nat.toInt32 (own_A us_ e_ q_))), .val (.int (Nat.toInt32 i_))] [(.int (own_g us_ i_))])) rfl (by rw [hml]; rfl) (argsL := [(.int (own_g us_ i_))]) (rest := []) (lenOf pd_0 rfl) rfl (by show 2 * 0 + _ ≤ _; exact Nat.le_of_eq rfl) (hb hby d8_43) (fun _ _ => ⟨rfl, e36, (by decide : 0 + 0 ≤ _), (by decide : 0 + 0 ≤ _)⟩)
        dsimp only [Pt.U, Pt.locs, Pt.cells, Pt.slots] at X38 l38 y38 z38 st38 hQ38
        subst l38 y38 z38
        obtain ⟨rfl, N38q, e38⟩ := hQ38
        have N38 := Fr.app N12 N38q
        refine own_via st38 ?_
        show own_Go p e below s _ _ _ (T38.setTop (mkF m 46 #[.val (.ref a), .val (.int (Nat.toInt32 (own_A us_ e_ q_))), .val (.int (Nat.toInt32 i_))] [(.int (own_bl (own_g us_ i_)))]))
        by_cases hc39 : (own_bl (own_g us_ i_)) = (0 : Int32)
        · refine own_via (fun _ k => XS.ifNo X38.here hx rfl (hb hby d8_46) rfl (Jvm.Free.XT.i0_ne_f hc39) k) ?_
          show own_Go p e below s _ _ _ (T38.setTop (mkF m 49 #[.val (.ref a), .val (.int (Nat.toInt32 (own_A us_ e_ q_))), .val (.int (Nat.toInt32 i_))] []))
          refine own_via (fun _ k => XS.iinc X38.here hx rfl (hb hby d8_49) rfl (l' := #[.val (.ref a), .val (.int (Nat.toInt32 (own_A us_ e_ q_))), .val (.int ((Nat.toInt32 i_) + (1 : Int32)))]) rfl k) ?_
          show own_Go p e below s _ _ _ (T38.setTop (mkF m 52 #[.val (.ref a), .val (.int (Nat.toInt32 (own_A us_ e_ q_))), .val (.int ((Nat.toInt32 i_) + (1 : Int32)))] []))
          rw [own_succ]
          show own_Go p e below s _ _ _ (T38.setTop (mkF m 52 #[.val (.ref a), .val (.int (Nat.toInt32 (own_A us_ e_ q_))), .val (.int (Nat.toInt32 (i_ + 1)))] []))
          refine own_via (fun _ k => XS.goto X38.here hx rfl (pc0 := 52) (pc' := 29) rfl (hb hby d8_52) (by decide) (by decide) k) ?_
          show own_Go p e below s _ _ _ (T38.setTop (mkF m 29 #[.val (.ref a), .val (.int (Nat.toInt32 (own_A us_ e_ q_))), .val (.int (Nat.toInt32 (i_ + 1)))] []))
          exact ih (i_ + 1) _ _ _ X38 e38 N38 Z12 K12 F13 F14 F15 F16 F17 F18 F19 (by omega) (by rw [← hr, own_nb, if_pos hc39])
        · refine own_via (fun _ k => XS.ifYes X38.here hx rfl (pc0 := 46) (pc' := 55) rfl (hb hby d8_46) rfl (Jvm.Free.XT.i0_ne_t hc39) (by decide) (by decide) k) ?_
          show own_Go p e below s _ _ _ (T38.setTop (mkF m 55 #[.val (.ref a), .val (.int (Nat.toInt32 (own_A us_ e_ q_))), .val (.int (Nat.toInt32 i_))] []))
          refine own_via (fun _ k => XS.aloadN X38.here hx rfl (hb hby d8_55) rfl rfl k) ?_
          show own_Go p e below s _ _ _ (T38.setTop (mkF m 56 #[.val (.ref a), .val (.int (Nat.toInt32 (own_A us_ e_ q_))), .val (.int (Nat.toInt32 i_))] [(.ref a)]))
          refine own_via (fun _ k => XS.iloadN X38.here hx rfl (hb hby d8_56) rfl k) ?_
          show own_Go p e below s _ _ _ (T38.setTop (mkF m 57 #[.val (.ref a), .val (.int (Nat.toInt32 (own_A us_ e_ q_))), .val (.int (Nat.toInt32 i_))] [(.int (Nat.toInt32 (own_A us_ e_ q_))), (.ref a)]))
          obtain ⟨T40, h40, X40, e40, W40, st40⟩ := putF X38 hx hZ hown (host := "") (Or.inl (hw _ (List.mem_of_getElem? (i := 25) rfl))) Via.refl e38 F17 F13 (Or.inl (hw _ (List.mem_of_getElem? (i := 26) rfl))) (hw _ (List.mem_of_getElem? (i := 2) rfl)) (ty := .int) (by decide) rfl rfl (g := (mkF m 57 #[.val (.ref a), .val (.int (Nat.toInt32 (own_A us_ e_ q_))), .val (.int (Nat.toInt32 i_))] [(.int (Nat.toInt32 (own_A us_ e_ q_))), (.ref a)])) rfl rfl (hb hby d8_57)
          have N40 := Fr.snoc X40 N38 g_a
          have Fw40 := F17.same W40
          have Z40 : n0 ≤ h40.size := Nat.le_trans Z12 (Keep.of_wr W40).1
          have K40 : Keep h0 h40 [a] := K12.wr W40 (Or.inl (List.mem_of_getElem? (i := 0) rfl))
          refine own_via st40 ?_
          show own_Go p e below s _ _ _ (T40.setTop (mkF m 60 #[.val (.ref a), .val (.int (Nat.toInt32 (own_A us_ e_ q_))), .val (.int (Nat.toInt32 i_))] []))
          refine own_via (fun _ k => XS.aloadN X40.here hx rfl (hb hby d8_60) rfl rfl k) ?_
          show own_Go p e below s _ _ _ (T40.setTop (mkF m 61 #[.val (.ref a), .val (.int (Nat.toInt32 (own_A us_ e_ q_))), .val (.int (Nat.toInt32 i_))] [(.ref a)]))
          refine own_via (fun _ k => XS.iloadN X40.here hx rfl (hb hby d8_61) rfl k) ?_
          show own_Go p e below s _ _ _ (T40.setTop (mkF m 62 #[.val (.ref a), .val (.int (Nat.toInt32 (own_A us_ e_ q_))), .val (.int (Nat.toInt32 i_))] [(.int (Nat.toInt32 i_)), (.ref a)]))
          have F41 := (F13.wr W40)
          have F42 := (F18.other W40 (Or.inr (slot_ne (Or.inl (hw _ (List.mem_of_getElem? (i := 28) rfl))) (Or.inl (hw _ (List.mem_of_getElem? (i := 26) rfl))) (by decide) (t := .int) (t' := .int) (by decide) (by decide))))
          obtain ⟨T43, h43, X43, e43, W43, st43⟩ := putF X40 hx hZ hown (host := "") (Or.inl (hw _ (List.mem_of_getElem? (i := 27) rfl))) Via.refl e40 F42 F41 (Or.inl (hw _ (List.mem_of_getElem? (i := 28) rfl))) (hw _ (List.mem_of_getElem? (i := 2) rfl)) (ty := .int) (by decide) rfl rfl (g := (mkF m 62 #[.val (.ref a), .val (.int (Nat.toInt32 (own_A us_ e_ q_))), .val (.int (Nat.toInt32 i_))] [(.int (Nat.toInt32 i_)), (.ref a)])) rfl rfl (hb hby d8_62)
          have N43 := Fr.snoc X43 N40 g_a
          have Fw43 := F42.same W43
          have Z43 : n0 ≤ h43.size := Nat.le_trans Z40 (Keep.of_wr W43).1
          have K43 : Keep h0 h43 [a] := K40.wr W43 (Or.inl (List.mem_of_getElem? (i := 0) rfl))
          refine own_via st43 ?_
          show own_Go p e below s _ _ _ (T43.setTop (mkF m 65 #[.val (.ref a), .val (.int (Nat.toInt32 (own_A us_ e_ q_))), .val (.int (Nat.toInt32 i_))] []))
          refine own_via (fun _ k => XS.aloadN X43.here hx rfl (hb hby d8_65) rfl rfl k) ?_
          show own_Go p e below s _ _ _ (T43.setTop (mkF m 66 #[.val (.ref a), .val (.int (Nat.toInt32 (own_A us_ e_ q_))), .val (.int (Nat.toInt32 i_))] [(.ref a)]))
          refine own_via (fun _ k => XS.iloadN X43.here hx rfl (hb hby d8_66) rfl k) ?_
          show own_Go p e below s _ _ _ (T43.setTop (mkF m 67 #[.val (.ref a), .val (.int (Nat.toInt32 (own_A us_ e_ q_))), .val (.int (Nat.toInt32 i_))] [(.int (Nat.toInt32 i_)), (.ref a)]))
          have F44 := (F41.wr W43)
          have F45 := ((F16.other W40 (Or.inr (slot_ne (Or.inl (hw _ (List.mem_of_getElem? (i := 24) rfl))) (Or.inl (hw _ (List.mem_of_getElem? (i := 26) rfl))) (by decide) (t := .int) (t' := .int) (by decide) (by decide)))).other W43 (Or.inr (slot_ne (Or.inl (hw _ (List.mem_of_getElem? (i := 24) rfl))) (Or.inl (hw _ (List.mem_of_getElem? (i := 28) rfl))) (by decide) (t := .int) (t' := .int) (by decide) (by decide))))
          obtain ⟨T46, h46, X46, e46, W46, st46⟩ := putF X43 hx hZ hown (host := "") (Or.inl (hw _ (List.mem_of_getElem? (i := 23) rfl))) Via.refl e43 F45 F44 (Or.inl (hw _ (List.mem_of_getElem? (i := 24) rfl))) (hw _ (List.mem_of_getElem? (i := 2) rfl)) (ty := .int) (by decide) rfl rfl (g := (mkF m 67 #[.val (.ref a), .val (.int (Nat.toInt32 (own_A us_ e_ q_))), .val (.int (Nat.toInt32 i_))] [(.int (Nat.toInt32 i_)), (.ref a)])) rfl rfl (hb hby d8_67)
          have N46 := Fr.snoc X46 N43 g_a
          have Fw46 := F45.same W46
          have Z46 : n0 ≤ h46.size := Nat.le_trans Z43 (Keep.of_wr W46).1
          have K46 : Keep h0 h46 [a] := K43.wr W46 (Or.inl (List.mem_of_getElem? (i := 0) rfl))
          refine own_via st46 ?_
          show own_Go p e below s _ _ _ (T46.setTop (mkF m 70 #[.val (.ref a), .val (.int (Nat.toInt32 (own_A us_ e_ q_))), .val (.int (Nat.toInt32 i_))] []))
          refine own_via (fun _ k => XS.iconst X46.here hx rfl (hb hby d8_70) k) ?_
          show own_Go p e below s _ _ _ (T46.setTop (mkF m 71 #[.val (.ref a), .val (.int (Nat.toInt32 (own_A us_ e_ q_))), .val (.int (Nat.toInt32 i_))] [(.int (1 : Int32))]))
          have F47 := (F44.wr W46)
          have F48 := (((F14.other W40 (Or.inr (slot_ne (Or.inl (hw _ (List.mem_of_getElem? (i := 16) rfl))) (Or.inl (hw _ (List.mem_of_getElem? (i := 26) rfl))) (by decide) (t := (.array .byte)) (t' := .int) (by decide) (by decide)))).other W43 (Or.inr (slot_ne (Or.inl (hw _ (List.mem_of_getElem? (i := 16) rfl))) (Or.inl (hw _ (List.mem_of_getElem? (i := 28) rfl))) (by decide) (t := (.array .byte)) (t' := .int) (by decide) (by decide)))).other W46 (Or.inr (slot_ne (Or.inl (hw _ (List.mem_of_getElem? (i := 16) rfl))) (Or.inl (hw _ (List.mem_of_getElem? (i := 24) rfl))) (by decide) (t := (.array .byte)) (t' := .int) (by decide) (by decide))))
          have F49 := (((F15.other W40 (Or.inr (slot_ne (Or.inl (hw _ (List.mem_of_getElem? (i := 18) rfl))) (Or.inl (hw _ (List.mem_of_getElem? (i := 26) rfl))) (by decide) (t := .int) (t' := .int) (by decide) (by decide)))).other W43 (Or.inr (slot_ne (Or.inl (hw _ (List.mem_of_getElem? (i := 18) rfl))) (Or.inl (hw _ (List.mem_of_getElem? (i := 28) rfl))) (by decide) (t := .int) (t' := .int) (by decide) (by decide)))).other W46 (Or.inr (slot_ne (Or.inl (hw _ (List.mem_of_getElem? (i := 18) rfl))) (Or.inl (hw _ (List.mem_of_getElem? (i := 24) rfl))) (by decide) (t := .int) (t' := .int) (by decide) (by decide))))
          have F50 := ((Fw40.other W43 (Or.inr (slot_ne (Or.inl (hw _ (List.mem_of_getElem? (i := 26) rfl))) (Or.inl (hw _ (List.mem_of_getElem? (i := 28) rfl))) (by decide) (t := .int) (t' := .int) (by decide) (by decide)))).other W46 (Or.inr (slot_ne (Or.inl (hw _ (List.mem_of_getElem? (i := 26) rfl))) (Or.inl (hw _ (List.mem_of_getElem? (i := 24) rfl))) (by decide) (t := .int) (t' := .int) (by decide) (by decide))))
          have F51 := (Fw43.other W46 (Or.inr (slot_ne (Or.inl (hw _ (List.mem_of_getElem? (i := 28) rfl))) (Or.inl (hw _ (List.mem_of_getElem? (i := 24) rfl))) (by decide) (t := .int) (t' := .int) (by decide) (by decide))))
          exact own_goN X46 hx (t := .boolean) Bd.returns (by simp) (hb hby d8_71) Bd.notSynchronized (by decide) (by decide) (by rw [e46]; exact ⟨(by rw [own_nr, if_neg (fun q => hc4 ((own_eqn (by omega) (by omega)).mpr q))] <;> rfl), N46, K46, F47, F48, F49, (by rw [own_nq, if_neg (fun q => hc4 ((own_eqn (by omega) (by omega)).mpr q)), ← hr, own_nb, if_neg hc39]; exact Fw46), (by rw [own_nfs, if_neg (fun q => hc4 ((own_eqn (by omega) (by omega)).mpr q))]; exact F50), (by rw [own_nft, if_neg (fun q => hc4 ((own_eqn (by omega) (by omega)).mpr q)), ← hr, own_nb, if_neg hc39]; exact F51)⟩)
    exact loop (e_ - (own_A us_ e_ q_)) (own_A us_ e_ q_) _ _ _ X3 e3 N2 Z0 K0 E_a F_bytes_a F_end_a F_position_a F_fieldStart_a F_fieldEnd_a V_b_ (by omega) (rfl)
theorem d5_0 : decode prog_21_method_7_code 0 = .ok (.aload_n 0, 1) := by decide +kernel
theorem d5_1 : decode prog_21_method_7_code 1 = .ok (.getfield 25, 3) := by decide +kernel
theorem d5_4 : decode prog_21_method_7_code 4 = .ok (.areturn, 1) := by decide +kernel
theorem ef_5 (m : MethodId) (x0 : Addr) : entryFrame m #[(.ref x0)] 1 = mkF m 0 #[.val (.ref x0)] [] := by first | (simp [entryFrame, mkF, argsToLocals, Value.category]; done) | rfl
def Q5 (Z : State) (a : Addr) (b_ : Addr) (h0 : Heap) (n0 : Nat) (v : Option Value) (h : Heap) (L : List Loc) : Prop := v = some (.ref b_) ∧ Fr n0 L ∧ h = h0
set_option maxRecDepth 65536 in
set_option maxHeartbeats 40000000 in
theorem rm5 (l : Launch) (Z : State) (a0 : Array Value) (hw : ∀ d ∈ tables_1, d.before a0 Z = true) (ws : List Jvm.Cond) (a : Addr) (b_ : Addr) (h0 : Heap) (n0 : Nat) (Z0 : n0 ≤ h0.size) (F_bytes_a : Fld Z h0 a "com/example/enlace/enlace/graph/LineFields" "bytes" "[B" (.ref b_)) :
    MetFree l (⟨"com/example/enlace/enlace/graph/LineFields", "bytes", "()[B"⟩ : MethodName) (head1 (Jvm.Cond.code (⟨"com/example/enlace/enlace/graph/LineFields", "bytes", "()[B"⟩ : MethodName) prog_21_method_7_code 1 (some (.array .byte)) :: ws) ({ frames := 0, cells := 0, slots := 0, locals := 0 } : Room)) (fun q_ U => q_ = #[(.ref a)] ∧ Z.Warmed39 U.vm ∧ U.heap = h0) (fun _ _ _ _ _ => True) (fun _ U o U' => ∃ v L, o = .returned v ∧ Q5 Z a b_ h0 n0 v U'.heap L ∧ FrameEnd U o U' L ({ frames := 0, cells := 0, slots := 0, locals := 0 } : Room).cells ({ frames := 0, cells := 0, slots := 0, locals := 0 } : Room).slots) := by
  refine MetFree.of_bodySF (plainFor_of_name pn_0) hisR ?_
  intro p e s m args below meth c s₁ Bd hml0 hP hK
  obtain ⟨rfl, hZ, hh⟩ := hP
  have hx := Bd.exec
  have hby := Bd.bytes
  have hml : c.maxLocals = 1 := hml0
  have hown : s.vm.findClass "com/example/enlace/enlace/graph/LineFields" = some m.cls := findClass_of_methodNamed Bd.named
  have hnm := (name_of_methodNamed Bd.named Bd.method).1
  have X0 : Stand p l e ({ frames := 0, cells := 0, slots := 0, locals := 0 } : Room) s m #[(.ref a)] below meth c s₁ [] 0 0 := Stand.of_body Bd
  have e0 : s₁.heap = h0 := by rw [← hh, Bd.state]; rfl
  have N0 := Fr.nil n0
  show own_Go p e below s (Q5 Z a b_ h0 n0) ({ frames := 0, cells := 0, slots := 0, locals := 0 } : Room).cells ({ frames := 0, cells := 0, slots := 0, locals := 0 } : Room).slots (s₁.setTop (entryFrame m #[(.ref a)] 1))
  refine own_via (fun t k => castTop (ef_5 m a) k) ?_
  show own_Go p e below s _ _ _ (s₁.setTop (mkF m 0 #[.val (.ref a)] []))
  refine own_via (fun _ k => XS.aloadN X0.here hx rfl (hb hby d5_0) rfl rfl k) ?_
  show own_Go p e below s _ _ _ (s₁.setTop (mkF m 1 #[.val (.ref a)] [(.ref a)]))
  obtain ⟨T1, X1, e1, st1⟩ := getF X0 hx hZ hown (host := "") (Or.inl (hw _ (List.mem_of_getElem? (i := 15) rfl))) Via.refl e0 F_bytes_a (g := (mkF m 1 #[.val (.ref a)] [(.ref a)])) rfl rfl (hb hby d5_1)
  refine own_via st1 ?_
  show own_Go p e below s _ _ _ (T1.setTop (mkF m 4 #[.val (.ref a)] [(.ref b_)]))
  exact own_goA X1 hx rfl Bd.returns rfl (hb hby d5_4) Bd.notSynchronized (by decide) (by decide) (by rw [e1]; exact ⟨rfl, N0, rfl⟩)
theorem d9_0 : decode method_5_code 0 = .ok (.iload_n 0, 1) := by decide +kernel
theorem d9_1 : decode method_5_code 1 = .ok (.iload_n 1, 1) := by decide +kernel
theorem d9_2 : decode method_5_code 2 = .ok (.iushr, 1) := by decide +kernel
theorem d9_3 : decode method_5_code 3 = .ok (.iconst 1, 1) := by decide +kernel
theorem d9_4 : decode method_5_code 4 = .ok (.iand, 1) := by decide +kernel
theorem d9_5 : decode method_5_code 5 = .ok (.ifCond .ne 8, 3) := by decide +kernel
theorem d9_8 : decode method_5_code 8 = .ok (.bipush 32, 2) := by decide +kernel
theorem d9_10 : decode method_5_code 10 = .ok (.goto 5, 3) := by decide +kernel
theorem d9_15 : decode method_5_code 15 = .ok (.ireturn, 1) := by decide +kernel
theorem d9_13 : decode method_5_code 13 = .ok (.bipush 9, 2) := by decide +kernel
def own_bb (p0 : Int32) (p1 : Int32) : Int32 := (if ((o_iushr p0 p1) &&& (1 : Int32)) = (0 : Int32) then (32 : Int32) else (9 : Int32))
theorem pn_1 : plainName "com/example/enlace/enlace/graph/LineFieldsResetPinLaw" = true := by first | (simp [plainName, overriddenIn]; done) | decide +kernel
theorem ef_9 (m : MethodId) (x0 : Int32) (x1 : Int32) : entryFrame m #[(.int x0), (.int x1)] 2 = mkF m 0 #[.val (.int x0), .val (.int x1)] [] := by first | (simp [entryFrame, mkF, argsToLocals, Value.category]; done) | rfl
def Q9 (Z : State) (p0 : Int32) (p1 : Int32) (h0 : Heap) (n0 : Nat) (v : Option Value) (h : Heap) (L : List Loc) : Prop := v = some (.int (own_bb p0 p1)) ∧ Fr n0 L ∧ h = h0
set_option maxRecDepth 65536 in
set_option maxHeartbeats 40000000 in
theorem rm9 (l : Launch) (Z : State) (a0 : Array Value) (hw : ∀ d ∈ tables_1, d.before a0 Z = true) (ws : List Jvm.Cond) (p0 : Int32) (p1 : Int32) (h0 : Heap) (n0 : Nat) (Z0 : n0 ≤ h0.size) :
    MetFree l (⟨"com/example/enlace/enlace/graph/LineFieldsResetPinLaw", "blankByte", "(II)B"⟩ : MethodName) (head1 (Jvm.Cond.code (⟨"com/example/enlace/enlace/graph/LineFieldsResetPinLaw", "blankByte", "(II)B"⟩ : MethodName) method_5_code 2 (some .byte) :: ws) ({ frames := 0, cells := 0, slots := 0, locals := 0 } : Room)) (fun q_ U => q_ = #[(.int p0), (.int p1)] ∧ Z.Warmed39 U.vm ∧ U.heap = h0) (fun _ _ _ _ _ => True) (fun _ U o U' => ∃ v L, o = .returned v ∧ Q9 Z p0 p1 h0 n0 v U'.heap L ∧ FrameEnd U o U' L ({ frames := 0, cells := 0, slots := 0, locals := 0 } : Room).cells ({ frames := 0, cells := 0, slots := 0, locals := 0 } : Room).slots) := by
  refine MetFree.of_bodySF (plainFor_of_name pn_1) hisR ?_
  intro p e s m args below meth c s₁ Bd hml0 hP hK
  obtain ⟨rfl, hZ, hh⟩ := hP
  have hx := Bd.exec
  have hby := Bd.bytes
  have hml : c.maxLocals = 2 := hml0
  have hown : s.vm.findClass "com/example/enlace/enlace/graph/LineFieldsResetPinLaw" = some m.cls := findClass_of_methodNamed Bd.named
  have hnm := (name_of_methodNamed Bd.named Bd.method).1
  have X0 : Stand p l e ({ frames := 0, cells := 0, slots := 0, locals := 0 } : Room) s m #[(.int p0), (.int p1)] below meth c s₁ [] 0 0 := Stand.of_body Bd
  have e0 : s₁.heap = h0 := by rw [← hh, Bd.state]; rfl
  have N0 := Fr.nil n0
  show own_Go p e below s (Q9 Z p0 p1 h0 n0) ({ frames := 0, cells := 0, slots := 0, locals := 0 } : Room).cells ({ frames := 0, cells := 0, slots := 0, locals := 0 } : Room).slots (s₁.setTop (entryFrame m #[(.int p0), (.int p1)] 2))
  refine own_via (fun t k => castTop (ef_9 m p0 p1) k) ?_
  show own_Go p e below s _ _ _ (s₁.setTop (mkF m 0 #[.val (.int p0), .val (.int p1)] []))
  refine own_via (fun _ k => XS.iloadN X0.here hx rfl (hb hby d9_0) rfl k) ?_
  show own_Go p e below s _ _ _ (s₁.setTop (mkF m 1 #[.val (.int p0), .val (.int p1)] [(.int p0)]))
  refine own_via (fun _ k => XS.iloadN X0.here hx rfl (hb hby d9_1) rfl k) ?_
  show own_Go p e below s _ _ _ (s₁.setTop (mkF m 2 #[.val (.int p0), .val (.int p1)] [(.int p1), (.int p0)]))
  refine own_via (fun _ k => XS.iushr X0.here hx rfl (hb hby d9_2) rfl k) ?_
  show own_Go p e below s _ _ _ (s₁.setTop (mkF m 3 #[.val (.int p0), .val (.int p1)] [(.int (o_iushr p0 p1))]))
  refine own_via (fun _ k => XS.iconst X0.here hx rfl (hb hby d9_3) k) ?_
  show own_Go p e below s _ _ _ (s₁.setTop (mkF m 4 #[.val (.int p0), .val (.int p1)] [(.int (1 : Int32)), (.int (o_iushr p0 p1))]))
  refine own_via (fun _ k => XS.iand X0.here hx rfl (hb hby d9_4) rfl k) ?_
  show own_Go p e below s _ _ _ (s₁.setTop (mkF m 5 #[.val (.int p0), .val (.int p1)] [(.int ((o_iushr p0 p1) &&& (1 : Int32)))]))
  by_cases hc1 : ((o_iushr p0 p1) &&& (1 : Int32)) = (0 : Int32)
  · refine own_via (fun _ k => XS.ifNo X0.here hx rfl (hb hby d9_5) rfl (Jvm.Free.XT.i0_ne_f hc1) k) ?_
    show own_Go p e below s _ _ _ (s₁.setTop (mkF m 8 #[.val (.int p0), .val (.int p1)] []))
    refine own_via (fun _ k => XS.bipush X0.here hx rfl (hb hby d9_8) k) ?_
    show own_Go p e below s _ _ _ (s₁.setTop (mkF m 10 #[.val (.int p0), .val (.int p1)] [(.int (32 : Int32))]))
    refine own_via (fun _ k => XS.goto X0.here hx rfl (pc0 := 10) (pc' := 15) rfl (hb hby d9_10) (by decide) (by decide) k) ?_
    show own_Go p e below s _ _ _ (s₁.setTop (mkF m 15 #[.val (.int p0), .val (.int p1)] [(.int (32 : Int32))]))
    exact own_goN X0 hx (t := .byte) Bd.returns (by simp) (hb hby d9_15) Bd.notSynchronized (by decide) (by decide) (by rw [e0]; exact ⟨by rw [own_bb, if_pos hc1] <;> rfl, N0, rfl⟩)
  · refine own_via (fun _ k => XS.ifYes X0.here hx rfl (pc0 := 5) (pc' := 13) rfl (hb hby d9_5) rfl (Jvm.Free.XT.i0_ne_t hc1) (by decide) (by decide) k) ?_
    show own_Go p e below s _ _ _ (s₁.setTop (mkF m 13 #[.val (.int p0), .val (.int p1)] []))
    refine own_via (fun _ k => XS.bipush X0.here hx rfl (hb hby d9_13) k) ?_
    show own_Go p e below s _ _ _ (s₁.setTop (mkF m 15 #[.val (.int p0), .val (.int p1)] [(.int (9 : Int32))]))
    exact own_goN X0 hx (t := .byte) Bd.returns (by simp) (hb hby d9_15) Bd.notSynchronized (by decide) (by decide) (by rw [e0]; exact ⟨by rw [own_bb, if_neg hc1] <;> rfl, N0, rfl⟩)
theorem d11_0 : decode method_3_code 0 = .ok (.lload_n 0, 1) := by decide +kernel
theorem d11_1 : decode method_3_code 1 = .ok (.bipush 16, 2) := by decide +kernel
theorem d11_3 : decode method_3_code 3 = .ok (.iload_n 2, 1) := by decide +kernel
theorem d11_4 : decode method_3_code 4 = .ok (.imul, 1) := by decide +kernel
theorem d11_5 : decode method_3_code 5 = .ok (.lushr, 1) := by decide +kernel
theorem d11_6 : decode method_3_code 6 = .ok (.l2i, 1) := by decide +kernel
theorem d11_7 : decode method_3_code 7 = .ok (.bipush 7, 2) := by decide +kernel
theorem d11_9 : decode method_3_code 9 = .ok (.iand, 1) := by decide +kernel
theorem d11_10 : decode method_3_code 10 = .ok (.istore_n 3, 1) := by decide +kernel
theorem d11_11 : decode method_3_code 11 = .ok (.lload_n 0, 1) := by decide +kernel
theorem d11_12 : decode method_3_code 12 = .ok (.bipush 16, 2) := by decide +kernel
theorem d11_14 : decode method_3_code 14 = .ok (.iload_n 2, 1) := by decide +kernel
theorem d11_15 : decode method_3_code 15 = .ok (.imul, 1) := by decide +kernel
theorem d11_16 : decode method_3_code 16 = .ok (.bipush 8, 2) := by decide +kernel
theorem d11_18 : decode method_3_code 18 = .ok (.iadd, 1) := by decide +kernel
theorem d11_19 : decode method_3_code 19 = .ok (.lushr, 1) := by decide +kernel
theorem d11_20 : decode method_3_code 20 = .ok (.l2i, 1) := by decide +kernel
theorem d11_21 : decode method_3_code 21 = .ok (.sipush 255, 3) := by decide +kernel
theorem d11_24 : decode method_3_code 24 = .ok (.iand, 1) := by decide +kernel
theorem d11_25 : decode method_3_code 25 = .ok (.istore 4, 2) := by decide +kernel
theorem d11_27 : decode method_3_code 27 = .ok (.iload_n 3, 1) := by decide +kernel
theorem d11_28 : decode method_3_code 28 = .ok (.ifCond .ne 6, 3) := by decide +kernel
theorem d11_31 : decode method_3_code 31 = .ok (.bipush 32, 2) := by decide +kernel
theorem d11_33 : decode method_3_code 33 = .ok (.ireturn, 1) := by decide +kernel
theorem d11_34 : decode method_3_code 34 = .ok (.iload_n 3, 1) := by decide +kernel
theorem d11_35 : decode method_3_code 35 = .ok (.iconst 1, 1) := by decide +kernel
theorem d11_36 : decode method_3_code 36 = .ok (.if_icmp .ne 6, 3) := by decide +kernel
theorem d11_39 : decode method_3_code 39 = .ok (.bipush 9, 2) := by decide +kernel
theorem d11_41 : decode method_3_code 41 = .ok (.ireturn, 1) := by decide +kernel
theorem d11_42 : decode method_3_code 42 = .ok (.iload_n 3, 1) := by decide +kernel
theorem d11_43 : decode method_3_code 43 = .ok (.iconst 2, 1) := by decide +kernel
theorem d11_44 : decode method_3_code 44 = .ok (.if_icmp .ne 6, 3) := by decide +kernel
theorem d11_47 : decode method_3_code 47 = .ok (.bipush 13, 2) := by decide +kernel
theorem d11_49 : decode method_3_code 49 = .ok (.ireturn, 1) := by decide +kernel
theorem d11_50 : decode method_3_code 50 = .ok (.iload_n 3, 1) := by decide +kernel
theorem d11_51 : decode method_3_code 51 = .ok (.iconst 3, 1) := by decide +kernel
theorem d11_52 : decode method_3_code 52 = .ok (.if_icmp .ne 6, 3) := by decide +kernel
theorem d11_55 : decode method_3_code 55 = .ok (.bipush 35, 2) := by decide +kernel
theorem d11_57 : decode method_3_code 57 = .ok (.ireturn, 1) := by decide +kernel
theorem d11_58 : decode method_3_code 58 = .ok (.iload 4, 2) := by decide +kernel
theorem d11_60 : decode method_3_code 60 = .ok (.i2b, 1) := by decide +kernel
theorem d11_61 : decode method_3_code 61 = .ok (.ireturn, 1) := by decide +kernel
def own_jb (p0 : Int64) (p1 : Int32) : Int32 := (if ((o_l2i (o_lushr p0 ((16 : Int32) * p1))) &&& (7 : Int32)) = (0 : Int32) then (32 : Int32) else (if ((o_l2i (o_lushr p0 ((16 : Int32) * p1))) &&& (7 : Int32)) = (1 : Int32) then (9 : Int32) else (if ((o_l2i (o_lushr p0 ((16 : Int32) * p1))) &&& (7 : Int32)) = (2 : Int32) then (13 : Int32) else (if ((o_l2i (o_lushr p0 ((16 : Int32) * p1))) &&& (7 : Int32)) = (3 : Int32) then (35 : Int32) else (nar .byte (o_i2b ((o_l2i (o_lushr p0 (((16 : Int32) * p1) + (8 : Int32)))) &&& (255 : Int32))))))))
theorem ef_11 (m : MethodId) (x0 : Int64) (x1 : Int32) : entryFrame m #[(.long x0), (.int x1)] 5 = mkF m 0 #[.val (.long x0), .second, .val (.int x1), .unset, .unset] [] := by first | (simp [entryFrame, mkF, argsToLocals, Value.category]; done) | rfl
def Q11 (Z : State) (p0 : Int64) (p1 : Int32) (h0 : Heap) (n0 : Nat) (v : Option Value) (h : Heap) (L : List Loc) : Prop := v = some (.int (own_jb p0 p1)) ∧ Fr n0 L ∧ h = h0
set_option maxRecDepth 65536 in
set_option maxHeartbeats 40000000 in
theorem rm11 (l : Launch) (Z : State) (a0 : Array Value) (hw : ∀ d ∈ tables_1, d.before a0 Z = true) (ws : List Jvm.Cond) (p0 : Int64) (p1 : Int32) (h0 : Heap) (n0 : Nat) (Z0 : n0 ≤ h0.size) :
    MetFree l (⟨"com/example/enlace/enlace/graph/LineFieldsResetPinLaw", "junkByte", "(JI)B"⟩ : MethodName) (head1 (Jvm.Cond.code (⟨"com/example/enlace/enlace/graph/LineFieldsResetPinLaw", "junkByte", "(JI)B"⟩ : MethodName) method_3_code 5 (some .byte) :: ws) ({ frames := 0, cells := 0, slots := 0, locals := 0 } : Room)) (fun q_ U => q_ = #[(.long p0), (.int p1)] ∧ Z.Warmed39 U.vm ∧ U.heap = h0) (fun _ _ _ _ _ => True) (fun _ U o U' => ∃ v L, o = .returned v ∧ Q11 Z p0 p1 h0 n0 v U'.heap L ∧ FrameEnd U o U' L ({ frames := 0, cells := 0, slots := 0, locals := 0 } : Room).cells ({ frames := 0, cells := 0, slots := 0, locals := 0 } : Room).slots) := by
  refine MetFree.of_bodySF (plainFor_of_name pn_1) hisR ?_
  intro p e s m args below meth c s₁ Bd hml0 hP hK
  obtain ⟨rfl, hZ, hh⟩ := hP
  have hx := Bd.exec
  have hby := Bd.bytes
  have hml : c.maxLocals = 5 := hml0
  have hown : s.vm.findClass "com/example/enlace/enlace/graph/LineFieldsResetPinLaw" = some m.cls := findClass_of_methodNamed Bd.named
  have hnm := (name_of_methodNamed Bd.named Bd.method).1
  have X0 : Stand p l e ({ frames := 0, cells := 0, slots := 0, locals := 0 } : Room) s m #[(.long p0), (.int p1)] below meth c s₁ [] 0 0 := Stand.of_body Bd
  have e0 : s₁.heap = h0 := by rw [← hh, Bd.state]; rfl
  have N0 := Fr.nil n0
  show own_Go p e below s (Q11 Z p0 p1 h0 n0) ({ frames := 0, cells := 0, slots := 0, locals := 0 } : Room).cells ({ frames := 0, cells := 0, slots := 0, locals := 0 } : Room).slots (s₁.setTop (entryFrame m #[(.long p0), (.int p1)] 5))
  refine own_via (fun t k => castTop (ef_11 m p0 p1) k) ?_
  show own_Go p e below s _ _ _ (s₁.setTop (mkF m 0 #[.val (.long p0), .second, .val (.int p1), .unset, .unset] []))
  refine own_via (fun _ k => XS.lloadN X0.here hx rfl (hb hby d11_0) rfl k) ?_
  show own_Go p e below s _ _ _ (s₁.setTop (mkF m 1 #[.val (.long p0), .second, .val (.int p1), .unset, .unset] [(.long p0)]))
  refine own_via (fun _ k => XS.bipush X0.here hx rfl (hb hby d11_1) k) ?_
  show own_Go p e below s _ _ _ (s₁.setTop (mkF m 3 #[.val (.long p0), .second, .val (.int p1), .unset, .unset] [(.int (16 : Int32)), (.long p0)]))
  refine own_via (fun _ k => XS.iloadN X0.here hx rfl (hb hby d11_3) rfl k) ?_
  show own_Go p e below s _ _ _ (s₁.setTop (mkF m 4 #[.val (.long p0), .second, .val (.int p1), .unset, .unset] [(.int p1), (.int (16 : Int32)), (.long p0)]))
  refine own_via (fun _ k => XS.imul X0.here hx rfl (hb hby d11_4) rfl k) ?_
  show own_Go p e below s _ _ _ (s₁.setTop (mkF m 5 #[.val (.long p0), .second, .val (.int p1), .unset, .unset] [(.int ((16 : Int32) * p1)), (.long p0)]))
  refine own_via (fun _ k => XS.lushr X0.here hx rfl (hb hby d11_5) rfl k) ?_
  show own_Go p e below s _ _ _ (s₁.setTop (mkF m 6 #[.val (.long p0), .second, .val (.int p1), .unset, .unset] [(.long (o_lushr p0 ((16 : Int32) * p1)))]))
  refine own_via (fun _ k => XS.l2i X0.here hx rfl (hb hby d11_6) rfl k) ?_
  show own_Go p e below s _ _ _ (s₁.setTop (mkF m 7 #[.val (.long p0), .second, .val (.int p1), .unset, .unset] [(.int (o_l2i (o_lushr p0 ((16 : Int32) * p1))))]))
  refine own_via (fun _ k => XS.bipush X0.here hx rfl (hb hby d11_7) k) ?_
  show own_Go p e below s _ _ _ (s₁.setTop (mkF m 9 #[.val (.long p0), .second, .val (.int p1), .unset, .unset] [(.int (7 : Int32)), (.int (o_l2i (o_lushr p0 ((16 : Int32) * p1))))]))
  refine own_via (fun _ k => XS.iand X0.here hx rfl (hb hby d11_9) rfl k) ?_
  show own_Go p e below s _ _ _ (s₁.setTop (mkF m 10 #[.val (.long p0), .second, .val (.int p1), .unset, .unset] [(.int ((o_l2i (o_lushr p0 ((16 : Int32) * p1))) &&& (7 : Int32)))]))
  refine own_via (fun _ k => XS.istoreN X0.here hx rfl (hb hby d11_10) rfl (l' := #[.val (.long p0), .second, .val (.int p1), .val (.int ((o_l2i (o_lushr p0 ((16 : Int32) * p1))) &&& (7 : Int32))), .unset]) rfl k) ?_
  show own_Go p e below s _ _ _ (s₁.setTop (mkF m 11 #[.val (.long p0), .second, .val (.int p1), .val (.int ((o_l2i (o_lushr p0 ((16 : Int32) * p1))) &&& (7 : Int32))), .unset] []))
  refine own_via (fun _ k => XS.lloadN X0.here hx rfl (hb hby d11_11) rfl k) ?_
  show own_Go p e below s _ _ _ (s₁.setTop (mkF m 12 #[.val (.long p0), .second, .val (.int p1), .val (.int ((o_l2i (o_lushr p0 ((16 : Int32) * p1))) &&& (7 : Int32))), .unset] [(.long p0)]))
  refine own_via (fun _ k => XS.bipush X0.here hx rfl (hb hby d11_12) k) ?_
  show own_Go p e below s _ _ _ (s₁.setTop (mkF m 14 #[.val (.long p0), .second, .val (.int p1), .val (.int ((o_l2i (o_lushr p0 ((16 : Int32) * p1))) &&& (7 : Int32))), .unset] [(.int (16 : Int32)), (.long p0)]))
  refine own_via (fun _ k => XS.iloadN X0.here hx rfl (hb hby d11_14) rfl k) ?_
  show own_Go p e below s _ _ _ (s₁.setTop (mkF m 15 #[.val (.long p0), .second, .val (.int p1), .val (.int ((o_l2i (o_lushr p0 ((16 : Int32) * p1))) &&& (7 : Int32))), .unset] [(.int p1), (.int (16 : Int32)), (.long p0)]))
  refine own_via (fun _ k => XS.imul X0.here hx rfl (hb hby d11_15) rfl k) ?_
  show own_Go p e below s _ _ _ (s₁.setTop (mkF m 16 #[.val (.long p0), .second, .val (.int p1), .val (.int ((o_l2i (o_lushr p0 ((16 : Int32) * p1))) &&& (7 : Int32))), .unset] [(.int ((16 : Int32) * p1)), (.long p0)]))
  refine own_via (fun _ k => XS.bipush X0.here hx rfl (hb hby d11_16) k) ?_
  show own_Go p e below s _ _ _ (s₁.setTop (mkF m 18 #[.val (.long p0), .second, .val (.int p1), .val (.int ((o_l2i (o_lushr p0 ((16 : Int32) * p1))) &&& (7 : Int32))), .unset] [(.int (8 : Int32)), (.int ((16 : Int32) * p1)), (.long p0)]))
  refine own_via (fun _ k => XS.iadd X0.here hx rfl (hb hby d11_18) rfl k) ?_
  show own_Go p e below s _ _ _ (s₁.setTop (mkF m 19 #[.val (.long p0), .second, .val (.int p1), .val (.int ((o_l2i (o_lushr p0 ((16 : Int32) * p1))) &&& (7 : Int32))), .unset] [(.int (((16 : Int32) * p1) + (8 : Int32))), (.long p0)]))
  refine own_via (fun _ k => XS.lushr X0.here hx rfl (hb hby d11_19) rfl k) ?_
  show own_Go p e below s _ _ _ (s₁.setTop (mkF m 20 #[.val (.long p0), .second, .val (.int p1), .val (.int ((o_l2i (o_lushr p0 ((16 : Int32) * p1))) &&& (7 : Int32))), .unset] [(.long (o_lushr p0 (((16 : Int32) * p1) + (8 : Int32))))]))
  refine own_via (fun _ k => XS.l2i X0.here hx rfl (hb hby d11_20) rfl k) ?_
  show own_Go p e below s _ _ _ (s₁.setTop (mkF m 21 #[.val (.long p0), .second, .val (.int p1), .val (.int ((o_l2i (o_lushr p0 ((16 : Int32) * p1))) &&& (7 : Int32))), .unset] [(.int (o_l2i (o_lushr p0 (((16 : Int32) * p1) + (8 : Int32)))))]))
  refine own_via (fun _ k => XS.sipush X0.here hx rfl (hb hby d11_21) k) ?_
  show own_Go p e below s _ _ _ (s₁.setTop (mkF m 24 #[.val (.long p0), .second, .val (.int p1), .val (.int ((o_l2i (o_lushr p0 ((16 : Int32) * p1))) &&& (7 : Int32))), .unset] [(.int (255 : Int32)), (.int (o_l2i (o_lushr p0 (((16 : Int32) * p1) + (8 : Int32)))))]))
  refine own_via (fun _ k => XS.iand X0.here hx rfl (hb hby d11_24) rfl k) ?_
  show own_Go p e below s _ _ _ (s₁.setTop (mkF m 25 #[.val (.long p0), .second, .val (.int p1), .val (.int ((o_l2i (o_lushr p0 ((16 : Int32) * p1))) &&& (7 : Int32))), .unset] [(.int ((o_l2i (o_lushr p0 (((16 : Int32) * p1) + (8 : Int32)))) &&& (255 : Int32)))]))
  refine own_via (fun _ k => XS.istore X0.here hx rfl (hb hby d11_25) rfl (l' := #[.val (.long p0), .second, .val (.int p1), .val (.int ((o_l2i (o_lushr p0 ((16 : Int32) * p1))) &&& (7 : Int32))), .val (.int ((o_l2i (o_lushr p0 (((16 : Int32) * p1) + (8 : Int32)))) &&& (255 : Int32)))]) rfl k) ?_
  show own_Go p e below s _ _ _ (s₁.setTop (mkF m 27 #[.val (.long p0), .second, .val (.int p1), .val (.int ((o_l2i (o_lushr p0 ((16 : Int32) * p1))) &&& (7 : Int32))), .val (.int ((o_l2i (o_lushr p0 (((16 : Int32) * p1) + (8 : Int32)))) &&& (255 : Int32)))] []))
  refine own_via (fun _ k => XS.iloadN X0.here hx rfl (hb hby d11_27) rfl k) ?_
  show own_Go p e below s _ _ _ (s₁.setTop (mkF m 28 #[.val (.long p0), .second, .val (.int p1), .val (.int ((o_l2i (o_lushr p0 ((16 : Int32) * p1))) &&& (7 : Int32))), .val (.int ((o_l2i (o_lushr p0 (((16 : Int32) * p1) + (8 : Int32)))) &&& (255 : Int32)))] [(.int ((o_l2i (o_lushr p0 ((16 : Int32) * p1))) &&& (7 : Int32)))]))
  by_cases hc1 : ((o_l2i (o_lushr p0 ((16 : Int32) * p1))) &&& (7 : Int32)) = (0 : Int32)
  · refine own_via (fun _ k => XS.ifNo X0.here hx rfl (hb hby d11_28) rfl (Jvm.Free.XT.i0_ne_f hc1) k) ?_
    show own_Go p e below s _ _ _ (s₁.setTop (mkF m 31 #[.val (.long p0), .second, .val (.int p1), .val (.int ((o_l2i (o_lushr p0 ((16 : Int32) * p1))) &&& (7 : Int32))), .val (.int ((o_l2i (o_lushr p0 (((16 : Int32) * p1) + (8 : Int32)))) &&& (255 : Int32)))] []))
    refine own_via (fun _ k => XS.bipush X0.here hx rfl (hb hby d11_31) k) ?_
    show own_Go p e below s _ _ _ (s₁.setTop (mkF m 33 #[.val (.long p0), .second, .val (.int p1), .val (.int ((o_l2i (o_lushr p0 ((16 : Int32) * p1))) &&& (7 : Int32))), .val (.int ((o_l2i (o_lushr p0 (((16 : Int32) * p1) + (8 : Int32)))) &&& (255 : Int32)))] [(.int (32 : Int32))]))
    exact own_goN X0 hx (t := .byte) Bd.returns (by simp) (hb hby d11_33) Bd.notSynchronized (by decide) (by decide) (by rw [e0]; exact ⟨by rw [own_jb, if_pos hc1] <;> rfl, N0, rfl⟩)
  · refine own_via (fun _ k => XS.ifYes X0.here hx rfl (pc0 := 28) (pc' := 34) rfl (hb hby d11_28) rfl (Jvm.Free.XT.i0_ne_t hc1) (by decide) (by decide) k) ?_
    show own_Go p e below s _ _ _ (s₁.setTop (mkF m 34 #[.val (.long p0), .second, .val (.int p1), .val (.int ((o_l2i (o_lushr p0 ((16 : Int32) * p1))) &&& (7 : Int32))), .val (.int ((o_l2i (o_lushr p0 (((16 : Int32) * p1) + (8 : Int32)))) &&& (255 : Int32)))] []))
    refine own_via (fun _ k => XS.iloadN X0.here hx rfl (hb hby d11_34) rfl k) ?_
    show own_Go p e below s _ _ _ (s₁.setTop (mkF m 35 #[.val (.long p0), .second, .val (.int p1), .val (.int ((o_l2i (o_lushr p0 ((16 : Int32) * p1))) &&& (7 : Int32))), .val (.int ((o_l2i (o_lushr p0 (((16 : Int32) * p1) + (8 : Int32)))) &&& (255 : Int32)))] [(.int ((o_l2i (o_lushr p0 ((16 : Int32) * p1))) &&& (7 : Int32)))]))
    refine own_via (fun _ k => XS.iconst X0.here hx rfl (hb hby d11_35) k) ?_
    show own_Go p e below s _ _ _ (s₁.setTop (mkF m 36 #[.val (.long p0), .second, .val (.int p1), .val (.int ((o_l2i (o_lushr p0 ((16 : Int32) * p1))) &&& (7 : Int32))), .val (.int ((o_l2i (o_lushr p0 (((16 : Int32) * p1) + (8 : Int32)))) &&& (255 : Int32)))] [(.int (1 : Int32)), (.int ((o_l2i (o_lushr p0 ((16 : Int32) * p1))) &&& (7 : Int32)))]))
    by_cases hc2 : ((o_l2i (o_lushr p0 ((16 : Int32) * p1))) &&& (7 : Int32)) = (1 : Int32)
    · refine own_via (fun _ k => XS.icmpNo X0.here hx rfl (hb hby d11_36) rfl (Jvm.Free.XT.ii_ne_f hc2) k) ?_
      show own_Go p e below s _ _ _ (s₁.setTop (mkF m 39 #[.val (.long p0), .second, .val (.int p1), .val (.int ((o_l2i (o_lushr p0 ((16 : Int32) * p1))) &&& (7 : Int32))), .val (.int ((o_l2i (o_lushr p0 (((16 : Int32) * p1) + (8 : Int32)))) &&& (255 : Int32)))] []))
      refine own_via (fun _ k => XS.bipush X0.here hx rfl (hb hby d11_39) k) ?_
      show own_Go p e below s _ _ _ (s₁.setTop (mkF m 41 #[.val (.long p0), .second, .val (.int p1), .val (.int ((o_l2i (o_lushr p0 ((16 : Int32) * p1))) &&& (7 : Int32))), .val (.int ((o_l2i (o_lushr p0 (((16 : Int32) * p1) + (8 : Int32)))) &&& (255 : Int32)))] [(.int (9 : Int32))]))
      exact own_goN X0 hx (t := .byte) Bd.returns (by simp) (hb hby d11_41) Bd.notSynchronized (by decide) (by decide) (by rw [e0]; exact ⟨by rw [own_jb, if_neg hc1, if_pos hc2] <;> rfl, N0, rfl⟩)
    · refine own_via (fun _ k => XS.icmpYes X0.here hx rfl (pc0 := 36) (pc' := 42) rfl (hb hby d11_36) rfl (Jvm.Free.XT.ii_ne_t hc2) (by decide) (by decide) k) ?_
      show own_Go p e below s _ _ _ (s₁.setTop (mkF m 42 #[.val (.long p0), .second, .val (.int p1), .val (.int ((o_l2i (o_lushr p0 ((16 : Int32) * p1))) &&& (7 : Int32))), .val (.int ((o_l2i (o_lushr p0 (((16 : Int32) * p1) + (8 : Int32)))) &&& (255 : Int32)))] []))
      refine own_via (fun _ k => XS.iloadN X0.here hx rfl (hb hby d11_42) rfl k) ?_
      show own_Go p e below s _ _ _ (s₁.setTop (mkF m 43 #[.val (.long p0), .second, .val (.int p1), .val (.int ((o_l2i (o_lushr p0 ((16 : Int32) * p1))) &&& (7 : Int32))), .val (.int ((o_l2i (o_lushr p0 (((16 : Int32) * p1) + (8 : Int32)))) &&& (255 : Int32)))] [(.int ((o_l2i (o_lushr p0 ((16 : Int32) * p1))) &&& (7 : Int32)))]))
      refine own_via (fun _ k => XS.iconst X0.here hx rfl (hb hby d11_43) k) ?_
      show own_Go p e below s _ _ _ (s₁.setTop (mkF m 44 #[.val (.long p0), .second, .val (.int p1), .val (.int ((o_l2i (o_lushr p0 ((16 : Int32) * p1))) &&& (7 : Int32))), .val (.int ((o_l2i (o_lushr p0 (((16 : Int32) * p1) + (8 : Int32)))) &&& (255 : Int32)))] [(.int (2 : Int32)), (.int ((o_l2i (o_lushr p0 ((16 : Int32) * p1))) &&& (7 : Int32)))]))
      by_cases hc3 : ((o_l2i (o_lushr p0 ((16 : Int32) * p1))) &&& (7 : Int32)) = (2 : Int32)
      · refine own_via (fun _ k => XS.icmpNo X0.here hx rfl (hb hby d11_44) rfl (Jvm.Free.XT.ii_ne_f hc3) k) ?_
        show own_Go p e below s _ _ _ (s₁.setTop (mkF m 47 #[.val (.long p0), .second, .val (.int p1), .val (.int ((o_l2i (o_lushr p0 ((16 : Int32) * p1))) &&& (7 : Int32))), .val (.int ((o_l2i (o_lushr p0 (((16 : Int32) * p1) + (8 : Int32)))) &&& (255 : Int32)))] []))
        refine own_via (fun _ k => XS.bipush X0.here hx rfl (hb hby d11_47) k) ?_
        show own_Go p e below s _ _ _ (s₁.setTop (mkF m 49 #[.val (.long p0), .second, .val (.int p1), .val (.int ((o_l2i (o_lushr p0 ((16 : Int32) * p1))) &&& (7 : Int32))), .val (.int ((o_l2i (o_lushr p0 (((16 : Int32) * p1) + (8 : Int32)))) &&& (255 : Int32)))] [(.int (13 : Int32))]))
        exact own_goN X0 hx (t := .byte) Bd.returns (by simp) (hb hby d11_49) Bd.notSynchronized (by decide) (by decide) (by rw [e0]; exact ⟨by rw [own_jb, if_neg hc1, if_neg hc2, if_pos hc3] <;> rfl, N0, rfl⟩)
      · refine own_via (fun _ k => XS.icmpYes X0.here hx rfl (pc0 := 44) (pc' := 50) rfl (hb hby d11_44) rfl (Jvm.Free.XT.ii_ne_t hc3) (by decide) (by decide) k) ?_
        show own_Go p e below s _ _ _ (s₁.setTop (mkF m 50 #[.val (.long p0), .second, .val (.int p1), .val (.int ((o_l2i (o_lushr p0 ((16 : Int32) * p1))) &&& (7 : Int32))), .val (.int ((o_l2i (o_lushr p0 (((16 : Int32) * p1) + (8 : Int32)))) &&& (255 : Int32)))] []))
        refine own_via (fun _ k => XS.iloadN X0.here hx rfl (hb hby d11_50) rfl k) ?_
        show own_Go p e below s _ _ _ (s₁.setTop (mkF m 51 #[.val (.long p0), .second, .val (.int p1), .val (.int ((o_l2i (o_lushr p0 ((16 : Int32) * p1))) &&& (7 : Int32))), .val (.int ((o_l2i (o_lushr p0 (((16 : Int32) * p1) + (8 : Int32)))) &&& (255 : Int32)))] [(.int ((o_l2i (o_lushr p0 ((16 : Int32) * p1))) &&& (7 : Int32)))]))
        refine own_via (fun _ k => XS.iconst X0.here hx rfl (hb hby d11_51) k) ?_
        show own_Go p e below s _ _ _ (s₁.setTop (mkF m 52 #[.val (.long p0), .second, .val (.int p1), .val (.int ((o_l2i (o_lushr p0 ((16 : Int32) * p1))) &&& (7 : Int32))), .val (.int ((o_l2i (o_lushr p0 (((16 : Int32) * p1) + (8 : Int32)))) &&& (255 : Int32)))] [(.int (3 : Int32)), (.int ((o_l2i (o_lushr p0 ((16 : Int32) * p1))) &&& (7 : Int32)))]))
        by_cases hc4 : ((o_l2i (o_lushr p0 ((16 : Int32) * p1))) &&& (7 : Int32)) = (3 : Int32)
        · refine own_via (fun _ k => XS.icmpNo X0.here hx rfl (hb hby d11_52) rfl (Jvm.Free.XT.ii_ne_f hc4) k) ?_
          show own_Go p e below s _ _ _ (s₁.setTop (mkF m 55 #[.val (.long p0), .second, .val (.int p1), .val (.int ((o_l2i (o_lushr p0 ((16 : Int32) * p1))) &&& (7 : Int32))), .val (.int ((o_l2i (o_lushr p0 (((16 : Int32) * p1) + (8 : Int32)))) &&& (255 : Int32)))] []))
          refine own_via (fun _ k => XS.bipush X0.here hx rfl (hb hby d11_55) k) ?_
          show own_Go p e below s _ _ _ (s₁.setTop (mkF m 57 #[.val (.long p0), .second, .val (.int p1), .val (.int ((o_l2i (o_lushr p0 ((16 : Int32) * p1))) &&& (7 : Int32))), .val (.int ((o_l2i (o_lushr p0 (((16 : Int32) * p1) + (8 : Int32)))) &&& (255 : Int32)))] [(.int (35 : Int32))]))
          exact own_goN X0 hx (t := .byte) Bd.returns (by simp) (hb hby d11_57) Bd.notSynchronized (by decide) (by decide) (by rw [e0]; exact ⟨by rw [own_jb, if_neg hc1, if_neg hc2, if_neg hc3, if_pos hc4] <;> rfl, N0, rfl⟩)
        · refine own_via (fun _ k => XS.icmpYes X0.here hx rfl (pc0 := 52) (pc' := 58) rfl (hb hby d11_52) rfl (Jvm.Free.XT.ii_ne_t hc4) (by decide) (by decide) k) ?_
          show own_Go p e below s _ _ _ (s₁.setTop (mkF m 58 #[.val (.long p0), .second, .val (.int p1), .val (.int ((o_l2i (o_lushr p0 ((16 : Int32) * p1))) &&& (7 : Int32))), .val (.int ((o_l2i (o_lushr p0 (((16 : Int32) * p1) + (8 : Int32)))) &&& (255 : Int32)))] []))
          refine own_via (fun _ k => XS.iload X0.here hx rfl (hb hby d11_58) rfl k) ?_
          show own_Go p e below s _ _ _ (s₁.setTop (mkF m 60 #[.val (.long p0), .second, .val (.int p1), .val (.int ((o_l2i (o_lushr p0 ((16 : Int32) * p1))) &&& (7 : Int32))), .val (.int ((o_l2i (o_lushr p0 (((16 : Int32) * p1) + (8 : Int32)))) &&& (255 : Int32)))] [(.int ((o_l2i (o_lushr p0 (((16 : Int32) * p1) + (8 : Int32)))) &&& (255 : Int32)))]))
          refine own_via (fun _ k => XS.i2b X0.here hx rfl (hb hby d11_60) rfl k) ?_
          show own_Go p e below s _ _ _ (s₁.setTop (mkF m 61 #[.val (.long p0), .second, .val (.int p1), .val (.int ((o_l2i (o_lushr p0 ((16 : Int32) * p1))) &&& (7 : Int32))), .val (.int ((o_l2i (o_lushr p0 (((16 : Int32) * p1) + (8 : Int32)))) &&& (255 : Int32)))] [(.int (o_i2b ((o_l2i (o_lushr p0 (((16 : Int32) * p1) + (8 : Int32)))) &&& (255 : Int32))))]))
          exact own_goN X0 hx (t := .byte) Bd.returns (by simp) (hb hby d11_61) Bd.notSynchronized (by decide) (by decide) (by rw [e0]; exact ⟨by rw [own_jb, if_neg hc1, if_neg hc2, if_neg hc3, if_neg hc4] <;> rfl, N0, rfl⟩)
theorem d12_0 : decode method_4_code 0 = .ok (.iload_n 0, 1) := by decide +kernel
theorem d12_1 : decode method_4_code 1 = .ok (.iconst 3, 1) := by decide +kernel
theorem d12_2 : decode method_4_code 2 = .ok (.iload_n 1, 1) := by decide +kernel
theorem d12_3 : decode method_4_code 3 = .ok (.imul, 1) := by decide +kernel
theorem d12_4 : decode method_4_code 4 = .ok (.iushr, 1) := by decide +kernel
theorem d12_5 : decode method_4_code 5 = .ok (.bipush 7, 2) := by decide +kernel
theorem d12_7 : decode method_4_code 7 = .ok (.iand, 1) := by decide +kernel
theorem d12_8 : decode method_4_code 8 = .ok (.istore_n 2, 1) := by decide +kernel
theorem d12_9 : decode method_4_code 9 = .ok (.iload_n 0, 1) := by decide +kernel
theorem d12_10 : decode method_4_code 10 = .ok (.bipush 8, 2) := by decide +kernel
theorem d12_12 : decode method_4_code 12 = .ok (.bipush 8, 2) := by decide +kernel
theorem d12_14 : decode method_4_code 14 = .ok (.iload_n 1, 1) := by decide +kernel
theorem d12_15 : decode method_4_code 15 = .ok (.imul, 1) := by decide +kernel
theorem d12_16 : decode method_4_code 16 = .ok (.iadd, 1) := by decide +kernel
theorem d12_17 : decode method_4_code 17 = .ok (.iushr, 1) := by decide +kernel
theorem d12_18 : decode method_4_code 18 = .ok (.sipush 255, 3) := by decide +kernel
theorem d12_21 : decode method_4_code 21 = .ok (.iand, 1) := by decide +kernel
theorem d12_22 : decode method_4_code 22 = .ok (.istore_n 3, 1) := by decide +kernel
theorem d12_23 : decode method_4_code 23 = .ok (.iload_n 2, 1) := by decide +kernel
theorem d12_24 : decode method_4_code 24 = .ok (.ifCond .ne 6, 3) := by decide +kernel
theorem d12_27 : decode method_4_code 27 = .ok (.bipush 13, 2) := by decide +kernel
theorem d12_29 : decode method_4_code 29 = .ok (.ireturn, 1) := by decide +kernel
theorem d12_30 : decode method_4_code 30 = .ok (.iload_n 2, 1) := by decide +kernel
theorem d12_31 : decode method_4_code 31 = .ok (.iconst 1, 1) := by decide +kernel
theorem d12_32 : decode method_4_code 32 = .ok (.if_icmp .ne 6, 3) := by decide +kernel
theorem d12_35 : decode method_4_code 35 = .ok (.bipush 35, 2) := by decide +kernel
theorem d12_37 : decode method_4_code 37 = .ok (.ireturn, 1) := by decide +kernel
theorem d12_38 : decode method_4_code 38 = .ok (.iload_n 2, 1) := by decide +kernel
theorem d12_39 : decode method_4_code 39 = .ok (.iconst 2, 1) := by decide +kernel
theorem d12_40 : decode method_4_code 40 = .ok (.if_icmp .ne 6, 3) := by decide +kernel
theorem d12_43 : decode method_4_code 43 = .ok (.bipush 97, 2) := by decide +kernel
theorem d12_45 : decode method_4_code 45 = .ok (.ireturn, 1) := by decide +kernel
theorem d12_46 : decode method_4_code 46 = .ok (.iload_n 2, 1) := by decide +kernel
theorem d12_47 : decode method_4_code 47 = .ok (.iconst 3, 1) := by decide +kernel
theorem d12_48 : decode method_4_code 48 = .ok (.if_icmp .ne 6, 3) := by decide +kernel
theorem d12_51 : decode method_4_code 51 = .ok (.bipush (-61), 2) := by decide +kernel
theorem d12_53 : decode method_4_code 53 = .ok (.ireturn, 1) := by decide +kernel
theorem d12_54 : decode method_4_code 54 = .ok (.iload_n 3, 1) := by decide +kernel
theorem d12_55 : decode method_4_code 55 = .ok (.i2b, 1) := by decide +kernel
theorem d12_56 : decode method_4_code 56 = .ok (.istore 4, 2) := by decide +kernel
theorem d12_58 : decode method_4_code 58 = .ok (.iload 4, 2) := by decide +kernel
theorem d12_60 : decode method_4_code 60 = .ok (.bipush 32, 2) := by decide +kernel
theorem d12_62 : decode method_4_code 62 = .ok (.if_icmp .eq 10, 3) := by decide +kernel
theorem d12_72 : decode method_4_code 72 = .ok (.bipush 98, 2) := by decide +kernel
theorem d12_74 : decode method_4_code 74 = .ok (.ireturn, 1) := by decide +kernel
theorem d12_65 : decode method_4_code 65 = .ok (.iload 4, 2) := by decide +kernel
theorem d12_67 : decode method_4_code 67 = .ok (.bipush 9, 2) := by decide +kernel
theorem d12_69 : decode method_4_code 69 = .ok (.if_icmp .ne 6, 3) := by decide +kernel
theorem d12_75 : decode method_4_code 75 = .ok (.iload 4, 2) := by decide +kernel
theorem d12_77 : decode method_4_code 77 = .ok (.ireturn, 1) := by decide +kernel
def own_fb (p0 : Int32) (p1 : Int32) : Int32 := (if ((o_iushr p0 ((3 : Int32) * p1)) &&& (7 : Int32)) = (0 : Int32) then (13 : Int32) else (if ((o_iushr p0 ((3 : Int32) * p1)) &&& (7 : Int32)) = (1 : Int32) then (35 : Int32) else (if ((o_iushr p0 ((3 : Int32) * p1)) &&& (7 : Int32)) = (2 : Int32) then (97 : Int32) else (if ((o_iushr p0 ((3 : Int32) * p1)) &&& (7 : Int32)) = (3 : Int32) then (-61 : Int32) else (if (o_i2b ((o_iushr p0 ((8 : Int32) + ((8 : Int32) * p1))) &&& (255 : Int32))) = (32 : Int32) then (98 : Int32) else (if (o_i2b ((o_iushr p0 ((8 : Int32) + ((8 : Int32) * p1))) &&& (255 : Int32))) = (9 : Int32) then (98 : Int32) else (nar .byte (o_i2b ((o_iushr p0 ((8 : Int32) + ((8 : Int32) * p1))) &&& (255 : Int32))))))))))
theorem ef_12 (m : MethodId) (x0 : Int32) (x1 : Int32) : entryFrame m #[(.int x0), (.int x1)] 5 = mkF m 0 #[.val (.int x0), .val (.int x1), .unset, .unset, .unset] [] := by first | (simp [entryFrame, mkF, argsToLocals, Value.category]; done) | rfl
def Q12 (Z : State) (p0 : Int32) (p1 : Int32) (h0 : Heap) (n0 : Nat) (v : Option Value) (h : Heap) (L : List Loc) : Prop := v = some (.int (own_fb p0 p1)) ∧ Fr n0 L ∧ h = h0
set_option maxRecDepth 65536 in
set_option maxHeartbeats 40000000 in
theorem rm12 (l : Launch) (Z : State) (a0 : Array Value) (hw : ∀ d ∈ tables_1, d.before a0 Z = true) (ws : List Jvm.Cond) (p0 : Int32) (p1 : Int32) (h0 : Heap) (n0 : Nat) (Z0 : n0 ≤ h0.size) :
    MetFree l (⟨"com/example/enlace/enlace/graph/LineFieldsResetPinLaw", "fieldByte", "(II)B"⟩ : MethodName) (head1 (Jvm.Cond.code (⟨"com/example/enlace/enlace/graph/LineFieldsResetPinLaw", "fieldByte", "(II)B"⟩ : MethodName) method_4_code 5 (some .byte) :: ws) ({ frames := 0, cells := 0, slots := 0, locals := 0 } : Room)) (fun q_ U => q_ = #[(.int p0), (.int p1)] ∧ Z.Warmed39 U.vm ∧ U.heap = h0) (fun _ _ _ _ _ => True) (fun _ U o U' => ∃ v L, o = .returned v ∧ Q12 Z p0 p1 h0 n0 v U'.heap L ∧ FrameEnd U o U' L ({ frames := 0, cells := 0, slots := 0, locals := 0 } : Room).cells ({ frames := 0, cells := 0, slots := 0, locals := 0 } : Room).slots) := by
  refine MetFree.of_bodySF (plainFor_of_name pn_1) hisR ?_
  intro p e s m args below meth c s₁ Bd hml0 hP hK
  obtain ⟨rfl, hZ, hh⟩ := hP
  have hx := Bd.exec
  have hby := Bd.bytes
  have hml : c.maxLocals = 5 := hml0
  have hown : s.vm.findClass "com/example/enlace/enlace/graph/LineFieldsResetPinLaw" = some m.cls := findClass_of_methodNamed Bd.named
  have hnm := (name_of_methodNamed Bd.named Bd.method).1
  have X0 : Stand p l e ({ frames := 0, cells := 0, slots := 0, locals := 0 } : Room) s m #[(.int p0), (.int p1)] below meth c s₁ [] 0 0 := Stand.of_body Bd
  have e0 : s₁.heap = h0 := by rw [← hh, Bd.state]; rfl
  have N0 := Fr.nil n0
  show own_Go p e below s (Q12 Z p0 p1 h0 n0) ({ frames := 0, cells := 0, slots := 0, locals := 0 } : Room).cells ({ frames := 0, cells := 0, slots := 0, locals := 0 } : Room).slots (s₁.setTop (entryFrame m #[(.int p0), (.int p1)] 5))
  refine own_via (fun t k => castTop (ef_12 m p0 p1) k) ?_
  show own_Go p e below s _ _ _ (s₁.setTop (mkF m 0 #[.val (.int p0), .val (.int p1), .unset, .unset, .unset] []))
  refine own_via (fun _ k => XS.iloadN X0.here hx rfl (hb hby d12_0) rfl k) ?_
  show own_Go p e below s _ _ _ (s₁.setTop (mkF m 1 #[.val (.int p0), .val (.int p1), .unset, .unset, .unset] [(.int p0)]))
  refine own_via (fun _ k => XS.iconst X0.here hx rfl (hb hby d12_1) k) ?_
  show own_Go p e below s _ _ _ (s₁.setTop (mkF m 2 #[.val (.int p0), .val (.int p1), .unset, .unset, .unset] [(.int (3 : Int32)), (.int p0)]))
  refine own_via (fun _ k => XS.iloadN X0.here hx rfl (hb hby d12_2) rfl k) ?_
  show own_Go p e below s _ _ _ (s₁.setTop (mkF m 3 #[.val (.int p0), .val (.int p1), .unset, .unset, .unset] [(.int p1), (.int (3 : Int32)), (.int p0)]))
  refine own_via (fun _ k => XS.imul X0.here hx rfl (hb hby d12_3) rfl k) ?_
  show own_Go p e below s _ _ _ (s₁.setTop (mkF m 4 #[.val (.int p0), .val (.int p1), .unset, .unset, .unset] [(.int ((3 : Int32) * p1)), (.int p0)]))
  refine own_via (fun _ k => XS.iushr X0.here hx rfl (hb hby d12_4) rfl k) ?_
  show own_Go p e below s _ _ _ (s₁.setTop (mkF m 5 #[.val (.int p0), .val (.int p1), .unset, .unset, .unset] [(.int (o_iushr p0 ((3 : Int32) * p1)))]))
  refine own_via (fun _ k => XS.bipush X0.here hx rfl (hb hby d12_5) k) ?_
  show own_Go p e below s _ _ _ (s₁.setTop (mkF m 7 #[.val (.int p0), .val (.int p1), .unset, .unset, .unset] [(.int (7 : Int32)), (.int (o_iushr p0 ((3 : Int32) * p1)))]))
  refine own_via (fun _ k => XS.iand X0.here hx rfl (hb hby d12_7) rfl k) ?_
  show own_Go p e below s _ _ _ (s₁.setTop (mkF m 8 #[.val (.int p0), .val (.int p1), .unset, .unset, .unset] [(.int ((o_iushr p0 ((3 : Int32) * p1)) &&& (7 : Int32)))]))
  refine own_via (fun _ k => XS.istoreN X0.here hx rfl (hb hby d12_8) rfl (l' := #[.val (.int p0), .val (.int p1), .val (.int ((o_iushr p0 ((3 : Int32) * p1)) &&& (7 : Int32))), .unset, .unset]) rfl k) ?_
  show own_Go p e below s _ _ _ (s₁.setTop (mkF m 9 #[.val (.int p0), .val (.int p1), .val (.int ((o_iushr p0 ((3 : Int32) * p1)) &&& (7 : Int32))), .unset, .unset] []))
  refine own_via (fun _ k => XS.iloadN X0.here hx rfl (hb hby d12_9) rfl k) ?_
  show own_Go p e below s _ _ _ (s₁.setTop (mkF m 10 #[.val (.int p0), .val (.int p1), .val (.int ((o_iushr p0 ((3 : Int32) * p1)) &&& (7 : Int32))), .unset, .unset] [(.int p0)]))
  refine own_via (fun _ k => XS.bipush X0.here hx rfl (hb hby d12_10) k) ?_
  show own_Go p e below s _ _ _ (s₁.setTop (mkF m 12 #[.val (.int p0), .val (.int p1), .val (.int ((o_iushr p0 ((3 : Int32) * p1)) &&& (7 : Int32))), .unset, .unset] [(.int (8 : Int32)), (.int p0)]))
  refine own_via (fun _ k => XS.bipush X0.here hx rfl (hb hby d12_12) k) ?_
  show own_Go p e below s _ _ _ (s₁.setTop (mkF m 14 #[.val (.int p0), .val (.int p1), .val (.int ((o_iushr p0 ((3 : Int32) * p1)) &&& (7 : Int32))), .unset, .unset] [(.int (8 : Int32)), (.int (8 : Int32)), (.int p0)]))
  refine own_via (fun _ k => XS.iloadN X0.here hx rfl (hb hby d12_14) rfl k) ?_
  show own_Go p e below s _ _ _ (s₁.setTop (mkF m 15 #[.val (.int p0), .val (.int p1), .val (.int ((o_iushr p0 ((3 : Int32) * p1)) &&& (7 : Int32))), .unset, .unset] [(.int p1), (.int (8 : Int32)), (.int (8 : Int32)), (.int p0)]))
  refine own_via (fun _ k => XS.imul X0.here hx rfl (hb hby d12_15) rfl k) ?_
  show own_Go p e below s _ _ _ (s₁.setTop (mkF m 16 #[.val (.int p0), .val (.int p1), .val (.int ((o_iushr p0 ((3 : Int32) * p1)) &&& (7 : Int32))), .unset, .unset] [(.int ((8 : Int32) * p1)), (.int (8 : Int32)), (.int p0)]))
  refine own_via (fun _ k => XS.iadd X0.here hx rfl (hb hby d12_16) rfl k) ?_
  show own_Go p e below s _ _ _ (s₁.setTop (mkF m 17 #[.val (.int p0), .val (.int p1), .val (.int ((o_iushr p0 ((3 : Int32) * p1)) &&& (7 : Int32))), .unset, .unset] [(.int ((8 : Int32) + ((8 : Int32) * p1))), (.int p0)]))
  refine own_via (fun _ k => XS.iushr X0.here hx rfl (hb hby d12_17) rfl k) ?_
  show own_Go p e below s _ _ _ (s₁.setTop (mkF m 18 #[.val (.int p0), .val (.int p1), .val (.int ((o_iushr p0 ((3 : Int32) * p1)) &&& (7 : Int32))), .unset, .unset] [(.int (o_iushr p0 ((8 : Int32) + ((8 : Int32) * p1))))]))
  refine own_via (fun _ k => XS.sipush X0.here hx rfl (hb hby d12_18) k) ?_
  show own_Go p e below s _ _ _ (s₁.setTop (mkF m 21 #[.val (.int p0), .val (.int p1), .val (.int ((o_iushr p0 ((3 : Int32) * p1)) &&& (7 : Int32))), .unset, .unset] [(.int (255 : Int32)), (.int (o_iushr p0 ((8 : Int32) + ((8 : Int32) * p1))))]))
  refine own_via (fun _ k => XS.iand X0.here hx rfl (hb hby d12_21) rfl k) ?_
  show own_Go p e below s _ _ _ (s₁.setTop (mkF m 22 #[.val (.int p0), .val (.int p1), .val (.int ((o_iushr p0 ((3 : Int32) * p1)) &&& (7 : Int32))), .unset, .unset] [(.int ((o_iushr p0 ((8 : Int32) + ((8 : Int32) * p1))) &&& (255 : Int32)))]))
  refine own_via (fun _ k => XS.istoreN X0.here hx rfl (hb hby d12_22) rfl (l' := #[.val (.int p0), .val (.int p1), .val (.int ((o_iushr p0 ((3 : Int32) * p1)) &&& (7 : Int32))), .val (.int ((o_iushr p0 ((8 : Int32) + ((8 : Int32) * p1))) &&& (255 : Int32))), .unset]) rfl k) ?_
  show own_Go p e below s _ _ _ (s₁.setTop (mkF m 23 #[.val (.int p0), .val (.int p1), .val (.int ((o_iushr p0 ((3 : Int32) * p1)) &&& (7 : Int32))), .val (.int ((o_iushr p0 ((8 : Int32) + ((8 : Int32) * p1))) &&& (255 : Int32))), .unset] []))
  refine own_via (fun _ k => XS.iloadN X0.here hx rfl (hb hby d12_23) rfl k) ?_
  show own_Go p e below s _ _ _ (s₁.setTop (mkF m 24 #[.val (.int p0), .val (.int p1), .val (.int ((o_iushr p0 ((3 : Int32) * p1)) &&& (7 : Int32))), .val (.int ((o_iushr p0 ((8 : Int32) + ((8 : Int32) * p1))) &&& (255 : Int32))), .unset] [(.int ((o_iushr p0 ((3 : Int32) * p1)) &&& (7 : Int32)))]))
  by_cases hc1 : ((o_iushr p0 ((3 : Int32) * p1)) &&& (7 : Int32)) = (0 : Int32)
  · refine own_via (fun _ k => XS.ifNo X0.here hx rfl (hb hby d12_24) rfl (Jvm.Free.XT.i0_ne_f hc1) k) ?_
    show own_Go p e below s _ _ _ (s₁.setTop (mkF m 27 #[.val (.int p0), .val (.int p1), .val (.int ((o_iushr p0 ((3 : Int32) * p1)) &&& (7 : Int32))), .val (.int ((o_iushr p0 ((8 : Int32) + ((8 : Int32) * p1))) &&& (255 : Int32))), .unset] []))
    refine own_via (fun _ k => XS.bipush X0.here hx rfl (hb hby d12_27) k) ?_
    show own_Go p e below s _ _ _ (s₁.setTop (mkF m 29 #[.val (.int p0), .val (.int p1), .val (.int ((o_iushr p0 ((3 : Int32) * p1)) &&& (7 : Int32))), .val (.int ((o_iushr p0 ((8 : Int32) + ((8 : Int32) * p1))) &&& (255 : Int32))), .unset] [(.int (13 : Int32))]))
    exact own_goN X0 hx (t := .byte) Bd.returns (by simp) (hb hby d12_29) Bd.notSynchronized (by decide) (by decide) (by rw [e0]; exact ⟨by rw [own_fb, if_pos hc1] <;> rfl, N0, rfl⟩)
  · refine own_via (fun _ k => XS.ifYes X0.here hx rfl (pc0 := 24) (pc' := 30) rfl (hb hby d12_24) rfl (Jvm.Free.XT.i0_ne_t hc1) (by decide) (by decide) k) ?_
    show own_Go p e below s _ _ _ (s₁.setTop (mkF m 30 #[.val (.int p0), .val (.int p1), .val (.int ((o_iushr p0 ((3 : Int32) * p1)) &&& (7 : Int32))), .val (.int ((o_iushr p0 ((8 : Int32) + ((8 : Int32) * p1))) &&& (255 : Int32))), .unset] []))
    refine own_via (fun _ k => XS.iloadN X0.here hx rfl (hb hby d12_30) rfl k) ?_
    show own_Go p e below s _ _ _ (s₁.setTop (mkF m 31 #[.val (.int p0), .val (.int p1), .val (.int ((o_iushr p0 ((3 : Int32) * p1)) &&& (7 : Int32))), .val (.int ((o_iushr p0 ((8 : Int32) + ((8 : Int32) * p1))) &&& (255 : Int32))), .unset] [(.int ((o_iushr p0 ((3 : Int32) * p1)) &&& (7 : Int32)))]))
    refine own_via (fun _ k => XS.iconst X0.here hx rfl (hb hby d12_31) k) ?_
    show own_Go p e below s _ _ _ (s₁.setTop (mkF m 32 #[.val (.int p0), .val (.int p1), .val (.int ((o_iushr p0 ((3 : Int32) * p1)) &&& (7 : Int32))), .val (.int ((o_iushr p0 ((8 : Int32) + ((8 : Int32) * p1))) &&& (255 : Int32))), .unset] [(.int (1 : Int32)), (.int ((o_iushr p0 ((3 : Int32) * p1)) &&& (7 : Int32)))]))
    by_cases hc2 : ((o_iushr p0 ((3 : Int32) * p1)) &&& (7 : Int32)) = (1 : Int32)
    · refine own_via (fun _ k => XS.icmpNo X0.here hx rfl (hb hby d12_32) rfl (Jvm.Free.XT.ii_ne_f hc2) k) ?_
      show own_Go p e below s _ _ _ (s₁.setTop (mkF m 35 #[.val (.int p0), .val (.int p1), .val (.int ((o_iushr p0 ((3 : Int32) * p1)) &&& (7 : Int32))), .val (.int ((o_iushr p0 ((8 : Int32) + ((8 : Int32) * p1))) &&& (255 : Int32))), .unset] []))
      refine own_via (fun _ k => XS.bipush X0.here hx rfl (hb hby d12_35) k) ?_
      show own_Go p e below s _ _ _ (s₁.setTop (mkF m 37 #[.val (.int p0), .val (.int p1), .val (.int ((o_iushr p0 ((3 : Int32) * p1)) &&& (7 : Int32))), .val (.int ((o_iushr p0 ((8 : Int32) + ((8 : Int32) * p1))) &&& (255 : Int32))), .unset] [(.int (35 : Int32))]))
      exact own_goN X0 hx (t := .byte) Bd.returns (by simp) (hb hby d12_37) Bd.notSynchronized (by decide) (by decide) (by rw [e0]; exact ⟨by rw [own_fb, if_neg hc1, if_pos hc2] <;> rfl, N0, rfl⟩)
    · refine own_via (fun _ k => XS.icmpYes X0.here hx rfl (pc0 := 32) (pc' := 38) rfl (hb hby d12_32) rfl (Jvm.Free.XT.ii_ne_t hc2) (by decide) (by decide) k) ?_
      show own_Go p e below s _ _ _ (s₁.setTop (mkF m 38 #[.val (.int p0), .val (.int p1), .val (.int ((o_iushr p0 ((3 : Int32) * p1)) &&& (7 : Int32))), .val (.int ((o_iushr p0 ((8 : Int32) + ((8 : Int32) * p1))) &&& (255 : Int32))), .unset] []))
      refine own_via (fun _ k => XS.iloadN X0.here hx rfl (hb hby d12_38) rfl k) ?_
      show own_Go p e below s _ _ _ (s₁.setTop (mkF m 39 #[.val (.int p0), .val (.int p1), .val (.int ((o_iushr p0 ((3 : Int32) * p1)) &&& (7 : Int32))), .val (.int ((o_iushr p0 ((8 : Int32) + ((8 : Int32) * p1))) &&& (255 : Int32))), .unset] [(.int ((o_iushr p0 ((3 : Int32) * p1)) &&& (7 : Int32)))]))
      refine own_via (fun _ k => XS.iconst X0.here hx rfl (hb hby d12_39) k) ?_
      show own_Go p e below s _ _ _ (s₁.setTop (mkF m 40 #[.val (.int p0), .val (.int p1), .val (.int ((o_iushr p0 ((3 : Int32) * p1)) &&& (7 : Int32))), .val (.int ((o_iushr p0 ((8 : Int32) + ((8 : Int32) * p1))) &&& (255 : Int32))), .unset] [(.int (2 : Int32)), (.int ((o_iushr p0 ((3 : Int32) * p1)) &&& (7 : Int32)))]))
      by_cases hc3 : ((o_iushr p0 ((3 : Int32) * p1)) &&& (7 : Int32)) = (2 : Int32)
      · refine own_via (fun _ k => XS.icmpNo X0.here hx rfl (hb hby d12_40) rfl (Jvm.Free.XT.ii_ne_f hc3) k) ?_
        show own_Go p e below s _ _ _ (s₁.setTop (mkF m 43 #[.val (.int p0), .val (.int p1), .val (.int ((o_iushr p0 ((3 : Int32) * p1)) &&& (7 : Int32))), .val (.int ((o_iushr p0 ((8 : Int32) + ((8 : Int32) * p1))) &&& (255 : Int32))), .unset] []))
        refine own_via (fun _ k => XS.bipush X0.here hx rfl (hb hby d12_43) k) ?_
        show own_Go p e below s _ _ _ (s₁.setTop (mkF m 45 #[.val (.int p0), .val (.int p1), .val (.int ((o_iushr p0 ((3 : Int32) * p1)) &&& (7 : Int32))), .val (.int ((o_iushr p0 ((8 : Int32) + ((8 : Int32) * p1))) &&& (255 : Int32))), .unset] [(.int (97 : Int32))]))
        exact own_goN X0 hx (t := .byte) Bd.returns (by simp) (hb hby d12_45) Bd.notSynchronized (by decide) (by decide) (by rw [e0]; exact ⟨by rw [own_fb, if_neg hc1, if_neg hc2, if_pos hc3] <;> rfl, N0, rfl⟩)
      · refine own_via (fun _ k => XS.icmpYes X0.here hx rfl (pc0 := 40) (pc' := 46) rfl (hb hby d12_40) rfl (Jvm.Free.XT.ii_ne_t hc3) (by decide) (by decide) k) ?_
        show own_Go p e below s _ _ _ (s₁.setTop (mkF m 46 #[.val (.int p0), .val (.int p1), .val (.int ((o_iushr p0 ((3 : Int32) * p1)) &&& (7 : Int32))), .val (.int ((o_iushr p0 ((8 : Int32) + ((8 : Int32) * p1))) &&& (255 : Int32))), .unset] []))
        refine own_via (fun _ k => XS.iloadN X0.here hx rfl (hb hby d12_46) rfl k) ?_
        show own_Go p e below s _ _ _ (s₁.setTop (mkF m 47 #[.val (.int p0), .val (.int p1), .val (.int ((o_iushr p0 ((3 : Int32) * p1)) &&& (7 : Int32))), .val (.int ((o_iushr p0 ((8 : Int32) + ((8 : Int32) * p1))) &&& (255 : Int32))), .unset] [(.int ((o_iushr p0 ((3 : Int32) * p1)) &&& (7 : Int32)))]))
        refine own_via (fun _ k => XS.iconst X0.here hx rfl (hb hby d12_47) k) ?_
        show own_Go p e below s _ _ _ (s₁.setTop (mkF m 48 #[.val (.int p0), .val (.int p1), .val (.int ((o_iushr p0 ((3 : Int32) * p1)) &&& (7 : Int32))), .val (.int ((o_iushr p0 ((8 : Int32) + ((8 : Int32) * p1))) &&& (255 : Int32))), .unset] [(.int (3 : Int32)), (.int ((o_iushr p0 ((3 : Int32) * p1)) &&& (7 : Int32)))]))
        by_cases hc4 : ((o_iushr p0 ((3 : Int32) * p1)) &&& (7 : Int32)) = (3 : Int32)
        · refine own_via (fun _ k => XS.icmpNo X0.here hx rfl (hb hby d12_48) rfl (Jvm.Free.XT.ii_ne_f hc4) k) ?_
          show own_Go p e below s _ _ _ (s₁.setTop (mkF m 51 #[.val (.int p0), .val (.int p1), .val (.int ((o_iushr p0 ((3 : Int32) * p1)) &&& (7 : Int32))), .val (.int ((o_iushr p0 ((8 : Int32) + ((8 : Int32) * p1))) &&& (255 : Int32))), .unset] []))
          refine own_via (fun _ k => XS.bipush X0.here hx rfl (hb hby d12_51) k) ?_
          show own_Go p e below s _ _ _ (s₁.setTop (mkF m 53 #[.val (.int p0), .val (.int p1), .val (.int ((o_iushr p0 ((3 : Int32) * p1)) &&& (7 : Int32))), .val (.int ((o_iushr p0 ((8 : Int32) + ((8 : Int32) * p1))) &&& (255 : Int32))), .unset] [(.int (-61 : Int32))]))
          exact own_goN X0 hx (t := .byte) Bd.returns (by simp) (hb hby d12_53) Bd.notSynchronized (by decide) (by decide) (by rw [e0]; exact ⟨by rw [own_fb, if_neg hc1, if_neg hc2, if_neg hc3, if_pos hc4] <;> rfl, N0, rfl⟩)
        · refine own_via (fun _ k => XS.icmpYes X0.here hx rfl (pc0 := 48) (pc' := 54) rfl (hb hby d12_48) rfl (Jvm.Free.XT.ii_ne_t hc4) (by decide) (by decide) k) ?_
          show own_Go p e below s _ _ _ (s₁.setTop (mkF m 54 #[.val (.int p0), .val (.int p1), .val (.int ((o_iushr p0 ((3 : Int32) * p1)) &&& (7 : Int32))), .val (.int ((o_iushr p0 ((8 : Int32) + ((8 : Int32) * p1))) &&& (255 : Int32))), .unset] []))
          refine own_via (fun _ k => XS.iloadN X0.here hx rfl (hb hby d12_54) rfl k) ?_
          show own_Go p e below s _ _ _ (s₁.setTop (mkF m 55 #[.val (.int p0), .val (.int p1), .val (.int ((o_iushr p0 ((3 : Int32) * p1)) &&& (7 : Int32))), .val (.int ((o_iushr p0 ((8 : Int32) + ((8 : Int32) * p1))) &&& (255 : Int32))), .unset] [(.int ((o_iushr p0 ((8 : Int32) + ((8 : Int32) * p1))) &&& (255 : Int32)))]))
          refine own_via (fun _ k => XS.i2b X0.here hx rfl (hb hby d12_55) rfl k) ?_
          show own_Go p e below s _ _ _ (s₁.setTop (mkF m 56 #[.val (.int p0), .val (.int p1), .val (.int ((o_iushr p0 ((3 : Int32) * p1)) &&& (7 : Int32))), .val (.int ((o_iushr p0 ((8 : Int32) + ((8 : Int32) * p1))) &&& (255 : Int32))), .unset] [(.int (o_i2b ((o_iushr p0 ((8 : Int32) + ((8 : Int32) * p1))) &&& (255 : Int32))))]))
          refine own_via (fun _ k => XS.istore X0.here hx rfl (hb hby d12_56) rfl (l' := #[.val (.int p0), .val (.int p1), .val (.int ((o_iushr p0 ((3 : Int32) * p1)) &&& (7 : Int32))), .val (.int ((o_iushr p0 ((8 : Int32) + ((8 : Int32) * p1))) &&& (255 : Int32))), .val (.int (o_i2b ((o_iushr p0 ((8 : Int32) + ((8 : Int32) * p1))) &&& (255 : Int32))))]) rfl k) ?_
          show own_Go p e below s _ _ _ (s₁.setTop (mkF m 58 #[.val (.int p0), .val (.int p1), .val (.int ((o_iushr p0 ((3 : Int32) * p1)) &&& (7 : Int32))), .val (.int ((o_iushr p0 ((8 : Int32) + ((8 : Int32) * p1))) &&& (255 : Int32))), .val (.int (o_i2b ((o_iushr p0 ((8 : Int32) + ((8 : Int32) * p1))) &&& (255 : Int32))))] []))
          refine own_via (fun _ k => XS.iload X0.here hx rfl (hb hby d12_58) rfl k) ?_
          show own_Go p e below s _ _ _ (s₁.setTop (mkF m 60 #[.val (.int p0), .val (.int p1), .val (.int ((o_iushr p0 ((3 : Int32) * p1)) &&& (7 : Int32))), .val (.int ((o_iushr p0 ((8 : Int32) + ((8 : Int32) * p1))) &&& (255 : Int32))), .val (.int (o_i2b ((o_iushr p0 ((8 : Int32) + ((8 : Int32) * p1))) &&& (255 : Int32))))] [(.int (o_i2b ((o_iushr p0 ((8 : Int32) + ((8 : Int32) * p1))) &&& (255 : Int32))))]))
          refine own_via (fun _ k => XS.bipush X0.here hx rfl (hb hby d12_60) k) ?_
          show own_Go p e below s _ _ _ (s₁.setTop (mkF m 62 #[.val (.int p0), .val (.int p1), .val (.int ((o_iushr p0 ((3 : Int32) * p1)) &&& (7 : Int32))), .val (.int ((o_iushr p0 ((8 : Int32) + ((8 : Int32) * p1))) &&& (255 : Int32))), .val (.int (o_i2b ((o_iushr p0 ((8 : Int32) + ((8 : Int32) * p1))) &&& (255 : Int32))))] [(.int (32 : Int32)), (.int (o_i2b ((o_iushr p0 ((8 : Int32) + ((8 : Int32) * p1))) &&& (255 : Int32))))]))
          by_cases hc5 : (o_i2b ((o_iushr p0 ((8 : Int32) + ((8 : Int32) * p1))) &&& (255 : Int32))) = (32 : Int32)
          · refine own_via (fun _ k => XS.icmpYes X0.here hx rfl (pc0 := 62) (pc' := 72) rfl (hb hby d12_62) rfl (Jvm.Free.XT.ii_eq_t hc5) (by decide) (by decide) k) ?_
            show own_Go p e below s _ _ _ (s₁.setTop (mkF m 72 #[.val (.int p0), .val (.int p1), .val (.int ((o_iushr p0 ((3 : Int32) * p1)) &&& (7 : Int32))), .val (.int ((o_iushr p0 ((8 : Int32) + ((8 : Int32) * p1))) &&& (255 : Int32))), .val (.int (o_i2b ((o_iushr p0 ((8 : Int32) + ((8 : Int32) * p1))) &&& (255 : Int32))))] []))
            refine own_via (fun _ k => XS.bipush X0.here hx rfl (hb hby d12_72) k) ?_
            show own_Go p e below s _ _ _ (s₁.setTop (mkF m 74 #[.val (.int p0), .val (.int p1), .val (.int ((o_iushr p0 ((3 : Int32) * p1)) &&& (7 : Int32))), .val (.int ((o_iushr p0 ((8 : Int32) + ((8 : Int32) * p1))) &&& (255 : Int32))), .val (.int (o_i2b ((o_iushr p0 ((8 : Int32) + ((8 : Int32) * p1))) &&& (255 : Int32))))] [(.int (98 : Int32))]))
            exact own_goN X0 hx (t := .byte) Bd.returns (by simp) (hb hby d12_74) Bd.notSynchronized (by decide) (by decide) (by rw [e0]; exact ⟨by rw [own_fb, if_neg hc1, if_neg hc2, if_neg hc3, if_neg hc4, if_pos hc5] <;> rfl, N0, rfl⟩)
          · refine own_via (fun _ k => XS.icmpNo X0.here hx rfl (hb hby d12_62) rfl (Jvm.Free.XT.ii_eq_f hc5) k) ?_
            show own_Go p e below s _ _ _ (s₁.setTop (mkF m 65 #[.val (.int p0), .val (.int p1), .val (.int ((o_iushr p0 ((3 : Int32) * p1)) &&& (7 : Int32))), .val (.int ((o_iushr p0 ((8 : Int32) + ((8 : Int32) * p1))) &&& (255 : Int32))), .val (.int (o_i2b ((o_iushr p0 ((8 : Int32) + ((8 : Int32) * p1))) &&& (255 : Int32))))] []))
            refine own_via (fun _ k => XS.iload X0.here hx rfl (hb hby d12_65) rfl k) ?_
            show own_Go p e below s _ _ _ (s₁.setTop (mkF m 67 #[.val (.int p0), .val (.int p1), .val (.int ((o_iushr p0 ((3 : Int32) * p1)) &&& (7 : Int32))), .val (.int ((o_iushr p0 ((8 : Int32) + ((8 : Int32) * p1))) &&& (255 : Int32))), .val (.int (o_i2b ((o_iushr p0 ((8 : Int32) + ((8 : Int32) * p1))) &&& (255 : Int32))))] [(.int (o_i2b ((o_iushr p0 ((8 : Int32) + ((8 : Int32) * p1))) &&& (255 : Int32))))]))
            refine own_via (fun _ k => XS.bipush X0.here hx rfl (hb hby d12_67) k) ?_
            show own_Go p e below s _ _ _ (s₁.setTop (mkF m 69 #[.val (.int p0), .val (.int p1), .val (.int ((o_iushr p0 ((3 : Int32) * p1)) &&& (7 : Int32))), .val (.int ((o_iushr p0 ((8 : Int32) + ((8 : Int32) * p1))) &&& (255 : Int32))), .val (.int (o_i2b ((o_iushr p0 ((8 : Int32) + ((8 : Int32) * p1))) &&& (255 : Int32))))] [(.int (9 : Int32)), (.int (o_i2b ((o_iushr p0 ((8 : Int32) + ((8 : Int32) * p1))) &&& (255 : Int32))))]))
            by_cases hc6 : (o_i2b ((o_iushr p0 ((8 : Int32) + ((8 : Int32) * p1))) &&& (255 : Int32))) = (9 : Int32)
            · refine own_via (fun _ k => XS.icmpNo X0.here hx rfl (hb hby d12_69) rfl (Jvm.Free.XT.ii_ne_f hc6) k) ?_
              show own_Go p e below s _ _ _ (s₁.setTop (mkF m 72 #[.val (.int p0), .val (.int p1), .val (.int ((o_iushr p0 ((3 : Int32) * p1)) &&& (7 : Int32))), .val (.int ((o_iushr p0 ((8 : Int32) + ((8 : Int32) * p1))) &&& (255 : Int32))), .val (.int (o_i2b ((o_iushr p0 ((8 : Int32) + ((8 : Int32) * p1))) &&& (255 : Int32))))] []))
              refine own_via (fun _ k => XS.bipush X0.here hx rfl (hb hby d12_72) k) ?_
              show own_Go p e below s _ _ _ (s₁.setTop (mkF m 74 #[.val (.int p0), .val (.int p1), .val (.int ((o_iushr p0 ((3 : Int32) * p1)) &&& (7 : Int32))), .val (.int ((o_iushr p0 ((8 : Int32) + ((8 : Int32) * p1))) &&& (255 : Int32))), .val (.int (o_i2b ((o_iushr p0 ((8 : Int32) + ((8 : Int32) * p1))) &&& (255 : Int32))))] [(.int (98 : Int32))]))
              exact own_goN X0 hx (t := .byte) Bd.returns (by simp) (hb hby d12_74) Bd.notSynchronized (by decide) (by decide) (by rw [e0]; exact ⟨by rw [own_fb, if_neg hc1, if_neg hc2, if_neg hc3, if_neg hc4, if_neg hc5, if_pos hc6] <;> rfl, N0, rfl⟩)
            · refine own_via (fun _ k => XS.icmpYes X0.here hx rfl (pc0 := 69) (pc' := 75) rfl (hb hby d12_69) rfl (Jvm.Free.XT.ii_ne_t hc6) (by decide) (by decide) k) ?_
              show own_Go p e below s _ _ _ (s₁.setTop (mkF m 75 #[.val (.int p0), .val (.int p1), .val (.int ((o_iushr p0 ((3 : Int32) * p1)) &&& (7 : Int32))), .val (.int ((o_iushr p0 ((8 : Int32) + ((8 : Int32) * p1))) &&& (255 : Int32))), .val (.int (o_i2b ((o_iushr p0 ((8 : Int32) + ((8 : Int32) * p1))) &&& (255 : Int32))))] []))
              refine own_via (fun _ k => XS.iload X0.here hx rfl (hb hby d12_75) rfl k) ?_
              show own_Go p e below s _ _ _ (s₁.setTop (mkF m 77 #[.val (.int p0), .val (.int p1), .val (.int ((o_iushr p0 ((3 : Int32) * p1)) &&& (7 : Int32))), .val (.int ((o_iushr p0 ((8 : Int32) + ((8 : Int32) * p1))) &&& (255 : Int32))), .val (.int (o_i2b ((o_iushr p0 ((8 : Int32) + ((8 : Int32) * p1))) &&& (255 : Int32))))] [(.int (o_i2b ((o_iushr p0 ((8 : Int32) + ((8 : Int32) * p1))) &&& (255 : Int32))))]))
              exact own_goN X0 hx (t := .byte) Bd.returns (by simp) (hb hby d12_77) Bd.notSynchronized (by decide) (by decide) (by rw [e0]; exact ⟨by rw [own_fb, if_neg hc1, if_neg hc2, if_neg hc3, if_neg hc4, if_neg hc5, if_neg hc6] <;> rfl, N0, rfl⟩)

def own_seg (P : Int32 → Prop) (us : List Int32) (lo hi : Nat) : Prop := ∀ j, lo ≤ j → j < hi → P (own_g us j)
theorem own_g_set (us : List Int32) (i j : Nat) (b : Int32) (hi : i < us.length) : own_g (us.set i b) j = if i = j then b else own_g us j := by
  simp only [own_g, List.getD_eq_getElem?_getD, List.getElem?_set]
  by_cases h : i = j
  · subst h; simp [hi]
  · simp [h]
theorem own_keep {P : Int32 → Prop} {us us' : List Int32} {c : Prop} [Decidable c] {i lo hi : Nat} {b : Int32} (hu : us' = if c then us.set i b else us) (h : hi ≤ i) (hl : us.length = 16) (h16 : i < 16) (S : own_seg P us lo hi) : own_seg P us' lo hi := by
  intro j h1 h2
  by_cases q : c
  · rw [if_pos q] at hu; rw [hu, own_g_set _ _ _ _ (by omega), if_neg (by omega)]; exact S j h1 h2
  · rw [if_neg q] at hu; rw [hu]; exact S j h1 h2
theorem own_ext {P : Int32 → Prop} {us us' : List Int32} {c : Prop} [Decidable c] {i i' lo : Nat} {b : Int32} (hu : us' = if c then us.set i b else us) (hi : i' = if c then i + 1 else i) (hl : us.length = 16) (h16 : i < 16) (hP : P b) (S : own_seg P us lo i) : own_seg P us' lo i' := by
  intro j h1 h2
  by_cases q : c
  · rw [if_pos q] at hu hi
    rw [hu, own_g_set _ _ _ _ (by omega)]
    by_cases e : i = j
    · rw [if_pos e]; exact hP
    · rw [if_neg e]; exact S j h1 (by omega)
  · rw [if_neg q] at hu hi; rw [hu]; exact S j h1 (by omega)
theorem own_nil {P : Int32 → Prop} {us : List Int32} {i : Nat} : own_seg P us i i := fun j h1 h2 => by omega
theorem own_stp {c : Prop} [Decidable c] {i i' : Nat} (hi : i' = if c then i + 1 else i) : (c ∧ i' = i + 1) ∨ (¬ c ∧ i' = i) := by
  by_cases q : c
  · rw [if_pos q] at hi; exact Or.inl ⟨q, hi⟩
  · rw [if_neg q] at hi; exact Or.inr ⟨q, hi⟩
def own_isB (x : Int32) : Prop := ¬ own_bl x = (0 : Int32)
def own_isW (x : Int32) : Prop := own_bl x = (0 : Int32)
theorem own_bbB (x y : Int32) : own_isB (nar .byte (own_bb x y)) := by
  unfold own_bb; split <;> (unfold own_isB; decide)
theorem own_nbb (x : Int32) : nar .byte (o_i2b x) = o_i2b x := by simp [nar, o_i2b]
theorem own_fbW (x y : Int32) : own_isW (nar .byte (own_fb x y)) := by
  unfold own_fb
  split
  · unfold own_isW; decide
  · split
    · unfold own_isW; decide
    · split
      · unfold own_isW; decide
      · split
        · unfold own_isW; decide
        · split
          · unfold own_isW; decide
          · split
            · unfold own_isW; decide
            · rename_i h1 h2
              rw [own_nbb, own_nbb]
              unfold own_isW own_bl
              rw [if_neg h1, if_neg h2]
theorem own_sk_at {us : List Int32} : ∀ (n i m : Nat), own_seg own_isB us i m → i ≤ m → m ≤ i + n → (m = i + n ∨ own_isW (own_g us m)) → own_sk us n i = m
  | 0, i, m, _, h1, h2, _ => by rw [own_sk]; omega
  | n + 1, i, m, S, h1, h2, h3 => by
    rw [own_sk]
    by_cases q : i = m
    · subst q
      rcases h3 with h3 | h3
      · omega
      · rw [if_pos (show own_bl (own_g us i) = (0 : Int32) from h3)]
    · rw [if_neg (show ¬ own_bl (own_g us i) = (0 : Int32) from S i (Nat.le_refl _) (by omega))]
      exact own_sk_at n (i + 1) m (fun j a b => S j (by omega) b) (by omega) (by omega) (h3.imp (fun z => by omega) id)
theorem own_nb_at {us : List Int32} : ∀ (n i m : Nat), own_seg own_isW us i m → i ≤ m → m ≤ i + n → (m = i + n ∨ own_isB (own_g us m)) → own_nb us n i = m
  | 0, i, m, _, h1, h2, _ => by rw [own_nb]; omega
  | n + 1, i, m, S, h1, h2, h3 => by
    rw [own_nb]
    by_cases q : i = m
    · subst q
      rcases h3 with h3 | h3
      · omega
      · rw [if_neg (show ¬ own_bl (own_g us i) = (0 : Int32) from h3)]
    · rw [if_pos (show own_bl (own_g us i) = (0 : Int32) from S i (Nat.le_refl _) (by omega))]
      exact own_nb_at n (i + 1) m (fun j a b => S j (by omega) b) (by omega) (by omega) (h3.imp (fun z => by omega) id)
abbrev own_Fe (us : List Int32) (b : Nat) (cr tr ln : Int32) : Nat := if cr = (0 : Int32) ∧ tr = (0 : Int32) ∧ (0 : Int32) < ln ∧ own_g us (b - 1) = (13 : Int32) then b - 1 else b
abbrev own_HF (us : List Int32) (a b : Nat) (cr tr ln : Int32) : Prop := a < own_Fe us b cr tr ln ∧ ¬ own_g us a = (35 : Int32)
theorem own_core {us : List Int32} {s a f E : Nat} (h1 : s ≤ a) (h2 : a ≤ f) (h3 : f ≤ E) (B1 : own_seg own_isB us s a) (W : own_seg own_isW us a f) (B2 : own_seg own_isB us f E) (fs ft : Int32) :
    ((a < f ∧ ¬ own_g us a = (35 : Int32)) → own_nr us E (own_pos us s E) = 1 ∧ own_nfs us E (own_pos us s E) fs = Nat.toInt32 a ∧ own_nft us E (own_pos us s E) ft = Nat.toInt32 f ∧ own_nr us E (own_nq us E (own_pos us s E)) = 0)
    ∧ (¬ (a < f ∧ ¬ own_g us a = (35 : Int32)) → own_nr us E (own_pos us s E) = 0 ∧ own_nfs us E (own_pos us s E) fs = fs ∧ own_nft us E (own_pos us s E) ft = ft ∧ own_nr us E (own_nq us E (own_pos us s E)) = 0) := by
  have AE : own_A us E E = E := by unfold own_A; rw [Nat.sub_self]; rfl
  constructor
  · rintro ⟨q1, q2⟩
    have k1 : own_sk us (E - s) s = a := own_sk_at _ _ _ B1 h1 (by omega) (Or.inr (W a (Nat.le_refl _) q1))
    have k2 : own_pos us s E = a := by rw [own_pos, k1, if_neg (fun z => q2 z.2)]
    have k3 : own_A us E a = a := own_sk_at _ _ _ own_nil (Nat.le_refl _) (by omega) (Or.inr (W a (Nat.le_refl _) q1))
    have k4 : own_Bk us E a = f := by
      unfold own_Bk; rw [k3]
      refine own_nb_at _ _ _ W h2 (by omega) ?_
      by_cases z : f = E
      · exact Or.inl (by omega)
      · exact Or.inr (B2 f (Nat.le_refl _) (by omega))
    have ne : ¬ own_A us E a = E := by rw [k3]; omega
    have k5 : own_A us E f = E := own_sk_at _ _ _ B2 h3 (by omega) (Or.inl (by omega))
    rw [k2, own_nr, if_neg ne, own_nfs, if_neg ne, own_nft, if_neg ne, own_nq, if_neg ne, k3, k4, own_nr, if_pos k5]
    exact ⟨rfl, rfl, rfl, rfl⟩
  · intro q
    have k2 : own_pos us s E = E := by
      by_cases z : a < f
      · have k1 : own_sk us (E - s) s = a := own_sk_at _ _ _ B1 h1 (by omega) (Or.inr (W a (Nat.le_refl _) z))
        have g : own_g us a = (35 : Int32) := Decidable.byContradiction fun y => q ⟨z, y⟩
        rw [own_pos, k1, if_pos ⟨by omega, g⟩]
      · have k1 : own_sk us (E - s) s = E := by
          refine own_sk_at _ _ _ (fun j a1 a2 => ?_) (by omega) (by omega) (Or.inl (by omega))
          by_cases y : j < a
          · exact B1 j a1 y
          · exact B2 j (by omega) a2
        rw [own_pos, k1, if_neg (fun z => by omega)]
    rw [k2, own_nr, if_pos AE, own_nfs, if_pos AE, own_nft, if_pos AE, own_nq, if_pos AE, own_nr, if_pos AE]
    exact ⟨rfl, rfl, rfl, rfl⟩
theorem own_pos_r {us : List Int32} {s e : Nat} (h : s ≤ e) : own_pos us s e ≤ e := by
  have := own_sk_r us (e - s) s
  unfold own_pos; split <;> omega
def own_ii (j : Nat) (c : Prop) [Decidable c] (i : Nat) : Prop := j = if c then i + 1 else i
def own_uu (v : List Int32) (c : Prop) [Decidable c] (u : List Int32) (i : Nat) (b : Int32) : Prop := v = if c then u.set i b else u
theorem own_13 : ¬ own_isB (13 : Int32) := by unfold own_isB; decide
theorem own_T {us : List Int32} {s a b t e : Nat} {cr tr ln : Int32} (h1 : s ≤ a) (h2 : a ≤ b) (h3 : b ≤ t) (B1 : own_seg own_isB us s a) (W : own_seg own_isW us a b) (B2 : own_seg own_isB us b t)
    (hcr : (cr = 1 ∧ e = t + 1 ∧ own_g us t = (13 : Int32)) ∨ (cr = 0 ∧ e = t)) (htr : (tr = 0 ∧ t = b) ∨ (¬ tr = 0 ∧ b < t)) (hln : ((0 : Int32) < ln ∧ a < b) ∨ (¬ (0 : Int32) < ln ∧ a = b)) (fs ft : Int32) :
    (own_HF us a b cr tr ln → own_nr us (own_end us s e) (own_pos us s (own_end us s e)) = 1 ∧ own_nfs us (own_end us s e) (own_pos us s (own_end us s e)) fs = Nat.toInt32 a ∧ own_nft us (own_end us s e) (own_pos us s (own_end us s e)) ft = Nat.toInt32 (own_Fe us b cr tr ln) ∧ own_nr us (own_end us s e) (own_nq us (own_end us s e) (own_pos us s (own_end us s e))) = 0)
    ∧ (¬ own_HF us a b cr tr ln → own_nr us (own_end us s e) (own_pos us s (own_end us s e)) = 0 ∧ own_nfs us (own_end us s e) (own_pos us s (own_end us s e)) fs = fs ∧ own_nft us (own_end us s e) (own_pos us s (own_end us s e)) ft = ft ∧ own_nr us (own_end us s e) (own_nq us (own_end us s e) (own_pos us s (own_end us s e))) = 0) := by
  by_cases F : cr = (0 : Int32) ∧ tr = (0 : Int32) ∧ (0 : Int32) < ln ∧ own_g us (b - 1) = (13 : Int32)
  · have ef : own_Fe us b cr tr ln = b - 1 := if_pos F
    obtain ⟨f1, f2, f3, f4⟩ := F
    have ab : a < b := by rcases hln with z | z; exact z.2; exact absurd f3 z.1
    have tb : t = b := by rcases htr with z | z; exact z.2; exact absurd f2 z.1
    have et : e = t := by
      rcases hcr with z | z
      · rw [z.1] at f1; exact absurd f1 (by decide)
      · exact z.2
    have eE : own_end us s e = b - 1 := by rw [own_end, et, tb, if_pos ⟨by omega, f4⟩]
    unfold own_HF
    rw [ef, eE]
    exact own_core h1 (by omega) (Nat.le_refl _) B1 (fun j x y => W j x (by omega)) own_nil fs ft
  · have ef : own_Fe us b cr tr ln = b := if_neg F
    have eE : own_end us s e = t := by
      rcases hcr with ⟨z1, z2, z3⟩ | ⟨z1, z2⟩
      · subst z2
        rw [own_end, if_pos ⟨by omega, by rw [Nat.add_sub_cancel]; exact z3⟩, Nat.add_sub_cancel]
      · subst z2
        rw [own_end, if_neg]
        rintro ⟨y1, y2⟩
        by_cases q1 : b < e
        · have := B2 (e - 1) (by omega) (by omega); rw [y2] at this; exact own_13 this
        · have be : e = b := by omega
          subst be
          by_cases q2 : a < e
          · refine F ⟨z1, ?_, ?_, y2⟩
            · rcases htr with z | z
              · exact z.1
              · omega
            · rcases hln with z | z
              · exact z.1
              · omega
          · have := B1 (e - 1) (by omega) (by omega); rw [y2] at this; exact own_13 this
    unfold own_HF
    rw [ef, eE]
    exact own_core h1 h2 h3 B1 W B2 fs ft
theorem own_01 {w : Int32} {q : Prop} [Decidable q] (h : w = if q then (1 : Int32) else (0 : Int32)) : (w = (1 : Int32) ∧ q) ∨ (w = (0 : Int32) ∧ ¬ q) := by
  by_cases z : q
  · rw [if_pos z] at h; exact Or.inl ⟨h, z⟩
  · rw [if_neg z] at h; exact Or.inr ⟨h, z⟩
theorem own_fe {us : List Int32} {b : Nat} {cr tr ln w : Int32} (h : w = if (cr = (0 : Int32) ∧ tr = (0 : Int32) ∧ (0 : Int32) < ln ∧ own_g us (b - 1) = (13 : Int32)) then (1 : Int32) else (0 : Int32)) (hb : (0 : Int32) < ln → 0 < b) : (if w = (0 : Int32) then (Nat.toInt32 b) else ((Nat.toInt32 b) - (1 : Int32))) = Nat.toInt32 (own_Fe us b cr tr ln) := by
  rcases own_01 h with ⟨rfl, F⟩ | ⟨rfl, F⟩
  · rw [if_neg (by decide), own_pred (hb F.2.2.1), own_Fe, if_pos F]
  · rw [if_pos rfl, own_Fe, if_neg F]
theorem own_two (x : Int32) {v : Int32} (h : (x &&& (1 : Int32)) = v) : v = 0 ∨ v = 1 := by
  rcases and_one x with q | q <;> rw [q] at h
  · exact Or.inl h.symm
  · exact Or.inr h.symm
theorem own_three (x : Int32) {v : Int32} (h : (x &&& (3 : Int32)) = v) : 0 ≤ v.toInt ∧ v.toInt ≤ 3 := by
  have := c_and x 3 (by decide); rw [h] at this; exact this
theorem own_trl {i6 i7 i8 i9 : Nat} {tr : Int32} (s7 : ((0 : Int32) < tr ∧ i7 = i6 + 1) ∨ (¬ (0 : Int32) < tr ∧ i7 = i6)) (s8 : ((1 : Int32) < tr ∧ i8 = i7 + 1) ∨ (¬ (1 : Int32) < tr ∧ i8 = i7)) (s9 : ((2 : Int32) < tr ∧ i9 = i8 + 1) ∨ (¬ (2 : Int32) < tr ∧ i9 = i8)) (htr : 0 ≤ tr.toInt ∧ tr.toInt ≤ 3) : (tr = 0 ∧ i9 = i6) ∨ (¬ tr = 0 ∧ i6 < i9) := by
  have e0 : (0 : Int32).toInt = 0 := rfl
  have e1 : (1 : Int32).toInt = 1 := rfl
  have e2 : (2 : Int32).toInt = 2 := rfl
  rw [Int32.lt_iff_toInt_lt] at s7 s8 s9
  rw [← Int32.toInt_inj (x := tr)]
  omega
theorem own_lnl {i4 i5 i6 : Nat} {ln : Int32} (s5 : ((0 : Int32) < ln ∧ i5 = i4 + 1) ∨ (¬ (0 : Int32) < ln ∧ i5 = i4)) (s6 : ((1 : Int32) < ln ∧ i6 = i5 + 1) ∨ (¬ (1 : Int32) < ln ∧ i6 = i5)) : ((0 : Int32) < ln ∧ i4 < i6) ∨ (¬ (0 : Int32) < ln ∧ i4 = i6) := by
  have e0 : (0 : Int32).toInt = 0 := rfl
  have e1 : (1 : Int32).toInt = 1 := rfl
  rw [Int32.lt_iff_toInt_lt] at s5 s6
  rw [Int32.lt_iff_toInt_lt]
  omega
theorem own_stm {c : Prop} {i i' : Nat} (h : (c ∧ i' = i + 1) ∨ (¬ c ∧ i' = i)) : i ≤ i' ∧ i' ≤ i + 1 := by
  rcases h with q | q <;> omega
theorem own_ltI (k : Int32) (v : Int32) : k < v ↔ k.toInt < v.toInt := Int32.lt_iff_toInt_lt
set_option maxHeartbeats 4000000 in
theorem own_struct {u0 u1 u2 u3 u4 u5 u6 u7 u8 u9 u10 u11 u12 u13 : List Int32} {i1 i2 i3 i4 i5 i6 i7 i8 i9 i10 i11 i12 i13 : Nat} {pr ld ln tr cr ps : Int32} {b1 b2 b3 b4 b5 b6 b7 b8 b9 b10 b11 b12 b13 : Int32} (hu1 : u1 = if pr = (1 : Int32) then u0.set 0 b1 else u0) (hi1 : i1 = if pr = (1 : Int32) then 0 + 1 else 0) (hl1 : u0.length = 16) (hu2 : u2 = if (0 : Int32) < ld then u1.set i1 b2 else u1) (hi2 : i2 = if (0 : Int32) < ld then i1 + 1 else i1) (hl2 : u1.length = 16) (hu3 : u3 = if (1 : Int32) < ld then u2.set i2 b3 else u2) (hi3 : i3 = if (1 : Int32) < ld then i2 + 1 else i2) (hl3 : u2.length = 16) (hu4 : u4 = if (2 : Int32) < ld then u3.set i3 b4 else u3) (hi4 : i4 = if (2 : Int32) < ld then i3 + 1 else i3) (hl4 : u3.length = 16) (hu5 : u5 = if (0 : Int32) < ln then u4.set i4 b5 else u4) (hi5 : i5 = if (0 : Int32) < ln then i4 + 1 else i4) (hl5 : u4.length = 16) (hu6 : u6 = if (1 : Int32) < ln then u5.set i5 b6 else u5) (hi6 : i6 = if (1 : Int32) < ln then i5 + 1 else i5) (hl6 : u5.length = 16) (hu7 : u7 = if (0 : Int32) < tr then u6.set i6 b7 else u6) (hi7 : i7 = if (0 : Int32) < tr then i6 + 1 else i6) (hl7 : u6.length = 16) (hu8 : u8 = if (1 : Int32) < tr then u7.set i7 b8 else u7) (hi8 : i8 = if (1 : Int32) < tr then i7 + 1 else i7) (hl8 : u7.length = 16) (hu9 : u9 = if (2 : Int32) < tr then u8.set i8 b9 else u8) (hi9 : i9 = if (2 : Int32) < tr then i8 + 1 else i8) (hl9 : u8.length = 16) (hu10 : u10 = if cr = (1 : Int32) then u9.set i9 b10 else u9) (hi10 : i10 = if cr = (1 : Int32) then i9 + 1 else i9) (hl10 : u9.length = 16) (hu11 : u11 = if (0 : Int32) < ps then u10.set i10 b11 else u10) (hi11 : i11 = if (0 : Int32) < ps then i10 + 1 else i10) (hl11 : u10.length = 16) (hu12 : u12 = if (1 : Int32) < ps then u11.set i11 b12 else u11) (hi12 : i12 = if (1 : Int32) < ps then i11 + 1 else i11) (hl12 : u11.length = 16) (hu13 : u13 = if (2 : Int32) < ps then u12.set i12 b13 else u12) (hi13 : i13 = if (2 : Int32) < ps then i12 + 1 else i12) (hl13 : u12.length = 16) (hB : own_isB b2 ∧ own_isB b3 ∧ own_isB b4 ∧ own_isB b7 ∧ own_isB b8 ∧ own_isB b9) (hW : own_isW b5 ∧ own_isW b6) (h13 : b10 = (13 : Int32)) (hcr : cr = 0 ∨ cr = 1) (htr : 0 ≤ tr.toInt ∧ tr.toInt ≤ 3) :
    (i1 ≤ i4 ∧ i4 ≤ i6 ∧ i6 ≤ i9 ∧ i9 ≤ i10 ∧ i10 ≤ 10) ∧ own_seg own_isB u13 i1 i4 ∧ own_seg own_isW u13 i4 i6 ∧ own_seg own_isB u13 i6 i9 ∧ ((cr = 1 ∧ i10 = i9 + 1 ∧ own_g u13 i9 = (13 : Int32)) ∨ (cr = 0 ∧ i10 = i9)) ∧ ((tr = 0 ∧ i9 = i6) ∨ (¬ tr = 0 ∧ i6 < i9)) ∧ (((0 : Int32) < ln ∧ i4 < i6) ∨ (¬ (0 : Int32) < ln ∧ i4 = i6)) := by
  have s1 := own_stp hi1
  have s2 := own_stp hi2
  have s3 := own_stp hi3
  have s4 := own_stp hi4
  have s5 := own_stp hi5
  have s6 := own_stp hi6
  have s7 := own_stp hi7
  have s8 := own_stp hi8
  have s9 := own_stp hi9
  have s10 := own_stp hi10
  have s11 := own_stp hi11
  have s12 := own_stp hi12
  have s13 := own_stp hi13
  have m1 := own_stm s1
  have m2 := own_stm s2
  have m3 := own_stm s3
  have m4 := own_stm s4
  have m5 := own_stm s5
  have m6 := own_stm s6
  have m7 := own_stm s7
  have m8 := own_stm s8
  have m9 := own_stm s9
  have m10 := own_stm s10
  have m11 := own_stm s11
  have m12 := own_stm s12
  have m13 := own_stm s13
  have R6 := own_trl s7 s8 s9 htr
  have R7 := own_lnl s5 s6
  clear s1 s2 s3 s4 s5 s6 s7 s8 s9 s11 s12 s13
  have R5 : (cr = 1 ∧ i10 = i9 + 1) ∨ (cr = 0 ∧ i10 = i9) := by rcases s10 with q | q; exact Or.inl q; rcases hcr with z | z; exact Or.inr ⟨z, q.2⟩; exact absurd z q.1
  clear s10 hcr htr
  have Q : (0 ≤ i1 ∧ i1 ≤ 0 + 1 ∧ i1 ≤ i2 ∧ i2 ≤ i1 + 1 ∧ i2 ≤ i3 ∧ i3 ≤ i2 + 1 ∧ i3 ≤ i4 ∧ i4 ≤ i3 + 1 ∧ i4 ≤ i5 ∧ i5 ≤ i4 + 1 ∧ i5 ≤ i6 ∧ i6 ≤ i5 + 1 ∧ i6 ≤ i7 ∧ i7 ≤ i6 + 1 ∧ i7 ≤ i8 ∧ i8 ≤ i7 + 1 ∧ i8 ≤ i9 ∧ i9 ≤ i8 + 1 ∧ i9 ≤ i10 ∧ i10 ≤ i9 + 1 ∧ i10 ≤ i11 ∧ i11 ≤ i10 + 1 ∧ i11 ≤ i12 ∧ i12 ≤ i11 + 1 ∧ i12 ≤ i13 ∧ i13 ≤ i12 + 1) := ⟨m1.1, m1.2, m2.1, m2.2, m3.1, m3.2, m4.1, m4.2, m5.1, m5.2, m6.1, m6.2, m7.1, m7.2, m8.1, m8.2, m9.1, m9.2, m10.1, m10.2, m11.1, m11.2, m12.1, m12.2, m13.1, m13.2⟩
  clear m1 m2 m3 m4 m5 m6 m7 m8 m9 m10 m11 m12 m13
  have A2 := own_ext hu2 hi2 hl2 (by clear R5 R6 R7; omega) hB.1 ((own_nil : own_seg _ u1 i1 i1))
  have A3 := own_ext hu3 hi3 hl3 (by clear R5 R6 R7; omega) hB.2.1 (A2)
  have A4 := own_ext hu4 hi4 hl4 (by clear R5 R6 R7; omega) hB.2.2.1 (A3)
  have A5 := own_keep hu5 (by clear R5 R6 R7; omega) hl5 (by clear R5 R6 R7; omega) A4
  have A6 := own_keep hu6 (by clear R5 R6 R7; omega) hl6 (by clear R5 R6 R7; omega) A5
  have A7 := own_keep hu7 (by clear R5 R6 R7; omega) hl7 (by clear R5 R6 R7; omega) A6
  have A8 := own_keep hu8 (by clear R5 R6 R7; omega) hl8 (by clear R5 R6 R7; omega) A7
  have A9 := own_keep hu9 (by clear R5 R6 R7; omega) hl9 (by clear R5 R6 R7; omega) A8
  have A10 := own_keep hu10 (by clear R5 R6 R7; omega) hl10 (by clear R5 R6 R7; omega) A9
  have A11 := own_keep hu11 (by clear R5 R6 R7; omega) hl11 (by clear R5 R6 R7; omega) A10
  have A12 := own_keep hu12 (by clear R5 R6 R7; omega) hl12 (by clear R5 R6 R7; omega) A11
  have A13 := own_keep hu13 (by clear R5 R6 R7; omega) hl13 (by clear R5 R6 R7; omega) A12
  have W5 := own_ext hu5 hi5 hl5 (by clear R5 R6 R7; omega) hW.1 ((own_nil : own_seg _ u4 i4 i4))
  have W6 := own_ext hu6 hi6 hl6 (by clear R5 R6 R7; omega) hW.2 (W5)
  have W7 := own_keep hu7 (by clear R5 R6 R7; omega) hl7 (by clear R5 R6 R7; omega) W6
  have W8 := own_keep hu8 (by clear R5 R6 R7; omega) hl8 (by clear R5 R6 R7; omega) W7
  have W9 := own_keep hu9 (by clear R5 R6 R7; omega) hl9 (by clear R5 R6 R7; omega) W8
  have W10 := own_keep hu10 (by clear R5 R6 R7; omega) hl10 (by clear R5 R6 R7; omega) W9
  have W11 := own_keep hu11 (by clear R5 R6 R7; omega) hl11 (by clear R5 R6 R7; omega) W10
  have W12 := own_keep hu12 (by clear R5 R6 R7; omega) hl12 (by clear R5 R6 R7; omega) W11
  have W13 := own_keep hu13 (by clear R5 R6 R7; omega) hl13 (by clear R5 R6 R7; omega) W12
  have B7 := own_ext hu7 hi7 hl7 (by clear R5 R6 R7; omega) hB.2.2.2.1 ((own_nil : own_seg _ u6 i6 i6))
  have B8 := own_ext hu8 hi8 hl8 (by clear R5 R6 R7; omega) hB.2.2.2.2.1 (B7)
  have B9 := own_ext hu9 hi9 hl9 (by clear R5 R6 R7; omega) hB.2.2.2.2.2 (B8)
  have B10 := own_keep hu10 (by clear R5 R6 R7; omega) hl10 (by clear R5 R6 R7; omega) B9
  have B11 := own_keep hu11 (by clear R5 R6 R7; omega) hl11 (by clear R5 R6 R7; omega) B10
  have B12 := own_keep hu12 (by clear R5 R6 R7; omega) hl12 (by clear R5 R6 R7; omega) B11
  have B13 := own_keep hu13 (by clear R5 R6 R7; omega) hl13 (by clear R5 R6 R7; omega) B12
  have C10 := own_ext (P := fun x => x = (13 : Int32)) hu10 hi10 hl10 (by clear R5 R6 R7; omega) h13 (own_nil : own_seg _ u9 i9 i9)
  have C11 := own_keep hu11 (by clear R5 R6 R7; omega) hl11 (by clear R5 R6 R7; omega) C10
  have C12 := own_keep hu12 (by clear R5 R6 R7; omega) hl12 (by clear R5 R6 R7; omega) C11
  have C13 := own_keep hu13 (by clear R5 R6 R7; omega) hl13 (by clear R5 R6 R7; omega) C12
  refine ⟨by clear R5 R6 R7; omega, A13, W13, B13, ?_, R6, R7⟩
  rcases R5 with ⟨q1, q2⟩ | ⟨q1, q2⟩
  · exact Or.inl ⟨q1, q2, C13 i9 (Nat.le_refl _) (by omega)⟩
  · exact Or.inr ⟨q1, q2⟩

theorem pd_2 : parseMethodDescriptor "()V" = some ⟨[], none⟩ := by decide +kernel
theorem pd_3 : parseMethodDescriptor "([BII)V" = some ⟨[(.array .byte), .int, .int], none⟩ := by decide +kernel
theorem pd_4 : parseMethodDescriptor "()[B" = some ⟨[], some (.array .byte)⟩ := by decide +kernel
theorem pd_5 : parseMethodDescriptor "()I" = some ⟨[], some .int⟩ := by decide +kernel
theorem pd_6 : parseMethodDescriptor "()Z" = some ⟨[], some .boolean⟩ := by decide +kernel
theorem pd_7 : parseMethodDescriptor "(JI)B" = some ⟨[.long, .int], some .byte⟩ := by decide +kernel
theorem pd_8 : parseMethodDescriptor "(II)B" = some ⟨[.int, .int], some .byte⟩ := by decide +kernel
theorem ef_0 (m : MethodId) (x0 : Int32) (x1 : Int32) (x2 : Int32) (x3 : Int64) : entryFrame m #[(.int x0), (.int x1), (.int x2), (.long x3)] maxLocals = mkF m 0 #[.val (.int x0), .val (.int x1), .val (.int x2), .val (.long x3), .second, .unset, .unset, .unset, .unset, .unset, .unset, .unset, .unset, .unset, .unset, .unset, .unset, .unset, .unset, .unset, .unset, .unset, .unset, .unset, .unset, .unset] [] := by first | (simp [entryFrame, mkF, argsToLocals, Value.category, maxLocals]; done) | rfl
def Q0 (Z : State) (p0 : Int32) (p1 : Int32) (p2 : Int32) (p3 : Int64) (h0 : Heap) (n0 : Nat) (v : Option Value) (h : Heap) (L : List Loc) : Prop := v = some (.int 1) ∧ Fr n0 L
set_option maxRecDepth 65536 in
set_option maxHeartbeats 40000000 in
theorem rm0 (l : Launch) (Z : State) (a0 : Array Value) (hw : ∀ d ∈ tables_1, d.before a0 Z = true) (ws : List Jvm.Cond) (p0 : Int32) (p1 : Int32) (p2 : Int32) (p3 : Int64) (h0 : Heap) (n0 : Nat) (Z0 : n0 ≤ h0.size) :
    MetFree l x (head1 (Jvm.Cond.code x code maxLocals ret :: ws) room_1) (fun q_ U => q_ = #[(.int p0), (.int p1), (.int p2), (.long p3)] ∧ Z.Warmed39 U.vm ∧ U.heap = h0) (fun _ _ _ _ _ => True) (fun _ U o U' => ∃ v L, o = .returned v ∧ Q0 Z p0 p1 p2 p3 h0 n0 v U'.heap L ∧ FrameEnd U o U' L room_1.cells room_1.slots) := by
  refine MetFree.of_bodySF (plainFor_of_name pn_1) hisR ?_
  intro p e s m args below meth c s₁ Bd hml0 hP hK
  obtain ⟨rfl, hZ, hh⟩ := hP
  have hx := Bd.exec
  have hby := Bd.bytes
  have hml : c.maxLocals = 26 := hml0
  have hown : s.vm.findClass "com/example/enlace/enlace/graph/LineFieldsResetPinLaw" = some m.cls := findClass_of_methodNamed Bd.named
  have hnm := (name_of_methodNamed Bd.named Bd.method).1
  have X0 : Stand p l e room_1 s m #[(.int p0), (.int p1), (.int p2), (.long p3)] below meth c s₁ [] 0 0 := Stand.of_body Bd
  have e0 : s₁.heap = h0 := by rw [← hh, Bd.state]; rfl
  have N0 := Fr.nil n0
  show own_Go p e below s (Q0 Z p0 p1 p2 p3 h0 n0) room_1.cells room_1.slots (s₁.setTop (entryFrame m #[(.int p0), (.int p1), (.int p2), (.long p3)] maxLocals))
  refine own_via (fun t k => castTop (ef_0 m p0 p1 p2 p3) k) ?_
  show own_Go p e below s _ _ _ (s₁.setTop (mkF m 0 #[.val (.int p0), .val (.int p1), .val (.int p2), .val (.long p3), .second, .unset, .unset, .unset, .unset, .unset, .unset, .unset, .unset, .unset, .unset, .unset, .unset, .unset, .unset, .unset, .unset, .unset, .unset, .unset, .unset, .unset] []))
  refine own_via (fun _ k => XS.iloadN X0.here hx rfl (hb hby at_0) rfl k) ?_
  show own_Go p e below s _ _ _ (s₁.setTop (mkF m 1 #[.val (.int p0), .val (.int p1), .val (.int p2), .val (.long p3), .second, .unset, .unset, .unset, .unset, .unset, .unset, .unset, .unset, .unset, .unset, .unset, .unset, .unset, .unset, .unset, .unset, .unset, .unset, .unset, .unset, .unset] [(.int p0)]))
  refine own_via (fun _ k => XS.iconst X0.here hx rfl (hb hby at_1) k) ?_
  show own_Go p e below s _ _ _ (s₁.setTop (mkF m 2 #[.val (.int p0), .val (.int p1), .val (.int p2), .val (.long p3), .second, .unset, .unset, .unset, .unset, .unset, .unset, .unset, .unset, .unset, .unset, .unset, .unset, .unset, .unset, .unset, .unset, .unset, .unset, .unset, .unset, .unset] [(.int (1 : Int32)), (.int p0)]))
  refine own_via (fun _ k => XS.iand X0.here hx rfl (hb hby at_2) rfl k) ?_
  show own_Go p e below s _ _ _ (s₁.setTop (mkF m 3 #[.val (.int p0), .val (.int p1), .val (.int p2), .val (.long p3), .second, .unset, .unset, .unset, .unset, .unset, .unset, .unset, .unset, .unset, .unset, .unset, .unset, .unset, .unset, .unset, .unset, .unset, .unset, .unset, .unset, .unset] [(.int (p0 &&& (1 : Int32)))]))
  refine own_via (fun _ k => XS.istore X0.here hx rfl (hb hby at_3) rfl (l' := #[.val (.int p0), .val (.int p1), .val (.int p2), .val (.long p3), .second, .val (.int (p0 &&& (1 : Int32))), .unset, .unset, .unset, .unset, .unset, .unset, .unset, .unset, .unset, .unset, .unset, .unset, .unset, .unset, .unset, .unset, .unset, .unset, .unset, .unset]) rfl k) ?_
  show own_Go p e below s _ _ _ (s₁.setTop (mkF m 5 #[.val (.int p0), .val (.int p1), .val (.int p2), .val (.long p3), .second, .val (.int (p0 &&& (1 : Int32))), .unset, .unset, .unset, .unset, .unset, .unset, .unset, .unset, .unset, .unset, .unset, .unset, .unset, .unset, .unset, .unset, .unset, .unset, .unset, .unset] []))
  generalize hv1 : (p0 &&& (1 : Int32)) = v1
  show own_Go p e below s _ _ _ (s₁.setTop (mkF m 5 #[.val (.int p0), .val (.int p1), .val (.int p2), .val (.long p3), .second, .val (.int v1), .unset, .unset, .unset, .unset, .unset, .unset, .unset, .unset, .unset, .unset, .unset, .unset, .unset, .unset, .unset, .unset, .unset, .unset, .unset, .unset] []))
  refine own_via (fun _ k => XS.iloadN X0.here hx rfl (hb hby at_5) rfl k) ?_
  show own_Go p e below s _ _ _ (s₁.setTop (mkF m 6 #[.val (.int p0), .val (.int p1), .val (.int p2), .val (.long p3), .second, .val (.int v1), .unset, .unset, .unset, .unset, .unset, .unset, .unset, .unset, .unset, .unset, .unset, .unset, .unset, .unset, .unset, .unset, .unset, .unset, .unset, .unset] [(.int p0)]))
  refine own_via (fun _ k => XS.iconst X0.here hx rfl (hb hby at_6) k) ?_
  show own_Go p e below s _ _ _ (s₁.setTop (mkF m 7 #[.val (.int p0), .val (.int p1), .val (.int p2), .val (.long p3), .second, .val (.int v1), .unset, .unset, .unset, .unset, .unset, .unset, .unset, .unset, .unset, .unset, .unset, .unset, .unset, .unset, .unset, .unset, .unset, .unset, .unset, .unset] [(.int (1 : Int32)), (.int p0)]))
  refine own_via (fun _ k => XS.iushr X0.here hx rfl (hb hby at_7) rfl k) ?_
  show own_Go p e below s _ _ _ (s₁.setTop (mkF m 8 #[.val (.int p0), .val (.int p1), .val (.int p2), .val (.long p3), .second, .val (.int v1), .unset, .unset, .unset, .unset, .unset, .unset, .unset, .unset, .unset, .unset, .unset, .unset, .unset, .unset, .unset, .unset, .unset, .unset, .unset, .unset] [(.int (o_iushr p0 (1 : Int32)))]))
  refine own_via (fun _ k => XS.iconst X0.here hx rfl (hb hby at_8) k) ?_
  show own_Go p e below s _ _ _ (s₁.setTop (mkF m 9 #[.val (.int p0), .val (.int p1), .val (.int p2), .val (.long p3), .second, .val (.int v1), .unset, .unset, .unset, .unset, .unset, .unset, .unset, .unset, .unset, .unset, .unset, .unset, .unset, .unset, .unset, .unset, .unset, .unset, .unset, .unset] [(.int (3 : Int32)), (.int (o_iushr p0 (1 : Int32)))]))
  refine own_via (fun _ k => XS.iand X0.here hx rfl (hb hby at_9) rfl k) ?_
  show own_Go p e below s _ _ _ (s₁.setTop (mkF m 10 #[.val (.int p0), .val (.int p1), .val (.int p2), .val (.long p3), .second, .val (.int v1), .unset, .unset, .unset, .unset, .unset, .unset, .unset, .unset, .unset, .unset, .unset, .unset, .unset, .unset, .unset, .unset, .unset, .unset, .unset, .unset] [(.int ((o_iushr p0 (1 : Int32)) &&& (3 : Int32)))]))
  refine own_via (fun _ k => XS.istore X0.here hx rfl (hb hby at_10) rfl (l' := #[.val (.int p0), .val (.int p1), .val (.int p2), .val (.long p3), .second, .val (.int v1), .val (.int ((o_iushr p0 (1 : Int32)) &&& (3 : Int32))), .unset, .unset, .unset, .unset, .unset, .unset, .unset, .unset, .unset, .unset, .unset, .unset, .unset, .unset, .unset, .unset, .unset, .unset, .unset]) rfl k) ?_
  show own_Go p e below s _ _ _ (s₁.setTop (mkF m 12 #[.val (.int p0), .val (.int p1), .val (.int p2), .val (.long p3), .second, .val (.int v1), .val (.int ((o_iushr p0 (1 : Int32)) &&& (3 : Int32))), .unset, .unset, .unset, .unset, .unset, .unset, .unset, .unset, .unset, .unset, .unset, .unset, .unset, .unset, .unset, .unset, .unset, .unset, .unset] []))
  generalize hv2 : ((o_iushr p0 (1 : Int32)) &&& (3 : Int32)) = v2
  show own_Go p e below s _ _ _ (s₁.setTop (mkF m 12 #[.val (.int p0), .val (.int p1), .val (.int p2), .val (.long p3), .second, .val (.int v1), .val (.int v2), .unset, .unset, .unset, .unset, .unset, .unset, .unset, .unset, .unset, .unset, .unset, .unset, .unset, .unset, .unset, .unset, .unset, .unset, .unset] []))
  refine own_via (fun _ k => XS.iloadN X0.here hx rfl (hb hby at_12) rfl k) ?_
  show own_Go p e below s _ _ _ (s₁.setTop (mkF m 13 #[.val (.int p0), .val (.int p1), .val (.int p2), .val (.long p3), .second, .val (.int v1), .val (.int v2), .unset, .unset, .unset, .unset, .unset, .unset, .unset, .unset, .unset, .unset, .unset, .unset, .unset, .unset, .unset, .unset, .unset, .unset, .unset] [(.int p0)]))
  refine own_via (fun _ k => XS.iconst X0.here hx rfl (hb hby at_13) k) ?_
  show own_Go p e below s _ _ _ (s₁.setTop (mkF m 14 #[.val (.int p0), .val (.int p1), .val (.int p2), .val (.long p3), .second, .val (.int v1), .val (.int v2), .unset, .unset, .unset, .unset, .unset, .unset, .unset, .unset, .unset, .unset, .unset, .unset, .unset, .unset, .unset, .unset, .unset, .unset, .unset] [(.int (3 : Int32)), (.int p0)]))
  refine own_via (fun _ k => XS.iushr X0.here hx rfl (hb hby at_14) rfl k) ?_
  show own_Go p e below s _ _ _ (s₁.setTop (mkF m 15 #[.val (.int p0), .val (.int p1), .val (.int p2), .val (.long p3), .second, .val (.int v1), .val (.int v2), .unset, .unset, .unset, .unset, .unset, .unset, .unset, .unset, .unset, .unset, .unset, .unset, .unset, .unset, .unset, .unset, .unset, .unset, .unset] [(.int (o_iushr p0 (3 : Int32)))]))
  refine own_via (fun _ k => XS.iconst X0.here hx rfl (hb hby at_15) k) ?_
  show own_Go p e below s _ _ _ (s₁.setTop (mkF m 16 #[.val (.int p0), .val (.int p1), .val (.int p2), .val (.long p3), .second, .val (.int v1), .val (.int v2), .unset, .unset, .unset, .unset, .unset, .unset, .unset, .unset, .unset, .unset, .unset, .unset, .unset, .unset, .unset, .unset, .unset, .unset, .unset] [(.int (3 : Int32)), (.int (o_iushr p0 (3 : Int32)))]))
  refine own_via (fun _ k => XS.iand X0.here hx rfl (hb hby at_16) rfl k) ?_
  show own_Go p e below s _ _ _ (s₁.setTop (mkF m 17 #[.val (.int p0), .val (.int p1), .val (.int p2), .val (.long p3), .second, .val (.int v1), .val (.int v2), .unset, .unset, .unset, .unset, .unset, .unset, .unset, .unset, .unset, .unset, .unset, .unset, .unset, .unset, .unset, .unset, .unset, .unset, .unset] [(.int ((o_iushr p0 (3 : Int32)) &&& (3 : Int32)))]))
  refine own_via (fun _ k => XS.iconst X0.here hx rfl (hb hby at_17) k) ?_
  show own_Go p e below s _ _ _ (s₁.setTop (mkF m 18 #[.val (.int p0), .val (.int p1), .val (.int p2), .val (.long p3), .second, .val (.int v1), .val (.int v2), .unset, .unset, .unset, .unset, .unset, .unset, .unset, .unset, .unset, .unset, .unset, .unset, .unset, .unset, .unset, .unset, .unset, .unset, .unset] [(.int (3 : Int32)), (.int ((o_iushr p0 (3 : Int32)) &&& (3 : Int32)))]))
  refine own_via (fun _ k => XS.irem X0.here hx rfl (hb hby at_18) rfl (by decide) k) ?_
  show own_Go p e below s _ _ _ (s₁.setTop (mkF m 19 #[.val (.int p0), .val (.int p1), .val (.int p2), .val (.long p3), .second, .val (.int v1), .val (.int v2), .unset, .unset, .unset, .unset, .unset, .unset, .unset, .unset, .unset, .unset, .unset, .unset, .unset, .unset, .unset, .unset, .unset, .unset, .unset] [(.int (o_irem ((o_iushr p0 (3 : Int32)) &&& (3 : Int32)) (3 : Int32)))]))
  refine own_via (fun _ k => XS.istore X0.here hx rfl (hb hby at_19) rfl (l' := #[.val (.int p0), .val (.int p1), .val (.int p2), .val (.long p3), .second, .val (.int v1), .val (.int v2), .val (.int (o_irem ((o_iushr p0 (3 : Int32)) &&& (3 : Int32)) (3 : Int32))), .unset, .unset, .unset, .unset, .unset, .unset, .unset, .unset, .unset, .unset, .unset, .unset, .unset, .unset, .unset, .unset, .unset, .unset]) rfl k) ?_
  show own_Go p e below s _ _ _ (s₁.setTop (mkF m 21 #[.val (.int p0), .val (.int p1), .val (.int p2), .val (.long p3), .second, .val (.int v1), .val (.int v2), .val (.int (o_irem ((o_iushr p0 (3 : Int32)) &&& (3 : Int32)) (3 : Int32))), .unset, .unset, .unset, .unset, .unset, .unset, .unset, .unset, .unset, .unset, .unset, .unset, .unset, .unset, .unset, .unset, .unset, .unset] []))
  generalize hv3 : (o_irem ((o_iushr p0 (3 : Int32)) &&& (3 : Int32)) (3 : Int32)) = v3
  show own_Go p e below s _ _ _ (s₁.setTop (mkF m 21 #[.val (.int p0), .val (.int p1), .val (.int p2), .val (.long p3), .second, .val (.int v1), .val (.int v2), .val (.int v3), .unset, .unset, .unset, .unset, .unset, .unset, .unset, .unset, .unset, .unset, .unset, .unset, .unset, .unset, .unset, .unset, .unset, .unset] []))
  refine own_via (fun _ k => XS.iloadN X0.here hx rfl (hb hby at_21) rfl k) ?_
  show own_Go p e below s _ _ _ (s₁.setTop (mkF m 22 #[.val (.int p0), .val (.int p1), .val (.int p2), .val (.long p3), .second, .val (.int v1), .val (.int v2), .val (.int v3), .unset, .unset, .unset, .unset, .unset, .unset, .unset, .unset, .unset, .unset, .unset, .unset, .unset, .unset, .unset, .unset, .unset, .unset] [(.int p0)]))
  refine own_via (fun _ k => XS.iconst X0.here hx rfl (hb hby at_22) k) ?_
  show own_Go p e below s _ _ _ (s₁.setTop (mkF m 23 #[.val (.int p0), .val (.int p1), .val (.int p2), .val (.long p3), .second, .val (.int v1), .val (.int v2), .val (.int v3), .unset, .unset, .unset, .unset, .unset, .unset, .unset, .unset, .unset, .unset, .unset, .unset, .unset, .unset, .unset, .unset, .unset, .unset] [(.int (5 : Int32)), (.int p0)]))
  refine own_via (fun _ k => XS.iushr X0.here hx rfl (hb hby at_23) rfl k) ?_
  show own_Go p e below s _ _ _ (s₁.setTop (mkF m 24 #[.val (.int p0), .val (.int p1), .val (.int p2), .val (.long p3), .second, .val (.int v1), .val (.int v2), .val (.int v3), .unset, .unset, .unset, .unset, .unset, .unset, .unset, .unset, .unset, .unset, .unset, .unset, .unset, .unset, .unset, .unset, .unset, .unset] [(.int (o_iushr p0 (5 : Int32)))]))
  refine own_via (fun _ k => XS.iconst X0.here hx rfl (hb hby at_24) k) ?_
  show own_Go p e below s _ _ _ (s₁.setTop (mkF m 25 #[.val (.int p0), .val (.int p1), .val (.int p2), .val (.long p3), .second, .val (.int v1), .val (.int v2), .val (.int v3), .unset, .unset, .unset, .unset, .unset, .unset, .unset, .unset, .unset, .unset, .unset, .unset, .unset, .unset, .unset, .unset, .unset, .unset] [(.int (3 : Int32)), (.int (o_iushr p0 (5 : Int32)))]))
  refine own_via (fun _ k => XS.iand X0.here hx rfl (hb hby at_25) rfl k) ?_
  show own_Go p e below s _ _ _ (s₁.setTop (mkF m 26 #[.val (.int p0), .val (.int p1), .val (.int p2), .val (.long p3), .second, .val (.int v1), .val (.int v2), .val (.int v3), .unset, .unset, .unset, .unset, .unset, .unset, .unset, .unset, .unset, .unset, .unset, .unset, .unset, .unset, .unset, .unset, .unset, .unset] [(.int ((o_iushr p0 (5 : Int32)) &&& (3 : Int32)))]))
  refine own_via (fun _ k => XS.istore X0.here hx rfl (hb hby at_26) rfl (l' := #[.val (.int p0), .val (.int p1), .val (.int p2), .val (.long p3), .second, .val (.int v1), .val (.int v2), .val (.int v3), .val (.int ((o_iushr p0 (5 : Int32)) &&& (3 : Int32))), .unset, .unset, .unset, .unset, .unset, .unset, .unset, .unset, .unset, .unset, .unset, .unset, .unset, .unset, .unset, .unset, .unset]) rfl k) ?_
  show own_Go p e below s _ _ _ (s₁.setTop (mkF m 28 #[.val (.int p0), .val (.int p1), .val (.int p2), .val (.long p3), .second, .val (.int v1), .val (.int v2), .val (.int v3), .val (.int ((o_iushr p0 (5 : Int32)) &&& (3 : Int32))), .unset, .unset, .unset, .unset, .unset, .unset, .unset, .unset, .unset, .unset, .unset, .unset, .unset, .unset, .unset, .unset, .unset] []))
  generalize hv4 : ((o_iushr p0 (5 : Int32)) &&& (3 : Int32)) = v4
  show own_Go p e below s _ _ _ (s₁.setTop (mkF m 28 #[.val (.int p0), .val (.int p1), .val (.int p2), .val (.long p3), .second, .val (.int v1), .val (.int v2), .val (.int v3), .val (.int v4), .unset, .unset, .unset, .unset, .unset, .unset, .unset, .unset, .unset, .unset, .unset, .unset, .unset, .unset, .unset, .unset, .unset] []))
  refine own_via (fun _ k => XS.iloadN X0.here hx rfl (hb hby at_28) rfl k) ?_
  show own_Go p e below s _ _ _ (s₁.setTop (mkF m 29 #[.val (.int p0), .val (.int p1), .val (.int p2), .val (.long p3), .second, .val (.int v1), .val (.int v2), .val (.int v3), .val (.int v4), .unset, .unset, .unset, .unset, .unset, .unset, .unset, .unset, .unset, .unset, .unset, .unset, .unset, .unset, .unset, .unset, .unset] [(.int p0)]))
  refine own_via (fun _ k => XS.bipush X0.here hx rfl (hb hby at_29) k) ?_
  show own_Go p e below s _ _ _ (s₁.setTop (mkF m 31 #[.val (.int p0), .val (.int p1), .val (.int p2), .val (.long p3), .second, .val (.int v1), .val (.int v2), .val (.int v3), .val (.int v4), .unset, .unset, .unset, .unset, .unset, .unset, .unset, .unset, .unset, .unset, .unset, .unset, .unset, .unset, .unset, .unset, .unset] [(.int (7 : Int32)), (.int p0)]))
  refine own_via (fun _ k => XS.iushr X0.here hx rfl (hb hby at_31) rfl k) ?_
  show own_Go p e below s _ _ _ (s₁.setTop (mkF m 32 #[.val (.int p0), .val (.int p1), .val (.int p2), .val (.long p3), .second, .val (.int v1), .val (.int v2), .val (.int v3), .val (.int v4), .unset, .unset, .unset, .unset, .unset, .unset, .unset, .unset, .unset, .unset, .unset, .unset, .unset, .unset, .unset, .unset, .unset] [(.int (o_iushr p0 (7 : Int32)))]))
  refine own_via (fun _ k => XS.iconst X0.here hx rfl (hb hby at_32) k) ?_
  show own_Go p e below s _ _ _ (s₁.setTop (mkF m 33 #[.val (.int p0), .val (.int p1), .val (.int p2), .val (.long p3), .second, .val (.int v1), .val (.int v2), .val (.int v3), .val (.int v4), .unset, .unset, .unset, .unset, .unset, .unset, .unset, .unset, .unset, .unset, .unset, .unset, .unset, .unset, .unset, .unset, .unset] [(.int (1 : Int32)), (.int (o_iushr p0 (7 : Int32)))]))
  refine own_via (fun _ k => XS.iand X0.here hx rfl (hb hby at_33) rfl k) ?_
  show own_Go p e below s _ _ _ (s₁.setTop (mkF m 34 #[.val (.int p0), .val (.int p1), .val (.int p2), .val (.long p3), .second, .val (.int v1), .val (.int v2), .val (.int v3), .val (.int v4), .unset, .unset, .unset, .unset, .unset, .unset, .unset, .unset, .unset, .unset, .unset, .unset, .unset, .unset, .unset, .unset, .unset] [(.int ((o_iushr p0 (7 : Int32)) &&& (1 : Int32)))]))
  refine own_via (fun _ k => XS.istore X0.here hx rfl (hb hby at_34) rfl (l' := #[.val (.int p0), .val (.int p1), .val (.int p2), .val (.long p3), .second, .val (.int v1), .val (.int v2), .val (.int v3), .val (.int v4), .val (.int ((o_iushr p0 (7 : Int32)) &&& (1 : Int32))), .unset, .unset, .unset, .unset, .unset, .unset, .unset, .unset, .unset, .unset, .unset, .unset, .unset, .unset, .unset, .unset]) rfl k) ?_
  show own_Go p e below s _ _ _ (s₁.setTop (mkF m 36 #[.val (.int p0), .val (.int p1), .val (.int p2), .val (.long p3), .second, .val (.int v1), .val (.int v2), .val (.int v3), .val (.int v4), .val (.int ((o_iushr p0 (7 : Int32)) &&& (1 : Int32))), .unset, .unset, .unset, .unset, .unset, .unset, .unset, .unset, .unset, .unset, .unset, .unset, .unset, .unset, .unset, .unset] []))
  generalize hv5 : ((o_iushr p0 (7 : Int32)) &&& (1 : Int32)) = v5
  show own_Go p e below s _ _ _ (s₁.setTop (mkF m 36 #[.val (.int p0), .val (.int p1), .val (.int p2), .val (.long p3), .second, .val (.int v1), .val (.int v2), .val (.int v3), .val (.int v4), .val (.int v5), .unset, .unset, .unset, .unset, .unset, .unset, .unset, .unset, .unset, .unset, .unset, .unset, .unset, .unset, .unset, .unset] []))
  refine own_via (fun _ k => XS.iloadN X0.here hx rfl (hb hby at_36) rfl k) ?_
  show own_Go p e below s _ _ _ (s₁.setTop (mkF m 37 #[.val (.int p0), .val (.int p1), .val (.int p2), .val (.long p3), .second, .val (.int v1), .val (.int v2), .val (.int v3), .val (.int v4), .val (.int v5), .unset, .unset, .unset, .unset, .unset, .unset, .unset, .unset, .unset, .unset, .unset, .unset, .unset, .unset, .unset, .unset] [(.int p0)]))
  refine own_via (fun _ k => XS.bipush X0.here hx rfl (hb hby at_37) k) ?_
  show own_Go p e below s _ _ _ (s₁.setTop (mkF m 39 #[.val (.int p0), .val (.int p1), .val (.int p2), .val (.long p3), .second, .val (.int v1), .val (.int v2), .val (.int v3), .val (.int v4), .val (.int v5), .unset, .unset, .unset, .unset, .unset, .unset, .unset, .unset, .unset, .unset, .unset, .unset, .unset, .unset, .unset, .unset] [(.int (8 : Int32)), (.int p0)]))
  refine own_via (fun _ k => XS.iushr X0.here hx rfl (hb hby at_39) rfl k) ?_
  show own_Go p e below s _ _ _ (s₁.setTop (mkF m 40 #[.val (.int p0), .val (.int p1), .val (.int p2), .val (.long p3), .second, .val (.int v1), .val (.int v2), .val (.int v3), .val (.int v4), .val (.int v5), .unset, .unset, .unset, .unset, .unset, .unset, .unset, .unset, .unset, .unset, .unset, .unset, .unset, .unset, .unset, .unset] [(.int (o_iushr p0 (8 : Int32)))]))
  refine own_via (fun _ k => XS.iconst X0.here hx rfl (hb hby at_40) k) ?_
  show own_Go p e below s _ _ _ (s₁.setTop (mkF m 41 #[.val (.int p0), .val (.int p1), .val (.int p2), .val (.long p3), .second, .val (.int v1), .val (.int v2), .val (.int v3), .val (.int v4), .val (.int v5), .unset, .unset, .unset, .unset, .unset, .unset, .unset, .unset, .unset, .unset, .unset, .unset, .unset, .unset, .unset, .unset] [(.int (3 : Int32)), (.int (o_iushr p0 (8 : Int32)))]))
  refine own_via (fun _ k => XS.iand X0.here hx rfl (hb hby at_41) rfl k) ?_
  show own_Go p e below s _ _ _ (s₁.setTop (mkF m 42 #[.val (.int p0), .val (.int p1), .val (.int p2), .val (.long p3), .second, .val (.int v1), .val (.int v2), .val (.int v3), .val (.int v4), .val (.int v5), .unset, .unset, .unset, .unset, .unset, .unset, .unset, .unset, .unset, .unset, .unset, .unset, .unset, .unset, .unset, .unset] [(.int ((o_iushr p0 (8 : Int32)) &&& (3 : Int32)))]))
  refine own_via (fun _ k => XS.istore X0.here hx rfl (hb hby at_42) rfl (l' := #[.val (.int p0), .val (.int p1), .val (.int p2), .val (.long p3), .second, .val (.int v1), .val (.int v2), .val (.int v3), .val (.int v4), .val (.int v5), .val (.int ((o_iushr p0 (8 : Int32)) &&& (3 : Int32))), .unset, .unset, .unset, .unset, .unset, .unset, .unset, .unset, .unset, .unset, .unset, .unset, .unset, .unset, .unset]) rfl k) ?_
  show own_Go p e below s _ _ _ (s₁.setTop (mkF m 44 #[.val (.int p0), .val (.int p1), .val (.int p2), .val (.long p3), .second, .val (.int v1), .val (.int v2), .val (.int v3), .val (.int v4), .val (.int v5), .val (.int ((o_iushr p0 (8 : Int32)) &&& (3 : Int32))), .unset, .unset, .unset, .unset, .unset, .unset, .unset, .unset, .unset, .unset, .unset, .unset, .unset, .unset, .unset] []))
  generalize hv6 : ((o_iushr p0 (8 : Int32)) &&& (3 : Int32)) = v6
  show own_Go p e below s _ _ _ (s₁.setTop (mkF m 44 #[.val (.int p0), .val (.int p1), .val (.int p2), .val (.long p3), .second, .val (.int v1), .val (.int v2), .val (.int v3), .val (.int v4), .val (.int v5), .val (.int v6), .unset, .unset, .unset, .unset, .unset, .unset, .unset, .unset, .unset, .unset, .unset, .unset, .unset, .unset, .unset] []))
  refine own_via (fun _ k => XS.bipush X0.here hx rfl (hb hby at_44) k) ?_
  show own_Go p e below s _ _ _ (s₁.setTop (mkF m 46 #[.val (.int p0), .val (.int p1), .val (.int p2), .val (.long p3), .second, .val (.int v1), .val (.int v2), .val (.int v3), .val (.int v4), .val (.int v5), .val (.int v6), .unset, .unset, .unset, .unset, .unset, .unset, .unset, .unset, .unset, .unset, .unset, .unset, .unset, .unset, .unset] [(.int (16 : Int32))]))
  obtain ⟨T7, h7, k7, X7, e7, E7, A7, st7⟩ := newP X0 hx hZ (hw _ (List.mem_of_getElem? (i := 0) rfl)) e0 (g := (mkF m 46 #[.val (.int p0), .val (.int p1), .val (.int p2), .val (.long p3), .second, .val (.int v1), .val (.int v2), .val (.int v3), .val (.int v4), .val (.int v5), .val (.int v6), .unset, .unset, .unset, .unset, .unset, .unset, .unset, .unset, .unset, .unset, .unset, .unset, .unset, .unset, .unset] [(.int (16 : Int32))])) rfl (hb hby at_46) rfl (by decide) (cap := 16) (by decide) (by decide) (by decide) (by decide)
  obtain ⟨b7, gg7⟩ : ∃ z, z = h0.size := ⟨_, rfl⟩
  rw [← gg7] at A7 st7
  have g_b7 : n0 ≤ b7 := Nat.le_trans Z0 (Nat.le_of_eq gg7.symm)
  have Z7 : n0 ≤ h7.size := Nat.le_trans Z0 E7.1
  have V7 : Arv Z h7 b7 k7 .byte (16 : Int32) [(.int (0 : Int32)), (.int (0 : Int32)), (.int (0 : Int32)), (.int (0 : Int32)), (.int (0 : Int32)), (.int (0 : Int32)), (.int (0 : Int32)), (.int (0 : Int32)), (.int (0 : Int32)), (.int (0 : Int32)), (.int (0 : Int32)), (.int (0 : Int32)), (.int (0 : Int32)), (.int (0 : Int32)), (.int (0 : Int32)), (.int (0 : Int32))] (.int (0 : Int32)) := (Arv.new A7 (by decide)).pad (pad_rep [] (.int (0 : Int32)) 16)
  refine own_via st7 ?_
  show own_Go p e below s _ _ _ (T7.setTop (mkF m 48 #[.val (.int p0), .val (.int p1), .val (.int p2), .val (.long p3), .second, .val (.int v1), .val (.int v2), .val (.int v3), .val (.int v4), .val (.int v5), .val (.int v6), .unset, .unset, .unset, .unset, .unset, .unset, .unset, .unset, .unset, .unset, .unset, .unset, .unset, .unset, .unset] [(.ref b7)]))
  refine own_via (fun _ k => XS.astore X7.here hx rfl (hb hby at_48) rfl rfl (l' := #[.val (.int p0), .val (.int p1), .val (.int p2), .val (.long p3), .second, .val (.int v1), .val (.int v2), .val (.int v3), .val (.int v4), .val (.int v5), .val (.int v6), .val (.ref b7), .unset, .unset, .unset, .unset, .unset, .unset, .unset, .unset, .unset, .unset, .unset, .unset, .unset, .unset]) rfl k) ?_
  show own_Go p e below s _ _ _ (T7.setTop (mkF m 50 #[.val (.int p0), .val (.int p1), .val (.int p2), .val (.long p3), .second, .val (.int v1), .val (.int v2), .val (.int v3), .val (.int v4), .val (.int v5), .val (.int v6), .val (.ref b7), .unset, .unset, .unset, .unset, .unset, .unset, .unset, .unset, .unset, .unset, .unset, .unset, .unset, .unset] []))
  refine own_via (fun _ k => XS.iconst X7.here hx rfl (hb hby at_50) k) ?_
  show own_Go p e below s _ _ _ (T7.setTop (mkF m 51 #[.val (.int p0), .val (.int p1), .val (.int p2), .val (.long p3), .second, .val (.int v1), .val (.int v2), .val (.int v3), .val (.int v4), .val (.int v5), .val (.int v6), .val (.ref b7), .unset, .unset, .unset, .unset, .unset, .unset, .unset, .unset, .unset, .unset, .unset, .unset, .unset, .unset] [(.int (0 : Int32))]))
  refine own_via (fun _ k => XS.istore X7.here hx rfl (hb hby at_51) rfl (l' := #[.val (.int p0), .val (.int p1), .val (.int p2), .val (.long p3), .second, .val (.int v1), .val (.int v2), .val (.int v3), .val (.int v4), .val (.int v5), .val (.int v6), .val (.ref b7), .val (.int (0 : Int32)), .unset, .unset, .unset, .unset, .unset, .unset, .unset, .unset, .unset, .unset, .unset, .unset, .unset]) rfl k) ?_
  show own_Go p e below s _ _ _ (T7.setTop (mkF m 53 #[.val (.int p0), .val (.int p1), .val (.int p2), .val (.long p3), .second, .val (.int v1), .val (.int v2), .val (.int v3), .val (.int v4), .val (.int v5), .val (.int v6), .val (.ref b7), .val (.int (0 : Int32)), .unset, .unset, .unset, .unset, .unset, .unset, .unset, .unset, .unset, .unset, .unset, .unset, .unset] []))
  obtain ⟨u0, hl1, VU0⟩ : ∃ us : List Int32, us.length = 16 ∧ Arv Z h7 b7 k7 .byte (16 : Int32) (us.map Value.int) (.int (0 : Int32)) := ⟨[(0 : Int32), (0 : Int32), (0 : Int32), (0 : Int32), (0 : Int32), (0 : Int32), (0 : Int32), (0 : Int32), (0 : Int32), (0 : Int32), (0 : Int32), (0 : Int32), (0 : Int32), (0 : Int32), (0 : Int32), (0 : Int32)], rfl, V7⟩
  show own_Go p e below s _ _ _ (T7.setTop (mkF m 53 #[.val (.int p0), .val (.int p1), .val (.int p2), .val (.long p3), .second, .val (.int v1), .val (.int v2), .val (.int v3), .val (.int v4), .val (.int v5), .val (.int v6), .val (.ref b7), .val (.int (Nat.toInt32 0)), .unset, .unset, .unset, .unset, .unset, .unset, .unset, .unset, .unset, .unset, .unset, .unset, .unset] []))
  have jn1 : ∀ (u1 : List Int32) (i1 : Nat) (T8 : State) (lo8 : List Loc) (h8 : Heap), Stand p l e room_1 s m #[(.int p0), (.int p1), (.int p2), (.long p3)] below meth c T8 lo8 1 16 → T8.heap = h8 → Fr n0 lo8 → n0 ≤ h8.size → Arv Z h8 b7 k7 .byte (16 : Int32) (u1.map Value.int) (.int (0 : Int32)) → own_uu u1 (v1 = (1 : Int32)) u0 0 (nar .byte (own_jb p3 (0 : Int32))) → own_ii i1 (v1 = (1 : Int32)) 0 → u1.length = 16 → i1 ≤ 1 → own_Go p e below s (Q0 Z p0 p1 p2 p3 h0 n0) room_1.cells room_1.slots (T8.setTop (mkF m 72 #[.val (.int p0), .val (.int p1), .val (.int p2), .val (.long p3), .second, .val (.int v1), .val (.int v2), .val (.int v3), .val (.int v4), .val (.int v5), .val (.int v6), .val (.ref b7), .val (.int (Nat.toInt32 i1)), .unset, .unset, .unset, .unset, .unset, .unset, .unset, .unset, .unset, .unset, .unset, .unset, .unset] [])) := by
    intro u1 i1 T8 lo8 h8 X8 e8 N8 Z8 F9 hu1 hi1 hl2 hn1
    show own_Go p e below s _ _ _ (T8.setTop (mkF m 72 #[.val (.int p0), .val (.int p1), .val (.int p2), .val (.long p3), .second, .val (.int v1), .val (.int v2), .val (.int v3), .val (.int v4), .val (.int v5), .val (.int v6), .val (.ref b7), .val (.int (Nat.toInt32 i1)), .unset, .unset, .unset, .unset, .unset, .unset, .unset, .unset, .unset, .unset, .unset, .unset, .unset] []))
    refine own_via (fun _ k => XS.iload X8.here hx rfl (hb hby at_72) rfl k) ?_
    show own_Go p e below s _ _ _ (T8.setTop (mkF m 74 #[.val (.int p0), .val (.int p1), .val (.int p2), .val (.long p3), .second, .val (.int v1), .val (.int v2), .val (.int v3), .val (.int v4), .val (.int v5), .val (.int v6), .val (.ref b7), .val (.int (Nat.toInt32 i1)), .unset, .unset, .unset, .unset, .unset, .unset, .unset, .unset, .unset, .unset, .unset, .unset, .unset] [(.int (Nat.toInt32 i1))]))
    refine own_via (fun _ k => XS.istore X8.here hx rfl (hb hby at_74) rfl (l' := #[.val (.int p0), .val (.int p1), .val (.int p2), .val (.long p3), .second, .val (.int v1), .val (.int v2), .val (.int v3), .val (.int v4), .val (.int v5), .val (.int v6), .val (.ref b7), .val (.int (Nat.toInt32 i1)), .val (.int (Nat.toInt32 i1)), .unset, .unset, .unset, .unset, .unset, .unset, .unset, .unset, .unset, .unset, .unset, .unset]) rfl k) ?_
    show own_Go p e below s _ _ _ (T8.setTop (mkF m 76 #[.val (.int p0), .val (.int p1), .val (.int p2), .val (.long p3), .second, .val (.int v1), .val (.int v2), .val (.int v3), .val (.int v4), .val (.int v5), .val (.int v6), .val (.ref b7), .val (.int (Nat.toInt32 i1)), .val (.int (Nat.toInt32 i1)), .unset, .unset, .unset, .unset, .unset, .unset, .unset, .unset, .unset, .unset, .unset, .unset] []))
    have jn2 : ∀ (u2 : List Int32) (i2 : Nat) (T10 : State) (lo10 : List Loc) (h10 : Heap), Stand p l e room_1 s m #[(.int p0), (.int p1), (.int p2), (.long p3)] below meth c T10 lo10 1 16 → T10.heap = h10 → Fr n0 lo10 → n0 ≤ h10.size → Arv Z h10 b7 k7 .byte (16 : Int32) (u2.map Value.int) (.int (0 : Int32)) → own_uu u2 ((0 : Int32) < v2) u1 i1 (nar .byte (own_bb p1 (0 : Int32))) → own_ii i2 ((0 : Int32) < v2) i1 → u2.length = 16 → i2 ≤ 2 → own_Go p e below s (Q0 Z p0 p1 p2 p3 h0 n0) room_1.cells room_1.slots (T10.setTop (mkF m 94 #[.val (.int p0), .val (.int p1), .val (.int p2), .val (.long p3), .second, .val (.int v1), .val (.int v2), .val (.int v3), .val (.int v4), .val (.int v5), .val (.int v6), .val (.ref b7), .val (.int (Nat.toInt32 i2)), .val (.int (Nat.toInt32 i1)), .unset, .unset, .unset, .unset, .unset, .unset, .unset, .unset, .unset, .unset, .unset, .unset] [])) := by
      intro u2 i2 T10 lo10 h10 X10 e10 N10 Z10 F11 hu2 hi2 hl3 hn2
      show own_Go p e below s _ _ _ (T10.setTop (mkF m 94 #[.val (.int p0), .val (.int p1), .val (.int p2), .val (.long p3), .second, .val (.int v1), .val (.int v2), .val (.int v3), .val (.int v4), .val (.int v5), .val (.int v6), .val (.ref b7), .val (.int (Nat.toInt32 i2)), .val (.int (Nat.toInt32 i1)), .unset, .unset, .unset, .unset, .unset, .unset, .unset, .unset, .unset, .unset, .unset, .unset] []))
      have jn3 : ∀ (u3 : List Int32) (i3 : Nat) (T12 : State) (lo12 : List Loc) (h12 : Heap), Stand p l e room_1 s m #[(.int p0), (.int p1), (.int p2), (.long p3)] below meth c T12 lo12 1 16 → T12.heap = h12 → Fr n0 lo12 → n0 ≤ h12.size → Arv Z h12 b7 k7 .byte (16 : Int32) (u3.map Value.int) (.int (0 : Int32)) → own_uu u3 ((1 : Int32) < v2) u2 i2 (nar .byte (own_bb p1 (1 : Int32))) → own_ii i3 ((1 : Int32) < v2) i2 → u3.length = 16 → i3 ≤ 3 → own_Go p e below s (Q0 Z p0 p1 p2 p3 h0 n0) room_1.cells room_1.slots (T12.setTop (mkF m 113 #[.val (.int p0), .val (.int p1), .val (.int p2), .val (.long p3), .second, .val (.int v1), .val (.int v2), .val (.int v3), .val (.int v4), .val (.int v5), .val (.int v6), .val (.ref b7), .val (.int (Nat.toInt32 i3)), .val (.int (Nat.toInt32 i1)), .unset, .unset, .unset, .unset, .unset, .unset, .unset, .unset, .unset, .unset, .unset, .unset] [])) := by
        intro u3 i3 T12 lo12 h12 X12 e12 N12 Z12 F13 hu3 hi3 hl4 hn3
        show own_Go p e below s _ _ _ (T12.setTop (mkF m 113 #[.val (.int p0), .val (.int p1), .val (.int p2), .val (.long p3), .second, .val (.int v1), .val (.int v2), .val (.int v3), .val (.int v4), .val (.int v5), .val (.int v6), .val (.ref b7), .val (.int (Nat.toInt32 i3)), .val (.int (Nat.toInt32 i1)), .unset, .unset, .unset, .unset, .unset, .unset, .unset, .unset, .unset, .unset, .unset, .unset] []))
        have jn4 : ∀ (u4 : List Int32) (i4 : Nat) (T14 : State) (lo14 : List Loc) (h14 : Heap), Stand p l e room_1 s m #[(.int p0), (.int p1), (.int p2), (.long p3)] below meth c T14 lo14 1 16 → T14.heap = h14 → Fr n0 lo14 → n0 ≤ h14.size → Arv Z h14 b7 k7 .byte (16 : Int32) (u4.map Value.int) (.int (0 : Int32)) → own_uu u4 ((2 : Int32) < v2) u3 i3 (nar .byte (own_bb p1 (2 : Int32))) → own_ii i4 ((2 : Int32) < v2) i3 → u4.length = 16 → i4 ≤ 4 → own_Go p e below s (Q0 Z p0 p1 p2 p3 h0 n0) room_1.cells room_1.slots (T14.setTop (mkF m 132 #[.val (.int p0), .val (.int p1), .val (.int p2), .val (.long p3), .second, .val (.int v1), .val (.int v2), .val (.int v3), .val (.int v4), .val (.int v5), .val (.int v6), .val (.ref b7), .val (.int (Nat.toInt32 i4)), .val (.int (Nat.toInt32 i1)), .unset, .unset, .unset, .unset, .unset, .unset, .unset, .unset, .unset, .unset, .unset, .unset] [])) := by
          intro u4 i4 T14 lo14 h14 X14 e14 N14 Z14 F15 hu4 hi4 hl5 hn4
          show own_Go p e below s _ _ _ (T14.setTop (mkF m 132 #[.val (.int p0), .val (.int p1), .val (.int p2), .val (.long p3), .second, .val (.int v1), .val (.int v2), .val (.int v3), .val (.int v4), .val (.int v5), .val (.int v6), .val (.ref b7), .val (.int (Nat.toInt32 i4)), .val (.int (Nat.toInt32 i1)), .unset, .unset, .unset, .unset, .unset, .unset, .unset, .unset, .unset, .unset, .unset, .unset] []))
          refine own_via (fun _ k => XS.iload X14.here hx rfl (hb hby at_132) rfl k) ?_
          show own_Go p e below s _ _ _ (T14.setTop (mkF m 134 #[.val (.int p0), .val (.int p1), .val (.int p2), .val (.long p3), .second, .val (.int v1), .val (.int v2), .val (.int v3), .val (.int v4), .val (.int v5), .val (.int v6), .val (.ref b7), .val (.int (Nat.toInt32 i4)), .val (.int (Nat.toInt32 i1)), .unset, .unset, .unset, .unset, .unset, .unset, .unset, .unset, .unset, .unset, .unset, .unset] [(.int (Nat.toInt32 i4))]))
          refine own_via (fun _ k => XS.istore X14.here hx rfl (hb hby at_134) rfl (l' := #[.val (.int p0), .val (.int p1), .val (.int p2), .val (.long p3), .second, .val (.int v1), .val (.int v2), .val (.int v3), .val (.int v4), .val (.int v5), .val (.int v6), .val (.ref b7), .val (.int (Nat.toInt32 i4)), .val (.int (Nat.toInt32 i1)), .val (.int (Nat.toInt32 i4)), .unset, .unset, .unset, .unset, .unset, .unset, .unset, .unset, .unset, .unset, .unset]) rfl k) ?_
          show own_Go p e below s _ _ _ (T14.setTop (mkF m 136 #[.val (.int p0), .val (.int p1), .val (.int p2), .val (.long p3), .second, .val (.int v1), .val (.int v2), .val (.int v3), .val (.int v4), .val (.int v5), .val (.int v6), .val (.ref b7), .val (.int (Nat.toInt32 i4)), .val (.int (Nat.toInt32 i1)), .val (.int (Nat.toInt32 i4)), .unset, .unset, .unset, .unset, .unset, .unset, .unset, .unset, .unset, .unset, .unset] []))
          have jn5 : ∀ (u5 : List Int32) (i5 : Nat) (T16 : State) (lo16 : List Loc) (h16 : Heap), Stand p l e room_1 s m #[(.int p0), (.int p1), (.int p2), (.long p3)] below meth c T16 lo16 1 16 → T16.heap = h16 → Fr n0 lo16 → n0 ≤ h16.size → Arv Z h16 b7 k7 .byte (16 : Int32) (u5.map Value.int) (.int (0 : Int32)) → own_uu u5 ((0 : Int32) < v3) u4 i4 (nar .byte (own_fb p2 (0 : Int32))) → own_ii i5 ((0 : Int32) < v3) i4 → u5.length = 16 → i5 ≤ 5 → own_Go p e below s (Q0 Z p0 p1 p2 p3 h0 n0) room_1.cells room_1.slots (T16.setTop (mkF m 154 #[.val (.int p0), .val (.int p1), .val (.int p2), .val (.long p3), .second, .val (.int v1), .val (.int v2), .val (.int v3), .val (.int v4), .val (.int v5), .val (.int v6), .val (.ref b7), .val (.int (Nat.toInt32 i5)), .val (.int (Nat.toInt32 i1)), .val (.int (Nat.toInt32 i4)), .unset, .unset, .unset, .unset, .unset, .unset, .unset, .unset, .unset, .unset, .unset] [])) := by
            intro u5 i5 T16 lo16 h16 X16 e16 N16 Z16 F17 hu5 hi5 hl6 hn5
            show own_Go p e below s _ _ _ (T16.setTop (mkF m 154 #[.val (.int p0), .val (.int p1), .val (.int p2), .val (.long p3), .second, .val (.int v1), .val (.int v2), .val (.int v3), .val (.int v4), .val (.int v5), .val (.int v6), .val (.ref b7), .val (.int (Nat.toInt32 i5)), .val (.int (Nat.toInt32 i1)), .val (.int (Nat.toInt32 i4)), .unset, .unset, .unset, .unset, .unset, .unset, .unset, .unset, .unset, .unset, .unset] []))
            have jn6 : ∀ (u6 : List Int32) (i6 : Nat) (T18 : State) (lo18 : List Loc) (h18 : Heap), Stand p l e room_1 s m #[(.int p0), (.int p1), (.int p2), (.long p3)] below meth c T18 lo18 1 16 → T18.heap = h18 → Fr n0 lo18 → n0 ≤ h18.size → Arv Z h18 b7 k7 .byte (16 : Int32) (u6.map Value.int) (.int (0 : Int32)) → own_uu u6 ((1 : Int32) < v3) u5 i5 (nar .byte (own_fb p2 (1 : Int32))) → own_ii i6 ((1 : Int32) < v3) i5 → u6.length = 16 → i6 ≤ 6 → own_Go p e below s (Q0 Z p0 p1 p2 p3 h0 n0) room_1.cells room_1.slots (T18.setTop (mkF m 173 #[.val (.int p0), .val (.int p1), .val (.int p2), .val (.long p3), .second, .val (.int v1), .val (.int v2), .val (.int v3), .val (.int v4), .val (.int v5), .val (.int v6), .val (.ref b7), .val (.int (Nat.toInt32 i6)), .val (.int (Nat.toInt32 i1)), .val (.int (Nat.toInt32 i4)), .unset, .unset, .unset, .unset, .unset, .unset, .unset, .unset, .unset, .unset, .unset] [])) := by
              intro u6 i6 T18 lo18 h18 X18 e18 N18 Z18 F19 hu6 hi6 hl7 hn6
              show own_Go p e below s _ _ _ (T18.setTop (mkF m 173 #[.val (.int p0), .val (.int p1), .val (.int p2), .val (.long p3), .second, .val (.int v1), .val (.int v2), .val (.int v3), .val (.int v4), .val (.int v5), .val (.int v6), .val (.ref b7), .val (.int (Nat.toInt32 i6)), .val (.int (Nat.toInt32 i1)), .val (.int (Nat.toInt32 i4)), .unset, .unset, .unset, .unset, .unset, .unset, .unset, .unset, .unset, .unset, .unset] []))
              refine own_via (fun _ k => XS.iload X18.here hx rfl (hb hby at_173) rfl k) ?_
              show own_Go p e below s _ _ _ (T18.setTop (mkF m 175 #[.val (.int p0), .val (.int p1), .val (.int p2), .val (.long p3), .second, .val (.int v1), .val (.int v2), .val (.int v3), .val (.int v4), .val (.int v5), .val (.int v6), .val (.ref b7), .val (.int (Nat.toInt32 i6)), .val (.int (Nat.toInt32 i1)), .val (.int (Nat.toInt32 i4)), .unset, .unset, .unset, .unset, .unset, .unset, .unset, .unset, .unset, .unset, .unset] [(.int (Nat.toInt32 i6))]))
              refine own_via (fun _ k => XS.istore X18.here hx rfl (hb hby at_175) rfl (l' := #[.val (.int p0), .val (.int p1), .val (.int p2), .val (.long p3), .second, .val (.int v1), .val (.int v2), .val (.int v3), .val (.int v4), .val (.int v5), .val (.int v6), .val (.ref b7), .val (.int (Nat.toInt32 i6)), .val (.int (Nat.toInt32 i1)), .val (.int (Nat.toInt32 i4)), .val (.int (Nat.toInt32 i6)), .unset, .unset, .unset, .unset, .unset, .unset, .unset, .unset, .unset, .unset]) rfl k) ?_
              show own_Go p e below s _ _ _ (T18.setTop (mkF m 177 #[.val (.int p0), .val (.int p1), .val (.int p2), .val (.long p3), .second, .val (.int v1), .val (.int v2), .val (.int v3), .val (.int v4), .val (.int v5), .val (.int v6), .val (.ref b7), .val (.int (Nat.toInt32 i6)), .val (.int (Nat.toInt32 i1)), .val (.int (Nat.toInt32 i4)), .val (.int (Nat.toInt32 i6)), .unset, .unset, .unset, .unset, .unset, .unset, .unset, .unset, .unset, .unset] []))
              have jn7 : ∀ (u7 : List Int32) (i7 : Nat) (T20 : State) (lo20 : List Loc) (h20 : Heap), Stand p l e room_1 s m #[(.int p0), (.int p1), (.int p2), (.long p3)] below meth c T20 lo20 1 16 → T20.heap = h20 → Fr n0 lo20 → n0 ≤ h20.size → Arv Z h20 b7 k7 .byte (16 : Int32) (u7.map Value.int) (.int (0 : Int32)) → own_uu u7 ((0 : Int32) < v4) u6 i6 (nar .byte (own_bb p1 (4 : Int32))) → own_ii i7 ((0 : Int32) < v4) i6 → u7.length = 16 → i7 ≤ 7 → own_Go p e below s (Q0 Z p0 p1 p2 p3 h0 n0) room_1.cells room_1.slots (T20.setTop (mkF m 195 #[.val (.int p0), .val (.int p1), .val (.int p2), .val (.long p3), .second, .val (.int v1), .val (.int v2), .val (.int v3), .val (.int v4), .val (.int v5), .val (.int v6), .val (.ref b7), .val (.int (Nat.toInt32 i7)), .val (.int (Nat.toInt32 i1)), .val (.int (Nat.toInt32 i4)), .val (.int (Nat.toInt32 i6)), .unset, .unset, .unset, .unset, .unset, .unset, .unset, .unset, .unset, .unset] [])) := by
                intro u7 i7 T20 lo20 h20 X20 e20 N20 Z20 F21 hu7 hi7 hl8 hn7
                show own_Go p e below s _ _ _ (T20.setTop (mkF m 195 #[.val (.int p0), .val (.int p1), .val (.int p2), .val (.long p3), .second, .val (.int v1), .val (.int v2), .val (.int v3), .val (.int v4), .val (.int v5), .val (.int v6), .val (.ref b7), .val (.int (Nat.toInt32 i7)), .val (.int (Nat.toInt32 i1)), .val (.int (Nat.toInt32 i4)), .val (.int (Nat.toInt32 i6)), .unset, .unset, .unset, .unset, .unset, .unset, .unset, .unset, .unset, .unset] []))
                have jn8 : ∀ (u8 : List Int32) (i8 : Nat) (T22 : State) (lo22 : List Loc) (h22 : Heap), Stand p l e room_1 s m #[(.int p0), (.int p1), (.int p2), (.long p3)] below meth c T22 lo22 1 16 → T22.heap = h22 → Fr n0 lo22 → n0 ≤ h22.size → Arv Z h22 b7 k7 .byte (16 : Int32) (u8.map Value.int) (.int (0 : Int32)) → own_uu u8 ((1 : Int32) < v4) u7 i7 (nar .byte (own_bb p1 (5 : Int32))) → own_ii i8 ((1 : Int32) < v4) i7 → u8.length = 16 → i8 ≤ 8 → own_Go p e below s (Q0 Z p0 p1 p2 p3 h0 n0) room_1.cells room_1.slots (T22.setTop (mkF m 214 #[.val (.int p0), .val (.int p1), .val (.int p2), .val (.long p3), .second, .val (.int v1), .val (.int v2), .val (.int v3), .val (.int v4), .val (.int v5), .val (.int v6), .val (.ref b7), .val (.int (Nat.toInt32 i8)), .val (.int (Nat.toInt32 i1)), .val (.int (Nat.toInt32 i4)), .val (.int (Nat.toInt32 i6)), .unset, .unset, .unset, .unset, .unset, .unset, .unset, .unset, .unset, .unset] [])) := by
                  intro u8 i8 T22 lo22 h22 X22 e22 N22 Z22 F23 hu8 hi8 hl9 hn8
                  show own_Go p e below s _ _ _ (T22.setTop (mkF m 214 #[.val (.int p0), .val (.int p1), .val (.int p2), .val (.long p3), .second, .val (.int v1), .val (.int v2), .val (.int v3), .val (.int v4), .val (.int v5), .val (.int v6), .val (.ref b7), .val (.int (Nat.toInt32 i8)), .val (.int (Nat.toInt32 i1)), .val (.int (Nat.toInt32 i4)), .val (.int (Nat.toInt32 i6)), .unset, .unset, .unset, .unset, .unset, .unset, .unset, .unset, .unset, .unset] []))
                  have jn9 : ∀ (u9 : List Int32) (i9 : Nat) (T24 : State) (lo24 : List Loc) (h24 : Heap), Stand p l e room_1 s m #[(.int p0), (.int p1), (.int p2), (.long p3)] below meth c T24 lo24 1 16 → T24.heap = h24 → Fr n0 lo24 → n0 ≤ h24.size → Arv Z h24 b7 k7 .byte (16 : Int32) (u9.map Value.int) (.int (0 : Int32)) → own_uu u9 ((2 : Int32) < v4) u8 i8 (nar .byte (own_bb p1 (6 : Int32))) → own_ii i9 ((2 : Int32) < v4) i8 → u9.length = 16 → i9 ≤ 9 → own_Go p e below s (Q0 Z p0 p1 p2 p3 h0 n0) room_1.cells room_1.slots (T24.setTop (mkF m 234 #[.val (.int p0), .val (.int p1), .val (.int p2), .val (.long p3), .second, .val (.int v1), .val (.int v2), .val (.int v3), .val (.int v4), .val (.int v5), .val (.int v6), .val (.ref b7), .val (.int (Nat.toInt32 i9)), .val (.int (Nat.toInt32 i1)), .val (.int (Nat.toInt32 i4)), .val (.int (Nat.toInt32 i6)), .unset, .unset, .unset, .unset, .unset, .unset, .unset, .unset, .unset, .unset] [])) := by
                    intro u9 i9 T24 lo24 h24 X24 e24 N24 Z24 F25 hu9 hi9 hl10 hn9
                    show own_Go p e below s _ _ _ (T24.setTop (mkF m 234 #[.val (.int p0), .val (.int p1), .val (.int p2), .val (.long p3), .second, .val (.int v1), .val (.int v2), .val (.int v3), .val (.int v4), .val (.int v5), .val (.int v6), .val (.ref b7), .val (.int (Nat.toInt32 i9)), .val (.int (Nat.toInt32 i1)), .val (.int (Nat.toInt32 i4)), .val (.int (Nat.toInt32 i6)), .unset, .unset, .unset, .unset, .unset, .unset, .unset, .unset, .unset, .unset] []))
                    have jn10 : ∀ (u10 : List Int32) (i10 : Nat) (T26 : State) (lo26 : List Loc) (h26 : Heap), Stand p l e room_1 s m #[(.int p0), (.int p1), (.int p2), (.long p3)] below meth c T26 lo26 1 16 → T26.heap = h26 → Fr n0 lo26 → n0 ≤ h26.size → Arv Z h26 b7 k7 .byte (16 : Int32) (u10.map Value.int) (.int (0 : Int32)) → own_uu u10 (v5 = (1 : Int32)) u9 i9 (13 : Int32) → own_ii i10 (v5 = (1 : Int32)) i9 → u10.length = 16 → i10 ≤ 10 → own_Go p e below s (Q0 Z p0 p1 p2 p3 h0 n0) room_1.cells room_1.slots (T26.setTop (mkF m 250 #[.val (.int p0), .val (.int p1), .val (.int p2), .val (.long p3), .second, .val (.int v1), .val (.int v2), .val (.int v3), .val (.int v4), .val (.int v5), .val (.int v6), .val (.ref b7), .val (.int (Nat.toInt32 i10)), .val (.int (Nat.toInt32 i1)), .val (.int (Nat.toInt32 i4)), .val (.int (Nat.toInt32 i6)), .unset, .unset, .unset, .unset, .unset, .unset, .unset, .unset, .unset, .unset] [])) := by
                      intro u10 i10 T26 lo26 h26 X26 e26 N26 Z26 F27 hu10 hi10 hl11 hn10
                      show own_Go p e below s _ _ _ (T26.setTop (mkF m 250 #[.val (.int p0), .val (.int p1), .val (.int p2), .val (.long p3), .second, .val (.int v1), .val (.int v2), .val (.int v3), .val (.int v4), .val (.int v5), .val (.int v6), .val (.ref b7), .val (.int (Nat.toInt32 i10)), .val (.int (Nat.toInt32 i1)), .val (.int (Nat.toInt32 i4)), .val (.int (Nat.toInt32 i6)), .unset, .unset, .unset, .unset, .unset, .unset, .unset, .unset, .unset, .unset] []))
                      refine own_via (fun _ k => XS.iload X26.here hx rfl (hb hby at_250) rfl k) ?_
                      show own_Go p e below s _ _ _ (T26.setTop (mkF m 252 #[.val (.int p0), .val (.int p1), .val (.int p2), .val (.long p3), .second, .val (.int v1), .val (.int v2), .val (.int v3), .val (.int v4), .val (.int v5), .val (.int v6), .val (.ref b7), .val (.int (Nat.toInt32 i10)), .val (.int (Nat.toInt32 i1)), .val (.int (Nat.toInt32 i4)), .val (.int (Nat.toInt32 i6)), .unset, .unset, .unset, .unset, .unset, .unset, .unset, .unset, .unset, .unset] [(.int (Nat.toInt32 i10))]))
                      refine own_via (fun _ k => XS.istore X26.here hx rfl (hb hby at_252) rfl (l' := #[.val (.int p0), .val (.int p1), .val (.int p2), .val (.long p3), .second, .val (.int v1), .val (.int v2), .val (.int v3), .val (.int v4), .val (.int v5), .val (.int v6), .val (.ref b7), .val (.int (Nat.toInt32 i10)), .val (.int (Nat.toInt32 i1)), .val (.int (Nat.toInt32 i4)), .val (.int (Nat.toInt32 i6)), .val (.int (Nat.toInt32 i10)), .unset, .unset, .unset, .unset, .unset, .unset, .unset, .unset, .unset]) rfl k) ?_
                      show own_Go p e below s _ _ _ (T26.setTop (mkF m 254 #[.val (.int p0), .val (.int p1), .val (.int p2), .val (.long p3), .second, .val (.int v1), .val (.int v2), .val (.int v3), .val (.int v4), .val (.int v5), .val (.int v6), .val (.ref b7), .val (.int (Nat.toInt32 i10)), .val (.int (Nat.toInt32 i1)), .val (.int (Nat.toInt32 i4)), .val (.int (Nat.toInt32 i6)), .val (.int (Nat.toInt32 i10)), .unset, .unset, .unset, .unset, .unset, .unset, .unset, .unset, .unset] []))
                      have jn11 : ∀ (u11 : List Int32) (i11 : Nat) (T28 : State) (lo28 : List Loc) (h28 : Heap), Stand p l e room_1 s m #[(.int p0), (.int p1), (.int p2), (.long p3)] below meth c T28 lo28 1 16 → T28.heap = h28 → Fr n0 lo28 → n0 ≤ h28.size → Arv Z h28 b7 k7 .byte (16 : Int32) (u11.map Value.int) (.int (0 : Int32)) → own_uu u11 ((0 : Int32) < v6) u10 i10 (nar .byte (own_jb p3 (1 : Int32))) → own_ii i11 ((0 : Int32) < v6) i10 → u11.length = 16 → i11 ≤ 11 → own_Go p e below s (Q0 Z p0 p1 p2 p3 h0 n0) room_1.cells room_1.slots (T28.setTop (mkF m 272 #[.val (.int p0), .val (.int p1), .val (.int p2), .val (.long p3), .second, .val (.int v1), .val (.int v2), .val (.int v3), .val (.int v4), .val (.int v5), .val (.int v6), .val (.ref b7), .val (.int (Nat.toInt32 i11)), .val (.int (Nat.toInt32 i1)), .val (.int (Nat.toInt32 i4)), .val (.int (Nat.toInt32 i6)), .val (.int (Nat.toInt32 i10)), .unset, .unset, .unset, .unset, .unset, .unset, .unset, .unset, .unset] [])) := by
                        intro u11 i11 T28 lo28 h28 X28 e28 N28 Z28 F29 hu11 hi11 hl12 hn11
                        show own_Go p e below s _ _ _ (T28.setTop (mkF m 272 #[.val (.int p0), .val (.int p1), .val (.int p2), .val (.long p3), .second, .val (.int v1), .val (.int v2), .val (.int v3), .val (.int v4), .val (.int v5), .val (.int v6), .val (.ref b7), .val (.int (Nat.toInt32 i11)), .val (.int (Nat.toInt32 i1)), .val (.int (Nat.toInt32 i4)), .val (.int (Nat.toInt32 i6)), .val (.int (Nat.toInt32 i10)), .unset, .unset, .unset, .unset, .unset, .unset, .unset, .unset, .unset] []))
                        have jn12 : ∀ (u12 : List Int32) (i12 : Nat) (T30 : State) (lo30 : List Loc) (h30 : Heap), Stand p l e room_1 s m #[(.int p0), (.int p1), (.int p2), (.long p3)] below meth c T30 lo30 1 16 → T30.heap = h30 → Fr n0 lo30 → n0 ≤ h30.size → Arv Z h30 b7 k7 .byte (16 : Int32) (u12.map Value.int) (.int (0 : Int32)) → own_uu u12 ((1 : Int32) < v6) u11 i11 (nar .byte (own_jb p3 (2 : Int32))) → own_ii i12 ((1 : Int32) < v6) i11 → u12.length = 16 → i12 ≤ 12 → own_Go p e below s (Q0 Z p0 p1 p2 p3 h0 n0) room_1.cells room_1.slots (T30.setTop (mkF m 291 #[.val (.int p0), .val (.int p1), .val (.int p2), .val (.long p3), .second, .val (.int v1), .val (.int v2), .val (.int v3), .val (.int v4), .val (.int v5), .val (.int v6), .val (.ref b7), .val (.int (Nat.toInt32 i12)), .val (.int (Nat.toInt32 i1)), .val (.int (Nat.toInt32 i4)), .val (.int (Nat.toInt32 i6)), .val (.int (Nat.toInt32 i10)), .unset, .unset, .unset, .unset, .unset, .unset, .unset, .unset, .unset] [])) := by
                          intro u12 i12 T30 lo30 h30 X30 e30 N30 Z30 F31 hu12 hi12 hl13 hn12
                          show own_Go p e below s _ _ _ (T30.setTop (mkF m 291 #[.val (.int p0), .val (.int p1), .val (.int p2), .val (.long p3), .second, .val (.int v1), .val (.int v2), .val (.int v3), .val (.int v4), .val (.int v5), .val (.int v6), .val (.ref b7), .val (.int (Nat.toInt32 i12)), .val (.int (Nat.toInt32 i1)), .val (.int (Nat.toInt32 i4)), .val (.int (Nat.toInt32 i6)), .val (.int (Nat.toInt32 i10)), .unset, .unset, .unset, .unset, .unset, .unset, .unset, .unset, .unset] []))
                          have jn13 : ∀ (u13 : List Int32) (i13 : Nat) (T32 : State) (lo32 : List Loc) (h32 : Heap), Stand p l e room_1 s m #[(.int p0), (.int p1), (.int p2), (.long p3)] below meth c T32 lo32 1 16 → T32.heap = h32 → Fr n0 lo32 → n0 ≤ h32.size → Arv Z h32 b7 k7 .byte (16 : Int32) (u13.map Value.int) (.int (0 : Int32)) → own_uu u13 ((2 : Int32) < v6) u12 i12 (nar .byte (own_jb p3 (3 : Int32))) → own_ii i13 ((2 : Int32) < v6) i12 → u13.length = 16 → i13 ≤ 13 → own_Go p e below s (Q0 Z p0 p1 p2 p3 h0 n0) room_1.cells room_1.slots (T32.setTop (mkF m 310 #[.val (.int p0), .val (.int p1), .val (.int p2), .val (.long p3), .second, .val (.int v1), .val (.int v2), .val (.int v3), .val (.int v4), .val (.int v5), .val (.int v6), .val (.ref b7), .val (.int (Nat.toInt32 i13)), .val (.int (Nat.toInt32 i1)), .val (.int (Nat.toInt32 i4)), .val (.int (Nat.toInt32 i6)), .val (.int (Nat.toInt32 i10)), .unset, .unset, .unset, .unset, .unset, .unset, .unset, .unset, .unset] [])) := by
                            intro u13 i13 T32 lo32 h32 X32 e32 N32 Z32 F33 hu13 hi13 hl14 hn13
                            show own_Go p e below s _ _ _ (T32.setTop (mkF m 310 #[.val (.int p0), .val (.int p1), .val (.int p2), .val (.long p3), .second, .val (.int v1), .val (.int v2), .val (.int v3), .val (.int v4), .val (.int v5), .val (.int v6), .val (.ref b7), .val (.int (Nat.toInt32 i13)), .val (.int (Nat.toInt32 i1)), .val (.int (Nat.toInt32 i4)), .val (.int (Nat.toInt32 i6)), .val (.int (Nat.toInt32 i10)), .unset, .unset, .unset, .unset, .unset, .unset, .unset, .unset, .unset] []))
                            obtain ⟨hT1, hT2, hT3, hT4, hT5, hT6, hT7⟩ := own_struct hu1 hi1 hl1 hu2 hi2 hl2 hu3 hi3 hl3 hu4 hi4 hl4 hu5 hi5 hl5 hu6 hi6 hl6 hu7 hi7 hl7 hu8 hi8 hl8 hu9 hi9 hl9 hu10 hi10 hl10 hu11 hi11 hl11 hu12 hi12 hl12 hu13 hi13 hl13 ⟨own_bbB _ _, own_bbB _ _, own_bbB _ _, own_bbB _ _, own_bbB _ _, own_bbB _ _⟩ ⟨own_fbW _ _, own_fbW _ _⟩ rfl (own_two _ hv5) (own_three _ hv4)
                            have hb6 : (0 : Int32) < v3 → 0 < i6 := fun z => by rcases hT7 with y | y; omega; exact absurd z y.1
                            have jn17 : ∀ (w17 : Int32) (T34 : State) (lo34 : List Loc) (h34 : Heap), Stand p l e room_1 s m #[(.int p0), (.int p1), (.int p2), (.long p3)] below meth c T34 lo34 1 16 → T34.heap = h34 → Fr n0 lo34 → n0 ≤ h34.size → Arv Z h34 b7 k7 .byte (16 : Int32) (u13.map Value.int) (.int (0 : Int32)) → w17 = (if (v5 = (0 : Int32) ∧ v4 = (0 : Int32) ∧ (0 : Int32) < v3 ∧ own_g u13 (i6 - 1) = (13 : Int32)) then (1 : Int32) else (0 : Int32)) → own_Go p e below s (Q0 Z p0 p1 p2 p3 h0 n0) room_1.cells room_1.slots (T34.setTop (mkF m 344 #[.val (.int p0), .val (.int p1), .val (.int p2), .val (.long p3), .second, .val (.int v1), .val (.int v2), .val (.int v3), .val (.int v4), .val (.int v5), .val (.int v6), .val (.ref b7), .val (.int (Nat.toInt32 i13)), .val (.int (Nat.toInt32 i1)), .val (.int (Nat.toInt32 i4)), .val (.int (Nat.toInt32 i6)), .val (.int (Nat.toInt32 i10)), .val (.int w17), .unset, .unset, .unset, .unset, .unset, .unset, .unset, .unset] [])) := by
                              intro w17 T34 lo34 h34 X34 e34 N34 Z34 F35 h17
                              show own_Go p e below s _ _ _ (T34.setTop (mkF m 344 #[.val (.int p0), .val (.int p1), .val (.int p2), .val (.long p3), .second, .val (.int v1), .val (.int v2), .val (.int v3), .val (.int v4), .val (.int v5), .val (.int v6), .val (.ref b7), .val (.int (Nat.toInt32 i13)), .val (.int (Nat.toInt32 i1)), .val (.int (Nat.toInt32 i4)), .val (.int (Nat.toInt32 i6)), .val (.int (Nat.toInt32 i10)), .val (.int w17), .unset, .unset, .unset, .unset, .unset, .unset, .unset, .unset] []))
                              have hFE : (own_Fe u13 i6 v5 v4 v3) ≤ i6 := by unfold own_Fe; split <;> omega
                              have st36 : ∀ t, Steps p.tables e below (T34.setTop (mkF m 358 #[.val (.int p0), .val (.int p1), .val (.int p2), .val (.long p3), .second, .val (.int v1), .val (.int v2), .val (.int v3), .val (.int v4), .val (.int v5), .val (.int v6), .val (.ref b7), .val (.int (Nat.toInt32 i13)), .val (.int (Nat.toInt32 i1)), .val (.int (Nat.toInt32 i4)), .val (.int (Nat.toInt32 i6)), .val (.int (Nat.toInt32 i10)), .val (.int w17), .unset, .unset, .unset, .unset, .unset, .unset, .unset, .unset] [(.int (if w17 = (0 : Int32) then (Nat.toInt32 i6) else ((Nat.toInt32 i6) - (1 : Int32))))])) t → Steps p.tables e below (T34.setTop (mkF m 344 #[.val (.int p0), .val (.int p1), .val (.int p2), .val (.long p3), .second, .val (.int v1), .val (.int v2), .val (.int v3), .val (.int v4), .val (.int v5), .val (.int v6), .val (.ref b7), .val (.int (Nat.toInt32 i13)), .val (.int (Nat.toInt32 i1)), .val (.int (Nat.toInt32 i4)), .val (.int (Nat.toInt32 i6)), .val (.int (Nat.toInt32 i10)), .val (.int w17), .unset, .unset, .unset, .unset, .unset, .unset, .unset, .unset] [])) t := by
                                intro t k
                                refine XS.iload X34.here hx rfl (hb hby at_344) rfl ?_
                                show Steps p.tables e below (T34.setTop (mkF m 346 #[.val (.int p0), .val (.int p1), .val (.int p2), .val (.long p3), .second, .val (.int v1), .val (.int v2), .val (.int v3), .val (.int v4), .val (.int v5), .val (.int v6), .val (.ref b7), .val (.int (Nat.toInt32 i13)), .val (.int (Nat.toInt32 i1)), .val (.int (Nat.toInt32 i4)), .val (.int (Nat.toInt32 i6)), .val (.int (Nat.toInt32 i10)), .val (.int w17), .unset, .unset, .unset, .unset, .unset, .unset, .unset, .unset] [(.int w17)])) t
                                by_cases hq37 : w17 = (0 : Int32)
                                · refine XS.ifYes X34.here hx rfl (pc0 := 346) (pc' := 356) rfl (hb hby at_346) rfl (Jvm.Free.XT.i0_eq_t hq37) (by decide) (by decide) ?_
                                  show Steps p.tables e below (T34.setTop (mkF m 356 #[.val (.int p0), .val (.int p1), .val (.int p2), .val (.long p3), .second, .val (.int v1), .val (.int v2), .val (.int v3), .val (.int v4), .val (.int v5), .val (.int v6), .val (.ref b7), .val (.int (Nat.toInt32 i13)), .val (.int (Nat.toInt32 i1)), .val (.int (Nat.toInt32 i4)), .val (.int (Nat.toInt32 i6)), .val (.int (Nat.toInt32 i10)), .val (.int w17), .unset, .unset, .unset, .unset, .unset, .unset, .unset, .unset] [])) t
                                  refine XS.iload X34.here hx rfl (hb hby at_356) rfl ?_
                                  show Steps p.tables e below (T34.setTop (mkF m 358 #[.val (.int p0), .val (.int p1), .val (.int p2), .val (.long p3), .second, .val (.int v1), .val (.int v2), .val (.int v3), .val (.int v4), .val (.int v5), .val (.int v6), .val (.ref b7), .val (.int (Nat.toInt32 i13)), .val (.int (Nat.toInt32 i1)), .val (.int (Nat.toInt32 i4)), .val (.int (Nat.toInt32 i6)), .val (.int (Nat.toInt32 i10)), .val (.int w17), .unset, .unset, .unset, .unset, .unset, .unset, .unset, .unset] [(.int (Nat.toInt32 i6))])) t
                                  simp only [if_pos hq37] at k
                                  exact k
                                · refine XS.ifNo X34.here hx rfl (hb hby at_346) rfl (Jvm.Free.XT.i0_eq_f hq37) ?_
                                  show Steps p.tables e below (T34.setTop (mkF m 349 #[.val (.int p0), .val (.int p1), .val (.int p2), .val (.long p3), .second, .val (.int v1), .val (.int v2), .val (.int v3), .val (.int v4), .val (.int v5), .val (.int v6), .val (.ref b7), .val (.int (Nat.toInt32 i13)), .val (.int (Nat.toInt32 i1)), .val (.int (Nat.toInt32 i4)), .val (.int (Nat.toInt32 i6)), .val (.int (Nat.toInt32 i10)), .val (.int w17), .unset, .unset, .unset, .unset, .unset, .unset, .unset, .unset] [])) t
                                  refine XS.iload X34.here hx rfl (hb hby at_349) rfl ?_
                                  show Steps p.tables e below (T34.setTop (mkF m 351 #[.val (.int p0), .val (.int p1), .val (.int p2), .val (.long p3), .second, .val (.int v1), .val (.int v2), .val (.int v3), .val (.int v4), .val (.int v5), .val (.int v6), .val (.ref b7), .val (.int (Nat.toInt32 i13)), .val (.int (Nat.toInt32 i1)), .val (.int (Nat.toInt32 i4)), .val (.int (Nat.toInt32 i6)), .val (.int (Nat.toInt32 i10)), .val (.int w17), .unset, .unset, .unset, .unset, .unset, .unset, .unset, .unset] [(.int (Nat.toInt32 i6))])) t
                                  refine XS.iconst X34.here hx rfl (hb hby at_351) ?_
                                  show Steps p.tables e below (T34.setTop (mkF m 352 #[.val (.int p0), .val (.int p1), .val (.int p2), .val (.long p3), .second, .val (.int v1), .val (.int v2), .val (.int v3), .val (.int v4), .val (.int v5), .val (.int v6), .val (.ref b7), .val (.int (Nat.toInt32 i13)), .val (.int (Nat.toInt32 i1)), .val (.int (Nat.toInt32 i4)), .val (.int (Nat.toInt32 i6)), .val (.int (Nat.toInt32 i10)), .val (.int w17), .unset, .unset, .unset, .unset, .unset, .unset, .unset, .unset] [(.int (1 : Int32)), (.int (Nat.toInt32 i6))])) t
                                  refine XS.isub X34.here hx rfl (hb hby at_352) rfl ?_
                                  show Steps p.tables e below (T34.setTop (mkF m 353 #[.val (.int p0), .val (.int p1), .val (.int p2), .val (.long p3), .second, .val (.int v1), .val (.int v2), .val (.int v3), .val (.int v4), .val (.int v5), .val (.int v6), .val (.ref b7), .val (.int (Nat.toInt32 i13)), .val (.int (Nat.toInt32 i1)), .val (.int (Nat.toInt32 i4)), .val (.int (Nat.toInt32 i6)), .val (.int (Nat.toInt32 i10)), .val (.int w17), .unset, .unset, .unset, .unset, .unset, .unset, .unset, .unset] [(.int ((Nat.toInt32 i6) - (1 : Int32)))])) t
                                  refine XS.goto X34.here hx rfl (pc0 := 353) (pc' := 358) rfl (hb hby at_353) (by decide) (by decide) ?_
                                  show Steps p.tables e below (T34.setTop (mkF m 358 #[.val (.int p0), .val (.int p1), .val (.int p2), .val (.long p3), .second, .val (.int v1), .val (.int v2), .val (.int v3), .val (.int v4), .val (.int v5), .val (.int v6), .val (.ref b7), .val (.int (Nat.toInt32 i13)), .val (.int (Nat.toInt32 i1)), .val (.int (Nat.toInt32 i4)), .val (.int (Nat.toInt32 i6)), .val (.int (Nat.toInt32 i10)), .val (.int w17), .unset, .unset, .unset, .unset, .unset, .unset, .unset, .unset] [(.int ((Nat.toInt32 i6) - (1 : Int32)))])) t
                                  simp only [if_neg hq37] at k
                                  exact k
                              refine own_via st36 ?_
                              show own_Go p e below s _ _ _ (T34.setTop (mkF m 358 #[.val (.int p0), .val (.int p1), .val (.int p2), .val (.long p3), .second, .val (.int v1), .val (.int v2), .val (.int v3), .val (.int v4), .val (.int v5), .val (.int v6), .val (.ref b7), .val (.int (Nat.toInt32 i13)), .val (.int (Nat.toInt32 i1)), .val (.int (Nat.toInt32 i4)), .val (.int (Nat.toInt32 i6)), .val (.int (Nat.toInt32 i10)), .val (.int w17), .unset, .unset, .unset, .unset, .unset, .unset, .unset, .unset] [(.int (if w17 = (0 : Int32) then (Nat.toInt32 i6) else ((Nat.toInt32 i6) - (1 : Int32))))]))
                              rw [show (if w17 = (0 : Int32) then (Nat.toInt32 i6) else ((Nat.toInt32 i6) - (1 : Int32))) = (Nat.toInt32 (own_Fe u13 i6 v5 v4 v3)) from (own_fe h17 hb6)]
                              show own_Go p e below s _ _ _ (T34.setTop (mkF m 358 #[.val (.int p0), .val (.int p1), .val (.int p2), .val (.long p3), .second, .val (.int v1), .val (.int v2), .val (.int v3), .val (.int v4), .val (.int v5), .val (.int v6), .val (.ref b7), .val (.int (Nat.toInt32 i13)), .val (.int (Nat.toInt32 i1)), .val (.int (Nat.toInt32 i4)), .val (.int (Nat.toInt32 i6)), .val (.int (Nat.toInt32 i10)), .val (.int w17), .unset, .unset, .unset, .unset, .unset, .unset, .unset, .unset] [(.int (Nat.toInt32 (own_Fe u13 i6 v5 v4 v3)))]))
                              refine own_via (fun _ k => XS.istore X34.here hx rfl (hb hby at_358) rfl (l' := #[.val (.int p0), .val (.int p1), .val (.int p2), .val (.long p3), .second, .val (.int v1), .val (.int v2), .val (.int v3), .val (.int v4), .val (.int v5), .val (.int v6), .val (.ref b7), .val (.int (Nat.toInt32 i13)), .val (.int (Nat.toInt32 i1)), .val (.int (Nat.toInt32 i4)), .val (.int (Nat.toInt32 i6)), .val (.int (Nat.toInt32 i10)), .val (.int w17), .val (.int (Nat.toInt32 (own_Fe u13 i6 v5 v4 v3))), .unset, .unset, .unset, .unset, .unset, .unset, .unset]) rfl k) ?_
                              show own_Go p e below s _ _ _ (T34.setTop (mkF m 360 #[.val (.int p0), .val (.int p1), .val (.int p2), .val (.long p3), .second, .val (.int v1), .val (.int v2), .val (.int v3), .val (.int v4), .val (.int v5), .val (.int v6), .val (.ref b7), .val (.int (Nat.toInt32 i13)), .val (.int (Nat.toInt32 i1)), .val (.int (Nat.toInt32 i4)), .val (.int (Nat.toInt32 i6)), .val (.int (Nat.toInt32 i10)), .val (.int w17), .val (.int (Nat.toInt32 (own_Fe u13 i6 v5 v4 v3))), .unset, .unset, .unset, .unset, .unset, .unset, .unset] []))
                              have jn19 : ∀ (w19 : Int32) (T38 : State) (lo38 : List Loc) (h38 : Heap), Stand p l e room_1 s m #[(.int p0), (.int p1), (.int p2), (.long p3)] below meth c T38 lo38 1 16 → T38.heap = h38 → Fr n0 lo38 → n0 ≤ h38.size → Arv Z h38 b7 k7 .byte (16 : Int32) (u13.map Value.int) (.int (0 : Int32)) → w19 = (if (own_HF u13 i4 i6 v5 v4 v3) then (1 : Int32) else (0 : Int32)) → own_Go p e below s (Q0 Z p0 p1 p2 p3 h0 n0) room_1.cells room_1.slots (T38.setTop (mkF m 384 #[.val (.int p0), .val (.int p1), .val (.int p2), .val (.long p3), .second, .val (.int v1), .val (.int v2), .val (.int v3), .val (.int v4), .val (.int v5), .val (.int v6), .val (.ref b7), .val (.int (Nat.toInt32 i13)), .val (.int (Nat.toInt32 i1)), .val (.int (Nat.toInt32 i4)), .val (.int (Nat.toInt32 i6)), .val (.int (Nat.toInt32 i10)), .val (.int w17), .val (.int (Nat.toInt32 (own_Fe u13 i6 v5 v4 v3))), .val (.int w19), .unset, .unset, .unset, .unset, .unset, .unset] [])) := by
                                intro w19 T38 lo38 h38 X38 e38 N38 Z38 F39 h19
                                show own_Go p e below s _ _ _ (T38.setTop (mkF m 384 #[.val (.int p0), .val (.int p1), .val (.int p2), .val (.long p3), .second, .val (.int v1), .val (.int v2), .val (.int v3), .val (.int v4), .val (.int v5), .val (.int v6), .val (.ref b7), .val (.int (Nat.toInt32 i13)), .val (.int (Nat.toInt32 i1)), .val (.int (Nat.toInt32 i4)), .val (.int (Nat.toInt32 i6)), .val (.int (Nat.toInt32 i10)), .val (.int w17), .val (.int (Nat.toInt32 (own_Fe u13 i6 v5 v4 v3))), .val (.int w19), .unset, .unset, .unset, .unset, .unset, .unset] []))
                                have hT := own_T (us := u13) hT1.1 hT1.2.1 hT1.2.2.1 hT2 hT3 hT4 hT5 hT6 hT7 (Nat.toInt32 i1) (Nat.toInt32 i1)
                                have hTE : own_end u13 i1 i10 ≤ i10 ∧ i1 ≤ own_end u13 i1 i10 := by unfold own_end; split <;> omega
                                obtain ⟨EN, hEN⟩ : ∃ EN, own_end u13 i1 i10 = EN := ⟨_, rfl⟩
                                rw [hEN] at hT hTE
                                rcases own_01 h19 with ⟨rfl, hHF⟩ | ⟨rfl, hHF⟩
                                · show own_Go p e below s _ _ _ (T38.setTop (mkF m 384 #[.val (.int p0), .val (.int p1), .val (.int p2), .val (.long p3), .second, .val (.int v1), .val (.int v2), .val (.int v3), .val (.int v4), .val (.int v5), .val (.int v6), .val (.ref b7), .val (.int (Nat.toInt32 i13)), .val (.int (Nat.toInt32 i1)), .val (.int (Nat.toInt32 i4)), .val (.int (Nat.toInt32 i6)), .val (.int (Nat.toInt32 i10)), .val (.int w17), .val (.int (Nat.toInt32 (own_Fe u13 i6 v5 v4 v3))), .val (.int (1 : Int32)), .unset, .unset, .unset, .unset, .unset, .unset] []))
                                  obtain ⟨r1, r2, r3, r4⟩ := hT.1 hHF
                                  obtain ⟨T40, h40, X40, e40, E40, A40, D40, -, st40⟩ := newO X38 hx hZ hown (hw _ (List.mem_of_getElem? (i := 1) rfl)) (hw _ (List.mem_of_getElem? (i := 2) rfl)) (hw _ (List.mem_of_getElem? (i := 3) rfl)) e38 (g := (mkF m 384 #[.val (.int p0), .val (.int p1), .val (.int p2), .val (.long p3), .second, .val (.int v1), .val (.int v2), .val (.int v3), .val (.int v4), .val (.int v5), .val (.int v6), .val (.ref b7), .val (.int (Nat.toInt32 i13)), .val (.int (Nat.toInt32 i1)), .val (.int (Nat.toInt32 i4)), .val (.int (Nat.toInt32 i6)), .val (.int (Nat.toInt32 i10)), .val (.int w17), .val (.int (Nat.toInt32 (own_Fe u13 i6 v5 v4 v3))), .val (.int (1 : Int32)), .unset, .unset, .unset, .unset, .unset, .unset] [])) rfl (hb hby at_384) (by decide) (by decide)
                                  obtain ⟨b40, gg40⟩ : ∃ z, z = h38.size := ⟨_, rfl⟩
                                  rw [← gg40] at A40 D40 st40
                                  have ne_b7_b40 : b7 ≠ b40 := Nat.ne_of_lt (Nat.lt_of_lt_of_le F39.lt (Nat.le_of_eq gg40.symm))
                                  have g_b40 : n0 ≤ b40 := Nat.le_trans Z38 (Nat.le_of_eq gg40.symm)
                                  have Z40 : n0 ≤ h40.size := Nat.le_trans Z38 E40.1
                                  have F41 : Fld Z h40 b40 "com/example/enlace/enlace/graph/LineFields" "bytes" "[B" .null := D40 (Or.inl (hw _ (List.mem_of_getElem? (i := 16) rfl))) (ty := (.array .byte)) (by decide)
                                  have F42 : Fld Z h40 b40 "com/example/enlace/enlace/graph/LineFields" "end" "I" (.int (0 : Int32)) := D40 (Or.inl (hw _ (List.mem_of_getElem? (i := 18) rfl))) (ty := .int) (by decide)
                                  have F43 : Fld Z h40 b40 "com/example/enlace/enlace/graph/LineFields" "position" "I" (.int (0 : Int32)) := D40 (Or.inl (hw _ (List.mem_of_getElem? (i := 24) rfl))) (ty := .int) (by decide)
                                  have F44 : Fld Z h40 b40 "com/example/enlace/enlace/graph/LineFields" "fieldStart" "I" (.int (0 : Int32)) := D40 (Or.inl (hw _ (List.mem_of_getElem? (i := 26) rfl))) (ty := .int) (by decide)
                                  have F45 : Fld Z h40 b40 "com/example/enlace/enlace/graph/LineFields" "fieldEnd" "I" (.int (0 : Int32)) := D40 (Or.inl (hw _ (List.mem_of_getElem? (i := 28) rfl))) (ty := .int) (by decide)
                                  refine own_via st40 ?_
                                  show own_Go p e below s _ _ _ (T40.setTop (mkF m 387 #[.val (.int p0), .val (.int p1), .val (.int p2), .val (.long p3), .second, .val (.int v1), .val (.int v2), .val (.int v3), .val (.int v4), .val (.int v5), .val (.int v6), .val (.ref b7), .val (.int (Nat.toInt32 i13)), .val (.int (Nat.toInt32 i1)), .val (.int (Nat.toInt32 i4)), .val (.int (Nat.toInt32 i6)), .val (.int (Nat.toInt32 i10)), .val (.int w17), .val (.int (Nat.toInt32 (own_Fe u13 i6 v5 v4 v3))), .val (.int (1 : Int32)), .unset, .unset, .unset, .unset, .unset, .unset] [(.ref b40)]))
                                  refine own_via (fun _ k => XS.dup X40.here hx rfl (hb hby at_387) rfl rfl k) ?_
                                  show own_Go p e below s _ _ _ (T40.setTop (mkF m 388 #[.val (.int p0), .val (.int p1), .val (.int p2), .val (.long p3), .second, .val (.int v1), .val (.int v2), .val (.int v3), .val (.int v4), .val (.int v5), .val (.int v6), .val (.ref b7), .val (.int (Nat.toInt32 i13)), .val (.int (Nat.toInt32 i1)), .val (.int (Nat.toInt32 i4)), .val (.int (Nat.toInt32 i6)), .val (.int (Nat.toInt32 i10)), .val (.int w17), .val (.int (Nat.toInt32 (own_Fe u13 i6 v5 v4 v3))), .val (.int (1 : Int32)), .unset, .unset, .unset, .unset, .unset, .unset] [(.ref b40), (.ref b40)]))
                                  obtain ⟨_, _, ⟨T46, L46, k46, n46⟩, -, X46, ⟨Lc46, hQ46, l46, y46, z46⟩, st46⟩ := X40.specialBack hx (y := (⟨"com/example/enlace/enlace/graph/LineFields", "<init>", "()V"⟩ : MethodName)) rfl hown (mvT hZ (hw _ (List.mem_of_getElem? (i := 4) rfl))) (mvT hZ (hw _ (List.mem_of_getElem? (i := 5) rfl))) (mvT hZ (hw _ (List.mem_of_getElem? (i := 6) rfl))) (by decide) (backOf (W := 1) (rm1 l Z a0 hw [] b40 h40 n0 Z40 ) hZ (hw _ (List.mem_of_getElem? (i := 6) rfl)) (hw _ (List.mem_of_getElem? (i := 3) rfl)) (by decide) (by decide)) (g := (mkF m 388 #[.val (.int p0), .val (.int p1), .val (.int p2), .val (.long p3), .second, .val (.int v1), .val (.int v2), .val (.int v3), .val (.int v4), .val (.int v5), .val (.int v6), .val (.ref b7), .val (.int (Nat.toInt32 i13)), .val (.int (Nat.toInt32 i1)), .val (.int (Nat.toInt32 i4)), .val (.int (Nat.toInt32 i6)), .val (.int (Nat.toInt32 i10)), .val (.int w17), .val (.int (Nat.toInt32 (own_Fe u13 i6 v5 v4 v3))), .val (.int (1 : Int32)), .unset, .unset, .unset, .unset, .unset, .unset] [(.ref b40), (.ref b40)])) rfl (by rw [hml]; rfl) (Steps.refl _) (a := b40) (argsL := []) (rest := [(.ref b40)]) (lenOf pd_2 rfl) rfl (by show 2 * 0 + _ ≤ _; exact Nat.le_of_eq rfl) (hb hby at_388) (fun _ _ => ⟨rfl, e40, (by decide : 2 + 0 ≤ _), (by decide : 21 + 0 ≤ _)⟩)
                                  dsimp only [Pt.U, Pt.locs, Pt.cells, Pt.slots] at X46 l46 y46 z46 st46 hQ46
                                  subst l46 y46 z46
                                  obtain ⟨rfl, N46q, e46⟩ := hQ46
                                  have N46 := Fr.app N38 N46q
                                  refine own_viaT st46 ?_
                                  show own_Go p e below s _ _ _ (T46.setTop (mkF m 391 #[.val (.int p0), .val (.int p1), .val (.int p2), .val (.long p3), .second, .val (.int v1), .val (.int v2), .val (.int v3), .val (.int v4), .val (.int v5), .val (.int v6), .val (.ref b7), .val (.int (Nat.toInt32 i13)), .val (.int (Nat.toInt32 i1)), .val (.int (Nat.toInt32 i4)), .val (.int (Nat.toInt32 i6)), .val (.int (Nat.toInt32 i10)), .val (.int w17), .val (.int (Nat.toInt32 (own_Fe u13 i6 v5 v4 v3))), .val (.int (1 : Int32)), .unset, .unset, .unset, .unset, .unset, .unset] [(.ref b40)]))
                                  refine own_via (fun _ k => XS.astore X46.here hx rfl (hb hby at_391) rfl rfl (l' := #[.val (.int p0), .val (.int p1), .val (.int p2), .val (.long p3), .second, .val (.int v1), .val (.int v2), .val (.int v3), .val (.int v4), .val (.int v5), .val (.int v6), .val (.ref b7), .val (.int (Nat.toInt32 i13)), .val (.int (Nat.toInt32 i1)), .val (.int (Nat.toInt32 i4)), .val (.int (Nat.toInt32 i6)), .val (.int (Nat.toInt32 i10)), .val (.int w17), .val (.int (Nat.toInt32 (own_Fe u13 i6 v5 v4 v3))), .val (.int (1 : Int32)), .val (.ref b40), .unset, .unset, .unset, .unset, .unset]) rfl k) ?_
                                  show own_Go p e below s _ _ _ (T46.setTop (mkF m 393 #[.val (.int p0), .val (.int p1), .val (.int p2), .val (.long p3), .second, .val (.int v1), .val (.int v2), .val (.int v3), .val (.int v4), .val (.int v5), .val (.int v6), .val (.ref b7), .val (.int (Nat.toInt32 i13)), .val (.int (Nat.toInt32 i1)), .val (.int (Nat.toInt32 i4)), .val (.int (Nat.toInt32 i6)), .val (.int (Nat.toInt32 i10)), .val (.int w17), .val (.int (Nat.toInt32 (own_Fe u13 i6 v5 v4 v3))), .val (.int (1 : Int32)), .val (.ref b40), .unset, .unset, .unset, .unset, .unset] []))
                                  refine own_via (fun _ k => XS.aload X46.here hx rfl (hb hby at_393) rfl rfl k) ?_
                                  show own_Go p e below s _ _ _ (T46.setTop (mkF m 395 #[.val (.int p0), .val (.int p1), .val (.int p2), .val (.long p3), .second, .val (.int v1), .val (.int v2), .val (.int v3), .val (.int v4), .val (.int v5), .val (.int v6), .val (.ref b7), .val (.int (Nat.toInt32 i13)), .val (.int (Nat.toInt32 i1)), .val (.int (Nat.toInt32 i4)), .val (.int (Nat.toInt32 i6)), .val (.int (Nat.toInt32 i10)), .val (.int w17), .val (.int (Nat.toInt32 (own_Fe u13 i6 v5 v4 v3))), .val (.int (1 : Int32)), .val (.ref b40), .unset, .unset, .unset, .unset, .unset] [(.ref b40)]))
                                  refine own_via (fun _ k => XS.aload X46.here hx rfl (hb hby at_395) rfl rfl k) ?_
                                  show own_Go p e below s _ _ _ (T46.setTop (mkF m 397 #[.val (.int p0), .val (.int p1), .val (.int p2), .val (.long p3), .second, .val (.int v1), .val (.int v2), .val (.int v3), .val (.int v4), .val (.int v5), .val (.int v6), .val (.ref b7), .val (.int (Nat.toInt32 i13)), .val (.int (Nat.toInt32 i1)), .val (.int (Nat.toInt32 i4)), .val (.int (Nat.toInt32 i6)), .val (.int (Nat.toInt32 i10)), .val (.int w17), .val (.int (Nat.toInt32 (own_Fe u13 i6 v5 v4 v3))), .val (.int (1 : Int32)), .val (.ref b40), .unset, .unset, .unset, .unset, .unset] [(.ref b7), (.ref b40)]))
                                  refine own_via (fun _ k => XS.iload X46.here hx rfl (hb hby at_397) rfl k) ?_
                                  show own_Go p e below s _ _ _ (T46.setTop (mkF m 399 #[.val (.int p0), .val (.int p1), .val (.int p2), .val (.long p3), .second, .val (.int v1), .val (.int v2), .val (.int v3), .val (.int v4), .val (.int v5), .val (.int v6), .val (.ref b7), .val (.int (Nat.toInt32 i13)), .val (.int (Nat.toInt32 i1)), .val (.int (Nat.toInt32 i4)), .val (.int (Nat.toInt32 i6)), .val (.int (Nat.toInt32 i10)), .val (.int w17), .val (.int (Nat.toInt32 (own_Fe u13 i6 v5 v4 v3))), .val (.int (1 : Int32)), .val (.ref b40), .unset, .unset, .unset, .unset, .unset] [(.int (Nat.toInt32 i1)), (.ref b7), (.ref b40)]))
                                  refine own_via (fun _ k => XS.iload X46.here hx rfl (hb hby at_399) rfl k) ?_
                                  show own_Go p e below s _ _ _ (T46.setTop (mkF m 401 #[.val (.int p0), .val (.int p1), .val (.int p2), .val (.long p3), .second, .val (.int v1), .val (.int v2), .val (.int v3), .val (.int v4), .val (.int v5), .val (.int v6), .val (.ref b7), .val (.int (Nat.toInt32 i13)), .val (.int (Nat.toInt32 i1)), .val (.int (Nat.toInt32 i4)), .val (.int (Nat.toInt32 i6)), .val (.int (Nat.toInt32 i10)), .val (.int w17), .val (.int (Nat.toInt32 (own_Fe u13 i6 v5 v4 v3))), .val (.int (1 : Int32)), .val (.ref b40), .unset, .unset, .unset, .unset, .unset] [(.int (Nat.toInt32 i10)), (.int (Nat.toInt32 i1)), (.ref b7), (.ref b40)]))
                                  have F48 := (F39.ext E40)
                                  obtain ⟨cq47, kq47, qa47, qb47, qc47⟩ := isOf hZ e46 A40
                                  obtain ⟨_, _, ⟨T47, L47, k47, n47⟩, -, X47, ⟨Lc47, hQ47, l47, y47, z47⟩, st47⟩ := X46.virtualBack hx (y := (⟨"com/example/enlace/enlace/graph/LineFields", "reset", "([BII)V"⟩ : MethodName)) (z := (⟨"com/example/enlace/enlace/graph/LineFields", "reset", "([BII)V"⟩ : MethodName)) hown (mvT hZ (hw _ (List.mem_of_getElem? (i := 10) rfl))) (mvT hZ (hw _ (List.mem_of_getElem? (i := 11) rfl))) (notFace_of_selects (args := #[]) (mvT hZ (hw _ (List.mem_of_getElem? (i := 13) rfl)))) (mvT hZ (hw _ (List.mem_of_getElem? (i := 13) rfl))) (mvT hZ (hw _ (List.mem_of_getElem? (i := 12) rfl))) (by decide) (backOf (W := 0) (rm3 l Z a0 hw [] b40 b7 (Nat.toInt32 i1) (Nat.toInt32 i10) .null (0 : Int32) (0 : Int32) (0 : Int32) (0 : Int32) k7 (16 : Int32) u13 i1 i10 h40 n0 Z40 A40 F41 F42 F43 F44 F45 F48 g_b40 ne_b7_b40 rfl rfl (by omega) (by omega) (by show (i10 : Int) ≤ 16; omega)) hZ (hw _ (List.mem_of_getElem? (i := 14) rfl)) (hw _ (List.mem_of_getElem? (i := 3) rfl)) (by decide) (by decide)) qa47 qc47 (g := (mkF m 401 #[.val (.int p0), .val (.int p1), .val (.int p2), .val (.long p3), .second, .val (.int v1), .val (.int v2), .val (.int v3), .val (.int v4), .val (.int v5), .val (.int v6), .val (.ref b7), .val (.int (Nat.toInt32 i13)), .val (.int (Nat.toInt32 i1)), .val (.int (Nat.toInt32 i4)), .val (.int (Nat.toInt32 i6)), .val (.int (Nat.toInt32 i10)), .val (.int w17), .val (.int (Nat.toInt32 (own_Fe u13 i6 v5 v4 v3))), .val (.int (1 : Int32)), .val (.ref b40), .unset, .unset, .unset, .unset, .unset] [(.int (Nat.toInt32 i10)), (.int (Nat.toInt32 i1)), (.ref b7), (.ref b40)])) rfl (by rw [hml]; rfl) (Steps.refl _) (argsL := [(.ref b7), (.int (Nat.toInt32 i1)), (.int (Nat.toInt32 i10))]) (rest := []) (lenOf pd_3 rfl) rfl (by show 2 * 0 + _ ≤ _; exact Nat.le_of_eq rfl) (hb hby at_401) (fun _ _ => ⟨rfl, e46, (by decide : 2 + 0 ≤ _), (by decide : 21 + 0 ≤ _)⟩)
                                  dsimp only [Pt.U, Pt.locs, Pt.cells, Pt.slots] at X47 l47 y47 z47 st47 hQ47
                                  subst l47 y47 z47
                                  obtain ⟨h47, e47⟩ : ∃ h, T47.heap = h := ⟨_, rfl⟩
                                  rw [e47] at hQ47
                                  obtain ⟨rfl, N47q, Kq47, F49, F50, F51, F52, F53, F54⟩ := hQ47
                                  have Z47 : n0 ≤ h47.size := Nat.le_trans Z40 Kq47.1
                                  have N47 := Fr.app N46 N47q
                                  refine own_viaT st47 ?_
                                  show own_Go p e below s _ _ _ (T47.setTop (mkF m 404 #[.val (.int p0), .val (.int p1), .val (.int p2), .val (.long p3), .second, .val (.int v1), .val (.int v2), .val (.int v3), .val (.int v4), .val (.int v5), .val (.int v6), .val (.ref b7), .val (.int (Nat.toInt32 i13)), .val (.int (Nat.toInt32 i1)), .val (.int (Nat.toInt32 i4)), .val (.int (Nat.toInt32 i6)), .val (.int (Nat.toInt32 i10)), .val (.int w17), .val (.int (Nat.toInt32 (own_Fe u13 i6 v5 v4 v3))), .val (.int (1 : Int32)), .val (.ref b40), .unset, .unset, .unset, .unset, .unset] []))
                                  rw [hEN] at F51
                                  rw [hEN] at F52
                                  refine own_via (fun _ k => XS.aload X47.here hx rfl (hb hby at_404) rfl rfl k) ?_
                                  show own_Go p e below s _ _ _ (T47.setTop (mkF m 406 #[.val (.int p0), .val (.int p1), .val (.int p2), .val (.long p3), .second, .val (.int v1), .val (.int v2), .val (.int v3), .val (.int v4), .val (.int v5), .val (.int v6), .val (.ref b7), .val (.int (Nat.toInt32 i13)), .val (.int (Nat.toInt32 i1)), .val (.int (Nat.toInt32 i4)), .val (.int (Nat.toInt32 i6)), .val (.int (Nat.toInt32 i10)), .val (.int w17), .val (.int (Nat.toInt32 (own_Fe u13 i6 v5 v4 v3))), .val (.int (1 : Int32)), .val (.ref b40), .unset, .unset, .unset, .unset, .unset] [(.ref b40)]))
                                  obtain ⟨cq55, kq55, qa55, qb55, qc55⟩ := isOf hZ e47 F49
                                  obtain ⟨_, _, ⟨T55, L55, k55, n55⟩, -, X55, ⟨Lc55, hQ55, l55, y55, z55⟩, st55⟩ := X47.virtualBack hx (y := (⟨"com/example/enlace/enlace/graph/LineFields", "bytes", "()[B"⟩ : MethodName)) (z := (⟨"com/example/enlace/enlace/graph/LineFields", "bytes", "()[B"⟩ : MethodName)) hown (mvT hZ (hw _ (List.mem_of_getElem? (i := 29) rfl))) (mvT hZ (hw _ (List.mem_of_getElem? (i := 30) rfl))) (notFace_of_selects (args := #[]) (mvT hZ (hw _ (List.mem_of_getElem? (i := 32) rfl)))) (mvT hZ (hw _ (List.mem_of_getElem? (i := 32) rfl))) (mvT hZ (hw _ (List.mem_of_getElem? (i := 31) rfl))) (by decide) (backOf (W := 0) (rm5 l Z a0 hw [] b40 b7 h47 n0 Z47 F50) hZ (hw _ (List.mem_of_getElem? (i := 33) rfl)) (hw _ (List.mem_of_getElem? (i := 3) rfl)) (by decide) (by decide)) qa55 qc55 (g := (mkF m 406 #[.val (.int p0), .val (.int p1), .val (.int p2), .val (.long p3), .second, .val (.int v1), .val (.int v2), .val (.int v3), .val (.int v4), .val (.int v5), .val (.int v6), .val (.ref b7), .val (.int (Nat.toInt32 i13)), .val (.int (Nat.toInt32 i1)), .val (.int (Nat.toInt32 i4)), .val (.int (Nat.toInt32 i6)), .val (.int (Nat.toInt32 i10)), .val (.int w17), .val (.int (Nat.toInt32 (own_Fe u13 i6 v5 v4 v3))), .val (.int (1 : Int32)), .val (.ref b40), .unset, .unset, .unset, .unset, .unset] [(.ref b40)])) rfl (by rw [hml]; rfl) (Steps.refl _) (argsL := []) (rest := []) (lenOf pd_4 rfl) rfl (by show 2 * 0 + _ ≤ _; exact Nat.le_of_eq rfl) (hb hby at_406) (fun _ _ => ⟨rfl, e47, (by decide : 2 + 0 ≤ _), (by decide : 21 + 0 ≤ _)⟩)
                                  dsimp only [Pt.U, Pt.locs, Pt.cells, Pt.slots] at X55 l55 y55 z55 st55 hQ55
                                  subst l55 y55 z55
                                  obtain ⟨rfl, N55q, e55⟩ := hQ55
                                  have N55 := Fr.app N47 N55q
                                  refine own_viaT st55 ?_
                                  show own_Go p e below s _ _ _ (T55.setTop (mkF m 409 #[.val (.int p0), .val (.int p1), .val (.int p2), .val (.long p3), .second, .val (.int v1), .val (.int v2), .val (.int v3), .val (.int v4), .val (.int v5), .val (.int v6), .val (.ref b7), .val (.int (Nat.toInt32 i13)), .val (.int (Nat.toInt32 i1)), .val (.int (Nat.toInt32 i4)), .val (.int (Nat.toInt32 i6)), .val (.int (Nat.toInt32 i10)), .val (.int w17), .val (.int (Nat.toInt32 (own_Fe u13 i6 v5 v4 v3))), .val (.int (1 : Int32)), .val (.ref b40), .unset, .unset, .unset, .unset, .unset] [(.ref b7)]))
                                  refine own_via (fun _ k => XS.aload X55.here hx rfl (hb hby at_409) rfl rfl k) ?_
                                  show own_Go p e below s _ _ _ (T55.setTop (mkF m 411 #[.val (.int p0), .val (.int p1), .val (.int p2), .val (.long p3), .second, .val (.int v1), .val (.int v2), .val (.int v3), .val (.int v4), .val (.int v5), .val (.int v6), .val (.ref b7), .val (.int (Nat.toInt32 i13)), .val (.int (Nat.toInt32 i1)), .val (.int (Nat.toInt32 i4)), .val (.int (Nat.toInt32 i6)), .val (.int (Nat.toInt32 i10)), .val (.int w17), .val (.int (Nat.toInt32 (own_Fe u13 i6 v5 v4 v3))), .val (.int (1 : Int32)), .val (.ref b40), .unset, .unset, .unset, .unset, .unset] [(.ref b7), (.ref b7)]))
                                  refine own_via (fun _ k => Jvm.RoadKit.acmp (g := (mkF m 411 #[.val (.int p0), .val (.int p1), .val (.int p2), .val (.long p3), .second, .val (.int v1), .val (.int v2), .val (.int v3), .val (.int v4), .val (.int v5), .val (.int v6), .val (.ref b7), .val (.int (Nat.toInt32 i13)), .val (.int (Nat.toInt32 i1)), .val (.int (Nat.toInt32 i4)), .val (.int (Nat.toInt32 i6)), .val (.int (Nat.toInt32 i10)), .val (.int w17), .val (.int (Nat.toInt32 (own_Fe u13 i6 v5 v4 v3))), .val (.int (1 : Int32)), .val (.ref b40), .unset, .unset, .unset, .unset, .unset] [(.ref b7), (.ref b7)])) X55 hx rfl rfl rfl (pc0 := 411) (pc' := 414) (same := true) rfl (hb hby at_411) rfl (decide_eq_true rfl) (by decide) (by decide) k) ?_
                                  show own_Go p e below s _ _ _ (T55.setTop (mkF m 414 #[.val (.int p0), .val (.int p1), .val (.int p2), .val (.long p3), .second, .val (.int v1), .val (.int v2), .val (.int v3), .val (.int v4), .val (.int v5), .val (.int v6), .val (.ref b7), .val (.int (Nat.toInt32 i13)), .val (.int (Nat.toInt32 i1)), .val (.int (Nat.toInt32 i4)), .val (.int (Nat.toInt32 i6)), .val (.int (Nat.toInt32 i10)), .val (.int w17), .val (.int (Nat.toInt32 (own_Fe u13 i6 v5 v4 v3))), .val (.int (1 : Int32)), .val (.ref b40), .unset, .unset, .unset, .unset, .unset] []))
                                  refine own_via (fun _ k => XS.aload X55.here hx rfl (hb hby at_414) rfl rfl k) ?_
                                  show own_Go p e below s _ _ _ (T55.setTop (mkF m 416 #[.val (.int p0), .val (.int p1), .val (.int p2), .val (.long p3), .second, .val (.int v1), .val (.int v2), .val (.int v3), .val (.int v4), .val (.int v5), .val (.int v6), .val (.ref b7), .val (.int (Nat.toInt32 i13)), .val (.int (Nat.toInt32 i1)), .val (.int (Nat.toInt32 i4)), .val (.int (Nat.toInt32 i6)), .val (.int (Nat.toInt32 i10)), .val (.int w17), .val (.int (Nat.toInt32 (own_Fe u13 i6 v5 v4 v3))), .val (.int (1 : Int32)), .val (.ref b40), .unset, .unset, .unset, .unset, .unset] [(.ref b40)]))
                                  obtain ⟨cq56, kq56, qa56, qb56, qc56⟩ := isOf hZ e55 F49
                                  obtain ⟨_, _, ⟨T56, L56, k56, n56⟩, -, X56, ⟨Lc56, hQ56, l56, y56, z56⟩, st56⟩ := X55.virtualBack hx (y := (⟨"com/example/enlace/enlace/graph/LineFields", "fieldStart", "()I"⟩ : MethodName)) (z := (⟨"com/example/enlace/enlace/graph/LineFields", "fieldStart", "()I"⟩ : MethodName)) hown (mvT hZ (hw _ (List.mem_of_getElem? (i := 34) rfl))) (mvT hZ (hw _ (List.mem_of_getElem? (i := 35) rfl))) (notFace_of_selects (args := #[]) (mvT hZ (hw _ (List.mem_of_getElem? (i := 37) rfl)))) (mvT hZ (hw _ (List.mem_of_getElem? (i := 37) rfl))) (mvT hZ (hw _ (List.mem_of_getElem? (i := 36) rfl))) (by decide) (backOf (W := 0) (rm6 l Z a0 hw [] b40 (Nat.toInt32 i1) h47 n0 Z47 F53) hZ (hw _ (List.mem_of_getElem? (i := 38) rfl)) (hw _ (List.mem_of_getElem? (i := 3) rfl)) (by decide) (by decide)) qa56 qc56 (g := (mkF m 416 #[.val (.int p0), .val (.int p1), .val (.int p2), .val (.long p3), .second, .val (.int v1), .val (.int v2), .val (.int v3), .val (.int v4), .val (.int v5), .val (.int v6), .val (.ref b7), .val (.int (Nat.toInt32 i13)), .val (.int (Nat.toInt32 i1)), .val (.int (Nat.toInt32 i4)), .val (.int (Nat.toInt32 i6)), .val (.int (Nat.toInt32 i10)), .val (.int w17), .val (.int (Nat.toInt32 (own_Fe u13 i6 v5 v4 v3))), .val (.int (1 : Int32)), .val (.ref b40), .unset, .unset, .unset, .unset, .unset] [(.ref b40)])) rfl (by rw [hml]; rfl) (Steps.refl _) (argsL := []) (rest := []) (lenOf pd_5 rfl) rfl (by show 2 * 0 + _ ≤ _; exact Nat.le_of_eq rfl) (hb hby at_416) (fun _ _ => ⟨rfl, e55, (by decide : 2 + 0 ≤ _), (by decide : 21 + 0 ≤ _)⟩)
                                  dsimp only [Pt.U, Pt.locs, Pt.cells, Pt.slots] at X56 l56 y56 z56 st56 hQ56
                                  subst l56 y56 z56
                                  obtain ⟨rfl, N56q, e56⟩ := hQ56
                                  have N56 := Fr.app N55 N56q
                                  refine own_viaT st56 ?_
                                  show own_Go p e below s _ _ _ (T56.setTop (mkF m 419 #[.val (.int p0), .val (.int p1), .val (.int p2), .val (.long p3), .second, .val (.int v1), .val (.int v2), .val (.int v3), .val (.int v4), .val (.int v5), .val (.int v6), .val (.ref b7), .val (.int (Nat.toInt32 i13)), .val (.int (Nat.toInt32 i1)), .val (.int (Nat.toInt32 i4)), .val (.int (Nat.toInt32 i6)), .val (.int (Nat.toInt32 i10)), .val (.int w17), .val (.int (Nat.toInt32 (own_Fe u13 i6 v5 v4 v3))), .val (.int (1 : Int32)), .val (.ref b40), .unset, .unset, .unset, .unset, .unset] [(.int (Nat.toInt32 i1))]))
                                  refine own_via (fun _ k => XS.iload X56.here hx rfl (hb hby at_419) rfl k) ?_
                                  show own_Go p e below s _ _ _ (T56.setTop (mkF m 421 #[.val (.int p0), .val (.int p1), .val (.int p2), .val (.long p3), .second, .val (.int v1), .val (.int v2), .val (.int v3), .val (.int v4), .val (.int v5), .val (.int v6), .val (.ref b7), .val (.int (Nat.toInt32 i13)), .val (.int (Nat.toInt32 i1)), .val (.int (Nat.toInt32 i4)), .val (.int (Nat.toInt32 i6)), .val (.int (Nat.toInt32 i10)), .val (.int w17), .val (.int (Nat.toInt32 (own_Fe u13 i6 v5 v4 v3))), .val (.int (1 : Int32)), .val (.ref b40), .unset, .unset, .unset, .unset, .unset] [(.int (Nat.toInt32 i1)), (.int (Nat.toInt32 i1))]))
                                  refine own_via (fun _ k => XS.icmpNo X56.here hx rfl (hb hby at_421) rfl (Jvm.Free.XT.ii_ne_f rfl) k) ?_
                                  show own_Go p e below s _ _ _ (T56.setTop (mkF m 424 #[.val (.int p0), .val (.int p1), .val (.int p2), .val (.long p3), .second, .val (.int v1), .val (.int v2), .val (.int v3), .val (.int v4), .val (.int v5), .val (.int v6), .val (.ref b7), .val (.int (Nat.toInt32 i13)), .val (.int (Nat.toInt32 i1)), .val (.int (Nat.toInt32 i4)), .val (.int (Nat.toInt32 i6)), .val (.int (Nat.toInt32 i10)), .val (.int w17), .val (.int (Nat.toInt32 (own_Fe u13 i6 v5 v4 v3))), .val (.int (1 : Int32)), .val (.ref b40), .unset, .unset, .unset, .unset, .unset] []))
                                  refine own_via (fun _ k => XS.aload X56.here hx rfl (hb hby at_424) rfl rfl k) ?_
                                  show own_Go p e below s _ _ _ (T56.setTop (mkF m 426 #[.val (.int p0), .val (.int p1), .val (.int p2), .val (.long p3), .second, .val (.int v1), .val (.int v2), .val (.int v3), .val (.int v4), .val (.int v5), .val (.int v6), .val (.ref b7), .val (.int (Nat.toInt32 i13)), .val (.int (Nat.toInt32 i1)), .val (.int (Nat.toInt32 i4)), .val (.int (Nat.toInt32 i6)), .val (.int (Nat.toInt32 i10)), .val (.int w17), .val (.int (Nat.toInt32 (own_Fe u13 i6 v5 v4 v3))), .val (.int (1 : Int32)), .val (.ref b40), .unset, .unset, .unset, .unset, .unset] [(.ref b40)]))
                                  obtain ⟨cq57, kq57, qa57, qb57, qc57⟩ := isOf hZ e56 F49
                                  obtain ⟨_, _, ⟨T57, L57, k57, n57⟩, -, X57, ⟨Lc57, hQ57, l57, y57, z57⟩, st57⟩ := X56.virtualBack hx (y := (⟨"com/example/enlace/enlace/graph/LineFields", "fieldEnd", "()I"⟩ : MethodName)) (z := (⟨"com/example/enlace/enlace/graph/LineFields", "fieldEnd", "()I"⟩ : MethodName)) hown (mvT hZ (hw _ (List.mem_of_getElem? (i := 39) rfl))) (mvT hZ (hw _ (List.mem_of_getElem? (i := 40) rfl))) (notFace_of_selects (args := #[]) (mvT hZ (hw _ (List.mem_of_getElem? (i := 42) rfl)))) (mvT hZ (hw _ (List.mem_of_getElem? (i := 42) rfl))) (mvT hZ (hw _ (List.mem_of_getElem? (i := 41) rfl))) (by decide) (backOf (W := 0) (rm7 l Z a0 hw [] b40 (Nat.toInt32 i1) h47 n0 Z47 F54) hZ (hw _ (List.mem_of_getElem? (i := 43) rfl)) (hw _ (List.mem_of_getElem? (i := 3) rfl)) (by decide) (by decide)) qa57 qc57 (g := (mkF m 426 #[.val (.int p0), .val (.int p1), .val (.int p2), .val (.long p3), .second, .val (.int v1), .val (.int v2), .val (.int v3), .val (.int v4), .val (.int v5), .val (.int v6), .val (.ref b7), .val (.int (Nat.toInt32 i13)), .val (.int (Nat.toInt32 i1)), .val (.int (Nat.toInt32 i4)), .val (.int (Nat.toInt32 i6)), .val (.int (Nat.toInt32 i10)), .val (.int w17), .val (.int (Nat.toInt32 (own_Fe u13 i6 v5 v4 v3))), .val (.int (1 : Int32)), .val (.ref b40), .unset, .unset, .unset, .unset, .unset] [(.ref b40)])) rfl (by rw [hml]; rfl) (Steps.refl _) (argsL := []) (rest := []) (lenOf pd_5 rfl) rfl (by show 2 * 0 + _ ≤ _; exact Nat.le_of_eq rfl) (hb hby at_426) (fun _ _ => ⟨rfl, e56, (by decide : 2 + 0 ≤ _), (by decide : 21 + 0 ≤ _)⟩)
                                  dsimp only [Pt.U, Pt.locs, Pt.cells, Pt.slots] at X57 l57 y57 z57 st57 hQ57
                                  subst l57 y57 z57
                                  obtain ⟨rfl, N57q, e57⟩ := hQ57
                                  have N57 := Fr.app N56 N57q
                                  refine own_viaT st57 ?_
                                  show own_Go p e below s _ _ _ (T57.setTop (mkF m 429 #[.val (.int p0), .val (.int p1), .val (.int p2), .val (.long p3), .second, .val (.int v1), .val (.int v2), .val (.int v3), .val (.int v4), .val (.int v5), .val (.int v6), .val (.ref b7), .val (.int (Nat.toInt32 i13)), .val (.int (Nat.toInt32 i1)), .val (.int (Nat.toInt32 i4)), .val (.int (Nat.toInt32 i6)), .val (.int (Nat.toInt32 i10)), .val (.int w17), .val (.int (Nat.toInt32 (own_Fe u13 i6 v5 v4 v3))), .val (.int (1 : Int32)), .val (.ref b40), .unset, .unset, .unset, .unset, .unset] [(.int (Nat.toInt32 i1))]))
                                  refine own_via (fun _ k => XS.iload X57.here hx rfl (hb hby at_429) rfl k) ?_
                                  show own_Go p e below s _ _ _ (T57.setTop (mkF m 431 #[.val (.int p0), .val (.int p1), .val (.int p2), .val (.long p3), .second, .val (.int v1), .val (.int v2), .val (.int v3), .val (.int v4), .val (.int v5), .val (.int v6), .val (.ref b7), .val (.int (Nat.toInt32 i13)), .val (.int (Nat.toInt32 i1)), .val (.int (Nat.toInt32 i4)), .val (.int (Nat.toInt32 i6)), .val (.int (Nat.toInt32 i10)), .val (.int w17), .val (.int (Nat.toInt32 (own_Fe u13 i6 v5 v4 v3))), .val (.int (1 : Int32)), .val (.ref b40), .unset, .unset, .unset, .unset, .unset] [(.int (Nat.toInt32 i1)), (.int (Nat.toInt32 i1))]))
                                  refine own_via (fun _ k => XS.icmpNo X57.here hx rfl (hb hby at_431) rfl (Jvm.Free.XT.ii_ne_f rfl) k) ?_
                                  show own_Go p e below s _ _ _ (T57.setTop (mkF m 434 #[.val (.int p0), .val (.int p1), .val (.int p2), .val (.long p3), .second, .val (.int v1), .val (.int v2), .val (.int v3), .val (.int v4), .val (.int v5), .val (.int v6), .val (.ref b7), .val (.int (Nat.toInt32 i13)), .val (.int (Nat.toInt32 i1)), .val (.int (Nat.toInt32 i4)), .val (.int (Nat.toInt32 i6)), .val (.int (Nat.toInt32 i10)), .val (.int w17), .val (.int (Nat.toInt32 (own_Fe u13 i6 v5 v4 v3))), .val (.int (1 : Int32)), .val (.ref b40), .unset, .unset, .unset, .unset, .unset] []))
                                  refine own_via (fun _ k => XS.iconst X57.here hx rfl (hb hby at_434) k) ?_
                                  show own_Go p e below s _ _ _ (T57.setTop (mkF m 435 #[.val (.int p0), .val (.int p1), .val (.int p2), .val (.long p3), .second, .val (.int v1), .val (.int v2), .val (.int v3), .val (.int v4), .val (.int v5), .val (.int v6), .val (.ref b7), .val (.int (Nat.toInt32 i13)), .val (.int (Nat.toInt32 i1)), .val (.int (Nat.toInt32 i4)), .val (.int (Nat.toInt32 i6)), .val (.int (Nat.toInt32 i10)), .val (.int w17), .val (.int (Nat.toInt32 (own_Fe u13 i6 v5 v4 v3))), .val (.int (1 : Int32)), .val (.ref b40), .unset, .unset, .unset, .unset, .unset] [(.int (1 : Int32))]))
                                  refine own_via (fun _ k => XS.goto X57.here hx rfl (pc0 := 435) (pc' := 439) rfl (hb hby at_435) (by decide) (by decide) k) ?_
                                  show own_Go p e below s _ _ _ (T57.setTop (mkF m 439 #[.val (.int p0), .val (.int p1), .val (.int p2), .val (.long p3), .second, .val (.int v1), .val (.int v2), .val (.int v3), .val (.int v4), .val (.int v5), .val (.int v6), .val (.ref b7), .val (.int (Nat.toInt32 i13)), .val (.int (Nat.toInt32 i1)), .val (.int (Nat.toInt32 i4)), .val (.int (Nat.toInt32 i6)), .val (.int (Nat.toInt32 i10)), .val (.int w17), .val (.int (Nat.toInt32 (own_Fe u13 i6 v5 v4 v3))), .val (.int (1 : Int32)), .val (.ref b40), .unset, .unset, .unset, .unset, .unset] [(.int (1 : Int32))]))
                                  refine own_via (fun _ k => XS.istore X57.here hx rfl (hb hby at_439) rfl (l' := #[.val (.int p0), .val (.int p1), .val (.int p2), .val (.long p3), .second, .val (.int v1), .val (.int v2), .val (.int v3), .val (.int v4), .val (.int v5), .val (.int v6), .val (.ref b7), .val (.int (Nat.toInt32 i13)), .val (.int (Nat.toInt32 i1)), .val (.int (Nat.toInt32 i4)), .val (.int (Nat.toInt32 i6)), .val (.int (Nat.toInt32 i10)), .val (.int w17), .val (.int (Nat.toInt32 (own_Fe u13 i6 v5 v4 v3))), .val (.int (1 : Int32)), .val (.ref b40), .val (.int (1 : Int32)), .unset, .unset, .unset, .unset]) rfl k) ?_
                                  show own_Go p e below s _ _ _ (T57.setTop (mkF m 441 #[.val (.int p0), .val (.int p1), .val (.int p2), .val (.long p3), .second, .val (.int v1), .val (.int v2), .val (.int v3), .val (.int v4), .val (.int v5), .val (.int v6), .val (.ref b7), .val (.int (Nat.toInt32 i13)), .val (.int (Nat.toInt32 i1)), .val (.int (Nat.toInt32 i4)), .val (.int (Nat.toInt32 i6)), .val (.int (Nat.toInt32 i10)), .val (.int w17), .val (.int (Nat.toInt32 (own_Fe u13 i6 v5 v4 v3))), .val (.int (1 : Int32)), .val (.ref b40), .val (.int (1 : Int32)), .unset, .unset, .unset, .unset] []))
                                  refine own_via (fun _ k => XS.aload X57.here hx rfl (hb hby at_441) rfl rfl k) ?_
                                  show own_Go p e below s _ _ _ (T57.setTop (mkF m 443 #[.val (.int p0), .val (.int p1), .val (.int p2), .val (.long p3), .second, .val (.int v1), .val (.int v2), .val (.int v3), .val (.int v4), .val (.int v5), .val (.int v6), .val (.ref b7), .val (.int (Nat.toInt32 i13)), .val (.int (Nat.toInt32 i1)), .val (.int (Nat.toInt32 i4)), .val (.int (Nat.toInt32 i6)), .val (.int (Nat.toInt32 i10)), .val (.int w17), .val (.int (Nat.toInt32 (own_Fe u13 i6 v5 v4 v3))), .val (.int (1 : Int32)), .val (.ref b40), .val (.int (1 : Int32)), .unset, .unset, .unset, .unset] [(.ref b40)]))
                                  have F59 := (F48.keep Kq47 (ninS ne_b7_b40 nin0))
                                  obtain ⟨cq58, kq58, qa58, qb58, qc58⟩ := isOf hZ e57 F49
                                  obtain ⟨_, _, ⟨T58, L58, k58, n58⟩, -, X58, ⟨Lc58, hQ58, l58, y58, z58⟩, st58⟩ := X57.virtualBack hx (y := (⟨"com/example/enlace/enlace/graph/LineFields", "advance", "()Z"⟩ : MethodName)) (z := (⟨"com/example/enlace/enlace/graph/LineFields", "advance", "()Z"⟩ : MethodName)) hown (mvT hZ (hw _ (List.mem_of_getElem? (i := 44) rfl))) (mvT hZ (hw _ (List.mem_of_getElem? (i := 45) rfl))) (notFace_of_selects (args := #[]) (mvT hZ (hw _ (List.mem_of_getElem? (i := 47) rfl)))) (mvT hZ (hw _ (List.mem_of_getElem? (i := 47) rfl))) (mvT hZ (hw _ (List.mem_of_getElem? (i := 46) rfl))) (by decide) (backOf (W := 0) (rm8 l Z a0 hw [] b40 b7 k7 (16 : Int32) u13 EN (own_pos u13 i1 EN) (Nat.toInt32 i1) (Nat.toInt32 i1) h47 n0 Z47 F49 F50 F51 F52 F53 F54 F59 g_b40 ne_b7_b40 (own_pos_r hTE.2) (by omega) (by show (EN : Int) ≤ 16; omega)) hZ (hw _ (List.mem_of_getElem? (i := 48) rfl)) (hw _ (List.mem_of_getElem? (i := 3) rfl)) (by decide) (by decide)) qa58 qc58 (g := (mkF m 443 #[.val (.int p0), .val (.int p1), .val (.int p2), .val (.long p3), .second, .val (.int v1), .val (.int v2), .val (.int v3), .val (.int v4), .val (.int v5), .val (.int v6), .val (.ref b7), .val (.int (Nat.toInt32 i13)), .val (.int (Nat.toInt32 i1)), .val (.int (Nat.toInt32 i4)), .val (.int (Nat.toInt32 i6)), .val (.int (Nat.toInt32 i10)), .val (.int w17), .val (.int (Nat.toInt32 (own_Fe u13 i6 v5 v4 v3))), .val (.int (1 : Int32)), .val (.ref b40), .val (.int (1 : Int32)), .unset, .unset, .unset, .unset] [(.ref b40)])) rfl (by rw [hml]; rfl) (Steps.refl _) (argsL := []) (rest := []) (lenOf pd_6 rfl) rfl (by show 2 * 0 + _ ≤ _; exact Nat.le_of_eq rfl) (hb hby at_443) (fun _ _ => ⟨rfl, e57, (by decide : 2 + 0 ≤ _), (by decide : 21 + 0 ≤ _)⟩)
                                  dsimp only [Pt.U, Pt.locs, Pt.cells, Pt.slots] at X58 l58 y58 z58 st58 hQ58
                                  subst l58 y58 z58
                                  obtain ⟨h58, e58⟩ : ∃ h, T58.heap = h := ⟨_, rfl⟩
                                  rw [e58] at hQ58
                                  obtain ⟨rfl, N58q, Kq58, F60, F61, F62, F63, F64, F65⟩ := hQ58
                                  have Z58 : n0 ≤ h58.size := Nat.le_trans Z47 Kq58.1
                                  have N58 := Fr.app N57 N58q
                                  refine own_viaT st58 ?_
                                  show own_Go p e below s _ _ _ (T58.setTop (mkF m 446 #[.val (.int p0), .val (.int p1), .val (.int p2), .val (.long p3), .second, .val (.int v1), .val (.int v2), .val (.int v3), .val (.int v4), .val (.int v5), .val (.int v6), .val (.ref b7), .val (.int (Nat.toInt32 i13)), .val (.int (Nat.toInt32 i1)), .val (.int (Nat.toInt32 i4)), .val (.int (Nat.toInt32 i6)), .val (.int (Nat.toInt32 i10)), .val (.int w17), .val (.int (Nat.toInt32 (own_Fe u13 i6 v5 v4 v3))), .val (.int (1 : Int32)), .val (.ref b40), .val (.int (1 : Int32)), .unset, .unset, .unset, .unset] [(.int (own_nr u13 EN (own_pos u13 i1 EN)))]))
                                  refine own_via (fun _ k => XS.istore X58.here hx rfl (hb hby at_446) rfl (l' := #[.val (.int p0), .val (.int p1), .val (.int p2), .val (.long p3), .second, .val (.int v1), .val (.int v2), .val (.int v3), .val (.int v4), .val (.int v5), .val (.int v6), .val (.ref b7), .val (.int (Nat.toInt32 i13)), .val (.int (Nat.toInt32 i1)), .val (.int (Nat.toInt32 i4)), .val (.int (Nat.toInt32 i6)), .val (.int (Nat.toInt32 i10)), .val (.int w17), .val (.int (Nat.toInt32 (own_Fe u13 i6 v5 v4 v3))), .val (.int (1 : Int32)), .val (.ref b40), .val (.int (1 : Int32)), .val (.int (own_nr u13 EN (own_pos u13 i1 EN))), .unset, .unset, .unset]) rfl k) ?_
                                  show own_Go p e below s _ _ _ (T58.setTop (mkF m 448 #[.val (.int p0), .val (.int p1), .val (.int p2), .val (.long p3), .second, .val (.int v1), .val (.int v2), .val (.int v3), .val (.int v4), .val (.int v5), .val (.int v6), .val (.ref b7), .val (.int (Nat.toInt32 i13)), .val (.int (Nat.toInt32 i1)), .val (.int (Nat.toInt32 i4)), .val (.int (Nat.toInt32 i6)), .val (.int (Nat.toInt32 i10)), .val (.int w17), .val (.int (Nat.toInt32 (own_Fe u13 i6 v5 v4 v3))), .val (.int (1 : Int32)), .val (.ref b40), .val (.int (1 : Int32)), .val (.int (own_nr u13 EN (own_pos u13 i1 EN))), .unset, .unset, .unset] []))
                                  generalize hv66 : (own_nr u13 EN (own_pos u13 i1 EN)) = v66
                                  show own_Go p e below s _ _ _ (T58.setTop (mkF m 448 #[.val (.int p0), .val (.int p1), .val (.int p2), .val (.long p3), .second, .val (.int v1), .val (.int v2), .val (.int v3), .val (.int v4), .val (.int v5), .val (.int v6), .val (.ref b7), .val (.int (Nat.toInt32 i13)), .val (.int (Nat.toInt32 i1)), .val (.int (Nat.toInt32 i4)), .val (.int (Nat.toInt32 i6)), .val (.int (Nat.toInt32 i10)), .val (.int w17), .val (.int (Nat.toInt32 (own_Fe u13 i6 v5 v4 v3))), .val (.int (1 : Int32)), .val (.ref b40), .val (.int (1 : Int32)), .val (.int v66), .unset, .unset, .unset] []))
                                  refine own_via (fun _ k => XS.aload X58.here hx rfl (hb hby at_448) rfl rfl k) ?_
                                  show own_Go p e below s _ _ _ (T58.setTop (mkF m 450 #[.val (.int p0), .val (.int p1), .val (.int p2), .val (.long p3), .second, .val (.int v1), .val (.int v2), .val (.int v3), .val (.int v4), .val (.int v5), .val (.int v6), .val (.ref b7), .val (.int (Nat.toInt32 i13)), .val (.int (Nat.toInt32 i1)), .val (.int (Nat.toInt32 i4)), .val (.int (Nat.toInt32 i6)), .val (.int (Nat.toInt32 i10)), .val (.int w17), .val (.int (Nat.toInt32 (own_Fe u13 i6 v5 v4 v3))), .val (.int (1 : Int32)), .val (.ref b40), .val (.int (1 : Int32)), .val (.int v66), .unset, .unset, .unset] [(.ref b40)]))
                                  obtain ⟨cq67, kq67, qa67, qb67, qc67⟩ := isOf hZ e58 F60
                                  obtain ⟨_, _, ⟨T67, L67, k67, n67⟩, -, X67, ⟨Lc67, hQ67, l67, y67, z67⟩, st67⟩ := X58.virtualBack hx (y := (⟨"com/example/enlace/enlace/graph/LineFields", "fieldStart", "()I"⟩ : MethodName)) (z := (⟨"com/example/enlace/enlace/graph/LineFields", "fieldStart", "()I"⟩ : MethodName)) hown (mvT hZ (hw _ (List.mem_of_getElem? (i := 34) rfl))) (mvT hZ (hw _ (List.mem_of_getElem? (i := 35) rfl))) (notFace_of_selects (args := #[]) (mvT hZ (hw _ (List.mem_of_getElem? (i := 37) rfl)))) (mvT hZ (hw _ (List.mem_of_getElem? (i := 37) rfl))) (mvT hZ (hw _ (List.mem_of_getElem? (i := 36) rfl))) (by decide) (backOf (W := 0) (rm6 l Z a0 hw [] b40 (own_nfs u13 EN (own_pos u13 i1 EN) (Nat.toInt32 i1)) h58 n0 Z58 F64) hZ (hw _ (List.mem_of_getElem? (i := 38) rfl)) (hw _ (List.mem_of_getElem? (i := 3) rfl)) (by decide) (by decide)) qa67 qc67 (g := (mkF m 450 #[.val (.int p0), .val (.int p1), .val (.int p2), .val (.long p3), .second, .val (.int v1), .val (.int v2), .val (.int v3), .val (.int v4), .val (.int v5), .val (.int v6), .val (.ref b7), .val (.int (Nat.toInt32 i13)), .val (.int (Nat.toInt32 i1)), .val (.int (Nat.toInt32 i4)), .val (.int (Nat.toInt32 i6)), .val (.int (Nat.toInt32 i10)), .val (.int w17), .val (.int (Nat.toInt32 (own_Fe u13 i6 v5 v4 v3))), .val (.int (1 : Int32)), .val (.ref b40), .val (.int (1 : Int32)), .val (.int v66), .unset, .unset, .unset] [(.ref b40)])) rfl (by rw [hml]; rfl) (Steps.refl _) (argsL := []) (rest := []) (lenOf pd_5 rfl) rfl (by show 2 * 0 + _ ≤ _; exact Nat.le_of_eq rfl) (hb hby at_450) (fun _ _ => ⟨rfl, e58, (by decide : 2 + 0 ≤ _), (by decide : 21 + 0 ≤ _)⟩)
                                  dsimp only [Pt.U, Pt.locs, Pt.cells, Pt.slots] at X67 l67 y67 z67 st67 hQ67
                                  subst l67 y67 z67
                                  obtain ⟨rfl, N67q, e67⟩ := hQ67
                                  have N67 := Fr.app N58 N67q
                                  refine own_viaT st67 ?_
                                  show own_Go p e below s _ _ _ (T67.setTop (mkF m 453 #[.val (.int p0), .val (.int p1), .val (.int p2), .val (.long p3), .second, .val (.int v1), .val (.int v2), .val (.int v3), .val (.int v4), .val (.int v5), .val (.int v6), .val (.ref b7), .val (.int (Nat.toInt32 i13)), .val (.int (Nat.toInt32 i1)), .val (.int (Nat.toInt32 i4)), .val (.int (Nat.toInt32 i6)), .val (.int (Nat.toInt32 i10)), .val (.int w17), .val (.int (Nat.toInt32 (own_Fe u13 i6 v5 v4 v3))), .val (.int (1 : Int32)), .val (.ref b40), .val (.int (1 : Int32)), .val (.int v66), .unset, .unset, .unset] [(.int (own_nfs u13 EN (own_pos u13 i1 EN) (Nat.toInt32 i1)))]))
                                  refine own_via (fun _ k => XS.istore X67.here hx rfl (hb hby at_453) rfl (l' := #[.val (.int p0), .val (.int p1), .val (.int p2), .val (.long p3), .second, .val (.int v1), .val (.int v2), .val (.int v3), .val (.int v4), .val (.int v5), .val (.int v6), .val (.ref b7), .val (.int (Nat.toInt32 i13)), .val (.int (Nat.toInt32 i1)), .val (.int (Nat.toInt32 i4)), .val (.int (Nat.toInt32 i6)), .val (.int (Nat.toInt32 i10)), .val (.int w17), .val (.int (Nat.toInt32 (own_Fe u13 i6 v5 v4 v3))), .val (.int (1 : Int32)), .val (.ref b40), .val (.int (1 : Int32)), .val (.int v66), .val (.int (own_nfs u13 EN (own_pos u13 i1 EN) (Nat.toInt32 i1))), .unset, .unset]) rfl k) ?_
                                  show own_Go p e below s _ _ _ (T67.setTop (mkF m 455 #[.val (.int p0), .val (.int p1), .val (.int p2), .val (.long p3), .second, .val (.int v1), .val (.int v2), .val (.int v3), .val (.int v4), .val (.int v5), .val (.int v6), .val (.ref b7), .val (.int (Nat.toInt32 i13)), .val (.int (Nat.toInt32 i1)), .val (.int (Nat.toInt32 i4)), .val (.int (Nat.toInt32 i6)), .val (.int (Nat.toInt32 i10)), .val (.int w17), .val (.int (Nat.toInt32 (own_Fe u13 i6 v5 v4 v3))), .val (.int (1 : Int32)), .val (.ref b40), .val (.int (1 : Int32)), .val (.int v66), .val (.int (own_nfs u13 EN (own_pos u13 i1 EN) (Nat.toInt32 i1))), .unset, .unset] []))
                                  generalize hv68 : (own_nfs u13 EN (own_pos u13 i1 EN) (Nat.toInt32 i1)) = v68
                                  show own_Go p e below s _ _ _ (T67.setTop (mkF m 455 #[.val (.int p0), .val (.int p1), .val (.int p2), .val (.long p3), .second, .val (.int v1), .val (.int v2), .val (.int v3), .val (.int v4), .val (.int v5), .val (.int v6), .val (.ref b7), .val (.int (Nat.toInt32 i13)), .val (.int (Nat.toInt32 i1)), .val (.int (Nat.toInt32 i4)), .val (.int (Nat.toInt32 i6)), .val (.int (Nat.toInt32 i10)), .val (.int w17), .val (.int (Nat.toInt32 (own_Fe u13 i6 v5 v4 v3))), .val (.int (1 : Int32)), .val (.ref b40), .val (.int (1 : Int32)), .val (.int v66), .val (.int v68), .unset, .unset] []))
                                  refine own_via (fun _ k => XS.aload X67.here hx rfl (hb hby at_455) rfl rfl k) ?_
                                  show own_Go p e below s _ _ _ (T67.setTop (mkF m 457 #[.val (.int p0), .val (.int p1), .val (.int p2), .val (.long p3), .second, .val (.int v1), .val (.int v2), .val (.int v3), .val (.int v4), .val (.int v5), .val (.int v6), .val (.ref b7), .val (.int (Nat.toInt32 i13)), .val (.int (Nat.toInt32 i1)), .val (.int (Nat.toInt32 i4)), .val (.int (Nat.toInt32 i6)), .val (.int (Nat.toInt32 i10)), .val (.int w17), .val (.int (Nat.toInt32 (own_Fe u13 i6 v5 v4 v3))), .val (.int (1 : Int32)), .val (.ref b40), .val (.int (1 : Int32)), .val (.int v66), .val (.int v68), .unset, .unset] [(.ref b40)]))
                                  obtain ⟨cq69, kq69, qa69, qb69, qc69⟩ := isOf hZ e67 F60
                                  obtain ⟨_, _, ⟨T69, L69, k69, n69⟩, -, X69, ⟨Lc69, hQ69, l69, y69, z69⟩, st69⟩ := X67.virtualBack hx (y := (⟨"com/example/enlace/enlace/graph/LineFields", "fieldEnd", "()I"⟩ : MethodName)) (z := (⟨"com/example/enlace/enlace/graph/LineFields", "fieldEnd", "()I"⟩ : MethodName)) hown (mvT hZ (hw _ (List.mem_of_getElem? (i := 39) rfl))) (mvT hZ (hw _ (List.mem_of_getElem? (i := 40) rfl))) (notFace_of_selects (args := #[]) (mvT hZ (hw _ (List.mem_of_getElem? (i := 42) rfl)))) (mvT hZ (hw _ (List.mem_of_getElem? (i := 42) rfl))) (mvT hZ (hw _ (List.mem_of_getElem? (i := 41) rfl))) (by decide) (backOf (W := 0) (rm7 l Z a0 hw [] b40 (own_nft u13 EN (own_pos u13 i1 EN) (Nat.toInt32 i1)) h58 n0 Z58 F65) hZ (hw _ (List.mem_of_getElem? (i := 43) rfl)) (hw _ (List.mem_of_getElem? (i := 3) rfl)) (by decide) (by decide)) qa69 qc69 (g := (mkF m 457 #[.val (.int p0), .val (.int p1), .val (.int p2), .val (.long p3), .second, .val (.int v1), .val (.int v2), .val (.int v3), .val (.int v4), .val (.int v5), .val (.int v6), .val (.ref b7), .val (.int (Nat.toInt32 i13)), .val (.int (Nat.toInt32 i1)), .val (.int (Nat.toInt32 i4)), .val (.int (Nat.toInt32 i6)), .val (.int (Nat.toInt32 i10)), .val (.int w17), .val (.int (Nat.toInt32 (own_Fe u13 i6 v5 v4 v3))), .val (.int (1 : Int32)), .val (.ref b40), .val (.int (1 : Int32)), .val (.int v66), .val (.int v68), .unset, .unset] [(.ref b40)])) rfl (by rw [hml]; rfl) (Steps.refl _) (argsL := []) (rest := []) (lenOf pd_5 rfl) rfl (by show 2 * 0 + _ ≤ _; exact Nat.le_of_eq rfl) (hb hby at_457) (fun _ _ => ⟨rfl, e67, (by decide : 2 + 0 ≤ _), (by decide : 21 + 0 ≤ _)⟩)
                                  dsimp only [Pt.U, Pt.locs, Pt.cells, Pt.slots] at X69 l69 y69 z69 st69 hQ69
                                  subst l69 y69 z69
                                  obtain ⟨rfl, N69q, e69⟩ := hQ69
                                  have N69 := Fr.app N67 N69q
                                  refine own_viaT st69 ?_
                                  show own_Go p e below s _ _ _ (T69.setTop (mkF m 460 #[.val (.int p0), .val (.int p1), .val (.int p2), .val (.long p3), .second, .val (.int v1), .val (.int v2), .val (.int v3), .val (.int v4), .val (.int v5), .val (.int v6), .val (.ref b7), .val (.int (Nat.toInt32 i13)), .val (.int (Nat.toInt32 i1)), .val (.int (Nat.toInt32 i4)), .val (.int (Nat.toInt32 i6)), .val (.int (Nat.toInt32 i10)), .val (.int w17), .val (.int (Nat.toInt32 (own_Fe u13 i6 v5 v4 v3))), .val (.int (1 : Int32)), .val (.ref b40), .val (.int (1 : Int32)), .val (.int v66), .val (.int v68), .unset, .unset] [(.int (own_nft u13 EN (own_pos u13 i1 EN) (Nat.toInt32 i1)))]))
                                  refine own_via (fun _ k => XS.istore X69.here hx rfl (hb hby at_460) rfl (l' := #[.val (.int p0), .val (.int p1), .val (.int p2), .val (.long p3), .second, .val (.int v1), .val (.int v2), .val (.int v3), .val (.int v4), .val (.int v5), .val (.int v6), .val (.ref b7), .val (.int (Nat.toInt32 i13)), .val (.int (Nat.toInt32 i1)), .val (.int (Nat.toInt32 i4)), .val (.int (Nat.toInt32 i6)), .val (.int (Nat.toInt32 i10)), .val (.int w17), .val (.int (Nat.toInt32 (own_Fe u13 i6 v5 v4 v3))), .val (.int (1 : Int32)), .val (.ref b40), .val (.int (1 : Int32)), .val (.int v66), .val (.int v68), .val (.int (own_nft u13 EN (own_pos u13 i1 EN) (Nat.toInt32 i1))), .unset]) rfl k) ?_
                                  show own_Go p e below s _ _ _ (T69.setTop (mkF m 462 #[.val (.int p0), .val (.int p1), .val (.int p2), .val (.long p3), .second, .val (.int v1), .val (.int v2), .val (.int v3), .val (.int v4), .val (.int v5), .val (.int v6), .val (.ref b7), .val (.int (Nat.toInt32 i13)), .val (.int (Nat.toInt32 i1)), .val (.int (Nat.toInt32 i4)), .val (.int (Nat.toInt32 i6)), .val (.int (Nat.toInt32 i10)), .val (.int w17), .val (.int (Nat.toInt32 (own_Fe u13 i6 v5 v4 v3))), .val (.int (1 : Int32)), .val (.ref b40), .val (.int (1 : Int32)), .val (.int v66), .val (.int v68), .val (.int (own_nft u13 EN (own_pos u13 i1 EN) (Nat.toInt32 i1))), .unset] []))
                                  generalize hv70 : (own_nft u13 EN (own_pos u13 i1 EN) (Nat.toInt32 i1)) = v70
                                  show own_Go p e below s _ _ _ (T69.setTop (mkF m 462 #[.val (.int p0), .val (.int p1), .val (.int p2), .val (.long p3), .second, .val (.int v1), .val (.int v2), .val (.int v3), .val (.int v4), .val (.int v5), .val (.int v6), .val (.ref b7), .val (.int (Nat.toInt32 i13)), .val (.int (Nat.toInt32 i1)), .val (.int (Nat.toInt32 i4)), .val (.int (Nat.toInt32 i6)), .val (.int (Nat.toInt32 i10)), .val (.int w17), .val (.int (Nat.toInt32 (own_Fe u13 i6 v5 v4 v3))), .val (.int (1 : Int32)), .val (.ref b40), .val (.int (1 : Int32)), .val (.int v66), .val (.int v68), .val (.int v70), .unset] []))
                                  refine own_via (fun _ k => XS.iload X69.here hx rfl (hb hby at_462) rfl k) ?_
                                  show own_Go p e below s _ _ _ (T69.setTop (mkF m 464 #[.val (.int p0), .val (.int p1), .val (.int p2), .val (.long p3), .second, .val (.int v1), .val (.int v2), .val (.int v3), .val (.int v4), .val (.int v5), .val (.int v6), .val (.ref b7), .val (.int (Nat.toInt32 i13)), .val (.int (Nat.toInt32 i1)), .val (.int (Nat.toInt32 i4)), .val (.int (Nat.toInt32 i6)), .val (.int (Nat.toInt32 i10)), .val (.int w17), .val (.int (Nat.toInt32 (own_Fe u13 i6 v5 v4 v3))), .val (.int (1 : Int32)), .val (.ref b40), .val (.int (1 : Int32)), .val (.int v66), .val (.int v68), .val (.int v70), .unset] [(.int (1 : Int32))]))
                                  refine own_via (fun _ k => XS.ifNo X69.here hx rfl (hb hby at_464) rfl (Jvm.Free.XT.i0_eq_f (by decide)) k) ?_
                                  show own_Go p e below s _ _ _ (T69.setTop (mkF m 467 #[.val (.int p0), .val (.int p1), .val (.int p2), .val (.long p3), .second, .val (.int v1), .val (.int v2), .val (.int v3), .val (.int v4), .val (.int v5), .val (.int v6), .val (.ref b7), .val (.int (Nat.toInt32 i13)), .val (.int (Nat.toInt32 i1)), .val (.int (Nat.toInt32 i4)), .val (.int (Nat.toInt32 i6)), .val (.int (Nat.toInt32 i10)), .val (.int w17), .val (.int (Nat.toInt32 (own_Fe u13 i6 v5 v4 v3))), .val (.int (1 : Int32)), .val (.ref b40), .val (.int (1 : Int32)), .val (.int v66), .val (.int v68), .val (.int v70), .unset] []))
                                  refine own_via (fun _ k => XS.iload X69.here hx rfl (hb hby at_467) rfl k) ?_
                                  show own_Go p e below s _ _ _ (T69.setTop (mkF m 469 #[.val (.int p0), .val (.int p1), .val (.int p2), .val (.long p3), .second, .val (.int v1), .val (.int v2), .val (.int v3), .val (.int v4), .val (.int v5), .val (.int v6), .val (.ref b7), .val (.int (Nat.toInt32 i13)), .val (.int (Nat.toInt32 i1)), .val (.int (Nat.toInt32 i4)), .val (.int (Nat.toInt32 i6)), .val (.int (Nat.toInt32 i10)), .val (.int w17), .val (.int (Nat.toInt32 (own_Fe u13 i6 v5 v4 v3))), .val (.int (1 : Int32)), .val (.ref b40), .val (.int (1 : Int32)), .val (.int v66), .val (.int v68), .val (.int v70), .unset] [(.int (1 : Int32))]))
                                  refine own_via (fun _ k => XS.ifNo X69.here hx rfl (hb hby at_469) rfl (Jvm.Free.XT.i0_eq_f (by decide)) k) ?_
                                  show own_Go p e below s _ _ _ (T69.setTop (mkF m 472 #[.val (.int p0), .val (.int p1), .val (.int p2), .val (.long p3), .second, .val (.int v1), .val (.int v2), .val (.int v3), .val (.int v4), .val (.int v5), .val (.int v6), .val (.ref b7), .val (.int (Nat.toInt32 i13)), .val (.int (Nat.toInt32 i1)), .val (.int (Nat.toInt32 i4)), .val (.int (Nat.toInt32 i6)), .val (.int (Nat.toInt32 i10)), .val (.int w17), .val (.int (Nat.toInt32 (own_Fe u13 i6 v5 v4 v3))), .val (.int (1 : Int32)), .val (.ref b40), .val (.int (1 : Int32)), .val (.int v66), .val (.int v68), .val (.int v70), .unset] []))
                                  refine own_via (fun _ k => XS.iload X69.here hx rfl (hb hby at_472) rfl k) ?_
                                  show own_Go p e below s _ _ _ (T69.setTop (mkF m 474 #[.val (.int p0), .val (.int p1), .val (.int p2), .val (.long p3), .second, .val (.int v1), .val (.int v2), .val (.int v3), .val (.int v4), .val (.int v5), .val (.int v6), .val (.ref b7), .val (.int (Nat.toInt32 i13)), .val (.int (Nat.toInt32 i1)), .val (.int (Nat.toInt32 i4)), .val (.int (Nat.toInt32 i6)), .val (.int (Nat.toInt32 i10)), .val (.int w17), .val (.int (Nat.toInt32 (own_Fe u13 i6 v5 v4 v3))), .val (.int (1 : Int32)), .val (.ref b40), .val (.int (1 : Int32)), .val (.int v66), .val (.int v68), .val (.int v70), .unset] [(.int v66)]))
                                  have hc71 : ¬ (v66 = (0 : Int32)) := by (rw [← hv66, r1]) <;> decide
                                  refine own_via (fun _ k => XS.ifNo X69.here hx rfl (hb hby at_474) rfl (Jvm.Free.XT.i0_eq_f hc71) k) ?_
                                  show own_Go p e below s _ _ _ (T69.setTop (mkF m 477 #[.val (.int p0), .val (.int p1), .val (.int p2), .val (.long p3), .second, .val (.int v1), .val (.int v2), .val (.int v3), .val (.int v4), .val (.int v5), .val (.int v6), .val (.ref b7), .val (.int (Nat.toInt32 i13)), .val (.int (Nat.toInt32 i1)), .val (.int (Nat.toInt32 i4)), .val (.int (Nat.toInt32 i6)), .val (.int (Nat.toInt32 i10)), .val (.int w17), .val (.int (Nat.toInt32 (own_Fe u13 i6 v5 v4 v3))), .val (.int (1 : Int32)), .val (.ref b40), .val (.int (1 : Int32)), .val (.int v66), .val (.int v68), .val (.int v70), .unset] []))
                                  refine own_via (fun _ k => XS.iload X69.here hx rfl (hb hby at_477) rfl k) ?_
                                  show own_Go p e below s _ _ _ (T69.setTop (mkF m 479 #[.val (.int p0), .val (.int p1), .val (.int p2), .val (.long p3), .second, .val (.int v1), .val (.int v2), .val (.int v3), .val (.int v4), .val (.int v5), .val (.int v6), .val (.ref b7), .val (.int (Nat.toInt32 i13)), .val (.int (Nat.toInt32 i1)), .val (.int (Nat.toInt32 i4)), .val (.int (Nat.toInt32 i6)), .val (.int (Nat.toInt32 i10)), .val (.int w17), .val (.int (Nat.toInt32 (own_Fe u13 i6 v5 v4 v3))), .val (.int (1 : Int32)), .val (.ref b40), .val (.int (1 : Int32)), .val (.int v66), .val (.int v68), .val (.int v70), .unset] [(.int v68)]))
                                  refine own_via (fun _ k => XS.iload X69.here hx rfl (hb hby at_479) rfl k) ?_
                                  show own_Go p e below s _ _ _ (T69.setTop (mkF m 481 #[.val (.int p0), .val (.int p1), .val (.int p2), .val (.long p3), .second, .val (.int v1), .val (.int v2), .val (.int v3), .val (.int v4), .val (.int v5), .val (.int v6), .val (.ref b7), .val (.int (Nat.toInt32 i13)), .val (.int (Nat.toInt32 i1)), .val (.int (Nat.toInt32 i4)), .val (.int (Nat.toInt32 i6)), .val (.int (Nat.toInt32 i10)), .val (.int w17), .val (.int (Nat.toInt32 (own_Fe u13 i6 v5 v4 v3))), .val (.int (1 : Int32)), .val (.ref b40), .val (.int (1 : Int32)), .val (.int v66), .val (.int v68), .val (.int v70), .unset] [(.int (Nat.toInt32 i4)), (.int v68)]))
                                  have hc72 : v68 = (Nat.toInt32 i4) := hv68.symm.trans r2
                                  refine own_via (fun _ k => XS.icmpNo X69.here hx rfl (hb hby at_481) rfl (Jvm.Free.XT.ii_ne_f hc72) k) ?_
                                  show own_Go p e below s _ _ _ (T69.setTop (mkF m 484 #[.val (.int p0), .val (.int p1), .val (.int p2), .val (.long p3), .second, .val (.int v1), .val (.int v2), .val (.int v3), .val (.int v4), .val (.int v5), .val (.int v6), .val (.ref b7), .val (.int (Nat.toInt32 i13)), .val (.int (Nat.toInt32 i1)), .val (.int (Nat.toInt32 i4)), .val (.int (Nat.toInt32 i6)), .val (.int (Nat.toInt32 i10)), .val (.int w17), .val (.int (Nat.toInt32 (own_Fe u13 i6 v5 v4 v3))), .val (.int (1 : Int32)), .val (.ref b40), .val (.int (1 : Int32)), .val (.int v66), .val (.int v68), .val (.int v70), .unset] []))
                                  refine own_via (fun _ k => XS.iload X69.here hx rfl (hb hby at_484) rfl k) ?_
                                  show own_Go p e below s _ _ _ (T69.setTop (mkF m 486 #[.val (.int p0), .val (.int p1), .val (.int p2), .val (.long p3), .second, .val (.int v1), .val (.int v2), .val (.int v3), .val (.int v4), .val (.int v5), .val (.int v6), .val (.ref b7), .val (.int (Nat.toInt32 i13)), .val (.int (Nat.toInt32 i1)), .val (.int (Nat.toInt32 i4)), .val (.int (Nat.toInt32 i6)), .val (.int (Nat.toInt32 i10)), .val (.int w17), .val (.int (Nat.toInt32 (own_Fe u13 i6 v5 v4 v3))), .val (.int (1 : Int32)), .val (.ref b40), .val (.int (1 : Int32)), .val (.int v66), .val (.int v68), .val (.int v70), .unset] [(.int v70)]))
                                  refine own_via (fun _ k => XS.iload X69.here hx rfl (hb hby at_486) rfl k) ?_
                                  show own_Go p e below s _ _ _ (T69.setTop (mkF m 488 #[.val (.int p0), .val (.int p1), .val (.int p2), .val (.long p3), .second, .val (.int v1), .val (.int v2), .val (.int v3), .val (.int v4), .val (.int v5), .val (.int v6), .val (.ref b7), .val (.int (Nat.toInt32 i13)), .val (.int (Nat.toInt32 i1)), .val (.int (Nat.toInt32 i4)), .val (.int (Nat.toInt32 i6)), .val (.int (Nat.toInt32 i10)), .val (.int w17), .val (.int (Nat.toInt32 (own_Fe u13 i6 v5 v4 v3))), .val (.int (1 : Int32)), .val (.ref b40), .val (.int (1 : Int32)), .val (.int v66), .val (.int v68), .val (.int v70), .unset] [(.int (Nat.toInt32 (own_Fe u13 i6 v5 v4 v3))), (.int v70)]))
                                  have hc73 : v70 = (Nat.toInt32 (own_Fe u13 i6 v5 v4 v3)) := hv70.symm.trans r3
                                  refine own_via (fun _ k => XS.icmpNo X69.here hx rfl (hb hby at_488) rfl (Jvm.Free.XT.ii_ne_f hc73) k) ?_
                                  show own_Go p e below s _ _ _ (T69.setTop (mkF m 491 #[.val (.int p0), .val (.int p1), .val (.int p2), .val (.long p3), .second, .val (.int v1), .val (.int v2), .val (.int v3), .val (.int v4), .val (.int v5), .val (.int v6), .val (.ref b7), .val (.int (Nat.toInt32 i13)), .val (.int (Nat.toInt32 i1)), .val (.int (Nat.toInt32 i4)), .val (.int (Nat.toInt32 i6)), .val (.int (Nat.toInt32 i10)), .val (.int w17), .val (.int (Nat.toInt32 (own_Fe u13 i6 v5 v4 v3))), .val (.int (1 : Int32)), .val (.ref b40), .val (.int (1 : Int32)), .val (.int v66), .val (.int v68), .val (.int v70), .unset] []))
                                  refine own_via (fun _ k => XS.iconst X69.here hx rfl (hb hby at_491) k) ?_
                                  show own_Go p e below s _ _ _ (T69.setTop (mkF m 492 #[.val (.int p0), .val (.int p1), .val (.int p2), .val (.long p3), .second, .val (.int v1), .val (.int v2), .val (.int v3), .val (.int v4), .val (.int v5), .val (.int v6), .val (.ref b7), .val (.int (Nat.toInt32 i13)), .val (.int (Nat.toInt32 i1)), .val (.int (Nat.toInt32 i4)), .val (.int (Nat.toInt32 i6)), .val (.int (Nat.toInt32 i10)), .val (.int w17), .val (.int (Nat.toInt32 (own_Fe u13 i6 v5 v4 v3))), .val (.int (1 : Int32)), .val (.ref b40), .val (.int (1 : Int32)), .val (.int v66), .val (.int v68), .val (.int v70), .unset] [(.int (1 : Int32))]))
                                  refine own_via (fun _ k => XS.goto X69.here hx rfl (pc0 := 492) (pc' := 496) rfl (hb hby at_492) (by decide) (by decide) k) ?_
                                  show own_Go p e below s _ _ _ (T69.setTop (mkF m 496 #[.val (.int p0), .val (.int p1), .val (.int p2), .val (.long p3), .second, .val (.int v1), .val (.int v2), .val (.int v3), .val (.int v4), .val (.int v5), .val (.int v6), .val (.ref b7), .val (.int (Nat.toInt32 i13)), .val (.int (Nat.toInt32 i1)), .val (.int (Nat.toInt32 i4)), .val (.int (Nat.toInt32 i6)), .val (.int (Nat.toInt32 i10)), .val (.int w17), .val (.int (Nat.toInt32 (own_Fe u13 i6 v5 v4 v3))), .val (.int (1 : Int32)), .val (.ref b40), .val (.int (1 : Int32)), .val (.int v66), .val (.int v68), .val (.int v70), .unset] [(.int (1 : Int32))]))
                                  refine own_via (fun _ k => XS.istore X69.here hx rfl (hb hby at_496) rfl (l' := #[.val (.int p0), .val (.int p1), .val (.int p2), .val (.long p3), .second, .val (.int v1), .val (.int v2), .val (.int v3), .val (.int v4), .val (.int v5), .val (.int v6), .val (.ref b7), .val (.int (Nat.toInt32 i13)), .val (.int (Nat.toInt32 i1)), .val (.int (Nat.toInt32 i4)), .val (.int (Nat.toInt32 i6)), .val (.int (Nat.toInt32 i10)), .val (.int w17), .val (.int (Nat.toInt32 (own_Fe u13 i6 v5 v4 v3))), .val (.int (1 : Int32)), .val (.ref b40), .val (.int (1 : Int32)), .val (.int v66), .val (.int v68), .val (.int v70), .unset]) rfl k) ?_
                                  show own_Go p e below s _ _ _ (T69.setTop (mkF m 498 #[.val (.int p0), .val (.int p1), .val (.int p2), .val (.long p3), .second, .val (.int v1), .val (.int v2), .val (.int v3), .val (.int v4), .val (.int v5), .val (.int v6), .val (.ref b7), .val (.int (Nat.toInt32 i13)), .val (.int (Nat.toInt32 i1)), .val (.int (Nat.toInt32 i4)), .val (.int (Nat.toInt32 i6)), .val (.int (Nat.toInt32 i10)), .val (.int w17), .val (.int (Nat.toInt32 (own_Fe u13 i6 v5 v4 v3))), .val (.int (1 : Int32)), .val (.ref b40), .val (.int (1 : Int32)), .val (.int v66), .val (.int v68), .val (.int v70), .unset] []))
                                  refine own_via (fun _ k => XS.goto X69.here hx rfl (pc0 := 498) (pc' := 532) rfl (hb hby at_498) (by decide) (by decide) k) ?_
                                  show own_Go p e below s _ _ _ (T69.setTop (mkF m 532 #[.val (.int p0), .val (.int p1), .val (.int p2), .val (.long p3), .second, .val (.int v1), .val (.int v2), .val (.int v3), .val (.int v4), .val (.int v5), .val (.int v6), .val (.ref b7), .val (.int (Nat.toInt32 i13)), .val (.int (Nat.toInt32 i1)), .val (.int (Nat.toInt32 i4)), .val (.int (Nat.toInt32 i6)), .val (.int (Nat.toInt32 i10)), .val (.int w17), .val (.int (Nat.toInt32 (own_Fe u13 i6 v5 v4 v3))), .val (.int (1 : Int32)), .val (.ref b40), .val (.int (1 : Int32)), .val (.int v66), .val (.int v68), .val (.int v70), .unset] []))
                                  refine own_via (fun _ k => XS.aload X69.here hx rfl (hb hby at_532) rfl rfl k) ?_
                                  show own_Go p e below s _ _ _ (T69.setTop (mkF m 534 #[.val (.int p0), .val (.int p1), .val (.int p2), .val (.long p3), .second, .val (.int v1), .val (.int v2), .val (.int v3), .val (.int v4), .val (.int v5), .val (.int v6), .val (.ref b7), .val (.int (Nat.toInt32 i13)), .val (.int (Nat.toInt32 i1)), .val (.int (Nat.toInt32 i4)), .val (.int (Nat.toInt32 i6)), .val (.int (Nat.toInt32 i10)), .val (.int w17), .val (.int (Nat.toInt32 (own_Fe u13 i6 v5 v4 v3))), .val (.int (1 : Int32)), .val (.ref b40), .val (.int (1 : Int32)), .val (.int v66), .val (.int v68), .val (.int v70), .unset] [(.ref b40)]))
                                  have F75 := (F59.keep Kq58 (ninS ne_b7_b40 nin0))
                                  obtain ⟨cq74, kq74, qa74, qb74, qc74⟩ := isOf hZ e69 F60
                                  obtain ⟨_, _, ⟨T74, L74, k74, n74⟩, -, X74, ⟨Lc74, hQ74, l74, y74, z74⟩, st74⟩ := X69.virtualBack hx (y := (⟨"com/example/enlace/enlace/graph/LineFields", "advance", "()Z"⟩ : MethodName)) (z := (⟨"com/example/enlace/enlace/graph/LineFields", "advance", "()Z"⟩ : MethodName)) hown (mvT hZ (hw _ (List.mem_of_getElem? (i := 44) rfl))) (mvT hZ (hw _ (List.mem_of_getElem? (i := 45) rfl))) (notFace_of_selects (args := #[]) (mvT hZ (hw _ (List.mem_of_getElem? (i := 47) rfl)))) (mvT hZ (hw _ (List.mem_of_getElem? (i := 47) rfl))) (mvT hZ (hw _ (List.mem_of_getElem? (i := 46) rfl))) (by decide) (backOf (W := 0) (rm8 l Z a0 hw [] b40 b7 k7 (16 : Int32) u13 EN (own_nq u13 EN (own_pos u13 i1 EN)) (own_nfs u13 EN (own_pos u13 i1 EN) (Nat.toInt32 i1)) (own_nft u13 EN (own_pos u13 i1 EN) (Nat.toInt32 i1)) h58 n0 Z58 F60 F61 F62 F63 F64 F65 F75 g_b40 ne_b7_b40 (own_nq_r (own_pos_r hTE.2)) (by omega) (by show (EN : Int) ≤ 16; omega)) hZ (hw _ (List.mem_of_getElem? (i := 48) rfl)) (hw _ (List.mem_of_getElem? (i := 3) rfl)) (by decide) (by decide)) qa74 qc74 (g := (mkF m 534 #[.val (.int p0), .val (.int p1), .val (.int p2), .val (.long p3), .second, .val (.int v1), .val (.int v2), .val (.int v3), .val (.int v4), .val (.int v5), .val (.int v6), .val (.ref b7), .val (.int (Nat.toInt32 i13)), .val (.int (Nat.toInt32 i1)), .val (.int (Nat.toInt32 i4)), .val (.int (Nat.toInt32 i6)), .val (.int (Nat.toInt32 i10)), .val (.int w17), .val (.int (Nat.toInt32 (own_Fe u13 i6 v5 v4 v3))), .val (.int (1 : Int32)), .val (.ref b40), .val (.int (1 : Int32)), .val (.int v66), .val (.int v68), .val (.int v70), .unset] [(.ref b40)])) rfl (by rw [hml]; rfl) (Steps.refl _) (argsL := []) (rest := []) (lenOf pd_6 rfl) rfl (by show 2 * 0 + _ ≤ _; exact Nat.le_of_eq rfl) (hb hby at_534) (fun _ _ => ⟨rfl, e69, (by decide : 2 + 0 ≤ _), (by decide : 21 + 0 ≤ _)⟩)
                                  dsimp only [Pt.U, Pt.locs, Pt.cells, Pt.slots] at X74 l74 y74 z74 st74 hQ74
                                  subst l74 y74 z74
                                  obtain ⟨h74, e74⟩ : ∃ h, T74.heap = h := ⟨_, rfl⟩
                                  rw [e74] at hQ74
                                  obtain ⟨rfl, N74q, Kq74, F76, F77, F78, F79, F80, F81⟩ := hQ74
                                  have Z74 : n0 ≤ h74.size := Nat.le_trans Z58 Kq74.1
                                  have N74 := Fr.app N69 N74q
                                  refine own_viaT st74 ?_
                                  show own_Go p e below s _ _ _ (T74.setTop (mkF m 537 #[.val (.int p0), .val (.int p1), .val (.int p2), .val (.long p3), .second, .val (.int v1), .val (.int v2), .val (.int v3), .val (.int v4), .val (.int v5), .val (.int v6), .val (.ref b7), .val (.int (Nat.toInt32 i13)), .val (.int (Nat.toInt32 i1)), .val (.int (Nat.toInt32 i4)), .val (.int (Nat.toInt32 i6)), .val (.int (Nat.toInt32 i10)), .val (.int w17), .val (.int (Nat.toInt32 (own_Fe u13 i6 v5 v4 v3))), .val (.int (1 : Int32)), .val (.ref b40), .val (.int (1 : Int32)), .val (.int v66), .val (.int v68), .val (.int v70), .unset] [(.int (own_nr u13 EN (own_nq u13 EN (own_pos u13 i1 EN))))]))
                                  refine own_via (fun _ k => XS.istore X74.here hx rfl (hb hby at_537) rfl (l' := #[.val (.int p0), .val (.int p1), .val (.int p2), .val (.long p3), .second, .val (.int v1), .val (.int v2), .val (.int v3), .val (.int v4), .val (.int v5), .val (.int v6), .val (.ref b7), .val (.int (Nat.toInt32 i13)), .val (.int (Nat.toInt32 i1)), .val (.int (Nat.toInt32 i4)), .val (.int (Nat.toInt32 i6)), .val (.int (Nat.toInt32 i10)), .val (.int w17), .val (.int (Nat.toInt32 (own_Fe u13 i6 v5 v4 v3))), .val (.int (1 : Int32)), .val (.ref b40), .val (.int (1 : Int32)), .val (.int v66), .val (.int v68), .val (.int v70), .val (.int (own_nr u13 EN (own_nq u13 EN (own_pos u13 i1 EN))))]) rfl k) ?_
                                  show own_Go p e below s _ _ _ (T74.setTop (mkF m 539 #[.val (.int p0), .val (.int p1), .val (.int p2), .val (.long p3), .second, .val (.int v1), .val (.int v2), .val (.int v3), .val (.int v4), .val (.int v5), .val (.int v6), .val (.ref b7), .val (.int (Nat.toInt32 i13)), .val (.int (Nat.toInt32 i1)), .val (.int (Nat.toInt32 i4)), .val (.int (Nat.toInt32 i6)), .val (.int (Nat.toInt32 i10)), .val (.int w17), .val (.int (Nat.toInt32 (own_Fe u13 i6 v5 v4 v3))), .val (.int (1 : Int32)), .val (.ref b40), .val (.int (1 : Int32)), .val (.int v66), .val (.int v68), .val (.int v70), .val (.int (own_nr u13 EN (own_nq u13 EN (own_pos u13 i1 EN))))] []))
                                  generalize hv82 : (own_nr u13 EN (own_nq u13 EN (own_pos u13 i1 EN))) = v82
                                  show own_Go p e below s _ _ _ (T74.setTop (mkF m 539 #[.val (.int p0), .val (.int p1), .val (.int p2), .val (.long p3), .second, .val (.int v1), .val (.int v2), .val (.int v3), .val (.int v4), .val (.int v5), .val (.int v6), .val (.ref b7), .val (.int (Nat.toInt32 i13)), .val (.int (Nat.toInt32 i1)), .val (.int (Nat.toInt32 i4)), .val (.int (Nat.toInt32 i6)), .val (.int (Nat.toInt32 i10)), .val (.int w17), .val (.int (Nat.toInt32 (own_Fe u13 i6 v5 v4 v3))), .val (.int (1 : Int32)), .val (.ref b40), .val (.int (1 : Int32)), .val (.int v66), .val (.int v68), .val (.int v70), .val (.int v82)] []))
                                  refine own_via (fun _ k => XS.iload X74.here hx rfl (hb hby at_539) rfl k) ?_
                                  show own_Go p e below s _ _ _ (T74.setTop (mkF m 541 #[.val (.int p0), .val (.int p1), .val (.int p2), .val (.long p3), .second, .val (.int v1), .val (.int v2), .val (.int v3), .val (.int v4), .val (.int v5), .val (.int v6), .val (.ref b7), .val (.int (Nat.toInt32 i13)), .val (.int (Nat.toInt32 i1)), .val (.int (Nat.toInt32 i4)), .val (.int (Nat.toInt32 i6)), .val (.int (Nat.toInt32 i10)), .val (.int w17), .val (.int (Nat.toInt32 (own_Fe u13 i6 v5 v4 v3))), .val (.int (1 : Int32)), .val (.ref b40), .val (.int (1 : Int32)), .val (.int v66), .val (.int v68), .val (.int v70), .val (.int v82)] [(.int (1 : Int32))]))
                                  refine own_via (fun _ k => XS.ifNo X74.here hx rfl (hb hby at_541) rfl (Jvm.Free.XT.i0_eq_f (by decide)) k) ?_
                                  show own_Go p e below s _ _ _ (T74.setTop (mkF m 544 #[.val (.int p0), .val (.int p1), .val (.int p2), .val (.long p3), .second, .val (.int v1), .val (.int v2), .val (.int v3), .val (.int v4), .val (.int v5), .val (.int v6), .val (.ref b7), .val (.int (Nat.toInt32 i13)), .val (.int (Nat.toInt32 i1)), .val (.int (Nat.toInt32 i4)), .val (.int (Nat.toInt32 i6)), .val (.int (Nat.toInt32 i10)), .val (.int w17), .val (.int (Nat.toInt32 (own_Fe u13 i6 v5 v4 v3))), .val (.int (1 : Int32)), .val (.ref b40), .val (.int (1 : Int32)), .val (.int v66), .val (.int v68), .val (.int v70), .val (.int v82)] []))
                                  refine own_via (fun _ k => XS.iload X74.here hx rfl (hb hby at_544) rfl k) ?_
                                  show own_Go p e below s _ _ _ (T74.setTop (mkF m 546 #[.val (.int p0), .val (.int p1), .val (.int p2), .val (.long p3), .second, .val (.int v1), .val (.int v2), .val (.int v3), .val (.int v4), .val (.int v5), .val (.int v6), .val (.ref b7), .val (.int (Nat.toInt32 i13)), .val (.int (Nat.toInt32 i1)), .val (.int (Nat.toInt32 i4)), .val (.int (Nat.toInt32 i6)), .val (.int (Nat.toInt32 i10)), .val (.int w17), .val (.int (Nat.toInt32 (own_Fe u13 i6 v5 v4 v3))), .val (.int (1 : Int32)), .val (.ref b40), .val (.int (1 : Int32)), .val (.int v66), .val (.int v68), .val (.int v70), .val (.int v82)] [(.int v82)]))
                                  have hc83 : v82 = (0 : Int32) := by (rw [← hv82, r4]) <;> decide
                                  refine own_via (fun _ k => XS.ifNo X74.here hx rfl (hb hby at_546) rfl (Jvm.Free.XT.i0_ne_f hc83) k) ?_
                                  show own_Go p e below s _ _ _ (T74.setTop (mkF m 549 #[.val (.int p0), .val (.int p1), .val (.int p2), .val (.long p3), .second, .val (.int v1), .val (.int v2), .val (.int v3), .val (.int v4), .val (.int v5), .val (.int v6), .val (.ref b7), .val (.int (Nat.toInt32 i13)), .val (.int (Nat.toInt32 i1)), .val (.int (Nat.toInt32 i4)), .val (.int (Nat.toInt32 i6)), .val (.int (Nat.toInt32 i10)), .val (.int w17), .val (.int (Nat.toInt32 (own_Fe u13 i6 v5 v4 v3))), .val (.int (1 : Int32)), .val (.ref b40), .val (.int (1 : Int32)), .val (.int v66), .val (.int v68), .val (.int v70), .val (.int v82)] []))
                                  refine own_via (fun _ k => XS.iconst X74.here hx rfl (hb hby at_549) k) ?_
                                  show own_Go p e below s _ _ _ (T74.setTop (mkF m 550 #[.val (.int p0), .val (.int p1), .val (.int p2), .val (.long p3), .second, .val (.int v1), .val (.int v2), .val (.int v3), .val (.int v4), .val (.int v5), .val (.int v6), .val (.ref b7), .val (.int (Nat.toInt32 i13)), .val (.int (Nat.toInt32 i1)), .val (.int (Nat.toInt32 i4)), .val (.int (Nat.toInt32 i6)), .val (.int (Nat.toInt32 i10)), .val (.int w17), .val (.int (Nat.toInt32 (own_Fe u13 i6 v5 v4 v3))), .val (.int (1 : Int32)), .val (.ref b40), .val (.int (1 : Int32)), .val (.int v66), .val (.int v68), .val (.int v70), .val (.int v82)] [(.int (1 : Int32))]))
                                  refine own_via (fun _ k => XS.goto X74.here hx rfl (pc0 := 550) (pc' := 554) rfl (hb hby at_550) (by decide) (by decide) k) ?_
                                  show own_Go p e below s _ _ _ (T74.setTop (mkF m 554 #[.val (.int p0), .val (.int p1), .val (.int p2), .val (.long p3), .second, .val (.int v1), .val (.int v2), .val (.int v3), .val (.int v4), .val (.int v5), .val (.int v6), .val (.ref b7), .val (.int (Nat.toInt32 i13)), .val (.int (Nat.toInt32 i1)), .val (.int (Nat.toInt32 i4)), .val (.int (Nat.toInt32 i6)), .val (.int (Nat.toInt32 i10)), .val (.int w17), .val (.int (Nat.toInt32 (own_Fe u13 i6 v5 v4 v3))), .val (.int (1 : Int32)), .val (.ref b40), .val (.int (1 : Int32)), .val (.int v66), .val (.int v68), .val (.int v70), .val (.int v82)] [(.int (1 : Int32))]))
                                  exact own_goN X74 hx (t := .boolean) Bd.returns (by simp) (hb hby at_554) Bd.notSynchronized (by decide) (by decide) (by rw [e74]; exact ⟨rfl, N74⟩)
                                · show own_Go p e below s _ _ _ (T38.setTop (mkF m 384 #[.val (.int p0), .val (.int p1), .val (.int p2), .val (.long p3), .second, .val (.int v1), .val (.int v2), .val (.int v3), .val (.int v4), .val (.int v5), .val (.int v6), .val (.ref b7), .val (.int (Nat.toInt32 i13)), .val (.int (Nat.toInt32 i1)), .val (.int (Nat.toInt32 i4)), .val (.int (Nat.toInt32 i6)), .val (.int (Nat.toInt32 i10)), .val (.int w17), .val (.int (Nat.toInt32 (own_Fe u13 i6 v5 v4 v3))), .val (.int (0 : Int32)), .unset, .unset, .unset, .unset, .unset, .unset] []))
                                  obtain ⟨r1, r2, r3, r4⟩ := hT.2 hHF
                                  obtain ⟨T84, h84, X84, e84, E84, A84, D84, -, st84⟩ := newO X38 hx hZ hown (hw _ (List.mem_of_getElem? (i := 1) rfl)) (hw _ (List.mem_of_getElem? (i := 2) rfl)) (hw _ (List.mem_of_getElem? (i := 3) rfl)) e38 (g := (mkF m 384 #[.val (.int p0), .val (.int p1), .val (.int p2), .val (.long p3), .second, .val (.int v1), .val (.int v2), .val (.int v3), .val (.int v4), .val (.int v5), .val (.int v6), .val (.ref b7), .val (.int (Nat.toInt32 i13)), .val (.int (Nat.toInt32 i1)), .val (.int (Nat.toInt32 i4)), .val (.int (Nat.toInt32 i6)), .val (.int (Nat.toInt32 i10)), .val (.int w17), .val (.int (Nat.toInt32 (own_Fe u13 i6 v5 v4 v3))), .val (.int (0 : Int32)), .unset, .unset, .unset, .unset, .unset, .unset] [])) rfl (hb hby at_384) (by decide) (by decide)
                                  obtain ⟨b84, gg84⟩ : ∃ z, z = h38.size := ⟨_, rfl⟩
                                  rw [← gg84] at A84 D84 st84
                                  have ne_b7_b84 : b7 ≠ b84 := Nat.ne_of_lt (Nat.lt_of_lt_of_le F39.lt (Nat.le_of_eq gg84.symm))
                                  have g_b84 : n0 ≤ b84 := Nat.le_trans Z38 (Nat.le_of_eq gg84.symm)
                                  have Z84 : n0 ≤ h84.size := Nat.le_trans Z38 E84.1
                                  have F85 : Fld Z h84 b84 "com/example/enlace/enlace/graph/LineFields" "bytes" "[B" .null := D84 (Or.inl (hw _ (List.mem_of_getElem? (i := 16) rfl))) (ty := (.array .byte)) (by decide)
                                  have F86 : Fld Z h84 b84 "com/example/enlace/enlace/graph/LineFields" "end" "I" (.int (0 : Int32)) := D84 (Or.inl (hw _ (List.mem_of_getElem? (i := 18) rfl))) (ty := .int) (by decide)
                                  have F87 : Fld Z h84 b84 "com/example/enlace/enlace/graph/LineFields" "position" "I" (.int (0 : Int32)) := D84 (Or.inl (hw _ (List.mem_of_getElem? (i := 24) rfl))) (ty := .int) (by decide)
                                  have F88 : Fld Z h84 b84 "com/example/enlace/enlace/graph/LineFields" "fieldStart" "I" (.int (0 : Int32)) := D84 (Or.inl (hw _ (List.mem_of_getElem? (i := 26) rfl))) (ty := .int) (by decide)
                                  have F89 : Fld Z h84 b84 "com/example/enlace/enlace/graph/LineFields" "fieldEnd" "I" (.int (0 : Int32)) := D84 (Or.inl (hw _ (List.mem_of_getElem? (i := 28) rfl))) (ty := .int) (by decide)
                                  refine own_via st84 ?_
                                  show own_Go p e below s _ _ _ (T84.setTop (mkF m 387 #[.val (.int p0), .val (.int p1), .val (.int p2), .val (.long p3), .second, .val (.int v1), .val (.int v2), .val (.int v3), .val (.int v4), .val (.int v5), .val (.int v6), .val (.ref b7), .val (.int (Nat.toInt32 i13)), .val (.int (Nat.toInt32 i1)), .val (.int (Nat.toInt32 i4)), .val (.int (Nat.toInt32 i6)), .val (.int (Nat.toInt32 i10)), .val (.int w17), .val (.int (Nat.toInt32 (own_Fe u13 i6 v5 v4 v3))), .val (.int (0 : Int32)), .unset, .unset, .unset, .unset, .unset, .unset] [(.ref b84)]))
                                  refine own_via (fun _ k => XS.dup X84.here hx rfl (hb hby at_387) rfl rfl k) ?_
                                  show own_Go p e below s _ _ _ (T84.setTop (mkF m 388 #[.val (.int p0), .val (.int p1), .val (.int p2), .val (.long p3), .second, .val (.int v1), .val (.int v2), .val (.int v3), .val (.int v4), .val (.int v5), .val (.int v6), .val (.ref b7), .val (.int (Nat.toInt32 i13)), .val (.int (Nat.toInt32 i1)), .val (.int (Nat.toInt32 i4)), .val (.int (Nat.toInt32 i6)), .val (.int (Nat.toInt32 i10)), .val (.int w17), .val (.int (Nat.toInt32 (own_Fe u13 i6 v5 v4 v3))), .val (.int (0 : Int32)), .unset, .unset, .unset, .unset, .unset, .unset] [(.ref b84), (.ref b84)]))
                                  obtain ⟨_, _, ⟨T90, L90, k90, n90⟩, -, X90, ⟨Lc90, hQ90, l90, y90, z90⟩, st90⟩ := X84.specialBack hx (y := (⟨"com/example/enlace/enlace/graph/LineFields", "<init>", "()V"⟩ : MethodName)) rfl hown (mvT hZ (hw _ (List.mem_of_getElem? (i := 4) rfl))) (mvT hZ (hw _ (List.mem_of_getElem? (i := 5) rfl))) (mvT hZ (hw _ (List.mem_of_getElem? (i := 6) rfl))) (by decide) (backOf (W := 1) (rm1 l Z a0 hw [] b84 h84 n0 Z84 ) hZ (hw _ (List.mem_of_getElem? (i := 6) rfl)) (hw _ (List.mem_of_getElem? (i := 3) rfl)) (by decide) (by decide)) (g := (mkF m 388 #[.val (.int p0), .val (.int p1), .val (.int p2), .val (.long p3), .second, .val (.int v1), .val (.int v2), .val (.int v3), .val (.int v4), .val (.int v5), .val (.int v6), .val (.ref b7), .val (.int (Nat.toInt32 i13)), .val (.int (Nat.toInt32 i1)), .val (.int (Nat.toInt32 i4)), .val (.int (Nat.toInt32 i6)), .val (.int (Nat.toInt32 i10)), .val (.int w17), .val (.int (Nat.toInt32 (own_Fe u13 i6 v5 v4 v3))), .val (.int (0 : Int32)), .unset, .unset, .unset, .unset, .unset, .unset] [(.ref b84), (.ref b84)])) rfl (by rw [hml]; rfl) (Steps.refl _) (a := b84) (argsL := []) (rest := [(.ref b84)]) (lenOf pd_2 rfl) rfl (by show 2 * 0 + _ ≤ _; exact Nat.le_of_eq rfl) (hb hby at_388) (fun _ _ => ⟨rfl, e84, (by decide : 2 + 0 ≤ _), (by decide : 21 + 0 ≤ _)⟩)
                                  dsimp only [Pt.U, Pt.locs, Pt.cells, Pt.slots] at X90 l90 y90 z90 st90 hQ90
                                  subst l90 y90 z90
                                  obtain ⟨rfl, N90q, e90⟩ := hQ90
                                  have N90 := Fr.app N38 N90q
                                  refine own_viaT st90 ?_
                                  show own_Go p e below s _ _ _ (T90.setTop (mkF m 391 #[.val (.int p0), .val (.int p1), .val (.int p2), .val (.long p3), .second, .val (.int v1), .val (.int v2), .val (.int v3), .val (.int v4), .val (.int v5), .val (.int v6), .val (.ref b7), .val (.int (Nat.toInt32 i13)), .val (.int (Nat.toInt32 i1)), .val (.int (Nat.toInt32 i4)), .val (.int (Nat.toInt32 i6)), .val (.int (Nat.toInt32 i10)), .val (.int w17), .val (.int (Nat.toInt32 (own_Fe u13 i6 v5 v4 v3))), .val (.int (0 : Int32)), .unset, .unset, .unset, .unset, .unset, .unset] [(.ref b84)]))
                                  refine own_via (fun _ k => XS.astore X90.here hx rfl (hb hby at_391) rfl rfl (l' := #[.val (.int p0), .val (.int p1), .val (.int p2), .val (.long p3), .second, .val (.int v1), .val (.int v2), .val (.int v3), .val (.int v4), .val (.int v5), .val (.int v6), .val (.ref b7), .val (.int (Nat.toInt32 i13)), .val (.int (Nat.toInt32 i1)), .val (.int (Nat.toInt32 i4)), .val (.int (Nat.toInt32 i6)), .val (.int (Nat.toInt32 i10)), .val (.int w17), .val (.int (Nat.toInt32 (own_Fe u13 i6 v5 v4 v3))), .val (.int (0 : Int32)), .val (.ref b84), .unset, .unset, .unset, .unset, .unset]) rfl k) ?_
                                  show own_Go p e below s _ _ _ (T90.setTop (mkF m 393 #[.val (.int p0), .val (.int p1), .val (.int p2), .val (.long p3), .second, .val (.int v1), .val (.int v2), .val (.int v3), .val (.int v4), .val (.int v5), .val (.int v6), .val (.ref b7), .val (.int (Nat.toInt32 i13)), .val (.int (Nat.toInt32 i1)), .val (.int (Nat.toInt32 i4)), .val (.int (Nat.toInt32 i6)), .val (.int (Nat.toInt32 i10)), .val (.int w17), .val (.int (Nat.toInt32 (own_Fe u13 i6 v5 v4 v3))), .val (.int (0 : Int32)), .val (.ref b84), .unset, .unset, .unset, .unset, .unset] []))
                                  refine own_via (fun _ k => XS.aload X90.here hx rfl (hb hby at_393) rfl rfl k) ?_
                                  show own_Go p e below s _ _ _ (T90.setTop (mkF m 395 #[.val (.int p0), .val (.int p1), .val (.int p2), .val (.long p3), .second, .val (.int v1), .val (.int v2), .val (.int v3), .val (.int v4), .val (.int v5), .val (.int v6), .val (.ref b7), .val (.int (Nat.toInt32 i13)), .val (.int (Nat.toInt32 i1)), .val (.int (Nat.toInt32 i4)), .val (.int (Nat.toInt32 i6)), .val (.int (Nat.toInt32 i10)), .val (.int w17), .val (.int (Nat.toInt32 (own_Fe u13 i6 v5 v4 v3))), .val (.int (0 : Int32)), .val (.ref b84), .unset, .unset, .unset, .unset, .unset] [(.ref b84)]))
                                  refine own_via (fun _ k => XS.aload X90.here hx rfl (hb hby at_395) rfl rfl k) ?_
                                  show own_Go p e below s _ _ _ (T90.setTop (mkF m 397 #[.val (.int p0), .val (.int p1), .val (.int p2), .val (.long p3), .second, .val (.int v1), .val (.int v2), .val (.int v3), .val (.int v4), .val (.int v5), .val (.int v6), .val (.ref b7), .val (.int (Nat.toInt32 i13)), .val (.int (Nat.toInt32 i1)), .val (.int (Nat.toInt32 i4)), .val (.int (Nat.toInt32 i6)), .val (.int (Nat.toInt32 i10)), .val (.int w17), .val (.int (Nat.toInt32 (own_Fe u13 i6 v5 v4 v3))), .val (.int (0 : Int32)), .val (.ref b84), .unset, .unset, .unset, .unset, .unset] [(.ref b7), (.ref b84)]))
                                  refine own_via (fun _ k => XS.iload X90.here hx rfl (hb hby at_397) rfl k) ?_
                                  show own_Go p e below s _ _ _ (T90.setTop (mkF m 399 #[.val (.int p0), .val (.int p1), .val (.int p2), .val (.long p3), .second, .val (.int v1), .val (.int v2), .val (.int v3), .val (.int v4), .val (.int v5), .val (.int v6), .val (.ref b7), .val (.int (Nat.toInt32 i13)), .val (.int (Nat.toInt32 i1)), .val (.int (Nat.toInt32 i4)), .val (.int (Nat.toInt32 i6)), .val (.int (Nat.toInt32 i10)), .val (.int w17), .val (.int (Nat.toInt32 (own_Fe u13 i6 v5 v4 v3))), .val (.int (0 : Int32)), .val (.ref b84), .unset, .unset, .unset, .unset, .unset] [(.int (Nat.toInt32 i1)), (.ref b7), (.ref b84)]))
                                  refine own_via (fun _ k => XS.iload X90.here hx rfl (hb hby at_399) rfl k) ?_
                                  show own_Go p e below s _ _ _ (T90.setTop (mkF m 401 #[.val (.int p0), .val (.int p1), .val (.int p2), .val (.long p3), .second, .val (.int v1), .val (.int v2), .val (.int v3), .val (.int v4), .val (.int v5), .val (.int v6), .val (.ref b7), .val (.int (Nat.toInt32 i13)), .val (.int (Nat.toInt32 i1)), .val (.int (Nat.toInt32 i4)), .val (.int (Nat.toInt32 i6)), .val (.int (Nat.toInt32 i10)), .val (.int w17), .val (.int (Nat.toInt32 (own_Fe u13 i6 v5 v4 v3))), .val (.int (0 : Int32)), .val (.ref b84), .unset, .unset, .unset, .unset, .unset] [(.int (Nat.toInt32 i10)), (.int (Nat.toInt32 i1)), (.ref b7), (.ref b84)]))
                                  have F92 := (F39.ext E84)
                                  obtain ⟨cq91, kq91, qa91, qb91, qc91⟩ := isOf hZ e90 A84
                                  obtain ⟨_, _, ⟨T91, L91, k91, n91⟩, -, X91, ⟨Lc91, hQ91, l91, y91, z91⟩, st91⟩ := X90.virtualBack hx (y := (⟨"com/example/enlace/enlace/graph/LineFields", "reset", "([BII)V"⟩ : MethodName)) (z := (⟨"com/example/enlace/enlace/graph/LineFields", "reset", "([BII)V"⟩ : MethodName)) hown (mvT hZ (hw _ (List.mem_of_getElem? (i := 10) rfl))) (mvT hZ (hw _ (List.mem_of_getElem? (i := 11) rfl))) (notFace_of_selects (args := #[]) (mvT hZ (hw _ (List.mem_of_getElem? (i := 13) rfl)))) (mvT hZ (hw _ (List.mem_of_getElem? (i := 13) rfl))) (mvT hZ (hw _ (List.mem_of_getElem? (i := 12) rfl))) (by decide) (backOf (W := 0) (rm3 l Z a0 hw [] b84 b7 (Nat.toInt32 i1) (Nat.toInt32 i10) .null (0 : Int32) (0 : Int32) (0 : Int32) (0 : Int32) k7 (16 : Int32) u13 i1 i10 h84 n0 Z84 A84 F85 F86 F87 F88 F89 F92 g_b84 ne_b7_b84 rfl rfl (by omega) (by omega) (by show (i10 : Int) ≤ 16; omega)) hZ (hw _ (List.mem_of_getElem? (i := 14) rfl)) (hw _ (List.mem_of_getElem? (i := 3) rfl)) (by decide) (by decide)) qa91 qc91 (g := (mkF m 401 #[.val (.int p0), .val (.int p1), .val (.int p2), .val (.long p3), .second, .val (.int v1), .val (.int v2), .val (.int v3), .val (.int v4), .val (.int v5), .val (.int v6), .val (.ref b7), .val (.int (Nat.toInt32 i13)), .val (.int (Nat.toInt32 i1)), .val (.int (Nat.toInt32 i4)), .val (.int (Nat.toInt32 i6)), .val (.int (Nat.toInt32 i10)), .val (.int w17), .val (.int (Nat.toInt32 (own_Fe u13 i6 v5 v4 v3))), .val (.int (0 : Int32)), .val (.ref b84), .unset, .unset, .unset, .unset, .unset] [(.int (Nat.toInt32 i10)), (.int (Nat.toInt32 i1)), (.ref b7), (.ref b84)])) rfl (by rw [hml]; rfl) (Steps.refl _) (argsL := [(.ref b7), (.int (Nat.toInt32 i1)), (.int (Nat.toInt32 i10))]) (rest := []) (lenOf pd_3 rfl) rfl (by show 2 * 0 + _ ≤ _; exact Nat.le_of_eq rfl) (hb hby at_401) (fun _ _ => ⟨rfl, e90, (by decide : 2 + 0 ≤ _), (by decide : 21 + 0 ≤ _)⟩)
                                  dsimp only [Pt.U, Pt.locs, Pt.cells, Pt.slots] at X91 l91 y91 z91 st91 hQ91
                                  subst l91 y91 z91
                                  obtain ⟨h91, e91⟩ : ∃ h, T91.heap = h := ⟨_, rfl⟩
                                  rw [e91] at hQ91
                                  obtain ⟨rfl, N91q, Kq91, F93, F94, F95, F96, F97, F98⟩ := hQ91
                                  have Z91 : n0 ≤ h91.size := Nat.le_trans Z84 Kq91.1
                                  have N91 := Fr.app N90 N91q
                                  refine own_viaT st91 ?_
                                  show own_Go p e below s _ _ _ (T91.setTop (mkF m 404 #[.val (.int p0), .val (.int p1), .val (.int p2), .val (.long p3), .second, .val (.int v1), .val (.int v2), .val (.int v3), .val (.int v4), .val (.int v5), .val (.int v6), .val (.ref b7), .val (.int (Nat.toInt32 i13)), .val (.int (Nat.toInt32 i1)), .val (.int (Nat.toInt32 i4)), .val (.int (Nat.toInt32 i6)), .val (.int (Nat.toInt32 i10)), .val (.int w17), .val (.int (Nat.toInt32 (own_Fe u13 i6 v5 v4 v3))), .val (.int (0 : Int32)), .val (.ref b84), .unset, .unset, .unset, .unset, .unset] []))
                                  rw [hEN] at F95
                                  rw [hEN] at F96
                                  refine own_via (fun _ k => XS.aload X91.here hx rfl (hb hby at_404) rfl rfl k) ?_
                                  show own_Go p e below s _ _ _ (T91.setTop (mkF m 406 #[.val (.int p0), .val (.int p1), .val (.int p2), .val (.long p3), .second, .val (.int v1), .val (.int v2), .val (.int v3), .val (.int v4), .val (.int v5), .val (.int v6), .val (.ref b7), .val (.int (Nat.toInt32 i13)), .val (.int (Nat.toInt32 i1)), .val (.int (Nat.toInt32 i4)), .val (.int (Nat.toInt32 i6)), .val (.int (Nat.toInt32 i10)), .val (.int w17), .val (.int (Nat.toInt32 (own_Fe u13 i6 v5 v4 v3))), .val (.int (0 : Int32)), .val (.ref b84), .unset, .unset, .unset, .unset, .unset] [(.ref b84)]))
                                  obtain ⟨cq99, kq99, qa99, qb99, qc99⟩ := isOf hZ e91 F93
                                  obtain ⟨_, _, ⟨T99, L99, k99, n99⟩, -, X99, ⟨Lc99, hQ99, l99, y99, z99⟩, st99⟩ := X91.virtualBack hx (y := (⟨"com/example/enlace/enlace/graph/LineFields", "bytes", "()[B"⟩ : MethodName)) (z := (⟨"com/example/enlace/enlace/graph/LineFields", "bytes", "()[B"⟩ : MethodName)) hown (mvT hZ (hw _ (List.mem_of_getElem? (i := 29) rfl))) (mvT hZ (hw _ (List.mem_of_getElem? (i := 30) rfl))) (notFace_of_selects (args := #[]) (mvT hZ (hw _ (List.mem_of_getElem? (i := 32) rfl)))) (mvT hZ (hw _ (List.mem_of_getElem? (i := 32) rfl))) (mvT hZ (hw _ (List.mem_of_getElem? (i := 31) rfl))) (by decide) (backOf (W := 0) (rm5 l Z a0 hw [] b84 b7 h91 n0 Z91 F94) hZ (hw _ (List.mem_of_getElem? (i := 33) rfl)) (hw _ (List.mem_of_getElem? (i := 3) rfl)) (by decide) (by decide)) qa99 qc99 (g := (mkF m 406 #[.val (.int p0), .val (.int p1), .val (.int p2), .val (.long p3), .second, .val (.int v1), .val (.int v2), .val (.int v3), .val (.int v4), .val (.int v5), .val (.int v6), .val (.ref b7), .val (.int (Nat.toInt32 i13)), .val (.int (Nat.toInt32 i1)), .val (.int (Nat.toInt32 i4)), .val (.int (Nat.toInt32 i6)), .val (.int (Nat.toInt32 i10)), .val (.int w17), .val (.int (Nat.toInt32 (own_Fe u13 i6 v5 v4 v3))), .val (.int (0 : Int32)), .val (.ref b84), .unset, .unset, .unset, .unset, .unset] [(.ref b84)])) rfl (by rw [hml]; rfl) (Steps.refl _) (argsL := []) (rest := []) (lenOf pd_4 rfl) rfl (by show 2 * 0 + _ ≤ _; exact Nat.le_of_eq rfl) (hb hby at_406) (fun _ _ => ⟨rfl, e91, (by decide : 2 + 0 ≤ _), (by decide : 21 + 0 ≤ _)⟩)
                                  dsimp only [Pt.U, Pt.locs, Pt.cells, Pt.slots] at X99 l99 y99 z99 st99 hQ99
                                  subst l99 y99 z99
                                  obtain ⟨rfl, N99q, e99⟩ := hQ99
                                  have N99 := Fr.app N91 N99q
                                  refine own_viaT st99 ?_
                                  show own_Go p e below s _ _ _ (T99.setTop (mkF m 409 #[.val (.int p0), .val (.int p1), .val (.int p2), .val (.long p3), .second, .val (.int v1), .val (.int v2), .val (.int v3), .val (.int v4), .val (.int v5), .val (.int v6), .val (.ref b7), .val (.int (Nat.toInt32 i13)), .val (.int (Nat.toInt32 i1)), .val (.int (Nat.toInt32 i4)), .val (.int (Nat.toInt32 i6)), .val (.int (Nat.toInt32 i10)), .val (.int w17), .val (.int (Nat.toInt32 (own_Fe u13 i6 v5 v4 v3))), .val (.int (0 : Int32)), .val (.ref b84), .unset, .unset, .unset, .unset, .unset] [(.ref b7)]))
                                  refine own_via (fun _ k => XS.aload X99.here hx rfl (hb hby at_409) rfl rfl k) ?_
                                  show own_Go p e below s _ _ _ (T99.setTop (mkF m 411 #[.val (.int p0), .val (.int p1), .val (.int p2), .val (.long p3), .second, .val (.int v1), .val (.int v2), .val (.int v3), .val (.int v4), .val (.int v5), .val (.int v6), .val (.ref b7), .val (.int (Nat.toInt32 i13)), .val (.int (Nat.toInt32 i1)), .val (.int (Nat.toInt32 i4)), .val (.int (Nat.toInt32 i6)), .val (.int (Nat.toInt32 i10)), .val (.int w17), .val (.int (Nat.toInt32 (own_Fe u13 i6 v5 v4 v3))), .val (.int (0 : Int32)), .val (.ref b84), .unset, .unset, .unset, .unset, .unset] [(.ref b7), (.ref b7)]))
                                  refine own_via (fun _ k => Jvm.RoadKit.acmp (g := (mkF m 411 #[.val (.int p0), .val (.int p1), .val (.int p2), .val (.long p3), .second, .val (.int v1), .val (.int v2), .val (.int v3), .val (.int v4), .val (.int v5), .val (.int v6), .val (.ref b7), .val (.int (Nat.toInt32 i13)), .val (.int (Nat.toInt32 i1)), .val (.int (Nat.toInt32 i4)), .val (.int (Nat.toInt32 i6)), .val (.int (Nat.toInt32 i10)), .val (.int w17), .val (.int (Nat.toInt32 (own_Fe u13 i6 v5 v4 v3))), .val (.int (0 : Int32)), .val (.ref b84), .unset, .unset, .unset, .unset, .unset] [(.ref b7), (.ref b7)])) X99 hx rfl rfl rfl (pc0 := 411) (pc' := 414) (same := true) rfl (hb hby at_411) rfl (decide_eq_true rfl) (by decide) (by decide) k) ?_
                                  show own_Go p e below s _ _ _ (T99.setTop (mkF m 414 #[.val (.int p0), .val (.int p1), .val (.int p2), .val (.long p3), .second, .val (.int v1), .val (.int v2), .val (.int v3), .val (.int v4), .val (.int v5), .val (.int v6), .val (.ref b7), .val (.int (Nat.toInt32 i13)), .val (.int (Nat.toInt32 i1)), .val (.int (Nat.toInt32 i4)), .val (.int (Nat.toInt32 i6)), .val (.int (Nat.toInt32 i10)), .val (.int w17), .val (.int (Nat.toInt32 (own_Fe u13 i6 v5 v4 v3))), .val (.int (0 : Int32)), .val (.ref b84), .unset, .unset, .unset, .unset, .unset] []))
                                  refine own_via (fun _ k => XS.aload X99.here hx rfl (hb hby at_414) rfl rfl k) ?_
                                  show own_Go p e below s _ _ _ (T99.setTop (mkF m 416 #[.val (.int p0), .val (.int p1), .val (.int p2), .val (.long p3), .second, .val (.int v1), .val (.int v2), .val (.int v3), .val (.int v4), .val (.int v5), .val (.int v6), .val (.ref b7), .val (.int (Nat.toInt32 i13)), .val (.int (Nat.toInt32 i1)), .val (.int (Nat.toInt32 i4)), .val (.int (Nat.toInt32 i6)), .val (.int (Nat.toInt32 i10)), .val (.int w17), .val (.int (Nat.toInt32 (own_Fe u13 i6 v5 v4 v3))), .val (.int (0 : Int32)), .val (.ref b84), .unset, .unset, .unset, .unset, .unset] [(.ref b84)]))
                                  obtain ⟨cq100, kq100, qa100, qb100, qc100⟩ := isOf hZ e99 F93
                                  obtain ⟨_, _, ⟨T100, L100, k100, n100⟩, -, X100, ⟨Lc100, hQ100, l100, y100, z100⟩, st100⟩ := X99.virtualBack hx (y := (⟨"com/example/enlace/enlace/graph/LineFields", "fieldStart", "()I"⟩ : MethodName)) (z := (⟨"com/example/enlace/enlace/graph/LineFields", "fieldStart", "()I"⟩ : MethodName)) hown (mvT hZ (hw _ (List.mem_of_getElem? (i := 34) rfl))) (mvT hZ (hw _ (List.mem_of_getElem? (i := 35) rfl))) (notFace_of_selects (args := #[]) (mvT hZ (hw _ (List.mem_of_getElem? (i := 37) rfl)))) (mvT hZ (hw _ (List.mem_of_getElem? (i := 37) rfl))) (mvT hZ (hw _ (List.mem_of_getElem? (i := 36) rfl))) (by decide) (backOf (W := 0) (rm6 l Z a0 hw [] b84 (Nat.toInt32 i1) h91 n0 Z91 F97) hZ (hw _ (List.mem_of_getElem? (i := 38) rfl)) (hw _ (List.mem_of_getElem? (i := 3) rfl)) (by decide) (by decide)) qa100 qc100 (g := (mkF m 416 #[.val (.int p0), .val (.int p1), .val (.int p2), .val (.long p3), .second, .val (.int v1), .val (.int v2), .val (.int v3), .val (.int v4), .val (.int v5), .val (.int v6), .val (.ref b7), .val (.int (Nat.toInt32 i13)), .val (.int (Nat.toInt32 i1)), .val (.int (Nat.toInt32 i4)), .val (.int (Nat.toInt32 i6)), .val (.int (Nat.toInt32 i10)), .val (.int w17), .val (.int (Nat.toInt32 (own_Fe u13 i6 v5 v4 v3))), .val (.int (0 : Int32)), .val (.ref b84), .unset, .unset, .unset, .unset, .unset] [(.ref b84)])) rfl (by rw [hml]; rfl) (Steps.refl _) (argsL := []) (rest := []) (lenOf pd_5 rfl) rfl (by show 2 * 0 + _ ≤ _; exact Nat.le_of_eq rfl) (hb hby at_416) (fun _ _ => ⟨rfl, e99, (by decide : 2 + 0 ≤ _), (by decide : 21 + 0 ≤ _)⟩)
                                  dsimp only [Pt.U, Pt.locs, Pt.cells, Pt.slots] at X100 l100 y100 z100 st100 hQ100
                                  subst l100 y100 z100
                                  obtain ⟨rfl, N100q, e100⟩ := hQ100
                                  have N100 := Fr.app N99 N100q
                                  refine own_viaT st100 ?_
                                  show own_Go p e below s _ _ _ (T100.setTop (mkF m 419 #[.val (.int p0), .val (.int p1), .val (.int p2), .val (.long p3), .second, .val (.int v1), .val (.int v2), .val (.int v3), .val (.int v4), .val (.int v5), .val (.int v6), .val (.ref b7), .val (.int (Nat.toInt32 i13)), .val (.int (Nat.toInt32 i1)), .val (.int (Nat.toInt32 i4)), .val (.int (Nat.toInt32 i6)), .val (.int (Nat.toInt32 i10)), .val (.int w17), .val (.int (Nat.toInt32 (own_Fe u13 i6 v5 v4 v3))), .val (.int (0 : Int32)), .val (.ref b84), .unset, .unset, .unset, .unset, .unset] [(.int (Nat.toInt32 i1))]))
                                  refine own_via (fun _ k => XS.iload X100.here hx rfl (hb hby at_419) rfl k) ?_
                                  show own_Go p e below s _ _ _ (T100.setTop (mkF m 421 #[.val (.int p0), .val (.int p1), .val (.int p2), .val (.long p3), .second, .val (.int v1), .val (.int v2), .val (.int v3), .val (.int v4), .val (.int v5), .val (.int v6), .val (.ref b7), .val (.int (Nat.toInt32 i13)), .val (.int (Nat.toInt32 i1)), .val (.int (Nat.toInt32 i4)), .val (.int (Nat.toInt32 i6)), .val (.int (Nat.toInt32 i10)), .val (.int w17), .val (.int (Nat.toInt32 (own_Fe u13 i6 v5 v4 v3))), .val (.int (0 : Int32)), .val (.ref b84), .unset, .unset, .unset, .unset, .unset] [(.int (Nat.toInt32 i1)), (.int (Nat.toInt32 i1))]))
                                  refine own_via (fun _ k => XS.icmpNo X100.here hx rfl (hb hby at_421) rfl (Jvm.Free.XT.ii_ne_f rfl) k) ?_
                                  show own_Go p e below s _ _ _ (T100.setTop (mkF m 424 #[.val (.int p0), .val (.int p1), .val (.int p2), .val (.long p3), .second, .val (.int v1), .val (.int v2), .val (.int v3), .val (.int v4), .val (.int v5), .val (.int v6), .val (.ref b7), .val (.int (Nat.toInt32 i13)), .val (.int (Nat.toInt32 i1)), .val (.int (Nat.toInt32 i4)), .val (.int (Nat.toInt32 i6)), .val (.int (Nat.toInt32 i10)), .val (.int w17), .val (.int (Nat.toInt32 (own_Fe u13 i6 v5 v4 v3))), .val (.int (0 : Int32)), .val (.ref b84), .unset, .unset, .unset, .unset, .unset] []))
                                  refine own_via (fun _ k => XS.aload X100.here hx rfl (hb hby at_424) rfl rfl k) ?_
                                  show own_Go p e below s _ _ _ (T100.setTop (mkF m 426 #[.val (.int p0), .val (.int p1), .val (.int p2), .val (.long p3), .second, .val (.int v1), .val (.int v2), .val (.int v3), .val (.int v4), .val (.int v5), .val (.int v6), .val (.ref b7), .val (.int (Nat.toInt32 i13)), .val (.int (Nat.toInt32 i1)), .val (.int (Nat.toInt32 i4)), .val (.int (Nat.toInt32 i6)), .val (.int (Nat.toInt32 i10)), .val (.int w17), .val (.int (Nat.toInt32 (own_Fe u13 i6 v5 v4 v3))), .val (.int (0 : Int32)), .val (.ref b84), .unset, .unset, .unset, .unset, .unset] [(.ref b84)]))
                                  obtain ⟨cq101, kq101, qa101, qb101, qc101⟩ := isOf hZ e100 F93
                                  obtain ⟨_, _, ⟨T101, L101, k101, n101⟩, -, X101, ⟨Lc101, hQ101, l101, y101, z101⟩, st101⟩ := X100.virtualBack hx (y := (⟨"com/example/enlace/enlace/graph/LineFields", "fieldEnd", "()I"⟩ : MethodName)) (z := (⟨"com/example/enlace/enlace/graph/LineFields", "fieldEnd", "()I"⟩ : MethodName)) hown (mvT hZ (hw _ (List.mem_of_getElem? (i := 39) rfl))) (mvT hZ (hw _ (List.mem_of_getElem? (i := 40) rfl))) (notFace_of_selects (args := #[]) (mvT hZ (hw _ (List.mem_of_getElem? (i := 42) rfl)))) (mvT hZ (hw _ (List.mem_of_getElem? (i := 42) rfl))) (mvT hZ (hw _ (List.mem_of_getElem? (i := 41) rfl))) (by decide) (backOf (W := 0) (rm7 l Z a0 hw [] b84 (Nat.toInt32 i1) h91 n0 Z91 F98) hZ (hw _ (List.mem_of_getElem? (i := 43) rfl)) (hw _ (List.mem_of_getElem? (i := 3) rfl)) (by decide) (by decide)) qa101 qc101 (g := (mkF m 426 #[.val (.int p0), .val (.int p1), .val (.int p2), .val (.long p3), .second, .val (.int v1), .val (.int v2), .val (.int v3), .val (.int v4), .val (.int v5), .val (.int v6), .val (.ref b7), .val (.int (Nat.toInt32 i13)), .val (.int (Nat.toInt32 i1)), .val (.int (Nat.toInt32 i4)), .val (.int (Nat.toInt32 i6)), .val (.int (Nat.toInt32 i10)), .val (.int w17), .val (.int (Nat.toInt32 (own_Fe u13 i6 v5 v4 v3))), .val (.int (0 : Int32)), .val (.ref b84), .unset, .unset, .unset, .unset, .unset] [(.ref b84)])) rfl (by rw [hml]; rfl) (Steps.refl _) (argsL := []) (rest := []) (lenOf pd_5 rfl) rfl (by show 2 * 0 + _ ≤ _; exact Nat.le_of_eq rfl) (hb hby at_426) (fun _ _ => ⟨rfl, e100, (by decide : 2 + 0 ≤ _), (by decide : 21 + 0 ≤ _)⟩)
                                  dsimp only [Pt.U, Pt.locs, Pt.cells, Pt.slots] at X101 l101 y101 z101 st101 hQ101
                                  subst l101 y101 z101
                                  obtain ⟨rfl, N101q, e101⟩ := hQ101
                                  have N101 := Fr.app N100 N101q
                                  refine own_viaT st101 ?_
                                  show own_Go p e below s _ _ _ (T101.setTop (mkF m 429 #[.val (.int p0), .val (.int p1), .val (.int p2), .val (.long p3), .second, .val (.int v1), .val (.int v2), .val (.int v3), .val (.int v4), .val (.int v5), .val (.int v6), .val (.ref b7), .val (.int (Nat.toInt32 i13)), .val (.int (Nat.toInt32 i1)), .val (.int (Nat.toInt32 i4)), .val (.int (Nat.toInt32 i6)), .val (.int (Nat.toInt32 i10)), .val (.int w17), .val (.int (Nat.toInt32 (own_Fe u13 i6 v5 v4 v3))), .val (.int (0 : Int32)), .val (.ref b84), .unset, .unset, .unset, .unset, .unset] [(.int (Nat.toInt32 i1))]))
                                  refine own_via (fun _ k => XS.iload X101.here hx rfl (hb hby at_429) rfl k) ?_
                                  show own_Go p e below s _ _ _ (T101.setTop (mkF m 431 #[.val (.int p0), .val (.int p1), .val (.int p2), .val (.long p3), .second, .val (.int v1), .val (.int v2), .val (.int v3), .val (.int v4), .val (.int v5), .val (.int v6), .val (.ref b7), .val (.int (Nat.toInt32 i13)), .val (.int (Nat.toInt32 i1)), .val (.int (Nat.toInt32 i4)), .val (.int (Nat.toInt32 i6)), .val (.int (Nat.toInt32 i10)), .val (.int w17), .val (.int (Nat.toInt32 (own_Fe u13 i6 v5 v4 v3))), .val (.int (0 : Int32)), .val (.ref b84), .unset, .unset, .unset, .unset, .unset] [(.int (Nat.toInt32 i1)), (.int (Nat.toInt32 i1))]))
                                  refine own_via (fun _ k => XS.icmpNo X101.here hx rfl (hb hby at_431) rfl (Jvm.Free.XT.ii_ne_f rfl) k) ?_
                                  show own_Go p e below s _ _ _ (T101.setTop (mkF m 434 #[.val (.int p0), .val (.int p1), .val (.int p2), .val (.long p3), .second, .val (.int v1), .val (.int v2), .val (.int v3), .val (.int v4), .val (.int v5), .val (.int v6), .val (.ref b7), .val (.int (Nat.toInt32 i13)), .val (.int (Nat.toInt32 i1)), .val (.int (Nat.toInt32 i4)), .val (.int (Nat.toInt32 i6)), .val (.int (Nat.toInt32 i10)), .val (.int w17), .val (.int (Nat.toInt32 (own_Fe u13 i6 v5 v4 v3))), .val (.int (0 : Int32)), .val (.ref b84), .unset, .unset, .unset, .unset, .unset] []))
                                  refine own_via (fun _ k => XS.iconst X101.here hx rfl (hb hby at_434) k) ?_
                                  show own_Go p e below s _ _ _ (T101.setTop (mkF m 435 #[.val (.int p0), .val (.int p1), .val (.int p2), .val (.long p3), .second, .val (.int v1), .val (.int v2), .val (.int v3), .val (.int v4), .val (.int v5), .val (.int v6), .val (.ref b7), .val (.int (Nat.toInt32 i13)), .val (.int (Nat.toInt32 i1)), .val (.int (Nat.toInt32 i4)), .val (.int (Nat.toInt32 i6)), .val (.int (Nat.toInt32 i10)), .val (.int w17), .val (.int (Nat.toInt32 (own_Fe u13 i6 v5 v4 v3))), .val (.int (0 : Int32)), .val (.ref b84), .unset, .unset, .unset, .unset, .unset] [(.int (1 : Int32))]))
                                  refine own_via (fun _ k => XS.goto X101.here hx rfl (pc0 := 435) (pc' := 439) rfl (hb hby at_435) (by decide) (by decide) k) ?_
                                  show own_Go p e below s _ _ _ (T101.setTop (mkF m 439 #[.val (.int p0), .val (.int p1), .val (.int p2), .val (.long p3), .second, .val (.int v1), .val (.int v2), .val (.int v3), .val (.int v4), .val (.int v5), .val (.int v6), .val (.ref b7), .val (.int (Nat.toInt32 i13)), .val (.int (Nat.toInt32 i1)), .val (.int (Nat.toInt32 i4)), .val (.int (Nat.toInt32 i6)), .val (.int (Nat.toInt32 i10)), .val (.int w17), .val (.int (Nat.toInt32 (own_Fe u13 i6 v5 v4 v3))), .val (.int (0 : Int32)), .val (.ref b84), .unset, .unset, .unset, .unset, .unset] [(.int (1 : Int32))]))
                                  refine own_via (fun _ k => XS.istore X101.here hx rfl (hb hby at_439) rfl (l' := #[.val (.int p0), .val (.int p1), .val (.int p2), .val (.long p3), .second, .val (.int v1), .val (.int v2), .val (.int v3), .val (.int v4), .val (.int v5), .val (.int v6), .val (.ref b7), .val (.int (Nat.toInt32 i13)), .val (.int (Nat.toInt32 i1)), .val (.int (Nat.toInt32 i4)), .val (.int (Nat.toInt32 i6)), .val (.int (Nat.toInt32 i10)), .val (.int w17), .val (.int (Nat.toInt32 (own_Fe u13 i6 v5 v4 v3))), .val (.int (0 : Int32)), .val (.ref b84), .val (.int (1 : Int32)), .unset, .unset, .unset, .unset]) rfl k) ?_
                                  show own_Go p e below s _ _ _ (T101.setTop (mkF m 441 #[.val (.int p0), .val (.int p1), .val (.int p2), .val (.long p3), .second, .val (.int v1), .val (.int v2), .val (.int v3), .val (.int v4), .val (.int v5), .val (.int v6), .val (.ref b7), .val (.int (Nat.toInt32 i13)), .val (.int (Nat.toInt32 i1)), .val (.int (Nat.toInt32 i4)), .val (.int (Nat.toInt32 i6)), .val (.int (Nat.toInt32 i10)), .val (.int w17), .val (.int (Nat.toInt32 (own_Fe u13 i6 v5 v4 v3))), .val (.int (0 : Int32)), .val (.ref b84), .val (.int (1 : Int32)), .unset, .unset, .unset, .unset] []))
                                  refine own_via (fun _ k => XS.aload X101.here hx rfl (hb hby at_441) rfl rfl k) ?_
                                  show own_Go p e below s _ _ _ (T101.setTop (mkF m 443 #[.val (.int p0), .val (.int p1), .val (.int p2), .val (.long p3), .second, .val (.int v1), .val (.int v2), .val (.int v3), .val (.int v4), .val (.int v5), .val (.int v6), .val (.ref b7), .val (.int (Nat.toInt32 i13)), .val (.int (Nat.toInt32 i1)), .val (.int (Nat.toInt32 i4)), .val (.int (Nat.toInt32 i6)), .val (.int (Nat.toInt32 i10)), .val (.int w17), .val (.int (Nat.toInt32 (own_Fe u13 i6 v5 v4 v3))), .val (.int (0 : Int32)), .val (.ref b84), .val (.int (1 : Int32)), .unset, .unset, .unset, .unset] [(.ref b84)]))
                                  have F103 := (F92.keep Kq91 (ninS ne_b7_b84 nin0))
                                  obtain ⟨cq102, kq102, qa102, qb102, qc102⟩ := isOf hZ e101 F93
                                  obtain ⟨_, _, ⟨T102, L102, k102, n102⟩, -, X102, ⟨Lc102, hQ102, l102, y102, z102⟩, st102⟩ := X101.virtualBack hx (y := (⟨"com/example/enlace/enlace/graph/LineFields", "advance", "()Z"⟩ : MethodName)) (z := (⟨"com/example/enlace/enlace/graph/LineFields", "advance", "()Z"⟩ : MethodName)) hown (mvT hZ (hw _ (List.mem_of_getElem? (i := 44) rfl))) (mvT hZ (hw _ (List.mem_of_getElem? (i := 45) rfl))) (notFace_of_selects (args := #[]) (mvT hZ (hw _ (List.mem_of_getElem? (i := 47) rfl)))) (mvT hZ (hw _ (List.mem_of_getElem? (i := 47) rfl))) (mvT hZ (hw _ (List.mem_of_getElem? (i := 46) rfl))) (by decide) (backOf (W := 0) (rm8 l Z a0 hw [] b84 b7 k7 (16 : Int32) u13 EN (own_pos u13 i1 EN) (Nat.toInt32 i1) (Nat.toInt32 i1) h91 n0 Z91 F93 F94 F95 F96 F97 F98 F103 g_b84 ne_b7_b84 (own_pos_r hTE.2) (by omega) (by show (EN : Int) ≤ 16; omega)) hZ (hw _ (List.mem_of_getElem? (i := 48) rfl)) (hw _ (List.mem_of_getElem? (i := 3) rfl)) (by decide) (by decide)) qa102 qc102 (g := (mkF m 443 #[.val (.int p0), .val (.int p1), .val (.int p2), .val (.long p3), .second, .val (.int v1), .val (.int v2), .val (.int v3), .val (.int v4), .val (.int v5), .val (.int v6), .val (.ref b7), .val (.int (Nat.toInt32 i13)), .val (.int (Nat.toInt32 i1)), .val (.int (Nat.toInt32 i4)), .val (.int (Nat.toInt32 i6)), .val (.int (Nat.toInt32 i10)), .val (.int w17), .val (.int (Nat.toInt32 (own_Fe u13 i6 v5 v4 v3))), .val (.int (0 : Int32)), .val (.ref b84), .val (.int (1 : Int32)), .unset, .unset, .unset, .unset] [(.ref b84)])) rfl (by rw [hml]; rfl) (Steps.refl _) (argsL := []) (rest := []) (lenOf pd_6 rfl) rfl (by show 2 * 0 + _ ≤ _; exact Nat.le_of_eq rfl) (hb hby at_443) (fun _ _ => ⟨rfl, e101, (by decide : 2 + 0 ≤ _), (by decide : 21 + 0 ≤ _)⟩)
                                  dsimp only [Pt.U, Pt.locs, Pt.cells, Pt.slots] at X102 l102 y102 z102 st102 hQ102
                                  subst l102 y102 z102
                                  obtain ⟨h102, e102⟩ : ∃ h, T102.heap = h := ⟨_, rfl⟩
                                  rw [e102] at hQ102
                                  obtain ⟨rfl, N102q, Kq102, F104, F105, F106, F107, F108, F109⟩ := hQ102
                                  have Z102 : n0 ≤ h102.size := Nat.le_trans Z91 Kq102.1
                                  have N102 := Fr.app N101 N102q
                                  refine own_viaT st102 ?_
                                  show own_Go p e below s _ _ _ (T102.setTop (mkF m 446 #[.val (.int p0), .val (.int p1), .val (.int p2), .val (.long p3), .second, .val (.int v1), .val (.int v2), .val (.int v3), .val (.int v4), .val (.int v5), .val (.int v6), .val (.ref b7), .val (.int (Nat.toInt32 i13)), .val (.int (Nat.toInt32 i1)), .val (.int (Nat.toInt32 i4)), .val (.int (Nat.toInt32 i6)), .val (.int (Nat.toInt32 i10)), .val (.int w17), .val (.int (Nat.toInt32 (own_Fe u13 i6 v5 v4 v3))), .val (.int (0 : Int32)), .val (.ref b84), .val (.int (1 : Int32)), .unset, .unset, .unset, .unset] [(.int (own_nr u13 EN (own_pos u13 i1 EN)))]))
                                  refine own_via (fun _ k => XS.istore X102.here hx rfl (hb hby at_446) rfl (l' := #[.val (.int p0), .val (.int p1), .val (.int p2), .val (.long p3), .second, .val (.int v1), .val (.int v2), .val (.int v3), .val (.int v4), .val (.int v5), .val (.int v6), .val (.ref b7), .val (.int (Nat.toInt32 i13)), .val (.int (Nat.toInt32 i1)), .val (.int (Nat.toInt32 i4)), .val (.int (Nat.toInt32 i6)), .val (.int (Nat.toInt32 i10)), .val (.int w17), .val (.int (Nat.toInt32 (own_Fe u13 i6 v5 v4 v3))), .val (.int (0 : Int32)), .val (.ref b84), .val (.int (1 : Int32)), .val (.int (own_nr u13 EN (own_pos u13 i1 EN))), .unset, .unset, .unset]) rfl k) ?_
                                  show own_Go p e below s _ _ _ (T102.setTop (mkF m 448 #[.val (.int p0), .val (.int p1), .val (.int p2), .val (.long p3), .second, .val (.int v1), .val (.int v2), .val (.int v3), .val (.int v4), .val (.int v5), .val (.int v6), .val (.ref b7), .val (.int (Nat.toInt32 i13)), .val (.int (Nat.toInt32 i1)), .val (.int (Nat.toInt32 i4)), .val (.int (Nat.toInt32 i6)), .val (.int (Nat.toInt32 i10)), .val (.int w17), .val (.int (Nat.toInt32 (own_Fe u13 i6 v5 v4 v3))), .val (.int (0 : Int32)), .val (.ref b84), .val (.int (1 : Int32)), .val (.int (own_nr u13 EN (own_pos u13 i1 EN))), .unset, .unset, .unset] []))
                                  generalize hv110 : (own_nr u13 EN (own_pos u13 i1 EN)) = v110
                                  show own_Go p e below s _ _ _ (T102.setTop (mkF m 448 #[.val (.int p0), .val (.int p1), .val (.int p2), .val (.long p3), .second, .val (.int v1), .val (.int v2), .val (.int v3), .val (.int v4), .val (.int v5), .val (.int v6), .val (.ref b7), .val (.int (Nat.toInt32 i13)), .val (.int (Nat.toInt32 i1)), .val (.int (Nat.toInt32 i4)), .val (.int (Nat.toInt32 i6)), .val (.int (Nat.toInt32 i10)), .val (.int w17), .val (.int (Nat.toInt32 (own_Fe u13 i6 v5 v4 v3))), .val (.int (0 : Int32)), .val (.ref b84), .val (.int (1 : Int32)), .val (.int v110), .unset, .unset, .unset] []))
                                  refine own_via (fun _ k => XS.aload X102.here hx rfl (hb hby at_448) rfl rfl k) ?_
                                  show own_Go p e below s _ _ _ (T102.setTop (mkF m 450 #[.val (.int p0), .val (.int p1), .val (.int p2), .val (.long p3), .second, .val (.int v1), .val (.int v2), .val (.int v3), .val (.int v4), .val (.int v5), .val (.int v6), .val (.ref b7), .val (.int (Nat.toInt32 i13)), .val (.int (Nat.toInt32 i1)), .val (.int (Nat.toInt32 i4)), .val (.int (Nat.toInt32 i6)), .val (.int (Nat.toInt32 i10)), .val (.int w17), .val (.int (Nat.toInt32 (own_Fe u13 i6 v5 v4 v3))), .val (.int (0 : Int32)), .val (.ref b84), .val (.int (1 : Int32)), .val (.int v110), .unset, .unset, .unset] [(.ref b84)]))
                                  obtain ⟨cq111, kq111, qa111, qb111, qc111⟩ := isOf hZ e102 F104
                                  obtain ⟨_, _, ⟨T111, L111, k111, n111⟩, -, X111, ⟨Lc111, hQ111, l111, y111, z111⟩, st111⟩ := X102.virtualBack hx (y := (⟨"com/example/enlace/enlace/graph/LineFields", "fieldStart", "()I"⟩ : MethodName)) (z := (⟨"com/example/enlace/enlace/graph/LineFields", "fieldStart", "()I"⟩ : MethodName)) hown (mvT hZ (hw _ (List.mem_of_getElem? (i := 34) rfl))) (mvT hZ (hw _ (List.mem_of_getElem? (i := 35) rfl))) (notFace_of_selects (args := #[]) (mvT hZ (hw _ (List.mem_of_getElem? (i := 37) rfl)))) (mvT hZ (hw _ (List.mem_of_getElem? (i := 37) rfl))) (mvT hZ (hw _ (List.mem_of_getElem? (i := 36) rfl))) (by decide) (backOf (W := 0) (rm6 l Z a0 hw [] b84 (own_nfs u13 EN (own_pos u13 i1 EN) (Nat.toInt32 i1)) h102 n0 Z102 F108) hZ (hw _ (List.mem_of_getElem? (i := 38) rfl)) (hw _ (List.mem_of_getElem? (i := 3) rfl)) (by decide) (by decide)) qa111 qc111 (g := (mkF m 450 #[.val (.int p0), .val (.int p1), .val (.int p2), .val (.long p3), .second, .val (.int v1), .val (.int v2), .val (.int v3), .val (.int v4), .val (.int v5), .val (.int v6), .val (.ref b7), .val (.int (Nat.toInt32 i13)), .val (.int (Nat.toInt32 i1)), .val (.int (Nat.toInt32 i4)), .val (.int (Nat.toInt32 i6)), .val (.int (Nat.toInt32 i10)), .val (.int w17), .val (.int (Nat.toInt32 (own_Fe u13 i6 v5 v4 v3))), .val (.int (0 : Int32)), .val (.ref b84), .val (.int (1 : Int32)), .val (.int v110), .unset, .unset, .unset] [(.ref b84)])) rfl (by rw [hml]; rfl) (Steps.refl _) (argsL := []) (rest := []) (lenOf pd_5 rfl) rfl (by show 2 * 0 + _ ≤ _; exact Nat.le_of_eq rfl) (hb hby at_450) (fun _ _ => ⟨rfl, e102, (by decide : 2 + 0 ≤ _), (by decide : 21 + 0 ≤ _)⟩)
                                  dsimp only [Pt.U, Pt.locs, Pt.cells, Pt.slots] at X111 l111 y111 z111 st111 hQ111
                                  subst l111 y111 z111
                                  obtain ⟨rfl, N111q, e111⟩ := hQ111
                                  have N111 := Fr.app N102 N111q
                                  refine own_viaT st111 ?_
                                  show own_Go p e below s _ _ _ (T111.setTop (mkF m 453 #[.val (.int p0), .val (.int p1), .val (.int p2), .val (.long p3), .second, .val (.int v1), .val (.int v2), .val (.int v3), .val (.int v4), .val (.int v5), .val (.int v6), .val (.ref b7), .val (.int (Nat.toInt32 i13)), .val (.int (Nat.toInt32 i1)), .val (.int (Nat.toInt32 i4)), .val (.int (Nat.toInt32 i6)), .val (.int (Nat.toInt32 i10)), .val (.int w17), .val (.int (Nat.toInt32 (own_Fe u13 i6 v5 v4 v3))), .val (.int (0 : Int32)), .val (.ref b84), .val (.int (1 : Int32)), .val (.int v110), .unset, .unset, .unset] [(.int (own_nfs u13 EN (own_pos u13 i1 EN) (Nat.toInt32 i1)))]))
                                  refine own_via (fun _ k => XS.istore X111.here hx rfl (hb hby at_453) rfl (l' := #[.val (.int p0), .val (.int p1), .val (.int p2), .val (.long p3), .second, .val (.int v1), .val (.int v2), .val (.int v3), .val (.int v4), .val (.int v5), .val (.int v6), .val (.ref b7), .val (.int (Nat.toInt32 i13)), .val (.int (Nat.toInt32 i1)), .val (.int (Nat.toInt32 i4)), .val (.int (Nat.toInt32 i6)), .val (.int (Nat.toInt32 i10)), .val (.int w17), .val (.int (Nat.toInt32 (own_Fe u13 i6 v5 v4 v3))), .val (.int (0 : Int32)), .val (.ref b84), .val (.int (1 : Int32)), .val (.int v110), .val (.int (own_nfs u13 EN (own_pos u13 i1 EN) (Nat.toInt32 i1))), .unset, .unset]) rfl k) ?_
                                  show own_Go p e below s _ _ _ (T111.setTop (mkF m 455 #[.val (.int p0), .val (.int p1), .val (.int p2), .val (.long p3), .second, .val (.int v1), .val (.int v2), .val (.int v3), .val (.int v4), .val (.int v5), .val (.int v6), .val (.ref b7), .val (.int (Nat.toInt32 i13)), .val (.int (Nat.toInt32 i1)), .val (.int (Nat.toInt32 i4)), .val (.int (Nat.toInt32 i6)), .val (.int (Nat.toInt32 i10)), .val (.int w17), .val (.int (Nat.toInt32 (own_Fe u13 i6 v5 v4 v3))), .val (.int (0 : Int32)), .val (.ref b84), .val (.int (1 : Int32)), .val (.int v110), .val (.int (own_nfs u13 EN (own_pos u13 i1 EN) (Nat.toInt32 i1))), .unset, .unset] []))
                                  generalize hv112 : (own_nfs u13 EN (own_pos u13 i1 EN) (Nat.toInt32 i1)) = v112
                                  show own_Go p e below s _ _ _ (T111.setTop (mkF m 455 #[.val (.int p0), .val (.int p1), .val (.int p2), .val (.long p3), .second, .val (.int v1), .val (.int v2), .val (.int v3), .val (.int v4), .val (.int v5), .val (.int v6), .val (.ref b7), .val (.int (Nat.toInt32 i13)), .val (.int (Nat.toInt32 i1)), .val (.int (Nat.toInt32 i4)), .val (.int (Nat.toInt32 i6)), .val (.int (Nat.toInt32 i10)), .val (.int w17), .val (.int (Nat.toInt32 (own_Fe u13 i6 v5 v4 v3))), .val (.int (0 : Int32)), .val (.ref b84), .val (.int (1 : Int32)), .val (.int v110), .val (.int v112), .unset, .unset] []))
                                  refine own_via (fun _ k => XS.aload X111.here hx rfl (hb hby at_455) rfl rfl k) ?_
                                  show own_Go p e below s _ _ _ (T111.setTop (mkF m 457 #[.val (.int p0), .val (.int p1), .val (.int p2), .val (.long p3), .second, .val (.int v1), .val (.int v2), .val (.int v3), .val (.int v4), .val (.int v5), .val (.int v6), .val (.ref b7), .val (.int (Nat.toInt32 i13)), .val (.int (Nat.toInt32 i1)), .val (.int (Nat.toInt32 i4)), .val (.int (Nat.toInt32 i6)), .val (.int (Nat.toInt32 i10)), .val (.int w17), .val (.int (Nat.toInt32 (own_Fe u13 i6 v5 v4 v3))), .val (.int (0 : Int32)), .val (.ref b84), .val (.int (1 : Int32)), .val (.int v110), .val (.int v112), .unset, .unset] [(.ref b84)]))
                                  obtain ⟨cq113, kq113, qa113, qb113, qc113⟩ := isOf hZ e111 F104
                                  obtain ⟨_, _, ⟨T113, L113, k113, n113⟩, -, X113, ⟨Lc113, hQ113, l113, y113, z113⟩, st113⟩ := X111.virtualBack hx (y := (⟨"com/example/enlace/enlace/graph/LineFields", "fieldEnd", "()I"⟩ : MethodName)) (z := (⟨"com/example/enlace/enlace/graph/LineFields", "fieldEnd", "()I"⟩ : MethodName)) hown (mvT hZ (hw _ (List.mem_of_getElem? (i := 39) rfl))) (mvT hZ (hw _ (List.mem_of_getElem? (i := 40) rfl))) (notFace_of_selects (args := #[]) (mvT hZ (hw _ (List.mem_of_getElem? (i := 42) rfl)))) (mvT hZ (hw _ (List.mem_of_getElem? (i := 42) rfl))) (mvT hZ (hw _ (List.mem_of_getElem? (i := 41) rfl))) (by decide) (backOf (W := 0) (rm7 l Z a0 hw [] b84 (own_nft u13 EN (own_pos u13 i1 EN) (Nat.toInt32 i1)) h102 n0 Z102 F109) hZ (hw _ (List.mem_of_getElem? (i := 43) rfl)) (hw _ (List.mem_of_getElem? (i := 3) rfl)) (by decide) (by decide)) qa113 qc113 (g := (mkF m 457 #[.val (.int p0), .val (.int p1), .val (.int p2), .val (.long p3), .second, .val (.int v1), .val (.int v2), .val (.int v3), .val (.int v4), .val (.int v5), .val (.int v6), .val (.ref b7), .val (.int (Nat.toInt32 i13)), .val (.int (Nat.toInt32 i1)), .val (.int (Nat.toInt32 i4)), .val (.int (Nat.toInt32 i6)), .val (.int (Nat.toInt32 i10)), .val (.int w17), .val (.int (Nat.toInt32 (own_Fe u13 i6 v5 v4 v3))), .val (.int (0 : Int32)), .val (.ref b84), .val (.int (1 : Int32)), .val (.int v110), .val (.int v112), .unset, .unset] [(.ref b84)])) rfl (by rw [hml]; rfl) (Steps.refl _) (argsL := []) (rest := []) (lenOf pd_5 rfl) rfl (by show 2 * 0 + _ ≤ _; exact Nat.le_of_eq rfl) (hb hby at_457) (fun _ _ => ⟨rfl, e111, (by decide : 2 + 0 ≤ _), (by decide : 21 + 0 ≤ _)⟩)
                                  dsimp only [Pt.U, Pt.locs, Pt.cells, Pt.slots] at X113 l113 y113 z113 st113 hQ113
                                  subst l113 y113 z113
                                  obtain ⟨rfl, N113q, e113⟩ := hQ113
                                  have N113 := Fr.app N111 N113q
                                  refine own_viaT st113 ?_
                                  show own_Go p e below s _ _ _ (T113.setTop (mkF m 460 #[.val (.int p0), .val (.int p1), .val (.int p2), .val (.long p3), .second, .val (.int v1), .val (.int v2), .val (.int v3), .val (.int v4), .val (.int v5), .val (.int v6), .val (.ref b7), .val (.int (Nat.toInt32 i13)), .val (.int (Nat.toInt32 i1)), .val (.int (Nat.toInt32 i4)), .val (.int (Nat.toInt32 i6)), .val (.int (Nat.toInt32 i10)), .val (.int w17), .val (.int (Nat.toInt32 (own_Fe u13 i6 v5 v4 v3))), .val (.int (0 : Int32)), .val (.ref b84), .val (.int (1 : Int32)), .val (.int v110), .val (.int v112), .unset, .unset] [(.int (own_nft u13 EN (own_pos u13 i1 EN) (Nat.toInt32 i1)))]))
                                  refine own_via (fun _ k => XS.istore X113.here hx rfl (hb hby at_460) rfl (l' := #[.val (.int p0), .val (.int p1), .val (.int p2), .val (.long p3), .second, .val (.int v1), .val (.int v2), .val (.int v3), .val (.int v4), .val (.int v5), .val (.int v6), .val (.ref b7), .val (.int (Nat.toInt32 i13)), .val (.int (Nat.toInt32 i1)), .val (.int (Nat.toInt32 i4)), .val (.int (Nat.toInt32 i6)), .val (.int (Nat.toInt32 i10)), .val (.int w17), .val (.int (Nat.toInt32 (own_Fe u13 i6 v5 v4 v3))), .val (.int (0 : Int32)), .val (.ref b84), .val (.int (1 : Int32)), .val (.int v110), .val (.int v112), .val (.int (own_nft u13 EN (own_pos u13 i1 EN) (Nat.toInt32 i1))), .unset]) rfl k) ?_
                                  show own_Go p e below s _ _ _ (T113.setTop (mkF m 462 #[.val (.int p0), .val (.int p1), .val (.int p2), .val (.long p3), .second, .val (.int v1), .val (.int v2), .val (.int v3), .val (.int v4), .val (.int v5), .val (.int v6), .val (.ref b7), .val (.int (Nat.toInt32 i13)), .val (.int (Nat.toInt32 i1)), .val (.int (Nat.toInt32 i4)), .val (.int (Nat.toInt32 i6)), .val (.int (Nat.toInt32 i10)), .val (.int w17), .val (.int (Nat.toInt32 (own_Fe u13 i6 v5 v4 v3))), .val (.int (0 : Int32)), .val (.ref b84), .val (.int (1 : Int32)), .val (.int v110), .val (.int v112), .val (.int (own_nft u13 EN (own_pos u13 i1 EN) (Nat.toInt32 i1))), .unset] []))
                                  generalize hv114 : (own_nft u13 EN (own_pos u13 i1 EN) (Nat.toInt32 i1)) = v114
                                  show own_Go p e below s _ _ _ (T113.setTop (mkF m 462 #[.val (.int p0), .val (.int p1), .val (.int p2), .val (.long p3), .second, .val (.int v1), .val (.int v2), .val (.int v3), .val (.int v4), .val (.int v5), .val (.int v6), .val (.ref b7), .val (.int (Nat.toInt32 i13)), .val (.int (Nat.toInt32 i1)), .val (.int (Nat.toInt32 i4)), .val (.int (Nat.toInt32 i6)), .val (.int (Nat.toInt32 i10)), .val (.int w17), .val (.int (Nat.toInt32 (own_Fe u13 i6 v5 v4 v3))), .val (.int (0 : Int32)), .val (.ref b84), .val (.int (1 : Int32)), .val (.int v110), .val (.int v112), .val (.int v114), .unset] []))
                                  refine own_via (fun _ k => XS.iload X113.here hx rfl (hb hby at_462) rfl k) ?_
                                  show own_Go p e below s _ _ _ (T113.setTop (mkF m 464 #[.val (.int p0), .val (.int p1), .val (.int p2), .val (.long p3), .second, .val (.int v1), .val (.int v2), .val (.int v3), .val (.int v4), .val (.int v5), .val (.int v6), .val (.ref b7), .val (.int (Nat.toInt32 i13)), .val (.int (Nat.toInt32 i1)), .val (.int (Nat.toInt32 i4)), .val (.int (Nat.toInt32 i6)), .val (.int (Nat.toInt32 i10)), .val (.int w17), .val (.int (Nat.toInt32 (own_Fe u13 i6 v5 v4 v3))), .val (.int (0 : Int32)), .val (.ref b84), .val (.int (1 : Int32)), .val (.int v110), .val (.int v112), .val (.int v114), .unset] [(.int (0 : Int32))]))
                                  refine own_via (fun _ k => XS.ifYes X113.here hx rfl (pc0 := 464) (pc' := 501) rfl (hb hby at_464) rfl (Jvm.Free.XT.i0_eq_t (by decide)) (by decide) (by decide) k) ?_
                                  show own_Go p e below s _ _ _ (T113.setTop (mkF m 501 #[.val (.int p0), .val (.int p1), .val (.int p2), .val (.long p3), .second, .val (.int v1), .val (.int v2), .val (.int v3), .val (.int v4), .val (.int v5), .val (.int v6), .val (.ref b7), .val (.int (Nat.toInt32 i13)), .val (.int (Nat.toInt32 i1)), .val (.int (Nat.toInt32 i4)), .val (.int (Nat.toInt32 i6)), .val (.int (Nat.toInt32 i10)), .val (.int w17), .val (.int (Nat.toInt32 (own_Fe u13 i6 v5 v4 v3))), .val (.int (0 : Int32)), .val (.ref b84), .val (.int (1 : Int32)), .val (.int v110), .val (.int v112), .val (.int v114), .unset] []))
                                  refine own_via (fun _ k => XS.iload X113.here hx rfl (hb hby at_501) rfl k) ?_
                                  show own_Go p e below s _ _ _ (T113.setTop (mkF m 503 #[.val (.int p0), .val (.int p1), .val (.int p2), .val (.long p3), .second, .val (.int v1), .val (.int v2), .val (.int v3), .val (.int v4), .val (.int v5), .val (.int v6), .val (.ref b7), .val (.int (Nat.toInt32 i13)), .val (.int (Nat.toInt32 i1)), .val (.int (Nat.toInt32 i4)), .val (.int (Nat.toInt32 i6)), .val (.int (Nat.toInt32 i10)), .val (.int w17), .val (.int (Nat.toInt32 (own_Fe u13 i6 v5 v4 v3))), .val (.int (0 : Int32)), .val (.ref b84), .val (.int (1 : Int32)), .val (.int v110), .val (.int v112), .val (.int v114), .unset] [(.int (1 : Int32))]))
                                  refine own_via (fun _ k => XS.ifNo X113.here hx rfl (hb hby at_503) rfl (Jvm.Free.XT.i0_eq_f (by decide)) k) ?_
                                  show own_Go p e below s _ _ _ (T113.setTop (mkF m 506 #[.val (.int p0), .val (.int p1), .val (.int p2), .val (.long p3), .second, .val (.int v1), .val (.int v2), .val (.int v3), .val (.int v4), .val (.int v5), .val (.int v6), .val (.ref b7), .val (.int (Nat.toInt32 i13)), .val (.int (Nat.toInt32 i1)), .val (.int (Nat.toInt32 i4)), .val (.int (Nat.toInt32 i6)), .val (.int (Nat.toInt32 i10)), .val (.int w17), .val (.int (Nat.toInt32 (own_Fe u13 i6 v5 v4 v3))), .val (.int (0 : Int32)), .val (.ref b84), .val (.int (1 : Int32)), .val (.int v110), .val (.int v112), .val (.int v114), .unset] []))
                                  refine own_via (fun _ k => XS.iload X113.here hx rfl (hb hby at_506) rfl k) ?_
                                  show own_Go p e below s _ _ _ (T113.setTop (mkF m 508 #[.val (.int p0), .val (.int p1), .val (.int p2), .val (.long p3), .second, .val (.int v1), .val (.int v2), .val (.int v3), .val (.int v4), .val (.int v5), .val (.int v6), .val (.ref b7), .val (.int (Nat.toInt32 i13)), .val (.int (Nat.toInt32 i1)), .val (.int (Nat.toInt32 i4)), .val (.int (Nat.toInt32 i6)), .val (.int (Nat.toInt32 i10)), .val (.int w17), .val (.int (Nat.toInt32 (own_Fe u13 i6 v5 v4 v3))), .val (.int (0 : Int32)), .val (.ref b84), .val (.int (1 : Int32)), .val (.int v110), .val (.int v112), .val (.int v114), .unset] [(.int v110)]))
                                  have hc115 : v110 = (0 : Int32) := by (rw [← hv110, r1]) <;> decide
                                  refine own_via (fun _ k => XS.ifNo X113.here hx rfl (hb hby at_508) rfl (Jvm.Free.XT.i0_ne_f hc115) k) ?_
                                  show own_Go p e below s _ _ _ (T113.setTop (mkF m 511 #[.val (.int p0), .val (.int p1), .val (.int p2), .val (.long p3), .second, .val (.int v1), .val (.int v2), .val (.int v3), .val (.int v4), .val (.int v5), .val (.int v6), .val (.ref b7), .val (.int (Nat.toInt32 i13)), .val (.int (Nat.toInt32 i1)), .val (.int (Nat.toInt32 i4)), .val (.int (Nat.toInt32 i6)), .val (.int (Nat.toInt32 i10)), .val (.int w17), .val (.int (Nat.toInt32 (own_Fe u13 i6 v5 v4 v3))), .val (.int (0 : Int32)), .val (.ref b84), .val (.int (1 : Int32)), .val (.int v110), .val (.int v112), .val (.int v114), .unset] []))
                                  refine own_via (fun _ k => XS.iload X113.here hx rfl (hb hby at_511) rfl k) ?_
                                  show own_Go p e below s _ _ _ (T113.setTop (mkF m 513 #[.val (.int p0), .val (.int p1), .val (.int p2), .val (.long p3), .second, .val (.int v1), .val (.int v2), .val (.int v3), .val (.int v4), .val (.int v5), .val (.int v6), .val (.ref b7), .val (.int (Nat.toInt32 i13)), .val (.int (Nat.toInt32 i1)), .val (.int (Nat.toInt32 i4)), .val (.int (Nat.toInt32 i6)), .val (.int (Nat.toInt32 i10)), .val (.int w17), .val (.int (Nat.toInt32 (own_Fe u13 i6 v5 v4 v3))), .val (.int (0 : Int32)), .val (.ref b84), .val (.int (1 : Int32)), .val (.int v110), .val (.int v112), .val (.int v114), .unset] [(.int v112)]))
                                  refine own_via (fun _ k => XS.iload X113.here hx rfl (hb hby at_513) rfl k) ?_
                                  show own_Go p e below s _ _ _ (T113.setTop (mkF m 515 #[.val (.int p0), .val (.int p1), .val (.int p2), .val (.long p3), .second, .val (.int v1), .val (.int v2), .val (.int v3), .val (.int v4), .val (.int v5), .val (.int v6), .val (.ref b7), .val (.int (Nat.toInt32 i13)), .val (.int (Nat.toInt32 i1)), .val (.int (Nat.toInt32 i4)), .val (.int (Nat.toInt32 i6)), .val (.int (Nat.toInt32 i10)), .val (.int w17), .val (.int (Nat.toInt32 (own_Fe u13 i6 v5 v4 v3))), .val (.int (0 : Int32)), .val (.ref b84), .val (.int (1 : Int32)), .val (.int v110), .val (.int v112), .val (.int v114), .unset] [(.int (Nat.toInt32 i1)), (.int v112)]))
                                  have hc116 : v112 = (Nat.toInt32 i1) := hv112.symm.trans r2
                                  refine own_via (fun _ k => XS.icmpNo X113.here hx rfl (hb hby at_515) rfl (Jvm.Free.XT.ii_ne_f hc116) k) ?_
                                  show own_Go p e below s _ _ _ (T113.setTop (mkF m 518 #[.val (.int p0), .val (.int p1), .val (.int p2), .val (.long p3), .second, .val (.int v1), .val (.int v2), .val (.int v3), .val (.int v4), .val (.int v5), .val (.int v6), .val (.ref b7), .val (.int (Nat.toInt32 i13)), .val (.int (Nat.toInt32 i1)), .val (.int (Nat.toInt32 i4)), .val (.int (Nat.toInt32 i6)), .val (.int (Nat.toInt32 i10)), .val (.int w17), .val (.int (Nat.toInt32 (own_Fe u13 i6 v5 v4 v3))), .val (.int (0 : Int32)), .val (.ref b84), .val (.int (1 : Int32)), .val (.int v110), .val (.int v112), .val (.int v114), .unset] []))
                                  refine own_via (fun _ k => XS.iload X113.here hx rfl (hb hby at_518) rfl k) ?_
                                  show own_Go p e below s _ _ _ (T113.setTop (mkF m 520 #[.val (.int p0), .val (.int p1), .val (.int p2), .val (.long p3), .second, .val (.int v1), .val (.int v2), .val (.int v3), .val (.int v4), .val (.int v5), .val (.int v6), .val (.ref b7), .val (.int (Nat.toInt32 i13)), .val (.int (Nat.toInt32 i1)), .val (.int (Nat.toInt32 i4)), .val (.int (Nat.toInt32 i6)), .val (.int (Nat.toInt32 i10)), .val (.int w17), .val (.int (Nat.toInt32 (own_Fe u13 i6 v5 v4 v3))), .val (.int (0 : Int32)), .val (.ref b84), .val (.int (1 : Int32)), .val (.int v110), .val (.int v112), .val (.int v114), .unset] [(.int v114)]))
                                  refine own_via (fun _ k => XS.iload X113.here hx rfl (hb hby at_520) rfl k) ?_
                                  show own_Go p e below s _ _ _ (T113.setTop (mkF m 522 #[.val (.int p0), .val (.int p1), .val (.int p2), .val (.long p3), .second, .val (.int v1), .val (.int v2), .val (.int v3), .val (.int v4), .val (.int v5), .val (.int v6), .val (.ref b7), .val (.int (Nat.toInt32 i13)), .val (.int (Nat.toInt32 i1)), .val (.int (Nat.toInt32 i4)), .val (.int (Nat.toInt32 i6)), .val (.int (Nat.toInt32 i10)), .val (.int w17), .val (.int (Nat.toInt32 (own_Fe u13 i6 v5 v4 v3))), .val (.int (0 : Int32)), .val (.ref b84), .val (.int (1 : Int32)), .val (.int v110), .val (.int v112), .val (.int v114), .unset] [(.int (Nat.toInt32 i1)), (.int v114)]))
                                  have hc117 : v114 = (Nat.toInt32 i1) := hv114.symm.trans r3
                                  refine own_via (fun _ k => XS.icmpNo X113.here hx rfl (hb hby at_522) rfl (Jvm.Free.XT.ii_ne_f hc117) k) ?_
                                  show own_Go p e below s _ _ _ (T113.setTop (mkF m 525 #[.val (.int p0), .val (.int p1), .val (.int p2), .val (.long p3), .second, .val (.int v1), .val (.int v2), .val (.int v3), .val (.int v4), .val (.int v5), .val (.int v6), .val (.ref b7), .val (.int (Nat.toInt32 i13)), .val (.int (Nat.toInt32 i1)), .val (.int (Nat.toInt32 i4)), .val (.int (Nat.toInt32 i6)), .val (.int (Nat.toInt32 i10)), .val (.int w17), .val (.int (Nat.toInt32 (own_Fe u13 i6 v5 v4 v3))), .val (.int (0 : Int32)), .val (.ref b84), .val (.int (1 : Int32)), .val (.int v110), .val (.int v112), .val (.int v114), .unset] []))
                                  refine own_via (fun _ k => XS.iconst X113.here hx rfl (hb hby at_525) k) ?_
                                  show own_Go p e below s _ _ _ (T113.setTop (mkF m 526 #[.val (.int p0), .val (.int p1), .val (.int p2), .val (.long p3), .second, .val (.int v1), .val (.int v2), .val (.int v3), .val (.int v4), .val (.int v5), .val (.int v6), .val (.ref b7), .val (.int (Nat.toInt32 i13)), .val (.int (Nat.toInt32 i1)), .val (.int (Nat.toInt32 i4)), .val (.int (Nat.toInt32 i6)), .val (.int (Nat.toInt32 i10)), .val (.int w17), .val (.int (Nat.toInt32 (own_Fe u13 i6 v5 v4 v3))), .val (.int (0 : Int32)), .val (.ref b84), .val (.int (1 : Int32)), .val (.int v110), .val (.int v112), .val (.int v114), .unset] [(.int (1 : Int32))]))
                                  refine own_via (fun _ k => XS.goto X113.here hx rfl (pc0 := 526) (pc' := 530) rfl (hb hby at_526) (by decide) (by decide) k) ?_
                                  show own_Go p e below s _ _ _ (T113.setTop (mkF m 530 #[.val (.int p0), .val (.int p1), .val (.int p2), .val (.long p3), .second, .val (.int v1), .val (.int v2), .val (.int v3), .val (.int v4), .val (.int v5), .val (.int v6), .val (.ref b7), .val (.int (Nat.toInt32 i13)), .val (.int (Nat.toInt32 i1)), .val (.int (Nat.toInt32 i4)), .val (.int (Nat.toInt32 i6)), .val (.int (Nat.toInt32 i10)), .val (.int w17), .val (.int (Nat.toInt32 (own_Fe u13 i6 v5 v4 v3))), .val (.int (0 : Int32)), .val (.ref b84), .val (.int (1 : Int32)), .val (.int v110), .val (.int v112), .val (.int v114), .unset] [(.int (1 : Int32))]))
                                  refine own_via (fun _ k => XS.istore X113.here hx rfl (hb hby at_530) rfl (l' := #[.val (.int p0), .val (.int p1), .val (.int p2), .val (.long p3), .second, .val (.int v1), .val (.int v2), .val (.int v3), .val (.int v4), .val (.int v5), .val (.int v6), .val (.ref b7), .val (.int (Nat.toInt32 i13)), .val (.int (Nat.toInt32 i1)), .val (.int (Nat.toInt32 i4)), .val (.int (Nat.toInt32 i6)), .val (.int (Nat.toInt32 i10)), .val (.int w17), .val (.int (Nat.toInt32 (own_Fe u13 i6 v5 v4 v3))), .val (.int (0 : Int32)), .val (.ref b84), .val (.int (1 : Int32)), .val (.int v110), .val (.int v112), .val (.int v114), .unset]) rfl k) ?_
                                  show own_Go p e below s _ _ _ (T113.setTop (mkF m 532 #[.val (.int p0), .val (.int p1), .val (.int p2), .val (.long p3), .second, .val (.int v1), .val (.int v2), .val (.int v3), .val (.int v4), .val (.int v5), .val (.int v6), .val (.ref b7), .val (.int (Nat.toInt32 i13)), .val (.int (Nat.toInt32 i1)), .val (.int (Nat.toInt32 i4)), .val (.int (Nat.toInt32 i6)), .val (.int (Nat.toInt32 i10)), .val (.int w17), .val (.int (Nat.toInt32 (own_Fe u13 i6 v5 v4 v3))), .val (.int (0 : Int32)), .val (.ref b84), .val (.int (1 : Int32)), .val (.int v110), .val (.int v112), .val (.int v114), .unset] []))
                                  refine own_via (fun _ k => XS.aload X113.here hx rfl (hb hby at_532) rfl rfl k) ?_
                                  show own_Go p e below s _ _ _ (T113.setTop (mkF m 534 #[.val (.int p0), .val (.int p1), .val (.int p2), .val (.long p3), .second, .val (.int v1), .val (.int v2), .val (.int v3), .val (.int v4), .val (.int v5), .val (.int v6), .val (.ref b7), .val (.int (Nat.toInt32 i13)), .val (.int (Nat.toInt32 i1)), .val (.int (Nat.toInt32 i4)), .val (.int (Nat.toInt32 i6)), .val (.int (Nat.toInt32 i10)), .val (.int w17), .val (.int (Nat.toInt32 (own_Fe u13 i6 v5 v4 v3))), .val (.int (0 : Int32)), .val (.ref b84), .val (.int (1 : Int32)), .val (.int v110), .val (.int v112), .val (.int v114), .unset] [(.ref b84)]))
                                  have F119 := (F103.keep Kq102 (ninS ne_b7_b84 nin0))
                                  obtain ⟨cq118, kq118, qa118, qb118, qc118⟩ := isOf hZ e113 F104
                                  obtain ⟨_, _, ⟨T118, L118, k118, n118⟩, -, X118, ⟨Lc118, hQ118, l118, y118, z118⟩, st118⟩ := X113.virtualBack hx (y := (⟨"com/example/enlace/enlace/graph/LineFields", "advance", "()Z"⟩ : MethodName)) (z := (⟨"com/example/enlace/enlace/graph/LineFields", "advance", "()Z"⟩ : MethodName)) hown (mvT hZ (hw _ (List.mem_of_getElem? (i := 44) rfl))) (mvT hZ (hw _ (List.mem_of_getElem? (i := 45) rfl))) (notFace_of_selects (args := #[]) (mvT hZ (hw _ (List.mem_of_getElem? (i := 47) rfl)))) (mvT hZ (hw _ (List.mem_of_getElem? (i := 47) rfl))) (mvT hZ (hw _ (List.mem_of_getElem? (i := 46) rfl))) (by decide) (backOf (W := 0) (rm8 l Z a0 hw [] b84 b7 k7 (16 : Int32) u13 EN (own_nq u13 EN (own_pos u13 i1 EN)) (own_nfs u13 EN (own_pos u13 i1 EN) (Nat.toInt32 i1)) (own_nft u13 EN (own_pos u13 i1 EN) (Nat.toInt32 i1)) h102 n0 Z102 F104 F105 F106 F107 F108 F109 F119 g_b84 ne_b7_b84 (own_nq_r (own_pos_r hTE.2)) (by omega) (by show (EN : Int) ≤ 16; omega)) hZ (hw _ (List.mem_of_getElem? (i := 48) rfl)) (hw _ (List.mem_of_getElem? (i := 3) rfl)) (by decide) (by decide)) qa118 qc118 (g := (mkF m 534 #[.val (.int p0), .val (.int p1), .val (.int p2), .val (.long p3), .second, .val (.int v1), .val (.int v2), .val (.int v3), .val (.int v4), .val (.int v5), .val (.int v6), .val (.ref b7), .val (.int (Nat.toInt32 i13)), .val (.int (Nat.toInt32 i1)), .val (.int (Nat.toInt32 i4)), .val (.int (Nat.toInt32 i6)), .val (.int (Nat.toInt32 i10)), .val (.int w17), .val (.int (Nat.toInt32 (own_Fe u13 i6 v5 v4 v3))), .val (.int (0 : Int32)), .val (.ref b84), .val (.int (1 : Int32)), .val (.int v110), .val (.int v112), .val (.int v114), .unset] [(.ref b84)])) rfl (by rw [hml]; rfl) (Steps.refl _) (argsL := []) (rest := []) (lenOf pd_6 rfl) rfl (by show 2 * 0 + _ ≤ _; exact Nat.le_of_eq rfl) (hb hby at_534) (fun _ _ => ⟨rfl, e113, (by decide : 2 + 0 ≤ _), (by decide : 21 + 0 ≤ _)⟩)
                                  dsimp only [Pt.U, Pt.locs, Pt.cells, Pt.slots] at X118 l118 y118 z118 st118 hQ118
                                  subst l118 y118 z118
                                  obtain ⟨h118, e118⟩ : ∃ h, T118.heap = h := ⟨_, rfl⟩
                                  rw [e118] at hQ118
                                  obtain ⟨rfl, N118q, Kq118, F120, F121, F122, F123, F124, F125⟩ := hQ118
                                  have Z118 : n0 ≤ h118.size := Nat.le_trans Z102 Kq118.1
                                  have N118 := Fr.app N113 N118q
                                  refine own_viaT st118 ?_
                                  show own_Go p e below s _ _ _ (T118.setTop (mkF m 537 #[.val (.int p0), .val (.int p1), .val (.int p2), .val (.long p3), .second, .val (.int v1), .val (.int v2), .val (.int v3), .val (.int v4), .val (.int v5), .val (.int v6), .val (.ref b7), .val (.int (Nat.toInt32 i13)), .val (.int (Nat.toInt32 i1)), .val (.int (Nat.toInt32 i4)), .val (.int (Nat.toInt32 i6)), .val (.int (Nat.toInt32 i10)), .val (.int w17), .val (.int (Nat.toInt32 (own_Fe u13 i6 v5 v4 v3))), .val (.int (0 : Int32)), .val (.ref b84), .val (.int (1 : Int32)), .val (.int v110), .val (.int v112), .val (.int v114), .unset] [(.int (own_nr u13 EN (own_nq u13 EN (own_pos u13 i1 EN))))]))
                                  refine own_via (fun _ k => XS.istore X118.here hx rfl (hb hby at_537) rfl (l' := #[.val (.int p0), .val (.int p1), .val (.int p2), .val (.long p3), .second, .val (.int v1), .val (.int v2), .val (.int v3), .val (.int v4), .val (.int v5), .val (.int v6), .val (.ref b7), .val (.int (Nat.toInt32 i13)), .val (.int (Nat.toInt32 i1)), .val (.int (Nat.toInt32 i4)), .val (.int (Nat.toInt32 i6)), .val (.int (Nat.toInt32 i10)), .val (.int w17), .val (.int (Nat.toInt32 (own_Fe u13 i6 v5 v4 v3))), .val (.int (0 : Int32)), .val (.ref b84), .val (.int (1 : Int32)), .val (.int v110), .val (.int v112), .val (.int v114), .val (.int (own_nr u13 EN (own_nq u13 EN (own_pos u13 i1 EN))))]) rfl k) ?_
                                  show own_Go p e below s _ _ _ (T118.setTop (mkF m 539 #[.val (.int p0), .val (.int p1), .val (.int p2), .val (.long p3), .second, .val (.int v1), .val (.int v2), .val (.int v3), .val (.int v4), .val (.int v5), .val (.int v6), .val (.ref b7), .val (.int (Nat.toInt32 i13)), .val (.int (Nat.toInt32 i1)), .val (.int (Nat.toInt32 i4)), .val (.int (Nat.toInt32 i6)), .val (.int (Nat.toInt32 i10)), .val (.int w17), .val (.int (Nat.toInt32 (own_Fe u13 i6 v5 v4 v3))), .val (.int (0 : Int32)), .val (.ref b84), .val (.int (1 : Int32)), .val (.int v110), .val (.int v112), .val (.int v114), .val (.int (own_nr u13 EN (own_nq u13 EN (own_pos u13 i1 EN))))] []))
                                  generalize hv126 : (own_nr u13 EN (own_nq u13 EN (own_pos u13 i1 EN))) = v126
                                  show own_Go p e below s _ _ _ (T118.setTop (mkF m 539 #[.val (.int p0), .val (.int p1), .val (.int p2), .val (.long p3), .second, .val (.int v1), .val (.int v2), .val (.int v3), .val (.int v4), .val (.int v5), .val (.int v6), .val (.ref b7), .val (.int (Nat.toInt32 i13)), .val (.int (Nat.toInt32 i1)), .val (.int (Nat.toInt32 i4)), .val (.int (Nat.toInt32 i6)), .val (.int (Nat.toInt32 i10)), .val (.int w17), .val (.int (Nat.toInt32 (own_Fe u13 i6 v5 v4 v3))), .val (.int (0 : Int32)), .val (.ref b84), .val (.int (1 : Int32)), .val (.int v110), .val (.int v112), .val (.int v114), .val (.int v126)] []))
                                  refine own_via (fun _ k => XS.iload X118.here hx rfl (hb hby at_539) rfl k) ?_
                                  show own_Go p e below s _ _ _ (T118.setTop (mkF m 541 #[.val (.int p0), .val (.int p1), .val (.int p2), .val (.long p3), .second, .val (.int v1), .val (.int v2), .val (.int v3), .val (.int v4), .val (.int v5), .val (.int v6), .val (.ref b7), .val (.int (Nat.toInt32 i13)), .val (.int (Nat.toInt32 i1)), .val (.int (Nat.toInt32 i4)), .val (.int (Nat.toInt32 i6)), .val (.int (Nat.toInt32 i10)), .val (.int w17), .val (.int (Nat.toInt32 (own_Fe u13 i6 v5 v4 v3))), .val (.int (0 : Int32)), .val (.ref b84), .val (.int (1 : Int32)), .val (.int v110), .val (.int v112), .val (.int v114), .val (.int v126)] [(.int (1 : Int32))]))
                                  refine own_via (fun _ k => XS.ifNo X118.here hx rfl (hb hby at_541) rfl (Jvm.Free.XT.i0_eq_f (by decide)) k) ?_
                                  show own_Go p e below s _ _ _ (T118.setTop (mkF m 544 #[.val (.int p0), .val (.int p1), .val (.int p2), .val (.long p3), .second, .val (.int v1), .val (.int v2), .val (.int v3), .val (.int v4), .val (.int v5), .val (.int v6), .val (.ref b7), .val (.int (Nat.toInt32 i13)), .val (.int (Nat.toInt32 i1)), .val (.int (Nat.toInt32 i4)), .val (.int (Nat.toInt32 i6)), .val (.int (Nat.toInt32 i10)), .val (.int w17), .val (.int (Nat.toInt32 (own_Fe u13 i6 v5 v4 v3))), .val (.int (0 : Int32)), .val (.ref b84), .val (.int (1 : Int32)), .val (.int v110), .val (.int v112), .val (.int v114), .val (.int v126)] []))
                                  refine own_via (fun _ k => XS.iload X118.here hx rfl (hb hby at_544) rfl k) ?_
                                  show own_Go p e below s _ _ _ (T118.setTop (mkF m 546 #[.val (.int p0), .val (.int p1), .val (.int p2), .val (.long p3), .second, .val (.int v1), .val (.int v2), .val (.int v3), .val (.int v4), .val (.int v5), .val (.int v6), .val (.ref b7), .val (.int (Nat.toInt32 i13)), .val (.int (Nat.toInt32 i1)), .val (.int (Nat.toInt32 i4)), .val (.int (Nat.toInt32 i6)), .val (.int (Nat.toInt32 i10)), .val (.int w17), .val (.int (Nat.toInt32 (own_Fe u13 i6 v5 v4 v3))), .val (.int (0 : Int32)), .val (.ref b84), .val (.int (1 : Int32)), .val (.int v110), .val (.int v112), .val (.int v114), .val (.int v126)] [(.int v126)]))
                                  have hc127 : v126 = (0 : Int32) := by (rw [← hv126, r4]) <;> decide
                                  refine own_via (fun _ k => XS.ifNo X118.here hx rfl (hb hby at_546) rfl (Jvm.Free.XT.i0_ne_f hc127) k) ?_
                                  show own_Go p e below s _ _ _ (T118.setTop (mkF m 549 #[.val (.int p0), .val (.int p1), .val (.int p2), .val (.long p3), .second, .val (.int v1), .val (.int v2), .val (.int v3), .val (.int v4), .val (.int v5), .val (.int v6), .val (.ref b7), .val (.int (Nat.toInt32 i13)), .val (.int (Nat.toInt32 i1)), .val (.int (Nat.toInt32 i4)), .val (.int (Nat.toInt32 i6)), .val (.int (Nat.toInt32 i10)), .val (.int w17), .val (.int (Nat.toInt32 (own_Fe u13 i6 v5 v4 v3))), .val (.int (0 : Int32)), .val (.ref b84), .val (.int (1 : Int32)), .val (.int v110), .val (.int v112), .val (.int v114), .val (.int v126)] []))
                                  refine own_via (fun _ k => XS.iconst X118.here hx rfl (hb hby at_549) k) ?_
                                  show own_Go p e below s _ _ _ (T118.setTop (mkF m 550 #[.val (.int p0), .val (.int p1), .val (.int p2), .val (.long p3), .second, .val (.int v1), .val (.int v2), .val (.int v3), .val (.int v4), .val (.int v5), .val (.int v6), .val (.ref b7), .val (.int (Nat.toInt32 i13)), .val (.int (Nat.toInt32 i1)), .val (.int (Nat.toInt32 i4)), .val (.int (Nat.toInt32 i6)), .val (.int (Nat.toInt32 i10)), .val (.int w17), .val (.int (Nat.toInt32 (own_Fe u13 i6 v5 v4 v3))), .val (.int (0 : Int32)), .val (.ref b84), .val (.int (1 : Int32)), .val (.int v110), .val (.int v112), .val (.int v114), .val (.int v126)] [(.int (1 : Int32))]))
                                  refine own_via (fun _ k => XS.goto X118.here hx rfl (pc0 := 550) (pc' := 554) rfl (hb hby at_550) (by decide) (by decide) k) ?_
                                  show own_Go p e below s _ _ _ (T118.setTop (mkF m 554 #[.val (.int p0), .val (.int p1), .val (.int p2), .val (.long p3), .second, .val (.int v1), .val (.int v2), .val (.int v3), .val (.int v4), .val (.int v5), .val (.int v6), .val (.ref b7), .val (.int (Nat.toInt32 i13)), .val (.int (Nat.toInt32 i1)), .val (.int (Nat.toInt32 i4)), .val (.int (Nat.toInt32 i6)), .val (.int (Nat.toInt32 i10)), .val (.int w17), .val (.int (Nat.toInt32 (own_Fe u13 i6 v5 v4 v3))), .val (.int (0 : Int32)), .val (.ref b84), .val (.int (1 : Int32)), .val (.int v110), .val (.int v112), .val (.int v114), .val (.int v126)] [(.int (1 : Int32))]))
                                  exact own_goN X118 hx (t := .boolean) Bd.returns (by simp) (hb hby at_554) Bd.notSynchronized (by decide) (by decide) (by rw [e118]; exact ⟨rfl, N118⟩)
                              show own_Go p e below s _ _ _ (T34.setTop (mkF m 360 #[.val (.int p0), .val (.int p1), .val (.int p2), .val (.long p3), .second, .val (.int v1), .val (.int v2), .val (.int v3), .val (.int v4), .val (.int v5), .val (.int v6), .val (.ref b7), .val (.int (Nat.toInt32 i13)), .val (.int (Nat.toInt32 i1)), .val (.int (Nat.toInt32 i4)), .val (.int (Nat.toInt32 i6)), .val (.int (Nat.toInt32 i10)), .val (.int w17), .val (.int (Nat.toInt32 (own_Fe u13 i6 v5 v4 v3))), .unset, .unset, .unset, .unset, .unset, .unset, .unset] []))
                              refine own_via (fun _ k => XS.iload X34.here hx rfl (hb hby at_360) rfl k) ?_
                              show own_Go p e below s _ _ _ (T34.setTop (mkF m 362 #[.val (.int p0), .val (.int p1), .val (.int p2), .val (.long p3), .second, .val (.int v1), .val (.int v2), .val (.int v3), .val (.int v4), .val (.int v5), .val (.int v6), .val (.ref b7), .val (.int (Nat.toInt32 i13)), .val (.int (Nat.toInt32 i1)), .val (.int (Nat.toInt32 i4)), .val (.int (Nat.toInt32 i6)), .val (.int (Nat.toInt32 i10)), .val (.int w17), .val (.int (Nat.toInt32 (own_Fe u13 i6 v5 v4 v3))), .unset, .unset, .unset, .unset, .unset, .unset, .unset] [(.int (Nat.toInt32 (own_Fe u13 i6 v5 v4 v3)))]))
                              refine own_via (fun _ k => XS.iload X34.here hx rfl (hb hby at_362) rfl k) ?_
                              show own_Go p e below s _ _ _ (T34.setTop (mkF m 364 #[.val (.int p0), .val (.int p1), .val (.int p2), .val (.long p3), .second, .val (.int v1), .val (.int v2), .val (.int v3), .val (.int v4), .val (.int v5), .val (.int v6), .val (.ref b7), .val (.int (Nat.toInt32 i13)), .val (.int (Nat.toInt32 i1)), .val (.int (Nat.toInt32 i4)), .val (.int (Nat.toInt32 i6)), .val (.int (Nat.toInt32 i10)), .val (.int w17), .val (.int (Nat.toInt32 (own_Fe u13 i6 v5 v4 v3))), .unset, .unset, .unset, .unset, .unset, .unset, .unset] [(.int (Nat.toInt32 i4)), (.int (Nat.toInt32 (own_Fe u13 i6 v5 v4 v3)))]))
                              by_cases hc128 : (Nat.toInt32 i4) < (Nat.toInt32 (own_Fe u13 i6 v5 v4 v3))
                              · refine own_via (fun _ k => XS.icmpNo X34.here hx rfl (hb hby at_364) rfl (Jvm.Free.XT.ii_le_f hc128) k) ?_
                                show own_Go p e below s _ _ _ (T34.setTop (mkF m 367 #[.val (.int p0), .val (.int p1), .val (.int p2), .val (.long p3), .second, .val (.int v1), .val (.int v2), .val (.int v3), .val (.int v4), .val (.int v5), .val (.int v6), .val (.ref b7), .val (.int (Nat.toInt32 i13)), .val (.int (Nat.toInt32 i1)), .val (.int (Nat.toInt32 i4)), .val (.int (Nat.toInt32 i6)), .val (.int (Nat.toInt32 i10)), .val (.int w17), .val (.int (Nat.toInt32 (own_Fe u13 i6 v5 v4 v3))), .unset, .unset, .unset, .unset, .unset, .unset, .unset] []))
                                refine own_via (fun _ k => XS.aload X34.here hx rfl (hb hby at_367) rfl rfl k) ?_
                                show own_Go p e below s _ _ _ (T34.setTop (mkF m 369 #[.val (.int p0), .val (.int p1), .val (.int p2), .val (.long p3), .second, .val (.int v1), .val (.int v2), .val (.int v3), .val (.int v4), .val (.int v5), .val (.int v6), .val (.ref b7), .val (.int (Nat.toInt32 i13)), .val (.int (Nat.toInt32 i1)), .val (.int (Nat.toInt32 i4)), .val (.int (Nat.toInt32 i6)), .val (.int (Nat.toInt32 i10)), .val (.int w17), .val (.int (Nat.toInt32 (own_Fe u13 i6 v5 v4 v3))), .unset, .unset, .unset, .unset, .unset, .unset, .unset] [(.ref b7)]))
                                refine own_via (fun _ k => XS.iload X34.here hx rfl (hb hby at_369) rfl k) ?_
                                show own_Go p e below s _ _ _ (T34.setTop (mkF m 371 #[.val (.int p0), .val (.int p1), .val (.int p2), .val (.long p3), .second, .val (.int v1), .val (.int v2), .val (.int v3), .val (.int v4), .val (.int v5), .val (.int v6), .val (.ref b7), .val (.int (Nat.toInt32 i13)), .val (.int (Nat.toInt32 i1)), .val (.int (Nat.toInt32 i4)), .val (.int (Nat.toInt32 i6)), .val (.int (Nat.toInt32 i10)), .val (.int w17), .val (.int (Nat.toInt32 (own_Fe u13 i6 v5 v4 v3))), .unset, .unset, .unset, .unset, .unset, .unset, .unset] [(.int (Nat.toInt32 i4)), (.ref b7)]))
                                obtain ⟨cl129, Ar129, q129, S129, M129, H129, G129⟩ := (id F35)
                                have hin129 : ¬ ((Nat.toInt32 i4) < 0 ∨ cl129.slots.size ≤ ((Nat.toInt32 i4)).toNatClampNeg) := inb_of S129 (own_inb (by omega) (by show ((i4 : Nat) : Int) < 16; omega))
                                have hat129 : cl129.slots[((Nat.toInt32 i4)).toNatClampNeg]? = some (.int (own_g u13 i4)) := Has.at H129 hin129 (own_gm u13 (by omega))
                                refine own_via (fun _ k => X34.baloadBytes hx (j := (Nat.toInt32 i4)) (v := (.int (own_g u13 i4))) (by rw [e34]; exact Ar129.1) (State.isArrayOf_alike hZ.alike Ar129.2.1) Ar129.2.2 hin129 hat129 (g := (mkF m 371 #[.val (.int p0), .val (.int p1), .val (.int p2), .val (.long p3), .second, .val (.int v1), .val (.int v2), .val (.int v3), .val (.int v4), .val (.int v5), .val (.int v6), .val (.ref b7), .val (.int (Nat.toInt32 i13)), .val (.int (Nat.toInt32 i1)), .val (.int (Nat.toInt32 i4)), .val (.int (Nat.toInt32 i6)), .val (.int (Nat.toInt32 i10)), .val (.int w17), .val (.int (Nat.toInt32 (own_Fe u13 i6 v5 v4 v3))), .unset, .unset, .unset, .unset, .unset, .unset, .unset] [(.int (Nat.toInt32 i4)), (.ref b7)])) rfl rfl (hb hby at_371) _ k) ?_
                                show own_Go p e below s _ _ _ (T34.setTop (mkF m 372 #[.val (.int p0), .val (.int p1), .val (.int p2), .val (.long p3), .second, .val (.int v1), .val (.int v2), .val (.int v3), .val (.int v4), .val (.int v5), .val (.int v6), .val (.ref b7), .val (.int (Nat.toInt32 i13)), .val (.int (Nat.toInt32 i1)), .val (.int (Nat.toInt32 i4)), .val (.int (Nat.toInt32 i6)), .val (.int (Nat.toInt32 i10)), .val (.int w17), .val (.int (Nat.toInt32 (own_Fe u13 i6 v5 v4 v3))), .unset, .unset, .unset, .unset, .unset, .unset, .unset] [(.int (own_g u13 i4))]))
                                refine own_via (fun _ k => XS.bipush X34.here hx rfl (hb hby at_372) k) ?_
                                show own_Go p e below s _ _ _ (T34.setTop (mkF m 374 #[.val (.int p0), .val (.int p1), .val (.int p2), .val (.long p3), .second, .val (.int v1), .val (.int v2), .val (.int v3), .val (.int v4), .val (.int v5), .val (.int v6), .val (.ref b7), .val (.int (Nat.toInt32 i13)), .val (.int (Nat.toInt32 i1)), .val (.int (Nat.toInt32 i4)), .val (.int (Nat.toInt32 i6)), .val (.int (Nat.toInt32 i10)), .val (.int w17), .val (.int (Nat.toInt32 (own_Fe u13 i6 v5 v4 v3))), .unset, .unset, .unset, .unset, .unset, .unset, .unset] [(.int (35 : Int32)), (.int (own_g u13 i4))]))
                                by_cases hc130 : (own_g u13 i4) = (35 : Int32)
                                · refine own_via (fun _ k => XS.icmpYes X34.here hx rfl (pc0 := 374) (pc' := 381) rfl (hb hby at_374) rfl (Jvm.Free.XT.ii_eq_t hc130) (by decide) (by decide) k) ?_
                                  show own_Go p e below s _ _ _ (T34.setTop (mkF m 381 #[.val (.int p0), .val (.int p1), .val (.int p2), .val (.long p3), .second, .val (.int v1), .val (.int v2), .val (.int v3), .val (.int v4), .val (.int v5), .val (.int v6), .val (.ref b7), .val (.int (Nat.toInt32 i13)), .val (.int (Nat.toInt32 i1)), .val (.int (Nat.toInt32 i4)), .val (.int (Nat.toInt32 i6)), .val (.int (Nat.toInt32 i10)), .val (.int w17), .val (.int (Nat.toInt32 (own_Fe u13 i6 v5 v4 v3))), .unset, .unset, .unset, .unset, .unset, .unset, .unset] []))
                                  refine own_via (fun _ k => XS.iconst X34.here hx rfl (hb hby at_381) k) ?_
                                  show own_Go p e below s _ _ _ (T34.setTop (mkF m 382 #[.val (.int p0), .val (.int p1), .val (.int p2), .val (.long p3), .second, .val (.int v1), .val (.int v2), .val (.int v3), .val (.int v4), .val (.int v5), .val (.int v6), .val (.ref b7), .val (.int (Nat.toInt32 i13)), .val (.int (Nat.toInt32 i1)), .val (.int (Nat.toInt32 i4)), .val (.int (Nat.toInt32 i6)), .val (.int (Nat.toInt32 i10)), .val (.int w17), .val (.int (Nat.toInt32 (own_Fe u13 i6 v5 v4 v3))), .unset, .unset, .unset, .unset, .unset, .unset, .unset] [(.int (0 : Int32))]))
                                  refine own_via (fun _ k => XS.istore X34.here hx rfl (hb hby at_382) rfl (l' := #[.val (.int p0), .val (.int p1), .val (.int p2), .val (.long p3), .second, .val (.int v1), .val (.int v2), .val (.int v3), .val (.int v4), .val (.int v5), .val (.int v6), .val (.ref b7), .val (.int (Nat.toInt32 i13)), .val (.int (Nat.toInt32 i1)), .val (.int (Nat.toInt32 i4)), .val (.int (Nat.toInt32 i6)), .val (.int (Nat.toInt32 i10)), .val (.int w17), .val (.int (Nat.toInt32 (own_Fe u13 i6 v5 v4 v3))), .val (.int (0 : Int32)), .unset, .unset, .unset, .unset, .unset, .unset]) rfl k) ?_
                                  show own_Go p e below s _ _ _ (T34.setTop (mkF m 384 #[.val (.int p0), .val (.int p1), .val (.int p2), .val (.long p3), .second, .val (.int v1), .val (.int v2), .val (.int v3), .val (.int v4), .val (.int v5), .val (.int v6), .val (.ref b7), .val (.int (Nat.toInt32 i13)), .val (.int (Nat.toInt32 i1)), .val (.int (Nat.toInt32 i4)), .val (.int (Nat.toInt32 i6)), .val (.int (Nat.toInt32 i10)), .val (.int w17), .val (.int (Nat.toInt32 (own_Fe u13 i6 v5 v4 v3))), .val (.int (0 : Int32)), .unset, .unset, .unset, .unset, .unset, .unset] []))
                                  exact jn19 (0 : Int32) _ _ _ X34 e34 N34 Z34 F35 (by rw [if_neg (fun z => z.2 hc130)])
                                · refine own_via (fun _ k => XS.icmpNo X34.here hx rfl (hb hby at_374) rfl (Jvm.Free.XT.ii_eq_f hc130) k) ?_
                                  show own_Go p e below s _ _ _ (T34.setTop (mkF m 377 #[.val (.int p0), .val (.int p1), .val (.int p2), .val (.long p3), .second, .val (.int v1), .val (.int v2), .val (.int v3), .val (.int v4), .val (.int v5), .val (.int v6), .val (.ref b7), .val (.int (Nat.toInt32 i13)), .val (.int (Nat.toInt32 i1)), .val (.int (Nat.toInt32 i4)), .val (.int (Nat.toInt32 i6)), .val (.int (Nat.toInt32 i10)), .val (.int w17), .val (.int (Nat.toInt32 (own_Fe u13 i6 v5 v4 v3))), .unset, .unset, .unset, .unset, .unset, .unset, .unset] []))
                                  refine own_via (fun _ k => XS.iconst X34.here hx rfl (hb hby at_377) k) ?_
                                  show own_Go p e below s _ _ _ (T34.setTop (mkF m 378 #[.val (.int p0), .val (.int p1), .val (.int p2), .val (.long p3), .second, .val (.int v1), .val (.int v2), .val (.int v3), .val (.int v4), .val (.int v5), .val (.int v6), .val (.ref b7), .val (.int (Nat.toInt32 i13)), .val (.int (Nat.toInt32 i1)), .val (.int (Nat.toInt32 i4)), .val (.int (Nat.toInt32 i6)), .val (.int (Nat.toInt32 i10)), .val (.int w17), .val (.int (Nat.toInt32 (own_Fe u13 i6 v5 v4 v3))), .unset, .unset, .unset, .unset, .unset, .unset, .unset] [(.int (1 : Int32))]))
                                  refine own_via (fun _ k => XS.goto X34.here hx rfl (pc0 := 378) (pc' := 382) rfl (hb hby at_378) (by decide) (by decide) k) ?_
                                  show own_Go p e below s _ _ _ (T34.setTop (mkF m 382 #[.val (.int p0), .val (.int p1), .val (.int p2), .val (.long p3), .second, .val (.int v1), .val (.int v2), .val (.int v3), .val (.int v4), .val (.int v5), .val (.int v6), .val (.ref b7), .val (.int (Nat.toInt32 i13)), .val (.int (Nat.toInt32 i1)), .val (.int (Nat.toInt32 i4)), .val (.int (Nat.toInt32 i6)), .val (.int (Nat.toInt32 i10)), .val (.int w17), .val (.int (Nat.toInt32 (own_Fe u13 i6 v5 v4 v3))), .unset, .unset, .unset, .unset, .unset, .unset, .unset] [(.int (1 : Int32))]))
                                  refine own_via (fun _ k => XS.istore X34.here hx rfl (hb hby at_382) rfl (l' := #[.val (.int p0), .val (.int p1), .val (.int p2), .val (.long p3), .second, .val (.int v1), .val (.int v2), .val (.int v3), .val (.int v4), .val (.int v5), .val (.int v6), .val (.ref b7), .val (.int (Nat.toInt32 i13)), .val (.int (Nat.toInt32 i1)), .val (.int (Nat.toInt32 i4)), .val (.int (Nat.toInt32 i6)), .val (.int (Nat.toInt32 i10)), .val (.int w17), .val (.int (Nat.toInt32 (own_Fe u13 i6 v5 v4 v3))), .val (.int (1 : Int32)), .unset, .unset, .unset, .unset, .unset, .unset]) rfl k) ?_
                                  show own_Go p e below s _ _ _ (T34.setTop (mkF m 384 #[.val (.int p0), .val (.int p1), .val (.int p2), .val (.long p3), .second, .val (.int v1), .val (.int v2), .val (.int v3), .val (.int v4), .val (.int v5), .val (.int v6), .val (.ref b7), .val (.int (Nat.toInt32 i13)), .val (.int (Nat.toInt32 i1)), .val (.int (Nat.toInt32 i4)), .val (.int (Nat.toInt32 i6)), .val (.int (Nat.toInt32 i10)), .val (.int w17), .val (.int (Nat.toInt32 (own_Fe u13 i6 v5 v4 v3))), .val (.int (1 : Int32)), .unset, .unset, .unset, .unset, .unset, .unset] []))
                                  exact jn19 (1 : Int32) _ _ _ X34 e34 N34 Z34 F35 (by rw [if_pos ⟨((own_ltn (by omega) (by omega)).mp hc128), hc130⟩])
                              · refine own_via (fun _ k => XS.icmpYes X34.here hx rfl (pc0 := 364) (pc' := 381) rfl (hb hby at_364) rfl (Jvm.Free.XT.ii_le_t hc128) (by decide) (by decide) k) ?_
                                show own_Go p e below s _ _ _ (T34.setTop (mkF m 381 #[.val (.int p0), .val (.int p1), .val (.int p2), .val (.long p3), .second, .val (.int v1), .val (.int v2), .val (.int v3), .val (.int v4), .val (.int v5), .val (.int v6), .val (.ref b7), .val (.int (Nat.toInt32 i13)), .val (.int (Nat.toInt32 i1)), .val (.int (Nat.toInt32 i4)), .val (.int (Nat.toInt32 i6)), .val (.int (Nat.toInt32 i10)), .val (.int w17), .val (.int (Nat.toInt32 (own_Fe u13 i6 v5 v4 v3))), .unset, .unset, .unset, .unset, .unset, .unset, .unset] []))
                                refine own_via (fun _ k => XS.iconst X34.here hx rfl (hb hby at_381) k) ?_
                                show own_Go p e below s _ _ _ (T34.setTop (mkF m 382 #[.val (.int p0), .val (.int p1), .val (.int p2), .val (.long p3), .second, .val (.int v1), .val (.int v2), .val (.int v3), .val (.int v4), .val (.int v5), .val (.int v6), .val (.ref b7), .val (.int (Nat.toInt32 i13)), .val (.int (Nat.toInt32 i1)), .val (.int (Nat.toInt32 i4)), .val (.int (Nat.toInt32 i6)), .val (.int (Nat.toInt32 i10)), .val (.int w17), .val (.int (Nat.toInt32 (own_Fe u13 i6 v5 v4 v3))), .unset, .unset, .unset, .unset, .unset, .unset, .unset] [(.int (0 : Int32))]))
                                refine own_via (fun _ k => XS.istore X34.here hx rfl (hb hby at_382) rfl (l' := #[.val (.int p0), .val (.int p1), .val (.int p2), .val (.long p3), .second, .val (.int v1), .val (.int v2), .val (.int v3), .val (.int v4), .val (.int v5), .val (.int v6), .val (.ref b7), .val (.int (Nat.toInt32 i13)), .val (.int (Nat.toInt32 i1)), .val (.int (Nat.toInt32 i4)), .val (.int (Nat.toInt32 i6)), .val (.int (Nat.toInt32 i10)), .val (.int w17), .val (.int (Nat.toInt32 (own_Fe u13 i6 v5 v4 v3))), .val (.int (0 : Int32)), .unset, .unset, .unset, .unset, .unset, .unset]) rfl k) ?_
                                show own_Go p e below s _ _ _ (T34.setTop (mkF m 384 #[.val (.int p0), .val (.int p1), .val (.int p2), .val (.long p3), .second, .val (.int v1), .val (.int v2), .val (.int v3), .val (.int v4), .val (.int v5), .val (.int v6), .val (.ref b7), .val (.int (Nat.toInt32 i13)), .val (.int (Nat.toInt32 i1)), .val (.int (Nat.toInt32 i4)), .val (.int (Nat.toInt32 i6)), .val (.int (Nat.toInt32 i10)), .val (.int w17), .val (.int (Nat.toInt32 (own_Fe u13 i6 v5 v4 v3))), .val (.int (0 : Int32)), .unset, .unset, .unset, .unset, .unset, .unset] []))
                                exact jn19 (0 : Int32) _ _ _ X34 e34 N34 Z34 F35 (by rw [if_neg (fun z => hc128 ((own_ltn (by omega) (by omega)).mpr z.1))])
                            show own_Go p e below s _ _ _ (T32.setTop (mkF m 310 #[.val (.int p0), .val (.int p1), .val (.int p2), .val (.long p3), .second, .val (.int v1), .val (.int v2), .val (.int v3), .val (.int v4), .val (.int v5), .val (.int v6), .val (.ref b7), .val (.int (Nat.toInt32 i13)), .val (.int (Nat.toInt32 i1)), .val (.int (Nat.toInt32 i4)), .val (.int (Nat.toInt32 i6)), .val (.int (Nat.toInt32 i10)), .unset, .unset, .unset, .unset, .unset, .unset, .unset, .unset, .unset] []))
                            refine own_via (fun _ k => XS.iload X32.here hx rfl (hb hby at_310) rfl k) ?_
                            show own_Go p e below s _ _ _ (T32.setTop (mkF m 312 #[.val (.int p0), .val (.int p1), .val (.int p2), .val (.long p3), .second, .val (.int v1), .val (.int v2), .val (.int v3), .val (.int v4), .val (.int v5), .val (.int v6), .val (.ref b7), .val (.int (Nat.toInt32 i13)), .val (.int (Nat.toInt32 i1)), .val (.int (Nat.toInt32 i4)), .val (.int (Nat.toInt32 i6)), .val (.int (Nat.toInt32 i10)), .unset, .unset, .unset, .unset, .unset, .unset, .unset, .unset, .unset] [(.int v5)]))
                            by_cases hc131 : v5 = (0 : Int32)
                            · refine own_via (fun _ k => XS.ifNo X32.here hx rfl (hb hby at_312) rfl (Jvm.Free.XT.i0_ne_f hc131) k) ?_
                              show own_Go p e below s _ _ _ (T32.setTop (mkF m 315 #[.val (.int p0), .val (.int p1), .val (.int p2), .val (.long p3), .second, .val (.int v1), .val (.int v2), .val (.int v3), .val (.int v4), .val (.int v5), .val (.int v6), .val (.ref b7), .val (.int (Nat.toInt32 i13)), .val (.int (Nat.toInt32 i1)), .val (.int (Nat.toInt32 i4)), .val (.int (Nat.toInt32 i6)), .val (.int (Nat.toInt32 i10)), .unset, .unset, .unset, .unset, .unset, .unset, .unset, .unset, .unset] []))
                              refine own_via (fun _ k => XS.iload X32.here hx rfl (hb hby at_315) rfl k) ?_
                              show own_Go p e below s _ _ _ (T32.setTop (mkF m 317 #[.val (.int p0), .val (.int p1), .val (.int p2), .val (.long p3), .second, .val (.int v1), .val (.int v2), .val (.int v3), .val (.int v4), .val (.int v5), .val (.int v6), .val (.ref b7), .val (.int (Nat.toInt32 i13)), .val (.int (Nat.toInt32 i1)), .val (.int (Nat.toInt32 i4)), .val (.int (Nat.toInt32 i6)), .val (.int (Nat.toInt32 i10)), .unset, .unset, .unset, .unset, .unset, .unset, .unset, .unset, .unset] [(.int v4)]))
                              by_cases hc132 : v4 = (0 : Int32)
                              · refine own_via (fun _ k => XS.ifNo X32.here hx rfl (hb hby at_317) rfl (Jvm.Free.XT.i0_ne_f hc132) k) ?_
                                show own_Go p e below s _ _ _ (T32.setTop (mkF m 320 #[.val (.int p0), .val (.int p1), .val (.int p2), .val (.long p3), .second, .val (.int v1), .val (.int v2), .val (.int v3), .val (.int v4), .val (.int v5), .val (.int v6), .val (.ref b7), .val (.int (Nat.toInt32 i13)), .val (.int (Nat.toInt32 i1)), .val (.int (Nat.toInt32 i4)), .val (.int (Nat.toInt32 i6)), .val (.int (Nat.toInt32 i10)), .unset, .unset, .unset, .unset, .unset, .unset, .unset, .unset, .unset] []))
                                refine own_via (fun _ k => XS.iload X32.here hx rfl (hb hby at_320) rfl k) ?_
                                show own_Go p e below s _ _ _ (T32.setTop (mkF m 322 #[.val (.int p0), .val (.int p1), .val (.int p2), .val (.long p3), .second, .val (.int v1), .val (.int v2), .val (.int v3), .val (.int v4), .val (.int v5), .val (.int v6), .val (.ref b7), .val (.int (Nat.toInt32 i13)), .val (.int (Nat.toInt32 i1)), .val (.int (Nat.toInt32 i4)), .val (.int (Nat.toInt32 i6)), .val (.int (Nat.toInt32 i10)), .unset, .unset, .unset, .unset, .unset, .unset, .unset, .unset, .unset] [(.int v3)]))
                                by_cases hc133 : (0 : Int32) < v3
                                · refine own_via (fun _ k => XS.ifNo X32.here hx rfl (hb hby at_322) rfl (Jvm.Free.XT.i0_le_f hc133) k) ?_
                                  show own_Go p e below s _ _ _ (T32.setTop (mkF m 325 #[.val (.int p0), .val (.int p1), .val (.int p2), .val (.long p3), .second, .val (.int v1), .val (.int v2), .val (.int v3), .val (.int v4), .val (.int v5), .val (.int v6), .val (.ref b7), .val (.int (Nat.toInt32 i13)), .val (.int (Nat.toInt32 i1)), .val (.int (Nat.toInt32 i4)), .val (.int (Nat.toInt32 i6)), .val (.int (Nat.toInt32 i10)), .unset, .unset, .unset, .unset, .unset, .unset, .unset, .unset, .unset] []))
                                  refine own_via (fun _ k => XS.aload X32.here hx rfl (hb hby at_325) rfl rfl k) ?_
                                  show own_Go p e below s _ _ _ (T32.setTop (mkF m 327 #[.val (.int p0), .val (.int p1), .val (.int p2), .val (.long p3), .second, .val (.int v1), .val (.int v2), .val (.int v3), .val (.int v4), .val (.int v5), .val (.int v6), .val (.ref b7), .val (.int (Nat.toInt32 i13)), .val (.int (Nat.toInt32 i1)), .val (.int (Nat.toInt32 i4)), .val (.int (Nat.toInt32 i6)), .val (.int (Nat.toInt32 i10)), .unset, .unset, .unset, .unset, .unset, .unset, .unset, .unset, .unset] [(.ref b7)]))
                                  refine own_via (fun _ k => XS.iload X32.here hx rfl (hb hby at_327) rfl k) ?_
                                  show own_Go p e below s _ _ _ (T32.setTop (mkF m 329 #[.val (.int p0), .val (.int p1), .val (.int p2), .val (.long p3), .second, .val (.int v1), .val (.int v2), .val (.int v3), .val (.int v4), .val (.int v5), .val (.int v6), .val (.ref b7), .val (.int (Nat.toInt32 i13)), .val (.int (Nat.toInt32 i1)), .val (.int (Nat.toInt32 i4)), .val (.int (Nat.toInt32 i6)), .val (.int (Nat.toInt32 i10)), .unset, .unset, .unset, .unset, .unset, .unset, .unset, .unset, .unset] [(.int (Nat.toInt32 i6)), (.ref b7)]))
                                  refine own_via (fun _ k => XS.iconst X32.here hx rfl (hb hby at_329) k) ?_
                                  show own_Go p e below s _ _ _ (T32.setTop (mkF m 330 #[.val (.int p0), .val (.int p1), .val (.int p2), .val (.long p3), .second, .val (.int v1), .val (.int v2), .val (.int v3), .val (.int v4), .val (.int v5), .val (.int v6), .val (.ref b7), .val (.int (Nat.toInt32 i13)), .val (.int (Nat.toInt32 i1)), .val (.int (Nat.toInt32 i4)), .val (.int (Nat.toInt32 i6)), .val (.int (Nat.toInt32 i10)), .unset, .unset, .unset, .unset, .unset, .unset, .unset, .unset, .unset] [(.int (1 : Int32)), (.int (Nat.toInt32 i6)), (.ref b7)]))
                                  refine own_via (fun _ k => XS.isub X32.here hx rfl (hb hby at_330) rfl k) ?_
                                  show own_Go p e below s _ _ _ (T32.setTop (mkF m 331 #[.val (.int p0), .val (.int p1), .val (.int p2), .val (.long p3), .second, .val (.int v1), .val (.int v2), .val (.int v3), .val (.int v4), .val (.int v5), .val (.int v6), .val (.ref b7), .val (.int (Nat.toInt32 i13)), .val (.int (Nat.toInt32 i1)), .val (.int (Nat.toInt32 i4)), .val (.int (Nat.toInt32 i6)), .val (.int (Nat.toInt32 i10)), .unset, .unset, .unset, .unset, .unset, .unset, .unset, .unset, .unset] [(.int ((Nat.toInt32 i6) - (1 : Int32))), (.ref b7)]))
                                  rw [show ((Nat.toInt32 i6) - (1 : Int32)) = (Nat.toInt32 (i6 - 1)) from (own_pred (hb6 hc133))]
                                  show own_Go p e below s _ _ _ (T32.setTop (mkF m 331 #[.val (.int p0), .val (.int p1), .val (.int p2), .val (.long p3), .second, .val (.int v1), .val (.int v2), .val (.int v3), .val (.int v4), .val (.int v5), .val (.int v6), .val (.ref b7), .val (.int (Nat.toInt32 i13)), .val (.int (Nat.toInt32 i1)), .val (.int (Nat.toInt32 i4)), .val (.int (Nat.toInt32 i6)), .val (.int (Nat.toInt32 i10)), .unset, .unset, .unset, .unset, .unset, .unset, .unset, .unset, .unset] [(.int (Nat.toInt32 (i6 - 1))), (.ref b7)]))
                                  obtain ⟨cl134, Ar134, q134, S134, M134, H134, G134⟩ := (id F33)
                                  have hin134 : ¬ ((Nat.toInt32 (i6 - 1)) < 0 ∨ cl134.slots.size ≤ ((Nat.toInt32 (i6 - 1))).toNatClampNeg) := inb_of S134 (own_inb (by omega) (by show ((i6 - 1 : Nat) : Int) < 16; omega))
                                  have hat134 : cl134.slots[((Nat.toInt32 (i6 - 1))).toNatClampNeg]? = some (.int (own_g u13 (i6 - 1))) := Has.at H134 hin134 (own_gm u13 (by omega))
                                  refine own_via (fun _ k => X32.baloadBytes hx (j := (Nat.toInt32 (i6 - 1))) (v := (.int (own_g u13 (i6 - 1)))) (by rw [e32]; exact Ar134.1) (State.isArrayOf_alike hZ.alike Ar134.2.1) Ar134.2.2 hin134 hat134 (g := (mkF m 331 #[.val (.int p0), .val (.int p1), .val (.int p2), .val (.long p3), .second, .val (.int v1), .val (.int v2), .val (.int v3), .val (.int v4), .val (.int v5), .val (.int v6), .val (.ref b7), .val (.int (Nat.toInt32 i13)), .val (.int (Nat.toInt32 i1)), .val (.int (Nat.toInt32 i4)), .val (.int (Nat.toInt32 i6)), .val (.int (Nat.toInt32 i10)), .unset, .unset, .unset, .unset, .unset, .unset, .unset, .unset, .unset] [(.int (Nat.toInt32 (i6 - 1))), (.ref b7)])) rfl rfl (hb hby at_331) _ k) ?_
                                  show own_Go p e below s _ _ _ (T32.setTop (mkF m 332 #[.val (.int p0), .val (.int p1), .val (.int p2), .val (.long p3), .second, .val (.int v1), .val (.int v2), .val (.int v3), .val (.int v4), .val (.int v5), .val (.int v6), .val (.ref b7), .val (.int (Nat.toInt32 i13)), .val (.int (Nat.toInt32 i1)), .val (.int (Nat.toInt32 i4)), .val (.int (Nat.toInt32 i6)), .val (.int (Nat.toInt32 i10)), .unset, .unset, .unset, .unset, .unset, .unset, .unset, .unset, .unset] [(.int (own_g u13 (i6 - 1)))]))
                                  refine own_via (fun _ k => XS.bipush X32.here hx rfl (hb hby at_332) k) ?_
                                  show own_Go p e below s _ _ _ (T32.setTop (mkF m 334 #[.val (.int p0), .val (.int p1), .val (.int p2), .val (.long p3), .second, .val (.int v1), .val (.int v2), .val (.int v3), .val (.int v4), .val (.int v5), .val (.int v6), .val (.ref b7), .val (.int (Nat.toInt32 i13)), .val (.int (Nat.toInt32 i1)), .val (.int (Nat.toInt32 i4)), .val (.int (Nat.toInt32 i6)), .val (.int (Nat.toInt32 i10)), .unset, .unset, .unset, .unset, .unset, .unset, .unset, .unset, .unset] [(.int (13 : Int32)), (.int (own_g u13 (i6 - 1)))]))
                                  by_cases hc135 : (own_g u13 (i6 - 1)) = (13 : Int32)
                                  · refine own_via (fun _ k => XS.icmpNo X32.here hx rfl (hb hby at_334) rfl (Jvm.Free.XT.ii_ne_f hc135) k) ?_
                                    show own_Go p e below s _ _ _ (T32.setTop (mkF m 337 #[.val (.int p0), .val (.int p1), .val (.int p2), .val (.long p3), .second, .val (.int v1), .val (.int v2), .val (.int v3), .val (.int v4), .val (.int v5), .val (.int v6), .val (.ref b7), .val (.int (Nat.toInt32 i13)), .val (.int (Nat.toInt32 i1)), .val (.int (Nat.toInt32 i4)), .val (.int (Nat.toInt32 i6)), .val (.int (Nat.toInt32 i10)), .unset, .unset, .unset, .unset, .unset, .unset, .unset, .unset, .unset] []))
                                    refine own_via (fun _ k => XS.iconst X32.here hx rfl (hb hby at_337) k) ?_
                                    show own_Go p e below s _ _ _ (T32.setTop (mkF m 338 #[.val (.int p0), .val (.int p1), .val (.int p2), .val (.long p3), .second, .val (.int v1), .val (.int v2), .val (.int v3), .val (.int v4), .val (.int v5), .val (.int v6), .val (.ref b7), .val (.int (Nat.toInt32 i13)), .val (.int (Nat.toInt32 i1)), .val (.int (Nat.toInt32 i4)), .val (.int (Nat.toInt32 i6)), .val (.int (Nat.toInt32 i10)), .unset, .unset, .unset, .unset, .unset, .unset, .unset, .unset, .unset] [(.int (1 : Int32))]))
                                    refine own_via (fun _ k => XS.goto X32.here hx rfl (pc0 := 338) (pc' := 342) rfl (hb hby at_338) (by decide) (by decide) k) ?_
                                    show own_Go p e below s _ _ _ (T32.setTop (mkF m 342 #[.val (.int p0), .val (.int p1), .val (.int p2), .val (.long p3), .second, .val (.int v1), .val (.int v2), .val (.int v3), .val (.int v4), .val (.int v5), .val (.int v6), .val (.ref b7), .val (.int (Nat.toInt32 i13)), .val (.int (Nat.toInt32 i1)), .val (.int (Nat.toInt32 i4)), .val (.int (Nat.toInt32 i6)), .val (.int (Nat.toInt32 i10)), .unset, .unset, .unset, .unset, .unset, .unset, .unset, .unset, .unset] [(.int (1 : Int32))]))
                                    refine own_via (fun _ k => XS.istore X32.here hx rfl (hb hby at_342) rfl (l' := #[.val (.int p0), .val (.int p1), .val (.int p2), .val (.long p3), .second, .val (.int v1), .val (.int v2), .val (.int v3), .val (.int v4), .val (.int v5), .val (.int v6), .val (.ref b7), .val (.int (Nat.toInt32 i13)), .val (.int (Nat.toInt32 i1)), .val (.int (Nat.toInt32 i4)), .val (.int (Nat.toInt32 i6)), .val (.int (Nat.toInt32 i10)), .val (.int (1 : Int32)), .unset, .unset, .unset, .unset, .unset, .unset, .unset, .unset]) rfl k) ?_
                                    show own_Go p e below s _ _ _ (T32.setTop (mkF m 344 #[.val (.int p0), .val (.int p1), .val (.int p2), .val (.long p3), .second, .val (.int v1), .val (.int v2), .val (.int v3), .val (.int v4), .val (.int v5), .val (.int v6), .val (.ref b7), .val (.int (Nat.toInt32 i13)), .val (.int (Nat.toInt32 i1)), .val (.int (Nat.toInt32 i4)), .val (.int (Nat.toInt32 i6)), .val (.int (Nat.toInt32 i10)), .val (.int (1 : Int32)), .unset, .unset, .unset, .unset, .unset, .unset, .unset, .unset] []))
                                    exact jn17 (1 : Int32) _ _ _ X32 e32 N32 Z32 F33 (by rw [if_pos ⟨hc131, hc132, hc133, hc135⟩])
                                  · refine own_via (fun _ k => XS.icmpYes X32.here hx rfl (pc0 := 334) (pc' := 341) rfl (hb hby at_334) rfl (Jvm.Free.XT.ii_ne_t hc135) (by decide) (by decide) k) ?_
                                    show own_Go p e below s _ _ _ (T32.setTop (mkF m 341 #[.val (.int p0), .val (.int p1), .val (.int p2), .val (.long p3), .second, .val (.int v1), .val (.int v2), .val (.int v3), .val (.int v4), .val (.int v5), .val (.int v6), .val (.ref b7), .val (.int (Nat.toInt32 i13)), .val (.int (Nat.toInt32 i1)), .val (.int (Nat.toInt32 i4)), .val (.int (Nat.toInt32 i6)), .val (.int (Nat.toInt32 i10)), .unset, .unset, .unset, .unset, .unset, .unset, .unset, .unset, .unset] []))
                                    refine own_via (fun _ k => XS.iconst X32.here hx rfl (hb hby at_341) k) ?_
                                    show own_Go p e below s _ _ _ (T32.setTop (mkF m 342 #[.val (.int p0), .val (.int p1), .val (.int p2), .val (.long p3), .second, .val (.int v1), .val (.int v2), .val (.int v3), .val (.int v4), .val (.int v5), .val (.int v6), .val (.ref b7), .val (.int (Nat.toInt32 i13)), .val (.int (Nat.toInt32 i1)), .val (.int (Nat.toInt32 i4)), .val (.int (Nat.toInt32 i6)), .val (.int (Nat.toInt32 i10)), .unset, .unset, .unset, .unset, .unset, .unset, .unset, .unset, .unset] [(.int (0 : Int32))]))
                                    refine own_via (fun _ k => XS.istore X32.here hx rfl (hb hby at_342) rfl (l' := #[.val (.int p0), .val (.int p1), .val (.int p2), .val (.long p3), .second, .val (.int v1), .val (.int v2), .val (.int v3), .val (.int v4), .val (.int v5), .val (.int v6), .val (.ref b7), .val (.int (Nat.toInt32 i13)), .val (.int (Nat.toInt32 i1)), .val (.int (Nat.toInt32 i4)), .val (.int (Nat.toInt32 i6)), .val (.int (Nat.toInt32 i10)), .val (.int (0 : Int32)), .unset, .unset, .unset, .unset, .unset, .unset, .unset, .unset]) rfl k) ?_
                                    show own_Go p e below s _ _ _ (T32.setTop (mkF m 344 #[.val (.int p0), .val (.int p1), .val (.int p2), .val (.long p3), .second, .val (.int v1), .val (.int v2), .val (.int v3), .val (.int v4), .val (.int v5), .val (.int v6), .val (.ref b7), .val (.int (Nat.toInt32 i13)), .val (.int (Nat.toInt32 i1)), .val (.int (Nat.toInt32 i4)), .val (.int (Nat.toInt32 i6)), .val (.int (Nat.toInt32 i10)), .val (.int (0 : Int32)), .unset, .unset, .unset, .unset, .unset, .unset, .unset, .unset] []))
                                    exact jn17 (0 : Int32) _ _ _ X32 e32 N32 Z32 F33 (by rw [if_neg (fun z => hc135 z.2.2.2)])
                                · refine own_via (fun _ k => XS.ifYes X32.here hx rfl (pc0 := 322) (pc' := 341) rfl (hb hby at_322) rfl (Jvm.Free.XT.i0_le_t hc133) (by decide) (by decide) k) ?_
                                  show own_Go p e below s _ _ _ (T32.setTop (mkF m 341 #[.val (.int p0), .val (.int p1), .val (.int p2), .val (.long p3), .second, .val (.int v1), .val (.int v2), .val (.int v3), .val (.int v4), .val (.int v5), .val (.int v6), .val (.ref b7), .val (.int (Nat.toInt32 i13)), .val (.int (Nat.toInt32 i1)), .val (.int (Nat.toInt32 i4)), .val (.int (Nat.toInt32 i6)), .val (.int (Nat.toInt32 i10)), .unset, .unset, .unset, .unset, .unset, .unset, .unset, .unset, .unset] []))
                                  refine own_via (fun _ k => XS.iconst X32.here hx rfl (hb hby at_341) k) ?_
                                  show own_Go p e below s _ _ _ (T32.setTop (mkF m 342 #[.val (.int p0), .val (.int p1), .val (.int p2), .val (.long p3), .second, .val (.int v1), .val (.int v2), .val (.int v3), .val (.int v4), .val (.int v5), .val (.int v6), .val (.ref b7), .val (.int (Nat.toInt32 i13)), .val (.int (Nat.toInt32 i1)), .val (.int (Nat.toInt32 i4)), .val (.int (Nat.toInt32 i6)), .val (.int (Nat.toInt32 i10)), .unset, .unset, .unset, .unset, .unset, .unset, .unset, .unset, .unset] [(.int (0 : Int32))]))
                                  refine own_via (fun _ k => XS.istore X32.here hx rfl (hb hby at_342) rfl (l' := #[.val (.int p0), .val (.int p1), .val (.int p2), .val (.long p3), .second, .val (.int v1), .val (.int v2), .val (.int v3), .val (.int v4), .val (.int v5), .val (.int v6), .val (.ref b7), .val (.int (Nat.toInt32 i13)), .val (.int (Nat.toInt32 i1)), .val (.int (Nat.toInt32 i4)), .val (.int (Nat.toInt32 i6)), .val (.int (Nat.toInt32 i10)), .val (.int (0 : Int32)), .unset, .unset, .unset, .unset, .unset, .unset, .unset, .unset]) rfl k) ?_
                                  show own_Go p e below s _ _ _ (T32.setTop (mkF m 344 #[.val (.int p0), .val (.int p1), .val (.int p2), .val (.long p3), .second, .val (.int v1), .val (.int v2), .val (.int v3), .val (.int v4), .val (.int v5), .val (.int v6), .val (.ref b7), .val (.int (Nat.toInt32 i13)), .val (.int (Nat.toInt32 i1)), .val (.int (Nat.toInt32 i4)), .val (.int (Nat.toInt32 i6)), .val (.int (Nat.toInt32 i10)), .val (.int (0 : Int32)), .unset, .unset, .unset, .unset, .unset, .unset, .unset, .unset] []))
                                  exact jn17 (0 : Int32) _ _ _ X32 e32 N32 Z32 F33 (by rw [if_neg (fun z => hc133 z.2.2.1)])
                              · refine own_via (fun _ k => XS.ifYes X32.here hx rfl (pc0 := 317) (pc' := 341) rfl (hb hby at_317) rfl (Jvm.Free.XT.i0_ne_t hc132) (by decide) (by decide) k) ?_
                                show own_Go p e below s _ _ _ (T32.setTop (mkF m 341 #[.val (.int p0), .val (.int p1), .val (.int p2), .val (.long p3), .second, .val (.int v1), .val (.int v2), .val (.int v3), .val (.int v4), .val (.int v5), .val (.int v6), .val (.ref b7), .val (.int (Nat.toInt32 i13)), .val (.int (Nat.toInt32 i1)), .val (.int (Nat.toInt32 i4)), .val (.int (Nat.toInt32 i6)), .val (.int (Nat.toInt32 i10)), .unset, .unset, .unset, .unset, .unset, .unset, .unset, .unset, .unset] []))
                                refine own_via (fun _ k => XS.iconst X32.here hx rfl (hb hby at_341) k) ?_
                                show own_Go p e below s _ _ _ (T32.setTop (mkF m 342 #[.val (.int p0), .val (.int p1), .val (.int p2), .val (.long p3), .second, .val (.int v1), .val (.int v2), .val (.int v3), .val (.int v4), .val (.int v5), .val (.int v6), .val (.ref b7), .val (.int (Nat.toInt32 i13)), .val (.int (Nat.toInt32 i1)), .val (.int (Nat.toInt32 i4)), .val (.int (Nat.toInt32 i6)), .val (.int (Nat.toInt32 i10)), .unset, .unset, .unset, .unset, .unset, .unset, .unset, .unset, .unset] [(.int (0 : Int32))]))
                                refine own_via (fun _ k => XS.istore X32.here hx rfl (hb hby at_342) rfl (l' := #[.val (.int p0), .val (.int p1), .val (.int p2), .val (.long p3), .second, .val (.int v1), .val (.int v2), .val (.int v3), .val (.int v4), .val (.int v5), .val (.int v6), .val (.ref b7), .val (.int (Nat.toInt32 i13)), .val (.int (Nat.toInt32 i1)), .val (.int (Nat.toInt32 i4)), .val (.int (Nat.toInt32 i6)), .val (.int (Nat.toInt32 i10)), .val (.int (0 : Int32)), .unset, .unset, .unset, .unset, .unset, .unset, .unset, .unset]) rfl k) ?_
                                show own_Go p e below s _ _ _ (T32.setTop (mkF m 344 #[.val (.int p0), .val (.int p1), .val (.int p2), .val (.long p3), .second, .val (.int v1), .val (.int v2), .val (.int v3), .val (.int v4), .val (.int v5), .val (.int v6), .val (.ref b7), .val (.int (Nat.toInt32 i13)), .val (.int (Nat.toInt32 i1)), .val (.int (Nat.toInt32 i4)), .val (.int (Nat.toInt32 i6)), .val (.int (Nat.toInt32 i10)), .val (.int (0 : Int32)), .unset, .unset, .unset, .unset, .unset, .unset, .unset, .unset] []))
                                exact jn17 (0 : Int32) _ _ _ X32 e32 N32 Z32 F33 (by rw [if_neg (fun z => hc132 z.2.1)])
                            · refine own_via (fun _ k => XS.ifYes X32.here hx rfl (pc0 := 312) (pc' := 341) rfl (hb hby at_312) rfl (Jvm.Free.XT.i0_ne_t hc131) (by decide) (by decide) k) ?_
                              show own_Go p e below s _ _ _ (T32.setTop (mkF m 341 #[.val (.int p0), .val (.int p1), .val (.int p2), .val (.long p3), .second, .val (.int v1), .val (.int v2), .val (.int v3), .val (.int v4), .val (.int v5), .val (.int v6), .val (.ref b7), .val (.int (Nat.toInt32 i13)), .val (.int (Nat.toInt32 i1)), .val (.int (Nat.toInt32 i4)), .val (.int (Nat.toInt32 i6)), .val (.int (Nat.toInt32 i10)), .unset, .unset, .unset, .unset, .unset, .unset, .unset, .unset, .unset] []))
                              refine own_via (fun _ k => XS.iconst X32.here hx rfl (hb hby at_341) k) ?_
                              show own_Go p e below s _ _ _ (T32.setTop (mkF m 342 #[.val (.int p0), .val (.int p1), .val (.int p2), .val (.long p3), .second, .val (.int v1), .val (.int v2), .val (.int v3), .val (.int v4), .val (.int v5), .val (.int v6), .val (.ref b7), .val (.int (Nat.toInt32 i13)), .val (.int (Nat.toInt32 i1)), .val (.int (Nat.toInt32 i4)), .val (.int (Nat.toInt32 i6)), .val (.int (Nat.toInt32 i10)), .unset, .unset, .unset, .unset, .unset, .unset, .unset, .unset, .unset] [(.int (0 : Int32))]))
                              refine own_via (fun _ k => XS.istore X32.here hx rfl (hb hby at_342) rfl (l' := #[.val (.int p0), .val (.int p1), .val (.int p2), .val (.long p3), .second, .val (.int v1), .val (.int v2), .val (.int v3), .val (.int v4), .val (.int v5), .val (.int v6), .val (.ref b7), .val (.int (Nat.toInt32 i13)), .val (.int (Nat.toInt32 i1)), .val (.int (Nat.toInt32 i4)), .val (.int (Nat.toInt32 i6)), .val (.int (Nat.toInt32 i10)), .val (.int (0 : Int32)), .unset, .unset, .unset, .unset, .unset, .unset, .unset, .unset]) rfl k) ?_
                              show own_Go p e below s _ _ _ (T32.setTop (mkF m 344 #[.val (.int p0), .val (.int p1), .val (.int p2), .val (.long p3), .second, .val (.int v1), .val (.int v2), .val (.int v3), .val (.int v4), .val (.int v5), .val (.int v6), .val (.ref b7), .val (.int (Nat.toInt32 i13)), .val (.int (Nat.toInt32 i1)), .val (.int (Nat.toInt32 i4)), .val (.int (Nat.toInt32 i6)), .val (.int (Nat.toInt32 i10)), .val (.int (0 : Int32)), .unset, .unset, .unset, .unset, .unset, .unset, .unset, .unset] []))
                              exact jn17 (0 : Int32) _ _ _ X32 e32 N32 Z32 F33 (by rw [if_neg (fun z => hc131 z.1)])
                          show own_Go p e below s _ _ _ (T30.setTop (mkF m 291 #[.val (.int p0), .val (.int p1), .val (.int p2), .val (.long p3), .second, .val (.int v1), .val (.int v2), .val (.int v3), .val (.int v4), .val (.int v5), .val (.int v6), .val (.ref b7), .val (.int (Nat.toInt32 i12)), .val (.int (Nat.toInt32 i1)), .val (.int (Nat.toInt32 i4)), .val (.int (Nat.toInt32 i6)), .val (.int (Nat.toInt32 i10)), .unset, .unset, .unset, .unset, .unset, .unset, .unset, .unset, .unset] []))
                          refine own_via (fun _ k => XS.iload X30.here hx rfl (hb hby at_291) rfl k) ?_
                          show own_Go p e below s _ _ _ (T30.setTop (mkF m 293 #[.val (.int p0), .val (.int p1), .val (.int p2), .val (.long p3), .second, .val (.int v1), .val (.int v2), .val (.int v3), .val (.int v4), .val (.int v5), .val (.int v6), .val (.ref b7), .val (.int (Nat.toInt32 i12)), .val (.int (Nat.toInt32 i1)), .val (.int (Nat.toInt32 i4)), .val (.int (Nat.toInt32 i6)), .val (.int (Nat.toInt32 i10)), .unset, .unset, .unset, .unset, .unset, .unset, .unset, .unset, .unset] [(.int v6)]))
                          refine own_via (fun _ k => XS.iconst X30.here hx rfl (hb hby at_293) k) ?_
                          show own_Go p e below s _ _ _ (T30.setTop (mkF m 294 #[.val (.int p0), .val (.int p1), .val (.int p2), .val (.long p3), .second, .val (.int v1), .val (.int v2), .val (.int v3), .val (.int v4), .val (.int v5), .val (.int v6), .val (.ref b7), .val (.int (Nat.toInt32 i12)), .val (.int (Nat.toInt32 i1)), .val (.int (Nat.toInt32 i4)), .val (.int (Nat.toInt32 i6)), .val (.int (Nat.toInt32 i10)), .unset, .unset, .unset, .unset, .unset, .unset, .unset, .unset, .unset] [(.int (2 : Int32)), (.int v6)]))
                          by_cases hc136 : (2 : Int32) < v6
                          · refine own_via (fun _ k => XS.icmpNo X30.here hx rfl (hb hby at_294) rfl (Jvm.Free.XT.ii_le_f hc136) k) ?_
                            show own_Go p e below s _ _ _ (T30.setTop (mkF m 297 #[.val (.int p0), .val (.int p1), .val (.int p2), .val (.long p3), .second, .val (.int v1), .val (.int v2), .val (.int v3), .val (.int v4), .val (.int v5), .val (.int v6), .val (.ref b7), .val (.int (Nat.toInt32 i12)), .val (.int (Nat.toInt32 i1)), .val (.int (Nat.toInt32 i4)), .val (.int (Nat.toInt32 i6)), .val (.int (Nat.toInt32 i10)), .unset, .unset, .unset, .unset, .unset, .unset, .unset, .unset, .unset] []))
                            refine own_via (fun _ k => XS.aload X30.here hx rfl (hb hby at_297) rfl rfl k) ?_
                            show own_Go p e below s _ _ _ (T30.setTop (mkF m 299 #[.val (.int p0), .val (.int p1), .val (.int p2), .val (.long p3), .second, .val (.int v1), .val (.int v2), .val (.int v3), .val (.int v4), .val (.int v5), .val (.int v6), .val (.ref b7), .val (.int (Nat.toInt32 i12)), .val (.int (Nat.toInt32 i1)), .val (.int (Nat.toInt32 i4)), .val (.int (Nat.toInt32 i6)), .val (.int (Nat.toInt32 i10)), .unset, .unset, .unset, .unset, .unset, .unset, .unset, .unset, .unset] [(.ref b7)]))
                            refine own_via (fun _ k => XS.iload X30.here hx rfl (hb hby at_299) rfl k) ?_
                            show own_Go p e below s _ _ _ (T30.setTop (mkF m 301 #[.val (.int p0), .val (.int p1), .val (.int p2), .val (.long p3), .second, .val (.int v1), .val (.int v2), .val (.int v3), .val (.int v4), .val (.int v5), .val (.int v6), .val (.ref b7), .val (.int (Nat.toInt32 i12)), .val (.int (Nat.toInt32 i1)), .val (.int (Nat.toInt32 i4)), .val (.int (Nat.toInt32 i6)), .val (.int (Nat.toInt32 i10)), .unset, .unset, .unset, .unset, .unset, .unset, .unset, .unset, .unset] [(.int (Nat.toInt32 i12)), (.ref b7)]))
                            refine own_via (fun _ k => XS.lloadN X30.here hx rfl (hb hby at_301) rfl k) ?_
                            show own_Go p e below s _ _ _ (T30.setTop (mkF m 302 #[.val (.int p0), .val (.int p1), .val (.int p2), .val (.long p3), .second, .val (.int v1), .val (.int v2), .val (.int v3), .val (.int v4), .val (.int v5), .val (.int v6), .val (.ref b7), .val (.int (Nat.toInt32 i12)), .val (.int (Nat.toInt32 i1)), .val (.int (Nat.toInt32 i4)), .val (.int (Nat.toInt32 i6)), .val (.int (Nat.toInt32 i10)), .unset, .unset, .unset, .unset, .unset, .unset, .unset, .unset, .unset] [(.long p3), (.int (Nat.toInt32 i12)), (.ref b7)]))
                            refine own_via (fun _ k => XS.iconst X30.here hx rfl (hb hby at_302) k) ?_
                            show own_Go p e below s _ _ _ (T30.setTop (mkF m 303 #[.val (.int p0), .val (.int p1), .val (.int p2), .val (.long p3), .second, .val (.int v1), .val (.int v2), .val (.int v3), .val (.int v4), .val (.int v5), .val (.int v6), .val (.ref b7), .val (.int (Nat.toInt32 i12)), .val (.int (Nat.toInt32 i1)), .val (.int (Nat.toInt32 i4)), .val (.int (Nat.toInt32 i6)), .val (.int (Nat.toInt32 i10)), .unset, .unset, .unset, .unset, .unset, .unset, .unset, .unset, .unset] [(.int (3 : Int32)), (.long p3), (.int (Nat.toInt32 i12)), (.ref b7)]))
                            obtain ⟨_, _, ⟨T137, L137, k137, n137⟩, -, X137, ⟨Lc137, hQ137, l137, y137, z137⟩, st137⟩ := Jvm.LawKit.callS X30 hx (y := (⟨"com/example/enlace/enlace/graph/LineFieldsResetPinLaw", "junkByte", "(JI)B"⟩ : MethodName)) hown (mvT hZ (hw _ (List.mem_of_getElem? (i := 56) rfl))) (mvT hZ (hw _ (List.mem_of_getElem? (i := 57) rfl))) (mvT hZ (hw _ (List.mem_of_getElem? (i := 51) rfl))) (mvT hZ (hw _ (List.mem_of_getElem? (i := 58) rfl))) (by decide) (backOf (W := 2) (rm11 l Z a0 hw [] p3 (3 : Int32) h30 n0 Z30 ) hZ (hw _ (List.mem_of_getElem? (i := 58) rfl)) (hw _ (List.mem_of_getElem? (i := 51) rfl)) (by decide) (by decide)) (g := (mkF m 303 #[.val (.int p0), .val (.int p1), .val (.int p2), .val (.long p3), .second, .val (.int v1), .val (.int v2), .val (.int v3), .val (.int v4), .val (.int v5), .val (.int v6), .val (.ref b7), .val (.int (Nat.toInt32 i12)), .val (.int (Nat.toInt32 i1)), .val (.int (Nat.toInt32 i4)), .val (.int (Nat.toInt32 i6)), .val (.int (Nat.toInt32 i10)), .unset, .unset, .unset, .unset, .unset, .unset, .unset, .unset, .unset] [(.int (3 : Int32)), (.long p3), (.int (Nat.toInt32 i12)), (.ref b7)])) rfl (by rw [hml]; rfl) (argsL := [(.long p3), (.int (3 : Int32))]) (rest := [(.int (Nat.toInt32 i12)), (.ref b7)]) (lenOf pd_7 rfl) rfl (by show 2 * 0 + _ ≤ _; exact Nat.le_of_eq rfl) (hb hby at_303) (fun _ _ => ⟨rfl, e30, (by decide : 1 + 0 ≤ _), (by decide : 16 + 0 ≤ _)⟩)
                            dsimp only [Pt.U, Pt.locs, Pt.cells, Pt.slots] at X137 l137 y137 z137 st137 hQ137
                            subst l137 y137 z137
                            obtain ⟨rfl, N137q, e137⟩ := hQ137
                            have N137 := Fr.app N30 N137q
                            refine own_via st137 ?_
                            show own_Go p e below s _ _ _ (T137.setTop (mkF m 306 #[.val (.int p0), .val (.int p1), .val (.int p2), .val (.long p3), .second, .val (.int v1), .val (.int v2), .val (.int v3), .val (.int v4), .val (.int v5), .val (.int v6), .val (.ref b7), .val (.int (Nat.toInt32 i12)), .val (.int (Nat.toInt32 i1)), .val (.int (Nat.toInt32 i4)), .val (.int (Nat.toInt32 i6)), .val (.int (Nat.toInt32 i10)), .unset, .unset, .unset, .unset, .unset, .unset, .unset, .unset, .unset] [(.int (own_jb p3 (3 : Int32))), (.int (Nat.toInt32 i12)), (.ref b7)]))
                            obtain ⟨cl138, Ar138, q138, S138, M138, H138, G138⟩ := (id F31)
                            have hin138 : ¬ ((Nat.toInt32 i12) < 0 ∨ cl138.slots.size ≤ ((Nat.toInt32 i12)).toNatClampNeg) := inb_of S138 (own_inb (by omega) (by show ((i12 : Nat) : Int) < 16; omega))
                            obtain ⟨T138, h138, X138, e138, W138, st138⟩ := stB X137 hx hZ e137 Ar138 (j := (Nat.toInt32 i12)) hin138 (g := (mkF m 306 #[.val (.int p0), .val (.int p1), .val (.int p2), .val (.long p3), .second, .val (.int v1), .val (.int v2), .val (.int v3), .val (.int v4), .val (.int v5), .val (.int v6), .val (.ref b7), .val (.int (Nat.toInt32 i12)), .val (.int (Nat.toInt32 i1)), .val (.int (Nat.toInt32 i4)), .val (.int (Nat.toInt32 i6)), .val (.int (Nat.toInt32 i10)), .unset, .unset, .unset, .unset, .unset, .unset, .unset, .unset, .unset] [(.int (own_jb p3 (3 : Int32))), (.int (Nat.toInt32 i12)), (.ref b7)])) rfl rfl (hb hby at_306)
                            have V138 : Arv Z h138 b7 k7 .byte (16 : Int32) ((u12.set i12 (nar .byte (own_jb p3 (3 : Int32)))).map Value.int) (.int (0 : Int32)) := (by rw [List.map_set]; exact Arv.set Ar138 q138 S138 M138 H138 G138 (fits_nar_byte _) W138 i12 (own_nc (by omega)) (by rw [List.length_map, hl13]; omega))
                            have N138 := Fr.snoc X138 N137 g_b7
                            have Z138 : n0 ≤ h138.size := Nat.le_trans Z30 (Keep.of_wr W138).1
                            refine own_via st138 ?_
                            show own_Go p e below s _ _ _ (T138.setTop (mkF m 307 #[.val (.int p0), .val (.int p1), .val (.int p2), .val (.long p3), .second, .val (.int v1), .val (.int v2), .val (.int v3), .val (.int v4), .val (.int v5), .val (.int v6), .val (.ref b7), .val (.int (Nat.toInt32 i12)), .val (.int (Nat.toInt32 i1)), .val (.int (Nat.toInt32 i4)), .val (.int (Nat.toInt32 i6)), .val (.int (Nat.toInt32 i10)), .unset, .unset, .unset, .unset, .unset, .unset, .unset, .unset, .unset] []))
                            refine own_via (fun _ k => XS.iinc X138.here hx rfl (hb hby at_307) rfl (l' := #[.val (.int p0), .val (.int p1), .val (.int p2), .val (.long p3), .second, .val (.int v1), .val (.int v2), .val (.int v3), .val (.int v4), .val (.int v5), .val (.int v6), .val (.ref b7), .val (.int ((Nat.toInt32 i12) + (1 : Int32))), .val (.int (Nat.toInt32 i1)), .val (.int (Nat.toInt32 i4)), .val (.int (Nat.toInt32 i6)), .val (.int (Nat.toInt32 i10)), .unset, .unset, .unset, .unset, .unset, .unset, .unset, .unset, .unset]) rfl k) ?_
                            show own_Go p e below s _ _ _ (T138.setTop (mkF m 310 #[.val (.int p0), .val (.int p1), .val (.int p2), .val (.long p3), .second, .val (.int v1), .val (.int v2), .val (.int v3), .val (.int v4), .val (.int v5), .val (.int v6), .val (.ref b7), .val (.int ((Nat.toInt32 i12) + (1 : Int32))), .val (.int (Nat.toInt32 i1)), .val (.int (Nat.toInt32 i4)), .val (.int (Nat.toInt32 i6)), .val (.int (Nat.toInt32 i10)), .unset, .unset, .unset, .unset, .unset, .unset, .unset, .unset, .unset] []))
                            rw [own_succ]
                            show own_Go p e below s _ _ _ (T138.setTop (mkF m 310 #[.val (.int p0), .val (.int p1), .val (.int p2), .val (.long p3), .second, .val (.int v1), .val (.int v2), .val (.int v3), .val (.int v4), .val (.int v5), .val (.int v6), .val (.ref b7), .val (.int (Nat.toInt32 (i12 + 1))), .val (.int (Nat.toInt32 i1)), .val (.int (Nat.toInt32 i4)), .val (.int (Nat.toInt32 i6)), .val (.int (Nat.toInt32 i10)), .unset, .unset, .unset, .unset, .unset, .unset, .unset, .unset, .unset] []))
                            exact jn13 (u12.set i12 (nar .byte (own_jb p3 (3 : Int32)))) (i12 + 1) _ _ _ X138 e138 N138 Z138 V138 ((if_pos hc136).symm) ((if_pos hc136).symm) (by rw [List.length_set]; exact hl13) (by omega)
                          · refine own_via (fun _ k => XS.icmpYes X30.here hx rfl (pc0 := 294) (pc' := 310) rfl (hb hby at_294) rfl (Jvm.Free.XT.ii_le_t hc136) (by decide) (by decide) k) ?_
                            show own_Go p e below s _ _ _ (T30.setTop (mkF m 310 #[.val (.int p0), .val (.int p1), .val (.int p2), .val (.long p3), .second, .val (.int v1), .val (.int v2), .val (.int v3), .val (.int v4), .val (.int v5), .val (.int v6), .val (.ref b7), .val (.int (Nat.toInt32 i12)), .val (.int (Nat.toInt32 i1)), .val (.int (Nat.toInt32 i4)), .val (.int (Nat.toInt32 i6)), .val (.int (Nat.toInt32 i10)), .unset, .unset, .unset, .unset, .unset, .unset, .unset, .unset, .unset] []))
                            exact jn13 u12 i12 _ _ _ X30 e30 N30 Z30 F31 ((if_neg hc136).symm) ((if_neg hc136).symm) (hl13) (by omega)
                        show own_Go p e below s _ _ _ (T28.setTop (mkF m 272 #[.val (.int p0), .val (.int p1), .val (.int p2), .val (.long p3), .second, .val (.int v1), .val (.int v2), .val (.int v3), .val (.int v4), .val (.int v5), .val (.int v6), .val (.ref b7), .val (.int (Nat.toInt32 i11)), .val (.int (Nat.toInt32 i1)), .val (.int (Nat.toInt32 i4)), .val (.int (Nat.toInt32 i6)), .val (.int (Nat.toInt32 i10)), .unset, .unset, .unset, .unset, .unset, .unset, .unset, .unset, .unset] []))
                        refine own_via (fun _ k => XS.iload X28.here hx rfl (hb hby at_272) rfl k) ?_
                        show own_Go p e below s _ _ _ (T28.setTop (mkF m 274 #[.val (.int p0), .val (.int p1), .val (.int p2), .val (.long p3), .second, .val (.int v1), .val (.int v2), .val (.int v3), .val (.int v4), .val (.int v5), .val (.int v6), .val (.ref b7), .val (.int (Nat.toInt32 i11)), .val (.int (Nat.toInt32 i1)), .val (.int (Nat.toInt32 i4)), .val (.int (Nat.toInt32 i6)), .val (.int (Nat.toInt32 i10)), .unset, .unset, .unset, .unset, .unset, .unset, .unset, .unset, .unset] [(.int v6)]))
                        refine own_via (fun _ k => XS.iconst X28.here hx rfl (hb hby at_274) k) ?_
                        show own_Go p e below s _ _ _ (T28.setTop (mkF m 275 #[.val (.int p0), .val (.int p1), .val (.int p2), .val (.long p3), .second, .val (.int v1), .val (.int v2), .val (.int v3), .val (.int v4), .val (.int v5), .val (.int v6), .val (.ref b7), .val (.int (Nat.toInt32 i11)), .val (.int (Nat.toInt32 i1)), .val (.int (Nat.toInt32 i4)), .val (.int (Nat.toInt32 i6)), .val (.int (Nat.toInt32 i10)), .unset, .unset, .unset, .unset, .unset, .unset, .unset, .unset, .unset] [(.int (1 : Int32)), (.int v6)]))
                        by_cases hc139 : (1 : Int32) < v6
                        · refine own_via (fun _ k => XS.icmpNo X28.here hx rfl (hb hby at_275) rfl (Jvm.Free.XT.ii_le_f hc139) k) ?_
                          show own_Go p e below s _ _ _ (T28.setTop (mkF m 278 #[.val (.int p0), .val (.int p1), .val (.int p2), .val (.long p3), .second, .val (.int v1), .val (.int v2), .val (.int v3), .val (.int v4), .val (.int v5), .val (.int v6), .val (.ref b7), .val (.int (Nat.toInt32 i11)), .val (.int (Nat.toInt32 i1)), .val (.int (Nat.toInt32 i4)), .val (.int (Nat.toInt32 i6)), .val (.int (Nat.toInt32 i10)), .unset, .unset, .unset, .unset, .unset, .unset, .unset, .unset, .unset] []))
                          refine own_via (fun _ k => XS.aload X28.here hx rfl (hb hby at_278) rfl rfl k) ?_
                          show own_Go p e below s _ _ _ (T28.setTop (mkF m 280 #[.val (.int p0), .val (.int p1), .val (.int p2), .val (.long p3), .second, .val (.int v1), .val (.int v2), .val (.int v3), .val (.int v4), .val (.int v5), .val (.int v6), .val (.ref b7), .val (.int (Nat.toInt32 i11)), .val (.int (Nat.toInt32 i1)), .val (.int (Nat.toInt32 i4)), .val (.int (Nat.toInt32 i6)), .val (.int (Nat.toInt32 i10)), .unset, .unset, .unset, .unset, .unset, .unset, .unset, .unset, .unset] [(.ref b7)]))
                          refine own_via (fun _ k => XS.iload X28.here hx rfl (hb hby at_280) rfl k) ?_
                          show own_Go p e below s _ _ _ (T28.setTop (mkF m 282 #[.val (.int p0), .val (.int p1), .val (.int p2), .val (.long p3), .second, .val (.int v1), .val (.int v2), .val (.int v3), .val (.int v4), .val (.int v5), .val (.int v6), .val (.ref b7), .val (.int (Nat.toInt32 i11)), .val (.int (Nat.toInt32 i1)), .val (.int (Nat.toInt32 i4)), .val (.int (Nat.toInt32 i6)), .val (.int (Nat.toInt32 i10)), .unset, .unset, .unset, .unset, .unset, .unset, .unset, .unset, .unset] [(.int (Nat.toInt32 i11)), (.ref b7)]))
                          refine own_via (fun _ k => XS.lloadN X28.here hx rfl (hb hby at_282) rfl k) ?_
                          show own_Go p e below s _ _ _ (T28.setTop (mkF m 283 #[.val (.int p0), .val (.int p1), .val (.int p2), .val (.long p3), .second, .val (.int v1), .val (.int v2), .val (.int v3), .val (.int v4), .val (.int v5), .val (.int v6), .val (.ref b7), .val (.int (Nat.toInt32 i11)), .val (.int (Nat.toInt32 i1)), .val (.int (Nat.toInt32 i4)), .val (.int (Nat.toInt32 i6)), .val (.int (Nat.toInt32 i10)), .unset, .unset, .unset, .unset, .unset, .unset, .unset, .unset, .unset] [(.long p3), (.int (Nat.toInt32 i11)), (.ref b7)]))
                          refine own_via (fun _ k => XS.iconst X28.here hx rfl (hb hby at_283) k) ?_
                          show own_Go p e below s _ _ _ (T28.setTop (mkF m 284 #[.val (.int p0), .val (.int p1), .val (.int p2), .val (.long p3), .second, .val (.int v1), .val (.int v2), .val (.int v3), .val (.int v4), .val (.int v5), .val (.int v6), .val (.ref b7), .val (.int (Nat.toInt32 i11)), .val (.int (Nat.toInt32 i1)), .val (.int (Nat.toInt32 i4)), .val (.int (Nat.toInt32 i6)), .val (.int (Nat.toInt32 i10)), .unset, .unset, .unset, .unset, .unset, .unset, .unset, .unset, .unset] [(.int (2 : Int32)), (.long p3), (.int (Nat.toInt32 i11)), (.ref b7)]))
                          obtain ⟨_, _, ⟨T140, L140, k140, n140⟩, -, X140, ⟨Lc140, hQ140, l140, y140, z140⟩, st140⟩ := Jvm.LawKit.callS X28 hx (y := (⟨"com/example/enlace/enlace/graph/LineFieldsResetPinLaw", "junkByte", "(JI)B"⟩ : MethodName)) hown (mvT hZ (hw _ (List.mem_of_getElem? (i := 56) rfl))) (mvT hZ (hw _ (List.mem_of_getElem? (i := 57) rfl))) (mvT hZ (hw _ (List.mem_of_getElem? (i := 51) rfl))) (mvT hZ (hw _ (List.mem_of_getElem? (i := 58) rfl))) (by decide) (backOf (W := 2) (rm11 l Z a0 hw [] p3 (2 : Int32) h28 n0 Z28 ) hZ (hw _ (List.mem_of_getElem? (i := 58) rfl)) (hw _ (List.mem_of_getElem? (i := 51) rfl)) (by decide) (by decide)) (g := (mkF m 284 #[.val (.int p0), .val (.int p1), .val (.int p2), .val (.long p3), .second, .val (.int v1), .val (.int v2), .val (.int v3), .val (.int v4), .val (.int v5), .val (.int v6), .val (.ref b7), .val (.int (Nat.toInt32 i11)), .val (.int (Nat.toInt32 i1)), .val (.int (Nat.toInt32 i4)), .val (.int (Nat.toInt32 i6)), .val (.int (Nat.toInt32 i10)), .unset, .unset, .unset, .unset, .unset, .unset, .unset, .unset, .unset] [(.int (2 : Int32)), (.long p3), (.int (Nat.toInt32 i11)), (.ref b7)])) rfl (by rw [hml]; rfl) (argsL := [(.long p3), (.int (2 : Int32))]) (rest := [(.int (Nat.toInt32 i11)), (.ref b7)]) (lenOf pd_7 rfl) rfl (by show 2 * 0 + _ ≤ _; exact Nat.le_of_eq rfl) (hb hby at_284) (fun _ _ => ⟨rfl, e28, (by decide : 1 + 0 ≤ _), (by decide : 16 + 0 ≤ _)⟩)
                          dsimp only [Pt.U, Pt.locs, Pt.cells, Pt.slots] at X140 l140 y140 z140 st140 hQ140
                          subst l140 y140 z140
                          obtain ⟨rfl, N140q, e140⟩ := hQ140
                          have N140 := Fr.app N28 N140q
                          refine own_via st140 ?_
                          show own_Go p e below s _ _ _ (T140.setTop (mkF m 287 #[.val (.int p0), .val (.int p1), .val (.int p2), .val (.long p3), .second, .val (.int v1), .val (.int v2), .val (.int v3), .val (.int v4), .val (.int v5), .val (.int v6), .val (.ref b7), .val (.int (Nat.toInt32 i11)), .val (.int (Nat.toInt32 i1)), .val (.int (Nat.toInt32 i4)), .val (.int (Nat.toInt32 i6)), .val (.int (Nat.toInt32 i10)), .unset, .unset, .unset, .unset, .unset, .unset, .unset, .unset, .unset] [(.int (own_jb p3 (2 : Int32))), (.int (Nat.toInt32 i11)), (.ref b7)]))
                          obtain ⟨cl141, Ar141, q141, S141, M141, H141, G141⟩ := (id F29)
                          have hin141 : ¬ ((Nat.toInt32 i11) < 0 ∨ cl141.slots.size ≤ ((Nat.toInt32 i11)).toNatClampNeg) := inb_of S141 (own_inb (by omega) (by show ((i11 : Nat) : Int) < 16; omega))
                          obtain ⟨T141, h141, X141, e141, W141, st141⟩ := stB X140 hx hZ e140 Ar141 (j := (Nat.toInt32 i11)) hin141 (g := (mkF m 287 #[.val (.int p0), .val (.int p1), .val (.int p2), .val (.long p3), .second, .val (.int v1), .val (.int v2), .val (.int v3), .val (.int v4), .val (.int v5), .val (.int v6), .val (.ref b7), .val (.int (Nat.toInt32 i11)), .val (.int (Nat.toInt32 i1)), .val (.int (Nat.toInt32 i4)), .val (.int (Nat.toInt32 i6)), .val (.int (Nat.toInt32 i10)), .unset, .unset, .unset, .unset, .unset, .unset, .unset, .unset, .unset] [(.int (own_jb p3 (2 : Int32))), (.int (Nat.toInt32 i11)), (.ref b7)])) rfl rfl (hb hby at_287)
                          have V141 : Arv Z h141 b7 k7 .byte (16 : Int32) ((u11.set i11 (nar .byte (own_jb p3 (2 : Int32)))).map Value.int) (.int (0 : Int32)) := (by rw [List.map_set]; exact Arv.set Ar141 q141 S141 M141 H141 G141 (fits_nar_byte _) W141 i11 (own_nc (by omega)) (by rw [List.length_map, hl12]; omega))
                          have N141 := Fr.snoc X141 N140 g_b7
                          have Z141 : n0 ≤ h141.size := Nat.le_trans Z28 (Keep.of_wr W141).1
                          refine own_via st141 ?_
                          show own_Go p e below s _ _ _ (T141.setTop (mkF m 288 #[.val (.int p0), .val (.int p1), .val (.int p2), .val (.long p3), .second, .val (.int v1), .val (.int v2), .val (.int v3), .val (.int v4), .val (.int v5), .val (.int v6), .val (.ref b7), .val (.int (Nat.toInt32 i11)), .val (.int (Nat.toInt32 i1)), .val (.int (Nat.toInt32 i4)), .val (.int (Nat.toInt32 i6)), .val (.int (Nat.toInt32 i10)), .unset, .unset, .unset, .unset, .unset, .unset, .unset, .unset, .unset] []))
                          refine own_via (fun _ k => XS.iinc X141.here hx rfl (hb hby at_288) rfl (l' := #[.val (.int p0), .val (.int p1), .val (.int p2), .val (.long p3), .second, .val (.int v1), .val (.int v2), .val (.int v3), .val (.int v4), .val (.int v5), .val (.int v6), .val (.ref b7), .val (.int ((Nat.toInt32 i11) + (1 : Int32))), .val (.int (Nat.toInt32 i1)), .val (.int (Nat.toInt32 i4)), .val (.int (Nat.toInt32 i6)), .val (.int (Nat.toInt32 i10)), .unset, .unset, .unset, .unset, .unset, .unset, .unset, .unset, .unset]) rfl k) ?_
                          show own_Go p e below s _ _ _ (T141.setTop (mkF m 291 #[.val (.int p0), .val (.int p1), .val (.int p2), .val (.long p3), .second, .val (.int v1), .val (.int v2), .val (.int v3), .val (.int v4), .val (.int v5), .val (.int v6), .val (.ref b7), .val (.int ((Nat.toInt32 i11) + (1 : Int32))), .val (.int (Nat.toInt32 i1)), .val (.int (Nat.toInt32 i4)), .val (.int (Nat.toInt32 i6)), .val (.int (Nat.toInt32 i10)), .unset, .unset, .unset, .unset, .unset, .unset, .unset, .unset, .unset] []))
                          rw [own_succ]
                          show own_Go p e below s _ _ _ (T141.setTop (mkF m 291 #[.val (.int p0), .val (.int p1), .val (.int p2), .val (.long p3), .second, .val (.int v1), .val (.int v2), .val (.int v3), .val (.int v4), .val (.int v5), .val (.int v6), .val (.ref b7), .val (.int (Nat.toInt32 (i11 + 1))), .val (.int (Nat.toInt32 i1)), .val (.int (Nat.toInt32 i4)), .val (.int (Nat.toInt32 i6)), .val (.int (Nat.toInt32 i10)), .unset, .unset, .unset, .unset, .unset, .unset, .unset, .unset, .unset] []))
                          exact jn12 (u11.set i11 (nar .byte (own_jb p3 (2 : Int32)))) (i11 + 1) _ _ _ X141 e141 N141 Z141 V141 ((if_pos hc139).symm) ((if_pos hc139).symm) (by rw [List.length_set]; exact hl12) (by omega)
                        · refine own_via (fun _ k => XS.icmpYes X28.here hx rfl (pc0 := 275) (pc' := 291) rfl (hb hby at_275) rfl (Jvm.Free.XT.ii_le_t hc139) (by decide) (by decide) k) ?_
                          show own_Go p e below s _ _ _ (T28.setTop (mkF m 291 #[.val (.int p0), .val (.int p1), .val (.int p2), .val (.long p3), .second, .val (.int v1), .val (.int v2), .val (.int v3), .val (.int v4), .val (.int v5), .val (.int v6), .val (.ref b7), .val (.int (Nat.toInt32 i11)), .val (.int (Nat.toInt32 i1)), .val (.int (Nat.toInt32 i4)), .val (.int (Nat.toInt32 i6)), .val (.int (Nat.toInt32 i10)), .unset, .unset, .unset, .unset, .unset, .unset, .unset, .unset, .unset] []))
                          exact jn12 u11 i11 _ _ _ X28 e28 N28 Z28 F29 ((if_neg hc139).symm) ((if_neg hc139).symm) (hl12) (by omega)
                      show own_Go p e below s _ _ _ (T26.setTop (mkF m 254 #[.val (.int p0), .val (.int p1), .val (.int p2), .val (.long p3), .second, .val (.int v1), .val (.int v2), .val (.int v3), .val (.int v4), .val (.int v5), .val (.int v6), .val (.ref b7), .val (.int (Nat.toInt32 i10)), .val (.int (Nat.toInt32 i1)), .val (.int (Nat.toInt32 i4)), .val (.int (Nat.toInt32 i6)), .val (.int (Nat.toInt32 i10)), .unset, .unset, .unset, .unset, .unset, .unset, .unset, .unset, .unset] []))
                      refine own_via (fun _ k => XS.iload X26.here hx rfl (hb hby at_254) rfl k) ?_
                      show own_Go p e below s _ _ _ (T26.setTop (mkF m 256 #[.val (.int p0), .val (.int p1), .val (.int p2), .val (.long p3), .second, .val (.int v1), .val (.int v2), .val (.int v3), .val (.int v4), .val (.int v5), .val (.int v6), .val (.ref b7), .val (.int (Nat.toInt32 i10)), .val (.int (Nat.toInt32 i1)), .val (.int (Nat.toInt32 i4)), .val (.int (Nat.toInt32 i6)), .val (.int (Nat.toInt32 i10)), .unset, .unset, .unset, .unset, .unset, .unset, .unset, .unset, .unset] [(.int v6)]))
                      by_cases hc142 : (0 : Int32) < v6
                      · refine own_via (fun _ k => XS.ifNo X26.here hx rfl (hb hby at_256) rfl (Jvm.Free.XT.i0_le_f hc142) k) ?_
                        show own_Go p e below s _ _ _ (T26.setTop (mkF m 259 #[.val (.int p0), .val (.int p1), .val (.int p2), .val (.long p3), .second, .val (.int v1), .val (.int v2), .val (.int v3), .val (.int v4), .val (.int v5), .val (.int v6), .val (.ref b7), .val (.int (Nat.toInt32 i10)), .val (.int (Nat.toInt32 i1)), .val (.int (Nat.toInt32 i4)), .val (.int (Nat.toInt32 i6)), .val (.int (Nat.toInt32 i10)), .unset, .unset, .unset, .unset, .unset, .unset, .unset, .unset, .unset] []))
                        refine own_via (fun _ k => XS.aload X26.here hx rfl (hb hby at_259) rfl rfl k) ?_
                        show own_Go p e below s _ _ _ (T26.setTop (mkF m 261 #[.val (.int p0), .val (.int p1), .val (.int p2), .val (.long p3), .second, .val (.int v1), .val (.int v2), .val (.int v3), .val (.int v4), .val (.int v5), .val (.int v6), .val (.ref b7), .val (.int (Nat.toInt32 i10)), .val (.int (Nat.toInt32 i1)), .val (.int (Nat.toInt32 i4)), .val (.int (Nat.toInt32 i6)), .val (.int (Nat.toInt32 i10)), .unset, .unset, .unset, .unset, .unset, .unset, .unset, .unset, .unset] [(.ref b7)]))
                        refine own_via (fun _ k => XS.iload X26.here hx rfl (hb hby at_261) rfl k) ?_
                        show own_Go p e below s _ _ _ (T26.setTop (mkF m 263 #[.val (.int p0), .val (.int p1), .val (.int p2), .val (.long p3), .second, .val (.int v1), .val (.int v2), .val (.int v3), .val (.int v4), .val (.int v5), .val (.int v6), .val (.ref b7), .val (.int (Nat.toInt32 i10)), .val (.int (Nat.toInt32 i1)), .val (.int (Nat.toInt32 i4)), .val (.int (Nat.toInt32 i6)), .val (.int (Nat.toInt32 i10)), .unset, .unset, .unset, .unset, .unset, .unset, .unset, .unset, .unset] [(.int (Nat.toInt32 i10)), (.ref b7)]))
                        refine own_via (fun _ k => XS.lloadN X26.here hx rfl (hb hby at_263) rfl k) ?_
                        show own_Go p e below s _ _ _ (T26.setTop (mkF m 264 #[.val (.int p0), .val (.int p1), .val (.int p2), .val (.long p3), .second, .val (.int v1), .val (.int v2), .val (.int v3), .val (.int v4), .val (.int v5), .val (.int v6), .val (.ref b7), .val (.int (Nat.toInt32 i10)), .val (.int (Nat.toInt32 i1)), .val (.int (Nat.toInt32 i4)), .val (.int (Nat.toInt32 i6)), .val (.int (Nat.toInt32 i10)), .unset, .unset, .unset, .unset, .unset, .unset, .unset, .unset, .unset] [(.long p3), (.int (Nat.toInt32 i10)), (.ref b7)]))
                        refine own_via (fun _ k => XS.iconst X26.here hx rfl (hb hby at_264) k) ?_
                        show own_Go p e below s _ _ _ (T26.setTop (mkF m 265 #[.val (.int p0), .val (.int p1), .val (.int p2), .val (.long p3), .second, .val (.int v1), .val (.int v2), .val (.int v3), .val (.int v4), .val (.int v5), .val (.int v6), .val (.ref b7), .val (.int (Nat.toInt32 i10)), .val (.int (Nat.toInt32 i1)), .val (.int (Nat.toInt32 i4)), .val (.int (Nat.toInt32 i6)), .val (.int (Nat.toInt32 i10)), .unset, .unset, .unset, .unset, .unset, .unset, .unset, .unset, .unset] [(.int (1 : Int32)), (.long p3), (.int (Nat.toInt32 i10)), (.ref b7)]))
                        obtain ⟨_, _, ⟨T143, L143, k143, n143⟩, -, X143, ⟨Lc143, hQ143, l143, y143, z143⟩, st143⟩ := Jvm.LawKit.callS X26 hx (y := (⟨"com/example/enlace/enlace/graph/LineFieldsResetPinLaw", "junkByte", "(JI)B"⟩ : MethodName)) hown (mvT hZ (hw _ (List.mem_of_getElem? (i := 56) rfl))) (mvT hZ (hw _ (List.mem_of_getElem? (i := 57) rfl))) (mvT hZ (hw _ (List.mem_of_getElem? (i := 51) rfl))) (mvT hZ (hw _ (List.mem_of_getElem? (i := 58) rfl))) (by decide) (backOf (W := 2) (rm11 l Z a0 hw [] p3 (1 : Int32) h26 n0 Z26 ) hZ (hw _ (List.mem_of_getElem? (i := 58) rfl)) (hw _ (List.mem_of_getElem? (i := 51) rfl)) (by decide) (by decide)) (g := (mkF m 265 #[.val (.int p0), .val (.int p1), .val (.int p2), .val (.long p3), .second, .val (.int v1), .val (.int v2), .val (.int v3), .val (.int v4), .val (.int v5), .val (.int v6), .val (.ref b7), .val (.int (Nat.toInt32 i10)), .val (.int (Nat.toInt32 i1)), .val (.int (Nat.toInt32 i4)), .val (.int (Nat.toInt32 i6)), .val (.int (Nat.toInt32 i10)), .unset, .unset, .unset, .unset, .unset, .unset, .unset, .unset, .unset] [(.int (1 : Int32)), (.long p3), (.int (Nat.toInt32 i10)), (.ref b7)])) rfl (by rw [hml]; rfl) (argsL := [(.long p3), (.int (1 : Int32))]) (rest := [(.int (Nat.toInt32 i10)), (.ref b7)]) (lenOf pd_7 rfl) rfl (by show 2 * 0 + _ ≤ _; exact Nat.le_of_eq rfl) (hb hby at_265) (fun _ _ => ⟨rfl, e26, (by decide : 1 + 0 ≤ _), (by decide : 16 + 0 ≤ _)⟩)
                        dsimp only [Pt.U, Pt.locs, Pt.cells, Pt.slots] at X143 l143 y143 z143 st143 hQ143
                        subst l143 y143 z143
                        obtain ⟨rfl, N143q, e143⟩ := hQ143
                        have N143 := Fr.app N26 N143q
                        refine own_via st143 ?_
                        show own_Go p e below s _ _ _ (T143.setTop (mkF m 268 #[.val (.int p0), .val (.int p1), .val (.int p2), .val (.long p3), .second, .val (.int v1), .val (.int v2), .val (.int v3), .val (.int v4), .val (.int v5), .val (.int v6), .val (.ref b7), .val (.int (Nat.toInt32 i10)), .val (.int (Nat.toInt32 i1)), .val (.int (Nat.toInt32 i4)), .val (.int (Nat.toInt32 i6)), .val (.int (Nat.toInt32 i10)), .unset, .unset, .unset, .unset, .unset, .unset, .unset, .unset, .unset] [(.int (own_jb p3 (1 : Int32))), (.int (Nat.toInt32 i10)), (.ref b7)]))
                        obtain ⟨cl144, Ar144, q144, S144, M144, H144, G144⟩ := (id F27)
                        have hin144 : ¬ ((Nat.toInt32 i10) < 0 ∨ cl144.slots.size ≤ ((Nat.toInt32 i10)).toNatClampNeg) := inb_of S144 (own_inb (by omega) (by show ((i10 : Nat) : Int) < 16; omega))
                        obtain ⟨T144, h144, X144, e144, W144, st144⟩ := stB X143 hx hZ e143 Ar144 (j := (Nat.toInt32 i10)) hin144 (g := (mkF m 268 #[.val (.int p0), .val (.int p1), .val (.int p2), .val (.long p3), .second, .val (.int v1), .val (.int v2), .val (.int v3), .val (.int v4), .val (.int v5), .val (.int v6), .val (.ref b7), .val (.int (Nat.toInt32 i10)), .val (.int (Nat.toInt32 i1)), .val (.int (Nat.toInt32 i4)), .val (.int (Nat.toInt32 i6)), .val (.int (Nat.toInt32 i10)), .unset, .unset, .unset, .unset, .unset, .unset, .unset, .unset, .unset] [(.int (own_jb p3 (1 : Int32))), (.int (Nat.toInt32 i10)), (.ref b7)])) rfl rfl (hb hby at_268)
                        have V144 : Arv Z h144 b7 k7 .byte (16 : Int32) ((u10.set i10 (nar .byte (own_jb p3 (1 : Int32)))).map Value.int) (.int (0 : Int32)) := (by rw [List.map_set]; exact Arv.set Ar144 q144 S144 M144 H144 G144 (fits_nar_byte _) W144 i10 (own_nc (by omega)) (by rw [List.length_map, hl11]; omega))
                        have N144 := Fr.snoc X144 N143 g_b7
                        have Z144 : n0 ≤ h144.size := Nat.le_trans Z26 (Keep.of_wr W144).1
                        refine own_via st144 ?_
                        show own_Go p e below s _ _ _ (T144.setTop (mkF m 269 #[.val (.int p0), .val (.int p1), .val (.int p2), .val (.long p3), .second, .val (.int v1), .val (.int v2), .val (.int v3), .val (.int v4), .val (.int v5), .val (.int v6), .val (.ref b7), .val (.int (Nat.toInt32 i10)), .val (.int (Nat.toInt32 i1)), .val (.int (Nat.toInt32 i4)), .val (.int (Nat.toInt32 i6)), .val (.int (Nat.toInt32 i10)), .unset, .unset, .unset, .unset, .unset, .unset, .unset, .unset, .unset] []))
                        refine own_via (fun _ k => XS.iinc X144.here hx rfl (hb hby at_269) rfl (l' := #[.val (.int p0), .val (.int p1), .val (.int p2), .val (.long p3), .second, .val (.int v1), .val (.int v2), .val (.int v3), .val (.int v4), .val (.int v5), .val (.int v6), .val (.ref b7), .val (.int ((Nat.toInt32 i10) + (1 : Int32))), .val (.int (Nat.toInt32 i1)), .val (.int (Nat.toInt32 i4)), .val (.int (Nat.toInt32 i6)), .val (.int (Nat.toInt32 i10)), .unset, .unset, .unset, .unset, .unset, .unset, .unset, .unset, .unset]) rfl k) ?_
                        show own_Go p e below s _ _ _ (T144.setTop (mkF m 272 #[.val (.int p0), .val (.int p1), .val (.int p2), .val (.long p3), .second, .val (.int v1), .val (.int v2), .val (.int v3), .val (.int v4), .val (.int v5), .val (.int v6), .val (.ref b7), .val (.int ((Nat.toInt32 i10) + (1 : Int32))), .val (.int (Nat.toInt32 i1)), .val (.int (Nat.toInt32 i4)), .val (.int (Nat.toInt32 i6)), .val (.int (Nat.toInt32 i10)), .unset, .unset, .unset, .unset, .unset, .unset, .unset, .unset, .unset] []))
                        rw [own_succ]
                        show own_Go p e below s _ _ _ (T144.setTop (mkF m 272 #[.val (.int p0), .val (.int p1), .val (.int p2), .val (.long p3), .second, .val (.int v1), .val (.int v2), .val (.int v3), .val (.int v4), .val (.int v5), .val (.int v6), .val (.ref b7), .val (.int (Nat.toInt32 (i10 + 1))), .val (.int (Nat.toInt32 i1)), .val (.int (Nat.toInt32 i4)), .val (.int (Nat.toInt32 i6)), .val (.int (Nat.toInt32 i10)), .unset, .unset, .unset, .unset, .unset, .unset, .unset, .unset, .unset] []))
                        exact jn11 (u10.set i10 (nar .byte (own_jb p3 (1 : Int32)))) (i10 + 1) _ _ _ X144 e144 N144 Z144 V144 ((if_pos hc142).symm) ((if_pos hc142).symm) (by rw [List.length_set]; exact hl11) (by omega)
                      · refine own_via (fun _ k => XS.ifYes X26.here hx rfl (pc0 := 256) (pc' := 272) rfl (hb hby at_256) rfl (Jvm.Free.XT.i0_le_t hc142) (by decide) (by decide) k) ?_
                        show own_Go p e below s _ _ _ (T26.setTop (mkF m 272 #[.val (.int p0), .val (.int p1), .val (.int p2), .val (.long p3), .second, .val (.int v1), .val (.int v2), .val (.int v3), .val (.int v4), .val (.int v5), .val (.int v6), .val (.ref b7), .val (.int (Nat.toInt32 i10)), .val (.int (Nat.toInt32 i1)), .val (.int (Nat.toInt32 i4)), .val (.int (Nat.toInt32 i6)), .val (.int (Nat.toInt32 i10)), .unset, .unset, .unset, .unset, .unset, .unset, .unset, .unset, .unset] []))
                        exact jn11 u10 i10 _ _ _ X26 e26 N26 Z26 F27 ((if_neg hc142).symm) ((if_neg hc142).symm) (hl11) (by omega)
                    show own_Go p e below s _ _ _ (T24.setTop (mkF m 234 #[.val (.int p0), .val (.int p1), .val (.int p2), .val (.long p3), .second, .val (.int v1), .val (.int v2), .val (.int v3), .val (.int v4), .val (.int v5), .val (.int v6), .val (.ref b7), .val (.int (Nat.toInt32 i9)), .val (.int (Nat.toInt32 i1)), .val (.int (Nat.toInt32 i4)), .val (.int (Nat.toInt32 i6)), .unset, .unset, .unset, .unset, .unset, .unset, .unset, .unset, .unset, .unset] []))
                    refine own_via (fun _ k => XS.iload X24.here hx rfl (hb hby at_234) rfl k) ?_
                    show own_Go p e below s _ _ _ (T24.setTop (mkF m 236 #[.val (.int p0), .val (.int p1), .val (.int p2), .val (.long p3), .second, .val (.int v1), .val (.int v2), .val (.int v3), .val (.int v4), .val (.int v5), .val (.int v6), .val (.ref b7), .val (.int (Nat.toInt32 i9)), .val (.int (Nat.toInt32 i1)), .val (.int (Nat.toInt32 i4)), .val (.int (Nat.toInt32 i6)), .unset, .unset, .unset, .unset, .unset, .unset, .unset, .unset, .unset, .unset] [(.int v5)]))
                    refine own_via (fun _ k => XS.iconst X24.here hx rfl (hb hby at_236) k) ?_
                    show own_Go p e below s _ _ _ (T24.setTop (mkF m 237 #[.val (.int p0), .val (.int p1), .val (.int p2), .val (.long p3), .second, .val (.int v1), .val (.int v2), .val (.int v3), .val (.int v4), .val (.int v5), .val (.int v6), .val (.ref b7), .val (.int (Nat.toInt32 i9)), .val (.int (Nat.toInt32 i1)), .val (.int (Nat.toInt32 i4)), .val (.int (Nat.toInt32 i6)), .unset, .unset, .unset, .unset, .unset, .unset, .unset, .unset, .unset, .unset] [(.int (1 : Int32)), (.int v5)]))
                    by_cases hc145 : v5 = (1 : Int32)
                    · refine own_via (fun _ k => XS.icmpNo X24.here hx rfl (hb hby at_237) rfl (Jvm.Free.XT.ii_ne_f hc145) k) ?_
                      show own_Go p e below s _ _ _ (T24.setTop (mkF m 240 #[.val (.int p0), .val (.int p1), .val (.int p2), .val (.long p3), .second, .val (.int v1), .val (.int v2), .val (.int v3), .val (.int v4), .val (.int v5), .val (.int v6), .val (.ref b7), .val (.int (Nat.toInt32 i9)), .val (.int (Nat.toInt32 i1)), .val (.int (Nat.toInt32 i4)), .val (.int (Nat.toInt32 i6)), .unset, .unset, .unset, .unset, .unset, .unset, .unset, .unset, .unset, .unset] []))
                      refine own_via (fun _ k => XS.aload X24.here hx rfl (hb hby at_240) rfl rfl k) ?_
                      show own_Go p e below s _ _ _ (T24.setTop (mkF m 242 #[.val (.int p0), .val (.int p1), .val (.int p2), .val (.long p3), .second, .val (.int v1), .val (.int v2), .val (.int v3), .val (.int v4), .val (.int v5), .val (.int v6), .val (.ref b7), .val (.int (Nat.toInt32 i9)), .val (.int (Nat.toInt32 i1)), .val (.int (Nat.toInt32 i4)), .val (.int (Nat.toInt32 i6)), .unset, .unset, .unset, .unset, .unset, .unset, .unset, .unset, .unset, .unset] [(.ref b7)]))
                      refine own_via (fun _ k => XS.iload X24.here hx rfl (hb hby at_242) rfl k) ?_
                      show own_Go p e below s _ _ _ (T24.setTop (mkF m 244 #[.val (.int p0), .val (.int p1), .val (.int p2), .val (.long p3), .second, .val (.int v1), .val (.int v2), .val (.int v3), .val (.int v4), .val (.int v5), .val (.int v6), .val (.ref b7), .val (.int (Nat.toInt32 i9)), .val (.int (Nat.toInt32 i1)), .val (.int (Nat.toInt32 i4)), .val (.int (Nat.toInt32 i6)), .unset, .unset, .unset, .unset, .unset, .unset, .unset, .unset, .unset, .unset] [(.int (Nat.toInt32 i9)), (.ref b7)]))
                      refine own_via (fun _ k => XS.bipush X24.here hx rfl (hb hby at_244) k) ?_
                      show own_Go p e below s _ _ _ (T24.setTop (mkF m 246 #[.val (.int p0), .val (.int p1), .val (.int p2), .val (.long p3), .second, .val (.int v1), .val (.int v2), .val (.int v3), .val (.int v4), .val (.int v5), .val (.int v6), .val (.ref b7), .val (.int (Nat.toInt32 i9)), .val (.int (Nat.toInt32 i1)), .val (.int (Nat.toInt32 i4)), .val (.int (Nat.toInt32 i6)), .unset, .unset, .unset, .unset, .unset, .unset, .unset, .unset, .unset, .unset] [(.int (13 : Int32)), (.int (Nat.toInt32 i9)), (.ref b7)]))
                      obtain ⟨cl146, Ar146, q146, S146, M146, H146, G146⟩ := (id F25)
                      have hin146 : ¬ ((Nat.toInt32 i9) < 0 ∨ cl146.slots.size ≤ ((Nat.toInt32 i9)).toNatClampNeg) := inb_of S146 (own_inb (by omega) (by show ((i9 : Nat) : Int) < 16; omega))
                      obtain ⟨T146, h146, X146, e146, W146, st146⟩ := stB X24 hx hZ e24 Ar146 (j := (Nat.toInt32 i9)) hin146 (g := (mkF m 246 #[.val (.int p0), .val (.int p1), .val (.int p2), .val (.long p3), .second, .val (.int v1), .val (.int v2), .val (.int v3), .val (.int v4), .val (.int v5), .val (.int v6), .val (.ref b7), .val (.int (Nat.toInt32 i9)), .val (.int (Nat.toInt32 i1)), .val (.int (Nat.toInt32 i4)), .val (.int (Nat.toInt32 i6)), .unset, .unset, .unset, .unset, .unset, .unset, .unset, .unset, .unset, .unset] [(.int (13 : Int32)), (.int (Nat.toInt32 i9)), (.ref b7)])) rfl rfl (hb hby at_246)
                      have V146 : Arv Z h146 b7 k7 .byte (16 : Int32) ((u9.set i9 (13 : Int32)).map Value.int) (.int (0 : Int32)) := (by rw [List.map_set]; exact Arv.set Ar146 q146 S146 M146 H146 G146 (fits_nar_byte _) W146 i9 (own_nc (by omega)) (by rw [List.length_map, hl10]; omega))
                      have N146 := Fr.snoc X146 N24 g_b7
                      have Z146 : n0 ≤ h146.size := Nat.le_trans Z24 (Keep.of_wr W146).1
                      refine own_via st146 ?_
                      show own_Go p e below s _ _ _ (T146.setTop (mkF m 247 #[.val (.int p0), .val (.int p1), .val (.int p2), .val (.long p3), .second, .val (.int v1), .val (.int v2), .val (.int v3), .val (.int v4), .val (.int v5), .val (.int v6), .val (.ref b7), .val (.int (Nat.toInt32 i9)), .val (.int (Nat.toInt32 i1)), .val (.int (Nat.toInt32 i4)), .val (.int (Nat.toInt32 i6)), .unset, .unset, .unset, .unset, .unset, .unset, .unset, .unset, .unset, .unset] []))
                      refine own_via (fun _ k => XS.iinc X146.here hx rfl (hb hby at_247) rfl (l' := #[.val (.int p0), .val (.int p1), .val (.int p2), .val (.long p3), .second, .val (.int v1), .val (.int v2), .val (.int v3), .val (.int v4), .val (.int v5), .val (.int v6), .val (.ref b7), .val (.int ((Nat.toInt32 i9) + (1 : Int32))), .val (.int (Nat.toInt32 i1)), .val (.int (Nat.toInt32 i4)), .val (.int (Nat.toInt32 i6)), .unset, .unset, .unset, .unset, .unset, .unset, .unset, .unset, .unset, .unset]) rfl k) ?_
                      show own_Go p e below s _ _ _ (T146.setTop (mkF m 250 #[.val (.int p0), .val (.int p1), .val (.int p2), .val (.long p3), .second, .val (.int v1), .val (.int v2), .val (.int v3), .val (.int v4), .val (.int v5), .val (.int v6), .val (.ref b7), .val (.int ((Nat.toInt32 i9) + (1 : Int32))), .val (.int (Nat.toInt32 i1)), .val (.int (Nat.toInt32 i4)), .val (.int (Nat.toInt32 i6)), .unset, .unset, .unset, .unset, .unset, .unset, .unset, .unset, .unset, .unset] []))
                      rw [own_succ]
                      show own_Go p e below s _ _ _ (T146.setTop (mkF m 250 #[.val (.int p0), .val (.int p1), .val (.int p2), .val (.long p3), .second, .val (.int v1), .val (.int v2), .val (.int v3), .val (.int v4), .val (.int v5), .val (.int v6), .val (.ref b7), .val (.int (Nat.toInt32 (i9 + 1))), .val (.int (Nat.toInt32 i1)), .val (.int (Nat.toInt32 i4)), .val (.int (Nat.toInt32 i6)), .unset, .unset, .unset, .unset, .unset, .unset, .unset, .unset, .unset, .unset] []))
                      exact jn10 (u9.set i9 (13 : Int32)) (i9 + 1) _ _ _ X146 e146 N146 Z146 V146 ((if_pos hc145).symm) ((if_pos hc145).symm) (by rw [List.length_set]; exact hl10) (by omega)
                    · refine own_via (fun _ k => XS.icmpYes X24.here hx rfl (pc0 := 237) (pc' := 250) rfl (hb hby at_237) rfl (Jvm.Free.XT.ii_ne_t hc145) (by decide) (by decide) k) ?_
                      show own_Go p e below s _ _ _ (T24.setTop (mkF m 250 #[.val (.int p0), .val (.int p1), .val (.int p2), .val (.long p3), .second, .val (.int v1), .val (.int v2), .val (.int v3), .val (.int v4), .val (.int v5), .val (.int v6), .val (.ref b7), .val (.int (Nat.toInt32 i9)), .val (.int (Nat.toInt32 i1)), .val (.int (Nat.toInt32 i4)), .val (.int (Nat.toInt32 i6)), .unset, .unset, .unset, .unset, .unset, .unset, .unset, .unset, .unset, .unset] []))
                      exact jn10 u9 i9 _ _ _ X24 e24 N24 Z24 F25 ((if_neg hc145).symm) ((if_neg hc145).symm) (hl10) (by omega)
                  show own_Go p e below s _ _ _ (T22.setTop (mkF m 214 #[.val (.int p0), .val (.int p1), .val (.int p2), .val (.long p3), .second, .val (.int v1), .val (.int v2), .val (.int v3), .val (.int v4), .val (.int v5), .val (.int v6), .val (.ref b7), .val (.int (Nat.toInt32 i8)), .val (.int (Nat.toInt32 i1)), .val (.int (Nat.toInt32 i4)), .val (.int (Nat.toInt32 i6)), .unset, .unset, .unset, .unset, .unset, .unset, .unset, .unset, .unset, .unset] []))
                  refine own_via (fun _ k => XS.iload X22.here hx rfl (hb hby at_214) rfl k) ?_
                  show own_Go p e below s _ _ _ (T22.setTop (mkF m 216 #[.val (.int p0), .val (.int p1), .val (.int p2), .val (.long p3), .second, .val (.int v1), .val (.int v2), .val (.int v3), .val (.int v4), .val (.int v5), .val (.int v6), .val (.ref b7), .val (.int (Nat.toInt32 i8)), .val (.int (Nat.toInt32 i1)), .val (.int (Nat.toInt32 i4)), .val (.int (Nat.toInt32 i6)), .unset, .unset, .unset, .unset, .unset, .unset, .unset, .unset, .unset, .unset] [(.int v4)]))
                  refine own_via (fun _ k => XS.iconst X22.here hx rfl (hb hby at_216) k) ?_
                  show own_Go p e below s _ _ _ (T22.setTop (mkF m 217 #[.val (.int p0), .val (.int p1), .val (.int p2), .val (.long p3), .second, .val (.int v1), .val (.int v2), .val (.int v3), .val (.int v4), .val (.int v5), .val (.int v6), .val (.ref b7), .val (.int (Nat.toInt32 i8)), .val (.int (Nat.toInt32 i1)), .val (.int (Nat.toInt32 i4)), .val (.int (Nat.toInt32 i6)), .unset, .unset, .unset, .unset, .unset, .unset, .unset, .unset, .unset, .unset] [(.int (2 : Int32)), (.int v4)]))
                  by_cases hc147 : (2 : Int32) < v4
                  · refine own_via (fun _ k => XS.icmpNo X22.here hx rfl (hb hby at_217) rfl (Jvm.Free.XT.ii_le_f hc147) k) ?_
                    show own_Go p e below s _ _ _ (T22.setTop (mkF m 220 #[.val (.int p0), .val (.int p1), .val (.int p2), .val (.long p3), .second, .val (.int v1), .val (.int v2), .val (.int v3), .val (.int v4), .val (.int v5), .val (.int v6), .val (.ref b7), .val (.int (Nat.toInt32 i8)), .val (.int (Nat.toInt32 i1)), .val (.int (Nat.toInt32 i4)), .val (.int (Nat.toInt32 i6)), .unset, .unset, .unset, .unset, .unset, .unset, .unset, .unset, .unset, .unset] []))
                    refine own_via (fun _ k => XS.aload X22.here hx rfl (hb hby at_220) rfl rfl k) ?_
                    show own_Go p e below s _ _ _ (T22.setTop (mkF m 222 #[.val (.int p0), .val (.int p1), .val (.int p2), .val (.long p3), .second, .val (.int v1), .val (.int v2), .val (.int v3), .val (.int v4), .val (.int v5), .val (.int v6), .val (.ref b7), .val (.int (Nat.toInt32 i8)), .val (.int (Nat.toInt32 i1)), .val (.int (Nat.toInt32 i4)), .val (.int (Nat.toInt32 i6)), .unset, .unset, .unset, .unset, .unset, .unset, .unset, .unset, .unset, .unset] [(.ref b7)]))
                    refine own_via (fun _ k => XS.iload X22.here hx rfl (hb hby at_222) rfl k) ?_
                    show own_Go p e below s _ _ _ (T22.setTop (mkF m 224 #[.val (.int p0), .val (.int p1), .val (.int p2), .val (.long p3), .second, .val (.int v1), .val (.int v2), .val (.int v3), .val (.int v4), .val (.int v5), .val (.int v6), .val (.ref b7), .val (.int (Nat.toInt32 i8)), .val (.int (Nat.toInt32 i1)), .val (.int (Nat.toInt32 i4)), .val (.int (Nat.toInt32 i6)), .unset, .unset, .unset, .unset, .unset, .unset, .unset, .unset, .unset, .unset] [(.int (Nat.toInt32 i8)), (.ref b7)]))
                    refine own_via (fun _ k => XS.iloadN X22.here hx rfl (hb hby at_224) rfl k) ?_
                    show own_Go p e below s _ _ _ (T22.setTop (mkF m 225 #[.val (.int p0), .val (.int p1), .val (.int p2), .val (.long p3), .second, .val (.int v1), .val (.int v2), .val (.int v3), .val (.int v4), .val (.int v5), .val (.int v6), .val (.ref b7), .val (.int (Nat.toInt32 i8)), .val (.int (Nat.toInt32 i1)), .val (.int (Nat.toInt32 i4)), .val (.int (Nat.toInt32 i6)), .unset, .unset, .unset, .unset, .unset, .unset, .unset, .unset, .unset, .unset] [(.int p1), (.int (Nat.toInt32 i8)), (.ref b7)]))
                    refine own_via (fun _ k => XS.bipush X22.here hx rfl (hb hby at_225) k) ?_
                    show own_Go p e below s _ _ _ (T22.setTop (mkF m 227 #[.val (.int p0), .val (.int p1), .val (.int p2), .val (.long p3), .second, .val (.int v1), .val (.int v2), .val (.int v3), .val (.int v4), .val (.int v5), .val (.int v6), .val (.ref b7), .val (.int (Nat.toInt32 i8)), .val (.int (Nat.toInt32 i1)), .val (.int (Nat.toInt32 i4)), .val (.int (Nat.toInt32 i6)), .unset, .unset, .unset, .unset, .unset, .unset, .unset, .unset, .unset, .unset] [(.int (6 : Int32)), (.int p1), (.int (Nat.toInt32 i8)), (.ref b7)]))
                    obtain ⟨_, _, ⟨T148, L148, k148, n148⟩, -, X148, ⟨Lc148, hQ148, l148, y148, z148⟩, st148⟩ := Jvm.LawKit.callS X22 hx (y := (⟨"com/example/enlace/enlace/graph/LineFieldsResetPinLaw", "blankByte", "(II)B"⟩ : MethodName)) hown (mvT hZ (hw _ (List.mem_of_getElem? (i := 49) rfl))) (mvT hZ (hw _ (List.mem_of_getElem? (i := 50) rfl))) (mvT hZ (hw _ (List.mem_of_getElem? (i := 51) rfl))) (mvT hZ (hw _ (List.mem_of_getElem? (i := 52) rfl))) (by decide) (backOf (W := 2) (rm9 l Z a0 hw [] p1 (6 : Int32) h22 n0 Z22 ) hZ (hw _ (List.mem_of_getElem? (i := 52) rfl)) (hw _ (List.mem_of_getElem? (i := 51) rfl)) (by decide) (by decide)) (g := (mkF m 227 #[.val (.int p0), .val (.int p1), .val (.int p2), .val (.long p3), .second, .val (.int v1), .val (.int v2), .val (.int v3), .val (.int v4), .val (.int v5), .val (.int v6), .val (.ref b7), .val (.int (Nat.toInt32 i8)), .val (.int (Nat.toInt32 i1)), .val (.int (Nat.toInt32 i4)), .val (.int (Nat.toInt32 i6)), .unset, .unset, .unset, .unset, .unset, .unset, .unset, .unset, .unset, .unset] [(.int (6 : Int32)), (.int p1), (.int (Nat.toInt32 i8)), (.ref b7)])) rfl (by rw [hml]; rfl) (argsL := [(.int p1), (.int (6 : Int32))]) (rest := [(.int (Nat.toInt32 i8)), (.ref b7)]) (lenOf pd_8 rfl) rfl (by show 2 * 0 + _ ≤ _; exact Nat.le_of_eq rfl) (hb hby at_227) (fun _ _ => ⟨rfl, e22, (by decide : 1 + 0 ≤ _), (by decide : 16 + 0 ≤ _)⟩)
                    dsimp only [Pt.U, Pt.locs, Pt.cells, Pt.slots] at X148 l148 y148 z148 st148 hQ148
                    subst l148 y148 z148
                    obtain ⟨rfl, N148q, e148⟩ := hQ148
                    have N148 := Fr.app N22 N148q
                    refine own_via st148 ?_
                    show own_Go p e below s _ _ _ (T148.setTop (mkF m 230 #[.val (.int p0), .val (.int p1), .val (.int p2), .val (.long p3), .second, .val (.int v1), .val (.int v2), .val (.int v3), .val (.int v4), .val (.int v5), .val (.int v6), .val (.ref b7), .val (.int (Nat.toInt32 i8)), .val (.int (Nat.toInt32 i1)), .val (.int (Nat.toInt32 i4)), .val (.int (Nat.toInt32 i6)), .unset, .unset, .unset, .unset, .unset, .unset, .unset, .unset, .unset, .unset] [(.int (own_bb p1 (6 : Int32))), (.int (Nat.toInt32 i8)), (.ref b7)]))
                    obtain ⟨cl149, Ar149, q149, S149, M149, H149, G149⟩ := (id F23)
                    have hin149 : ¬ ((Nat.toInt32 i8) < 0 ∨ cl149.slots.size ≤ ((Nat.toInt32 i8)).toNatClampNeg) := inb_of S149 (own_inb (by omega) (by show ((i8 : Nat) : Int) < 16; omega))
                    obtain ⟨T149, h149, X149, e149, W149, st149⟩ := stB X148 hx hZ e148 Ar149 (j := (Nat.toInt32 i8)) hin149 (g := (mkF m 230 #[.val (.int p0), .val (.int p1), .val (.int p2), .val (.long p3), .second, .val (.int v1), .val (.int v2), .val (.int v3), .val (.int v4), .val (.int v5), .val (.int v6), .val (.ref b7), .val (.int (Nat.toInt32 i8)), .val (.int (Nat.toInt32 i1)), .val (.int (Nat.toInt32 i4)), .val (.int (Nat.toInt32 i6)), .unset, .unset, .unset, .unset, .unset, .unset, .unset, .unset, .unset, .unset] [(.int (own_bb p1 (6 : Int32))), (.int (Nat.toInt32 i8)), (.ref b7)])) rfl rfl (hb hby at_230)
                    have V149 : Arv Z h149 b7 k7 .byte (16 : Int32) ((u8.set i8 (nar .byte (own_bb p1 (6 : Int32)))).map Value.int) (.int (0 : Int32)) := (by rw [List.map_set]; exact Arv.set Ar149 q149 S149 M149 H149 G149 (fits_nar_byte _) W149 i8 (own_nc (by omega)) (by rw [List.length_map, hl9]; omega))
                    have N149 := Fr.snoc X149 N148 g_b7
                    have Z149 : n0 ≤ h149.size := Nat.le_trans Z22 (Keep.of_wr W149).1
                    refine own_via st149 ?_
                    show own_Go p e below s _ _ _ (T149.setTop (mkF m 231 #[.val (.int p0), .val (.int p1), .val (.int p2), .val (.long p3), .second, .val (.int v1), .val (.int v2), .val (.int v3), .val (.int v4), .val (.int v5), .val (.int v6), .val (.ref b7), .val (.int (Nat.toInt32 i8)), .val (.int (Nat.toInt32 i1)), .val (.int (Nat.toInt32 i4)), .val (.int (Nat.toInt32 i6)), .unset, .unset, .unset, .unset, .unset, .unset, .unset, .unset, .unset, .unset] []))
                    refine own_via (fun _ k => XS.iinc X149.here hx rfl (hb hby at_231) rfl (l' := #[.val (.int p0), .val (.int p1), .val (.int p2), .val (.long p3), .second, .val (.int v1), .val (.int v2), .val (.int v3), .val (.int v4), .val (.int v5), .val (.int v6), .val (.ref b7), .val (.int ((Nat.toInt32 i8) + (1 : Int32))), .val (.int (Nat.toInt32 i1)), .val (.int (Nat.toInt32 i4)), .val (.int (Nat.toInt32 i6)), .unset, .unset, .unset, .unset, .unset, .unset, .unset, .unset, .unset, .unset]) rfl k) ?_
                    show own_Go p e below s _ _ _ (T149.setTop (mkF m 234 #[.val (.int p0), .val (.int p1), .val (.int p2), .val (.long p3), .second, .val (.int v1), .val (.int v2), .val (.int v3), .val (.int v4), .val (.int v5), .val (.int v6), .val (.ref b7), .val (.int ((Nat.toInt32 i8) + (1 : Int32))), .val (.int (Nat.toInt32 i1)), .val (.int (Nat.toInt32 i4)), .val (.int (Nat.toInt32 i6)), .unset, .unset, .unset, .unset, .unset, .unset, .unset, .unset, .unset, .unset] []))
                    rw [own_succ]
                    show own_Go p e below s _ _ _ (T149.setTop (mkF m 234 #[.val (.int p0), .val (.int p1), .val (.int p2), .val (.long p3), .second, .val (.int v1), .val (.int v2), .val (.int v3), .val (.int v4), .val (.int v5), .val (.int v6), .val (.ref b7), .val (.int (Nat.toInt32 (i8 + 1))), .val (.int (Nat.toInt32 i1)), .val (.int (Nat.toInt32 i4)), .val (.int (Nat.toInt32 i6)), .unset, .unset, .unset, .unset, .unset, .unset, .unset, .unset, .unset, .unset] []))
                    exact jn9 (u8.set i8 (nar .byte (own_bb p1 (6 : Int32)))) (i8 + 1) _ _ _ X149 e149 N149 Z149 V149 ((if_pos hc147).symm) ((if_pos hc147).symm) (by rw [List.length_set]; exact hl9) (by omega)
                  · refine own_via (fun _ k => XS.icmpYes X22.here hx rfl (pc0 := 217) (pc' := 234) rfl (hb hby at_217) rfl (Jvm.Free.XT.ii_le_t hc147) (by decide) (by decide) k) ?_
                    show own_Go p e below s _ _ _ (T22.setTop (mkF m 234 #[.val (.int p0), .val (.int p1), .val (.int p2), .val (.long p3), .second, .val (.int v1), .val (.int v2), .val (.int v3), .val (.int v4), .val (.int v5), .val (.int v6), .val (.ref b7), .val (.int (Nat.toInt32 i8)), .val (.int (Nat.toInt32 i1)), .val (.int (Nat.toInt32 i4)), .val (.int (Nat.toInt32 i6)), .unset, .unset, .unset, .unset, .unset, .unset, .unset, .unset, .unset, .unset] []))
                    exact jn9 u8 i8 _ _ _ X22 e22 N22 Z22 F23 ((if_neg hc147).symm) ((if_neg hc147).symm) (hl9) (by omega)
                show own_Go p e below s _ _ _ (T20.setTop (mkF m 195 #[.val (.int p0), .val (.int p1), .val (.int p2), .val (.long p3), .second, .val (.int v1), .val (.int v2), .val (.int v3), .val (.int v4), .val (.int v5), .val (.int v6), .val (.ref b7), .val (.int (Nat.toInt32 i7)), .val (.int (Nat.toInt32 i1)), .val (.int (Nat.toInt32 i4)), .val (.int (Nat.toInt32 i6)), .unset, .unset, .unset, .unset, .unset, .unset, .unset, .unset, .unset, .unset] []))
                refine own_via (fun _ k => XS.iload X20.here hx rfl (hb hby at_195) rfl k) ?_
                show own_Go p e below s _ _ _ (T20.setTop (mkF m 197 #[.val (.int p0), .val (.int p1), .val (.int p2), .val (.long p3), .second, .val (.int v1), .val (.int v2), .val (.int v3), .val (.int v4), .val (.int v5), .val (.int v6), .val (.ref b7), .val (.int (Nat.toInt32 i7)), .val (.int (Nat.toInt32 i1)), .val (.int (Nat.toInt32 i4)), .val (.int (Nat.toInt32 i6)), .unset, .unset, .unset, .unset, .unset, .unset, .unset, .unset, .unset, .unset] [(.int v4)]))
                refine own_via (fun _ k => XS.iconst X20.here hx rfl (hb hby at_197) k) ?_
                show own_Go p e below s _ _ _ (T20.setTop (mkF m 198 #[.val (.int p0), .val (.int p1), .val (.int p2), .val (.long p3), .second, .val (.int v1), .val (.int v2), .val (.int v3), .val (.int v4), .val (.int v5), .val (.int v6), .val (.ref b7), .val (.int (Nat.toInt32 i7)), .val (.int (Nat.toInt32 i1)), .val (.int (Nat.toInt32 i4)), .val (.int (Nat.toInt32 i6)), .unset, .unset, .unset, .unset, .unset, .unset, .unset, .unset, .unset, .unset] [(.int (1 : Int32)), (.int v4)]))
                by_cases hc150 : (1 : Int32) < v4
                · refine own_via (fun _ k => XS.icmpNo X20.here hx rfl (hb hby at_198) rfl (Jvm.Free.XT.ii_le_f hc150) k) ?_
                  show own_Go p e below s _ _ _ (T20.setTop (mkF m 201 #[.val (.int p0), .val (.int p1), .val (.int p2), .val (.long p3), .second, .val (.int v1), .val (.int v2), .val (.int v3), .val (.int v4), .val (.int v5), .val (.int v6), .val (.ref b7), .val (.int (Nat.toInt32 i7)), .val (.int (Nat.toInt32 i1)), .val (.int (Nat.toInt32 i4)), .val (.int (Nat.toInt32 i6)), .unset, .unset, .unset, .unset, .unset, .unset, .unset, .unset, .unset, .unset] []))
                  refine own_via (fun _ k => XS.aload X20.here hx rfl (hb hby at_201) rfl rfl k) ?_
                  show own_Go p e below s _ _ _ (T20.setTop (mkF m 203 #[.val (.int p0), .val (.int p1), .val (.int p2), .val (.long p3), .second, .val (.int v1), .val (.int v2), .val (.int v3), .val (.int v4), .val (.int v5), .val (.int v6), .val (.ref b7), .val (.int (Nat.toInt32 i7)), .val (.int (Nat.toInt32 i1)), .val (.int (Nat.toInt32 i4)), .val (.int (Nat.toInt32 i6)), .unset, .unset, .unset, .unset, .unset, .unset, .unset, .unset, .unset, .unset] [(.ref b7)]))
                  refine own_via (fun _ k => XS.iload X20.here hx rfl (hb hby at_203) rfl k) ?_
                  show own_Go p e below s _ _ _ (T20.setTop (mkF m 205 #[.val (.int p0), .val (.int p1), .val (.int p2), .val (.long p3), .second, .val (.int v1), .val (.int v2), .val (.int v3), .val (.int v4), .val (.int v5), .val (.int v6), .val (.ref b7), .val (.int (Nat.toInt32 i7)), .val (.int (Nat.toInt32 i1)), .val (.int (Nat.toInt32 i4)), .val (.int (Nat.toInt32 i6)), .unset, .unset, .unset, .unset, .unset, .unset, .unset, .unset, .unset, .unset] [(.int (Nat.toInt32 i7)), (.ref b7)]))
                  refine own_via (fun _ k => XS.iloadN X20.here hx rfl (hb hby at_205) rfl k) ?_
                  show own_Go p e below s _ _ _ (T20.setTop (mkF m 206 #[.val (.int p0), .val (.int p1), .val (.int p2), .val (.long p3), .second, .val (.int v1), .val (.int v2), .val (.int v3), .val (.int v4), .val (.int v5), .val (.int v6), .val (.ref b7), .val (.int (Nat.toInt32 i7)), .val (.int (Nat.toInt32 i1)), .val (.int (Nat.toInt32 i4)), .val (.int (Nat.toInt32 i6)), .unset, .unset, .unset, .unset, .unset, .unset, .unset, .unset, .unset, .unset] [(.int p1), (.int (Nat.toInt32 i7)), (.ref b7)]))
                  refine own_via (fun _ k => XS.iconst X20.here hx rfl (hb hby at_206) k) ?_
                  show own_Go p e below s _ _ _ (T20.setTop (mkF m 207 #[.val (.int p0), .val (.int p1), .val (.int p2), .val (.long p3), .second, .val (.int v1), .val (.int v2), .val (.int v3), .val (.int v4), .val (.int v5), .val (.int v6), .val (.ref b7), .val (.int (Nat.toInt32 i7)), .val (.int (Nat.toInt32 i1)), .val (.int (Nat.toInt32 i4)), .val (.int (Nat.toInt32 i6)), .unset, .unset, .unset, .unset, .unset, .unset, .unset, .unset, .unset, .unset] [(.int (5 : Int32)), (.int p1), (.int (Nat.toInt32 i7)), (.ref b7)]))
                  obtain ⟨_, _, ⟨T151, L151, k151, n151⟩, -, X151, ⟨Lc151, hQ151, l151, y151, z151⟩, st151⟩ := Jvm.LawKit.callS X20 hx (y := (⟨"com/example/enlace/enlace/graph/LineFieldsResetPinLaw", "blankByte", "(II)B"⟩ : MethodName)) hown (mvT hZ (hw _ (List.mem_of_getElem? (i := 49) rfl))) (mvT hZ (hw _ (List.mem_of_getElem? (i := 50) rfl))) (mvT hZ (hw _ (List.mem_of_getElem? (i := 51) rfl))) (mvT hZ (hw _ (List.mem_of_getElem? (i := 52) rfl))) (by decide) (backOf (W := 2) (rm9 l Z a0 hw [] p1 (5 : Int32) h20 n0 Z20 ) hZ (hw _ (List.mem_of_getElem? (i := 52) rfl)) (hw _ (List.mem_of_getElem? (i := 51) rfl)) (by decide) (by decide)) (g := (mkF m 207 #[.val (.int p0), .val (.int p1), .val (.int p2), .val (.long p3), .second, .val (.int v1), .val (.int v2), .val (.int v3), .val (.int v4), .val (.int v5), .val (.int v6), .val (.ref b7), .val (.int (Nat.toInt32 i7)), .val (.int (Nat.toInt32 i1)), .val (.int (Nat.toInt32 i4)), .val (.int (Nat.toInt32 i6)), .unset, .unset, .unset, .unset, .unset, .unset, .unset, .unset, .unset, .unset] [(.int (5 : Int32)), (.int p1), (.int (Nat.toInt32 i7)), (.ref b7)])) rfl (by rw [hml]; rfl) (argsL := [(.int p1), (.int (5 : Int32))]) (rest := [(.int (Nat.toInt32 i7)), (.ref b7)]) (lenOf pd_8 rfl) rfl (by show 2 * 0 + _ ≤ _; exact Nat.le_of_eq rfl) (hb hby at_207) (fun _ _ => ⟨rfl, e20, (by decide : 1 + 0 ≤ _), (by decide : 16 + 0 ≤ _)⟩)
                  dsimp only [Pt.U, Pt.locs, Pt.cells, Pt.slots] at X151 l151 y151 z151 st151 hQ151
                  subst l151 y151 z151
                  obtain ⟨rfl, N151q, e151⟩ := hQ151
                  have N151 := Fr.app N20 N151q
                  refine own_via st151 ?_
                  show own_Go p e below s _ _ _ (T151.setTop (mkF m 210 #[.val (.int p0), .val (.int p1), .val (.int p2), .val (.long p3), .second, .val (.int v1), .val (.int v2), .val (.int v3), .val (.int v4), .val (.int v5), .val (.int v6), .val (.ref b7), .val (.int (Nat.toInt32 i7)), .val (.int (Nat.toInt32 i1)), .val (.int (Nat.toInt32 i4)), .val (.int (Nat.toInt32 i6)), .unset, .unset, .unset, .unset, .unset, .unset, .unset, .unset, .unset, .unset] [(.int (own_bb p1 (5 : Int32))), (.int (Nat.toInt32 i7)), (.ref b7)]))
                  obtain ⟨cl152, Ar152, q152, S152, M152, H152, G152⟩ := (id F21)
                  have hin152 : ¬ ((Nat.toInt32 i7) < 0 ∨ cl152.slots.size ≤ ((Nat.toInt32 i7)).toNatClampNeg) := inb_of S152 (own_inb (by omega) (by show ((i7 : Nat) : Int) < 16; omega))
                  obtain ⟨T152, h152, X152, e152, W152, st152⟩ := stB X151 hx hZ e151 Ar152 (j := (Nat.toInt32 i7)) hin152 (g := (mkF m 210 #[.val (.int p0), .val (.int p1), .val (.int p2), .val (.long p3), .second, .val (.int v1), .val (.int v2), .val (.int v3), .val (.int v4), .val (.int v5), .val (.int v6), .val (.ref b7), .val (.int (Nat.toInt32 i7)), .val (.int (Nat.toInt32 i1)), .val (.int (Nat.toInt32 i4)), .val (.int (Nat.toInt32 i6)), .unset, .unset, .unset, .unset, .unset, .unset, .unset, .unset, .unset, .unset] [(.int (own_bb p1 (5 : Int32))), (.int (Nat.toInt32 i7)), (.ref b7)])) rfl rfl (hb hby at_210)
                  have V152 : Arv Z h152 b7 k7 .byte (16 : Int32) ((u7.set i7 (nar .byte (own_bb p1 (5 : Int32)))).map Value.int) (.int (0 : Int32)) := (by rw [List.map_set]; exact Arv.set Ar152 q152 S152 M152 H152 G152 (fits_nar_byte _) W152 i7 (own_nc (by omega)) (by rw [List.length_map, hl8]; omega))
                  have N152 := Fr.snoc X152 N151 g_b7
                  have Z152 : n0 ≤ h152.size := Nat.le_trans Z20 (Keep.of_wr W152).1
                  refine own_via st152 ?_
                  show own_Go p e below s _ _ _ (T152.setTop (mkF m 211 #[.val (.int p0), .val (.int p1), .val (.int p2), .val (.long p3), .second, .val (.int v1), .val (.int v2), .val (.int v3), .val (.int v4), .val (.int v5), .val (.int v6), .val (.ref b7), .val (.int (Nat.toInt32 i7)), .val (.int (Nat.toInt32 i1)), .val (.int (Nat.toInt32 i4)), .val (.int (Nat.toInt32 i6)), .unset, .unset, .unset, .unset, .unset, .unset, .unset, .unset, .unset, .unset] []))
                  refine own_via (fun _ k => XS.iinc X152.here hx rfl (hb hby at_211) rfl (l' := #[.val (.int p0), .val (.int p1), .val (.int p2), .val (.long p3), .second, .val (.int v1), .val (.int v2), .val (.int v3), .val (.int v4), .val (.int v5), .val (.int v6), .val (.ref b7), .val (.int ((Nat.toInt32 i7) + (1 : Int32))), .val (.int (Nat.toInt32 i1)), .val (.int (Nat.toInt32 i4)), .val (.int (Nat.toInt32 i6)), .unset, .unset, .unset, .unset, .unset, .unset, .unset, .unset, .unset, .unset]) rfl k) ?_
                  show own_Go p e below s _ _ _ (T152.setTop (mkF m 214 #[.val (.int p0), .val (.int p1), .val (.int p2), .val (.long p3), .second, .val (.int v1), .val (.int v2), .val (.int v3), .val (.int v4), .val (.int v5), .val (.int v6), .val (.ref b7), .val (.int ((Nat.toInt32 i7) + (1 : Int32))), .val (.int (Nat.toInt32 i1)), .val (.int (Nat.toInt32 i4)), .val (.int (Nat.toInt32 i6)), .unset, .unset, .unset, .unset, .unset, .unset, .unset, .unset, .unset, .unset] []))
                  rw [own_succ]
                  show own_Go p e below s _ _ _ (T152.setTop (mkF m 214 #[.val (.int p0), .val (.int p1), .val (.int p2), .val (.long p3), .second, .val (.int v1), .val (.int v2), .val (.int v3), .val (.int v4), .val (.int v5), .val (.int v6), .val (.ref b7), .val (.int (Nat.toInt32 (i7 + 1))), .val (.int (Nat.toInt32 i1)), .val (.int (Nat.toInt32 i4)), .val (.int (Nat.toInt32 i6)), .unset, .unset, .unset, .unset, .unset, .unset, .unset, .unset, .unset, .unset] []))
                  exact jn8 (u7.set i7 (nar .byte (own_bb p1 (5 : Int32)))) (i7 + 1) _ _ _ X152 e152 N152 Z152 V152 ((if_pos hc150).symm) ((if_pos hc150).symm) (by rw [List.length_set]; exact hl8) (by omega)
                · refine own_via (fun _ k => XS.icmpYes X20.here hx rfl (pc0 := 198) (pc' := 214) rfl (hb hby at_198) rfl (Jvm.Free.XT.ii_le_t hc150) (by decide) (by decide) k) ?_
                  show own_Go p e below s _ _ _ (T20.setTop (mkF m 214 #[.val (.int p0), .val (.int p1), .val (.int p2), .val (.long p3), .second, .val (.int v1), .val (.int v2), .val (.int v3), .val (.int v4), .val (.int v5), .val (.int v6), .val (.ref b7), .val (.int (Nat.toInt32 i7)), .val (.int (Nat.toInt32 i1)), .val (.int (Nat.toInt32 i4)), .val (.int (Nat.toInt32 i6)), .unset, .unset, .unset, .unset, .unset, .unset, .unset, .unset, .unset, .unset] []))
                  exact jn8 u7 i7 _ _ _ X20 e20 N20 Z20 F21 ((if_neg hc150).symm) ((if_neg hc150).symm) (hl8) (by omega)
              show own_Go p e below s _ _ _ (T18.setTop (mkF m 177 #[.val (.int p0), .val (.int p1), .val (.int p2), .val (.long p3), .second, .val (.int v1), .val (.int v2), .val (.int v3), .val (.int v4), .val (.int v5), .val (.int v6), .val (.ref b7), .val (.int (Nat.toInt32 i6)), .val (.int (Nat.toInt32 i1)), .val (.int (Nat.toInt32 i4)), .val (.int (Nat.toInt32 i6)), .unset, .unset, .unset, .unset, .unset, .unset, .unset, .unset, .unset, .unset] []))
              refine own_via (fun _ k => XS.iload X18.here hx rfl (hb hby at_177) rfl k) ?_
              show own_Go p e below s _ _ _ (T18.setTop (mkF m 179 #[.val (.int p0), .val (.int p1), .val (.int p2), .val (.long p3), .second, .val (.int v1), .val (.int v2), .val (.int v3), .val (.int v4), .val (.int v5), .val (.int v6), .val (.ref b7), .val (.int (Nat.toInt32 i6)), .val (.int (Nat.toInt32 i1)), .val (.int (Nat.toInt32 i4)), .val (.int (Nat.toInt32 i6)), .unset, .unset, .unset, .unset, .unset, .unset, .unset, .unset, .unset, .unset] [(.int v4)]))
              by_cases hc153 : (0 : Int32) < v4
              · refine own_via (fun _ k => XS.ifNo X18.here hx rfl (hb hby at_179) rfl (Jvm.Free.XT.i0_le_f hc153) k) ?_
                show own_Go p e below s _ _ _ (T18.setTop (mkF m 182 #[.val (.int p0), .val (.int p1), .val (.int p2), .val (.long p3), .second, .val (.int v1), .val (.int v2), .val (.int v3), .val (.int v4), .val (.int v5), .val (.int v6), .val (.ref b7), .val (.int (Nat.toInt32 i6)), .val (.int (Nat.toInt32 i1)), .val (.int (Nat.toInt32 i4)), .val (.int (Nat.toInt32 i6)), .unset, .unset, .unset, .unset, .unset, .unset, .unset, .unset, .unset, .unset] []))
                refine own_via (fun _ k => XS.aload X18.here hx rfl (hb hby at_182) rfl rfl k) ?_
                show own_Go p e below s _ _ _ (T18.setTop (mkF m 184 #[.val (.int p0), .val (.int p1), .val (.int p2), .val (.long p3), .second, .val (.int v1), .val (.int v2), .val (.int v3), .val (.int v4), .val (.int v5), .val (.int v6), .val (.ref b7), .val (.int (Nat.toInt32 i6)), .val (.int (Nat.toInt32 i1)), .val (.int (Nat.toInt32 i4)), .val (.int (Nat.toInt32 i6)), .unset, .unset, .unset, .unset, .unset, .unset, .unset, .unset, .unset, .unset] [(.ref b7)]))
                refine own_via (fun _ k => XS.iload X18.here hx rfl (hb hby at_184) rfl k) ?_
                show own_Go p e below s _ _ _ (T18.setTop (mkF m 186 #[.val (.int p0), .val (.int p1), .val (.int p2), .val (.long p3), .second, .val (.int v1), .val (.int v2), .val (.int v3), .val (.int v4), .val (.int v5), .val (.int v6), .val (.ref b7), .val (.int (Nat.toInt32 i6)), .val (.int (Nat.toInt32 i1)), .val (.int (Nat.toInt32 i4)), .val (.int (Nat.toInt32 i6)), .unset, .unset, .unset, .unset, .unset, .unset, .unset, .unset, .unset, .unset] [(.int (Nat.toInt32 i6)), (.ref b7)]))
                refine own_via (fun _ k => XS.iloadN X18.here hx rfl (hb hby at_186) rfl k) ?_
                show own_Go p e below s _ _ _ (T18.setTop (mkF m 187 #[.val (.int p0), .val (.int p1), .val (.int p2), .val (.long p3), .second, .val (.int v1), .val (.int v2), .val (.int v3), .val (.int v4), .val (.int v5), .val (.int v6), .val (.ref b7), .val (.int (Nat.toInt32 i6)), .val (.int (Nat.toInt32 i1)), .val (.int (Nat.toInt32 i4)), .val (.int (Nat.toInt32 i6)), .unset, .unset, .unset, .unset, .unset, .unset, .unset, .unset, .unset, .unset] [(.int p1), (.int (Nat.toInt32 i6)), (.ref b7)]))
                refine own_via (fun _ k => XS.iconst X18.here hx rfl (hb hby at_187) k) ?_
                show own_Go p e below s _ _ _ (T18.setTop (mkF m 188 #[.val (.int p0), .val (.int p1), .val (.int p2), .val (.long p3), .second, .val (.int v1), .val (.int v2), .val (.int v3), .val (.int v4), .val (.int v5), .val (.int v6), .val (.ref b7), .val (.int (Nat.toInt32 i6)), .val (.int (Nat.toInt32 i1)), .val (.int (Nat.toInt32 i4)), .val (.int (Nat.toInt32 i6)), .unset, .unset, .unset, .unset, .unset, .unset, .unset, .unset, .unset, .unset] [(.int (4 : Int32)), (.int p1), (.int (Nat.toInt32 i6)), (.ref b7)]))
                obtain ⟨_, _, ⟨T154, L154, k154, n154⟩, -, X154, ⟨Lc154, hQ154, l154, y154, z154⟩, st154⟩ := Jvm.LawKit.callS X18 hx (y := (⟨"com/example/enlace/enlace/graph/LineFieldsResetPinLaw", "blankByte", "(II)B"⟩ : MethodName)) hown (mvT hZ (hw _ (List.mem_of_getElem? (i := 49) rfl))) (mvT hZ (hw _ (List.mem_of_getElem? (i := 50) rfl))) (mvT hZ (hw _ (List.mem_of_getElem? (i := 51) rfl))) (mvT hZ (hw _ (List.mem_of_getElem? (i := 52) rfl))) (by decide) (backOf (W := 2) (rm9 l Z a0 hw [] p1 (4 : Int32) h18 n0 Z18 ) hZ (hw _ (List.mem_of_getElem? (i := 52) rfl)) (hw _ (List.mem_of_getElem? (i := 51) rfl)) (by decide) (by decide)) (g := (mkF m 188 #[.val (.int p0), .val (.int p1), .val (.int p2), .val (.long p3), .second, .val (.int v1), .val (.int v2), .val (.int v3), .val (.int v4), .val (.int v5), .val (.int v6), .val (.ref b7), .val (.int (Nat.toInt32 i6)), .val (.int (Nat.toInt32 i1)), .val (.int (Nat.toInt32 i4)), .val (.int (Nat.toInt32 i6)), .unset, .unset, .unset, .unset, .unset, .unset, .unset, .unset, .unset, .unset] [(.int (4 : Int32)), (.int p1), (.int (Nat.toInt32 i6)), (.ref b7)])) rfl (by rw [hml]; rfl) (argsL := [(.int p1), (.int (4 : Int32))]) (rest := [(.int (Nat.toInt32 i6)), (.ref b7)]) (lenOf pd_8 rfl) rfl (by show 2 * 0 + _ ≤ _; exact Nat.le_of_eq rfl) (hb hby at_188) (fun _ _ => ⟨rfl, e18, (by decide : 1 + 0 ≤ _), (by decide : 16 + 0 ≤ _)⟩)
                dsimp only [Pt.U, Pt.locs, Pt.cells, Pt.slots] at X154 l154 y154 z154 st154 hQ154
                subst l154 y154 z154
                obtain ⟨rfl, N154q, e154⟩ := hQ154
                have N154 := Fr.app N18 N154q
                refine own_via st154 ?_
                show own_Go p e below s _ _ _ (T154.setTop (mkF m 191 #[.val (.int p0), .val (.int p1), .val (.int p2), .val (.long p3), .second, .val (.int v1), .val (.int v2), .val (.int v3), .val (.int v4), .val (.int v5), .val (.int v6), .val (.ref b7), .val (.int (Nat.toInt32 i6)), .val (.int (Nat.toInt32 i1)), .val (.int (Nat.toInt32 i4)), .val (.int (Nat.toInt32 i6)), .unset, .unset, .unset, .unset, .unset, .unset, .unset, .unset, .unset, .unset] [(.int (own_bb p1 (4 : Int32))), (.int (Nat.toInt32 i6)), (.ref b7)]))
                obtain ⟨cl155, Ar155, q155, S155, M155, H155, G155⟩ := (id F19)
                have hin155 : ¬ ((Nat.toInt32 i6) < 0 ∨ cl155.slots.size ≤ ((Nat.toInt32 i6)).toNatClampNeg) := inb_of S155 (own_inb (by omega) (by show ((i6 : Nat) : Int) < 16; omega))
                obtain ⟨T155, h155, X155, e155, W155, st155⟩ := stB X154 hx hZ e154 Ar155 (j := (Nat.toInt32 i6)) hin155 (g := (mkF m 191 #[.val (.int p0), .val (.int p1), .val (.int p2), .val (.long p3), .second, .val (.int v1), .val (.int v2), .val (.int v3), .val (.int v4), .val (.int v5), .val (.int v6), .val (.ref b7), .val (.int (Nat.toInt32 i6)), .val (.int (Nat.toInt32 i1)), .val (.int (Nat.toInt32 i4)), .val (.int (Nat.toInt32 i6)), .unset, .unset, .unset, .unset, .unset, .unset, .unset, .unset, .unset, .unset] [(.int (own_bb p1 (4 : Int32))), (.int (Nat.toInt32 i6)), (.ref b7)])) rfl rfl (hb hby at_191)
                have V155 : Arv Z h155 b7 k7 .byte (16 : Int32) ((u6.set i6 (nar .byte (own_bb p1 (4 : Int32)))).map Value.int) (.int (0 : Int32)) := (by rw [List.map_set]; exact Arv.set Ar155 q155 S155 M155 H155 G155 (fits_nar_byte _) W155 i6 (own_nc (by omega)) (by rw [List.length_map, hl7]; omega))
                have N155 := Fr.snoc X155 N154 g_b7
                have Z155 : n0 ≤ h155.size := Nat.le_trans Z18 (Keep.of_wr W155).1
                refine own_via st155 ?_
                show own_Go p e below s _ _ _ (T155.setTop (mkF m 192 #[.val (.int p0), .val (.int p1), .val (.int p2), .val (.long p3), .second, .val (.int v1), .val (.int v2), .val (.int v3), .val (.int v4), .val (.int v5), .val (.int v6), .val (.ref b7), .val (.int (Nat.toInt32 i6)), .val (.int (Nat.toInt32 i1)), .val (.int (Nat.toInt32 i4)), .val (.int (Nat.toInt32 i6)), .unset, .unset, .unset, .unset, .unset, .unset, .unset, .unset, .unset, .unset] []))
                refine own_via (fun _ k => XS.iinc X155.here hx rfl (hb hby at_192) rfl (l' := #[.val (.int p0), .val (.int p1), .val (.int p2), .val (.long p3), .second, .val (.int v1), .val (.int v2), .val (.int v3), .val (.int v4), .val (.int v5), .val (.int v6), .val (.ref b7), .val (.int ((Nat.toInt32 i6) + (1 : Int32))), .val (.int (Nat.toInt32 i1)), .val (.int (Nat.toInt32 i4)), .val (.int (Nat.toInt32 i6)), .unset, .unset, .unset, .unset, .unset, .unset, .unset, .unset, .unset, .unset]) rfl k) ?_
                show own_Go p e below s _ _ _ (T155.setTop (mkF m 195 #[.val (.int p0), .val (.int p1), .val (.int p2), .val (.long p3), .second, .val (.int v1), .val (.int v2), .val (.int v3), .val (.int v4), .val (.int v5), .val (.int v6), .val (.ref b7), .val (.int ((Nat.toInt32 i6) + (1 : Int32))), .val (.int (Nat.toInt32 i1)), .val (.int (Nat.toInt32 i4)), .val (.int (Nat.toInt32 i6)), .unset, .unset, .unset, .unset, .unset, .unset, .unset, .unset, .unset, .unset] []))
                rw [own_succ]
                show own_Go p e below s _ _ _ (T155.setTop (mkF m 195 #[.val (.int p0), .val (.int p1), .val (.int p2), .val (.long p3), .second, .val (.int v1), .val (.int v2), .val (.int v3), .val (.int v4), .val (.int v5), .val (.int v6), .val (.ref b7), .val (.int (Nat.toInt32 (i6 + 1))), .val (.int (Nat.toInt32 i1)), .val (.int (Nat.toInt32 i4)), .val (.int (Nat.toInt32 i6)), .unset, .unset, .unset, .unset, .unset, .unset, .unset, .unset, .unset, .unset] []))
                exact jn7 (u6.set i6 (nar .byte (own_bb p1 (4 : Int32)))) (i6 + 1) _ _ _ X155 e155 N155 Z155 V155 ((if_pos hc153).symm) ((if_pos hc153).symm) (by rw [List.length_set]; exact hl7) (by omega)
              · refine own_via (fun _ k => XS.ifYes X18.here hx rfl (pc0 := 179) (pc' := 195) rfl (hb hby at_179) rfl (Jvm.Free.XT.i0_le_t hc153) (by decide) (by decide) k) ?_
                show own_Go p e below s _ _ _ (T18.setTop (mkF m 195 #[.val (.int p0), .val (.int p1), .val (.int p2), .val (.long p3), .second, .val (.int v1), .val (.int v2), .val (.int v3), .val (.int v4), .val (.int v5), .val (.int v6), .val (.ref b7), .val (.int (Nat.toInt32 i6)), .val (.int (Nat.toInt32 i1)), .val (.int (Nat.toInt32 i4)), .val (.int (Nat.toInt32 i6)), .unset, .unset, .unset, .unset, .unset, .unset, .unset, .unset, .unset, .unset] []))
                exact jn7 u6 i6 _ _ _ X18 e18 N18 Z18 F19 ((if_neg hc153).symm) ((if_neg hc153).symm) (hl7) (by omega)
            show own_Go p e below s _ _ _ (T16.setTop (mkF m 154 #[.val (.int p0), .val (.int p1), .val (.int p2), .val (.long p3), .second, .val (.int v1), .val (.int v2), .val (.int v3), .val (.int v4), .val (.int v5), .val (.int v6), .val (.ref b7), .val (.int (Nat.toInt32 i5)), .val (.int (Nat.toInt32 i1)), .val (.int (Nat.toInt32 i4)), .unset, .unset, .unset, .unset, .unset, .unset, .unset, .unset, .unset, .unset, .unset] []))
            refine own_via (fun _ k => XS.iload X16.here hx rfl (hb hby at_154) rfl k) ?_
            show own_Go p e below s _ _ _ (T16.setTop (mkF m 156 #[.val (.int p0), .val (.int p1), .val (.int p2), .val (.long p3), .second, .val (.int v1), .val (.int v2), .val (.int v3), .val (.int v4), .val (.int v5), .val (.int v6), .val (.ref b7), .val (.int (Nat.toInt32 i5)), .val (.int (Nat.toInt32 i1)), .val (.int (Nat.toInt32 i4)), .unset, .unset, .unset, .unset, .unset, .unset, .unset, .unset, .unset, .unset, .unset] [(.int v3)]))
            refine own_via (fun _ k => XS.iconst X16.here hx rfl (hb hby at_156) k) ?_
            show own_Go p e below s _ _ _ (T16.setTop (mkF m 157 #[.val (.int p0), .val (.int p1), .val (.int p2), .val (.long p3), .second, .val (.int v1), .val (.int v2), .val (.int v3), .val (.int v4), .val (.int v5), .val (.int v6), .val (.ref b7), .val (.int (Nat.toInt32 i5)), .val (.int (Nat.toInt32 i1)), .val (.int (Nat.toInt32 i4)), .unset, .unset, .unset, .unset, .unset, .unset, .unset, .unset, .unset, .unset, .unset] [(.int (1 : Int32)), (.int v3)]))
            by_cases hc156 : (1 : Int32) < v3
            · refine own_via (fun _ k => XS.icmpNo X16.here hx rfl (hb hby at_157) rfl (Jvm.Free.XT.ii_le_f hc156) k) ?_
              show own_Go p e below s _ _ _ (T16.setTop (mkF m 160 #[.val (.int p0), .val (.int p1), .val (.int p2), .val (.long p3), .second, .val (.int v1), .val (.int v2), .val (.int v3), .val (.int v4), .val (.int v5), .val (.int v6), .val (.ref b7), .val (.int (Nat.toInt32 i5)), .val (.int (Nat.toInt32 i1)), .val (.int (Nat.toInt32 i4)), .unset, .unset, .unset, .unset, .unset, .unset, .unset, .unset, .unset, .unset, .unset] []))
              refine own_via (fun _ k => XS.aload X16.here hx rfl (hb hby at_160) rfl rfl k) ?_
              show own_Go p e below s _ _ _ (T16.setTop (mkF m 162 #[.val (.int p0), .val (.int p1), .val (.int p2), .val (.long p3), .second, .val (.int v1), .val (.int v2), .val (.int v3), .val (.int v4), .val (.int v5), .val (.int v6), .val (.ref b7), .val (.int (Nat.toInt32 i5)), .val (.int (Nat.toInt32 i1)), .val (.int (Nat.toInt32 i4)), .unset, .unset, .unset, .unset, .unset, .unset, .unset, .unset, .unset, .unset, .unset] [(.ref b7)]))
              refine own_via (fun _ k => XS.iload X16.here hx rfl (hb hby at_162) rfl k) ?_
              show own_Go p e below s _ _ _ (T16.setTop (mkF m 164 #[.val (.int p0), .val (.int p1), .val (.int p2), .val (.long p3), .second, .val (.int v1), .val (.int v2), .val (.int v3), .val (.int v4), .val (.int v5), .val (.int v6), .val (.ref b7), .val (.int (Nat.toInt32 i5)), .val (.int (Nat.toInt32 i1)), .val (.int (Nat.toInt32 i4)), .unset, .unset, .unset, .unset, .unset, .unset, .unset, .unset, .unset, .unset, .unset] [(.int (Nat.toInt32 i5)), (.ref b7)]))
              refine own_via (fun _ k => XS.iloadN X16.here hx rfl (hb hby at_164) rfl k) ?_
              show own_Go p e below s _ _ _ (T16.setTop (mkF m 165 #[.val (.int p0), .val (.int p1), .val (.int p2), .val (.long p3), .second, .val (.int v1), .val (.int v2), .val (.int v3), .val (.int v4), .val (.int v5), .val (.int v6), .val (.ref b7), .val (.int (Nat.toInt32 i5)), .val (.int (Nat.toInt32 i1)), .val (.int (Nat.toInt32 i4)), .unset, .unset, .unset, .unset, .unset, .unset, .unset, .unset, .unset, .unset, .unset] [(.int p2), (.int (Nat.toInt32 i5)), (.ref b7)]))
              refine own_via (fun _ k => XS.iconst X16.here hx rfl (hb hby at_165) k) ?_
              show own_Go p e below s _ _ _ (T16.setTop (mkF m 166 #[.val (.int p0), .val (.int p1), .val (.int p2), .val (.long p3), .second, .val (.int v1), .val (.int v2), .val (.int v3), .val (.int v4), .val (.int v5), .val (.int v6), .val (.ref b7), .val (.int (Nat.toInt32 i5)), .val (.int (Nat.toInt32 i1)), .val (.int (Nat.toInt32 i4)), .unset, .unset, .unset, .unset, .unset, .unset, .unset, .unset, .unset, .unset, .unset] [(.int (1 : Int32)), (.int p2), (.int (Nat.toInt32 i5)), (.ref b7)]))
              obtain ⟨_, _, ⟨T157, L157, k157, n157⟩, -, X157, ⟨Lc157, hQ157, l157, y157, z157⟩, st157⟩ := Jvm.LawKit.callS X16 hx (y := (⟨"com/example/enlace/enlace/graph/LineFieldsResetPinLaw", "fieldByte", "(II)B"⟩ : MethodName)) hown (mvT hZ (hw _ (List.mem_of_getElem? (i := 59) rfl))) (mvT hZ (hw _ (List.mem_of_getElem? (i := 60) rfl))) (mvT hZ (hw _ (List.mem_of_getElem? (i := 51) rfl))) (mvT hZ (hw _ (List.mem_of_getElem? (i := 61) rfl))) (by decide) (backOf (W := 2) (rm12 l Z a0 hw [] p2 (1 : Int32) h16 n0 Z16 ) hZ (hw _ (List.mem_of_getElem? (i := 61) rfl)) (hw _ (List.mem_of_getElem? (i := 51) rfl)) (by decide) (by decide)) (g := (mkF m 166 #[.val (.int p0), .val (.int p1), .val (.int p2), .val (.long p3), .second, .val (.int v1), .val (.int v2), .val (.int v3), .val (.int v4), .val (.int v5), .val (.int v6), .val (.ref b7), .val (.int (Nat.toInt32 i5)), .val (.int (Nat.toInt32 i1)), .val (.int (Nat.toInt32 i4)), .unset, .unset, .unset, .unset, .unset, .unset, .unset, .unset, .unset, .unset, .unset] [(.int (1 : Int32)), (.int p2), (.int (Nat.toInt32 i5)), (.ref b7)])) rfl (by rw [hml]; rfl) (argsL := [(.int p2), (.int (1 : Int32))]) (rest := [(.int (Nat.toInt32 i5)), (.ref b7)]) (lenOf pd_8 rfl) rfl (by show 2 * 0 + _ ≤ _; exact Nat.le_of_eq rfl) (hb hby at_166) (fun _ _ => ⟨rfl, e16, (by decide : 1 + 0 ≤ _), (by decide : 16 + 0 ≤ _)⟩)
              dsimp only [Pt.U, Pt.locs, Pt.cells, Pt.slots] at X157 l157 y157 z157 st157 hQ157
              subst l157 y157 z157
              obtain ⟨rfl, N157q, e157⟩ := hQ157
              have N157 := Fr.app N16 N157q
              refine own_via st157 ?_
              show own_Go p e below s _ _ _ (T157.setTop (mkF m 169 #[.val (.int p0), .val (.int p1), .val (.int p2), .val (.long p3), .second, .val (.int v1), .val (.int v2), .val (.int v3), .val (.int v4), .val (.int v5), .val (.int v6), .val (.ref b7), .val (.int (Nat.toInt32 i5)), .val (.int (Nat.toInt32 i1)), .val (.int (Nat.toInt32 i4)), .unset, .unset, .unset, .unset, .unset, .unset, .unset, .unset, .unset, .unset, .unset] [(.int (own_fb p2 (1 : Int32))), (.int (Nat.toInt32 i5)), (.ref b7)]))
              obtain ⟨cl158, Ar158, q158, S158, M158, H158, G158⟩ := (id F17)
              have hin158 : ¬ ((Nat.toInt32 i5) < 0 ∨ cl158.slots.size ≤ ((Nat.toInt32 i5)).toNatClampNeg) := inb_of S158 (own_inb (by omega) (by show ((i5 : Nat) : Int) < 16; omega))
              obtain ⟨T158, h158, X158, e158, W158, st158⟩ := stB X157 hx hZ e157 Ar158 (j := (Nat.toInt32 i5)) hin158 (g := (mkF m 169 #[.val (.int p0), .val (.int p1), .val (.int p2), .val (.long p3), .second, .val (.int v1), .val (.int v2), .val (.int v3), .val (.int v4), .val (.int v5), .val (.int v6), .val (.ref b7), .val (.int (Nat.toInt32 i5)), .val (.int (Nat.toInt32 i1)), .val (.int (Nat.toInt32 i4)), .unset, .unset, .unset, .unset, .unset, .unset, .unset, .unset, .unset, .unset, .unset] [(.int (own_fb p2 (1 : Int32))), (.int (Nat.toInt32 i5)), (.ref b7)])) rfl rfl (hb hby at_169)
              have V158 : Arv Z h158 b7 k7 .byte (16 : Int32) ((u5.set i5 (nar .byte (own_fb p2 (1 : Int32)))).map Value.int) (.int (0 : Int32)) := (by rw [List.map_set]; exact Arv.set Ar158 q158 S158 M158 H158 G158 (fits_nar_byte _) W158 i5 (own_nc (by omega)) (by rw [List.length_map, hl6]; omega))
              have N158 := Fr.snoc X158 N157 g_b7
              have Z158 : n0 ≤ h158.size := Nat.le_trans Z16 (Keep.of_wr W158).1
              refine own_via st158 ?_
              show own_Go p e below s _ _ _ (T158.setTop (mkF m 170 #[.val (.int p0), .val (.int p1), .val (.int p2), .val (.long p3), .second, .val (.int v1), .val (.int v2), .val (.int v3), .val (.int v4), .val (.int v5), .val (.int v6), .val (.ref b7), .val (.int (Nat.toInt32 i5)), .val (.int (Nat.toInt32 i1)), .val (.int (Nat.toInt32 i4)), .unset, .unset, .unset, .unset, .unset, .unset, .unset, .unset, .unset, .unset, .unset] []))
              refine own_via (fun _ k => XS.iinc X158.here hx rfl (hb hby at_170) rfl (l' := #[.val (.int p0), .val (.int p1), .val (.int p2), .val (.long p3), .second, .val (.int v1), .val (.int v2), .val (.int v3), .val (.int v4), .val (.int v5), .val (.int v6), .val (.ref b7), .val (.int ((Nat.toInt32 i5) + (1 : Int32))), .val (.int (Nat.toInt32 i1)), .val (.int (Nat.toInt32 i4)), .unset, .unset, .unset, .unset, .unset, .unset, .unset, .unset, .unset, .unset, .unset]) rfl k) ?_
              show own_Go p e below s _ _ _ (T158.setTop (mkF m 173 #[.val (.int p0), .val (.int p1), .val (.int p2), .val (.long p3), .second, .val (.int v1), .val (.int v2), .val (.int v3), .val (.int v4), .val (.int v5), .val (.int v6), .val (.ref b7), .val (.int ((Nat.toInt32 i5) + (1 : Int32))), .val (.int (Nat.toInt32 i1)), .val (.int (Nat.toInt32 i4)), .unset, .unset, .unset, .unset, .unset, .unset, .unset, .unset, .unset, .unset, .unset] []))
              rw [own_succ]
              show own_Go p e below s _ _ _ (T158.setTop (mkF m 173 #[.val (.int p0), .val (.int p1), .val (.int p2), .val (.long p3), .second, .val (.int v1), .val (.int v2), .val (.int v3), .val (.int v4), .val (.int v5), .val (.int v6), .val (.ref b7), .val (.int (Nat.toInt32 (i5 + 1))), .val (.int (Nat.toInt32 i1)), .val (.int (Nat.toInt32 i4)), .unset, .unset, .unset, .unset, .unset, .unset, .unset, .unset, .unset, .unset, .unset] []))
              exact jn6 (u5.set i5 (nar .byte (own_fb p2 (1 : Int32)))) (i5 + 1) _ _ _ X158 e158 N158 Z158 V158 ((if_pos hc156).symm) ((if_pos hc156).symm) (by rw [List.length_set]; exact hl6) (by omega)
            · refine own_via (fun _ k => XS.icmpYes X16.here hx rfl (pc0 := 157) (pc' := 173) rfl (hb hby at_157) rfl (Jvm.Free.XT.ii_le_t hc156) (by decide) (by decide) k) ?_
              show own_Go p e below s _ _ _ (T16.setTop (mkF m 173 #[.val (.int p0), .val (.int p1), .val (.int p2), .val (.long p3), .second, .val (.int v1), .val (.int v2), .val (.int v3), .val (.int v4), .val (.int v5), .val (.int v6), .val (.ref b7), .val (.int (Nat.toInt32 i5)), .val (.int (Nat.toInt32 i1)), .val (.int (Nat.toInt32 i4)), .unset, .unset, .unset, .unset, .unset, .unset, .unset, .unset, .unset, .unset, .unset] []))
              exact jn6 u5 i5 _ _ _ X16 e16 N16 Z16 F17 ((if_neg hc156).symm) ((if_neg hc156).symm) (hl6) (by omega)
          show own_Go p e below s _ _ _ (T14.setTop (mkF m 136 #[.val (.int p0), .val (.int p1), .val (.int p2), .val (.long p3), .second, .val (.int v1), .val (.int v2), .val (.int v3), .val (.int v4), .val (.int v5), .val (.int v6), .val (.ref b7), .val (.int (Nat.toInt32 i4)), .val (.int (Nat.toInt32 i1)), .val (.int (Nat.toInt32 i4)), .unset, .unset, .unset, .unset, .unset, .unset, .unset, .unset, .unset, .unset, .unset] []))
          refine own_via (fun _ k => XS.iload X14.here hx rfl (hb hby at_136) rfl k) ?_
          show own_Go p e below s _ _ _ (T14.setTop (mkF m 138 #[.val (.int p0), .val (.int p1), .val (.int p2), .val (.long p3), .second, .val (.int v1), .val (.int v2), .val (.int v3), .val (.int v4), .val (.int v5), .val (.int v6), .val (.ref b7), .val (.int (Nat.toInt32 i4)), .val (.int (Nat.toInt32 i1)), .val (.int (Nat.toInt32 i4)), .unset, .unset, .unset, .unset, .unset, .unset, .unset, .unset, .unset, .unset, .unset] [(.int v3)]))
          by_cases hc159 : (0 : Int32) < v3
          · refine own_via (fun _ k => XS.ifNo X14.here hx rfl (hb hby at_138) rfl (Jvm.Free.XT.i0_le_f hc159) k) ?_
            show own_Go p e below s _ _ _ (T14.setTop (mkF m 141 #[.val (.int p0), .val (.int p1), .val (.int p2), .val (.long p3), .second, .val (.int v1), .val (.int v2), .val (.int v3), .val (.int v4), .val (.int v5), .val (.int v6), .val (.ref b7), .val (.int (Nat.toInt32 i4)), .val (.int (Nat.toInt32 i1)), .val (.int (Nat.toInt32 i4)), .unset, .unset, .unset, .unset, .unset, .unset, .unset, .unset, .unset, .unset, .unset] []))
            refine own_via (fun _ k => XS.aload X14.here hx rfl (hb hby at_141) rfl rfl k) ?_
            show own_Go p e below s _ _ _ (T14.setTop (mkF m 143 #[.val (.int p0), .val (.int p1), .val (.int p2), .val (.long p3), .second, .val (.int v1), .val (.int v2), .val (.int v3), .val (.int v4), .val (.int v5), .val (.int v6), .val (.ref b7), .val (.int (Nat.toInt32 i4)), .val (.int (Nat.toInt32 i1)), .val (.int (Nat.toInt32 i4)), .unset, .unset, .unset, .unset, .unset, .unset, .unset, .unset, .unset, .unset, .unset] [(.ref b7)]))
            refine own_via (fun _ k => XS.iload X14.here hx rfl (hb hby at_143) rfl k) ?_
            show own_Go p e below s _ _ _ (T14.setTop (mkF m 145 #[.val (.int p0), .val (.int p1), .val (.int p2), .val (.long p3), .second, .val (.int v1), .val (.int v2), .val (.int v3), .val (.int v4), .val (.int v5), .val (.int v6), .val (.ref b7), .val (.int (Nat.toInt32 i4)), .val (.int (Nat.toInt32 i1)), .val (.int (Nat.toInt32 i4)), .unset, .unset, .unset, .unset, .unset, .unset, .unset, .unset, .unset, .unset, .unset] [(.int (Nat.toInt32 i4)), (.ref b7)]))
            refine own_via (fun _ k => XS.iloadN X14.here hx rfl (hb hby at_145) rfl k) ?_
            show own_Go p e below s _ _ _ (T14.setTop (mkF m 146 #[.val (.int p0), .val (.int p1), .val (.int p2), .val (.long p3), .second, .val (.int v1), .val (.int v2), .val (.int v3), .val (.int v4), .val (.int v5), .val (.int v6), .val (.ref b7), .val (.int (Nat.toInt32 i4)), .val (.int (Nat.toInt32 i1)), .val (.int (Nat.toInt32 i4)), .unset, .unset, .unset, .unset, .unset, .unset, .unset, .unset, .unset, .unset, .unset] [(.int p2), (.int (Nat.toInt32 i4)), (.ref b7)]))
            refine own_via (fun _ k => XS.iconst X14.here hx rfl (hb hby at_146) k) ?_
            show own_Go p e below s _ _ _ (T14.setTop (mkF m 147 #[.val (.int p0), .val (.int p1), .val (.int p2), .val (.long p3), .second, .val (.int v1), .val (.int v2), .val (.int v3), .val (.int v4), .val (.int v5), .val (.int v6), .val (.ref b7), .val (.int (Nat.toInt32 i4)), .val (.int (Nat.toInt32 i1)), .val (.int (Nat.toInt32 i4)), .unset, .unset, .unset, .unset, .unset, .unset, .unset, .unset, .unset, .unset, .unset] [(.int (0 : Int32)), (.int p2), (.int (Nat.toInt32 i4)), (.ref b7)]))
            obtain ⟨_, _, ⟨T160, L160, k160, n160⟩, -, X160, ⟨Lc160, hQ160, l160, y160, z160⟩, st160⟩ := Jvm.LawKit.callS X14 hx (y := (⟨"com/example/enlace/enlace/graph/LineFieldsResetPinLaw", "fieldByte", "(II)B"⟩ : MethodName)) hown (mvT hZ (hw _ (List.mem_of_getElem? (i := 59) rfl))) (mvT hZ (hw _ (List.mem_of_getElem? (i := 60) rfl))) (mvT hZ (hw _ (List.mem_of_getElem? (i := 51) rfl))) (mvT hZ (hw _ (List.mem_of_getElem? (i := 61) rfl))) (by decide) (backOf (W := 2) (rm12 l Z a0 hw [] p2 (0 : Int32) h14 n0 Z14 ) hZ (hw _ (List.mem_of_getElem? (i := 61) rfl)) (hw _ (List.mem_of_getElem? (i := 51) rfl)) (by decide) (by decide)) (g := (mkF m 147 #[.val (.int p0), .val (.int p1), .val (.int p2), .val (.long p3), .second, .val (.int v1), .val (.int v2), .val (.int v3), .val (.int v4), .val (.int v5), .val (.int v6), .val (.ref b7), .val (.int (Nat.toInt32 i4)), .val (.int (Nat.toInt32 i1)), .val (.int (Nat.toInt32 i4)), .unset, .unset, .unset, .unset, .unset, .unset, .unset, .unset, .unset, .unset, .unset] [(.int (0 : Int32)), (.int p2), (.int (Nat.toInt32 i4)), (.ref b7)])) rfl (by rw [hml]; rfl) (argsL := [(.int p2), (.int (0 : Int32))]) (rest := [(.int (Nat.toInt32 i4)), (.ref b7)]) (lenOf pd_8 rfl) rfl (by show 2 * 0 + _ ≤ _; exact Nat.le_of_eq rfl) (hb hby at_147) (fun _ _ => ⟨rfl, e14, (by decide : 1 + 0 ≤ _), (by decide : 16 + 0 ≤ _)⟩)
            dsimp only [Pt.U, Pt.locs, Pt.cells, Pt.slots] at X160 l160 y160 z160 st160 hQ160
            subst l160 y160 z160
            obtain ⟨rfl, N160q, e160⟩ := hQ160
            have N160 := Fr.app N14 N160q
            refine own_via st160 ?_
            show own_Go p e below s _ _ _ (T160.setTop (mkF m 150 #[.val (.int p0), .val (.int p1), .val (.int p2), .val (.long p3), .second, .val (.int v1), .val (.int v2), .val (.int v3), .val (.int v4), .val (.int v5), .val (.int v6), .val (.ref b7), .val (.int (Nat.toInt32 i4)), .val (.int (Nat.toInt32 i1)), .val (.int (Nat.toInt32 i4)), .unset, .unset, .unset, .unset, .unset, .unset, .unset, .unset, .unset, .unset, .unset] [(.int (own_fb p2 (0 : Int32))), (.int (Nat.toInt32 i4)), (.ref b7)]))
            obtain ⟨cl161, Ar161, q161, S161, M161, H161, G161⟩ := (id F15)
            have hin161 : ¬ ((Nat.toInt32 i4) < 0 ∨ cl161.slots.size ≤ ((Nat.toInt32 i4)).toNatClampNeg) := inb_of S161 (own_inb (by omega) (by show ((i4 : Nat) : Int) < 16; omega))
            obtain ⟨T161, h161, X161, e161, W161, st161⟩ := stB X160 hx hZ e160 Ar161 (j := (Nat.toInt32 i4)) hin161 (g := (mkF m 150 #[.val (.int p0), .val (.int p1), .val (.int p2), .val (.long p3), .second, .val (.int v1), .val (.int v2), .val (.int v3), .val (.int v4), .val (.int v5), .val (.int v6), .val (.ref b7), .val (.int (Nat.toInt32 i4)), .val (.int (Nat.toInt32 i1)), .val (.int (Nat.toInt32 i4)), .unset, .unset, .unset, .unset, .unset, .unset, .unset, .unset, .unset, .unset, .unset] [(.int (own_fb p2 (0 : Int32))), (.int (Nat.toInt32 i4)), (.ref b7)])) rfl rfl (hb hby at_150)
            have V161 : Arv Z h161 b7 k7 .byte (16 : Int32) ((u4.set i4 (nar .byte (own_fb p2 (0 : Int32)))).map Value.int) (.int (0 : Int32)) := (by rw [List.map_set]; exact Arv.set Ar161 q161 S161 M161 H161 G161 (fits_nar_byte _) W161 i4 (own_nc (by omega)) (by rw [List.length_map, hl5]; omega))
            have N161 := Fr.snoc X161 N160 g_b7
            have Z161 : n0 ≤ h161.size := Nat.le_trans Z14 (Keep.of_wr W161).1
            refine own_via st161 ?_
            show own_Go p e below s _ _ _ (T161.setTop (mkF m 151 #[.val (.int p0), .val (.int p1), .val (.int p2), .val (.long p3), .second, .val (.int v1), .val (.int v2), .val (.int v3), .val (.int v4), .val (.int v5), .val (.int v6), .val (.ref b7), .val (.int (Nat.toInt32 i4)), .val (.int (Nat.toInt32 i1)), .val (.int (Nat.toInt32 i4)), .unset, .unset, .unset, .unset, .unset, .unset, .unset, .unset, .unset, .unset, .unset] []))
            refine own_via (fun _ k => XS.iinc X161.here hx rfl (hb hby at_151) rfl (l' := #[.val (.int p0), .val (.int p1), .val (.int p2), .val (.long p3), .second, .val (.int v1), .val (.int v2), .val (.int v3), .val (.int v4), .val (.int v5), .val (.int v6), .val (.ref b7), .val (.int ((Nat.toInt32 i4) + (1 : Int32))), .val (.int (Nat.toInt32 i1)), .val (.int (Nat.toInt32 i4)), .unset, .unset, .unset, .unset, .unset, .unset, .unset, .unset, .unset, .unset, .unset]) rfl k) ?_
            show own_Go p e below s _ _ _ (T161.setTop (mkF m 154 #[.val (.int p0), .val (.int p1), .val (.int p2), .val (.long p3), .second, .val (.int v1), .val (.int v2), .val (.int v3), .val (.int v4), .val (.int v5), .val (.int v6), .val (.ref b7), .val (.int ((Nat.toInt32 i4) + (1 : Int32))), .val (.int (Nat.toInt32 i1)), .val (.int (Nat.toInt32 i4)), .unset, .unset, .unset, .unset, .unset, .unset, .unset, .unset, .unset, .unset, .unset] []))
            rw [own_succ]
            show own_Go p e below s _ _ _ (T161.setTop (mkF m 154 #[.val (.int p0), .val (.int p1), .val (.int p2), .val (.long p3), .second, .val (.int v1), .val (.int v2), .val (.int v3), .val (.int v4), .val (.int v5), .val (.int v6), .val (.ref b7), .val (.int (Nat.toInt32 (i4 + 1))), .val (.int (Nat.toInt32 i1)), .val (.int (Nat.toInt32 i4)), .unset, .unset, .unset, .unset, .unset, .unset, .unset, .unset, .unset, .unset, .unset] []))
            exact jn5 (u4.set i4 (nar .byte (own_fb p2 (0 : Int32)))) (i4 + 1) _ _ _ X161 e161 N161 Z161 V161 ((if_pos hc159).symm) ((if_pos hc159).symm) (by rw [List.length_set]; exact hl5) (by omega)
          · refine own_via (fun _ k => XS.ifYes X14.here hx rfl (pc0 := 138) (pc' := 154) rfl (hb hby at_138) rfl (Jvm.Free.XT.i0_le_t hc159) (by decide) (by decide) k) ?_
            show own_Go p e below s _ _ _ (T14.setTop (mkF m 154 #[.val (.int p0), .val (.int p1), .val (.int p2), .val (.long p3), .second, .val (.int v1), .val (.int v2), .val (.int v3), .val (.int v4), .val (.int v5), .val (.int v6), .val (.ref b7), .val (.int (Nat.toInt32 i4)), .val (.int (Nat.toInt32 i1)), .val (.int (Nat.toInt32 i4)), .unset, .unset, .unset, .unset, .unset, .unset, .unset, .unset, .unset, .unset, .unset] []))
            exact jn5 u4 i4 _ _ _ X14 e14 N14 Z14 F15 ((if_neg hc159).symm) ((if_neg hc159).symm) (hl5) (by omega)
        show own_Go p e below s _ _ _ (T12.setTop (mkF m 113 #[.val (.int p0), .val (.int p1), .val (.int p2), .val (.long p3), .second, .val (.int v1), .val (.int v2), .val (.int v3), .val (.int v4), .val (.int v5), .val (.int v6), .val (.ref b7), .val (.int (Nat.toInt32 i3)), .val (.int (Nat.toInt32 i1)), .unset, .unset, .unset, .unset, .unset, .unset, .unset, .unset, .unset, .unset, .unset, .unset] []))
        refine own_via (fun _ k => XS.iload X12.here hx rfl (hb hby at_113) rfl k) ?_
        show own_Go p e below s _ _ _ (T12.setTop (mkF m 115 #[.val (.int p0), .val (.int p1), .val (.int p2), .val (.long p3), .second, .val (.int v1), .val (.int v2), .val (.int v3), .val (.int v4), .val (.int v5), .val (.int v6), .val (.ref b7), .val (.int (Nat.toInt32 i3)), .val (.int (Nat.toInt32 i1)), .unset, .unset, .unset, .unset, .unset, .unset, .unset, .unset, .unset, .unset, .unset, .unset] [(.int v2)]))
        refine own_via (fun _ k => XS.iconst X12.here hx rfl (hb hby at_115) k) ?_
        show own_Go p e below s _ _ _ (T12.setTop (mkF m 116 #[.val (.int p0), .val (.int p1), .val (.int p2), .val (.long p3), .second, .val (.int v1), .val (.int v2), .val (.int v3), .val (.int v4), .val (.int v5), .val (.int v6), .val (.ref b7), .val (.int (Nat.toInt32 i3)), .val (.int (Nat.toInt32 i1)), .unset, .unset, .unset, .unset, .unset, .unset, .unset, .unset, .unset, .unset, .unset, .unset] [(.int (2 : Int32)), (.int v2)]))
        by_cases hc162 : (2 : Int32) < v2
        · refine own_via (fun _ k => XS.icmpNo X12.here hx rfl (hb hby at_116) rfl (Jvm.Free.XT.ii_le_f hc162) k) ?_
          show own_Go p e below s _ _ _ (T12.setTop (mkF m 119 #[.val (.int p0), .val (.int p1), .val (.int p2), .val (.long p3), .second, .val (.int v1), .val (.int v2), .val (.int v3), .val (.int v4), .val (.int v5), .val (.int v6), .val (.ref b7), .val (.int (Nat.toInt32 i3)), .val (.int (Nat.toInt32 i1)), .unset, .unset, .unset, .unset, .unset, .unset, .unset, .unset, .unset, .unset, .unset, .unset] []))
          refine own_via (fun _ k => XS.aload X12.here hx rfl (hb hby at_119) rfl rfl k) ?_
          show own_Go p e below s _ _ _ (T12.setTop (mkF m 121 #[.val (.int p0), .val (.int p1), .val (.int p2), .val (.long p3), .second, .val (.int v1), .val (.int v2), .val (.int v3), .val (.int v4), .val (.int v5), .val (.int v6), .val (.ref b7), .val (.int (Nat.toInt32 i3)), .val (.int (Nat.toInt32 i1)), .unset, .unset, .unset, .unset, .unset, .unset, .unset, .unset, .unset, .unset, .unset, .unset] [(.ref b7)]))
          refine own_via (fun _ k => XS.iload X12.here hx rfl (hb hby at_121) rfl k) ?_
          show own_Go p e below s _ _ _ (T12.setTop (mkF m 123 #[.val (.int p0), .val (.int p1), .val (.int p2), .val (.long p3), .second, .val (.int v1), .val (.int v2), .val (.int v3), .val (.int v4), .val (.int v5), .val (.int v6), .val (.ref b7), .val (.int (Nat.toInt32 i3)), .val (.int (Nat.toInt32 i1)), .unset, .unset, .unset, .unset, .unset, .unset, .unset, .unset, .unset, .unset, .unset, .unset] [(.int (Nat.toInt32 i3)), (.ref b7)]))
          refine own_via (fun _ k => XS.iloadN X12.here hx rfl (hb hby at_123) rfl k) ?_
          show own_Go p e below s _ _ _ (T12.setTop (mkF m 124 #[.val (.int p0), .val (.int p1), .val (.int p2), .val (.long p3), .second, .val (.int v1), .val (.int v2), .val (.int v3), .val (.int v4), .val (.int v5), .val (.int v6), .val (.ref b7), .val (.int (Nat.toInt32 i3)), .val (.int (Nat.toInt32 i1)), .unset, .unset, .unset, .unset, .unset, .unset, .unset, .unset, .unset, .unset, .unset, .unset] [(.int p1), (.int (Nat.toInt32 i3)), (.ref b7)]))
          refine own_via (fun _ k => XS.iconst X12.here hx rfl (hb hby at_124) k) ?_
          show own_Go p e below s _ _ _ (T12.setTop (mkF m 125 #[.val (.int p0), .val (.int p1), .val (.int p2), .val (.long p3), .second, .val (.int v1), .val (.int v2), .val (.int v3), .val (.int v4), .val (.int v5), .val (.int v6), .val (.ref b7), .val (.int (Nat.toInt32 i3)), .val (.int (Nat.toInt32 i1)), .unset, .unset, .unset, .unset, .unset, .unset, .unset, .unset, .unset, .unset, .unset, .unset] [(.int (2 : Int32)), (.int p1), (.int (Nat.toInt32 i3)), (.ref b7)]))
          obtain ⟨_, _, ⟨T163, L163, k163, n163⟩, -, X163, ⟨Lc163, hQ163, l163, y163, z163⟩, st163⟩ := Jvm.LawKit.callS X12 hx (y := (⟨"com/example/enlace/enlace/graph/LineFieldsResetPinLaw", "blankByte", "(II)B"⟩ : MethodName)) hown (mvT hZ (hw _ (List.mem_of_getElem? (i := 49) rfl))) (mvT hZ (hw _ (List.mem_of_getElem? (i := 50) rfl))) (mvT hZ (hw _ (List.mem_of_getElem? (i := 51) rfl))) (mvT hZ (hw _ (List.mem_of_getElem? (i := 52) rfl))) (by decide) (backOf (W := 2) (rm9 l Z a0 hw [] p1 (2 : Int32) h12 n0 Z12 ) hZ (hw _ (List.mem_of_getElem? (i := 52) rfl)) (hw _ (List.mem_of_getElem? (i := 51) rfl)) (by decide) (by decide)) (g := (mkF m 125 #[.val (.int p0), .val (.int p1), .val (.int p2), .val (.long p3), .second, .val (.int v1), .val (.int v2), .val (.int v3), .val (.int v4), .val (.int v5), .val (.int v6), .val (.ref b7), .val (.int (Nat.toInt32 i3)), .val (.int (Nat.toInt32 i1)), .unset, .unset, .unset, .unset, .unset, .unset, .unset, .unset, .unset, .unset, .unset, .unset] [(.int (2 : Int32)), (.int p1), (.int (Nat.toInt32 i3)), (.ref b7)])) rfl (by rw [hml]; rfl) (argsL := [(.int p1), (.int (2 : Int32))]) (rest := [(.int (Nat.toInt32 i3)), (.ref b7)]) (lenOf pd_8 rfl) rfl (by show 2 * 0 + _ ≤ _; exact Nat.le_of_eq rfl) (hb hby at_125) (fun _ _ => ⟨rfl, e12, (by decide : 1 + 0 ≤ _), (by decide : 16 + 0 ≤ _)⟩)
          dsimp only [Pt.U, Pt.locs, Pt.cells, Pt.slots] at X163 l163 y163 z163 st163 hQ163
          subst l163 y163 z163
          obtain ⟨rfl, N163q, e163⟩ := hQ163
          have N163 := Fr.app N12 N163q
          refine own_via st163 ?_
          show own_Go p e below s _ _ _ (T163.setTop (mkF m 128 #[.val (.int p0), .val (.int p1), .val (.int p2), .val (.long p3), .second, .val (.int v1), .val (.int v2), .val (.int v3), .val (.int v4), .val (.int v5), .val (.int v6), .val (.ref b7), .val (.int (Nat.toInt32 i3)), .val (.int (Nat.toInt32 i1)), .unset, .unset, .unset, .unset, .unset, .unset, .unset, .unset, .unset, .unset, .unset, .unset] [(.int (own_bb p1 (2 : Int32))), (.int (Nat.toInt32 i3)), (.ref b7)]))
          obtain ⟨cl164, Ar164, q164, S164, M164, H164, G164⟩ := (id F13)
          have hin164 : ¬ ((Nat.toInt32 i3) < 0 ∨ cl164.slots.size ≤ ((Nat.toInt32 i3)).toNatClampNeg) := inb_of S164 (own_inb (by omega) (by show ((i3 : Nat) : Int) < 16; omega))
          obtain ⟨T164, h164, X164, e164, W164, st164⟩ := stB X163 hx hZ e163 Ar164 (j := (Nat.toInt32 i3)) hin164 (g := (mkF m 128 #[.val (.int p0), .val (.int p1), .val (.int p2), .val (.long p3), .second, .val (.int v1), .val (.int v2), .val (.int v3), .val (.int v4), .val (.int v5), .val (.int v6), .val (.ref b7), .val (.int (Nat.toInt32 i3)), .val (.int (Nat.toInt32 i1)), .unset, .unset, .unset, .unset, .unset, .unset, .unset, .unset, .unset, .unset, .unset, .unset] [(.int (own_bb p1 (2 : Int32))), (.int (Nat.toInt32 i3)), (.ref b7)])) rfl rfl (hb hby at_128)
          have V164 : Arv Z h164 b7 k7 .byte (16 : Int32) ((u3.set i3 (nar .byte (own_bb p1 (2 : Int32)))).map Value.int) (.int (0 : Int32)) := (by rw [List.map_set]; exact Arv.set Ar164 q164 S164 M164 H164 G164 (fits_nar_byte _) W164 i3 (own_nc (by omega)) (by rw [List.length_map, hl4]; omega))
          have N164 := Fr.snoc X164 N163 g_b7
          have Z164 : n0 ≤ h164.size := Nat.le_trans Z12 (Keep.of_wr W164).1
          refine own_via st164 ?_
          show own_Go p e below s _ _ _ (T164.setTop (mkF m 129 #[.val (.int p0), .val (.int p1), .val (.int p2), .val (.long p3), .second, .val (.int v1), .val (.int v2), .val (.int v3), .val (.int v4), .val (.int v5), .val (.int v6), .val (.ref b7), .val (.int (Nat.toInt32 i3)), .val (.int (Nat.toInt32 i1)), .unset, .unset, .unset, .unset, .unset, .unset, .unset, .unset, .unset, .unset, .unset, .unset] []))
          refine own_via (fun _ k => XS.iinc X164.here hx rfl (hb hby at_129) rfl (l' := #[.val (.int p0), .val (.int p1), .val (.int p2), .val (.long p3), .second, .val (.int v1), .val (.int v2), .val (.int v3), .val (.int v4), .val (.int v5), .val (.int v6), .val (.ref b7), .val (.int ((Nat.toInt32 i3) + (1 : Int32))), .val (.int (Nat.toInt32 i1)), .unset, .unset, .unset, .unset, .unset, .unset, .unset, .unset, .unset, .unset, .unset, .unset]) rfl k) ?_
          show own_Go p e below s _ _ _ (T164.setTop (mkF m 132 #[.val (.int p0), .val (.int p1), .val (.int p2), .val (.long p3), .second, .val (.int v1), .val (.int v2), .val (.int v3), .val (.int v4), .val (.int v5), .val (.int v6), .val (.ref b7), .val (.int ((Nat.toInt32 i3) + (1 : Int32))), .val (.int (Nat.toInt32 i1)), .unset, .unset, .unset, .unset, .unset, .unset, .unset, .unset, .unset, .unset, .unset, .unset] []))
          rw [own_succ]
          show own_Go p e below s _ _ _ (T164.setTop (mkF m 132 #[.val (.int p0), .val (.int p1), .val (.int p2), .val (.long p3), .second, .val (.int v1), .val (.int v2), .val (.int v3), .val (.int v4), .val (.int v5), .val (.int v6), .val (.ref b7), .val (.int (Nat.toInt32 (i3 + 1))), .val (.int (Nat.toInt32 i1)), .unset, .unset, .unset, .unset, .unset, .unset, .unset, .unset, .unset, .unset, .unset, .unset] []))
          exact jn4 (u3.set i3 (nar .byte (own_bb p1 (2 : Int32)))) (i3 + 1) _ _ _ X164 e164 N164 Z164 V164 ((if_pos hc162).symm) ((if_pos hc162).symm) (by rw [List.length_set]; exact hl4) (by omega)
        · refine own_via (fun _ k => XS.icmpYes X12.here hx rfl (pc0 := 116) (pc' := 132) rfl (hb hby at_116) rfl (Jvm.Free.XT.ii_le_t hc162) (by decide) (by decide) k) ?_
          show own_Go p e below s _ _ _ (T12.setTop (mkF m 132 #[.val (.int p0), .val (.int p1), .val (.int p2), .val (.long p3), .second, .val (.int v1), .val (.int v2), .val (.int v3), .val (.int v4), .val (.int v5), .val (.int v6), .val (.ref b7), .val (.int (Nat.toInt32 i3)), .val (.int (Nat.toInt32 i1)), .unset, .unset, .unset, .unset, .unset, .unset, .unset, .unset, .unset, .unset, .unset, .unset] []))
          exact jn4 u3 i3 _ _ _ X12 e12 N12 Z12 F13 ((if_neg hc162).symm) ((if_neg hc162).symm) (hl4) (by omega)
      show own_Go p e below s _ _ _ (T10.setTop (mkF m 94 #[.val (.int p0), .val (.int p1), .val (.int p2), .val (.long p3), .second, .val (.int v1), .val (.int v2), .val (.int v3), .val (.int v4), .val (.int v5), .val (.int v6), .val (.ref b7), .val (.int (Nat.toInt32 i2)), .val (.int (Nat.toInt32 i1)), .unset, .unset, .unset, .unset, .unset, .unset, .unset, .unset, .unset, .unset, .unset, .unset] []))
      refine own_via (fun _ k => XS.iload X10.here hx rfl (hb hby at_94) rfl k) ?_
      show own_Go p e below s _ _ _ (T10.setTop (mkF m 96 #[.val (.int p0), .val (.int p1), .val (.int p2), .val (.long p3), .second, .val (.int v1), .val (.int v2), .val (.int v3), .val (.int v4), .val (.int v5), .val (.int v6), .val (.ref b7), .val (.int (Nat.toInt32 i2)), .val (.int (Nat.toInt32 i1)), .unset, .unset, .unset, .unset, .unset, .unset, .unset, .unset, .unset, .unset, .unset, .unset] [(.int v2)]))
      refine own_via (fun _ k => XS.iconst X10.here hx rfl (hb hby at_96) k) ?_
      show own_Go p e below s _ _ _ (T10.setTop (mkF m 97 #[.val (.int p0), .val (.int p1), .val (.int p2), .val (.long p3), .second, .val (.int v1), .val (.int v2), .val (.int v3), .val (.int v4), .val (.int v5), .val (.int v6), .val (.ref b7), .val (.int (Nat.toInt32 i2)), .val (.int (Nat.toInt32 i1)), .unset, .unset, .unset, .unset, .unset, .unset, .unset, .unset, .unset, .unset, .unset, .unset] [(.int (1 : Int32)), (.int v2)]))
      by_cases hc165 : (1 : Int32) < v2
      · refine own_via (fun _ k => XS.icmpNo X10.here hx rfl (hb hby at_97) rfl (Jvm.Free.XT.ii_le_f hc165) k) ?_
        show own_Go p e below s _ _ _ (T10.setTop (mkF m 100 #[.val (.int p0), .val (.int p1), .val (.int p2), .val (.long p3), .second, .val (.int v1), .val (.int v2), .val (.int v3), .val (.int v4), .val (.int v5), .val (.int v6), .val (.ref b7), .val (.int (Nat.toInt32 i2)), .val (.int (Nat.toInt32 i1)), .unset, .unset, .unset, .unset, .unset, .unset, .unset, .unset, .unset, .unset, .unset, .unset] []))
        refine own_via (fun _ k => XS.aload X10.here hx rfl (hb hby at_100) rfl rfl k) ?_
        show own_Go p e below s _ _ _ (T10.setTop (mkF m 102 #[.val (.int p0), .val (.int p1), .val (.int p2), .val (.long p3), .second, .val (.int v1), .val (.int v2), .val (.int v3), .val (.int v4), .val (.int v5), .val (.int v6), .val (.ref b7), .val (.int (Nat.toInt32 i2)), .val (.int (Nat.toInt32 i1)), .unset, .unset, .unset, .unset, .unset, .unset, .unset, .unset, .unset, .unset, .unset, .unset] [(.ref b7)]))
        refine own_via (fun _ k => XS.iload X10.here hx rfl (hb hby at_102) rfl k) ?_
        show own_Go p e below s _ _ _ (T10.setTop (mkF m 104 #[.val (.int p0), .val (.int p1), .val (.int p2), .val (.long p3), .second, .val (.int v1), .val (.int v2), .val (.int v3), .val (.int v4), .val (.int v5), .val (.int v6), .val (.ref b7), .val (.int (Nat.toInt32 i2)), .val (.int (Nat.toInt32 i1)), .unset, .unset, .unset, .unset, .unset, .unset, .unset, .unset, .unset, .unset, .unset, .unset] [(.int (Nat.toInt32 i2)), (.ref b7)]))
        refine own_via (fun _ k => XS.iloadN X10.here hx rfl (hb hby at_104) rfl k) ?_
        show own_Go p e below s _ _ _ (T10.setTop (mkF m 105 #[.val (.int p0), .val (.int p1), .val (.int p2), .val (.long p3), .second, .val (.int v1), .val (.int v2), .val (.int v3), .val (.int v4), .val (.int v5), .val (.int v6), .val (.ref b7), .val (.int (Nat.toInt32 i2)), .val (.int (Nat.toInt32 i1)), .unset, .unset, .unset, .unset, .unset, .unset, .unset, .unset, .unset, .unset, .unset, .unset] [(.int p1), (.int (Nat.toInt32 i2)), (.ref b7)]))
        refine own_via (fun _ k => XS.iconst X10.here hx rfl (hb hby at_105) k) ?_
        show own_Go p e below s _ _ _ (T10.setTop (mkF m 106 #[.val (.int p0), .val (.int p1), .val (.int p2), .val (.long p3), .second, .val (.int v1), .val (.int v2), .val (.int v3), .val (.int v4), .val (.int v5), .val (.int v6), .val (.ref b7), .val (.int (Nat.toInt32 i2)), .val (.int (Nat.toInt32 i1)), .unset, .unset, .unset, .unset, .unset, .unset, .unset, .unset, .unset, .unset, .unset, .unset] [(.int (1 : Int32)), (.int p1), (.int (Nat.toInt32 i2)), (.ref b7)]))
        obtain ⟨_, _, ⟨T166, L166, k166, n166⟩, -, X166, ⟨Lc166, hQ166, l166, y166, z166⟩, st166⟩ := Jvm.LawKit.callS X10 hx (y := (⟨"com/example/enlace/enlace/graph/LineFieldsResetPinLaw", "blankByte", "(II)B"⟩ : MethodName)) hown (mvT hZ (hw _ (List.mem_of_getElem? (i := 49) rfl))) (mvT hZ (hw _ (List.mem_of_getElem? (i := 50) rfl))) (mvT hZ (hw _ (List.mem_of_getElem? (i := 51) rfl))) (mvT hZ (hw _ (List.mem_of_getElem? (i := 52) rfl))) (by decide) (backOf (W := 2) (rm9 l Z a0 hw [] p1 (1 : Int32) h10 n0 Z10 ) hZ (hw _ (List.mem_of_getElem? (i := 52) rfl)) (hw _ (List.mem_of_getElem? (i := 51) rfl)) (by decide) (by decide)) (g := (mkF m 106 #[.val (.int p0), .val (.int p1), .val (.int p2), .val (.long p3), .second, .val (.int v1), .val (.int v2), .val (.int v3), .val (.int v4), .val (.int v5), .val (.int v6), .val (.ref b7), .val (.int (Nat.toInt32 i2)), .val (.int (Nat.toInt32 i1)), .unset, .unset, .unset, .unset, .unset, .unset, .unset, .unset, .unset, .unset, .unset, .unset] [(.int (1 : Int32)), (.int p1), (.int (Nat.toInt32 i2)), (.ref b7)])) rfl (by rw [hml]; rfl) (argsL := [(.int p1), (.int (1 : Int32))]) (rest := [(.int (Nat.toInt32 i2)), (.ref b7)]) (lenOf pd_8 rfl) rfl (by show 2 * 0 + _ ≤ _; exact Nat.le_of_eq rfl) (hb hby at_106) (fun _ _ => ⟨rfl, e10, (by decide : 1 + 0 ≤ _), (by decide : 16 + 0 ≤ _)⟩)
        dsimp only [Pt.U, Pt.locs, Pt.cells, Pt.slots] at X166 l166 y166 z166 st166 hQ166
        subst l166 y166 z166
        obtain ⟨rfl, N166q, e166⟩ := hQ166
        have N166 := Fr.app N10 N166q
        refine own_via st166 ?_
        show own_Go p e below s _ _ _ (T166.setTop (mkF m 109 #[.val (.int p0), .val (.int p1), .val (.int p2), .val (.long p3), .second, .val (.int v1), .val (.int v2), .val (.int v3), .val (.int v4), .val (.int v5), .val (.int v6), .val (.ref b7), .val (.int (Nat.toInt32 i2)), .val (.int (Nat.toInt32 i1)), .unset, .unset, .unset, .unset, .unset, .unset, .unset, .unset, .unset, .unset, .unset, .unset] [(.int (own_bb p1 (1 : Int32))), (.int (Nat.toInt32 i2)), (.ref b7)]))
        obtain ⟨cl167, Ar167, q167, S167, M167, H167, G167⟩ := (id F11)
        have hin167 : ¬ ((Nat.toInt32 i2) < 0 ∨ cl167.slots.size ≤ ((Nat.toInt32 i2)).toNatClampNeg) := inb_of S167 (own_inb (by omega) (by show ((i2 : Nat) : Int) < 16; omega))
        obtain ⟨T167, h167, X167, e167, W167, st167⟩ := stB X166 hx hZ e166 Ar167 (j := (Nat.toInt32 i2)) hin167 (g := (mkF m 109 #[.val (.int p0), .val (.int p1), .val (.int p2), .val (.long p3), .second, .val (.int v1), .val (.int v2), .val (.int v3), .val (.int v4), .val (.int v5), .val (.int v6), .val (.ref b7), .val (.int (Nat.toInt32 i2)), .val (.int (Nat.toInt32 i1)), .unset, .unset, .unset, .unset, .unset, .unset, .unset, .unset, .unset, .unset, .unset, .unset] [(.int (own_bb p1 (1 : Int32))), (.int (Nat.toInt32 i2)), (.ref b7)])) rfl rfl (hb hby at_109)
        have V167 : Arv Z h167 b7 k7 .byte (16 : Int32) ((u2.set i2 (nar .byte (own_bb p1 (1 : Int32)))).map Value.int) (.int (0 : Int32)) := (by rw [List.map_set]; exact Arv.set Ar167 q167 S167 M167 H167 G167 (fits_nar_byte _) W167 i2 (own_nc (by omega)) (by rw [List.length_map, hl3]; omega))
        have N167 := Fr.snoc X167 N166 g_b7
        have Z167 : n0 ≤ h167.size := Nat.le_trans Z10 (Keep.of_wr W167).1
        refine own_via st167 ?_
        show own_Go p e below s _ _ _ (T167.setTop (mkF m 110 #[.val (.int p0), .val (.int p1), .val (.int p2), .val (.long p3), .second, .val (.int v1), .val (.int v2), .val (.int v3), .val (.int v4), .val (.int v5), .val (.int v6), .val (.ref b7), .val (.int (Nat.toInt32 i2)), .val (.int (Nat.toInt32 i1)), .unset, .unset, .unset, .unset, .unset, .unset, .unset, .unset, .unset, .unset, .unset, .unset] []))
        refine own_via (fun _ k => XS.iinc X167.here hx rfl (hb hby at_110) rfl (l' := #[.val (.int p0), .val (.int p1), .val (.int p2), .val (.long p3), .second, .val (.int v1), .val (.int v2), .val (.int v3), .val (.int v4), .val (.int v5), .val (.int v6), .val (.ref b7), .val (.int ((Nat.toInt32 i2) + (1 : Int32))), .val (.int (Nat.toInt32 i1)), .unset, .unset, .unset, .unset, .unset, .unset, .unset, .unset, .unset, .unset, .unset, .unset]) rfl k) ?_
        show own_Go p e below s _ _ _ (T167.setTop (mkF m 113 #[.val (.int p0), .val (.int p1), .val (.int p2), .val (.long p3), .second, .val (.int v1), .val (.int v2), .val (.int v3), .val (.int v4), .val (.int v5), .val (.int v6), .val (.ref b7), .val (.int ((Nat.toInt32 i2) + (1 : Int32))), .val (.int (Nat.toInt32 i1)), .unset, .unset, .unset, .unset, .unset, .unset, .unset, .unset, .unset, .unset, .unset, .unset] []))
        rw [own_succ]
        show own_Go p e below s _ _ _ (T167.setTop (mkF m 113 #[.val (.int p0), .val (.int p1), .val (.int p2), .val (.long p3), .second, .val (.int v1), .val (.int v2), .val (.int v3), .val (.int v4), .val (.int v5), .val (.int v6), .val (.ref b7), .val (.int (Nat.toInt32 (i2 + 1))), .val (.int (Nat.toInt32 i1)), .unset, .unset, .unset, .unset, .unset, .unset, .unset, .unset, .unset, .unset, .unset, .unset] []))
        exact jn3 (u2.set i2 (nar .byte (own_bb p1 (1 : Int32)))) (i2 + 1) _ _ _ X167 e167 N167 Z167 V167 ((if_pos hc165).symm) ((if_pos hc165).symm) (by rw [List.length_set]; exact hl3) (by omega)
      · refine own_via (fun _ k => XS.icmpYes X10.here hx rfl (pc0 := 97) (pc' := 113) rfl (hb hby at_97) rfl (Jvm.Free.XT.ii_le_t hc165) (by decide) (by decide) k) ?_
        show own_Go p e below s _ _ _ (T10.setTop (mkF m 113 #[.val (.int p0), .val (.int p1), .val (.int p2), .val (.long p3), .second, .val (.int v1), .val (.int v2), .val (.int v3), .val (.int v4), .val (.int v5), .val (.int v6), .val (.ref b7), .val (.int (Nat.toInt32 i2)), .val (.int (Nat.toInt32 i1)), .unset, .unset, .unset, .unset, .unset, .unset, .unset, .unset, .unset, .unset, .unset, .unset] []))
        exact jn3 u2 i2 _ _ _ X10 e10 N10 Z10 F11 ((if_neg hc165).symm) ((if_neg hc165).symm) (hl3) (by omega)
    show own_Go p e below s _ _ _ (T8.setTop (mkF m 76 #[.val (.int p0), .val (.int p1), .val (.int p2), .val (.long p3), .second, .val (.int v1), .val (.int v2), .val (.int v3), .val (.int v4), .val (.int v5), .val (.int v6), .val (.ref b7), .val (.int (Nat.toInt32 i1)), .val (.int (Nat.toInt32 i1)), .unset, .unset, .unset, .unset, .unset, .unset, .unset, .unset, .unset, .unset, .unset, .unset] []))
    refine own_via (fun _ k => XS.iload X8.here hx rfl (hb hby at_76) rfl k) ?_
    show own_Go p e below s _ _ _ (T8.setTop (mkF m 78 #[.val (.int p0), .val (.int p1), .val (.int p2), .val (.long p3), .second, .val (.int v1), .val (.int v2), .val (.int v3), .val (.int v4), .val (.int v5), .val (.int v6), .val (.ref b7), .val (.int (Nat.toInt32 i1)), .val (.int (Nat.toInt32 i1)), .unset, .unset, .unset, .unset, .unset, .unset, .unset, .unset, .unset, .unset, .unset, .unset] [(.int v2)]))
    by_cases hc168 : (0 : Int32) < v2
    · refine own_via (fun _ k => XS.ifNo X8.here hx rfl (hb hby at_78) rfl (Jvm.Free.XT.i0_le_f hc168) k) ?_
      show own_Go p e below s _ _ _ (T8.setTop (mkF m 81 #[.val (.int p0), .val (.int p1), .val (.int p2), .val (.long p3), .second, .val (.int v1), .val (.int v2), .val (.int v3), .val (.int v4), .val (.int v5), .val (.int v6), .val (.ref b7), .val (.int (Nat.toInt32 i1)), .val (.int (Nat.toInt32 i1)), .unset, .unset, .unset, .unset, .unset, .unset, .unset, .unset, .unset, .unset, .unset, .unset] []))
      refine own_via (fun _ k => XS.aload X8.here hx rfl (hb hby at_81) rfl rfl k) ?_
      show own_Go p e below s _ _ _ (T8.setTop (mkF m 83 #[.val (.int p0), .val (.int p1), .val (.int p2), .val (.long p3), .second, .val (.int v1), .val (.int v2), .val (.int v3), .val (.int v4), .val (.int v5), .val (.int v6), .val (.ref b7), .val (.int (Nat.toInt32 i1)), .val (.int (Nat.toInt32 i1)), .unset, .unset, .unset, .unset, .unset, .unset, .unset, .unset, .unset, .unset, .unset, .unset] [(.ref b7)]))
      refine own_via (fun _ k => XS.iload X8.here hx rfl (hb hby at_83) rfl k) ?_
      show own_Go p e below s _ _ _ (T8.setTop (mkF m 85 #[.val (.int p0), .val (.int p1), .val (.int p2), .val (.long p3), .second, .val (.int v1), .val (.int v2), .val (.int v3), .val (.int v4), .val (.int v5), .val (.int v6), .val (.ref b7), .val (.int (Nat.toInt32 i1)), .val (.int (Nat.toInt32 i1)), .unset, .unset, .unset, .unset, .unset, .unset, .unset, .unset, .unset, .unset, .unset, .unset] [(.int (Nat.toInt32 i1)), (.ref b7)]))
      refine own_via (fun _ k => XS.iloadN X8.here hx rfl (hb hby at_85) rfl k) ?_
      show own_Go p e below s _ _ _ (T8.setTop (mkF m 86 #[.val (.int p0), .val (.int p1), .val (.int p2), .val (.long p3), .second, .val (.int v1), .val (.int v2), .val (.int v3), .val (.int v4), .val (.int v5), .val (.int v6), .val (.ref b7), .val (.int (Nat.toInt32 i1)), .val (.int (Nat.toInt32 i1)), .unset, .unset, .unset, .unset, .unset, .unset, .unset, .unset, .unset, .unset, .unset, .unset] [(.int p1), (.int (Nat.toInt32 i1)), (.ref b7)]))
      refine own_via (fun _ k => XS.iconst X8.here hx rfl (hb hby at_86) k) ?_
      show own_Go p e below s _ _ _ (T8.setTop (mkF m 87 #[.val (.int p0), .val (.int p1), .val (.int p2), .val (.long p3), .second, .val (.int v1), .val (.int v2), .val (.int v3), .val (.int v4), .val (.int v5), .val (.int v6), .val (.ref b7), .val (.int (Nat.toInt32 i1)), .val (.int (Nat.toInt32 i1)), .unset, .unset, .unset, .unset, .unset, .unset, .unset, .unset, .unset, .unset, .unset, .unset] [(.int (0 : Int32)), (.int p1), (.int (Nat.toInt32 i1)), (.ref b7)]))
      obtain ⟨_, _, ⟨T169, L169, k169, n169⟩, -, X169, ⟨Lc169, hQ169, l169, y169, z169⟩, st169⟩ := Jvm.LawKit.callS X8 hx (y := (⟨"com/example/enlace/enlace/graph/LineFieldsResetPinLaw", "blankByte", "(II)B"⟩ : MethodName)) hown (mvT hZ (hw _ (List.mem_of_getElem? (i := 49) rfl))) (mvT hZ (hw _ (List.mem_of_getElem? (i := 50) rfl))) (mvT hZ (hw _ (List.mem_of_getElem? (i := 51) rfl))) (mvT hZ (hw _ (List.mem_of_getElem? (i := 52) rfl))) (by decide) (backOf (W := 2) (rm9 l Z a0 hw [] p1 (0 : Int32) h8 n0 Z8 ) hZ (hw _ (List.mem_of_getElem? (i := 52) rfl)) (hw _ (List.mem_of_getElem? (i := 51) rfl)) (by decide) (by decide)) (g := (mkF m 87 #[.val (.int p0), .val (.int p1), .val (.int p2), .val (.long p3), .second, .val (.int v1), .val (.int v2), .val (.int v3), .val (.int v4), .val (.int v5), .val (.int v6), .val (.ref b7), .val (.int (Nat.toInt32 i1)), .val (.int (Nat.toInt32 i1)), .unset, .unset, .unset, .unset, .unset, .unset, .unset, .unset, .unset, .unset, .unset, .unset] [(.int (0 : Int32)), (.int p1), (.int (Nat.toInt32 i1)), (.ref b7)])) rfl (by rw [hml]; rfl) (argsL := [(.int p1), (.int (0 : Int32))]) (rest := [(.int (Nat.toInt32 i1)), (.ref b7)]) (lenOf pd_8 rfl) rfl (by show 2 * 0 + _ ≤ _; exact Nat.le_of_eq rfl) (hb hby at_87) (fun _ _ => ⟨rfl, e8, (by decide : 1 + 0 ≤ _), (by decide : 16 + 0 ≤ _)⟩)
      dsimp only [Pt.U, Pt.locs, Pt.cells, Pt.slots] at X169 l169 y169 z169 st169 hQ169
      subst l169 y169 z169
      obtain ⟨rfl, N169q, e169⟩ := hQ169
      have N169 := Fr.app N8 N169q
      refine own_via st169 ?_
      show own_Go p e below s _ _ _ (T169.setTop (mkF m 90 #[.val (.int p0), .val (.int p1), .val (.int p2), .val (.long p3), .second, .val (.int v1), .val (.int v2), .val (.int v3), .val (.int v4), .val (.int v5), .val (.int v6), .val (.ref b7), .val (.int (Nat.toInt32 i1)), .val (.int (Nat.toInt32 i1)), .unset, .unset, .unset, .unset, .unset, .unset, .unset, .unset, .unset, .unset, .unset, .unset] [(.int (own_bb p1 (0 : Int32))), (.int (Nat.toInt32 i1)), (.ref b7)]))
      obtain ⟨cl170, Ar170, q170, S170, M170, H170, G170⟩ := (id F9)
      have hin170 : ¬ ((Nat.toInt32 i1) < 0 ∨ cl170.slots.size ≤ ((Nat.toInt32 i1)).toNatClampNeg) := inb_of S170 (own_inb (by omega) (by show ((i1 : Nat) : Int) < 16; omega))
      obtain ⟨T170, h170, X170, e170, W170, st170⟩ := stB X169 hx hZ e169 Ar170 (j := (Nat.toInt32 i1)) hin170 (g := (mkF m 90 #[.val (.int p0), .val (.int p1), .val (.int p2), .val (.long p3), .second, .val (.int v1), .val (.int v2), .val (.int v3), .val (.int v4), .val (.int v5), .val (.int v6), .val (.ref b7), .val (.int (Nat.toInt32 i1)), .val (.int (Nat.toInt32 i1)), .unset, .unset, .unset, .unset, .unset, .unset, .unset, .unset, .unset, .unset, .unset, .unset] [(.int (own_bb p1 (0 : Int32))), (.int (Nat.toInt32 i1)), (.ref b7)])) rfl rfl (hb hby at_90)
      have V170 : Arv Z h170 b7 k7 .byte (16 : Int32) ((u1.set i1 (nar .byte (own_bb p1 (0 : Int32)))).map Value.int) (.int (0 : Int32)) := (by rw [List.map_set]; exact Arv.set Ar170 q170 S170 M170 H170 G170 (fits_nar_byte _) W170 i1 (own_nc (by omega)) (by rw [List.length_map, hl2]; omega))
      have N170 := Fr.snoc X170 N169 g_b7
      have Z170 : n0 ≤ h170.size := Nat.le_trans Z8 (Keep.of_wr W170).1
      refine own_via st170 ?_
      show own_Go p e below s _ _ _ (T170.setTop (mkF m 91 #[.val (.int p0), .val (.int p1), .val (.int p2), .val (.long p3), .second, .val (.int v1), .val (.int v2), .val (.int v3), .val (.int v4), .val (.int v5), .val (.int v6), .val (.ref b7), .val (.int (Nat.toInt32 i1)), .val (.int (Nat.toInt32 i1)), .unset, .unset, .unset, .unset, .unset, .unset, .unset, .unset, .unset, .unset, .unset, .unset] []))
      refine own_via (fun _ k => XS.iinc X170.here hx rfl (hb hby at_91) rfl (l' := #[.val (.int p0), .val (.int p1), .val (.int p2), .val (.long p3), .second, .val (.int v1), .val (.int v2), .val (.int v3), .val (.int v4), .val (.int v5), .val (.int v6), .val (.ref b7), .val (.int ((Nat.toInt32 i1) + (1 : Int32))), .val (.int (Nat.toInt32 i1)), .unset, .unset, .unset, .unset, .unset, .unset, .unset, .unset, .unset, .unset, .unset, .unset]) rfl k) ?_
      show own_Go p e below s _ _ _ (T170.setTop (mkF m 94 #[.val (.int p0), .val (.int p1), .val (.int p2), .val (.long p3), .second, .val (.int v1), .val (.int v2), .val (.int v3), .val (.int v4), .val (.int v5), .val (.int v6), .val (.ref b7), .val (.int ((Nat.toInt32 i1) + (1 : Int32))), .val (.int (Nat.toInt32 i1)), .unset, .unset, .unset, .unset, .unset, .unset, .unset, .unset, .unset, .unset, .unset, .unset] []))
      rw [own_succ]
      show own_Go p e below s _ _ _ (T170.setTop (mkF m 94 #[.val (.int p0), .val (.int p1), .val (.int p2), .val (.long p3), .second, .val (.int v1), .val (.int v2), .val (.int v3), .val (.int v4), .val (.int v5), .val (.int v6), .val (.ref b7), .val (.int (Nat.toInt32 (i1 + 1))), .val (.int (Nat.toInt32 i1)), .unset, .unset, .unset, .unset, .unset, .unset, .unset, .unset, .unset, .unset, .unset, .unset] []))
      exact jn2 (u1.set i1 (nar .byte (own_bb p1 (0 : Int32)))) (i1 + 1) _ _ _ X170 e170 N170 Z170 V170 ((if_pos hc168).symm) ((if_pos hc168).symm) (by rw [List.length_set]; exact hl2) (by omega)
    · refine own_via (fun _ k => XS.ifYes X8.here hx rfl (pc0 := 78) (pc' := 94) rfl (hb hby at_78) rfl (Jvm.Free.XT.i0_le_t hc168) (by decide) (by decide) k) ?_
      show own_Go p e below s _ _ _ (T8.setTop (mkF m 94 #[.val (.int p0), .val (.int p1), .val (.int p2), .val (.long p3), .second, .val (.int v1), .val (.int v2), .val (.int v3), .val (.int v4), .val (.int v5), .val (.int v6), .val (.ref b7), .val (.int (Nat.toInt32 i1)), .val (.int (Nat.toInt32 i1)), .unset, .unset, .unset, .unset, .unset, .unset, .unset, .unset, .unset, .unset, .unset, .unset] []))
      exact jn2 u1 i1 _ _ _ X8 e8 N8 Z8 F9 ((if_neg hc168).symm) ((if_neg hc168).symm) (hl2) (by omega)
  show own_Go p e below s _ _ _ (T7.setTop (mkF m 53 #[.val (.int p0), .val (.int p1), .val (.int p2), .val (.long p3), .second, .val (.int v1), .val (.int v2), .val (.int v3), .val (.int v4), .val (.int v5), .val (.int v6), .val (.ref b7), .val (.int (Nat.toInt32 0)), .unset, .unset, .unset, .unset, .unset, .unset, .unset, .unset, .unset, .unset, .unset, .unset, .unset] []))
  refine own_via (fun _ k => XS.iload X7.here hx rfl (hb hby at_53) rfl k) ?_
  show own_Go p e below s _ _ _ (T7.setTop (mkF m 55 #[.val (.int p0), .val (.int p1), .val (.int p2), .val (.long p3), .second, .val (.int v1), .val (.int v2), .val (.int v3), .val (.int v4), .val (.int v5), .val (.int v6), .val (.ref b7), .val (.int (Nat.toInt32 0)), .unset, .unset, .unset, .unset, .unset, .unset, .unset, .unset, .unset, .unset, .unset, .unset, .unset] [(.int v1)]))
  refine own_via (fun _ k => XS.iconst X7.here hx rfl (hb hby at_55) k) ?_
  show own_Go p e below s _ _ _ (T7.setTop (mkF m 56 #[.val (.int p0), .val (.int p1), .val (.int p2), .val (.long p3), .second, .val (.int v1), .val (.int v2), .val (.int v3), .val (.int v4), .val (.int v5), .val (.int v6), .val (.ref b7), .val (.int (Nat.toInt32 0)), .unset, .unset, .unset, .unset, .unset, .unset, .unset, .unset, .unset, .unset, .unset, .unset, .unset] [(.int (1 : Int32)), (.int v1)]))
  by_cases hc171 : v1 = (1 : Int32)
  · refine own_via (fun _ k => XS.icmpNo X7.here hx rfl (hb hby at_56) rfl (Jvm.Free.XT.ii_ne_f hc171) k) ?_
    show own_Go p e below s _ _ _ (T7.setTop (mkF m 59 #[.val (.int p0), .val (.int p1), .val (.int p2), .val (.long p3), .second, .val (.int v1), .val (.int v2), .val (.int v3), .val (.int v4), .val (.int v5), .val (.int v6), .val (.ref b7), .val (.int (Nat.toInt32 0)), .unset, .unset, .unset, .unset, .unset, .unset, .unset, .unset, .unset, .unset, .unset, .unset, .unset] []))
    refine own_via (fun _ k => XS.aload X7.here hx rfl (hb hby at_59) rfl rfl k) ?_
    show own_Go p e below s _ _ _ (T7.setTop (mkF m 61 #[.val (.int p0), .val (.int p1), .val (.int p2), .val (.long p3), .second, .val (.int v1), .val (.int v2), .val (.int v3), .val (.int v4), .val (.int v5), .val (.int v6), .val (.ref b7), .val (.int (Nat.toInt32 0)), .unset, .unset, .unset, .unset, .unset, .unset, .unset, .unset, .unset, .unset, .unset, .unset, .unset] [(.ref b7)]))
    refine own_via (fun _ k => XS.iload X7.here hx rfl (hb hby at_61) rfl k) ?_
    show own_Go p e below s _ _ _ (T7.setTop (mkF m 63 #[.val (.int p0), .val (.int p1), .val (.int p2), .val (.long p3), .second, .val (.int v1), .val (.int v2), .val (.int v3), .val (.int v4), .val (.int v5), .val (.int v6), .val (.ref b7), .val (.int (Nat.toInt32 0)), .unset, .unset, .unset, .unset, .unset, .unset, .unset, .unset, .unset, .unset, .unset, .unset, .unset] [(.int (Nat.toInt32 0)), (.ref b7)]))
    refine own_via (fun _ k => XS.lloadN X7.here hx rfl (hb hby at_63) rfl k) ?_
    show own_Go p e below s _ _ _ (T7.setTop (mkF m 64 #[.val (.int p0), .val (.int p1), .val (.int p2), .val (.long p3), .second, .val (.int v1), .val (.int v2), .val (.int v3), .val (.int v4), .val (.int v5), .val (.int v6), .val (.ref b7), .val (.int (Nat.toInt32 0)), .unset, .unset, .unset, .unset, .unset, .unset, .unset, .unset, .unset, .unset, .unset, .unset, .unset] [(.long p3), (.int (Nat.toInt32 0)), (.ref b7)]))
    refine own_via (fun _ k => XS.iconst X7.here hx rfl (hb hby at_64) k) ?_
    show own_Go p e below s _ _ _ (T7.setTop (mkF m 65 #[.val (.int p0), .val (.int p1), .val (.int p2), .val (.long p3), .second, .val (.int v1), .val (.int v2), .val (.int v3), .val (.int v4), .val (.int v5), .val (.int v6), .val (.ref b7), .val (.int (Nat.toInt32 0)), .unset, .unset, .unset, .unset, .unset, .unset, .unset, .unset, .unset, .unset, .unset, .unset, .unset] [(.int (0 : Int32)), (.long p3), (.int (Nat.toInt32 0)), (.ref b7)]))
    obtain ⟨_, _, ⟨T172, L172, k172, n172⟩, -, X172, ⟨Lc172, hQ172, l172, y172, z172⟩, st172⟩ := Jvm.LawKit.callS X7 hx (y := (⟨"com/example/enlace/enlace/graph/LineFieldsResetPinLaw", "junkByte", "(JI)B"⟩ : MethodName)) hown (mvT hZ (hw _ (List.mem_of_getElem? (i := 56) rfl))) (mvT hZ (hw _ (List.mem_of_getElem? (i := 57) rfl))) (mvT hZ (hw _ (List.mem_of_getElem? (i := 51) rfl))) (mvT hZ (hw _ (List.mem_of_getElem? (i := 58) rfl))) (by decide) (backOf (W := 2) (rm11 l Z a0 hw [] p3 (0 : Int32) h7 n0 Z7 ) hZ (hw _ (List.mem_of_getElem? (i := 58) rfl)) (hw _ (List.mem_of_getElem? (i := 51) rfl)) (by decide) (by decide)) (g := (mkF m 65 #[.val (.int p0), .val (.int p1), .val (.int p2), .val (.long p3), .second, .val (.int v1), .val (.int v2), .val (.int v3), .val (.int v4), .val (.int v5), .val (.int v6), .val (.ref b7), .val (.int (Nat.toInt32 0)), .unset, .unset, .unset, .unset, .unset, .unset, .unset, .unset, .unset, .unset, .unset, .unset, .unset] [(.int (0 : Int32)), (.long p3), (.int (Nat.toInt32 0)), (.ref b7)])) rfl (by rw [hml]; rfl) (argsL := [(.long p3), (.int (0 : Int32))]) (rest := [(.int (Nat.toInt32 0)), (.ref b7)]) (lenOf pd_7 rfl) rfl (by show 2 * 0 + _ ≤ _; exact Nat.le_of_eq rfl) (hb hby at_65) (fun _ _ => ⟨rfl, e7, (by decide : 1 + 0 ≤ _), (by decide : 16 + 0 ≤ _)⟩)
    dsimp only [Pt.U, Pt.locs, Pt.cells, Pt.slots] at X172 l172 y172 z172 st172 hQ172
    subst l172 y172 z172
    obtain ⟨rfl, N172q, e172⟩ := hQ172
    have N172 := Fr.app N0 N172q
    refine own_via st172 ?_
    show own_Go p e below s _ _ _ (T172.setTop (mkF m 68 #[.val (.int p0), .val (.int p1), .val (.int p2), .val (.long p3), .second, .val (.int v1), .val (.int v2), .val (.int v3), .val (.int v4), .val (.int v5), .val (.int v6), .val (.ref b7), .val (.int (Nat.toInt32 0)), .unset, .unset, .unset, .unset, .unset, .unset, .unset, .unset, .unset, .unset, .unset, .unset, .unset] [(.int (own_jb p3 (0 : Int32))), (.int (Nat.toInt32 0)), (.ref b7)]))
    obtain ⟨cl173, Ar173, q173, S173, M173, H173, G173⟩ := (id VU0)
    have hin173 : ¬ ((Nat.toInt32 0) < 0 ∨ cl173.slots.size ≤ ((Nat.toInt32 0)).toNatClampNeg) := inb_of S173 (own_inb (by omega) (by show ((0 : Nat) : Int) < 16; omega))
    obtain ⟨T173, h173, X173, e173, W173, st173⟩ := stB X172 hx hZ e172 Ar173 (j := (Nat.toInt32 0)) hin173 (g := (mkF m 68 #[.val (.int p0), .val (.int p1), .val (.int p2), .val (.long p3), .second, .val (.int v1), .val (.int v2), .val (.int v3), .val (.int v4), .val (.int v5), .val (.int v6), .val (.ref b7), .val (.int (Nat.toInt32 0)), .unset, .unset, .unset, .unset, .unset, .unset, .unset, .unset, .unset, .unset, .unset, .unset, .unset] [(.int (own_jb p3 (0 : Int32))), (.int (Nat.toInt32 0)), (.ref b7)])) rfl rfl (hb hby at_68)
    have V173 : Arv Z h173 b7 k7 .byte (16 : Int32) ((u0.set 0 (nar .byte (own_jb p3 (0 : Int32)))).map Value.int) (.int (0 : Int32)) := (by rw [List.map_set]; exact Arv.set Ar173 q173 S173 M173 H173 G173 (fits_nar_byte _) W173 0 (own_nc (by omega)) (by rw [List.length_map, hl1]; omega))
    have N173 := Fr.snoc X173 N172 g_b7
    have Z173 : n0 ≤ h173.size := Nat.le_trans Z7 (Keep.of_wr W173).1
    refine own_via st173 ?_
    show own_Go p e below s _ _ _ (T173.setTop (mkF m 69 #[.val (.int p0), .val (.int p1), .val (.int p2), .val (.long p3), .second, .val (.int v1), .val (.int v2), .val (.int v3), .val (.int v4), .val (.int v5), .val (.int v6), .val (.ref b7), .val (.int (Nat.toInt32 0)), .unset, .unset, .unset, .unset, .unset, .unset, .unset, .unset, .unset, .unset, .unset, .unset, .unset] []))
    refine own_via (fun _ k => XS.iinc X173.here hx rfl (hb hby at_69) rfl (l' := #[.val (.int p0), .val (.int p1), .val (.int p2), .val (.long p3), .second, .val (.int v1), .val (.int v2), .val (.int v3), .val (.int v4), .val (.int v5), .val (.int v6), .val (.ref b7), .val (.int ((Nat.toInt32 0) + (1 : Int32))), .unset, .unset, .unset, .unset, .unset, .unset, .unset, .unset, .unset, .unset, .unset, .unset, .unset]) rfl k) ?_
    show own_Go p e below s _ _ _ (T173.setTop (mkF m 72 #[.val (.int p0), .val (.int p1), .val (.int p2), .val (.long p3), .second, .val (.int v1), .val (.int v2), .val (.int v3), .val (.int v4), .val (.int v5), .val (.int v6), .val (.ref b7), .val (.int ((Nat.toInt32 0) + (1 : Int32))), .unset, .unset, .unset, .unset, .unset, .unset, .unset, .unset, .unset, .unset, .unset, .unset, .unset] []))
    rw [own_succ]
    show own_Go p e below s _ _ _ (T173.setTop (mkF m 72 #[.val (.int p0), .val (.int p1), .val (.int p2), .val (.long p3), .second, .val (.int v1), .val (.int v2), .val (.int v3), .val (.int v4), .val (.int v5), .val (.int v6), .val (.ref b7), .val (.int (Nat.toInt32 (0 + 1))), .unset, .unset, .unset, .unset, .unset, .unset, .unset, .unset, .unset, .unset, .unset, .unset, .unset] []))
    exact jn1 (u0.set 0 (nar .byte (own_jb p3 (0 : Int32)))) (0 + 1) _ _ _ X173 e173 N173 Z173 V173 ((if_pos hc171).symm) ((if_pos hc171).symm) (by rw [List.length_set]; exact hl1) (by omega)
  · refine own_via (fun _ k => XS.icmpYes X7.here hx rfl (pc0 := 56) (pc' := 72) rfl (hb hby at_56) rfl (Jvm.Free.XT.ii_ne_t hc171) (by decide) (by decide) k) ?_
    show own_Go p e below s _ _ _ (T7.setTop (mkF m 72 #[.val (.int p0), .val (.int p1), .val (.int p2), .val (.long p3), .second, .val (.int v1), .val (.int v2), .val (.int v3), .val (.int v4), .val (.int v5), .val (.int v6), .val (.ref b7), .val (.int (Nat.toInt32 0)), .unset, .unset, .unset, .unset, .unset, .unset, .unset, .unset, .unset, .unset, .unset, .unset, .unset] []))
    exact jn1 u0 0 _ _ _ X7 e7 N0 Z7 VU0 ((if_neg hc171).symm) ((if_neg hc171).symm) (hl1) (by omega)
set_option maxRecDepth 65536 in
set_option maxHeartbeats 40000000 in
theorem comes_1 {Post : Tables → Env → Array Value → State → Outcome → State → Prop} (hpost : ∀ tb e args s v u, (limb_1_1.after args s (.returned v) u = true ∧ limb_1_2.after args s (.returned v) u = true ∧ True) → FrameEnd s (.returned v) u (Jvm.fieldLocs frame_1_writes args s ++ Jvm.arrayLocs frame_1_arrays args s ++ Jvm.staticLocs frame_1_statics s) 16 128 → Post tb e args s (.returned v) u) :
    ArmFor flags0 classFile x code maxLocals ret World_1 tables_1 room_1 Calls_1 rest_1 Pre_1 Post := by
  intro l hfl _ _ p e ha hc hk s m args below hf hA hF happ hP
  obtain ⟨hcalls, hrest, hpre⟩ := hP
  obtain ⟨-, -, -, hnamed, -, -, -, hat⟩ := (Spec.applies_iff hf).mp happ
  obtain ⟨hg, hn⟩ := and_e (Cond.before_iff.mp (show (Jvm.Cond.and given_1 narrow_1).before args s = true from hpre))
  obtain ⟨g1, g2⟩ := and_e hg
  obtain ⟨g3, g4⟩ := and_e g2
  obtain ⟨g5, g6⟩ := and_e g4
  obtain ⟨g7, g8⟩ := and_e g6
  obtain ⟨w0, w1, w2, w3, rfl⟩ : ∃ w0 w1 w2 w3 : Value, args = #[w0, w1, w2, w3] := by
    have hs : args.size = 4 := by simpa [Cond.value, given_1] using g1
    obtain ⟨L⟩ := args
    match L, hs with
    | [w0, w1, w2, w3], _ => exact ⟨w0, w1, w2, w3, rfl⟩
  have hw := fun d (hd : d ∈ tables_1) => atoms_spec (ws := Jvm.Cond.code x code maxLocals ret :: tables_1) hat d (List.mem_cons_of_mem _ hd)
  have hfit : Fit s := fun {y c} hc i hi => by
    obtain ⟨ha, rfl⟩ := Array.getElem?_eq_some_iff.mp hc
    have q := List.all_eq_true.mp ((Array.all_eq_true_iff_forall_mem.mp hF) _ (Array.getElem_mem ha)) i (List.mem_range.mpr hi)
    simpa [Array.getElem?_eq_getElem hi] using q
  obtain ⟨i0, ei0⟩ := is_v g3
  obtain rfl : w0 = (.int i0) := Option.some.inj ei0
  obtain ⟨i1, ei1⟩ := is_v g5
  obtain rfl : w1 = (.int i1) := Option.some.inj ei1
  obtain ⟨i2, ei2⟩ := is_v g7
  obtain rfl : w2 = (.int i2) := Option.some.inj ei2
  obtain ⟨i3, ei3⟩ := isL_v g8
  obtain rfl : w3 = (.long i3) := Option.some.inj ei3
  obtain ⟨n, o, h1, h2, h3, _, L, rfl, ⟨rfl, N⟩, hq⟩ := rm0 l s _ hw tables_1 i0 i1 i2 i3 s.heap s.heap.size (Nat.le_refl _)  p e ha hc hk s m _ below hf ((Spec.applies_iff_loose hf).mp happ).1 ⟨rfl, State.Warmed39.refl s, rfl⟩ trivial
  refine ⟨n, _, h1, h2, h3, hpost _ _ _ _ _ _ ⟨Cond.after_iff.mpr rfl, Cond.after_iff.mpr (eq_i res_at (Term.int_eval (1)) rfl), trivial⟩ ⟨hq.1, hq.2.1, (hq.2.2.sift fun y hy => Or.inr (N y hy)).mono (by decide) (by decide)⟩⟩
theorem main_1_1 : Claimed_1_1 := comes_1 fun _ _ _ _ _ _ h hF => ⟨h.1, hF⟩
theorem main_1_2 : Claimed_1_2 := comes_1 fun _ _ _ _ _ _ h hF => ⟨h.2.1, hF⟩
end Jvm.Pilot.@@N@@
namespace Jvm.Pilot.@@N@@
open Jvm Jvm.ClassFile Sem Op Lib Jvm.Free Jvm.Stand Jvm.Pilot.@@N@@.Jvm.D
/-! MADE BY PROGRAM (witnessworld.py) out of the Statement's table words and the real class files: 9 classes; the members and pool entries that the words name. The judged class is class 1, her method 1. -/
namespace start1
open Jvm.ClassFile
def u (s : String) : CpInfo := .utf8 (stringToUtf16 s)
/-- a pool by its gaps: so many unusable entries, then the entry; so many at the end -/
def gap : Nat → List CpInfo → List CpInfo
  | 0, r => r
  | n + 1, r => .unusable :: gap n r
def poolList (es : List (Nat × CpInfo)) (last : Nat) : List CpInfo := es.foldr (fun e r => gap e.1 (e.2 :: r)) (gap last [])
def pool (es : List (Nat × CpInfo)) (last : Nat) : Array CpInfo := ⟨poolList es last⟩
def fileOf (pool : Array CpInfo) (this : Nat) (attrs : Array Attribute := #[]) (ms : Array MethodInfo := #[]) (fl : Nat := 33) (sup : Nat := 0) (ifs : Array Nat := #[]) (fds : Array FieldInfo := #[]) : ClassFile where
  minorVersion := 0
  majorVersion := 65
  constantPool := pool
  accessFlags := fl
  thisClass := this
  superClass := sup
  interfaces := ifs
  fields := fds
  methods := ms
  attributes := attrs
def plain (name : String) (sup : Option ClassId) : Class where
  name := name
  kind := .ordinary
  loader := none
  accessFlags := 33
  super := sup
  interfaces := #[]
  cf := none
  fields := #[]
  methods := #[]
  instanceTypes := #[]
  staticTypes := #[]
  resolved := #[]
  callSites := []
  init := .initialized
  statics := none
  mirror := none

def pool0 : Array CpInfo := pool [(5, u "<init>"), (0, u "()V"), (1, .class_ 10), (1, u "java/lang/Object")] 113

def k0c0 : Code := { maxStack := 0, maxLocals := 1, code := object_method_1_code, exceptionTable := #[], attributes := #[] }
def k0m0 : Method := { name := "<init>", desc := "()V", sig := { parameters := [], returnType := none }, accessFlags := 1, code := some k0c0 }
/-- java/lang/Object -/
def k0 : Class := { plain "java/lang/Object" none with
  accessFlags := 33
  interfaces := #[]
  cf := some (fileOf pool0 8 #[] #[{ accessFlags := 1, nameIndex := 5, descriptorIndex := 6, attributes := #[] }] 33 0 #[] #[])
  fields := #[]
  methods := #[k0m0]
  instanceTypes := #[]
  staticTypes := #[]
  resolved := Array.replicate 124 none
  statics := none }

def pool1 : Array CpInfo := pool [(2, .class_ 4), (0, .nameAndType 5 6), (0, u "java/lang/Object"), (0, u "<init>"), (0, u "()V"), (0, .methodref 8 9), (0, .class_ 10), (0, .nameAndType 11 12), (0, u "com/example/enlace/enlace/graph/LineFieldsResetPinLaw"), (0, u "junkByte"), (0, u "(JI)B"), (0, .methodref 8 14), (0, .nameAndType 15 16), (0, u "blankByte"), (0, u "(II)B"), (0, .methodref 8 18), (0, .nameAndType 19 16), (0, u "fieldByte"), (0, .class_ 21), (0, u "com/example/enlace/enlace/graph/LineFields"), (0, .methodref 20 3), (0, .methodref 20 24), (0, .nameAndType 25 26), (0, u "reset"), (0, u "([BII)V"), (0, .methodref 20 28), (0, .nameAndType 29 30), (0, u "bytes"), (0, u "()[B"), (0, .methodref 20 32), (0, .nameAndType 33 34), (0, u "fieldStart"), (0, u "()I"), (0, .methodref 20 36), (0, .nameAndType 37 34), (0, u "fieldEnd"), (0, .methodref 20 39), (0, .nameAndType 40 41), (0, u "advance"), (0, u "()Z"), (2, u "law"), (0, u "(IIIJ)Z")] 5

def k1m0 : Method := { name := "<init>", desc := "()V", sig := { parameters := [], returnType := none }, accessFlags := 1, code := none }
def k1c1 : Code := { maxStack := 5, maxLocals := 26, code := code, exceptionTable := #[], attributes := #[] }
def k1m1 : Method := { name := "law", desc := "(IIIJ)Z", sig := { parameters := [.int, .int, .int, .long], returnType := some .boolean }, accessFlags := 9, code := some k1c1 }
def k1c2 : Code := { maxStack := 4, maxLocals := 5, code := method_3_code, exceptionTable := #[], attributes := #[] }
def k1m2 : Method := { name := "junkByte", desc := "(JI)B", sig := { parameters := [.long, .int], returnType := some .byte }, accessFlags := 10, code := some k1c2 }
def k1c3 : Code := { maxStack := 4, maxLocals := 5, code := method_4_code, exceptionTable := #[], attributes := #[] }
def k1m3 : Method := { name := "fieldByte", desc := "(II)B", sig := { parameters := [.int, .int], returnType := some .byte }, accessFlags := 10, code := some k1c3 }
def k1c4 : Code := { maxStack := 2, maxLocals := 2, code := method_5_code, exceptionTable := #[], attributes := #[] }
def k1m4 : Method := { name := "blankByte", desc := "(II)B", sig := { parameters := [.int, .int], returnType := some .byte }, accessFlags := 10, code := some k1c4 }
/-- com/example/enlace/enlace/graph/LineFieldsResetPinLaw -/
def k1 : Class := { plain "com/example/enlace/enlace/graph/LineFieldsResetPinLaw" (some 0) with
  accessFlags := 49
  interfaces := #[]
  cf := some (fileOf pool1 8 #[] #[{ accessFlags := 1, nameIndex := 5, descriptorIndex := 6, attributes := #[] }, { accessFlags := 9, nameIndex := 44, descriptorIndex := 45, attributes := #[] }, { accessFlags := 10, nameIndex := 11, descriptorIndex := 12, attributes := #[] }, { accessFlags := 10, nameIndex := 19, descriptorIndex := 16, attributes := #[] }, { accessFlags := 10, nameIndex := 15, descriptorIndex := 16, attributes := #[] }] 49 2 #[] #[])
  fields := #[]
  methods := #[k1m0, k1m1, k1m2, k1m3, k1m4]
  instanceTypes := #[]
  staticTypes := #[]
  resolved := Array.replicate 51 none
  statics := none }

def pool2 : Array CpInfo := pool [(1, .methodref 2 3), (0, .class_ 4), (0, .nameAndType 5 6), (0, u "java/lang/Object"), (0, u "<init>"), (0, u "()V"), (1, .class_ 10), (1, u "com/example/enlace/enlace/graph/LineFields"), (12, u "reset"), (0, u "([BII)V"), (0, .fieldref 8 26), (0, .nameAndType 27 28), (0, u "bytes"), (0, u "[B"), (0, .fieldref 8 30), (0, .nameAndType 31 32), (0, u "end"), (0, u "I"), (0, .methodref 8 34), (0, .nameAndType 35 36), (0, u "skipBlanks"), (0, u "(I)I"), (0, .fieldref 8 38), (0, .nameAndType 39 32), (0, u "position"), (0, .fieldref 8 41), (0, .nameAndType 42 32), (0, u "fieldStart"), (0, .fieldref 8 44), (0, .nameAndType 45 32), (0, u "fieldEnd"), (0, .methodref 8 47), (0, .nameAndType 48 49), (0, u "isBlank"), (0, u "(B)Z"), (2, u "advance"), (0, u "()Z"), (43, u "()I"), (12, u "()[B")] 2

def k2c0 : Code := { maxStack := 1, maxLocals := 1, code := prog_21_method_1_code, exceptionTable := #[], attributes := #[] }
def k2m0 : Method := { name := "<init>", desc := "()V", sig := { parameters := [], returnType := none }, accessFlags := 0, code := some k2c0 }
def k2c1 : Code := { maxStack := 3, maxLocals := 6, code := prog_21_method_3_code, exceptionTable := #[], attributes := #[] }
def k2m1 : Method := { name := "reset", desc := "([BII)V", sig := { parameters := [(.array .byte), .int, .int], returnType := none }, accessFlags := 0, code := some k2c1 }
def k2c2 : Code := { maxStack := 2, maxLocals := 3, code := prog_21_method_4_code, exceptionTable := #[], attributes := #[] }
def k2m2 : Method := { name := "advance", desc := "()Z", sig := { parameters := [], returnType := some .boolean }, accessFlags := 0, code := some k2c2 }
def k2c3 : Code := { maxStack := 1, maxLocals := 1, code := prog_21_method_7_code, exceptionTable := #[], attributes := #[] }
def k2m3 : Method := { name := "bytes", desc := "()[B", sig := { parameters := [], returnType := some (.array .byte) }, accessFlags := 0, code := some k2c3 }
def k2c4 : Code := { maxStack := 1, maxLocals := 1, code := prog_21_method_8_code, exceptionTable := #[], attributes := #[] }
def k2m4 : Method := { name := "fieldStart", desc := "()I", sig := { parameters := [], returnType := some .int }, accessFlags := 0, code := some k2c4 }
def k2c5 : Code := { maxStack := 1, maxLocals := 1, code := prog_21_method_9_code, exceptionTable := #[], attributes := #[] }
def k2m5 : Method := { name := "fieldEnd", desc := "()I", sig := { parameters := [], returnType := some .int }, accessFlags := 0, code := some k2c5 }
def k2c6 : Code := { maxStack := 2, maxLocals := 3, code := prog_21_method_12_code, exceptionTable := #[], attributes := #[] }
def k2m6 : Method := { name := "skipBlanks", desc := "(I)I", sig := { parameters := [.int], returnType := some .int }, accessFlags := 2, code := some k2c6 }
def k2c7 : Code := { maxStack := 2, maxLocals := 1, code := prog_21_method_13_code, exceptionTable := #[], attributes := #[] }
def k2m7 : Method := { name := "isBlank", desc := "(B)Z", sig := { parameters := [.byte], returnType := some .boolean }, accessFlags := 10, code := some k2c7 }
/-- com/example/enlace/enlace/graph/LineFields -/
def k2 : Class := { plain "com/example/enlace/enlace/graph/LineFields" (some 0) with
  accessFlags := 48
  interfaces := #[]
  cf := some (fileOf pool2 8 #[] #[{ accessFlags := 0, nameIndex := 5, descriptorIndex := 6, attributes := #[] }, { accessFlags := 0, nameIndex := 23, descriptorIndex := 24, attributes := #[] }, { accessFlags := 0, nameIndex := 52, descriptorIndex := 53, attributes := #[] }, { accessFlags := 0, nameIndex := 27, descriptorIndex := 110, attributes := #[] }, { accessFlags := 0, nameIndex := 42, descriptorIndex := 97, attributes := #[] }, { accessFlags := 0, nameIndex := 45, descriptorIndex := 97, attributes := #[] }, { accessFlags := 2, nameIndex := 35, descriptorIndex := 36, attributes := #[] }, { accessFlags := 10, nameIndex := 48, descriptorIndex := 49, attributes := #[] }] 48 2 #[] #[{ accessFlags := 2, nameIndex := 27, descriptorIndex := 28, attributes := #[] }, { accessFlags := 2, nameIndex := 31, descriptorIndex := 32, attributes := #[] }, { accessFlags := 2, nameIndex := 39, descriptorIndex := 32, attributes := #[] }, { accessFlags := 2, nameIndex := 42, descriptorIndex := 32, attributes := #[] }, { accessFlags := 2, nameIndex := 45, descriptorIndex := 32, attributes := #[] }])
  fields := #[{ name := "bytes", type := (.array .byte), accessFlags := 2, slot := 0, constantValue := 0 }, { name := "end", type := .int, accessFlags := 2, slot := 1, constantValue := 0 }, { name := "position", type := .int, accessFlags := 2, slot := 2, constantValue := 0 }, { name := "fieldStart", type := .int, accessFlags := 2, slot := 3, constantValue := 0 }, { name := "fieldEnd", type := .int, accessFlags := 2, slot := 4, constantValue := 0 }]
  methods := #[k2m0, k2m1, k2m2, k2m3, k2m4, k2m5, k2m6, k2m7]
  instanceTypes := #[(.array .byte), .int, .int, .int, .int]
  staticTypes := #[]
  resolved := Array.replicate 113 none
  statics := none }

def pool3 : Array CpInfo := pool [(1, u "java/lang/Cloneable"), (0, .class_ 1), (0, u "java/lang/Object"), (0, .class_ 3)] 3

/-- java/lang/Cloneable -/
def k3 : Class := { plain "java/lang/Cloneable" (some 0) with
  accessFlags := 1537
  interfaces := #[]
  cf := some (fileOf pool3 2 #[] #[] 1537 4 #[] #[])
  fields := #[]
  methods := #[]
  instanceTypes := #[]
  staticTypes := #[]
  resolved := Array.replicate 8 none
  statics := none }

def pool4 : Array CpInfo := pool [(1, u "java/io/Serializable"), (0, .class_ 1), (0, u "java/lang/Object"), (0, .class_ 3)] 3

/-- java/io/Serializable -/
def k4 : Class := { plain "java/io/Serializable" (some 0) with
  accessFlags := 1537
  interfaces := #[]
  cf := some (fileOf pool4 2 #[] #[] 1537 4 #[] #[])
  fields := #[]
  methods := #[]
  instanceTypes := #[]
  staticTypes := #[]
  resolved := Array.replicate 8 none
  statics := none }

/-- the primitive byte -/
def k5 : Class := { plain "byte" none with kind := .primitive 'B', accessFlags := 0x411 }
/-- [B -/
def k6 : Class := { plain "[B" (some 0) with kind := .array 5 .byte, interfaces := #[3, 4], accessFlags := 1041 }

/-- the primitive int -/
def k7 : Class := { plain "int" none with kind := .primitive 'I', accessFlags := 0x411 }
/-- [I -/
def k8 : Class := { plain "[I" (some 0) with kind := .array 7 .int, interfaces := #[3, 4], accessFlags := 1041 }

def heap : Heap := #[]
def classes : Array Class := #[k0, k1, k2, k3, k4, k5, k6, k7, k8]
def interned : List (Array UInt16 × Addr) := []
def slotsUsed : Nat := 0
def theMethod : MethodId := ⟨1, 1⟩
def args0 : Array Value := #[.int 341, .int 5, .int 9, .long 77]
def aboutOver (below : List Frame) : State where
  vm := { classes := classes, interned := interned.toArray }
  heap := heap
  slotsUsed := slotsUsed
  threads := #[{ frames := .invoking theMethod args0 :: below }]
def below0 : List Frame := [.native { method := ⟨0, 0⟩, args := #[] }]
def about1 : State := aboutOver below0
def p0 : Program := .bare "" "" ""
def e0 : Env := launch0.env 0 0 0
theorem w_frames : about1.frames = Frame.invoking theMethod args0 :: below0 := rfl
set_option maxRecDepth 65536 in
theorem w_args : argsFit about1.vm theMethod args0 = true := by decide +kernel
set_option maxRecDepth 65536 in
theorem w_heap : heapFits about1 = true := by decide +kernel
set_option maxRecDepth 65536 in
theorem w_runnable : about1.curStatus? = some .runnable := by decide +kernel
set_option maxRecDepth 65536 in
theorem w_alone : about1.alone = true := by decide +kernel
set_option maxRecDepth 65536 in
theorem w_named : about1.methodNamed? x = some theMethod := by decide +kernel
set_option maxRecDepth 65536 in
theorem w_hears : about1.hears theMethod below0 = true := by decide +kernel
set_option maxRecDepth 65536 in
theorem w_ripe : about1.ripe theMethod args0 below0 = true := by decide +kernel
theorem w_running : about1.status = .running := rfl
set_option maxRecDepth 65536 in
theorem w_room : about1.hasRoom e0.platform room_1 = true :=
  launch0.hasRoom_least _ room_1 (by decide +kernel) (by decide +kernel) (by decide +kernel) (by decide +kernel) (by decide +kernel) (by decide +kernel)
theorem allAtoms_all (ts : List Jvm.Cond) (a : Array Jvm.Value) (st : Jvm.State) : (allAtoms ts).before a st = ts.all (fun c => c.before a st) := by
  induction ts with
  | nil => rfl
  | cons c t ih =>
    show (Jvm.Cond.and c (allAtoms t)).before a st = _
    rw [Jvm.Cond.before_and, ih, List.all_cons]
def words1 : List Jvm.Cond := Jvm.Cond.code x code maxLocals ret :: tables_1
/-- a 'code' word, met by the world's own term for the bytes: nothing is compared byte by byte -/
theorem code_word {y : MethodName} {bytes : ByteArray} {mx : Nat} {rt : Option FieldType} {a : Array Value} {s : State} {m : MethodId} {meth : Method} {c : Code} (h1 : s.methodNamed? y = some m) (h2 : s.vm.method? m = some meth) (h3 : meth.code = some c) (h4 : c.code = bytes)
    (h5 : (c.maxLocals == mx && c.exceptionTable.isEmpty && decide (c.maxStack ≤ mostOperands) && decide (meth.sig.returnType = rt) && !meth.locks && decide (parseMethodDescriptor y.desc = some meth.sig)) = true) : (Jvm.Cond.code y bytes mx rt).before a s = true := by
  simp only [Bool.and_eq_true, beq_iff_eq, Bool.not_eq_true', decide_eq_true_eq] at h5
  obtain ⟨⟨⟨⟨⟨g1, g2⟩, g3⟩, g4⟩, g5⟩, g6⟩ := h5
  simp [Cond.before, Cond.holds, Cond.value, h1, h2, h3, h4, g1, g2, g3, g4, g5, g6]
def isCode : Jvm.Cond → Bool
  | .code _ _ _ _ => true
  | _ => false
theorem all_split {L : List Jvm.Cond} {P : Jvm.Cond → Bool} (h1 : L.all (fun c => isCode c || P c) = true) (h2 : ∀ c ∈ L.filter isCode, P c = true) : L.all P = true := by
  refine List.all_eq_true.mpr fun c hc => ?_
  have h := List.all_eq_true.mp h1 c hc
  rcases Bool.eq_false_or_eq_true (isCode c) with hi | hi
  · exact h2 c (List.mem_filter.mpr ⟨hc, hi⟩)
  · simpa [hi] using h
set_option maxRecDepth 65536 in
theorem w_c0 : (Jvm.Cond.code x code maxLocals ret).before args0 about1 = true := code_word (m := ⟨1, 1⟩) (meth := k1m1) (c := k1c1) (by decide +kernel) rfl rfl rfl (by decide +kernel)
set_option maxRecDepth 65536 in
theorem w_c1 : (Jvm.Cond.code ({ cls := "com/example/enlace/enlace/graph/LineFields", name := "<init>", desc := "()V" } : Jvm.MethodName) prog_21_method_1_code (1 : Nat) (Option.none : Option Jvm.ClassFile.FieldType)).before args0 about1 = true := code_word (m := ⟨2, 0⟩) (meth := k2m0) (c := k2c0) (by decide +kernel) rfl rfl rfl (by decide +kernel)
set_option maxRecDepth 65536 in
theorem w_c2 : (Jvm.Cond.code ({ cls := "java/lang/Object", name := "<init>", desc := "()V" } : Jvm.MethodName) object_method_1_code (1 : Nat) (Option.none : Option Jvm.ClassFile.FieldType)).before args0 about1 = true := code_word (m := ⟨0, 0⟩) (meth := k0m0) (c := k0c0) (by decide +kernel) rfl rfl rfl (by decide +kernel)
set_option maxRecDepth 65536 in
theorem w_c3 : (Jvm.Cond.code ({ cls := "com/example/enlace/enlace/graph/LineFields", name := "reset", desc := "([BII)V" } : Jvm.MethodName) prog_21_method_3_code (6 : Nat) (Option.none : Option Jvm.ClassFile.FieldType)).before args0 about1 = true := code_word (m := ⟨2, 1⟩) (meth := k2m1) (c := k2c1) (by decide +kernel) rfl rfl rfl (by decide +kernel)
set_option maxRecDepth 65536 in
theorem w_c4 : (Jvm.Cond.code ({ cls := "com/example/enlace/enlace/graph/LineFields", name := "skipBlanks", desc := "(I)I" } : Jvm.MethodName) prog_21_method_12_code (3 : Nat) (Option.some Jvm.ClassFile.FieldType.int)).before args0 about1 = true := code_word (m := ⟨2, 6⟩) (meth := k2m6) (c := k2c6) (by decide +kernel) rfl rfl rfl (by decide +kernel)
set_option maxRecDepth 65536 in
theorem w_c5 : (Jvm.Cond.code ({ cls := "com/example/enlace/enlace/graph/LineFields", name := "bytes", desc := "()[B" } : Jvm.MethodName) prog_21_method_7_code (1 : Nat) (Option.some (Jvm.ClassFile.FieldType.array Jvm.ClassFile.FieldType.byte))).before args0 about1 = true := code_word (m := ⟨2, 3⟩) (meth := k2m3) (c := k2c3) (by decide +kernel) rfl rfl rfl (by decide +kernel)
set_option maxRecDepth 65536 in
theorem w_c6 : (Jvm.Cond.code ({ cls := "com/example/enlace/enlace/graph/LineFields", name := "fieldStart", desc := "()I" } : Jvm.MethodName) prog_21_method_8_code (1 : Nat) (Option.some Jvm.ClassFile.FieldType.int)).before args0 about1 = true := code_word (m := ⟨2, 4⟩) (meth := k2m4) (c := k2c4) (by decide +kernel) rfl rfl rfl (by decide +kernel)
set_option maxRecDepth 65536 in
theorem w_c7 : (Jvm.Cond.code ({ cls := "com/example/enlace/enlace/graph/LineFields", name := "fieldEnd", desc := "()I" } : Jvm.MethodName) prog_21_method_9_code (1 : Nat) (Option.some Jvm.ClassFile.FieldType.int)).before args0 about1 = true := code_word (m := ⟨2, 5⟩) (meth := k2m5) (c := k2c5) (by decide +kernel) rfl rfl rfl (by decide +kernel)
set_option maxRecDepth 65536 in
theorem w_c8 : (Jvm.Cond.code ({ cls := "com/example/enlace/enlace/graph/LineFields", name := "advance", desc := "()Z" } : Jvm.MethodName) prog_21_method_4_code (3 : Nat) (Option.some Jvm.ClassFile.FieldType.boolean)).before args0 about1 = true := code_word (m := ⟨2, 2⟩) (meth := k2m2) (c := k2c2) (by decide +kernel) rfl rfl rfl (by decide +kernel)
set_option maxRecDepth 65536 in
theorem w_c9 : (Jvm.Cond.code ({ cls := "com/example/enlace/enlace/graph/LineFieldsResetPinLaw", name := "blankByte", desc := "(II)B" } : Jvm.MethodName) method_5_code (2 : Nat) (Option.some Jvm.ClassFile.FieldType.byte)).before args0 about1 = true := code_word (m := ⟨1, 4⟩) (meth := k1m4) (c := k1c4) (by decide +kernel) rfl rfl rfl (by decide +kernel)
set_option maxRecDepth 65536 in
theorem w_c10 : (Jvm.Cond.code ({ cls := "com/example/enlace/enlace/graph/LineFields", name := "isBlank", desc := "(B)Z" } : Jvm.MethodName) prog_21_method_13_code (1 : Nat) (Option.some Jvm.ClassFile.FieldType.boolean)).before args0 about1 = true := code_word (m := ⟨2, 7⟩) (meth := k2m7) (c := k2c7) (by decide +kernel) rfl rfl rfl (by decide +kernel)
set_option maxRecDepth 65536 in
theorem w_c11 : (Jvm.Cond.code ({ cls := "com/example/enlace/enlace/graph/LineFieldsResetPinLaw", name := "junkByte", desc := "(JI)B" } : Jvm.MethodName) method_3_code (5 : Nat) (Option.some Jvm.ClassFile.FieldType.byte)).before args0 about1 = true := code_word (m := ⟨1, 2⟩) (meth := k1m2) (c := k1c2) (by decide +kernel) rfl rfl rfl (by decide +kernel)
set_option maxRecDepth 65536 in
theorem w_c12 : (Jvm.Cond.code ({ cls := "com/example/enlace/enlace/graph/LineFieldsResetPinLaw", name := "fieldByte", desc := "(II)B" } : Jvm.MethodName) method_4_code (5 : Nat) (Option.some Jvm.ClassFile.FieldType.byte)).before args0 about1 = true := code_word (m := ⟨1, 3⟩) (meth := k1m3) (c := k1c3) (by decide +kernel) rfl rfl rfl (by decide +kernel)
def codes1 : List Jvm.Cond := [Jvm.Cond.code x code maxLocals ret, Jvm.Cond.code ({ cls := "com/example/enlace/enlace/graph/LineFields", name := "<init>", desc := "()V" } : Jvm.MethodName) prog_21_method_1_code (1 : Nat) (Option.none : Option Jvm.ClassFile.FieldType), Jvm.Cond.code ({ cls := "java/lang/Object", name := "<init>", desc := "()V" } : Jvm.MethodName) object_method_1_code (1 : Nat) (Option.none : Option Jvm.ClassFile.FieldType), Jvm.Cond.code ({ cls := "com/example/enlace/enlace/graph/LineFields", name := "reset", desc := "([BII)V" } : Jvm.MethodName) prog_21_method_3_code (6 : Nat) (Option.none : Option Jvm.ClassFile.FieldType), Jvm.Cond.code ({ cls := "com/example/enlace/enlace/graph/LineFields", name := "skipBlanks", desc := "(I)I" } : Jvm.MethodName) prog_21_method_12_code (3 : Nat) (Option.some Jvm.ClassFile.FieldType.int), Jvm.Cond.code ({ cls := "com/example/enlace/enlace/graph/LineFields", name := "bytes", desc := "()[B" } : Jvm.MethodName) prog_21_method_7_code (1 : Nat) (Option.some (Jvm.ClassFile.FieldType.array Jvm.ClassFile.FieldType.byte)), Jvm.Cond.code ({ cls := "com/example/enlace/enlace/graph/LineFields", name := "fieldStart", desc := "()I" } : Jvm.MethodName) prog_21_method_8_code (1 : Nat) (Option.some Jvm.ClassFile.FieldType.int), Jvm.Cond.code ({ cls := "com/example/enlace/enlace/graph/LineFields", name := "fieldEnd", desc := "()I" } : Jvm.MethodName) prog_21_method_9_code (1 : Nat) (Option.some Jvm.ClassFile.FieldType.int), Jvm.Cond.code ({ cls := "com/example/enlace/enlace/graph/LineFields", name := "advance", desc := "()Z" } : Jvm.MethodName) prog_21_method_4_code (3 : Nat) (Option.some Jvm.ClassFile.FieldType.boolean), Jvm.Cond.code ({ cls := "com/example/enlace/enlace/graph/LineFieldsResetPinLaw", name := "blankByte", desc := "(II)B" } : Jvm.MethodName) method_5_code (2 : Nat) (Option.some Jvm.ClassFile.FieldType.byte), Jvm.Cond.code ({ cls := "com/example/enlace/enlace/graph/LineFields", name := "isBlank", desc := "(B)Z" } : Jvm.MethodName) prog_21_method_13_code (1 : Nat) (Option.some Jvm.ClassFile.FieldType.boolean), Jvm.Cond.code ({ cls := "com/example/enlace/enlace/graph/LineFieldsResetPinLaw", name := "junkByte", desc := "(JI)B" } : Jvm.MethodName) method_3_code (5 : Nat) (Option.some Jvm.ClassFile.FieldType.byte), Jvm.Cond.code ({ cls := "com/example/enlace/enlace/graph/LineFieldsResetPinLaw", name := "fieldByte", desc := "(II)B" } : Jvm.MethodName) method_4_code (5 : Nat) (Option.some Jvm.ClassFile.FieldType.byte)]
set_option maxRecDepth 65536 in
theorem codes_eq : words1.filter isCode = codes1 := rfl
theorem w_codes : ∀ c ∈ words1.filter isCode, c.before args0 about1 = true := by
  rw [codes_eq]
  intro c hc
  simp only [codes1, List.mem_cons, List.not_mem_nil, or_false] at hc
  rcases hc with rfl | rfl | rfl | rfl | rfl | rfl | rfl | rfl | rfl | rfl | rfl | rfl | rfl
  · exact w_c0
  · exact w_c1
  · exact w_c2
  · exact w_c3
  · exact w_c4
  · exact w_c5
  · exact w_c6
  · exact w_c7
  · exact w_c8
  · exact w_c9
  · exact w_c10
  · exact w_c11
  · exact w_c12
set_option maxRecDepth 65536 in
theorem w_t1 : (words1.take 24).all (fun c => isCode c || c.before args0 about1) = true := by decide +kernel
set_option maxRecDepth 65536 in
theorem w_t2 : ((words1.drop 24).take 24).all (fun c => isCode c || c.before args0 about1) = true := by decide +kernel
set_option maxRecDepth 65536 in
theorem w_t3 : ((words1.drop 24).drop 24).all (fun c => isCode c || c.before args0 about1) = true := by decide +kernel
theorem w_tables : (allAtoms (Jvm.Cond.code x code maxLocals ret :: tables_1)).before args0 about1 = true := by
  rw [allAtoms_all]
  show words1.all (fun c => c.before args0 about1) = true
  refine all_split ?_ w_codes
  rw [← List.take_append_drop 24 words1, List.all_append, w_t1, ← List.take_append_drop 24 (words1.drop 24), List.all_append, w_t2, w_t3]
  rfl
set_option maxRecDepth 65536 in
theorem w_case : (Jvm.Cond.and given_1 narrow_1).before args0 about1 = true := by decide +kernel
theorem w_applies : (headSpec (Jvm.Cond.code x code maxLocals ret :: tables_1) room_1).applies x e0.platform about1 = true :=
  (Spec.applies_iff w_frames).mpr ⟨w_running, w_runnable, w_alone, w_named, w_hears, w_ripe, w_room, w_tables⟩
theorem atStart : AtStart classFile x code maxLocals ret World_1 tables_1 room_1 Calls_1 rest_1 Pre_1 launch0 p0 e0 about1 theMethod args0 below0 :=
  ⟨lists_1, trivial, launch0.admits_env _ _ _, launch0.least_env, fairChoices_fair.cas, fairChoices_fair.clock, w_frames, w_args, w_heap, w_applies, trivial, trivial, w_case⟩
end start1
theorem witness_1 : WitnessClaimed_1 := ⟨start1.p0, start1.e0, start1.about1, start1.theMethod, start1.args0, start1.below0, start1.atStart⟩
end Jvm.Pilot.@@N@@
