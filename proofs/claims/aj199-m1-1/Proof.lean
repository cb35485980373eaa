import JvmDerived
import JvmDerived.Pilot.@@N@@Statement
import JvmDerived.Pilot.@@N@@Code
set_option linter.unusedVariables false
set_option linter.unusedSimpArgs false
namespace Jvm.Pilot.@@N@@
open Jvm Jvm.ClassFile Sem Op Lib Jvm.Free Jvm.Stand Jvm.LawKit Jvm.RoadKit Bundle Jvm.Pilot.@@N@@.Jvm.D
section OwnGo
variable {p : Program} {l : Launch} {e : Env} {R : Room} {s : State} {m : MethodId} {args : Array Value} {below : List Frame} {meth : Method} {c : Code} {T : State} {locs : List Loc} {cells slots : Nat}
/-- from S the run ends, returned, with Q -/
def own_Go (p : Program) (e : Env) (below : List Frame) (s : State) (Q : Option Value → Heap → List Loc → Prop) (cs ss : Nat) (S : State) : Prop :=
  ∃ (U : State) (o : Outcome), Steps p.tables e below S U ∧ U.status = .running ∧ Ended U below o ∧ ∃ v L, o = .returned v ∧ Q v U.heap L ∧ FrameEnd s o U L cs ss
variable {Q : Option Value → Heap → List Loc → Prop} {cs ss : Nat} {S S' : State}
theorem own_via (st : ∀ t, Steps p.tables e below S' t → Steps p.tables e below S t) (k : own_Go p e below s Q cs ss S') : own_Go p e below s Q cs ss S := by
  obtain ⟨U, o, h, r⟩ := k; exact ⟨U, o, st U h, r⟩
theorem own_viaT (st : Steps p.tables e below S S') (k : own_Go p e below s Q cs ss S') : own_Go p e below s Q cs ss S := own_via (fun _ h => st.trans h) k
theorem own_goV (X : Stand p l e R s m args below meth c T locs cells slots) (hx : p.tables.exec = Jvm.exec) {pc : Nat} {Ls : Array Slot} (hret : meth.sig.returnType = none) (hd : decode c.code pc = .ok (.return_, 1)) (hk : meth.locks = false) (hc : cells ≤ cs) (hs : slots ≤ ss) (hQ : Q none T.heap locs) :
    own_Go p e below s Q cs ss (T.setTop (mkF m pc Ls [])) := by
  obtain ⟨fs, hr, hrun, hended, hW, hsame⟩ := X.leave (v := none) (fun _ => rfl) hk
  exact ⟨_, _, X.returnOut hx hret hd hr, hrun, hended, _, _, rfl, hQ, ⟨_, rfl⟩, hW, hsame.mono hc hs⟩
theorem own_goN (X : Stand p l e R s m args below meth c T locs cells slots) (hx : p.tables.exec = Jvm.exec) {pc : Nat} {Ls : Array Slot} {z : Int32} {t : FieldType} {rest : List Value} (hret : meth.sig.returnType = some t) (ht : t = .boolean ∨ t = .byte ∨ t = .char ∨ t = .short) (hd : decode c.code pc = .ok (.ireturn, 1)) (hk : meth.locks = false) (hc : cells ≤ cs) (hs : slots ≤ ss) (hQ : Q (some (.int (nar t z))) T.heap locs) :
    own_Go p e below s Q cs ss (T.setTop (mkF m pc Ls (.int z :: rest))) := by
  obtain ⟨fs, hr, hrun, hended, hW, hsame⟩ := X.leave (v := some (.int (nar t z))) (fun h => by rw [hret] at h; cases h) hk
  exact ⟨_, _, retN X hx hret ht hd hr, hrun, hended, _, _, rfl, hQ, ⟨_, rfl⟩, hW, hsame.mono hc hs⟩
theorem own_goI (X : Stand p l e R s m args below meth c T locs cells slots) (hx : p.tables.exec = Jvm.exec) {pc : Nat} {Ls : Array Slot} {z : Int32} (hret : meth.sig.returnType = some .int) (hd : decode c.code pc = .ok (.ireturn, 1)) (hk : meth.locks = false) (hc : cells ≤ cs) (hs : slots ≤ ss) (hQ : Q (some (.int z)) T.heap locs) :
    own_Go p e below s Q cs ss (T.setTop (mkF m pc Ls [.int z])) := by
  obtain ⟨fs, hr, hrun, hended, hW, hsame⟩ := X.leave (v := some (.int z)) (fun h => by rw [hret] at h; cases h) hk
  exact ⟨_, _, X.ireturnOut hx hret rfl (Or.inl rfl) hd hr, hrun, hended, _, _, rfl, hQ, ⟨_, rfl⟩, hW, hsame.mono hc hs⟩
theorem own_goJ (X : Stand p l e R s m args below meth c T locs cells slots) (hx : p.tables.exec = Jvm.exec) {pc : Nat} {Ls : Array Slot} {z : Int64} (hret : meth.sig.returnType = some .long) (hd : decode c.code pc = .ok (.lreturn, 1)) (hk : meth.locks = false) (hc : cells ≤ cs) (hs : slots ≤ ss) (hQ : Q (some (.long z)) T.heap locs) :
    own_Go p e below s Q cs ss (T.setTop (mkF m pc Ls [.long z])) := by
  obtain ⟨fs, hr, hrun, hended, hW, hsame⟩ := X.leave (v := some (.long z)) (fun h => by rw [hret] at h; cases h) hk
  exact ⟨_, _, X.lreturnOut hx hret hd hr, hrun, hended, _, _, rfl, hQ, ⟨_, rfl⟩, hW, hsame.mono hc hs⟩
theorem own_goA (X : Stand p l e R s m args below meth c T locs cells slots) (hx : p.tables.exec = Jvm.exec) {pc : Nat} {Ls : Array Slot} {w : Value} {t : FieldType} (hw : w.isRef = true) (hret : meth.sig.returnType = some t) (ht : t.isReference = true) (hd : decode c.code pc = .ok (.areturn, 1)) (hk : meth.locks = false) (hc : cells ≤ cs) (hs : slots ≤ ss) (hQ : Q (some w) T.heap locs) :
    own_Go p e below s Q cs ss (T.setTop (mkF m pc Ls [w])) := by
  obtain ⟨fs, hr, hrun, hended, hW, hsame⟩ := X.leave (v := some w) (fun h => by rw [hret] at h; cases h) hk
  exact ⟨_, _, X.areturnOut hx hw hret ht hd hr, hrun, hended, _, _, rfl, hQ, ⟨_, rfl⟩, hW, hsame.mono hc hs⟩
theorem own_selP {s : State} {args : Array Value} {y y' : MethodName} (hs : (Cond.selects y'.cls y' y').before args s = true) (hc : y'.cls = y.cls) (hpriv : s.PrivateAt y) (hinst : (Cond.instanceMethod y).before args s = true) (hy : y.cls ≠ "java/lang/invoke/MethodHandle" ∧ y.cls ≠ "java/lang/invoke/VarHandle") : (Cond.selects y.cls y y).before args s = true := by
  obtain ⟨c2, r2, m2, -, -, q3, -, kP, hkP, hkPi⟩ := Cond.selects_spec hs
  exact selects_self_of_private (hc ▸ findClass_of_methodNamed q3) hkP hkPi hpriv hinst hy
end OwnGo
def o_i2l (x : Int32) : Int64 := x.toInt64
def o_l2i (x : Int64) : Int32 := x.toInt32
def o_i2b (x : Int32) : Int32 := x.toInt8.toInt32
def o_i2s (x : Int32) : Int32 := x.toInt16.toInt32
def o_i2c (x : Int32) : Int32 := x.toUInt32.toUInt16.toUInt32.toInt32
def o_ishl (x y : Int32) : Int32 := x <<< (y &&& 31)
def o_ishr (x y : Int32) : Int32 := x >>> (y &&& 31)
def o_iushr (x y : Int32) : Int32 := (x.toUInt32 >>> (y &&& 31).toUInt32).toInt32
def o_lshl (x : Int64) (y : Int32) : Int64 := x <<< (y &&& 0x3f).toInt64
def o_lshr (x : Int64) (y : Int32) : Int64 := x >>> (y &&& 0x3f).toInt64
def o_lushr (x : Int64) (y : Int32) : Int64 := (x.toUInt64 >>> (y &&& 0x3f).toInt64.toUInt64).toInt64
def o_irem (x y : Int32) : Int32 := x - (x / y) * y
def o_lrem (x y : Int64) : Int64 := x - (x / y) * y
def o_d0 : UInt64 := FP.dconst0
def o_d1 : UInt64 := FP.dconst1
section OwnNums
/-- the unsigned number behind an int, a long -/
abbrev own_n (x : Int32) : Nat := x.toBitVec.toNat
abbrev own_N (x : Int64) : Nat := x.toBitVec.toNat
theorem own_n_lt (x : Int32) : own_n x < 4294967296 := x.toBitVec.isLt
theorem own_N_lt (x : Int64) : own_N x < 18446744073709551616 := x.toBitVec.isLt
theorem own_n_inj {x y : Int32} : x = y ↔ own_n x = own_n y := ⟨fun h => by rw [h], fun h => Int32.toBitVec_inj.mp (BitVec.eq_of_toNat_eq h)⟩
theorem own_N_inj {x y : Int64} : x = y ↔ own_N x = own_N y := ⟨fun h => by rw [h], fun h => Int64.toBitVec_inj.mp (BitVec.eq_of_toNat_eq h)⟩
theorem own_n_int (x : Int32) : x.toInt = if own_n x < 2147483648 then (own_n x : Int) else (own_n x : Int) - 4294967296 := by
  have h := BitVec.toInt_eq_toNat_cond x.toBitVec
  have h2 : x.toBitVec.toInt = x.toInt := rfl
  rw [← h2, h]; simp only [own_n]; split <;> split <;> omega
theorem own_N_int (x : Int64) : x.toInt = if own_N x < 9223372036854775808 then (own_N x : Int) else (own_N x : Int) - 18446744073709551616 := by
  have h := BitVec.toInt_eq_toNat_cond x.toBitVec
  have h2 : x.toBitVec.toInt = x.toInt := rfl
  rw [← h2, h]; simp only [own_N]; split <;> split <;> omega
theorem own_n_add (x y : Int32) : own_n (x + y) = (own_n x + own_n y) % 4294967296 := by simp only [own_n, Int32.toBitVec_add, BitVec.toNat_add]
theorem own_N_add (x y : Int64) : own_N (x + y) = (own_N x + own_N y) % 18446744073709551616 := by simp only [own_N, Int64.toBitVec_add, BitVec.toNat_add]
theorem own_n_sub (x y : Int32) : own_n (x - y) = (4294967296 - own_n y + own_n x) % 4294967296 := by simp only [own_n, Int32.toBitVec_sub, BitVec.toNat_sub]
theorem own_N_sub (x y : Int64) : own_N (x - y) = (18446744073709551616 - own_N y + own_N x) % 18446744073709551616 := by simp only [own_N, Int64.toBitVec_sub, BitVec.toNat_sub]
theorem own_n_mul (x y : Int32) : own_n (x * y) = (own_n x * own_n y) % 4294967296 := by simp only [own_n, Int32.toBitVec_mul, BitVec.toNat_mul]
theorem own_N_mul (x y : Int64) : own_N (x * y) = (own_N x * own_N y) % 18446744073709551616 := by simp only [own_N, Int64.toBitVec_mul, BitVec.toNat_mul]
theorem own_n_and (x y : Int32) : own_n (x &&& y) = own_n x &&& own_n y := by simp only [own_n, Int32.toBitVec_and, BitVec.toNat_and]
theorem own_N_and (x y : Int64) : own_N (x &&& y) = own_N x &&& own_N y := by simp only [own_N, Int64.toBitVec_and, BitVec.toNat_and]
theorem own_n_or (x y : Int32) : own_n (x ||| y) = own_n x ||| own_n y := by simp only [own_n, Int32.toBitVec_or, BitVec.toNat_or]
theorem own_N_or (x y : Int64) : own_N (x ||| y) = own_N x ||| own_N y := by simp only [own_N, Int64.toBitVec_or, BitVec.toNat_or]
theorem own_n_xor (x y : Int32) : own_n (x ^^^ y) = own_n x ^^^ own_n y := by simp only [own_n, Int32.toBitVec_xor, BitVec.toNat_xor]
theorem own_N_xor (x y : Int64) : own_N (x ^^^ y) = own_N x ^^^ own_N y := by simp only [own_N, Int64.toBitVec_xor, BitVec.toNat_xor]
theorem own_N_lushr (x : Int64) (q : Int32) (k : Nat) (hk : own_n q % 64 = k) : own_N (o_lushr x q) = own_N x / 2 ^ k := by
  have h1 := (sm64 q k hk).1
  have h2 := (sm64 q k hk).2
  show (x.toBitVec >>> ((q &&& 0x3f).toInt64.toBitVec % 64)).toNat = _
  rw [h1]
  have h3 : (BitVec.ofNat 64 k % 64).toNat = k := by
    rw [BitVec.toNat_umod, BitVec.toNat_ofNat]; simp; omega
  rw [BitVec.ushiftRight_eq', BitVec.toNat_ushiftRight, h3, Nat.shiftRight_eq_div_pow]
theorem own_N_lshl (x : Int64) (q : Int32) (k : Nat) (hk : own_n q % 64 = k) : own_N (o_lshl x q) = own_N x * 2 ^ k % 18446744073709551616 := by
  have h1 := (sm64 q k hk).1
  have h2 := (sm64 q k hk).2
  show (x.toBitVec <<< ((q &&& 0x3f).toInt64.toBitVec.smod 64)).toNat = _
  rw [h1, BitVec.shiftLeft_eq', smod64 k h2, BitVec.toNat_shiftLeft, Nat.shiftLeft_eq]
theorem own_n_iushr (x : Int32) (q : Int32) (k : Nat) (hk : own_n q % 32 = k) : own_n (o_iushr x q) = own_n x / 2 ^ k := by
  have h1 : (q &&& 31).toBitVec.toNat = k := by
    show (q.toBitVec &&& (31 : Int32).toBitVec).toNat = _
    rw [BitVec.toNat_and]
    show q.toBitVec.toNat &&& (2 ^ 5 - 1) = k
    rw [Nat.and_two_pow_sub_one_eq_mod]; exact hk
  have h2 : k < 32 := by omega
  show (x.toBitVec >>> ((q &&& 31).toBitVec % 32)).toNat = _
  have h3 : ((q &&& 31).toBitVec % 32).toNat = k := by
    rw [BitVec.toNat_umod, h1]; simp; omega
  rw [BitVec.ushiftRight_eq', BitVec.toNat_ushiftRight, h3, Nat.shiftRight_eq_div_pow]
theorem own_n_ishl (x : Int32) (q : Int32) (k : Nat) (hk : own_n q % 32 = k) : own_n (o_ishl x q) = own_n x * 2 ^ k % 4294967296 := by
  have h1 : (q &&& 31).toBitVec.toNat = k := by
    show (q.toBitVec &&& (31 : Int32).toBitVec).toNat = _
    rw [BitVec.toNat_and]
    show q.toBitVec.toNat &&& (2 ^ 5 - 1) = k
    rw [Nat.and_two_pow_sub_one_eq_mod]; exact hk
  have h2 : k < 32 := by omega
  show (x.toBitVec <<< ((q &&& 31).toBitVec.smod 32)).toNat = _
  have h4 : (q &&& 31).toBitVec = BitVec.ofNat 32 k := by apply BitVec.eq_of_toNat_eq; rw [h1, BitVec.toNat_ofNat]; omega
  have h5 : ∀ k : Fin 32, ((BitVec.ofNat 32 k.val).smod 32).toNat = k.val := by decide +kernel
  rw [h4, BitVec.shiftLeft_eq', h5 ⟨k, h2⟩, BitVec.toNat_shiftLeft, Nat.shiftLeft_eq]
theorem own_n_mod (x y : Int32) (h : (x.toInt - y.toInt) % 256 = 0) : own_n x % 256 = own_n y % 256 := by
  have h1 := own_n_int x; have h2 := own_n_int y; have h3 := own_n_lt x; have h4 := own_n_lt y
  split at h1 <;> split at h2 <;> omega
theorem own_i2b_n (x : Int32) : own_n (o_i2b x) % 256 = own_n x % 256 := own_n_mod _ _ (c_i2b x).1
theorem own_nb (x : Int32) : nar .byte (o_i2b x) = o_i2b x := by simp [nar, o_i2b]
theorem own_n_ff (x : Int32) : own_n (x &&& 255) = own_n x % 256 := by
  rw [own_n_and]; show own_n x &&& (2 ^ 8 - 1) = _; rw [Nat.and_two_pow_sub_one_eq_mod]
theorem own_i2l (x : Int32) : (o_i2l x).toInt = x.toInt := Int32.toInt_toInt64 x
theorem own_N_i2l (x : Int32) (h : 0 ≤ x.toInt) : own_N (o_i2l x) = own_n x := by
  have h1 := own_i2l x
  rw [own_N_int, own_n_int] at h1
  have h2 := own_n_lt x
  have h3 := own_N_lt (o_i2l x)
  have h4 := own_n_int x
  split at h1 <;> split at h1 <;> omega
theorem own_mask (x : Nat) (k : Nat) : x &&& (2 ^ k - 1) = x % 2 ^ k := Nat.and_two_pow_sub_one_eq_mod x k
theorem own_and_split {k a A m M : Nat} (ha : a < 2 ^ k) (hm : m < 2 ^ k) : (a + 2 ^ k * A) &&& (m + 2 ^ k * M) = (a &&& m) + 2 ^ k * (A &&& M) := by
  have hp : 0 < 2 ^ k := Nat.two_pow_pos k
  have h1 : ((a + 2 ^ k * A) &&& (m + 2 ^ k * M)) / 2 ^ k = A &&& M := by
    rw [Nat.and_div_two_pow, Nat.add_mul_div_left _ _ hp, Nat.add_mul_div_left _ _ hp, Nat.div_eq_of_lt ha, Nat.div_eq_of_lt hm]; simp
  have h2 : ((a + 2 ^ k * A) &&& (m + 2 ^ k * M)) % 2 ^ k = a &&& m := by
    rw [Nat.and_mod_two_pow, Nat.add_mul_mod_self_left, Nat.add_mul_mod_self_left, Nat.mod_eq_of_lt ha, Nat.mod_eq_of_lt hm]
  have h3 := Nat.div_add_mod ((a + 2 ^ k * A) &&& (m + 2 ^ k * M)) (2 ^ k)
  rw [h1, h2] at h3; omega
theorem own_or_add {k a A : Nat} (ha : a < 2 ^ k) : a ||| (A * 2 ^ k) = a + A * 2 ^ k := by
  rw [Nat.or_comm, ← Nat.shiftLeft_eq, ← Nat.shiftLeft_add_eq_or_of_lt ha]; omega
end OwnNums
theorem d4_0 : decode method_3_code 0 = .ok (.iload_n 0, 1) := by decide +kernel
theorem d4_1 : decode method_3_code 1 = .ok (.ifCond .ge 9, 3) := by decide +kernel
theorem d4_4 : decode method_3_code 4 = .ok (.iload_n 0, 1) := by decide +kernel
theorem d4_5 : decode method_3_code 5 = .ok (.i2l, 1) := by decide +kernel
theorem d4_6 : decode method_3_code 6 = .ok (.lneg, 1) := by decide +kernel
theorem d4_7 : decode method_3_code 7 = .ok (.goto 5, 3) := by decide +kernel
theorem d4_12 : decode method_3_code 12 = .ok (.lreturn, 1) := by decide +kernel
theorem d4_10 : decode method_3_code 10 = .ok (.iload_n 0, 1) := by decide +kernel
theorem d4_11 : decode method_3_code 11 = .ok (.i2l, 1) := by decide +kernel
def own_ft (p0 : Int32) : Int64 := (if p0 < (0 : Int32) then (-(o_i2l p0)) else (o_i2l p0))
theorem pn_0 : plainName "com/example/unalike/unalike/engine/TSetsNextPinLaw" = true := by first | (simp [plainName, overriddenIn]; done) | decide +kernel
theorem ef_4 (m : MethodId) (x0 : Int32) : entryFrame m #[(.int x0)] 1 = mkF m 0 #[.val (.int x0)] [] := by first | (simp [entryFrame, mkF, argsToLocals, Value.category]; done) | rfl
def Q4 (Z : State) (p0 : Int32) (h0 : Heap) (n0 : Nat) (v : Option Value) (h : Heap) (L : List Loc) : Prop := v = some (.long (own_ft p0)) ∧ Fr n0 L ∧ h = h0
set_option maxRecDepth 65536 in
set_option maxHeartbeats 40000000 in
theorem rm4 (l : Launch) (Z : State) (a0 : Array Value) (hw : ∀ d ∈ tables_1, d.before a0 Z = true) (ws : List Jvm.Cond) (p0 : Int32) (h0 : Heap) (n0 : Nat) (Z0 : n0 ≤ h0.size) :
    MetFree l (⟨"com/example/unalike/unalike/engine/TSetsNextPinLaw", "feat", "(I)J"⟩ : MethodName) (head1 (Jvm.Cond.code (⟨"com/example/unalike/unalike/engine/TSetsNextPinLaw", "feat", "(I)J"⟩ : MethodName) method_3_code 1 (some .long) :: ws) ({ frames := 0, cells := 0, slots := 0, locals := 0 } : Room)) (fun q_ U => q_ = #[(.int p0)] ∧ Z.Warmed39 U.vm ∧ U.heap = h0) (fun _ _ _ _ _ => True) (fun _ U o U' => ∃ v L, o = .returned v ∧ Q4 Z p0 h0 n0 v U'.heap L ∧ FrameEnd U o U' L ({ frames := 0, cells := 0, slots := 0, locals := 0 } : Room).cells ({ frames := 0, cells := 0, slots := 0, locals := 0 } : Room).slots) := by
  refine MetFree.of_bodySF (plainFor_of_name pn_0) hisR ?_
  intro p e s m args below meth c s₁ Bd hml0 hP hK
  obtain ⟨rfl, hZ, hh⟩ := hP
  have hx := Bd.exec
  have hby := Bd.bytes
  have hml : c.maxLocals = 1 := hml0
  have hown : s.vm.findClass "com/example/unalike/unalike/engine/TSetsNextPinLaw" = some m.cls := findClass_of_methodNamed Bd.named
  have hnm := (name_of_methodNamed Bd.named Bd.method).1
  have X0 : Stand p l e ({ frames := 0, cells := 0, slots := 0, locals := 0 } : Room) s m #[(.int p0)] below meth c s₁ [] 0 0 := Stand.of_body Bd
  have e0 : s₁.heap = h0 := by rw [← hh, Bd.state]; rfl
  have N0 := Fr.nil n0
  show own_Go p e below s (Q4 Z p0 h0 n0) ({ frames := 0, cells := 0, slots := 0, locals := 0 } : Room).cells ({ frames := 0, cells := 0, slots := 0, locals := 0 } : Room).slots (s₁.setTop (entryFrame m #[(.int p0)] 1))
  refine own_via (fun t k => castTop (ef_4 m p0) k) ?_
  show own_Go p e below s _ _ _ (s₁.setTop (mkF m 0 #[.val (.int p0)] []))
  refine own_via (fun _ k => XS.iloadN X0.here hx rfl (hb hby d4_0) rfl k) ?_
  show own_Go p e below s _ _ _ (s₁.setTop (mkF m 1 #[.val (.int p0)] [(.int p0)]))
  by_cases hc1 : p0 < (0 : Int32)
  · refine own_via (fun _ k => XS.ifNo X0.here hx rfl (hb hby d4_1) rfl (Jvm.Free.XT.i0_ge_f hc1) k) ?_
    show own_Go p e below s _ _ _ (s₁.setTop (mkF m 4 #[.val (.int p0)] []))
    refine own_via (fun _ k => XS.iloadN X0.here hx rfl (hb hby d4_4) rfl k) ?_
    show own_Go p e below s _ _ _ (s₁.setTop (mkF m 5 #[.val (.int p0)] [(.int p0)]))
    refine own_via (fun _ k => XS.i2l X0.here hx rfl (hb hby d4_5) rfl k) ?_
    show own_Go p e below s _ _ _ (s₁.setTop (mkF m 6 #[.val (.int p0)] [(.long (o_i2l p0))]))
    refine own_via (fun _ k => XS.lneg X0.here hx rfl (hb hby d4_6) rfl k) ?_
    show own_Go p e below s _ _ _ (s₁.setTop (mkF m 7 #[.val (.int p0)] [(.long (-(o_i2l p0)))]))
    refine own_via (fun _ k => XS.goto X0.here hx rfl (pc0 := 7) (pc' := 12) rfl (hb hby d4_7) (by decide) (by decide) k) ?_
    show own_Go p e below s _ _ _ (s₁.setTop (mkF m 12 #[.val (.int p0)] [(.long (-(o_i2l p0)))]))
    exact own_goJ X0 hx Bd.returns (hb hby d4_12) Bd.notSynchronized (by decide) (by decide) (by rw [e0]; exact ⟨by rw [own_ft, if_pos hc1] <;> rfl, N0, rfl⟩)
  · refine own_via (fun _ k => XS.ifYes X0.here hx rfl (pc0 := 1) (pc' := 10) rfl (hb hby d4_1) rfl (Jvm.Free.XT.i0_ge_t hc1) (by decide) (by decide) k) ?_
    show own_Go p e below s _ _ _ (s₁.setTop (mkF m 10 #[.val (.int p0)] []))
    refine own_via (fun _ k => XS.iloadN X0.here hx rfl (hb hby d4_10) rfl k) ?_
    show own_Go p e below s _ _ _ (s₁.setTop (mkF m 11 #[.val (.int p0)] [(.int p0)]))
    refine own_via (fun _ k => XS.i2l X0.here hx rfl (hb hby d4_11) rfl k) ?_
    show own_Go p e below s _ _ _ (s₁.setTop (mkF m 12 #[.val (.int p0)] [(.long (o_i2l p0))]))
    exact own_goJ X0 hx Bd.returns (hb hby d4_12) Bd.notSynchronized (by decide) (by decide) (by rw [e0]; exact ⟨by rw [own_ft, if_neg hc1] <;> rfl, N0, rfl⟩)
theorem d2_0 : decode method_6_code 0 = .ok (.iload_n 2, 1) := by decide +kernel
theorem d2_1 : decode method_6_code 1 = .ok (.ifCond .ne 5, 3) := by decide +kernel
theorem d2_4 : decode method_6_code 4 = .ok (.lconst 1, 1) := by decide +kernel
theorem d2_5 : decode method_6_code 5 = .ok (.lreturn, 1) := by decide +kernel
theorem d2_6 : decode method_6_code 6 = .ok (.iload_n 2, 1) := by decide +kernel
theorem d2_7 : decode method_6_code 7 = .ok (.iconst 1, 1) := by decide +kernel
theorem d2_8 : decode method_6_code 8 = .ok (.if_icmp .ne 5, 3) := by decide +kernel
theorem d2_11 : decode method_6_code 11 = .ok (.lload_n 0, 1) := by decide +kernel
theorem d2_12 : decode method_6_code 12 = .ok (.lreturn, 1) := by decide +kernel
theorem d2_13 : decode method_6_code 13 = .ok (.iload_n 2, 1) := by decide +kernel
theorem d2_14 : decode method_6_code 14 = .ok (.iconst 2, 1) := by decide +kernel
theorem d2_15 : decode method_6_code 15 = .ok (.if_icmp .ne 13, 3) := by decide +kernel
theorem d2_18 : decode method_6_code 18 = .ok (.lload_n 0, 1) := by decide +kernel
theorem d2_19 : decode method_6_code 19 = .ok (.lload_n 0, 1) := by decide +kernel
theorem d2_20 : decode method_6_code 20 = .ok (.lconst 1, 1) := by decide +kernel
theorem d2_21 : decode method_6_code 21 = .ok (.lsub, 1) := by decide +kernel
theorem d2_22 : decode method_6_code 22 = .ok (.lmul, 1) := by decide +kernel
theorem d2_23 : decode method_6_code 23 = .ok (.ldc2_w 36, 3) := by decide +kernel
theorem d2_26 : decode method_6_code 26 = .ok (.ldiv, 1) := by decide +kernel
theorem d2_27 : decode method_6_code 27 = .ok (.lreturn, 1) := by decide +kernel
theorem d2_28 : decode method_6_code 28 = .ok (.lload_n 0, 1) := by decide +kernel
theorem d2_29 : decode method_6_code 29 = .ok (.lload_n 0, 1) := by decide +kernel
theorem d2_30 : decode method_6_code 30 = .ok (.lconst 1, 1) := by decide +kernel
theorem d2_31 : decode method_6_code 31 = .ok (.lsub, 1) := by decide +kernel
theorem d2_32 : decode method_6_code 32 = .ok (.lmul, 1) := by decide +kernel
theorem d2_33 : decode method_6_code 33 = .ok (.lload_n 0, 1) := by decide +kernel
theorem d2_34 : decode method_6_code 34 = .ok (.ldc2_w 36, 3) := by decide +kernel
theorem d2_37 : decode method_6_code 37 = .ok (.lsub, 1) := by decide +kernel
theorem d2_38 : decode method_6_code 38 = .ok (.lmul, 1) := by decide +kernel
theorem d2_39 : decode method_6_code 39 = .ok (.ldc2_w 38, 3) := by decide +kernel
theorem d2_42 : decode method_6_code 42 = .ok (.ldiv, 1) := by decide +kernel
theorem d2_43 : decode method_6_code 43 = .ok (.lreturn, 1) := by decide +kernel
def own_ch (p0 : Int64) (p1 : Int32) : Int64 := (if p1 = (0 : Int32) then (1 : Int64) else (if p1 = (1 : Int32) then p0 else (if p1 = (2 : Int32) then ((p0 * (p0 - (1 : Int64))) / (2 : Int64)) else (((p0 * (p0 - (1 : Int64))) * (p0 - (2 : Int64))) / (6 : Int64)))))
theorem ef_2 (m : MethodId) (x0 : Int64) (x1 : Int32) : entryFrame m #[(.long x0), (.int x1)] 3 = mkF m 0 #[.val (.long x0), .second, .val (.int x1)] [] := by first | (simp [entryFrame, mkF, argsToLocals, Value.category]; done) | rfl
def Q2 (Z : State) (p0 : Int64) (p1 : Int32) (h0 : Heap) (n0 : Nat) (v : Option Value) (h : Heap) (L : List Loc) : Prop := v = some (.long (own_ch p0 p1)) ∧ Fr n0 L ∧ h = h0
set_option maxRecDepth 65536 in
set_option maxHeartbeats 40000000 in
theorem rm2 (l : Launch) (Z : State) (a0 : Array Value) (hw : ∀ d ∈ tables_1, d.before a0 Z = true) (ws : List Jvm.Cond) (p0 : Int64) (p1 : Int32) (h0 : Heap) (n0 : Nat) (Z0 : n0 ≤ h0.size) :
    MetFree l (⟨"com/example/unalike/unalike/engine/TSetsNextPinLaw", "choose", "(JI)J"⟩ : MethodName) (head1 (Jvm.Cond.code (⟨"com/example/unalike/unalike/engine/TSetsNextPinLaw", "choose", "(JI)J"⟩ : MethodName) method_6_code 3 (some .long) :: ws) ({ frames := 0, cells := 0, slots := 0, locals := 0 } : Room)) (fun q_ U => q_ = #[(.long p0), (.int p1)] ∧ Z.Warmed39 U.vm ∧ U.heap = h0) (fun _ _ _ _ _ => True) (fun _ U o U' => ∃ v L, o = .returned v ∧ Q2 Z p0 p1 h0 n0 v U'.heap L ∧ FrameEnd U o U' L ({ frames := 0, cells := 0, slots := 0, locals := 0 } : Room).cells ({ frames := 0, cells := 0, slots := 0, locals := 0 } : Room).slots) := by
  refine MetFree.of_bodySF (plainFor_of_name pn_0) hisR ?_
  intro p e s m args below meth c s₁ Bd hml0 hP hK
  obtain ⟨rfl, hZ, hh⟩ := hP
  have hx := Bd.exec
  have hby := Bd.bytes
  have hml : c.maxLocals = 3 := hml0
  have hown : s.vm.findClass "com/example/unalike/unalike/engine/TSetsNextPinLaw" = some m.cls := findClass_of_methodNamed Bd.named
  have hnm := (name_of_methodNamed Bd.named Bd.method).1
  have X0 : Stand p l e ({ frames := 0, cells := 0, slots := 0, locals := 0 } : Room) s m #[(.long p0), (.int p1)] below meth c s₁ [] 0 0 := Stand.of_body Bd
  have e0 : s₁.heap = h0 := by rw [← hh, Bd.state]; rfl
  have N0 := Fr.nil n0
  show own_Go p e below s (Q2 Z p0 p1 h0 n0) ({ frames := 0, cells := 0, slots := 0, locals := 0 } : Room).cells ({ frames := 0, cells := 0, slots := 0, locals := 0 } : Room).slots (s₁.setTop (entryFrame m #[(.long p0), (.int p1)] 3))
  refine own_via (fun t k => castTop (ef_2 m p0 p1) k) ?_
  show own_Go p e below s _ _ _ (s₁.setTop (mkF m 0 #[.val (.long p0), .second, .val (.int p1)] []))
  refine own_via (fun _ k => XS.iloadN X0.here hx rfl (hb hby d2_0) rfl k) ?_
  show own_Go p e below s _ _ _ (s₁.setTop (mkF m 1 #[.val (.long p0), .second, .val (.int p1)] [(.int p1)]))
  by_cases hc1 : p1 = (0 : Int32)
  · refine own_via (fun _ k => XS.ifNo X0.here hx rfl (hb hby d2_1) rfl (Jvm.Free.XT.i0_ne_f hc1) k) ?_
    show own_Go p e below s _ _ _ (s₁.setTop (mkF m 4 #[.val (.long p0), .second, .val (.int p1)] []))
    refine own_via (fun _ k => XS.lconst X0.here hx rfl (hb hby d2_4) k) ?_
    show own_Go p e below s _ _ _ (s₁.setTop (mkF m 5 #[.val (.long p0), .second, .val (.int p1)] [(.long (1 : Int64))]))
    exact own_goJ X0 hx Bd.returns (hb hby d2_5) Bd.notSynchronized (by decide) (by decide) (by rw [e0]; exact ⟨by rw [own_ch, if_pos hc1] <;> rfl, N0, rfl⟩)
  · refine own_via (fun _ k => XS.ifYes X0.here hx rfl (pc0 := 1) (pc' := 6) rfl (hb hby d2_1) rfl (Jvm.Free.XT.i0_ne_t hc1) (by decide) (by decide) k) ?_
    show own_Go p e below s _ _ _ (s₁.setTop (mkF m 6 #[.val (.long p0), .second, .val (.int p1)] []))
    refine own_via (fun _ k => XS.iloadN X0.here hx rfl (hb hby d2_6) rfl k) ?_
    show own_Go p e below s _ _ _ (s₁.setTop (mkF m 7 #[.val (.long p0), .second, .val (.int p1)] [(.int p1)]))
    refine own_via (fun _ k => XS.iconst X0.here hx rfl (hb hby d2_7) k) ?_
    show own_Go p e below s _ _ _ (s₁.setTop (mkF m 8 #[.val (.long p0), .second, .val (.int p1)] [(.int (1 : Int32)), (.int p1)]))
    by_cases hc2 : p1 = (1 : Int32)
    · refine own_via (fun _ k => XS.icmpNo X0.here hx rfl (hb hby d2_8) rfl (Jvm.Free.XT.ii_ne_f hc2) k) ?_
      show own_Go p e below s _ _ _ (s₁.setTop (mkF m 11 #[.val (.long p0), .second, .val (.int p1)] []))
      refine own_via (fun _ k => XS.lloadN X0.here hx rfl (hb hby d2_11) rfl k) ?_
      show own_Go p e below s _ _ _ (s₁.setTop (mkF m 12 #[.val (.long p0), .second, .val (.int p1)] [(.long p0)]))
      exact own_goJ X0 hx Bd.returns (hb hby d2_12) Bd.notSynchronized (by decide) (by decide) (by rw [e0]; exact ⟨by rw [own_ch, if_neg hc1, if_pos hc2] <;> rfl, N0, rfl⟩)
    · refine own_via (fun _ k => XS.icmpYes X0.here hx rfl (pc0 := 8) (pc' := 13) rfl (hb hby d2_8) rfl (Jvm.Free.XT.ii_ne_t hc2) (by decide) (by decide) k) ?_
      show own_Go p e below s _ _ _ (s₁.setTop (mkF m 13 #[.val (.long p0), .second, .val (.int p1)] []))
      refine own_via (fun _ k => XS.iloadN X0.here hx rfl (hb hby d2_13) rfl k) ?_
      show own_Go p e below s _ _ _ (s₁.setTop (mkF m 14 #[.val (.long p0), .second, .val (.int p1)] [(.int p1)]))
      refine own_via (fun _ k => XS.iconst X0.here hx rfl (hb hby d2_14) k) ?_
      show own_Go p e below s _ _ _ (s₁.setTop (mkF m 15 #[.val (.long p0), .second, .val (.int p1)] [(.int (2 : Int32)), (.int p1)]))
      by_cases hc3 : p1 = (2 : Int32)
      · refine own_via (fun _ k => XS.icmpNo X0.here hx rfl (hb hby d2_15) rfl (Jvm.Free.XT.ii_ne_f hc3) k) ?_
        show own_Go p e below s _ _ _ (s₁.setTop (mkF m 18 #[.val (.long p0), .second, .val (.int p1)] []))
        refine own_via (fun _ k => XS.lloadN X0.here hx rfl (hb hby d2_18) rfl k) ?_
        show own_Go p e below s _ _ _ (s₁.setTop (mkF m 19 #[.val (.long p0), .second, .val (.int p1)] [(.long p0)]))
        refine own_via (fun _ k => XS.lloadN X0.here hx rfl (hb hby d2_19) rfl k) ?_
        show own_Go p e below s _ _ _ (s₁.setTop (mkF m 20 #[.val (.long p0), .second, .val (.int p1)] [(.long p0), (.long p0)]))
        refine own_via (fun _ k => XS.lconst X0.here hx rfl (hb hby d2_20) k) ?_
        show own_Go p e below s _ _ _ (s₁.setTop (mkF m 21 #[.val (.long p0), .second, .val (.int p1)] [(.long (1 : Int64)), (.long p0), (.long p0)]))
        refine own_via (fun _ k => XS.lsub X0.here hx rfl (hb hby d2_21) rfl k) ?_
        show own_Go p e below s _ _ _ (s₁.setTop (mkF m 22 #[.val (.long p0), .second, .val (.int p1)] [(.long (p0 - (1 : Int64))), (.long p0)]))
        refine own_via (fun _ k => XS.lmul X0.here hx rfl (hb hby d2_22) rfl k) ?_
        show own_Go p e below s _ _ _ (s₁.setTop (mkF m 23 #[.val (.long p0), .second, .val (.int p1)] [(.long (p0 * (p0 - (1 : Int64))))]))
        refine own_via (fun _ k => X0.ldc2Long hx hown (mvT hZ (hw _ (List.mem_of_getElem? (i := 16) rfl))) (g := (mkF m 23 #[.val (.long p0), .second, .val (.int p1)] [(.long (p0 * (p0 - (1 : Int64))))])) rfl (hb hby d2_23) _ k) ?_
        show own_Go p e below s _ _ _ (s₁.setTop (mkF m 26 #[.val (.long p0), .second, .val (.int p1)] [(.long (2 : Int64)), (.long (p0 * (p0 - (1 : Int64))))]))
        refine own_via (fun _ k => XS.ldiv X0.here hx rfl (hb hby d2_26) rfl (by decide) k) ?_
        show own_Go p e below s _ _ _ (s₁.setTop (mkF m 27 #[.val (.long p0), .second, .val (.int p1)] [(.long ((p0 * (p0 - (1 : Int64))) / (2 : Int64)))]))
        exact own_goJ X0 hx Bd.returns (hb hby d2_27) Bd.notSynchronized (by decide) (by decide) (by rw [e0]; exact ⟨by rw [own_ch, if_neg hc1, if_neg hc2, if_pos hc3] <;> rfl, N0, rfl⟩)
      · refine own_via (fun _ k => XS.icmpYes X0.here hx rfl (pc0 := 15) (pc' := 28) rfl (hb hby d2_15) rfl (Jvm.Free.XT.ii_ne_t hc3) (by decide) (by decide) k) ?_
        show own_Go p e below s _ _ _ (s₁.setTop (mkF m 28 #[.val (.long p0), .second, .val (.int p1)] []))
        refine own_via (fun _ k => XS.lloadN X0.here hx rfl (hb hby d2_28) rfl k) ?_
        show own_Go p e below s _ _ _ (s₁.setTop (mkF m 29 #[.val (.long p0), .second, .val (.int p1)] [(.long p0)]))
        refine own_via (fun _ k => XS.lloadN X0.here hx rfl (hb hby d2_29) rfl k) ?_
        show own_Go p e below s _ _ _ (s₁.setTop (mkF m 30 #[.val (.long p0), .second, .val (.int p1)] [(.long p0), (.long p0)]))
        refine own_via (fun _ k => XS.lconst X0.here hx rfl (hb hby d2_30) k) ?_
        show own_Go p e below s _ _ _ (s₁.setTop (mkF m 31 #[.val (.long p0), .second, .val (.int p1)] [(.long (1 : Int64)), (.long p0), (.long p0)]))
        refine own_via (fun _ k => XS.lsub X0.here hx rfl (hb hby d2_31) rfl k) ?_
        show own_Go p e below s _ _ _ (s₁.setTop (mkF m 32 #[.val (.long p0), .second, .val (.int p1)] [(.long (p0 - (1 : Int64))), (.long p0)]))
        refine own_via (fun _ k => XS.lmul X0.here hx rfl (hb hby d2_32) rfl k) ?_
        show own_Go p e below s _ _ _ (s₁.setTop (mkF m 33 #[.val (.long p0), .second, .val (.int p1)] [(.long (p0 * (p0 - (1 : Int64))))]))
        refine own_via (fun _ k => XS.lloadN X0.here hx rfl (hb hby d2_33) rfl k) ?_
        show own_Go p e below s _ _ _ (s₁.setTop (mkF m 34 #[.val (.long p0), .second, .val (.int p1)] [(.long p0), (.long (p0 * (p0 - (1 : Int64))))]))
        refine own_via (fun _ k => X0.ldc2Long hx hown (mvT hZ (hw _ (List.mem_of_getElem? (i := 16) rfl))) (g := (mkF m 34 #[.val (.long p0), .second, .val (.int p1)] [(.long p0), (.long (p0 * (p0 - (1 : Int64))))])) rfl (hb hby d2_34) _ k) ?_
        show own_Go p e below s _ _ _ (s₁.setTop (mkF m 37 #[.val (.long p0), .second, .val (.int p1)] [(.long (2 : Int64)), (.long p0), (.long (p0 * (p0 - (1 : Int64))))]))
        refine own_via (fun _ k => XS.lsub X0.here hx rfl (hb hby d2_37) rfl k) ?_
        show own_Go p e below s _ _ _ (s₁.setTop (mkF m 38 #[.val (.long p0), .second, .val (.int p1)] [(.long (p0 - (2 : Int64))), (.long (p0 * (p0 - (1 : Int64))))]))
        refine own_via (fun _ k => XS.lmul X0.here hx rfl (hb hby d2_38) rfl k) ?_
        show own_Go p e below s _ _ _ (s₁.setTop (mkF m 39 #[.val (.long p0), .second, .val (.int p1)] [(.long ((p0 * (p0 - (1 : Int64))) * (p0 - (2 : Int64))))]))
        refine own_via (fun _ k => X0.ldc2Long hx hown (mvT hZ (hw _ (List.mem_of_getElem? (i := 17) rfl))) (g := (mkF m 39 #[.val (.long p0), .second, .val (.int p1)] [(.long ((p0 * (p0 - (1 : Int64))) * (p0 - (2 : Int64))))])) rfl (hb hby d2_39) _ k) ?_
        show own_Go p e below s _ _ _ (s₁.setTop (mkF m 42 #[.val (.long p0), .second, .val (.int p1)] [(.long (6 : Int64)), (.long ((p0 * (p0 - (1 : Int64))) * (p0 - (2 : Int64))))]))
        refine own_via (fun _ k => XS.ldiv X0.here hx rfl (hb hby d2_42) rfl (by decide) k) ?_
        show own_Go p e below s _ _ _ (s₁.setTop (mkF m 43 #[.val (.long p0), .second, .val (.int p1)] [(.long (((p0 * (p0 - (1 : Int64))) * (p0 - (2 : Int64))) / (6 : Int64)))]))
        exact own_goJ X0 hx Bd.returns (hb hby d2_43) Bd.notSynchronized (by decide) (by decide) (by rw [e0]; exact ⟨by rw [own_ch, if_neg hc1, if_neg hc2, if_neg hc3] <;> rfl, N0, rfl⟩)
theorem d6_0 : decode method_4_code 0 = .ok (.iload_n 0, 1) := by decide +kernel
theorem pd_0 : parseMethodDescriptor "(I)J" = some ⟨[.int], some .long⟩ := by decide +kernel
theorem d6_1 : decode method_4_code 1 = .ok (.invokestatic 28, 3) := by decide +kernel
theorem d6_4 : decode method_4_code 4 = .ok (.lstore_n 2, 1) := by decide +kernel
theorem d6_5 : decode method_4_code 5 = .ok (.lload_n 2, 1) := by decide +kernel
theorem d6_6 : decode method_4_code 6 = .ok (.lconst 1, 1) := by decide +kernel
theorem d6_7 : decode method_4_code 7 = .ok (.lcmp, 1) := by decide +kernel
theorem d6_8 : decode method_4_code 8 = .ok (.ifCond .lt 14, 3) := by decide +kernel
theorem d6_22 : decode method_4_code 22 = .ok (.iconst 0, 1) := by decide +kernel
theorem d6_23 : decode method_4_code 23 = .ok (.ireturn, 1) := by decide +kernel
theorem d6_11 : decode method_4_code 11 = .ok (.lload_n 2, 1) := by decide +kernel
theorem d6_12 : decode method_4_code 12 = .ok (.iload_n 1, 1) := by decide +kernel
theorem d6_13 : decode method_4_code 13 = .ok (.i2l, 1) := by decide +kernel
theorem d6_14 : decode method_4_code 14 = .ok (.lcmp, 1) := by decide +kernel
theorem d6_15 : decode method_4_code 15 = .ok (.ifCond .gt 7, 3) := by decide +kernel
theorem d6_18 : decode method_4_code 18 = .ok (.iconst 1, 1) := by decide +kernel
theorem d6_19 : decode method_4_code 19 = .ok (.goto 4, 3) := by decide +kernel
def own_ir (p0 : Int32) (p1 : Int32) : Int32 := (if (own_ft p0) < (1 : Int64) then (0 : Int32) else (if (o_i2l p1) < (own_ft p0) then (0 : Int32) else (1 : Int32)))
theorem ef_6 (m : MethodId) (x0 : Int32) (x1 : Int32) : entryFrame m #[(.int x0), (.int x1)] 4 = mkF m 0 #[.val (.int x0), .val (.int x1), .unset, .unset] [] := by first | (simp [entryFrame, mkF, argsToLocals, Value.category]; done) | rfl
def Q6 (Z : State) (p0 : Int32) (p1 : Int32) (h0 : Heap) (n0 : Nat) (v : Option Value) (h : Heap) (L : List Loc) : Prop := v = some (.int (own_ir p0 p1)) ∧ Fr n0 L ∧ h = h0
set_option maxRecDepth 65536 in
set_option maxHeartbeats 40000000 in
theorem rm6 (l : Launch) (Z : State) (a0 : Array Value) (hw : ∀ d ∈ tables_1, d.before a0 Z = true) (ws : List Jvm.Cond) (p0 : Int32) (p1 : Int32) (h0 : Heap) (n0 : Nat) (Z0 : n0 ≤ h0.size) :
    MetFree l (⟨"com/example/unalike/unalike/engine/TSetsNextPinLaw", "inRange", "(II)Z"⟩ : MethodName) (head1 (Jvm.Cond.code (⟨"com/example/unalike/unalike/engine/TSetsNextPinLaw", "inRange", "(II)Z"⟩ : MethodName) method_4_code 4 (some .boolean) :: ws) ({ frames := 1, cells := 0, slots := 0, locals := 12 } : Room)) (fun q_ U => q_ = #[(.int p0), (.int p1)] ∧ Z.Warmed39 U.vm ∧ U.heap = h0) (fun _ _ _ _ _ => True) (fun _ U o U' => ∃ v L, o = .returned v ∧ Q6 Z p0 p1 h0 n0 v U'.heap L ∧ FrameEnd U o U' L ({ frames := 1, cells := 0, slots := 0, locals := 12 } : Room).cells ({ frames := 1, cells := 0, slots := 0, locals := 12 } : Room).slots) := by
  refine MetFree.of_bodySF (plainFor_of_name pn_0) hisR ?_
  intro p e s m args below meth c s₁ Bd hml0 hP hK
  obtain ⟨rfl, hZ, hh⟩ := hP
  have hx := Bd.exec
  have hby := Bd.bytes
  have hml : c.maxLocals = 4 := hml0
  have hown : s.vm.findClass "com/example/unalike/unalike/engine/TSetsNextPinLaw" = some m.cls := findClass_of_methodNamed Bd.named
  have hnm := (name_of_methodNamed Bd.named Bd.method).1
  have X0 : Stand p l e ({ frames := 1, cells := 0, slots := 0, locals := 12 } : Room) s m #[(.int p0), (.int p1)] below meth c s₁ [] 0 0 := Stand.of_body Bd
  have e0 : s₁.heap = h0 := by rw [← hh, Bd.state]; rfl
  have N0 := Fr.nil n0
  show own_Go p e below s (Q6 Z p0 p1 h0 n0) ({ frames := 1, cells := 0, slots := 0, locals := 12 } : Room).cells ({ frames := 1, cells := 0, slots := 0, locals := 12 } : Room).slots (s₁.setTop (entryFrame m #[(.int p0), (.int p1)] 4))
  refine own_via (fun t k => castTop (ef_6 m p0 p1) k) ?_
  show own_Go p e below s _ _ _ (s₁.setTop (mkF m 0 #[.val (.int p0), .val (.int p1), .unset, .unset] []))
  refine own_via (fun _ k => XS.iloadN X0.here hx rfl (hb hby d6_0) rfl k) ?_
  show own_Go p e below s _ _ _ (s₁.setTop (mkF m 1 #[.val (.int p0), .val (.int p1), .unset, .unset] [(.int p0)]))
  obtain ⟨_, _, ⟨T1, L1, k1, n1⟩, -, X1, ⟨Lc1, hQ1, l1, y1, z1⟩, st1⟩ := Jvm.LawKit.callS X0 hx (y := (⟨"com/example/unalike/unalike/engine/TSetsNextPinLaw", "feat", "(I)J"⟩ : MethodName)) hown (mvT hZ (hw _ (List.mem_of_getElem? (i := 13) rfl))) (mvT hZ (hw _ (List.mem_of_getElem? (i := 14) rfl))) (mvT hZ (hw _ (List.mem_of_getElem? (i := 4) rfl))) (mvT hZ (hw _ (List.mem_of_getElem? (i := 15) rfl))) (by decide) (backOf (W := 0) (rm4 l Z a0 hw [] p0 h0 n0 Z0 ) hZ (hw _ (List.mem_of_getElem? (i := 15) rfl)) (hw _ (List.mem_of_getElem? (i := 4) rfl)) (by decide) (by decide)) (g := (mkF m 1 #[.val (.int p0), .val (.int p1), .unset, .unset] [(.int p0)])) rfl (by rw [hml]; rfl) (argsL := [(.int p0)]) (rest := []) (lenOf pd_0 rfl) rfl (by show 2 * 0 + _ ≤ _; exact Nat.le_of_eq rfl) (hb hby d6_1) (fun _ _ => ⟨rfl, e0, (by decide : 0 + 0 ≤ _), (by decide : 0 + 0 ≤ _)⟩)
  dsimp only [Pt.U, Pt.locs, Pt.cells, Pt.slots] at X1 l1 y1 z1 st1 hQ1
  subst l1 y1 z1
  obtain ⟨rfl, N1q, e1⟩ := hQ1
  have N1 := Fr.app N0 N1q
  refine own_via st1 ?_
  show own_Go p e below s _ _ _ (T1.setTop (mkF m 4 #[.val (.int p0), .val (.int p1), .unset, .unset] [(.long (own_ft p0))]))
  refine own_via (fun _ k => XS.lstoreN X1.here hx rfl (hb hby d6_4) rfl (l' := #[.val (.int p0), .val (.int p1), .val (.long (own_ft p0)), .second]) rfl k) ?_
  show own_Go p e below s _ _ _ (T1.setTop (mkF m 5 #[.val (.int p0), .val (.int p1), .val (.long (own_ft p0)), .second] []))
  refine own_via (fun _ k => XS.lloadN X1.here hx rfl (hb hby d6_5) rfl k) ?_
  show own_Go p e below s _ _ _ (T1.setTop (mkF m 6 #[.val (.int p0), .val (.int p1), .val (.long (own_ft p0)), .second] [(.long (own_ft p0))]))
  refine own_via (fun _ k => XS.lconst X1.here hx rfl (hb hby d6_6) k) ?_
  show own_Go p e below s _ _ _ (T1.setTop (mkF m 7 #[.val (.int p0), .val (.int p1), .val (.long (own_ft p0)), .second] [(.long (1 : Int64)), (.long (own_ft p0))]))
  refine own_via (fun _ k => XS.lcmp X1.here hx rfl (hb hby d6_7) rfl k) ?_
  show own_Go p e below s _ _ _ (T1.setTop (mkF m 8 #[.val (.int p0), .val (.int p1), .val (.long (own_ft p0)), .second] [(.int (lcmpW (own_ft p0) (1 : Int64)))]))
  by_cases hc2 : (own_ft p0) < (1 : Int64)
  · refine own_via (fun _ k => XS.ifYes X1.here hx rfl (pc0 := 8) (pc' := 22) rfl (hb hby d6_8) rfl (Jvm.Free.XT.ll_lt_t hc2) (by decide) (by decide) k) ?_
    show own_Go p e below s _ _ _ (T1.setTop (mkF m 22 #[.val (.int p0), .val (.int p1), .val (.long (own_ft p0)), .second] []))
    refine own_via (fun _ k => XS.iconst X1.here hx rfl (hb hby d6_22) k) ?_
    show own_Go p e below s _ _ _ (T1.setTop (mkF m 23 #[.val (.int p0), .val (.int p1), .val (.long (own_ft p0)), .second] [(.int (0 : Int32))]))
    exact own_goN X1 hx (t := .boolean) Bd.returns (by simp) (hb hby d6_23) Bd.notSynchronized (by decide) (by decide) (by rw [e1]; exact ⟨by rw [own_ir, if_pos hc2] <;> rfl, N1, rfl⟩)
  · refine own_via (fun _ k => XS.ifNo X1.here hx rfl (hb hby d6_8) rfl (Jvm.Free.XT.ll_lt_f hc2) k) ?_
    show own_Go p e below s _ _ _ (T1.setTop (mkF m 11 #[.val (.int p0), .val (.int p1), .val (.long (own_ft p0)), .second] []))
    refine own_via (fun _ k => XS.lloadN X1.here hx rfl (hb hby d6_11) rfl k) ?_
    show own_Go p e below s _ _ _ (T1.setTop (mkF m 12 #[.val (.int p0), .val (.int p1), .val (.long (own_ft p0)), .second] [(.long (own_ft p0))]))
    refine own_via (fun _ k => XS.iloadN X1.here hx rfl (hb hby d6_12) rfl k) ?_
    show own_Go p e below s _ _ _ (T1.setTop (mkF m 13 #[.val (.int p0), .val (.int p1), .val (.long (own_ft p0)), .second] [(.int p1), (.long (own_ft p0))]))
    refine own_via (fun _ k => XS.i2l X1.here hx rfl (hb hby d6_13) rfl k) ?_
    show own_Go p e below s _ _ _ (T1.setTop (mkF m 14 #[.val (.int p0), .val (.int p1), .val (.long (own_ft p0)), .second] [(.long (o_i2l p1)), (.long (own_ft p0))]))
    refine own_via (fun _ k => XS.lcmp X1.here hx rfl (hb hby d6_14) rfl k) ?_
    show own_Go p e below s _ _ _ (T1.setTop (mkF m 15 #[.val (.int p0), .val (.int p1), .val (.long (own_ft p0)), .second] [(.int (lcmpW (own_ft p0) (o_i2l p1)))]))
    by_cases hc3 : (o_i2l p1) < (own_ft p0)
    · refine own_via (fun _ k => XS.ifYes X1.here hx rfl (pc0 := 15) (pc' := 22) rfl (hb hby d6_15) rfl (Jvm.Free.XT.ll_gt_t hc3) (by decide) (by decide) k) ?_
      show own_Go p e below s _ _ _ (T1.setTop (mkF m 22 #[.val (.int p0), .val (.int p1), .val (.long (own_ft p0)), .second] []))
      refine own_via (fun _ k => XS.iconst X1.here hx rfl (hb hby d6_22) k) ?_
      show own_Go p e below s _ _ _ (T1.setTop (mkF m 23 #[.val (.int p0), .val (.int p1), .val (.long (own_ft p0)), .second] [(.int (0 : Int32))]))
      exact own_goN X1 hx (t := .boolean) Bd.returns (by simp) (hb hby d6_23) Bd.notSynchronized (by decide) (by decide) (by rw [e1]; exact ⟨by rw [own_ir, if_neg hc2, if_pos hc3] <;> rfl, N1, rfl⟩)
    · refine own_via (fun _ k => XS.ifNo X1.here hx rfl (hb hby d6_15) rfl (Jvm.Free.XT.ll_gt_f hc3) k) ?_
      show own_Go p e below s _ _ _ (T1.setTop (mkF m 18 #[.val (.int p0), .val (.int p1), .val (.long (own_ft p0)), .second] []))
      refine own_via (fun _ k => XS.iconst X1.here hx rfl (hb hby d6_18) k) ?_
      show own_Go p e below s _ _ _ (T1.setTop (mkF m 19 #[.val (.int p0), .val (.int p1), .val (.long (own_ft p0)), .second] [(.int (1 : Int32))]))
      refine own_via (fun _ k => XS.goto X1.here hx rfl (pc0 := 19) (pc' := 23) rfl (hb hby d6_19) (by decide) (by decide) k) ?_
      show own_Go p e below s _ _ _ (T1.setTop (mkF m 23 #[.val (.int p0), .val (.int p1), .val (.long (own_ft p0)), .second] [(.int (1 : Int32))]))
      exact own_goN X1 hx (t := .boolean) Bd.returns (by simp) (hb hby d6_23) Bd.notSynchronized (by decide) (by decide) (by rw [e1]; exact ⟨by rw [own_ir, if_neg hc2, if_neg hc3] <;> rfl, N1, rfl⟩)
theorem d1_0 : decode method_7_code 0 = .ok (.lconst 0, 1) := by decide +kernel
theorem d1_1 : decode method_7_code 1 = .ok (.lstore_n 3, 1) := by decide +kernel
theorem d1_2 : decode method_7_code 2 = .ok (.lconst 0, 1) := by decide +kernel
theorem d1_3 : decode method_7_code 3 = .ok (.lstore 5, 2) := by decide +kernel
theorem d1_5 : decode method_7_code 5 = .ok (.iload_n 1, 1) := by decide +kernel
theorem d1_6 : decode method_7_code 6 = .ok (.ifCond .le 35, 3) := by decide +kernel
theorem d1_41 : decode method_7_code 41 = .ok (.iload_n 1, 1) := by decide +kernel
theorem d1_42 : decode method_7_code 42 = .ok (.iconst 1, 1) := by decide +kernel
theorem d1_43 : decode method_7_code 43 = .ok (.if_icmp .le 37, 3) := by decide +kernel
theorem d1_80 : decode method_7_code 80 = .ok (.iload_n 1, 1) := by decide +kernel
theorem d1_81 : decode method_7_code 81 = .ok (.iconst 2, 1) := by decide +kernel
theorem d1_82 : decode method_7_code 82 = .ok (.if_icmp .le 33, 3) := by decide +kernel
theorem d1_115 : decode method_7_code 115 = .ok (.iload_n 2, 1) := by decide +kernel
theorem d1_116 : decode method_7_code 116 = .ok (.i2l, 1) := by decide +kernel
theorem d1_117 : decode method_7_code 117 = .ok (.iload_n 1, 1) := by decide +kernel
theorem pd_1 : parseMethodDescriptor "(JI)J" = some ⟨[.long, .int], some .long⟩ := by decide +kernel
theorem d1_118 : decode method_7_code 118 = .ok (.invokestatic 14, 3) := by decide +kernel
theorem d1_121 : decode method_7_code 121 = .ok (.lconst 1, 1) := by decide +kernel
theorem d1_122 : decode method_7_code 122 = .ok (.lsub, 1) := by decide +kernel
theorem d1_123 : decode method_7_code 123 = .ok (.lload_n 3, 1) := by decide +kernel
theorem d1_124 : decode method_7_code 124 = .ok (.lsub, 1) := by decide +kernel
theorem d1_125 : decode method_7_code 125 = .ok (.lstore 7, 2) := by decide +kernel
theorem d1_127 : decode method_7_code 127 = .ok (.lload 7, 2) := by decide +kernel
theorem d1_129 : decode method_7_code 129 = .ok (.iload_n 1, 1) := by decide +kernel
theorem d1_130 : decode method_7_code 130 = .ok (.lshl, 1) := by decide +kernel
theorem d1_131 : decode method_7_code 131 = .ok (.lload 5, 2) := by decide +kernel
theorem d1_133 : decode method_7_code 133 = .ok (.ladd, 1) := by decide +kernel
theorem d1_134 : decode method_7_code 134 = .ok (.lreturn, 1) := by decide +kernel
def own_rk0 (pn_ : Int32) : Int64 := ((o_lshl (((own_ch (o_i2l pn_) (0 : Int32)) - (1 : Int64)) - (0 : Int64)) (0 : Int32)) + (0 : Int64))
theorem ef_r0 (m : MethodId) (x0 : Addr) (x1 : Int32) (x2 : Int32) : entryFrame m #[(.ref x0), (.int x1), (.int x2)] 9 = mkF m 0 #[.val (.ref x0), .val (.int x1), .val (.int x2), .unset, .unset, .unset, .unset, .unset, .unset] [] := by first | (simp [entryFrame, mkF, argsToLocals, Value.category]; done) | rfl
def Qr0 (Z : State) (b_ : Addr) (pt_ : Int32) (pn_ : Int32) (k_ : ClassId) (d_ : Value) (h0 : Heap) (n0 : Nat) (v : Option Value) (h : Heap) (L : List Loc) : Prop := v = some (.long (own_rk0 pn_)) ∧ Fr n0 L ∧ h = h0
set_option maxRecDepth 65536 in
set_option maxHeartbeats 40000000 in
theorem rmr0 (l : Launch) (Z : State) (a0 : Array Value) (hw : ∀ d ∈ tables_1, d.before a0 Z = true) (ws : List Jvm.Cond) (b_ : Addr) (pt_ : Int32) (pn_ : Int32) (k_ : ClassId) (d_ : Value) (h0 : Heap) (n0 : Nat) (Z0 : n0 ≤ h0.size) (V_b_ : Arv Z h0 b_ k_ .int (0 : Int32) [] d_) (hp1 : pt_ = (0 : Int32)) :
    MetFree l (⟨"com/example/unalike/unalike/engine/TSetsNextPinLaw", "rank", "([III)J"⟩ : MethodName) (head1 (Jvm.Cond.code (⟨"com/example/unalike/unalike/engine/TSetsNextPinLaw", "rank", "([III)J"⟩ : MethodName) method_7_code 9 (some .long) :: ws) ({ frames := 1, cells := 0, slots := 0, locals := 14 } : Room)) (fun q_ U => q_ = #[(.ref b_), (.int pt_), (.int pn_)] ∧ Z.Warmed39 U.vm ∧ U.heap = h0) (fun _ _ _ _ _ => True) (fun _ U o U' => ∃ v L, o = .returned v ∧ Qr0 Z b_ pt_ pn_ k_ d_ h0 n0 v U'.heap L ∧ FrameEnd U o U' L ({ frames := 1, cells := 0, slots := 0, locals := 14 } : Room).cells ({ frames := 1, cells := 0, slots := 0, locals := 14 } : Room).slots) := by
  refine MetFree.of_bodySF (plainFor_of_name pn_0) hisR ?_
  intro p e s m args below meth c s₁ Bd hml0 hP hK
  obtain ⟨rfl, hZ, hh⟩ := hP
  have hx := Bd.exec
  have hby := Bd.bytes
  have hml : c.maxLocals = 9 := hml0
  have hown : s.vm.findClass "com/example/unalike/unalike/engine/TSetsNextPinLaw" = some m.cls := findClass_of_methodNamed Bd.named
  have hnm := (name_of_methodNamed Bd.named Bd.method).1
  have X0 : Stand p l e ({ frames := 1, cells := 0, slots := 0, locals := 14 } : Room) s m #[(.ref b_), (.int pt_), (.int pn_)] below meth c s₁ [] 0 0 := Stand.of_body Bd
  have e0 : s₁.heap = h0 := by rw [← hh, Bd.state]; rfl
  have N0 := Fr.nil n0
  show own_Go p e below s (Qr0 Z b_ pt_ pn_ k_ d_ h0 n0) ({ frames := 1, cells := 0, slots := 0, locals := 14 } : Room).cells ({ frames := 1, cells := 0, slots := 0, locals := 14 } : Room).slots (s₁.setTop (entryFrame m #[(.ref b_), (.int pt_), (.int pn_)] 9))
  refine own_via (fun t k => castTop (ef_r0 m b_ pt_ pn_) k) ?_
  show own_Go p e below s _ _ _ (s₁.setTop (mkF m 0 #[.val (.ref b_), .val (.int pt_), .val (.int pn_), .unset, .unset, .unset, .unset, .unset, .unset] []))
  subst hp1
  show own_Go p e below s _ _ _ (s₁.setTop (mkF m 0 #[.val (.ref b_), .val (.int (0 : Int32)), .val (.int pn_), .unset, .unset, .unset, .unset, .unset, .unset] []))
  refine own_via (fun _ k => XS.lconst X0.here hx rfl (hb hby d1_0) k) ?_
  show own_Go p e below s _ _ _ (s₁.setTop (mkF m 1 #[.val (.ref b_), .val (.int (0 : Int32)), .val (.int pn_), .unset, .unset, .unset, .unset, .unset, .unset] [(.long (0 : Int64))]))
  refine own_via (fun _ k => XS.lstoreN X0.here hx rfl (hb hby d1_1) rfl (l' := #[.val (.ref b_), .val (.int (0 : Int32)), .val (.int pn_), .val (.long (0 : Int64)), .second, .unset, .unset, .unset, .unset]) rfl k) ?_
  show own_Go p e below s _ _ _ (s₁.setTop (mkF m 2 #[.val (.ref b_), .val (.int (0 : Int32)), .val (.int pn_), .val (.long (0 : Int64)), .second, .unset, .unset, .unset, .unset] []))
  refine own_via (fun _ k => XS.lconst X0.here hx rfl (hb hby d1_2) k) ?_
  show own_Go p e below s _ _ _ (s₁.setTop (mkF m 3 #[.val (.ref b_), .val (.int (0 : Int32)), .val (.int pn_), .val (.long (0 : Int64)), .second, .unset, .unset, .unset, .unset] [(.long (0 : Int64))]))
  refine own_via (fun _ k => XS.lstore X0.here hx rfl (hb hby d1_3) rfl (l' := #[.val (.ref b_), .val (.int (0 : Int32)), .val (.int pn_), .val (.long (0 : Int64)), .second, .val (.long (0 : Int64)), .second, .unset, .unset]) rfl k) ?_
  show own_Go p e below s _ _ _ (s₁.setTop (mkF m 5 #[.val (.ref b_), .val (.int (0 : Int32)), .val (.int pn_), .val (.long (0 : Int64)), .second, .val (.long (0 : Int64)), .second, .unset, .unset] []))
  refine own_via (fun _ k => XS.iloadN X0.here hx rfl (hb hby d1_5) rfl k) ?_
  show own_Go p e below s _ _ _ (s₁.setTop (mkF m 6 #[.val (.ref b_), .val (.int (0 : Int32)), .val (.int pn_), .val (.long (0 : Int64)), .second, .val (.long (0 : Int64)), .second, .unset, .unset] [(.int (0 : Int32))]))
  refine own_via (fun _ k => XS.ifYes X0.here hx rfl (pc0 := 6) (pc' := 41) rfl (hb hby d1_6) rfl (Jvm.Free.XT.i0_le_t (by decide)) (by decide) (by decide) k) ?_
  show own_Go p e below s _ _ _ (s₁.setTop (mkF m 41 #[.val (.ref b_), .val (.int (0 : Int32)), .val (.int pn_), .val (.long (0 : Int64)), .second, .val (.long (0 : Int64)), .second, .unset, .unset] []))
  refine own_via (fun _ k => XS.iloadN X0.here hx rfl (hb hby d1_41) rfl k) ?_
  show own_Go p e below s _ _ _ (s₁.setTop (mkF m 42 #[.val (.ref b_), .val (.int (0 : Int32)), .val (.int pn_), .val (.long (0 : Int64)), .second, .val (.long (0 : Int64)), .second, .unset, .unset] [(.int (0 : Int32))]))
  refine own_via (fun _ k => XS.iconst X0.here hx rfl (hb hby d1_42) k) ?_
  show own_Go p e below s _ _ _ (s₁.setTop (mkF m 43 #[.val (.ref b_), .val (.int (0 : Int32)), .val (.int pn_), .val (.long (0 : Int64)), .second, .val (.long (0 : Int64)), .second, .unset, .unset] [(.int (1 : Int32)), (.int (0 : Int32))]))
  refine own_via (fun _ k => XS.icmpYes X0.here hx rfl (pc0 := 43) (pc' := 80) rfl (hb hby d1_43) rfl (Jvm.Free.XT.ii_le_t (by decide)) (by decide) (by decide) k) ?_
  show own_Go p e below s _ _ _ (s₁.setTop (mkF m 80 #[.val (.ref b_), .val (.int (0 : Int32)), .val (.int pn_), .val (.long (0 : Int64)), .second, .val (.long (0 : Int64)), .second, .unset, .unset] []))
  refine own_via (fun _ k => XS.iloadN X0.here hx rfl (hb hby d1_80) rfl k) ?_
  show own_Go p e below s _ _ _ (s₁.setTop (mkF m 81 #[.val (.ref b_), .val (.int (0 : Int32)), .val (.int pn_), .val (.long (0 : Int64)), .second, .val (.long (0 : Int64)), .second, .unset, .unset] [(.int (0 : Int32))]))
  refine own_via (fun _ k => XS.iconst X0.here hx rfl (hb hby d1_81) k) ?_
  show own_Go p e below s _ _ _ (s₁.setTop (mkF m 82 #[.val (.ref b_), .val (.int (0 : Int32)), .val (.int pn_), .val (.long (0 : Int64)), .second, .val (.long (0 : Int64)), .second, .unset, .unset] [(.int (2 : Int32)), (.int (0 : Int32))]))
  refine own_via (fun _ k => XS.icmpYes X0.here hx rfl (pc0 := 82) (pc' := 115) rfl (hb hby d1_82) rfl (Jvm.Free.XT.ii_le_t (by decide)) (by decide) (by decide) k) ?_
  show own_Go p e below s _ _ _ (s₁.setTop (mkF m 115 #[.val (.ref b_), .val (.int (0 : Int32)), .val (.int pn_), .val (.long (0 : Int64)), .second, .val (.long (0 : Int64)), .second, .unset, .unset] []))
  refine own_via (fun _ k => XS.iloadN X0.here hx rfl (hb hby d1_115) rfl k) ?_
  show own_Go p e below s _ _ _ (s₁.setTop (mkF m 116 #[.val (.ref b_), .val (.int (0 : Int32)), .val (.int pn_), .val (.long (0 : Int64)), .second, .val (.long (0 : Int64)), .second, .unset, .unset] [(.int pn_)]))
  refine own_via (fun _ k => XS.i2l X0.here hx rfl (hb hby d1_116) rfl k) ?_
  show own_Go p e below s _ _ _ (s₁.setTop (mkF m 117 #[.val (.ref b_), .val (.int (0 : Int32)), .val (.int pn_), .val (.long (0 : Int64)), .second, .val (.long (0 : Int64)), .second, .unset, .unset] [(.long (o_i2l pn_))]))
  refine own_via (fun _ k => XS.iloadN X0.here hx rfl (hb hby d1_117) rfl k) ?_
  show own_Go p e below s _ _ _ (s₁.setTop (mkF m 118 #[.val (.ref b_), .val (.int (0 : Int32)), .val (.int pn_), .val (.long (0 : Int64)), .second, .val (.long (0 : Int64)), .second, .unset, .unset] [(.int (0 : Int32)), (.long (o_i2l pn_))]))
  obtain ⟨_, _, ⟨T1, L1, k1, n1⟩, -, X1, ⟨Lc1, hQ1, l1, y1, z1⟩, st1⟩ := Jvm.LawKit.callS X0 hx (y := (⟨"com/example/unalike/unalike/engine/TSetsNextPinLaw", "choose", "(JI)J"⟩ : MethodName)) hown (mvT hZ (hw _ (List.mem_of_getElem? (i := 6) rfl))) (mvT hZ (hw _ (List.mem_of_getElem? (i := 7) rfl))) (mvT hZ (hw _ (List.mem_of_getElem? (i := 4) rfl))) (mvT hZ (hw _ (List.mem_of_getElem? (i := 8) rfl))) (by decide) (backOf (W := 0) (rm2 l Z a0 hw [] (o_i2l pn_) (0 : Int32) h0 n0 Z0 ) hZ (hw _ (List.mem_of_getElem? (i := 8) rfl)) (hw _ (List.mem_of_getElem? (i := 4) rfl)) (by decide) (by decide)) (g := (mkF m 118 #[.val (.ref b_), .val (.int (0 : Int32)), .val (.int pn_), .val (.long (0 : Int64)), .second, .val (.long (0 : Int64)), .second, .unset, .unset] [(.int (0 : Int32)), (.long (o_i2l pn_))])) rfl (by rw [hml]; rfl) (argsL := [(.long (o_i2l pn_)), (.int (0 : Int32))]) (rest := []) (lenOf pd_1 rfl) rfl (by show 2 * 0 + _ ≤ _; exact Nat.le_of_eq rfl) (hb hby d1_118) (fun _ _ => ⟨rfl, e0, (by decide : 0 + 0 ≤ _), (by decide : 0 + 0 ≤ _)⟩)
  dsimp only [Pt.U, Pt.locs, Pt.cells, Pt.slots] at X1 l1 y1 z1 st1 hQ1
  subst l1 y1 z1
  obtain ⟨rfl, N1q, e1⟩ := hQ1
  have N1 := Fr.app N0 N1q
  refine own_via st1 ?_
  show own_Go p e below s _ _ _ (T1.setTop (mkF m 121 #[.val (.ref b_), .val (.int (0 : Int32)), .val (.int pn_), .val (.long (0 : Int64)), .second, .val (.long (0 : Int64)), .second, .unset, .unset] [(.long (own_ch (o_i2l pn_) (0 : Int32)))]))
  refine own_via (fun _ k => XS.lconst X1.here hx rfl (hb hby d1_121) k) ?_
  show own_Go p e below s _ _ _ (T1.setTop (mkF m 122 #[.val (.ref b_), .val (.int (0 : Int32)), .val (.int pn_), .val (.long (0 : Int64)), .second, .val (.long (0 : Int64)), .second, .unset, .unset] [(.long (1 : Int64)), (.long (own_ch (o_i2l pn_) (0 : Int32)))]))
  refine own_via (fun _ k => XS.lsub X1.here hx rfl (hb hby d1_122) rfl k) ?_
  show own_Go p e below s _ _ _ (T1.setTop (mkF m 123 #[.val (.ref b_), .val (.int (0 : Int32)), .val (.int pn_), .val (.long (0 : Int64)), .second, .val (.long (0 : Int64)), .second, .unset, .unset] [(.long ((own_ch (o_i2l pn_) (0 : Int32)) - (1 : Int64)))]))
  refine own_via (fun _ k => XS.lloadN X1.here hx rfl (hb hby d1_123) rfl k) ?_
  show own_Go p e below s _ _ _ (T1.setTop (mkF m 124 #[.val (.ref b_), .val (.int (0 : Int32)), .val (.int pn_), .val (.long (0 : Int64)), .second, .val (.long (0 : Int64)), .second, .unset, .unset] [(.long (0 : Int64)), (.long ((own_ch (o_i2l pn_) (0 : Int32)) - (1 : Int64)))]))
  refine own_via (fun _ k => XS.lsub X1.here hx rfl (hb hby d1_124) rfl k) ?_
  show own_Go p e below s _ _ _ (T1.setTop (mkF m 125 #[.val (.ref b_), .val (.int (0 : Int32)), .val (.int pn_), .val (.long (0 : Int64)), .second, .val (.long (0 : Int64)), .second, .unset, .unset] [(.long (((own_ch (o_i2l pn_) (0 : Int32)) - (1 : Int64)) - (0 : Int64)))]))
  refine own_via (fun _ k => XS.lstore X1.here hx rfl (hb hby d1_125) rfl (l' := #[.val (.ref b_), .val (.int (0 : Int32)), .val (.int pn_), .val (.long (0 : Int64)), .second, .val (.long (0 : Int64)), .second, .val (.long (((own_ch (o_i2l pn_) (0 : Int32)) - (1 : Int64)) - (0 : Int64))), .second]) rfl k) ?_
  show own_Go p e below s _ _ _ (T1.setTop (mkF m 127 #[.val (.ref b_), .val (.int (0 : Int32)), .val (.int pn_), .val (.long (0 : Int64)), .second, .val (.long (0 : Int64)), .second, .val (.long (((own_ch (o_i2l pn_) (0 : Int32)) - (1 : Int64)) - (0 : Int64))), .second] []))
  refine own_via (fun _ k => XS.lload X1.here hx rfl (hb hby d1_127) rfl k) ?_
  show own_Go p e below s _ _ _ (T1.setTop (mkF m 129 #[.val (.ref b_), .val (.int (0 : Int32)), .val (.int pn_), .val (.long (0 : Int64)), .second, .val (.long (0 : Int64)), .second, .val (.long (((own_ch (o_i2l pn_) (0 : Int32)) - (1 : Int64)) - (0 : Int64))), .second] [(.long (((own_ch (o_i2l pn_) (0 : Int32)) - (1 : Int64)) - (0 : Int64)))]))
  refine own_via (fun _ k => XS.iloadN X1.here hx rfl (hb hby d1_129) rfl k) ?_
  show own_Go p e below s _ _ _ (T1.setTop (mkF m 130 #[.val (.ref b_), .val (.int (0 : Int32)), .val (.int pn_), .val (.long (0 : Int64)), .second, .val (.long (0 : Int64)), .second, .val (.long (((own_ch (o_i2l pn_) (0 : Int32)) - (1 : Int64)) - (0 : Int64))), .second] [(.int (0 : Int32)), (.long (((own_ch (o_i2l pn_) (0 : Int32)) - (1 : Int64)) - (0 : Int64)))]))
  refine own_via (fun _ k => XS.lshl X1.here hx rfl (hb hby d1_130) rfl k) ?_
  show own_Go p e below s _ _ _ (T1.setTop (mkF m 131 #[.val (.ref b_), .val (.int (0 : Int32)), .val (.int pn_), .val (.long (0 : Int64)), .second, .val (.long (0 : Int64)), .second, .val (.long (((own_ch (o_i2l pn_) (0 : Int32)) - (1 : Int64)) - (0 : Int64))), .second] [(.long (o_lshl (((own_ch (o_i2l pn_) (0 : Int32)) - (1 : Int64)) - (0 : Int64)) (0 : Int32)))]))
  refine own_via (fun _ k => XS.lload X1.here hx rfl (hb hby d1_131) rfl k) ?_
  show own_Go p e below s _ _ _ (T1.setTop (mkF m 133 #[.val (.ref b_), .val (.int (0 : Int32)), .val (.int pn_), .val (.long (0 : Int64)), .second, .val (.long (0 : Int64)), .second, .val (.long (((own_ch (o_i2l pn_) (0 : Int32)) - (1 : Int64)) - (0 : Int64))), .second] [(.long (0 : Int64)), (.long (o_lshl (((own_ch (o_i2l pn_) (0 : Int32)) - (1 : Int64)) - (0 : Int64)) (0 : Int32)))]))
  refine own_via (fun _ k => XS.ladd X1.here hx rfl (hb hby d1_133) rfl k) ?_
  show own_Go p e below s _ _ _ (T1.setTop (mkF m 134 #[.val (.ref b_), .val (.int (0 : Int32)), .val (.int pn_), .val (.long (0 : Int64)), .second, .val (.long (0 : Int64)), .second, .val (.long (((own_ch (o_i2l pn_) (0 : Int32)) - (1 : Int64)) - (0 : Int64))), .second] [(.long ((o_lshl (((own_ch (o_i2l pn_) (0 : Int32)) - (1 : Int64)) - (0 : Int64)) (0 : Int32)) + (0 : Int64)))]))
  exact own_goJ X1 hx Bd.returns (hb hby d1_134) Bd.notSynchronized (by decide) (by decide) (by rw [e1]; exact ⟨by rw [own_rk0] <;> rfl, N1, rfl⟩)
theorem d5_0 : decode method_5_code 0 = .ok (.iconst 1, 1) := by decide +kernel
theorem d5_1 : decode method_5_code 1 = .ok (.istore_n 3, 1) := by decide +kernel
theorem d5_2 : decode method_5_code 2 = .ok (.iload_n 1, 1) := by decide +kernel
theorem d5_3 : decode method_5_code 3 = .ok (.ifCond .le 23, 3) := by decide +kernel
theorem d5_26 : decode method_5_code 26 = .ok (.iload_n 1, 1) := by decide +kernel
theorem d5_27 : decode method_5_code 27 = .ok (.iconst 1, 1) := by decide +kernel
theorem d5_28 : decode method_5_code 28 = .ok (.if_icmp .le 39, 3) := by decide +kernel
theorem d5_67 : decode method_5_code 67 = .ok (.iload_n 1, 1) := by decide +kernel
theorem d5_68 : decode method_5_code 68 = .ok (.iconst 2, 1) := by decide +kernel
theorem d5_69 : decode method_5_code 69 = .ok (.if_icmp .le 39, 3) := by decide +kernel
theorem d5_108 : decode method_5_code 108 = .ok (.iload_n 3, 1) := by decide +kernel
theorem d5_109 : decode method_5_code 109 = .ok (.ireturn, 1) := by decide +kernel
def own_va0 (pn_ : Int32) : Int32 := (1 : Int32)
theorem ef_v0 (m : MethodId) (x0 : Addr) (x1 : Int32) (x2 : Int32) : entryFrame m #[(.ref x0), (.int x1), (.int x2)] 4 = mkF m 0 #[.val (.ref x0), .val (.int x1), .val (.int x2), .unset] [] := by first | (simp [entryFrame, mkF, argsToLocals, Value.category]; done) | rfl
def Qv0 (Z : State) (b_ : Addr) (pt_ : Int32) (pn_ : Int32) (k_ : ClassId) (d_ : Value) (h0 : Heap) (n0 : Nat) (v : Option Value) (h : Heap) (L : List Loc) : Prop := v = some (.int (own_va0 pn_)) ∧ Fr n0 L ∧ h = h0
set_option maxRecDepth 65536 in
set_option maxHeartbeats 40000000 in
theorem rmv0 (l : Launch) (Z : State) (a0 : Array Value) (hw : ∀ d ∈ tables_1, d.before a0 Z = true) (ws : List Jvm.Cond) (b_ : Addr) (pt_ : Int32) (pn_ : Int32) (k_ : ClassId) (d_ : Value) (h0 : Heap) (n0 : Nat) (Z0 : n0 ≤ h0.size) (V_b_ : Arv Z h0 b_ k_ .int (0 : Int32) [] d_) (hp1 : pt_ = (0 : Int32)) :
    MetFree l (⟨"com/example/unalike/unalike/engine/TSetsNextPinLaw", "valid", "([III)Z"⟩ : MethodName) (head1 (Jvm.Cond.code (⟨"com/example/unalike/unalike/engine/TSetsNextPinLaw", "valid", "([III)Z"⟩ : MethodName) method_5_code 4 (some .boolean) :: ws) ({ frames := 0, cells := 0, slots := 0, locals := 0 } : Room)) (fun q_ U => q_ = #[(.ref b_), (.int pt_), (.int pn_)] ∧ Z.Warmed39 U.vm ∧ U.heap = h0) (fun _ _ _ _ _ => True) (fun _ U o U' => ∃ v L, o = .returned v ∧ Qv0 Z b_ pt_ pn_ k_ d_ h0 n0 v U'.heap L ∧ FrameEnd U o U' L ({ frames := 0, cells := 0, slots := 0, locals := 0 } : Room).cells ({ frames := 0, cells := 0, slots := 0, locals := 0 } : Room).slots) := by
  refine MetFree.of_bodySF (plainFor_of_name pn_0) hisR ?_
  intro p e s m args below meth c s₁ Bd hml0 hP hK
  obtain ⟨rfl, hZ, hh⟩ := hP
  have hx := Bd.exec
  have hby := Bd.bytes
  have hml : c.maxLocals = 4 := hml0
  have hown : s.vm.findClass "com/example/unalike/unalike/engine/TSetsNextPinLaw" = some m.cls := findClass_of_methodNamed Bd.named
  have hnm := (name_of_methodNamed Bd.named Bd.method).1
  have X0 : Stand p l e ({ frames := 0, cells := 0, slots := 0, locals := 0 } : Room) s m #[(.ref b_), (.int pt_), (.int pn_)] below meth c s₁ [] 0 0 := Stand.of_body Bd
  have e0 : s₁.heap = h0 := by rw [← hh, Bd.state]; rfl
  have N0 := Fr.nil n0
  show own_Go p e below s (Qv0 Z b_ pt_ pn_ k_ d_ h0 n0) ({ frames := 0, cells := 0, slots := 0, locals := 0 } : Room).cells ({ frames := 0, cells := 0, slots := 0, locals := 0 } : Room).slots (s₁.setTop (entryFrame m #[(.ref b_), (.int pt_), (.int pn_)] 4))
  refine own_via (fun t k => castTop (ef_v0 m b_ pt_ pn_) k) ?_
  show own_Go p e below s _ _ _ (s₁.setTop (mkF m 0 #[.val (.ref b_), .val (.int pt_), .val (.int pn_), .unset] []))
  subst hp1
  show own_Go p e below s _ _ _ (s₁.setTop (mkF m 0 #[.val (.ref b_), .val (.int (0 : Int32)), .val (.int pn_), .unset] []))
  refine own_via (fun _ k => XS.iconst X0.here hx rfl (hb hby d5_0) k) ?_
  show own_Go p e below s _ _ _ (s₁.setTop (mkF m 1 #[.val (.ref b_), .val (.int (0 : Int32)), .val (.int pn_), .unset] [(.int (1 : Int32))]))
  refine own_via (fun _ k => XS.istoreN X0.here hx rfl (hb hby d5_1) rfl (l' := #[.val (.ref b_), .val (.int (0 : Int32)), .val (.int pn_), .val (.int (1 : Int32))]) rfl k) ?_
  show own_Go p e below s _ _ _ (s₁.setTop (mkF m 2 #[.val (.ref b_), .val (.int (0 : Int32)), .val (.int pn_), .val (.int (1 : Int32))] []))
  refine own_via (fun _ k => XS.iloadN X0.here hx rfl (hb hby d5_2) rfl k) ?_
  show own_Go p e below s _ _ _ (s₁.setTop (mkF m 3 #[.val (.ref b_), .val (.int (0 : Int32)), .val (.int pn_), .val (.int (1 : Int32))] [(.int (0 : Int32))]))
  refine own_via (fun _ k => XS.ifYes X0.here hx rfl (pc0 := 3) (pc' := 26) rfl (hb hby d5_3) rfl (Jvm.Free.XT.i0_le_t (by decide)) (by decide) (by decide) k) ?_
  show own_Go p e below s _ _ _ (s₁.setTop (mkF m 26 #[.val (.ref b_), .val (.int (0 : Int32)), .val (.int pn_), .val (.int (1 : Int32))] []))
  refine own_via (fun _ k => XS.iloadN X0.here hx rfl (hb hby d5_26) rfl k) ?_
  show own_Go p e below s _ _ _ (s₁.setTop (mkF m 27 #[.val (.ref b_), .val (.int (0 : Int32)), .val (.int pn_), .val (.int (1 : Int32))] [(.int (0 : Int32))]))
  refine own_via (fun _ k => XS.iconst X0.here hx rfl (hb hby d5_27) k) ?_
  show own_Go p e below s _ _ _ (s₁.setTop (mkF m 28 #[.val (.ref b_), .val (.int (0 : Int32)), .val (.int pn_), .val (.int (1 : Int32))] [(.int (1 : Int32)), (.int (0 : Int32))]))
  refine own_via (fun _ k => XS.icmpYes X0.here hx rfl (pc0 := 28) (pc' := 67) rfl (hb hby d5_28) rfl (Jvm.Free.XT.ii_le_t (by decide)) (by decide) (by decide) k) ?_
  show own_Go p e below s _ _ _ (s₁.setTop (mkF m 67 #[.val (.ref b_), .val (.int (0 : Int32)), .val (.int pn_), .val (.int (1 : Int32))] []))
  refine own_via (fun _ k => XS.iloadN X0.here hx rfl (hb hby d5_67) rfl k) ?_
  show own_Go p e below s _ _ _ (s₁.setTop (mkF m 68 #[.val (.ref b_), .val (.int (0 : Int32)), .val (.int pn_), .val (.int (1 : Int32))] [(.int (0 : Int32))]))
  refine own_via (fun _ k => XS.iconst X0.here hx rfl (hb hby d5_68) k) ?_
  show own_Go p e below s _ _ _ (s₁.setTop (mkF m 69 #[.val (.ref b_), .val (.int (0 : Int32)), .val (.int pn_), .val (.int (1 : Int32))] [(.int (2 : Int32)), (.int (0 : Int32))]))
  refine own_via (fun _ k => XS.icmpYes X0.here hx rfl (pc0 := 69) (pc' := 108) rfl (hb hby d5_69) rfl (Jvm.Free.XT.ii_le_t (by decide)) (by decide) (by decide) k) ?_
  show own_Go p e below s _ _ _ (s₁.setTop (mkF m 108 #[.val (.ref b_), .val (.int (0 : Int32)), .val (.int pn_), .val (.int (1 : Int32))] []))
  refine own_via (fun _ k => XS.iloadN X0.here hx rfl (hb hby d5_108) rfl k) ?_
  show own_Go p e below s _ _ _ (s₁.setTop (mkF m 109 #[.val (.ref b_), .val (.int (0 : Int32)), .val (.int pn_), .val (.int (1 : Int32))] [(.int (1 : Int32))]))
  exact own_goN X0 hx (t := .boolean) Bd.returns (by simp) (hb hby d5_109) Bd.notSynchronized (by decide) (by decide) (by rw [e0]; exact ⟨by rw [own_va0] <;> rfl, N0, rfl⟩)
theorem d3_0 : decode prog_20_method_4_code 0 = .ok (.aload_n 0, 1) := by decide +kernel
theorem d3_1 : decode prog_20_method_4_code 1 = .ok (.arraylength, 1) := by decide +kernel
theorem d3_2 : decode prog_20_method_4_code 2 = .ok (.istore_n 2, 1) := by decide +kernel
theorem d3_3 : decode prog_20_method_4_code 3 = .ok (.iload_n 2, 1) := by decide +kernel
theorem d3_4 : decode prog_20_method_4_code 4 = .ok (.iconst 1, 1) := by decide +kernel
theorem d3_5 : decode prog_20_method_4_code 5 = .ok (.isub, 1) := by decide +kernel
theorem d3_6 : decode prog_20_method_4_code 6 = .ok (.istore_n 3, 1) := by decide +kernel
theorem d3_7 : decode prog_20_method_4_code 7 = .ok (.iload_n 3, 1) := by decide +kernel
theorem d3_8 : decode prog_20_method_4_code 8 = .ok (.ifCond .lt 24, 3) := by decide +kernel
theorem d3_32 : decode prog_20_method_4_code 32 = .ok (.iload_n 2, 1) := by decide +kernel
theorem d3_33 : decode prog_20_method_4_code 33 = .ok (.iconst 1, 1) := by decide +kernel
theorem d3_34 : decode prog_20_method_4_code 34 = .ok (.isub, 1) := by decide +kernel
theorem d3_35 : decode prog_20_method_4_code 35 = .ok (.istore_n 3, 1) := by decide +kernel
theorem d3_36 : decode prog_20_method_4_code 36 = .ok (.iload_n 3, 1) := by decide +kernel
theorem d3_37 : decode prog_20_method_4_code 37 = .ok (.ifCond .lt 60, 3) := by decide +kernel
theorem d3_97 : decode prog_20_method_4_code 97 = .ok (.iconst 0, 1) := by decide +kernel
theorem d3_98 : decode prog_20_method_4_code 98 = .ok (.ireturn, 1) := by decide +kernel
def own_nr0 (pn_ : Int32) : Int32 := (0 : Int32)
theorem pn_1 : plainName "com/example/unalike/unalike/engine/TSets" = true := by first | (simp [plainName, overriddenIn]; done) | decide +kernel
theorem ef_n0 (m : MethodId) (x0 : Addr) (x1 : Int32) : entryFrame m #[(.ref x0), (.int x1)] 5 = mkF m 0 #[.val (.ref x0), .val (.int x1), .unset, .unset, .unset] [] := by first | (simp [entryFrame, mkF, argsToLocals, Value.category]; done) | rfl
def Qn0 (Z : State) (b_ : Addr) (pn_ : Int32) (k_ : ClassId) (d_ : Value) (h0 : Heap) (n0 : Nat) (v : Option Value) (h : Heap) (L : List Loc) : Prop := v = some (.int (own_nr0 pn_)) ∧ Fr n0 L ∧ Keep h0 h [b_] ∧ Arv Z h b_ k_ .int (0 : Int32) [] d_
set_option maxRecDepth 65536 in
set_option maxHeartbeats 40000000 in
theorem rmn0 (l : Launch) (Z : State) (a0 : Array Value) (hw : ∀ d ∈ tables_1, d.before a0 Z = true) (ws : List Jvm.Cond) (b_ : Addr) (pn_ : Int32) (k_ : ClassId) (d_ : Value) (h0 : Heap) (n0 : Nat) (Z0 : n0 ≤ h0.size) (V_b_ : Arv Z h0 b_ k_ .int (0 : Int32) [] d_) (g_b_ : n0 ≤ b_) :
    MetFree l (⟨"com/example/unalike/unalike/engine/TSets", "next", "([II)Z"⟩ : MethodName) (head1 (Jvm.Cond.code (⟨"com/example/unalike/unalike/engine/TSets", "next", "([II)Z"⟩ : MethodName) prog_20_method_4_code 5 (some .boolean) :: ws) ({ frames := 0, cells := 0, slots := 0, locals := 0 } : Room)) (fun q_ U => q_ = #[(.ref b_), (.int pn_)] ∧ Z.Warmed39 U.vm ∧ U.heap = h0) (fun _ _ _ _ _ => True) (fun _ U o U' => ∃ v L, o = .returned v ∧ Qn0 Z b_ pn_ k_ d_ h0 n0 v U'.heap L ∧ FrameEnd U o U' L ({ frames := 0, cells := 0, slots := 0, locals := 0 } : Room).cells ({ frames := 0, cells := 0, slots := 0, locals := 0 } : Room).slots) := by
  refine MetFree.of_bodySF (plainFor_of_name pn_1) hisR ?_
  intro p e s m args below meth c s₁ Bd hml0 hP hK
  obtain ⟨rfl, hZ, hh⟩ := hP
  have hx := Bd.exec
  have hby := Bd.bytes
  have hml : c.maxLocals = 5 := hml0
  have hown : s.vm.findClass "com/example/unalike/unalike/engine/TSets" = some m.cls := findClass_of_methodNamed Bd.named
  have hnm := (name_of_methodNamed Bd.named Bd.method).1
  have X0 : Stand p l e ({ frames := 0, cells := 0, slots := 0, locals := 0 } : Room) s m #[(.ref b_), (.int pn_)] below meth c s₁ [] 0 0 := Stand.of_body Bd
  have e0 : s₁.heap = h0 := by rw [← hh, Bd.state]; rfl
  have N0 := Fr.nil n0
  show own_Go p e below s (Qn0 Z b_ pn_ k_ d_ h0 n0) ({ frames := 0, cells := 0, slots := 0, locals := 0 } : Room).cells ({ frames := 0, cells := 0, slots := 0, locals := 0 } : Room).slots (s₁.setTop (entryFrame m #[(.ref b_), (.int pn_)] 5))
  refine own_via (fun t k => castTop (ef_n0 m b_ pn_) k) ?_
  have K0 : Keep h0 h0 [b_] := Keep.refl _ _
  show own_Go p e below s _ _ _ (s₁.setTop (mkF m 0 #[.val (.ref b_), .val (.int pn_), .unset, .unset, .unset] []))
  refine own_via (fun _ k => XS.aloadN X0.here hx rfl (hb hby d3_0) rfl rfl k) ?_
  show own_Go p e below s _ _ _ (s₁.setTop (mkF m 1 #[.val (.ref b_), .val (.int pn_), .unset, .unset, .unset] [(.ref b_)]))
  obtain ⟨cl1, Ar1, q1, S1, M1, H1, G1⟩ := (id V_b_)
  refine own_via (fun _ k => X0.arraylength hx (by rw [e0]; exact Ar1.1) (State.isArrayOf_alike hZ.alike Ar1.2.1) (g := (mkF m 1 #[.val (.ref b_), .val (.int pn_), .unset, .unset, .unset] [(.ref b_)])) rfl rfl (hb hby d3_1) _ (by rw [len_of S1 M1]; exact k)) ?_
  show own_Go p e below s _ _ _ (s₁.setTop (mkF m 2 #[.val (.ref b_), .val (.int pn_), .unset, .unset, .unset] [(.int (0 : Int32))]))
  refine own_via (fun _ k => XS.istoreN X0.here hx rfl (hb hby d3_2) rfl (l' := #[.val (.ref b_), .val (.int pn_), .val (.int (0 : Int32)), .unset, .unset]) rfl k) ?_
  show own_Go p e below s _ _ _ (s₁.setTop (mkF m 3 #[.val (.ref b_), .val (.int pn_), .val (.int (0 : Int32)), .unset, .unset] []))
  refine own_via (fun _ k => XS.iloadN X0.here hx rfl (hb hby d3_3) rfl k) ?_
  show own_Go p e below s _ _ _ (s₁.setTop (mkF m 4 #[.val (.ref b_), .val (.int pn_), .val (.int (0 : Int32)), .unset, .unset] [(.int (0 : Int32))]))
  refine own_via (fun _ k => XS.iconst X0.here hx rfl (hb hby d3_4) k) ?_
  show own_Go p e below s _ _ _ (s₁.setTop (mkF m 5 #[.val (.ref b_), .val (.int pn_), .val (.int (0 : Int32)), .unset, .unset] [(.int (1 : Int32)), (.int (0 : Int32))]))
  refine own_via (fun _ k => XS.isub X0.here hx rfl (hb hby d3_5) rfl k) ?_
  show own_Go p e below s _ _ _ (s₁.setTop (mkF m 6 #[.val (.ref b_), .val (.int pn_), .val (.int (0 : Int32)), .unset, .unset] [(.int (-1 : Int32))]))
  refine own_via (fun _ k => XS.istoreN X0.here hx rfl (hb hby d3_6) rfl (l' := #[.val (.ref b_), .val (.int pn_), .val (.int (0 : Int32)), .val (.int (-1 : Int32)), .unset]) rfl k) ?_
  show own_Go p e below s _ _ _ (s₁.setTop (mkF m 7 #[.val (.ref b_), .val (.int pn_), .val (.int (0 : Int32)), .val (.int (-1 : Int32)), .unset] []))
  refine own_via (fun _ k => XS.iloadN X0.here hx rfl (hb hby d3_7) rfl k) ?_
  show own_Go p e below s _ _ _ (s₁.setTop (mkF m 8 #[.val (.ref b_), .val (.int pn_), .val (.int (0 : Int32)), .val (.int (-1 : Int32)), .unset] [(.int (-1 : Int32))]))
  refine own_via (fun _ k => XS.ifYes X0.here hx rfl (pc0 := 8) (pc' := 32) rfl (hb hby d3_8) rfl (Jvm.Free.XT.i0_lt_t (by decide)) (by decide) (by decide) k) ?_
  show own_Go p e below s _ _ _ (s₁.setTop (mkF m 32 #[.val (.ref b_), .val (.int pn_), .val (.int (0 : Int32)), .val (.int (-1 : Int32)), .unset] []))
  refine own_via (fun _ k => XS.iloadN X0.here hx rfl (hb hby d3_32) rfl k) ?_
  show own_Go p e below s _ _ _ (s₁.setTop (mkF m 33 #[.val (.ref b_), .val (.int pn_), .val (.int (0 : Int32)), .val (.int (-1 : Int32)), .unset] [(.int (0 : Int32))]))
  refine own_via (fun _ k => XS.iconst X0.here hx rfl (hb hby d3_33) k) ?_
  show own_Go p e below s _ _ _ (s₁.setTop (mkF m 34 #[.val (.ref b_), .val (.int pn_), .val (.int (0 : Int32)), .val (.int (-1 : Int32)), .unset] [(.int (1 : Int32)), (.int (0 : Int32))]))
  refine own_via (fun _ k => XS.isub X0.here hx rfl (hb hby d3_34) rfl k) ?_
  show own_Go p e below s _ _ _ (s₁.setTop (mkF m 35 #[.val (.ref b_), .val (.int pn_), .val (.int (0 : Int32)), .val (.int (-1 : Int32)), .unset] [(.int (-1 : Int32))]))
  refine own_via (fun _ k => XS.istoreN X0.here hx rfl (hb hby d3_35) rfl (l' := #[.val (.ref b_), .val (.int pn_), .val (.int (0 : Int32)), .val (.int (-1 : Int32)), .unset]) rfl k) ?_
  show own_Go p e below s _ _ _ (s₁.setTop (mkF m 36 #[.val (.ref b_), .val (.int pn_), .val (.int (0 : Int32)), .val (.int (-1 : Int32)), .unset] []))
  refine own_via (fun _ k => XS.iloadN X0.here hx rfl (hb hby d3_36) rfl k) ?_
  show own_Go p e below s _ _ _ (s₁.setTop (mkF m 37 #[.val (.ref b_), .val (.int pn_), .val (.int (0 : Int32)), .val (.int (-1 : Int32)), .unset] [(.int (-1 : Int32))]))
  refine own_via (fun _ k => XS.ifYes X0.here hx rfl (pc0 := 37) (pc' := 97) rfl (hb hby d3_37) rfl (Jvm.Free.XT.i0_lt_t (by decide)) (by decide) (by decide) k) ?_
  show own_Go p e below s _ _ _ (s₁.setTop (mkF m 97 #[.val (.ref b_), .val (.int pn_), .val (.int (0 : Int32)), .val (.int (-1 : Int32)), .unset] []))
  refine own_via (fun _ k => XS.iconst X0.here hx rfl (hb hby d3_97) k) ?_
  show own_Go p e below s _ _ _ (s₁.setTop (mkF m 98 #[.val (.ref b_), .val (.int pn_), .val (.int (0 : Int32)), .val (.int (-1 : Int32)), .unset] [(.int (0 : Int32))]))
  exact own_goN X0 hx (t := .boolean) Bd.returns (by simp) (hb hby d3_98) Bd.notSynchronized (by decide) (by decide) (by rw [e0]; exact ⟨by rw [own_nr0] <;> rfl, N0, K0, V_b_⟩)
theorem d1_9 : decode method_7_code 9 = .ok (.lload_n 3, 1) := by decide +kernel
theorem d1_10 : decode method_7_code 10 = .ok (.iload_n 2, 1) := by decide +kernel
theorem d1_11 : decode method_7_code 11 = .ok (.i2l, 1) := by decide +kernel
theorem d1_12 : decode method_7_code 12 = .ok (.aload_n 0, 1) := by decide +kernel
theorem d1_13 : decode method_7_code 13 = .ok (.iconst 0, 1) := by decide +kernel
theorem d1_14 : decode method_7_code 14 = .ok (.iaload, 1) := by decide +kernel
theorem d1_15 : decode method_7_code 15 = .ok (.invokestatic 28, 3) := by decide +kernel
theorem d1_18 : decode method_7_code 18 = .ok (.lsub, 1) := by decide +kernel
theorem d1_19 : decode method_7_code 19 = .ok (.iload_n 1, 1) := by decide +kernel
theorem d1_20 : decode method_7_code 20 = .ok (.invokestatic 14, 3) := by decide +kernel
theorem d1_23 : decode method_7_code 23 = .ok (.ladd, 1) := by decide +kernel
theorem d1_24 : decode method_7_code 24 = .ok (.lstore_n 3, 1) := by decide +kernel
theorem d1_25 : decode method_7_code 25 = .ok (.aload_n 0, 1) := by decide +kernel
theorem d1_26 : decode method_7_code 26 = .ok (.iconst 0, 1) := by decide +kernel
theorem d1_27 : decode method_7_code 27 = .ok (.iaload, 1) := by decide +kernel
theorem d1_28 : decode method_7_code 28 = .ok (.ifCond .ge 13, 3) := by decide +kernel
theorem d1_31 : decode method_7_code 31 = .ok (.lload 5, 2) := by decide +kernel
theorem d1_33 : decode method_7_code 33 = .ok (.lconst 1, 1) := by decide +kernel
theorem d1_34 : decode method_7_code 34 = .ok (.iload_n 1, 1) := by decide +kernel
theorem d1_35 : decode method_7_code 35 = .ok (.iconst 1, 1) := by decide +kernel
theorem d1_36 : decode method_7_code 36 = .ok (.isub, 1) := by decide +kernel
theorem d1_37 : decode method_7_code 37 = .ok (.lshl, 1) := by decide +kernel
theorem d1_38 : decode method_7_code 38 = .ok (.ladd, 1) := by decide +kernel
theorem d1_39 : decode method_7_code 39 = .ok (.lstore 5, 2) := by decide +kernel
def own_rk1 (u0 : Int32) (pn_ : Int32) : Int64 := ((o_lshl (((own_ch (o_i2l pn_) (1 : Int32)) - (1 : Int64)) - ((0 : Int64) + (own_ch ((o_i2l pn_) - (own_ft u0)) (1 : Int32)))) (1 : Int32)) + (if u0 < (0 : Int32) then ((0 : Int64) + (o_lshl (1 : Int64) (0 : Int32))) else (0 : Int64)))
theorem ef_r1 (m : MethodId) (x0 : Addr) (x1 : Int32) (x2 : Int32) : entryFrame m #[(.ref x0), (.int x1), (.int x2)] 9 = mkF m 0 #[.val (.ref x0), .val (.int x1), .val (.int x2), .unset, .unset, .unset, .unset, .unset, .unset] [] := by first | (simp [entryFrame, mkF, argsToLocals, Value.category]; done) | rfl
def Qr1 (Z : State) (b_ : Addr) (pt_ : Int32) (pn_ : Int32) (k_ : ClassId) (d_ : Value) (u0 : Int32) (h0 : Heap) (n0 : Nat) (v : Option Value) (h : Heap) (L : List Loc) : Prop := v = some (.long (own_rk1 u0 pn_)) ∧ Fr n0 L ∧ h = h0
set_option maxRecDepth 65536 in
set_option maxHeartbeats 40000000 in
theorem rmr1 (l : Launch) (Z : State) (a0 : Array Value) (hw : ∀ d ∈ tables_1, d.before a0 Z = true) (ws : List Jvm.Cond) (b_ : Addr) (pt_ : Int32) (pn_ : Int32) (k_ : ClassId) (d_ : Value) (u0 : Int32) (h0 : Heap) (n0 : Nat) (Z0 : n0 ≤ h0.size) (V_b_ : Arv Z h0 b_ k_ .int (1 : Int32) [(.int u0)] d_) (hp1 : pt_ = (1 : Int32)) :
    MetFree l (⟨"com/example/unalike/unalike/engine/TSetsNextPinLaw", "rank", "([III)J"⟩ : MethodName) (head1 (Jvm.Cond.code (⟨"com/example/unalike/unalike/engine/TSetsNextPinLaw", "rank", "([III)J"⟩ : MethodName) method_7_code 9 (some .long) :: ws) ({ frames := 1, cells := 0, slots := 0, locals := 16 } : Room)) (fun q_ U => q_ = #[(.ref b_), (.int pt_), (.int pn_)] ∧ Z.Warmed39 U.vm ∧ U.heap = h0) (fun _ _ _ _ _ => True) (fun _ U o U' => ∃ v L, o = .returned v ∧ Qr1 Z b_ pt_ pn_ k_ d_ u0 h0 n0 v U'.heap L ∧ FrameEnd U o U' L ({ frames := 1, cells := 0, slots := 0, locals := 16 } : Room).cells ({ frames := 1, cells := 0, slots := 0, locals := 16 } : Room).slots) := by
  refine MetFree.of_bodySF (plainFor_of_name pn_0) hisR ?_
  intro p e s m args below meth c s₁ Bd hml0 hP hK
  obtain ⟨rfl, hZ, hh⟩ := hP
  have hx := Bd.exec
  have hby := Bd.bytes
  have hml : c.maxLocals = 9 := hml0
  have hown : s.vm.findClass "com/example/unalike/unalike/engine/TSetsNextPinLaw" = some m.cls := findClass_of_methodNamed Bd.named
  have hnm := (name_of_methodNamed Bd.named Bd.method).1
  have X0 : Stand p l e ({ frames := 1, cells := 0, slots := 0, locals := 16 } : Room) s m #[(.ref b_), (.int pt_), (.int pn_)] below meth c s₁ [] 0 0 := Stand.of_body Bd
  have e0 : s₁.heap = h0 := by rw [← hh, Bd.state]; rfl
  have N0 := Fr.nil n0
  show own_Go p e below s (Qr1 Z b_ pt_ pn_ k_ d_ u0 h0 n0) ({ frames := 1, cells := 0, slots := 0, locals := 16 } : Room).cells ({ frames := 1, cells := 0, slots := 0, locals := 16 } : Room).slots (s₁.setTop (entryFrame m #[(.ref b_), (.int pt_), (.int pn_)] 9))
  refine own_via (fun t k => castTop (ef_r1 m b_ pt_ pn_) k) ?_
  show own_Go p e below s _ _ _ (s₁.setTop (mkF m 0 #[.val (.ref b_), .val (.int pt_), .val (.int pn_), .unset, .unset, .unset, .unset, .unset, .unset] []))
  subst hp1
  show own_Go p e below s _ _ _ (s₁.setTop (mkF m 0 #[.val (.ref b_), .val (.int (1 : Int32)), .val (.int pn_), .unset, .unset, .unset, .unset, .unset, .unset] []))
  refine own_via (fun _ k => XS.lconst X0.here hx rfl (hb hby d1_0) k) ?_
  show own_Go p e below s _ _ _ (s₁.setTop (mkF m 1 #[.val (.ref b_), .val (.int (1 : Int32)), .val (.int pn_), .unset, .unset, .unset, .unset, .unset, .unset] [(.long (0 : Int64))]))
  refine own_via (fun _ k => XS.lstoreN X0.here hx rfl (hb hby d1_1) rfl (l' := #[.val (.ref b_), .val (.int (1 : Int32)), .val (.int pn_), .val (.long (0 : Int64)), .second, .unset, .unset, .unset, .unset]) rfl k) ?_
  show own_Go p e below s _ _ _ (s₁.setTop (mkF m 2 #[.val (.ref b_), .val (.int (1 : Int32)), .val (.int pn_), .val (.long (0 : Int64)), .second, .unset, .unset, .unset, .unset] []))
  refine own_via (fun _ k => XS.lconst X0.here hx rfl (hb hby d1_2) k) ?_
  show own_Go p e below s _ _ _ (s₁.setTop (mkF m 3 #[.val (.ref b_), .val (.int (1 : Int32)), .val (.int pn_), .val (.long (0 : Int64)), .second, .unset, .unset, .unset, .unset] [(.long (0 : Int64))]))
  refine own_via (fun _ k => XS.lstore X0.here hx rfl (hb hby d1_3) rfl (l' := #[.val (.ref b_), .val (.int (1 : Int32)), .val (.int pn_), .val (.long (0 : Int64)), .second, .val (.long (0 : Int64)), .second, .unset, .unset]) rfl k) ?_
  show own_Go p e below s _ _ _ (s₁.setTop (mkF m 5 #[.val (.ref b_), .val (.int (1 : Int32)), .val (.int pn_), .val (.long (0 : Int64)), .second, .val (.long (0 : Int64)), .second, .unset, .unset] []))
  refine own_via (fun _ k => XS.iloadN X0.here hx rfl (hb hby d1_5) rfl k) ?_
  show own_Go p e below s _ _ _ (s₁.setTop (mkF m 6 #[.val (.ref b_), .val (.int (1 : Int32)), .val (.int pn_), .val (.long (0 : Int64)), .second, .val (.long (0 : Int64)), .second, .unset, .unset] [(.int (1 : Int32))]))
  refine own_via (fun _ k => XS.ifNo X0.here hx rfl (hb hby d1_6) rfl (Jvm.Free.XT.i0_le_f (by decide)) k) ?_
  show own_Go p e below s _ _ _ (s₁.setTop (mkF m 9 #[.val (.ref b_), .val (.int (1 : Int32)), .val (.int pn_), .val (.long (0 : Int64)), .second, .val (.long (0 : Int64)), .second, .unset, .unset] []))
  refine own_via (fun _ k => XS.lloadN X0.here hx rfl (hb hby d1_9) rfl k) ?_
  show own_Go p e below s _ _ _ (s₁.setTop (mkF m 10 #[.val (.ref b_), .val (.int (1 : Int32)), .val (.int pn_), .val (.long (0 : Int64)), .second, .val (.long (0 : Int64)), .second, .unset, .unset] [(.long (0 : Int64))]))
  refine own_via (fun _ k => XS.iloadN X0.here hx rfl (hb hby d1_10) rfl k) ?_
  show own_Go p e below s _ _ _ (s₁.setTop (mkF m 11 #[.val (.ref b_), .val (.int (1 : Int32)), .val (.int pn_), .val (.long (0 : Int64)), .second, .val (.long (0 : Int64)), .second, .unset, .unset] [(.int pn_), (.long (0 : Int64))]))
  refine own_via (fun _ k => XS.i2l X0.here hx rfl (hb hby d1_11) rfl k) ?_
  show own_Go p e below s _ _ _ (s₁.setTop (mkF m 12 #[.val (.ref b_), .val (.int (1 : Int32)), .val (.int pn_), .val (.long (0 : Int64)), .second, .val (.long (0 : Int64)), .second, .unset, .unset] [(.long (o_i2l pn_)), (.long (0 : Int64))]))
  refine own_via (fun _ k => XS.aloadN X0.here hx rfl (hb hby d1_12) rfl rfl k) ?_
  show own_Go p e below s _ _ _ (s₁.setTop (mkF m 13 #[.val (.ref b_), .val (.int (1 : Int32)), .val (.int pn_), .val (.long (0 : Int64)), .second, .val (.long (0 : Int64)), .second, .unset, .unset] [(.ref b_), (.long (o_i2l pn_)), (.long (0 : Int64))]))
  refine own_via (fun _ k => XS.iconst X0.here hx rfl (hb hby d1_13) k) ?_
  show own_Go p e below s _ _ _ (s₁.setTop (mkF m 14 #[.val (.ref b_), .val (.int (1 : Int32)), .val (.int pn_), .val (.long (0 : Int64)), .second, .val (.long (0 : Int64)), .second, .unset, .unset] [(.int (0 : Int32)), (.ref b_), (.long (o_i2l pn_)), (.long (0 : Int64))]))
  obtain ⟨cl1, Ar1, q1, S1, M1, H1, G1⟩ := (id V_b_)
  have hin1 : ¬ ((0 : Int32) < 0 ∨ cl1.slots.size ≤ ((0 : Int32)).toNatClampNeg) := inb_of S1 ⟨by decide, by decide⟩
  have hat1 : cl1.slots[((0 : Int32)).toNatClampNeg]? = some (.int u0) := Has.at H1 hin1 rfl
  refine own_via (fun _ k => X0.iaload hx (j := (0 : Int32)) (v := (.int u0)) (by rw [e0]; exact Ar1.1) (State.isArrayOf_alike hZ.alike Ar1.2.1) Ar1.2.2 hin1 hat1 (g := (mkF m 14 #[.val (.ref b_), .val (.int (1 : Int32)), .val (.int pn_), .val (.long (0 : Int64)), .second, .val (.long (0 : Int64)), .second, .unset, .unset] [(.int (0 : Int32)), (.ref b_), (.long (o_i2l pn_)), (.long (0 : Int64))])) rfl rfl (hb hby d1_14) _ k) ?_
  show own_Go p e below s _ _ _ (s₁.setTop (mkF m 15 #[.val (.ref b_), .val (.int (1 : Int32)), .val (.int pn_), .val (.long (0 : Int64)), .second, .val (.long (0 : Int64)), .second, .unset, .unset] [(.int u0), (.long (o_i2l pn_)), (.long (0 : Int64))]))
  obtain ⟨_, _, ⟨T2, L2, k2, n2⟩, -, X2, ⟨Lc2, hQ2, l2, y2, z2⟩, st2⟩ := Jvm.LawKit.callS X0 hx (y := (⟨"com/example/unalike/unalike/engine/TSetsNextPinLaw", "feat", "(I)J"⟩ : MethodName)) hown (mvT hZ (hw _ (List.mem_of_getElem? (i := 13) rfl))) (mvT hZ (hw _ (List.mem_of_getElem? (i := 14) rfl))) (mvT hZ (hw _ (List.mem_of_getElem? (i := 4) rfl))) (mvT hZ (hw _ (List.mem_of_getElem? (i := 15) rfl))) (by decide) (backOf (W := 4) (rm4 l Z a0 hw [] u0 h0 n0 Z0 ) hZ (hw _ (List.mem_of_getElem? (i := 15) rfl)) (hw _ (List.mem_of_getElem? (i := 4) rfl)) (by decide) (by decide)) (g := (mkF m 15 #[.val (.ref b_), .val (.int (1 : Int32)), .val (.int pn_), .val (.long (0 : Int64)), .second, .val (.long (0 : Int64)), .second, .unset, .unset] [(.int u0), (.long (o_i2l pn_)), (.long (0 : Int64))])) rfl (by rw [hml]; rfl) (argsL := [(.int u0)]) (rest := [(.long (o_i2l pn_)), (.long (0 : Int64))]) (lenOf pd_0 rfl) rfl (by show 2 * 0 + _ ≤ _; exact Nat.le_of_eq rfl) (hb hby d1_15) (fun _ _ => ⟨rfl, e0, (by decide : 0 + 0 ≤ _), (by decide : 0 + 0 ≤ _)⟩)
  dsimp only [Pt.U, Pt.locs, Pt.cells, Pt.slots] at X2 l2 y2 z2 st2 hQ2
  subst l2 y2 z2
  obtain ⟨rfl, N2q, e2⟩ := hQ2
  have N2 := Fr.app N0 N2q
  refine own_via st2 ?_
  show own_Go p e below s _ _ _ (T2.setTop (mkF m 18 #[.val (.ref b_), .val (.int (1 : Int32)), .val (.int pn_), .val (.long (0 : Int64)), .second, .val (.long (0 : Int64)), .second, .unset, .unset] [(.long (own_ft u0)), (.long (o_i2l pn_)), (.long (0 : Int64))]))
  refine own_via (fun _ k => XS.lsub X2.here hx rfl (hb hby d1_18) rfl k) ?_
  show own_Go p e below s _ _ _ (T2.setTop (mkF m 19 #[.val (.ref b_), .val (.int (1 : Int32)), .val (.int pn_), .val (.long (0 : Int64)), .second, .val (.long (0 : Int64)), .second, .unset, .unset] [(.long ((o_i2l pn_) - (own_ft u0))), (.long (0 : Int64))]))
  refine own_via (fun _ k => XS.iloadN X2.here hx rfl (hb hby d1_19) rfl k) ?_
  show own_Go p e below s _ _ _ (T2.setTop (mkF m 20 #[.val (.ref b_), .val (.int (1 : Int32)), .val (.int pn_), .val (.long (0 : Int64)), .second, .val (.long (0 : Int64)), .second, .unset, .unset] [(.int (1 : Int32)), (.long ((o_i2l pn_) - (own_ft u0))), (.long (0 : Int64))]))
  obtain ⟨_, _, ⟨T3, L3, k3, n3⟩, -, X3, ⟨Lc3, hQ3, l3, y3, z3⟩, st3⟩ := Jvm.LawKit.callS X2 hx (y := (⟨"com/example/unalike/unalike/engine/TSetsNextPinLaw", "choose", "(JI)J"⟩ : MethodName)) hown (mvT hZ (hw _ (List.mem_of_getElem? (i := 6) rfl))) (mvT hZ (hw _ (List.mem_of_getElem? (i := 7) rfl))) (mvT hZ (hw _ (List.mem_of_getElem? (i := 4) rfl))) (mvT hZ (hw _ (List.mem_of_getElem? (i := 8) rfl))) (by decide) (backOf (W := 2) (rm2 l Z a0 hw [] ((o_i2l pn_) - (own_ft u0)) (1 : Int32) h0 n0 Z0 ) hZ (hw _ (List.mem_of_getElem? (i := 8) rfl)) (hw _ (List.mem_of_getElem? (i := 4) rfl)) (by decide) (by decide)) (g := (mkF m 20 #[.val (.ref b_), .val (.int (1 : Int32)), .val (.int pn_), .val (.long (0 : Int64)), .second, .val (.long (0 : Int64)), .second, .unset, .unset] [(.int (1 : Int32)), (.long ((o_i2l pn_) - (own_ft u0))), (.long (0 : Int64))])) rfl (by rw [hml]; rfl) (argsL := [(.long ((o_i2l pn_) - (own_ft u0))), (.int (1 : Int32))]) (rest := [(.long (0 : Int64))]) (lenOf pd_1 rfl) rfl (by show 2 * 0 + _ ≤ _; exact Nat.le_of_eq rfl) (hb hby d1_20) (fun _ _ => ⟨rfl, e2, (by decide : 0 + 0 ≤ _), (by decide : 0 + 0 ≤ _)⟩)
  dsimp only [Pt.U, Pt.locs, Pt.cells, Pt.slots] at X3 l3 y3 z3 st3 hQ3
  subst l3 y3 z3
  obtain ⟨rfl, N3q, e3⟩ := hQ3
  have N3 := Fr.app N2 N3q
  refine own_via st3 ?_
  show own_Go p e below s _ _ _ (T3.setTop (mkF m 23 #[.val (.ref b_), .val (.int (1 : Int32)), .val (.int pn_), .val (.long (0 : Int64)), .second, .val (.long (0 : Int64)), .second, .unset, .unset] [(.long (own_ch ((o_i2l pn_) - (own_ft u0)) (1 : Int32))), (.long (0 : Int64))]))
  refine own_via (fun _ k => XS.ladd X3.here hx rfl (hb hby d1_23) rfl k) ?_
  show own_Go p e below s _ _ _ (T3.setTop (mkF m 24 #[.val (.ref b_), .val (.int (1 : Int32)), .val (.int pn_), .val (.long (0 : Int64)), .second, .val (.long (0 : Int64)), .second, .unset, .unset] [(.long ((0 : Int64) + (own_ch ((o_i2l pn_) - (own_ft u0)) (1 : Int32))))]))
  refine own_via (fun _ k => XS.lstoreN X3.here hx rfl (hb hby d1_24) rfl (l' := #[.val (.ref b_), .val (.int (1 : Int32)), .val (.int pn_), .val (.long ((0 : Int64) + (own_ch ((o_i2l pn_) - (own_ft u0)) (1 : Int32)))), .second, .val (.long (0 : Int64)), .second, .unset, .unset]) rfl k) ?_
  show own_Go p e below s _ _ _ (T3.setTop (mkF m 25 #[.val (.ref b_), .val (.int (1 : Int32)), .val (.int pn_), .val (.long ((0 : Int64) + (own_ch ((o_i2l pn_) - (own_ft u0)) (1 : Int32)))), .second, .val (.long (0 : Int64)), .second, .unset, .unset] []))
  refine own_via (fun _ k => XS.aloadN X3.here hx rfl (hb hby d1_25) rfl rfl k) ?_
  show own_Go p e below s _ _ _ (T3.setTop (mkF m 26 #[.val (.ref b_), .val (.int (1 : Int32)), .val (.int pn_), .val (.long ((0 : Int64) + (own_ch ((o_i2l pn_) - (own_ft u0)) (1 : Int32)))), .second, .val (.long (0 : Int64)), .second, .unset, .unset] [(.ref b_)]))
  refine own_via (fun _ k => XS.iconst X3.here hx rfl (hb hby d1_26) k) ?_
  show own_Go p e below s _ _ _ (T3.setTop (mkF m 27 #[.val (.ref b_), .val (.int (1 : Int32)), .val (.int pn_), .val (.long ((0 : Int64) + (own_ch ((o_i2l pn_) - (own_ft u0)) (1 : Int32)))), .second, .val (.long (0 : Int64)), .second, .unset, .unset] [(.int (0 : Int32)), (.ref b_)]))
  obtain ⟨cl4, Ar4, q4, S4, M4, H4, G4⟩ := (id V_b_)
  have hin4 : ¬ ((0 : Int32) < 0 ∨ cl4.slots.size ≤ ((0 : Int32)).toNatClampNeg) := inb_of S4 ⟨by decide, by decide⟩
  have hat4 : cl4.slots[((0 : Int32)).toNatClampNeg]? = some (.int u0) := Has.at H4 hin4 rfl
  refine own_via (fun _ k => X3.iaload hx (j := (0 : Int32)) (v := (.int u0)) (by rw [e3]; exact Ar4.1) (State.isArrayOf_alike hZ.alike Ar4.2.1) Ar4.2.2 hin4 hat4 (g := (mkF m 27 #[.val (.ref b_), .val (.int (1 : Int32)), .val (.int pn_), .val (.long ((0 : Int64) + (own_ch ((o_i2l pn_) - (own_ft u0)) (1 : Int32)))), .second, .val (.long (0 : Int64)), .second, .unset, .unset] [(.int (0 : Int32)), (.ref b_)])) rfl rfl (hb hby d1_27) _ k) ?_
  show own_Go p e below s _ _ _ (T3.setTop (mkF m 28 #[.val (.ref b_), .val (.int (1 : Int32)), .val (.int pn_), .val (.long ((0 : Int64) + (own_ch ((o_i2l pn_) - (own_ft u0)) (1 : Int32)))), .second, .val (.long (0 : Int64)), .second, .unset, .unset] [(.int u0)]))
  have st5 : ∀ t, Steps p.tables e below (T3.setTop (mkF m 41 #[.val (.ref b_), .val (.int (1 : Int32)), .val (.int pn_), .val (.long ((0 : Int64) + (own_ch ((o_i2l pn_) - (own_ft u0)) (1 : Int32)))), .second, .val (.long (if u0 < (0 : Int32) then ((0 : Int64) + (o_lshl (1 : Int64) (0 : Int32))) else (0 : Int64))), .second, .unset, .unset] [])) t → Steps p.tables e below (T3.setTop (mkF m 28 #[.val (.ref b_), .val (.int (1 : Int32)), .val (.int pn_), .val (.long ((0 : Int64) + (own_ch ((o_i2l pn_) - (own_ft u0)) (1 : Int32)))), .second, .val (.long (0 : Int64)), .second, .unset, .unset] [(.int u0)])) t := by
    intro t k
    by_cases hq6 : u0 < (0 : Int32)
    · refine XS.ifNo X3.here hx rfl (hb hby d1_28) rfl (Jvm.Free.XT.i0_ge_f hq6) ?_
      show Steps p.tables e below (T3.setTop (mkF m 31 #[.val (.ref b_), .val (.int (1 : Int32)), .val (.int pn_), .val (.long ((0 : Int64) + (own_ch ((o_i2l pn_) - (own_ft u0)) (1 : Int32)))), .second, .val (.long (0 : Int64)), .second, .unset, .unset] [])) t
      refine XS.lload X3.here hx rfl (hb hby d1_31) rfl ?_
      show Steps p.tables e below (T3.setTop (mkF m 33 #[.val (.ref b_), .val (.int (1 : Int32)), .val (.int pn_), .val (.long ((0 : Int64) + (own_ch ((o_i2l pn_) - (own_ft u0)) (1 : Int32)))), .second, .val (.long (0 : Int64)), .second, .unset, .unset] [(.long (0 : Int64))])) t
      refine XS.lconst X3.here hx rfl (hb hby d1_33) ?_
      show Steps p.tables e below (T3.setTop (mkF m 34 #[.val (.ref b_), .val (.int (1 : Int32)), .val (.int pn_), .val (.long ((0 : Int64) + (own_ch ((o_i2l pn_) - (own_ft u0)) (1 : Int32)))), .second, .val (.long (0 : Int64)), .second, .unset, .unset] [(.long (1 : Int64)), (.long (0 : Int64))])) t
      refine XS.iloadN X3.here hx rfl (hb hby d1_34) rfl ?_
      show Steps p.tables e below (T3.setTop (mkF m 35 #[.val (.ref b_), .val (.int (1 : Int32)), .val (.int pn_), .val (.long ((0 : Int64) + (own_ch ((o_i2l pn_) - (own_ft u0)) (1 : Int32)))), .second, .val (.long (0 : Int64)), .second, .unset, .unset] [(.int (1 : Int32)), (.long (1 : Int64)), (.long (0 : Int64))])) t
      refine XS.iconst X3.here hx rfl (hb hby d1_35) ?_
      show Steps p.tables e below (T3.setTop (mkF m 36 #[.val (.ref b_), .val (.int (1 : Int32)), .val (.int pn_), .val (.long ((0 : Int64) + (own_ch ((o_i2l pn_) - (own_ft u0)) (1 : Int32)))), .second, .val (.long (0 : Int64)), .second, .unset, .unset] [(.int (1 : Int32)), (.int (1 : Int32)), (.long (1 : Int64)), (.long (0 : Int64))])) t
      refine XS.isub X3.here hx rfl (hb hby d1_36) rfl ?_
      show Steps p.tables e below (T3.setTop (mkF m 37 #[.val (.ref b_), .val (.int (1 : Int32)), .val (.int pn_), .val (.long ((0 : Int64) + (own_ch ((o_i2l pn_) - (own_ft u0)) (1 : Int32)))), .second, .val (.long (0 : Int64)), .second, .unset, .unset] [(.int (0 : Int32)), (.long (1 : Int64)), (.long (0 : Int64))])) t
      refine XS.lshl X3.here hx rfl (hb hby d1_37) rfl ?_
      show Steps p.tables e below (T3.setTop (mkF m 38 #[.val (.ref b_), .val (.int (1 : Int32)), .val (.int pn_), .val (.long ((0 : Int64) + (own_ch ((o_i2l pn_) - (own_ft u0)) (1 : Int32)))), .second, .val (.long (0 : Int64)), .second, .unset, .unset] [(.long (o_lshl (1 : Int64) (0 : Int32))), (.long (0 : Int64))])) t
      refine XS.ladd X3.here hx rfl (hb hby d1_38) rfl ?_
      show Steps p.tables e below (T3.setTop (mkF m 39 #[.val (.ref b_), .val (.int (1 : Int32)), .val (.int pn_), .val (.long ((0 : Int64) + (own_ch ((o_i2l pn_) - (own_ft u0)) (1 : Int32)))), .second, .val (.long (0 : Int64)), .second, .unset, .unset] [(.long ((0 : Int64) + (o_lshl (1 : Int64) (0 : Int32))))])) t
      refine XS.lstore X3.here hx rfl (hb hby d1_39) rfl (l' := #[.val (.ref b_), .val (.int (1 : Int32)), .val (.int pn_), .val (.long ((0 : Int64) + (own_ch ((o_i2l pn_) - (own_ft u0)) (1 : Int32)))), .second, .val (.long ((0 : Int64) + (o_lshl (1 : Int64) (0 : Int32)))), .second, .unset, .unset]) rfl ?_
      show Steps p.tables e below (T3.setTop (mkF m 41 #[.val (.ref b_), .val (.int (1 : Int32)), .val (.int pn_), .val (.long ((0 : Int64) + (own_ch ((o_i2l pn_) - (own_ft u0)) (1 : Int32)))), .second, .val (.long ((0 : Int64) + (o_lshl (1 : Int64) (0 : Int32)))), .second, .unset, .unset] [])) t
      simp only [if_pos hq6] at k
      exact k
    · refine XS.ifYes X3.here hx rfl (pc0 := 28) (pc' := 41) rfl (hb hby d1_28) rfl (Jvm.Free.XT.i0_ge_t hq6) (by decide) (by decide) ?_
      show Steps p.tables e below (T3.setTop (mkF m 41 #[.val (.ref b_), .val (.int (1 : Int32)), .val (.int pn_), .val (.long ((0 : Int64) + (own_ch ((o_i2l pn_) - (own_ft u0)) (1 : Int32)))), .second, .val (.long (0 : Int64)), .second, .unset, .unset] [])) t
      simp only [if_neg hq6] at k
      exact k
  refine own_via st5 ?_
  show own_Go p e below s _ _ _ (T3.setTop (mkF m 41 #[.val (.ref b_), .val (.int (1 : Int32)), .val (.int pn_), .val (.long ((0 : Int64) + (own_ch ((o_i2l pn_) - (own_ft u0)) (1 : Int32)))), .second, .val (.long (if u0 < (0 : Int32) then ((0 : Int64) + (o_lshl (1 : Int64) (0 : Int32))) else (0 : Int64))), .second, .unset, .unset] []))
  refine own_via (fun _ k => XS.iloadN X3.here hx rfl (hb hby d1_41) rfl k) ?_
  show own_Go p e below s _ _ _ (T3.setTop (mkF m 42 #[.val (.ref b_), .val (.int (1 : Int32)), .val (.int pn_), .val (.long ((0 : Int64) + (own_ch ((o_i2l pn_) - (own_ft u0)) (1 : Int32)))), .second, .val (.long (if u0 < (0 : Int32) then ((0 : Int64) + (o_lshl (1 : Int64) (0 : Int32))) else (0 : Int64))), .second, .unset, .unset] [(.int (1 : Int32))]))
  refine own_via (fun _ k => XS.iconst X3.here hx rfl (hb hby d1_42) k) ?_
  show own_Go p e below s _ _ _ (T3.setTop (mkF m 43 #[.val (.ref b_), .val (.int (1 : Int32)), .val (.int pn_), .val (.long ((0 : Int64) + (own_ch ((o_i2l pn_) - (own_ft u0)) (1 : Int32)))), .second, .val (.long (if u0 < (0 : Int32) then ((0 : Int64) + (o_lshl (1 : Int64) (0 : Int32))) else (0 : Int64))), .second, .unset, .unset] [(.int (1 : Int32)), (.int (1 : Int32))]))
  refine own_via (fun _ k => XS.icmpYes X3.here hx rfl (pc0 := 43) (pc' := 80) rfl (hb hby d1_43) rfl (Jvm.Free.XT.ii_le_t (by decide)) (by decide) (by decide) k) ?_
  show own_Go p e below s _ _ _ (T3.setTop (mkF m 80 #[.val (.ref b_), .val (.int (1 : Int32)), .val (.int pn_), .val (.long ((0 : Int64) + (own_ch ((o_i2l pn_) - (own_ft u0)) (1 : Int32)))), .second, .val (.long (if u0 < (0 : Int32) then ((0 : Int64) + (o_lshl (1 : Int64) (0 : Int32))) else (0 : Int64))), .second, .unset, .unset] []))
  refine own_via (fun _ k => XS.iloadN X3.here hx rfl (hb hby d1_80) rfl k) ?_
  show own_Go p e below s _ _ _ (T3.setTop (mkF m 81 #[.val (.ref b_), .val (.int (1 : Int32)), .val (.int pn_), .val (.long ((0 : Int64) + (own_ch ((o_i2l pn_) - (own_ft u0)) (1 : Int32)))), .second, .val (.long (if u0 < (0 : Int32) then ((0 : Int64) + (o_lshl (1 : Int64) (0 : Int32))) else (0 : Int64))), .second, .unset, .unset] [(.int (1 : Int32))]))
  refine own_via (fun _ k => XS.iconst X3.here hx rfl (hb hby d1_81) k) ?_
  show own_Go p e below s _ _ _ (T3.setTop (mkF m 82 #[.val (.ref b_), .val (.int (1 : Int32)), .val (.int pn_), .val (.long ((0 : Int64) + (own_ch ((o_i2l pn_) - (own_ft u0)) (1 : Int32)))), .second, .val (.long (if u0 < (0 : Int32) then ((0 : Int64) + (o_lshl (1 : Int64) (0 : Int32))) else (0 : Int64))), .second, .unset, .unset] [(.int (2 : Int32)), (.int (1 : Int32))]))
  refine own_via (fun _ k => XS.icmpYes X3.here hx rfl (pc0 := 82) (pc' := 115) rfl (hb hby d1_82) rfl (Jvm.Free.XT.ii_le_t (by decide)) (by decide) (by decide) k) ?_
  show own_Go p e below s _ _ _ (T3.setTop (mkF m 115 #[.val (.ref b_), .val (.int (1 : Int32)), .val (.int pn_), .val (.long ((0 : Int64) + (own_ch ((o_i2l pn_) - (own_ft u0)) (1 : Int32)))), .second, .val (.long (if u0 < (0 : Int32) then ((0 : Int64) + (o_lshl (1 : Int64) (0 : Int32))) else (0 : Int64))), .second, .unset, .unset] []))
  refine own_via (fun _ k => XS.iloadN X3.here hx rfl (hb hby d1_115) rfl k) ?_
  show own_Go p e below s _ _ _ (T3.setTop (mkF m 116 #[.val (.ref b_), .val (.int (1 : Int32)), .val (.int pn_), .val (.long ((0 : Int64) + (own_ch ((o_i2l pn_) - (own_ft u0)) (1 : Int32)))), .second, .val (.long (if u0 < (0 : Int32) then ((0 : Int64) + (o_lshl (1 : Int64) (0 : Int32))) else (0 : Int64))), .second, .unset, .unset] [(.int pn_)]))
  refine own_via (fun _ k => XS.i2l X3.here hx rfl (hb hby d1_116) rfl k) ?_
  show own_Go p e below s _ _ _ (T3.setTop (mkF m 117 #[.val (.ref b_), .val (.int (1 : Int32)), .val (.int pn_), .val (.long ((0 : Int64) + (own_ch ((o_i2l pn_) - (own_ft u0)) (1 : Int32)))), .second, .val (.long (if u0 < (0 : Int32) then ((0 : Int64) + (o_lshl (1 : Int64) (0 : Int32))) else (0 : Int64))), .second, .unset, .unset] [(.long (o_i2l pn_))]))
  refine own_via (fun _ k => XS.iloadN X3.here hx rfl (hb hby d1_117) rfl k) ?_
  show own_Go p e below s _ _ _ (T3.setTop (mkF m 118 #[.val (.ref b_), .val (.int (1 : Int32)), .val (.int pn_), .val (.long ((0 : Int64) + (own_ch ((o_i2l pn_) - (own_ft u0)) (1 : Int32)))), .second, .val (.long (if u0 < (0 : Int32) then ((0 : Int64) + (o_lshl (1 : Int64) (0 : Int32))) else (0 : Int64))), .second, .unset, .unset] [(.int (1 : Int32)), (.long (o_i2l pn_))]))
  obtain ⟨_, _, ⟨T7, L7, k7, n7⟩, -, X7, ⟨Lc7, hQ7, l7, y7, z7⟩, st7⟩ := Jvm.LawKit.callS X3 hx (y := (⟨"com/example/unalike/unalike/engine/TSetsNextPinLaw", "choose", "(JI)J"⟩ : MethodName)) hown (mvT hZ (hw _ (List.mem_of_getElem? (i := 6) rfl))) (mvT hZ (hw _ (List.mem_of_getElem? (i := 7) rfl))) (mvT hZ (hw _ (List.mem_of_getElem? (i := 4) rfl))) (mvT hZ (hw _ (List.mem_of_getElem? (i := 8) rfl))) (by decide) (backOf (W := 0) (rm2 l Z a0 hw [] (o_i2l pn_) (1 : Int32) h0 n0 Z0 ) hZ (hw _ (List.mem_of_getElem? (i := 8) rfl)) (hw _ (List.mem_of_getElem? (i := 4) rfl)) (by decide) (by decide)) (g := (mkF m 118 #[.val (.ref b_), .val (.int (1 : Int32)), .val (.int pn_), .val (.long ((0 : Int64) + (own_ch ((o_i2l pn_) - (own_ft u0)) (1 : Int32)))), .second, .val (.long (if u0 < (0 : Int32) then ((0 : Int64) + (o_lshl (1 : Int64) (0 : Int32))) else (0 : Int64))), .second, .unset, .unset] [(.int (1 : Int32)), (.long (o_i2l pn_))])) rfl (by rw [hml]; rfl) (argsL := [(.long (o_i2l pn_)), (.int (1 : Int32))]) (rest := []) (lenOf pd_1 rfl) rfl (by show 2 * 0 + _ ≤ _; exact Nat.le_of_eq rfl) (hb hby d1_118) (fun _ _ => ⟨rfl, e3, (by decide : 0 + 0 ≤ _), (by decide : 0 + 0 ≤ _)⟩)
  dsimp only [Pt.U, Pt.locs, Pt.cells, Pt.slots] at X7 l7 y7 z7 st7 hQ7
  subst l7 y7 z7
  obtain ⟨rfl, N7q, e7⟩ := hQ7
  have N7 := Fr.app N3 N7q
  refine own_via st7 ?_
  show own_Go p e below s _ _ _ (T7.setTop (mkF m 121 #[.val (.ref b_), .val (.int (1 : Int32)), .val (.int pn_), .val (.long ((0 : Int64) + (own_ch ((o_i2l pn_) - (own_ft u0)) (1 : Int32)))), .second, .val (.long (if u0 < (0 : Int32) then ((0 : Int64) + (o_lshl (1 : Int64) (0 : Int32))) else (0 : Int64))), .second, .unset, .unset] [(.long (own_ch (o_i2l pn_) (1 : Int32)))]))
  refine own_via (fun _ k => XS.lconst X7.here hx rfl (hb hby d1_121) k) ?_
  show own_Go p e below s _ _ _ (T7.setTop (mkF m 122 #[.val (.ref b_), .val (.int (1 : Int32)), .val (.int pn_), .val (.long ((0 : Int64) + (own_ch ((o_i2l pn_) - (own_ft u0)) (1 : Int32)))), .second, .val (.long (if u0 < (0 : Int32) then ((0 : Int64) + (o_lshl (1 : Int64) (0 : Int32))) else (0 : Int64))), .second, .unset, .unset] [(.long (1 : Int64)), (.long (own_ch (o_i2l pn_) (1 : Int32)))]))
  refine own_via (fun _ k => XS.lsub X7.here hx rfl (hb hby d1_122) rfl k) ?_
  show own_Go p e below s _ _ _ (T7.setTop (mkF m 123 #[.val (.ref b_), .val (.int (1 : Int32)), .val (.int pn_), .val (.long ((0 : Int64) + (own_ch ((o_i2l pn_) - (own_ft u0)) (1 : Int32)))), .second, .val (.long (if u0 < (0 : Int32) then ((0 : Int64) + (o_lshl (1 : Int64) (0 : Int32))) else (0 : Int64))), .second, .unset, .unset] [(.long ((own_ch (o_i2l pn_) (1 : Int32)) - (1 : Int64)))]))
  refine own_via (fun _ k => XS.lloadN X7.here hx rfl (hb hby d1_123) rfl k) ?_
  show own_Go p e below s _ _ _ (T7.setTop (mkF m 124 #[.val (.ref b_), .val (.int (1 : Int32)), .val (.int pn_), .val (.long ((0 : Int64) + (own_ch ((o_i2l pn_) - (own_ft u0)) (1 : Int32)))), .second, .val (.long (if u0 < (0 : Int32) then ((0 : Int64) + (o_lshl (1 : Int64) (0 : Int32))) else (0 : Int64))), .second, .unset, .unset] [(.long ((0 : Int64) + (own_ch ((o_i2l pn_) - (own_ft u0)) (1 : Int32)))), (.long ((own_ch (o_i2l pn_) (1 : Int32)) - (1 : Int64)))]))
  refine own_via (fun _ k => XS.lsub X7.here hx rfl (hb hby d1_124) rfl k) ?_
  show own_Go p e below s _ _ _ (T7.setTop (mkF m 125 #[.val (.ref b_), .val (.int (1 : Int32)), .val (.int pn_), .val (.long ((0 : Int64) + (own_ch ((o_i2l pn_) - (own_ft u0)) (1 : Int32)))), .second, .val (.long (if u0 < (0 : Int32) then ((0 : Int64) + (o_lshl (1 : Int64) (0 : Int32))) else (0 : Int64))), .second, .unset, .unset] [(.long (((own_ch (o_i2l pn_) (1 : Int32)) - (1 : Int64)) - ((0 : Int64) + (own_ch ((o_i2l pn_) - (own_ft u0)) (1 : Int32)))))]))
  refine own_via (fun _ k => XS.lstore X7.here hx rfl (hb hby d1_125) rfl (l' := #[.val (.ref b_), .val (.int (1 : Int32)), .val (.int pn_), .val (.long ((0 : Int64) + (own_ch ((o_i2l pn_) - (own_ft u0)) (1 : Int32)))), .second, .val (.long (if u0 < (0 : Int32) then ((0 : Int64) + (o_lshl (1 : Int64) (0 : Int32))) else (0 : Int64))), .second, .val (.long (((own_ch (o_i2l pn_) (1 : Int32)) - (1 : Int64)) - ((0 : Int64) + (own_ch ((o_i2l pn_) - (own_ft u0)) (1 : Int32))))), .second]) rfl k) ?_
  show own_Go p e below s _ _ _ (T7.setTop (mkF m 127 #[.val (.ref b_), .val (.int (1 : Int32)), .val (.int pn_), .val (.long ((0 : Int64) + (own_ch ((o_i2l pn_) - (own_ft u0)) (1 : Int32)))), .second, .val (.long (if u0 < (0 : Int32) then ((0 : Int64) + (o_lshl (1 : Int64) (0 : Int32))) else (0 : Int64))), .second, .val (.long (((own_ch (o_i2l pn_) (1 : Int32)) - (1 : Int64)) - ((0 : Int64) + (own_ch ((o_i2l pn_) - (own_ft u0)) (1 : Int32))))), .second] []))
  refine own_via (fun _ k => XS.lload X7.here hx rfl (hb hby d1_127) rfl k) ?_
  show own_Go p e below s _ _ _ (T7.setTop (mkF m 129 #[.val (.ref b_), .val (.int (1 : Int32)), .val (.int pn_), .val (.long ((0 : Int64) + (own_ch ((o_i2l pn_) - (own_ft u0)) (1 : Int32)))), .second, .val (.long (if u0 < (0 : Int32) then ((0 : Int64) + (o_lshl (1 : Int64) (0 : Int32))) else (0 : Int64))), .second, .val (.long (((own_ch (o_i2l pn_) (1 : Int32)) - (1 : Int64)) - ((0 : Int64) + (own_ch ((o_i2l pn_) - (own_ft u0)) (1 : Int32))))), .second] [(.long (((own_ch (o_i2l pn_) (1 : Int32)) - (1 : Int64)) - ((0 : Int64) + (own_ch ((o_i2l pn_) - (own_ft u0)) (1 : Int32)))))]))
  refine own_via (fun _ k => XS.iloadN X7.here hx rfl (hb hby d1_129) rfl k) ?_
  show own_Go p e below s _ _ _ (T7.setTop (mkF m 130 #[.val (.ref b_), .val (.int (1 : Int32)), .val (.int pn_), .val (.long ((0 : Int64) + (own_ch ((o_i2l pn_) - (own_ft u0)) (1 : Int32)))), .second, .val (.long (if u0 < (0 : Int32) then ((0 : Int64) + (o_lshl (1 : Int64) (0 : Int32))) else (0 : Int64))), .second, .val (.long (((own_ch (o_i2l pn_) (1 : Int32)) - (1 : Int64)) - ((0 : Int64) + (own_ch ((o_i2l pn_) - (own_ft u0)) (1 : Int32))))), .second] [(.int (1 : Int32)), (.long (((own_ch (o_i2l pn_) (1 : Int32)) - (1 : Int64)) - ((0 : Int64) + (own_ch ((o_i2l pn_) - (own_ft u0)) (1 : Int32)))))]))
  refine own_via (fun _ k => XS.lshl X7.here hx rfl (hb hby d1_130) rfl k) ?_
  show own_Go p e below s _ _ _ (T7.setTop (mkF m 131 #[.val (.ref b_), .val (.int (1 : Int32)), .val (.int pn_), .val (.long ((0 : Int64) + (own_ch ((o_i2l pn_) - (own_ft u0)) (1 : Int32)))), .second, .val (.long (if u0 < (0 : Int32) then ((0 : Int64) + (o_lshl (1 : Int64) (0 : Int32))) else (0 : Int64))), .second, .val (.long (((own_ch (o_i2l pn_) (1 : Int32)) - (1 : Int64)) - ((0 : Int64) + (own_ch ((o_i2l pn_) - (own_ft u0)) (1 : Int32))))), .second] [(.long (o_lshl (((own_ch (o_i2l pn_) (1 : Int32)) - (1 : Int64)) - ((0 : Int64) + (own_ch ((o_i2l pn_) - (own_ft u0)) (1 : Int32)))) (1 : Int32)))]))
  refine own_via (fun _ k => XS.lload X7.here hx rfl (hb hby d1_131) rfl k) ?_
  show own_Go p e below s _ _ _ (T7.setTop (mkF m 133 #[.val (.ref b_), .val (.int (1 : Int32)), .val (.int pn_), .val (.long ((0 : Int64) + (own_ch ((o_i2l pn_) - (own_ft u0)) (1 : Int32)))), .second, .val (.long (if u0 < (0 : Int32) then ((0 : Int64) + (o_lshl (1 : Int64) (0 : Int32))) else (0 : Int64))), .second, .val (.long (((own_ch (o_i2l pn_) (1 : Int32)) - (1 : Int64)) - ((0 : Int64) + (own_ch ((o_i2l pn_) - (own_ft u0)) (1 : Int32))))), .second] [(.long (if u0 < (0 : Int32) then ((0 : Int64) + (o_lshl (1 : Int64) (0 : Int32))) else (0 : Int64))), (.long (o_lshl (((own_ch (o_i2l pn_) (1 : Int32)) - (1 : Int64)) - ((0 : Int64) + (own_ch ((o_i2l pn_) - (own_ft u0)) (1 : Int32)))) (1 : Int32)))]))
  refine own_via (fun _ k => XS.ladd X7.here hx rfl (hb hby d1_133) rfl k) ?_
  show own_Go p e below s _ _ _ (T7.setTop (mkF m 134 #[.val (.ref b_), .val (.int (1 : Int32)), .val (.int pn_), .val (.long ((0 : Int64) + (own_ch ((o_i2l pn_) - (own_ft u0)) (1 : Int32)))), .second, .val (.long (if u0 < (0 : Int32) then ((0 : Int64) + (o_lshl (1 : Int64) (0 : Int32))) else (0 : Int64))), .second, .val (.long (((own_ch (o_i2l pn_) (1 : Int32)) - (1 : Int64)) - ((0 : Int64) + (own_ch ((o_i2l pn_) - (own_ft u0)) (1 : Int32))))), .second] [(.long ((o_lshl (((own_ch (o_i2l pn_) (1 : Int32)) - (1 : Int64)) - ((0 : Int64) + (own_ch ((o_i2l pn_) - (own_ft u0)) (1 : Int32)))) (1 : Int32)) + (if u0 < (0 : Int32) then ((0 : Int64) + (o_lshl (1 : Int64) (0 : Int32))) else (0 : Int64))))]))
  exact own_goJ X7 hx Bd.returns (hb hby d1_134) Bd.notSynchronized (by decide) (by decide) (by rw [e7]; exact ⟨by rw [own_rk1] <;> rfl, N7, rfl⟩)
theorem d5_6 : decode method_5_code 6 = .ok (.iload_n 3, 1) := by decide +kernel
theorem d5_7 : decode method_5_code 7 = .ok (.ifCond .eq 17, 3) := by decide +kernel
theorem d5_10 : decode method_5_code 10 = .ok (.aload_n 0, 1) := by decide +kernel
theorem d5_11 : decode method_5_code 11 = .ok (.iconst 0, 1) := by decide +kernel
theorem d5_12 : decode method_5_code 12 = .ok (.iaload, 1) := by decide +kernel
theorem d5_13 : decode method_5_code 13 = .ok (.iload_n 2, 1) := by decide +kernel
theorem pd_2 : parseMethodDescriptor "(II)Z" = some ⟨[.int, .int], some .boolean⟩ := by decide +kernel
theorem d5_14 : decode method_5_code 14 = .ok (.invokestatic 32, 3) := by decide +kernel
theorem d5_17 : decode method_5_code 17 = .ok (.ifCond .eq 7, 3) := by decide +kernel
theorem d5_24 : decode method_5_code 24 = .ok (.iconst 0, 1) := by decide +kernel
theorem d5_25 : decode method_5_code 25 = .ok (.istore_n 3, 1) := by decide +kernel
theorem d5_20 : decode method_5_code 20 = .ok (.iconst 1, 1) := by decide +kernel
theorem d5_21 : decode method_5_code 21 = .ok (.goto 4, 3) := by decide +kernel
def own_va1 (u0 : Int32) (pn_ : Int32) : Int32 := (if (own_ir u0 pn_) = (0 : Int32) then (0 : Int32) else (1 : Int32))
theorem ef_v1 (m : MethodId) (x0 : Addr) (x1 : Int32) (x2 : Int32) : entryFrame m #[(.ref x0), (.int x1), (.int x2)] 4 = mkF m 0 #[.val (.ref x0), .val (.int x1), .val (.int x2), .unset] [] := by first | (simp [entryFrame, mkF, argsToLocals, Value.category]; done) | rfl
def Qv1 (Z : State) (b_ : Addr) (pt_ : Int32) (pn_ : Int32) (k_ : ClassId) (d_ : Value) (u0 : Int32) (h0 : Heap) (n0 : Nat) (v : Option Value) (h : Heap) (L : List Loc) : Prop := v = some (.int (own_va1 u0 pn_)) ∧ Fr n0 L ∧ h = h0
set_option maxRecDepth 65536 in
set_option maxHeartbeats 40000000 in
theorem rmv1 (l : Launch) (Z : State) (a0 : Array Value) (hw : ∀ d ∈ tables_1, d.before a0 Z = true) (ws : List Jvm.Cond) (b_ : Addr) (pt_ : Int32) (pn_ : Int32) (k_ : ClassId) (d_ : Value) (u0 : Int32) (h0 : Heap) (n0 : Nat) (Z0 : n0 ≤ h0.size) (V_b_ : Arv Z h0 b_ k_ .int (1 : Int32) [(.int u0)] d_) (hp1 : pt_ = (1 : Int32)) :
    MetFree l (⟨"com/example/unalike/unalike/engine/TSetsNextPinLaw", "valid", "([III)Z"⟩ : MethodName) (head1 (Jvm.Cond.code (⟨"com/example/unalike/unalike/engine/TSetsNextPinLaw", "valid", "([III)Z"⟩ : MethodName) method_5_code 4 (some .boolean) :: ws) ({ frames := 2, cells := 0, slots := 0, locals := 27 } : Room)) (fun q_ U => q_ = #[(.ref b_), (.int pt_), (.int pn_)] ∧ Z.Warmed39 U.vm ∧ U.heap = h0) (fun _ _ _ _ _ => True) (fun _ U o U' => ∃ v L, o = .returned v ∧ Qv1 Z b_ pt_ pn_ k_ d_ u0 h0 n0 v U'.heap L ∧ FrameEnd U o U' L ({ frames := 2, cells := 0, slots := 0, locals := 27 } : Room).cells ({ frames := 2, cells := 0, slots := 0, locals := 27 } : Room).slots) := by
  refine MetFree.of_bodySF (plainFor_of_name pn_0) hisR ?_
  intro p e s m args below meth c s₁ Bd hml0 hP hK
  obtain ⟨rfl, hZ, hh⟩ := hP
  have hx := Bd.exec
  have hby := Bd.bytes
  have hml : c.maxLocals = 4 := hml0
  have hown : s.vm.findClass "com/example/unalike/unalike/engine/TSetsNextPinLaw" = some m.cls := findClass_of_methodNamed Bd.named
  have hnm := (name_of_methodNamed Bd.named Bd.method).1
  have X0 : Stand p l e ({ frames := 2, cells := 0, slots := 0, locals := 27 } : Room) s m #[(.ref b_), (.int pt_), (.int pn_)] below meth c s₁ [] 0 0 := Stand.of_body Bd
  have e0 : s₁.heap = h0 := by rw [← hh, Bd.state]; rfl
  have N0 := Fr.nil n0
  show own_Go p e below s (Qv1 Z b_ pt_ pn_ k_ d_ u0 h0 n0) ({ frames := 2, cells := 0, slots := 0, locals := 27 } : Room).cells ({ frames := 2, cells := 0, slots := 0, locals := 27 } : Room).slots (s₁.setTop (entryFrame m #[(.ref b_), (.int pt_), (.int pn_)] 4))
  refine own_via (fun t k => castTop (ef_v1 m b_ pt_ pn_) k) ?_
  show own_Go p e below s _ _ _ (s₁.setTop (mkF m 0 #[.val (.ref b_), .val (.int pt_), .val (.int pn_), .unset] []))
  subst hp1
  show own_Go p e below s _ _ _ (s₁.setTop (mkF m 0 #[.val (.ref b_), .val (.int (1 : Int32)), .val (.int pn_), .unset] []))
  refine own_via (fun _ k => XS.iconst X0.here hx rfl (hb hby d5_0) k) ?_
  show own_Go p e below s _ _ _ (s₁.setTop (mkF m 1 #[.val (.ref b_), .val (.int (1 : Int32)), .val (.int pn_), .unset] [(.int (1 : Int32))]))
  refine own_via (fun _ k => XS.istoreN X0.here hx rfl (hb hby d5_1) rfl (l' := #[.val (.ref b_), .val (.int (1 : Int32)), .val (.int pn_), .val (.int (1 : Int32))]) rfl k) ?_
  show own_Go p e below s _ _ _ (s₁.setTop (mkF m 2 #[.val (.ref b_), .val (.int (1 : Int32)), .val (.int pn_), .val (.int (1 : Int32))] []))
  refine own_via (fun _ k => XS.iloadN X0.here hx rfl (hb hby d5_2) rfl k) ?_
  show own_Go p e below s _ _ _ (s₁.setTop (mkF m 3 #[.val (.ref b_), .val (.int (1 : Int32)), .val (.int pn_), .val (.int (1 : Int32))] [(.int (1 : Int32))]))
  refine own_via (fun _ k => XS.ifNo X0.here hx rfl (hb hby d5_3) rfl (Jvm.Free.XT.i0_le_f (by decide)) k) ?_
  show own_Go p e below s _ _ _ (s₁.setTop (mkF m 6 #[.val (.ref b_), .val (.int (1 : Int32)), .val (.int pn_), .val (.int (1 : Int32))] []))
  refine own_via (fun _ k => XS.iloadN X0.here hx rfl (hb hby d5_6) rfl k) ?_
  show own_Go p e below s _ _ _ (s₁.setTop (mkF m 7 #[.val (.ref b_), .val (.int (1 : Int32)), .val (.int pn_), .val (.int (1 : Int32))] [(.int (1 : Int32))]))
  refine own_via (fun _ k => XS.ifNo X0.here hx rfl (hb hby d5_7) rfl (Jvm.Free.XT.i0_eq_f (by decide)) k) ?_
  show own_Go p e below s _ _ _ (s₁.setTop (mkF m 10 #[.val (.ref b_), .val (.int (1 : Int32)), .val (.int pn_), .val (.int (1 : Int32))] []))
  refine own_via (fun _ k => XS.aloadN X0.here hx rfl (hb hby d5_10) rfl rfl k) ?_
  show own_Go p e below s _ _ _ (s₁.setTop (mkF m 11 #[.val (.ref b_), .val (.int (1 : Int32)), .val (.int pn_), .val (.int (1 : Int32))] [(.ref b_)]))
  refine own_via (fun _ k => XS.iconst X0.here hx rfl (hb hby d5_11) k) ?_
  show own_Go p e below s _ _ _ (s₁.setTop (mkF m 12 #[.val (.ref b_), .val (.int (1 : Int32)), .val (.int pn_), .val (.int (1 : Int32))] [(.int (0 : Int32)), (.ref b_)]))
  obtain ⟨cl1, Ar1, q1, S1, M1, H1, G1⟩ := (id V_b_)
  have hin1 : ¬ ((0 : Int32) < 0 ∨ cl1.slots.size ≤ ((0 : Int32)).toNatClampNeg) := inb_of S1 ⟨by decide, by decide⟩
  have hat1 : cl1.slots[((0 : Int32)).toNatClampNeg]? = some (.int u0) := Has.at H1 hin1 rfl
  refine own_via (fun _ k => X0.iaload hx (j := (0 : Int32)) (v := (.int u0)) (by rw [e0]; exact Ar1.1) (State.isArrayOf_alike hZ.alike Ar1.2.1) Ar1.2.2 hin1 hat1 (g := (mkF m 12 #[.val (.ref b_), .val (.int (1 : Int32)), .val (.int pn_), .val (.int (1 : Int32))] [(.int (0 : Int32)), (.ref b_)])) rfl rfl (hb hby d5_12) _ k) ?_
  show own_Go p e below s _ _ _ (s₁.setTop (mkF m 13 #[.val (.ref b_), .val (.int (1 : Int32)), .val (.int pn_), .val (.int (1 : Int32))] [(.int u0)]))
  refine own_via (fun _ k => XS.iloadN X0.here hx rfl (hb hby d5_13) rfl k) ?_
  show own_Go p e below s _ _ _ (s₁.setTop (mkF m 14 #[.val (.ref b_), .val (.int (1 : Int32)), .val (.int pn_), .val (.int (1 : Int32))] [(.int pn_), (.int u0)]))
  obtain ⟨_, _, ⟨T2, L2, k2, n2⟩, -, X2, ⟨Lc2, hQ2, l2, y2, z2⟩, st2⟩ := Jvm.LawKit.callS X0 hx (y := (⟨"com/example/unalike/unalike/engine/TSetsNextPinLaw", "inRange", "(II)Z"⟩ : MethodName)) hown (mvT hZ (hw _ (List.mem_of_getElem? (i := 21) rfl))) (mvT hZ (hw _ (List.mem_of_getElem? (i := 22) rfl))) (mvT hZ (hw _ (List.mem_of_getElem? (i := 4) rfl))) (mvT hZ (hw _ (List.mem_of_getElem? (i := 23) rfl))) (by decide) (backOf (W := 0) (rm6 l Z a0 hw [] u0 pn_ h0 n0 Z0 ) hZ (hw _ (List.mem_of_getElem? (i := 23) rfl)) (hw _ (List.mem_of_getElem? (i := 4) rfl)) (by decide) (by decide)) (g := (mkF m 14 #[.val (.ref b_), .val (.int (1 : Int32)), .val (.int pn_), .val (.int (1 : Int32))] [(.int pn_), (.int u0)])) rfl (by rw [hml]; rfl) (argsL := [(.int u0), (.int pn_)]) (rest := []) (lenOf pd_2 rfl) rfl (by show 2 * 0 + _ ≤ _; exact Nat.le_of_eq rfl) (hb hby d5_14) (fun _ _ => ⟨rfl, e0, (by decide : 0 + 0 ≤ _), (by decide : 0 + 0 ≤ _)⟩)
  dsimp only [Pt.U, Pt.locs, Pt.cells, Pt.slots] at X2 l2 y2 z2 st2 hQ2
  subst l2 y2 z2
  obtain ⟨rfl, N2q, e2⟩ := hQ2
  have N2 := Fr.app N0 N2q
  refine own_via st2 ?_
  show own_Go p e below s _ _ _ (T2.setTop (mkF m 17 #[.val (.ref b_), .val (.int (1 : Int32)), .val (.int pn_), .val (.int (1 : Int32))] [(.int (own_ir u0 pn_))]))
  by_cases hc3 : (own_ir u0 pn_) = (0 : Int32)
  · refine own_via (fun _ k => XS.ifYes X2.here hx rfl (pc0 := 17) (pc' := 24) rfl (hb hby d5_17) rfl (Jvm.Free.XT.i0_eq_t hc3) (by decide) (by decide) k) ?_
    show own_Go p e below s _ _ _ (T2.setTop (mkF m 24 #[.val (.ref b_), .val (.int (1 : Int32)), .val (.int pn_), .val (.int (1 : Int32))] []))
    refine own_via (fun _ k => XS.iconst X2.here hx rfl (hb hby d5_24) k) ?_
    show own_Go p e below s _ _ _ (T2.setTop (mkF m 25 #[.val (.ref b_), .val (.int (1 : Int32)), .val (.int pn_), .val (.int (1 : Int32))] [(.int (0 : Int32))]))
    refine own_via (fun _ k => XS.istoreN X2.here hx rfl (hb hby d5_25) rfl (l' := #[.val (.ref b_), .val (.int (1 : Int32)), .val (.int pn_), .val (.int (0 : Int32))]) rfl k) ?_
    show own_Go p e below s _ _ _ (T2.setTop (mkF m 26 #[.val (.ref b_), .val (.int (1 : Int32)), .val (.int pn_), .val (.int (0 : Int32))] []))
    refine own_via (fun _ k => XS.iloadN X2.here hx rfl (hb hby d5_26) rfl k) ?_
    show own_Go p e below s _ _ _ (T2.setTop (mkF m 27 #[.val (.ref b_), .val (.int (1 : Int32)), .val (.int pn_), .val (.int (0 : Int32))] [(.int (1 : Int32))]))
    refine own_via (fun _ k => XS.iconst X2.here hx rfl (hb hby d5_27) k) ?_
    show own_Go p e below s _ _ _ (T2.setTop (mkF m 28 #[.val (.ref b_), .val (.int (1 : Int32)), .val (.int pn_), .val (.int (0 : Int32))] [(.int (1 : Int32)), (.int (1 : Int32))]))
    refine own_via (fun _ k => XS.icmpYes X2.here hx rfl (pc0 := 28) (pc' := 67) rfl (hb hby d5_28) rfl (Jvm.Free.XT.ii_le_t (by decide)) (by decide) (by decide) k) ?_
    show own_Go p e below s _ _ _ (T2.setTop (mkF m 67 #[.val (.ref b_), .val (.int (1 : Int32)), .val (.int pn_), .val (.int (0 : Int32))] []))
    refine own_via (fun _ k => XS.iloadN X2.here hx rfl (hb hby d5_67) rfl k) ?_
    show own_Go p e below s _ _ _ (T2.setTop (mkF m 68 #[.val (.ref b_), .val (.int (1 : Int32)), .val (.int pn_), .val (.int (0 : Int32))] [(.int (1 : Int32))]))
    refine own_via (fun _ k => XS.iconst X2.here hx rfl (hb hby d5_68) k) ?_
    show own_Go p e below s _ _ _ (T2.setTop (mkF m 69 #[.val (.ref b_), .val (.int (1 : Int32)), .val (.int pn_), .val (.int (0 : Int32))] [(.int (2 : Int32)), (.int (1 : Int32))]))
    refine own_via (fun _ k => XS.icmpYes X2.here hx rfl (pc0 := 69) (pc' := 108) rfl (hb hby d5_69) rfl (Jvm.Free.XT.ii_le_t (by decide)) (by decide) (by decide) k) ?_
    show own_Go p e below s _ _ _ (T2.setTop (mkF m 108 #[.val (.ref b_), .val (.int (1 : Int32)), .val (.int pn_), .val (.int (0 : Int32))] []))
    refine own_via (fun _ k => XS.iloadN X2.here hx rfl (hb hby d5_108) rfl k) ?_
    show own_Go p e below s _ _ _ (T2.setTop (mkF m 109 #[.val (.ref b_), .val (.int (1 : Int32)), .val (.int pn_), .val (.int (0 : Int32))] [(.int (0 : Int32))]))
    exact own_goN X2 hx (t := .boolean) Bd.returns (by simp) (hb hby d5_109) Bd.notSynchronized (by decide) (by decide) (by rw [e2]; exact ⟨by rw [own_va1, if_pos hc3] <;> rfl, N2, rfl⟩)
  · refine own_via (fun _ k => XS.ifNo X2.here hx rfl (hb hby d5_17) rfl (Jvm.Free.XT.i0_eq_f hc3) k) ?_
    show own_Go p e below s _ _ _ (T2.setTop (mkF m 20 #[.val (.ref b_), .val (.int (1 : Int32)), .val (.int pn_), .val (.int (1 : Int32))] []))
    refine own_via (fun _ k => XS.iconst X2.here hx rfl (hb hby d5_20) k) ?_
    show own_Go p e below s _ _ _ (T2.setTop (mkF m 21 #[.val (.ref b_), .val (.int (1 : Int32)), .val (.int pn_), .val (.int (1 : Int32))] [(.int (1 : Int32))]))
    refine own_via (fun _ k => XS.goto X2.here hx rfl (pc0 := 21) (pc' := 25) rfl (hb hby d5_21) (by decide) (by decide) k) ?_
    show own_Go p e below s _ _ _ (T2.setTop (mkF m 25 #[.val (.ref b_), .val (.int (1 : Int32)), .val (.int pn_), .val (.int (1 : Int32))] [(.int (1 : Int32))]))
    refine own_via (fun _ k => XS.istoreN X2.here hx rfl (hb hby d5_25) rfl (l' := #[.val (.ref b_), .val (.int (1 : Int32)), .val (.int pn_), .val (.int (1 : Int32))]) rfl k) ?_
    show own_Go p e below s _ _ _ (T2.setTop (mkF m 26 #[.val (.ref b_), .val (.int (1 : Int32)), .val (.int pn_), .val (.int (1 : Int32))] []))
    refine own_via (fun _ k => XS.iloadN X2.here hx rfl (hb hby d5_26) rfl k) ?_
    show own_Go p e below s _ _ _ (T2.setTop (mkF m 27 #[.val (.ref b_), .val (.int (1 : Int32)), .val (.int pn_), .val (.int (1 : Int32))] [(.int (1 : Int32))]))
    refine own_via (fun _ k => XS.iconst X2.here hx rfl (hb hby d5_27) k) ?_
    show own_Go p e below s _ _ _ (T2.setTop (mkF m 28 #[.val (.ref b_), .val (.int (1 : Int32)), .val (.int pn_), .val (.int (1 : Int32))] [(.int (1 : Int32)), (.int (1 : Int32))]))
    refine own_via (fun _ k => XS.icmpYes X2.here hx rfl (pc0 := 28) (pc' := 67) rfl (hb hby d5_28) rfl (Jvm.Free.XT.ii_le_t (by decide)) (by decide) (by decide) k) ?_
    show own_Go p e below s _ _ _ (T2.setTop (mkF m 67 #[.val (.ref b_), .val (.int (1 : Int32)), .val (.int pn_), .val (.int (1 : Int32))] []))
    refine own_via (fun _ k => XS.iloadN X2.here hx rfl (hb hby d5_67) rfl k) ?_
    show own_Go p e below s _ _ _ (T2.setTop (mkF m 68 #[.val (.ref b_), .val (.int (1 : Int32)), .val (.int pn_), .val (.int (1 : Int32))] [(.int (1 : Int32))]))
    refine own_via (fun _ k => XS.iconst X2.here hx rfl (hb hby d5_68) k) ?_
    show own_Go p e below s _ _ _ (T2.setTop (mkF m 69 #[.val (.ref b_), .val (.int (1 : Int32)), .val (.int pn_), .val (.int (1 : Int32))] [(.int (2 : Int32)), (.int (1 : Int32))]))
    refine own_via (fun _ k => XS.icmpYes X2.here hx rfl (pc0 := 69) (pc' := 108) rfl (hb hby d5_69) rfl (Jvm.Free.XT.ii_le_t (by decide)) (by decide) (by decide) k) ?_
    show own_Go p e below s _ _ _ (T2.setTop (mkF m 108 #[.val (.ref b_), .val (.int (1 : Int32)), .val (.int pn_), .val (.int (1 : Int32))] []))
    refine own_via (fun _ k => XS.iloadN X2.here hx rfl (hb hby d5_108) rfl k) ?_
    show own_Go p e below s _ _ _ (T2.setTop (mkF m 109 #[.val (.ref b_), .val (.int (1 : Int32)), .val (.int pn_), .val (.int (1 : Int32))] [(.int (1 : Int32))]))
    exact own_goN X2 hx (t := .boolean) Bd.returns (by simp) (hb hby d5_109) Bd.notSynchronized (by decide) (by decide) (by rw [e2]; exact ⟨by rw [own_va1, if_neg hc3] <;> rfl, N2, rfl⟩)
theorem d3_11 : decode prog_20_method_4_code 11 = .ok (.aload_n 0, 1) := by decide +kernel
theorem d3_12 : decode prog_20_method_4_code 12 = .ok (.iload_n 3, 1) := by decide +kernel
theorem d3_13 : decode prog_20_method_4_code 13 = .ok (.aload_n 0, 1) := by decide +kernel
theorem d3_14 : decode prog_20_method_4_code 14 = .ok (.iload_n 3, 1) := by decide +kernel
theorem d3_15 : decode prog_20_method_4_code 15 = .ok (.iaload, 1) := by decide +kernel
theorem d3_16 : decode prog_20_method_4_code 16 = .ok (.ineg, 1) := by decide +kernel
theorem d3_17 : decode prog_20_method_4_code 17 = .ok (.iastore, 1) := by decide +kernel
theorem d3_18 : decode prog_20_method_4_code 18 = .ok (.aload_n 0, 1) := by decide +kernel
theorem d3_19 : decode prog_20_method_4_code 19 = .ok (.iload_n 3, 1) := by decide +kernel
theorem d3_20 : decode prog_20_method_4_code 20 = .ok (.iaload, 1) := by decide +kernel
theorem d3_21 : decode prog_20_method_4_code 21 = .ok (.ifCond .ge 5, 3) := by decide +kernel
theorem d3_24 : decode prog_20_method_4_code 24 = .ok (.iconst 1, 1) := by decide +kernel
theorem d3_25 : decode prog_20_method_4_code 25 = .ok (.ireturn, 1) := by decide +kernel
theorem d3_26 : decode prog_20_method_4_code 26 = .ok (.iinc 3 (-1), 3) := by decide +kernel
theorem d3_29 : decode prog_20_method_4_code 29 = .ok (.goto (-22), 3) := by decide +kernel
theorem d3_40 : decode prog_20_method_4_code 40 = .ok (.aload_n 0, 1) := by decide +kernel
theorem d3_41 : decode prog_20_method_4_code 41 = .ok (.iload_n 3, 1) := by decide +kernel
theorem d3_42 : decode prog_20_method_4_code 42 = .ok (.iaload, 1) := by decide +kernel
theorem d3_43 : decode prog_20_method_4_code 43 = .ok (.iload_n 1, 1) := by decide +kernel
theorem d3_44 : decode prog_20_method_4_code 44 = .ok (.iload_n 2, 1) := by decide +kernel
theorem d3_45 : decode prog_20_method_4_code 45 = .ok (.iconst 1, 1) := by decide +kernel
theorem d3_46 : decode prog_20_method_4_code 46 = .ok (.isub, 1) := by decide +kernel
theorem d3_47 : decode prog_20_method_4_code 47 = .ok (.iload_n 3, 1) := by decide +kernel
theorem d3_48 : decode prog_20_method_4_code 48 = .ok (.isub, 1) := by decide +kernel
theorem d3_49 : decode prog_20_method_4_code 49 = .ok (.isub, 1) := by decide +kernel
theorem d3_50 : decode prog_20_method_4_code 50 = .ok (.if_icmp .ge 41, 3) := by decide +kernel
theorem d3_53 : decode prog_20_method_4_code 53 = .ok (.aload_n 0, 1) := by decide +kernel
theorem d3_54 : decode prog_20_method_4_code 54 = .ok (.iload_n 3, 1) := by decide +kernel
theorem d3_55 : decode prog_20_method_4_code 55 = .ok (.dup2, 1) := by decide +kernel
theorem d3_56 : decode prog_20_method_4_code 56 = .ok (.iaload, 1) := by decide +kernel
theorem d3_57 : decode prog_20_method_4_code 57 = .ok (.iconst 1, 1) := by decide +kernel
theorem d3_58 : decode prog_20_method_4_code 58 = .ok (.iadd, 1) := by decide +kernel
theorem d3_59 : decode prog_20_method_4_code 59 = .ok (.iastore, 1) := by decide +kernel
theorem d3_60 : decode prog_20_method_4_code 60 = .ok (.iload_n 3, 1) := by decide +kernel
theorem d3_61 : decode prog_20_method_4_code 61 = .ok (.iconst 1, 1) := by decide +kernel
theorem d3_62 : decode prog_20_method_4_code 62 = .ok (.iadd, 1) := by decide +kernel
theorem d3_63 : decode prog_20_method_4_code 63 = .ok (.istore 4, 2) := by decide +kernel
theorem d3_65 : decode prog_20_method_4_code 65 = .ok (.iload 4, 2) := by decide +kernel
theorem d3_67 : decode prog_20_method_4_code 67 = .ok (.iload_n 2, 1) := by decide +kernel
theorem d3_68 : decode prog_20_method_4_code 68 = .ok (.if_icmp .ge 21, 3) := by decide +kernel
theorem d3_89 : decode prog_20_method_4_code 89 = .ok (.iconst 1, 1) := by decide +kernel
theorem d3_90 : decode prog_20_method_4_code 90 = .ok (.ireturn, 1) := by decide +kernel
theorem d3_91 : decode prog_20_method_4_code 91 = .ok (.iinc 3 (-1), 3) := by decide +kernel
theorem d3_94 : decode prog_20_method_4_code 94 = .ok (.goto (-58), 3) := by decide +kernel
def own_nr1 (u0 : Int32) (pn_ : Int32) : Int32 := (if (-u0) < (0 : Int32) then (1 : Int32) else (if (-u0) < (pn_ - (0 : Int32)) then (1 : Int32) else (0 : Int32)))
def own_nx1_0 (u0 : Int32) (pn_ : Int32) : Int32 := (if (-u0) < (0 : Int32) then (-u0) else (if (-u0) < (pn_ - (0 : Int32)) then ((-u0) + (1 : Int32)) else (-u0)))
theorem ef_n1 (m : MethodId) (x0 : Addr) (x1 : Int32) : entryFrame m #[(.ref x0), (.int x1)] 5 = mkF m 0 #[.val (.ref x0), .val (.int x1), .unset, .unset, .unset] [] := by first | (simp [entryFrame, mkF, argsToLocals, Value.category]; done) | rfl
def Qn1 (Z : State) (b_ : Addr) (pn_ : Int32) (k_ : ClassId) (d_ : Value) (u0 : Int32) (h0 : Heap) (n0 : Nat) (v : Option Value) (h : Heap) (L : List Loc) : Prop := v = some (.int (own_nr1 u0 pn_)) ∧ Fr n0 L ∧ Keep h0 h [b_] ∧ Arv Z h b_ k_ .int (1 : Int32) [(.int (own_nx1_0 u0 pn_))] d_
set_option maxRecDepth 65536 in
set_option maxHeartbeats 40000000 in
theorem rmn1 (l : Launch) (Z : State) (a0 : Array Value) (hw : ∀ d ∈ tables_1, d.before a0 Z = true) (ws : List Jvm.Cond) (b_ : Addr) (pn_ : Int32) (k_ : ClassId) (d_ : Value) (u0 : Int32) (h0 : Heap) (n0 : Nat) (Z0 : n0 ≤ h0.size) (V_b_ : Arv Z h0 b_ k_ .int (1 : Int32) [(.int u0)] d_) (g_b_ : n0 ≤ b_) :
    MetFree l (⟨"com/example/unalike/unalike/engine/TSets", "next", "([II)Z"⟩ : MethodName) (head1 (Jvm.Cond.code (⟨"com/example/unalike/unalike/engine/TSets", "next", "([II)Z"⟩ : MethodName) prog_20_method_4_code 5 (some .boolean) :: ws) ({ frames := 0, cells := 0, slots := 0, locals := 0 } : Room)) (fun q_ U => q_ = #[(.ref b_), (.int pn_)] ∧ Z.Warmed39 U.vm ∧ U.heap = h0) (fun _ _ _ _ _ => True) (fun _ U o U' => ∃ v L, o = .returned v ∧ Qn1 Z b_ pn_ k_ d_ u0 h0 n0 v U'.heap L ∧ FrameEnd U o U' L ({ frames := 0, cells := 0, slots := 0, locals := 0 } : Room).cells ({ frames := 0, cells := 0, slots := 0, locals := 0 } : Room).slots) := by
  refine MetFree.of_bodySF (plainFor_of_name pn_1) hisR ?_
  intro p e s m args below meth c s₁ Bd hml0 hP hK
  obtain ⟨rfl, hZ, hh⟩ := hP
  have hx := Bd.exec
  have hby := Bd.bytes
  have hml : c.maxLocals = 5 := hml0
  have hown : s.vm.findClass "com/example/unalike/unalike/engine/TSets" = some m.cls := findClass_of_methodNamed Bd.named
  have hnm := (name_of_methodNamed Bd.named Bd.method).1
  have X0 : Stand p l e ({ frames := 0, cells := 0, slots := 0, locals := 0 } : Room) s m #[(.ref b_), (.int pn_)] below meth c s₁ [] 0 0 := Stand.of_body Bd
  have e0 : s₁.heap = h0 := by rw [← hh, Bd.state]; rfl
  have N0 := Fr.nil n0
  show own_Go p e below s (Qn1 Z b_ pn_ k_ d_ u0 h0 n0) ({ frames := 0, cells := 0, slots := 0, locals := 0 } : Room).cells ({ frames := 0, cells := 0, slots := 0, locals := 0 } : Room).slots (s₁.setTop (entryFrame m #[(.ref b_), (.int pn_)] 5))
  refine own_via (fun t k => castTop (ef_n1 m b_ pn_) k) ?_
  have K0 : Keep h0 h0 [b_] := Keep.refl _ _
  show own_Go p e below s _ _ _ (s₁.setTop (mkF m 0 #[.val (.ref b_), .val (.int pn_), .unset, .unset, .unset] []))
  refine own_via (fun _ k => XS.aloadN X0.here hx rfl (hb hby d3_0) rfl rfl k) ?_
  show own_Go p e below s _ _ _ (s₁.setTop (mkF m 1 #[.val (.ref b_), .val (.int pn_), .unset, .unset, .unset] [(.ref b_)]))
  obtain ⟨cl1, Ar1, q1, S1, M1, H1, G1⟩ := (id V_b_)
  refine own_via (fun _ k => X0.arraylength hx (by rw [e0]; exact Ar1.1) (State.isArrayOf_alike hZ.alike Ar1.2.1) (g := (mkF m 1 #[.val (.ref b_), .val (.int pn_), .unset, .unset, .unset] [(.ref b_)])) rfl rfl (hb hby d3_1) _ (by rw [len_of S1 M1]; exact k)) ?_
  show own_Go p e below s _ _ _ (s₁.setTop (mkF m 2 #[.val (.ref b_), .val (.int pn_), .unset, .unset, .unset] [(.int (1 : Int32))]))
  refine own_via (fun _ k => XS.istoreN X0.here hx rfl (hb hby d3_2) rfl (l' := #[.val (.ref b_), .val (.int pn_), .val (.int (1 : Int32)), .unset, .unset]) rfl k) ?_
  show own_Go p e below s _ _ _ (s₁.setTop (mkF m 3 #[.val (.ref b_), .val (.int pn_), .val (.int (1 : Int32)), .unset, .unset] []))
  refine own_via (fun _ k => XS.iloadN X0.here hx rfl (hb hby d3_3) rfl k) ?_
  show own_Go p e below s _ _ _ (s₁.setTop (mkF m 4 #[.val (.ref b_), .val (.int pn_), .val (.int (1 : Int32)), .unset, .unset] [(.int (1 : Int32))]))
  refine own_via (fun _ k => XS.iconst X0.here hx rfl (hb hby d3_4) k) ?_
  show own_Go p e below s _ _ _ (s₁.setTop (mkF m 5 #[.val (.ref b_), .val (.int pn_), .val (.int (1 : Int32)), .unset, .unset] [(.int (1 : Int32)), (.int (1 : Int32))]))
  refine own_via (fun _ k => XS.isub X0.here hx rfl (hb hby d3_5) rfl k) ?_
  show own_Go p e below s _ _ _ (s₁.setTop (mkF m 6 #[.val (.ref b_), .val (.int pn_), .val (.int (1 : Int32)), .unset, .unset] [(.int (0 : Int32))]))
  refine own_via (fun _ k => XS.istoreN X0.here hx rfl (hb hby d3_6) rfl (l' := #[.val (.ref b_), .val (.int pn_), .val (.int (1 : Int32)), .val (.int (0 : Int32)), .unset]) rfl k) ?_
  show own_Go p e below s _ _ _ (s₁.setTop (mkF m 7 #[.val (.ref b_), .val (.int pn_), .val (.int (1 : Int32)), .val (.int (0 : Int32)), .unset] []))
  refine own_via (fun _ k => XS.iloadN X0.here hx rfl (hb hby d3_7) rfl k) ?_
  show own_Go p e below s _ _ _ (s₁.setTop (mkF m 8 #[.val (.ref b_), .val (.int pn_), .val (.int (1 : Int32)), .val (.int (0 : Int32)), .unset] [(.int (0 : Int32))]))
  refine own_via (fun _ k => XS.ifNo X0.here hx rfl (hb hby d3_8) rfl (Jvm.Free.XT.i0_lt_f (by decide)) k) ?_
  show own_Go p e below s _ _ _ (s₁.setTop (mkF m 11 #[.val (.ref b_), .val (.int pn_), .val (.int (1 : Int32)), .val (.int (0 : Int32)), .unset] []))
  refine own_via (fun _ k => XS.aloadN X0.here hx rfl (hb hby d3_11) rfl rfl k) ?_
  show own_Go p e below s _ _ _ (s₁.setTop (mkF m 12 #[.val (.ref b_), .val (.int pn_), .val (.int (1 : Int32)), .val (.int (0 : Int32)), .unset] [(.ref b_)]))
  refine own_via (fun _ k => XS.iloadN X0.here hx rfl (hb hby d3_12) rfl k) ?_
  show own_Go p e below s _ _ _ (s₁.setTop (mkF m 13 #[.val (.ref b_), .val (.int pn_), .val (.int (1 : Int32)), .val (.int (0 : Int32)), .unset] [(.int (0 : Int32)), (.ref b_)]))
  refine own_via (fun _ k => XS.aloadN X0.here hx rfl (hb hby d3_13) rfl rfl k) ?_
  show own_Go p e below s _ _ _ (s₁.setTop (mkF m 14 #[.val (.ref b_), .val (.int pn_), .val (.int (1 : Int32)), .val (.int (0 : Int32)), .unset] [(.ref b_), (.int (0 : Int32)), (.ref b_)]))
  refine own_via (fun _ k => XS.iloadN X0.here hx rfl (hb hby d3_14) rfl k) ?_
  show own_Go p e below s _ _ _ (s₁.setTop (mkF m 15 #[.val (.ref b_), .val (.int pn_), .val (.int (1 : Int32)), .val (.int (0 : Int32)), .unset] [(.int (0 : Int32)), (.ref b_), (.int (0 : Int32)), (.ref b_)]))
  obtain ⟨cl2, Ar2, q2, S2, M2, H2, G2⟩ := (id V_b_)
  have hin2 : ¬ ((0 : Int32) < 0 ∨ cl2.slots.size ≤ ((0 : Int32)).toNatClampNeg) := inb_of S2 ⟨by decide, by decide⟩
  have hat2 : cl2.slots[((0 : Int32)).toNatClampNeg]? = some (.int u0) := Has.at H2 hin2 rfl
  refine own_via (fun _ k => X0.iaload hx (j := (0 : Int32)) (v := (.int u0)) (by rw [e0]; exact Ar2.1) (State.isArrayOf_alike hZ.alike Ar2.2.1) Ar2.2.2 hin2 hat2 (g := (mkF m 15 #[.val (.ref b_), .val (.int pn_), .val (.int (1 : Int32)), .val (.int (0 : Int32)), .unset] [(.int (0 : Int32)), (.ref b_), (.int (0 : Int32)), (.ref b_)])) rfl rfl (hb hby d3_15) _ k) ?_
  show own_Go p e below s _ _ _ (s₁.setTop (mkF m 16 #[.val (.ref b_), .val (.int pn_), .val (.int (1 : Int32)), .val (.int (0 : Int32)), .unset] [(.int u0), (.int (0 : Int32)), (.ref b_)]))
  refine own_via (fun _ k => XS.ineg X0.here hx rfl (hb hby d3_16) rfl k) ?_
  show own_Go p e below s _ _ _ (s₁.setTop (mkF m 17 #[.val (.ref b_), .val (.int pn_), .val (.int (1 : Int32)), .val (.int (0 : Int32)), .unset] [(.int (-u0)), (.int (0 : Int32)), (.ref b_)]))
  obtain ⟨cl3, Ar3, q3, S3, M3, H3, G3⟩ := (id V_b_)
  have hin3 : ¬ ((0 : Int32) < 0 ∨ cl3.slots.size ≤ ((0 : Int32)).toNatClampNeg) := inb_of S3 ⟨by decide, by decide⟩
  obtain ⟨T3, h3, X3, e3, W3, st3⟩ := stI X0 hx hZ e0 Ar3 (j := (0 : Int32)) hin3 (g := (mkF m 17 #[.val (.ref b_), .val (.int pn_), .val (.int (1 : Int32)), .val (.int (0 : Int32)), .unset] [(.int (-u0)), (.int (0 : Int32)), (.ref b_)])) rfl rfl (hb hby d3_17)
  have V3 : Arv Z h3 b_ k_ .int (1 : Int32) [(.int (-u0))] d_ := Arv.set Ar3 q3 S3 M3 H3 G3 rfl W3 0 rfl (Nat.le_of_ble_eq_true rfl)
  have N3 := Fr.snoc X3 N0 g_b_
  have Z3 : n0 ≤ h3.size := Nat.le_trans Z0 (Keep.of_wr W3).1
  have K3 : Keep h0 h3 [b_] := K0.wr W3 (Or.inl (List.mem_of_getElem? (i := 0) rfl))
  refine own_via st3 ?_
  show own_Go p e below s _ _ _ (T3.setTop (mkF m 18 #[.val (.ref b_), .val (.int pn_), .val (.int (1 : Int32)), .val (.int (0 : Int32)), .unset] []))
  refine own_via (fun _ k => XS.aloadN X3.here hx rfl (hb hby d3_18) rfl rfl k) ?_
  show own_Go p e below s _ _ _ (T3.setTop (mkF m 19 #[.val (.ref b_), .val (.int pn_), .val (.int (1 : Int32)), .val (.int (0 : Int32)), .unset] [(.ref b_)]))
  refine own_via (fun _ k => XS.iloadN X3.here hx rfl (hb hby d3_19) rfl k) ?_
  show own_Go p e below s _ _ _ (T3.setTop (mkF m 20 #[.val (.ref b_), .val (.int pn_), .val (.int (1 : Int32)), .val (.int (0 : Int32)), .unset] [(.int (0 : Int32)), (.ref b_)]))
  obtain ⟨cl4, Ar4, q4, S4, M4, H4, G4⟩ := (id V3)
  have hin4 : ¬ ((0 : Int32) < 0 ∨ cl4.slots.size ≤ ((0 : Int32)).toNatClampNeg) := inb_of S4 ⟨by decide, by decide⟩
  have hat4 : cl4.slots[((0 : Int32)).toNatClampNeg]? = some (.int (-u0)) := Has.at H4 hin4 rfl
  refine own_via (fun _ k => X3.iaload hx (j := (0 : Int32)) (v := (.int (-u0))) (by rw [e3]; exact Ar4.1) (State.isArrayOf_alike hZ.alike Ar4.2.1) Ar4.2.2 hin4 hat4 (g := (mkF m 20 #[.val (.ref b_), .val (.int pn_), .val (.int (1 : Int32)), .val (.int (0 : Int32)), .unset] [(.int (0 : Int32)), (.ref b_)])) rfl rfl (hb hby d3_20) _ k) ?_
  show own_Go p e below s _ _ _ (T3.setTop (mkF m 21 #[.val (.ref b_), .val (.int pn_), .val (.int (1 : Int32)), .val (.int (0 : Int32)), .unset] [(.int (-u0))]))
  by_cases hc5 : (-u0) < (0 : Int32)
  · refine own_via (fun _ k => XS.ifNo X3.here hx rfl (hb hby d3_21) rfl (Jvm.Free.XT.i0_ge_f hc5) k) ?_
    show own_Go p e below s _ _ _ (T3.setTop (mkF m 24 #[.val (.ref b_), .val (.int pn_), .val (.int (1 : Int32)), .val (.int (0 : Int32)), .unset] []))
    refine own_via (fun _ k => XS.iconst X3.here hx rfl (hb hby d3_24) k) ?_
    show own_Go p e below s _ _ _ (T3.setTop (mkF m 25 #[.val (.ref b_), .val (.int pn_), .val (.int (1 : Int32)), .val (.int (0 : Int32)), .unset] [(.int (1 : Int32))]))
    exact own_goN X3 hx (t := .boolean) Bd.returns (by simp) (hb hby d3_25) Bd.notSynchronized (by decide) (by decide) (by rw [e3]; exact ⟨by rw [own_nr1, if_pos hc5] <;> rfl, N3, K3, (by simp only [own_nx1_0, if_pos hc5]; exact V3)⟩)
  · refine own_via (fun _ k => XS.ifYes X3.here hx rfl (pc0 := 21) (pc' := 26) rfl (hb hby d3_21) rfl (Jvm.Free.XT.i0_ge_t hc5) (by decide) (by decide) k) ?_
    show own_Go p e below s _ _ _ (T3.setTop (mkF m 26 #[.val (.ref b_), .val (.int pn_), .val (.int (1 : Int32)), .val (.int (0 : Int32)), .unset] []))
    refine own_via (fun _ k => XS.iinc X3.here hx rfl (hb hby d3_26) rfl (l' := #[.val (.ref b_), .val (.int pn_), .val (.int (1 : Int32)), .val (.int (-1 : Int32)), .unset]) rfl k) ?_
    show own_Go p e below s _ _ _ (T3.setTop (mkF m 29 #[.val (.ref b_), .val (.int pn_), .val (.int (1 : Int32)), .val (.int (-1 : Int32)), .unset] []))
    refine own_via (fun _ k => XS.goto X3.here hx rfl (pc0 := 29) (pc' := 7) rfl (hb hby d3_29) (by decide) (by decide) k) ?_
    show own_Go p e below s _ _ _ (T3.setTop (mkF m 7 #[.val (.ref b_), .val (.int pn_), .val (.int (1 : Int32)), .val (.int (-1 : Int32)), .unset] []))
    refine own_via (fun _ k => XS.iloadN X3.here hx rfl (hb hby d3_7) rfl k) ?_
    show own_Go p e below s _ _ _ (T3.setTop (mkF m 8 #[.val (.ref b_), .val (.int pn_), .val (.int (1 : Int32)), .val (.int (-1 : Int32)), .unset] [(.int (-1 : Int32))]))
    refine own_via (fun _ k => XS.ifYes X3.here hx rfl (pc0 := 8) (pc' := 32) rfl (hb hby d3_8) rfl (Jvm.Free.XT.i0_lt_t (by decide)) (by decide) (by decide) k) ?_
    show own_Go p e below s _ _ _ (T3.setTop (mkF m 32 #[.val (.ref b_), .val (.int pn_), .val (.int (1 : Int32)), .val (.int (-1 : Int32)), .unset] []))
    refine own_via (fun _ k => XS.iloadN X3.here hx rfl (hb hby d3_32) rfl k) ?_
    show own_Go p e below s _ _ _ (T3.setTop (mkF m 33 #[.val (.ref b_), .val (.int pn_), .val (.int (1 : Int32)), .val (.int (-1 : Int32)), .unset] [(.int (1 : Int32))]))
    refine own_via (fun _ k => XS.iconst X3.here hx rfl (hb hby d3_33) k) ?_
    show own_Go p e below s _ _ _ (T3.setTop (mkF m 34 #[.val (.ref b_), .val (.int pn_), .val (.int (1 : Int32)), .val (.int (-1 : Int32)), .unset] [(.int (1 : Int32)), (.int (1 : Int32))]))
    refine own_via (fun _ k => XS.isub X3.here hx rfl (hb hby d3_34) rfl k) ?_
    show own_Go p e below s _ _ _ (T3.setTop (mkF m 35 #[.val (.ref b_), .val (.int pn_), .val (.int (1 : Int32)), .val (.int (-1 : Int32)), .unset] [(.int (0 : Int32))]))
    refine own_via (fun _ k => XS.istoreN X3.here hx rfl (hb hby d3_35) rfl (l' := #[.val (.ref b_), .val (.int pn_), .val (.int (1 : Int32)), .val (.int (0 : Int32)), .unset]) rfl k) ?_
    show own_Go p e below s _ _ _ (T3.setTop (mkF m 36 #[.val (.ref b_), .val (.int pn_), .val (.int (1 : Int32)), .val (.int (0 : Int32)), .unset] []))
    refine own_via (fun _ k => XS.iloadN X3.here hx rfl (hb hby d3_36) rfl k) ?_
    show own_Go p e below s _ _ _ (T3.setTop (mkF m 37 #[.val (.ref b_), .val (.int pn_), .val (.int (1 : Int32)), .val (.int (0 : Int32)), .unset] [(.int (0 : Int32))]))
    refine own_via (fun _ k => XS.ifNo X3.here hx rfl (hb hby d3_37) rfl (Jvm.Free.XT.i0_lt_f (by decide)) k) ?_
    show own_Go p e below s _ _ _ (T3.setTop (mkF m 40 #[.val (.ref b_), .val (.int pn_), .val (.int (1 : Int32)), .val (.int (0 : Int32)), .unset] []))
    refine own_via (fun _ k => XS.aloadN X3.here hx rfl (hb hby d3_40) rfl rfl k) ?_
    show own_Go p e below s _ _ _ (T3.setTop (mkF m 41 #[.val (.ref b_), .val (.int pn_), .val (.int (1 : Int32)), .val (.int (0 : Int32)), .unset] [(.ref b_)]))
    refine own_via (fun _ k => XS.iloadN X3.here hx rfl (hb hby d3_41) rfl k) ?_
    show own_Go p e below s _ _ _ (T3.setTop (mkF m 42 #[.val (.ref b_), .val (.int pn_), .val (.int (1 : Int32)), .val (.int (0 : Int32)), .unset] [(.int (0 : Int32)), (.ref b_)]))
    obtain ⟨cl6, Ar6, q6, S6, M6, H6, G6⟩ := (id V3)
    have hin6 : ¬ ((0 : Int32) < 0 ∨ cl6.slots.size ≤ ((0 : Int32)).toNatClampNeg) := inb_of S6 ⟨by decide, by decide⟩
    have hat6 : cl6.slots[((0 : Int32)).toNatClampNeg]? = some (.int (-u0)) := Has.at H6 hin6 rfl
    refine own_via (fun _ k => X3.iaload hx (j := (0 : Int32)) (v := (.int (-u0))) (by rw [e3]; exact Ar6.1) (State.isArrayOf_alike hZ.alike Ar6.2.1) Ar6.2.2 hin6 hat6 (g := (mkF m 42 #[.val (.ref b_), .val (.int pn_), .val (.int (1 : Int32)), .val (.int (0 : Int32)), .unset] [(.int (0 : Int32)), (.ref b_)])) rfl rfl (hb hby d3_42) _ k) ?_
    show own_Go p e below s _ _ _ (T3.setTop (mkF m 43 #[.val (.ref b_), .val (.int pn_), .val (.int (1 : Int32)), .val (.int (0 : Int32)), .unset] [(.int (-u0))]))
    refine own_via (fun _ k => XS.iloadN X3.here hx rfl (hb hby d3_43) rfl k) ?_
    show own_Go p e below s _ _ _ (T3.setTop (mkF m 44 #[.val (.ref b_), .val (.int pn_), .val (.int (1 : Int32)), .val (.int (0 : Int32)), .unset] [(.int pn_), (.int (-u0))]))
    refine own_via (fun _ k => XS.iloadN X3.here hx rfl (hb hby d3_44) rfl k) ?_
    show own_Go p e below s _ _ _ (T3.setTop (mkF m 45 #[.val (.ref b_), .val (.int pn_), .val (.int (1 : Int32)), .val (.int (0 : Int32)), .unset] [(.int (1 : Int32)), (.int pn_), (.int (-u0))]))
    refine own_via (fun _ k => XS.iconst X3.here hx rfl (hb hby d3_45) k) ?_
    show own_Go p e below s _ _ _ (T3.setTop (mkF m 46 #[.val (.ref b_), .val (.int pn_), .val (.int (1 : Int32)), .val (.int (0 : Int32)), .unset] [(.int (1 : Int32)), (.int (1 : Int32)), (.int pn_), (.int (-u0))]))
    refine own_via (fun _ k => XS.isub X3.here hx rfl (hb hby d3_46) rfl k) ?_
    show own_Go p e below s _ _ _ (T3.setTop (mkF m 47 #[.val (.ref b_), .val (.int pn_), .val (.int (1 : Int32)), .val (.int (0 : Int32)), .unset] [(.int (0 : Int32)), (.int pn_), (.int (-u0))]))
    refine own_via (fun _ k => XS.iloadN X3.here hx rfl (hb hby d3_47) rfl k) ?_
    show own_Go p e below s _ _ _ (T3.setTop (mkF m 48 #[.val (.ref b_), .val (.int pn_), .val (.int (1 : Int32)), .val (.int (0 : Int32)), .unset] [(.int (0 : Int32)), (.int (0 : Int32)), (.int pn_), (.int (-u0))]))
    refine own_via (fun _ k => XS.isub X3.here hx rfl (hb hby d3_48) rfl k) ?_
    show own_Go p e below s _ _ _ (T3.setTop (mkF m 49 #[.val (.ref b_), .val (.int pn_), .val (.int (1 : Int32)), .val (.int (0 : Int32)), .unset] [(.int (0 : Int32)), (.int pn_), (.int (-u0))]))
    refine own_via (fun _ k => XS.isub X3.here hx rfl (hb hby d3_49) rfl k) ?_
    show own_Go p e below s _ _ _ (T3.setTop (mkF m 50 #[.val (.ref b_), .val (.int pn_), .val (.int (1 : Int32)), .val (.int (0 : Int32)), .unset] [(.int (pn_ - (0 : Int32))), (.int (-u0))]))
    by_cases hc7 : (-u0) < (pn_ - (0 : Int32))
    · refine own_via (fun _ k => XS.icmpNo X3.here hx rfl (hb hby d3_50) rfl (Jvm.Free.XT.ii_ge_f hc7) k) ?_
      show own_Go p e below s _ _ _ (T3.setTop (mkF m 53 #[.val (.ref b_), .val (.int pn_), .val (.int (1 : Int32)), .val (.int (0 : Int32)), .unset] []))
      refine own_via (fun _ k => XS.aloadN X3.here hx rfl (hb hby d3_53) rfl rfl k) ?_
      show own_Go p e below s _ _ _ (T3.setTop (mkF m 54 #[.val (.ref b_), .val (.int pn_), .val (.int (1 : Int32)), .val (.int (0 : Int32)), .unset] [(.ref b_)]))
      refine own_via (fun _ k => XS.iloadN X3.here hx rfl (hb hby d3_54) rfl k) ?_
      show own_Go p e below s _ _ _ (T3.setTop (mkF m 55 #[.val (.ref b_), .val (.int pn_), .val (.int (1 : Int32)), .val (.int (0 : Int32)), .unset] [(.int (0 : Int32)), (.ref b_)]))
      refine own_via (fun _ k => Jvm.Free.XT.dup2 X3.here hx rfl (hb hby d3_55) rfl rfl rfl k) ?_
      show own_Go p e below s _ _ _ (T3.setTop (mkF m 56 #[.val (.ref b_), .val (.int pn_), .val (.int (1 : Int32)), .val (.int (0 : Int32)), .unset] [(.int (0 : Int32)), (.ref b_), (.int (0 : Int32)), (.ref b_)]))
      obtain ⟨cl8, Ar8, q8, S8, M8, H8, G8⟩ := (id V3)
      have hin8 : ¬ ((0 : Int32) < 0 ∨ cl8.slots.size ≤ ((0 : Int32)).toNatClampNeg) := inb_of S8 ⟨by decide, by decide⟩
      have hat8 : cl8.slots[((0 : Int32)).toNatClampNeg]? = some (.int (-u0)) := Has.at H8 hin8 rfl
      refine own_via (fun _ k => X3.iaload hx (j := (0 : Int32)) (v := (.int (-u0))) (by rw [e3]; exact Ar8.1) (State.isArrayOf_alike hZ.alike Ar8.2.1) Ar8.2.2 hin8 hat8 (g := (mkF m 56 #[.val (.ref b_), .val (.int pn_), .val (.int (1 : Int32)), .val (.int (0 : Int32)), .unset] [(.int (0 : Int32)), (.ref b_), (.int (0 : Int32)), (.ref b_)])) rfl rfl (hb hby d3_56) _ k) ?_
      show own_Go p e below s _ _ _ (T3.setTop (mkF m 57 #[.val (.ref b_), .val (.int pn_), .val (.int (1 : Int32)), .val (.int (0 : Int32)), .unset] [(.int (-u0)), (.int (0 : Int32)), (.ref b_)]))
      refine own_via (fun _ k => XS.iconst X3.here hx rfl (hb hby d3_57) k) ?_
      show own_Go p e below s _ _ _ (T3.setTop (mkF m 58 #[.val (.ref b_), .val (.int pn_), .val (.int (1 : Int32)), .val (.int (0 : Int32)), .unset] [(.int (1 : Int32)), (.int (-u0)), (.int (0 : Int32)), (.ref b_)]))
      refine own_via (fun _ k => XS.iadd X3.here hx rfl (hb hby d3_58) rfl k) ?_
      show own_Go p e below s _ _ _ (T3.setTop (mkF m 59 #[.val (.ref b_), .val (.int pn_), .val (.int (1 : Int32)), .val (.int (0 : Int32)), .unset] [(.int ((-u0) + (1 : Int32))), (.int (0 : Int32)), (.ref b_)]))
      obtain ⟨cl9, Ar9, q9, S9, M9, H9, G9⟩ := (id V3)
      have hin9 : ¬ ((0 : Int32) < 0 ∨ cl9.slots.size ≤ ((0 : Int32)).toNatClampNeg) := inb_of S9 ⟨by decide, by decide⟩
      obtain ⟨T9, h9, X9, e9, W9, st9⟩ := stI X3 hx hZ e3 Ar9 (j := (0 : Int32)) hin9 (g := (mkF m 59 #[.val (.ref b_), .val (.int pn_), .val (.int (1 : Int32)), .val (.int (0 : Int32)), .unset] [(.int ((-u0) + (1 : Int32))), (.int (0 : Int32)), (.ref b_)])) rfl rfl (hb hby d3_59)
      have V9 : Arv Z h9 b_ k_ .int (1 : Int32) [(.int ((-u0) + (1 : Int32)))] d_ := Arv.set Ar9 q9 S9 M9 H9 G9 rfl W9 0 rfl (Nat.le_of_ble_eq_true rfl)
      have N9 := Fr.snoc X9 N3 g_b_
      have Z9 : n0 ≤ h9.size := Nat.le_trans Z3 (Keep.of_wr W9).1
      have K9 : Keep h0 h9 [b_] := K3.wr W9 (Or.inl (List.mem_of_getElem? (i := 0) rfl))
      refine own_via st9 ?_
      show own_Go p e below s _ _ _ (T9.setTop (mkF m 60 #[.val (.ref b_), .val (.int pn_), .val (.int (1 : Int32)), .val (.int (0 : Int32)), .unset] []))
      refine own_via (fun _ k => XS.iloadN X9.here hx rfl (hb hby d3_60) rfl k) ?_
      show own_Go p e below s _ _ _ (T9.setTop (mkF m 61 #[.val (.ref b_), .val (.int pn_), .val (.int (1 : Int32)), .val (.int (0 : Int32)), .unset] [(.int (0 : Int32))]))
      refine own_via (fun _ k => XS.iconst X9.here hx rfl (hb hby d3_61) k) ?_
      show own_Go p e below s _ _ _ (T9.setTop (mkF m 62 #[.val (.ref b_), .val (.int pn_), .val (.int (1 : Int32)), .val (.int (0 : Int32)), .unset] [(.int (1 : Int32)), (.int (0 : Int32))]))
      refine own_via (fun _ k => XS.iadd X9.here hx rfl (hb hby d3_62) rfl k) ?_
      show own_Go p e below s _ _ _ (T9.setTop (mkF m 63 #[.val (.ref b_), .val (.int pn_), .val (.int (1 : Int32)), .val (.int (0 : Int32)), .unset] [(.int (1 : Int32))]))
      refine own_via (fun _ k => XS.istore X9.here hx rfl (hb hby d3_63) rfl (l' := #[.val (.ref b_), .val (.int pn_), .val (.int (1 : Int32)), .val (.int (0 : Int32)), .val (.int (1 : Int32))]) rfl k) ?_
      show own_Go p e below s _ _ _ (T9.setTop (mkF m 65 #[.val (.ref b_), .val (.int pn_), .val (.int (1 : Int32)), .val (.int (0 : Int32)), .val (.int (1 : Int32))] []))
      refine own_via (fun _ k => XS.iload X9.here hx rfl (hb hby d3_65) rfl k) ?_
      show own_Go p e below s _ _ _ (T9.setTop (mkF m 67 #[.val (.ref b_), .val (.int pn_), .val (.int (1 : Int32)), .val (.int (0 : Int32)), .val (.int (1 : Int32))] [(.int (1 : Int32))]))
      refine own_via (fun _ k => XS.iloadN X9.here hx rfl (hb hby d3_67) rfl k) ?_
      show own_Go p e below s _ _ _ (T9.setTop (mkF m 68 #[.val (.ref b_), .val (.int pn_), .val (.int (1 : Int32)), .val (.int (0 : Int32)), .val (.int (1 : Int32))] [(.int (1 : Int32)), (.int (1 : Int32))]))
      refine own_via (fun _ k => XS.icmpYes X9.here hx rfl (pc0 := 68) (pc' := 89) rfl (hb hby d3_68) rfl (Jvm.Free.XT.ii_ge_t (by decide)) (by decide) (by decide) k) ?_
      show own_Go p e below s _ _ _ (T9.setTop (mkF m 89 #[.val (.ref b_), .val (.int pn_), .val (.int (1 : Int32)), .val (.int (0 : Int32)), .val (.int (1 : Int32))] []))
      refine own_via (fun _ k => XS.iconst X9.here hx rfl (hb hby d3_89) k) ?_
      show own_Go p e below s _ _ _ (T9.setTop (mkF m 90 #[.val (.ref b_), .val (.int pn_), .val (.int (1 : Int32)), .val (.int (0 : Int32)), .val (.int (1 : Int32))] [(.int (1 : Int32))]))
      exact own_goN X9 hx (t := .boolean) Bd.returns (by simp) (hb hby d3_90) Bd.notSynchronized (by decide) (by decide) (by rw [e9]; exact ⟨by rw [own_nr1, if_neg hc5, if_pos hc7] <;> rfl, N9, K9, (by simp only [own_nx1_0, if_neg hc5, if_pos hc7]; exact V9)⟩)
    · refine own_via (fun _ k => XS.icmpYes X3.here hx rfl (pc0 := 50) (pc' := 91) rfl (hb hby d3_50) rfl (Jvm.Free.XT.ii_ge_t hc7) (by decide) (by decide) k) ?_
      show own_Go p e below s _ _ _ (T3.setTop (mkF m 91 #[.val (.ref b_), .val (.int pn_), .val (.int (1 : Int32)), .val (.int (0 : Int32)), .unset] []))
      refine own_via (fun _ k => XS.iinc X3.here hx rfl (hb hby d3_91) rfl (l' := #[.val (.ref b_), .val (.int pn_), .val (.int (1 : Int32)), .val (.int (-1 : Int32)), .unset]) rfl k) ?_
      show own_Go p e below s _ _ _ (T3.setTop (mkF m 94 #[.val (.ref b_), .val (.int pn_), .val (.int (1 : Int32)), .val (.int (-1 : Int32)), .unset] []))
      refine own_via (fun _ k => XS.goto X3.here hx rfl (pc0 := 94) (pc' := 36) rfl (hb hby d3_94) (by decide) (by decide) k) ?_
      show own_Go p e below s _ _ _ (T3.setTop (mkF m 36 #[.val (.ref b_), .val (.int pn_), .val (.int (1 : Int32)), .val (.int (-1 : Int32)), .unset] []))
      refine own_via (fun _ k => XS.iloadN X3.here hx rfl (hb hby d3_36) rfl k) ?_
      show own_Go p e below s _ _ _ (T3.setTop (mkF m 37 #[.val (.ref b_), .val (.int pn_), .val (.int (1 : Int32)), .val (.int (-1 : Int32)), .unset] [(.int (-1 : Int32))]))
      refine own_via (fun _ k => XS.ifYes X3.here hx rfl (pc0 := 37) (pc' := 97) rfl (hb hby d3_37) rfl (Jvm.Free.XT.i0_lt_t (by decide)) (by decide) (by decide) k) ?_
      show own_Go p e below s _ _ _ (T3.setTop (mkF m 97 #[.val (.ref b_), .val (.int pn_), .val (.int (1 : Int32)), .val (.int (-1 : Int32)), .unset] []))
      refine own_via (fun _ k => XS.iconst X3.here hx rfl (hb hby d3_97) k) ?_
      show own_Go p e below s _ _ _ (T3.setTop (mkF m 98 #[.val (.ref b_), .val (.int pn_), .val (.int (1 : Int32)), .val (.int (-1 : Int32)), .unset] [(.int (0 : Int32))]))
      exact own_goN X3 hx (t := .boolean) Bd.returns (by simp) (hb hby d3_98) Bd.notSynchronized (by decide) (by decide) (by rw [e3]; exact ⟨by rw [own_nr1, if_neg hc5, if_neg hc7] <;> rfl, N3, K3, (by simp only [own_nx1_0, if_neg hc5, if_neg hc7]; exact V3)⟩)
theorem d1_46 : decode method_7_code 46 = .ok (.lload_n 3, 1) := by decide +kernel
theorem d1_47 : decode method_7_code 47 = .ok (.iload_n 2, 1) := by decide +kernel
theorem d1_48 : decode method_7_code 48 = .ok (.i2l, 1) := by decide +kernel
theorem d1_49 : decode method_7_code 49 = .ok (.aload_n 0, 1) := by decide +kernel
theorem d1_50 : decode method_7_code 50 = .ok (.iconst 1, 1) := by decide +kernel
theorem d1_51 : decode method_7_code 51 = .ok (.iaload, 1) := by decide +kernel
theorem d1_52 : decode method_7_code 52 = .ok (.invokestatic 28, 3) := by decide +kernel
theorem d1_55 : decode method_7_code 55 = .ok (.lsub, 1) := by decide +kernel
theorem d1_56 : decode method_7_code 56 = .ok (.iload_n 1, 1) := by decide +kernel
theorem d1_57 : decode method_7_code 57 = .ok (.iconst 1, 1) := by decide +kernel
theorem d1_58 : decode method_7_code 58 = .ok (.isub, 1) := by decide +kernel
theorem d1_59 : decode method_7_code 59 = .ok (.invokestatic 14, 3) := by decide +kernel
theorem d1_62 : decode method_7_code 62 = .ok (.ladd, 1) := by decide +kernel
theorem d1_63 : decode method_7_code 63 = .ok (.lstore_n 3, 1) := by decide +kernel
theorem d1_64 : decode method_7_code 64 = .ok (.aload_n 0, 1) := by decide +kernel
theorem d1_65 : decode method_7_code 65 = .ok (.iconst 1, 1) := by decide +kernel
theorem d1_66 : decode method_7_code 66 = .ok (.iaload, 1) := by decide +kernel
theorem d1_67 : decode method_7_code 67 = .ok (.ifCond .ge 13, 3) := by decide +kernel
theorem d1_70 : decode method_7_code 70 = .ok (.lload 5, 2) := by decide +kernel
theorem d1_72 : decode method_7_code 72 = .ok (.lconst 1, 1) := by decide +kernel
theorem d1_73 : decode method_7_code 73 = .ok (.iload_n 1, 1) := by decide +kernel
theorem d1_74 : decode method_7_code 74 = .ok (.iconst 2, 1) := by decide +kernel
theorem d1_75 : decode method_7_code 75 = .ok (.isub, 1) := by decide +kernel
theorem d1_76 : decode method_7_code 76 = .ok (.lshl, 1) := by decide +kernel
theorem d1_77 : decode method_7_code 77 = .ok (.ladd, 1) := by decide +kernel
theorem d1_78 : decode method_7_code 78 = .ok (.lstore 5, 2) := by decide +kernel
def own_rk2 (u0 : Int32) (u1 : Int32) (pn_ : Int32) : Int64 := ((o_lshl (((own_ch (o_i2l pn_) (2 : Int32)) - (1 : Int64)) - (((0 : Int64) + (own_ch ((o_i2l pn_) - (own_ft u0)) (2 : Int32))) + (own_ch ((o_i2l pn_) - (own_ft u1)) (1 : Int32)))) (2 : Int32)) + (if u1 < (0 : Int32) then ((if u0 < (0 : Int32) then ((0 : Int64) + (o_lshl (1 : Int64) (1 : Int32))) else (0 : Int64)) + (o_lshl (1 : Int64) (0 : Int32))) else (if u0 < (0 : Int32) then ((0 : Int64) + (o_lshl (1 : Int64) (1 : Int32))) else (0 : Int64))))
theorem ef_r2 (m : MethodId) (x0 : Addr) (x1 : Int32) (x2 : Int32) : entryFrame m #[(.ref x0), (.int x1), (.int x2)] 9 = mkF m 0 #[.val (.ref x0), .val (.int x1), .val (.int x2), .unset, .unset, .unset, .unset, .unset, .unset] [] := by first | (simp [entryFrame, mkF, argsToLocals, Value.category]; done) | rfl
def Qr2 (Z : State) (b_ : Addr) (pt_ : Int32) (pn_ : Int32) (k_ : ClassId) (d_ : Value) (u0 : Int32) (u1 : Int32) (h0 : Heap) (n0 : Nat) (v : Option Value) (h : Heap) (L : List Loc) : Prop := v = some (.long (own_rk2 u0 u1 pn_)) ∧ Fr n0 L ∧ h = h0
set_option maxRecDepth 65536 in
set_option maxHeartbeats 40000000 in
theorem rmr2 (l : Launch) (Z : State) (a0 : Array Value) (hw : ∀ d ∈ tables_1, d.before a0 Z = true) (ws : List Jvm.Cond) (b_ : Addr) (pt_ : Int32) (pn_ : Int32) (k_ : ClassId) (d_ : Value) (u0 : Int32) (u1 : Int32) (h0 : Heap) (n0 : Nat) (Z0 : n0 ≤ h0.size) (V_b_ : Arv Z h0 b_ k_ .int (2 : Int32) [(.int u0), (.int u1)] d_) (hp1 : pt_ = (2 : Int32)) :
    MetFree l (⟨"com/example/unalike/unalike/engine/TSetsNextPinLaw", "rank", "([III)J"⟩ : MethodName) (head1 (Jvm.Cond.code (⟨"com/example/unalike/unalike/engine/TSetsNextPinLaw", "rank", "([III)J"⟩ : MethodName) method_7_code 9 (some .long) :: ws) ({ frames := 1, cells := 0, slots := 0, locals := 16 } : Room)) (fun q_ U => q_ = #[(.ref b_), (.int pt_), (.int pn_)] ∧ Z.Warmed39 U.vm ∧ U.heap = h0) (fun _ _ _ _ _ => True) (fun _ U o U' => ∃ v L, o = .returned v ∧ Qr2 Z b_ pt_ pn_ k_ d_ u0 u1 h0 n0 v U'.heap L ∧ FrameEnd U o U' L ({ frames := 1, cells := 0, slots := 0, locals := 16 } : Room).cells ({ frames := 1, cells := 0, slots := 0, locals := 16 } : Room).slots) := by
  refine MetFree.of_bodySF (plainFor_of_name pn_0) hisR ?_
  intro p e s m args below meth c s₁ Bd hml0 hP hK
  obtain ⟨rfl, hZ, hh⟩ := hP
  have hx := Bd.exec
  have hby := Bd.bytes
  have hml : c.maxLocals = 9 := hml0
  have hown : s.vm.findClass "com/example/unalike/unalike/engine/TSetsNextPinLaw" = some m.cls := findClass_of_methodNamed Bd.named
  have hnm := (name_of_methodNamed Bd.named Bd.method).1
  have X0 : Stand p l e ({ frames := 1, cells := 0, slots := 0, locals := 16 } : Room) s m #[(.ref b_), (.int pt_), (.int pn_)] below meth c s₁ [] 0 0 := Stand.of_body Bd
  have e0 : s₁.heap = h0 := by rw [← hh, Bd.state]; rfl
  have N0 := Fr.nil n0
  show own_Go p e below s (Qr2 Z b_ pt_ pn_ k_ d_ u0 u1 h0 n0) ({ frames := 1, cells := 0, slots := 0, locals := 16 } : Room).cells ({ frames := 1, cells := 0, slots := 0, locals := 16 } : Room).slots (s₁.setTop (entryFrame m #[(.ref b_), (.int pt_), (.int pn_)] 9))
  refine own_via (fun t k => castTop (ef_r2 m b_ pt_ pn_) k) ?_
  show own_Go p e below s _ _ _ (s₁.setTop (mkF m 0 #[.val (.ref b_), .val (.int pt_), .val (.int pn_), .unset, .unset, .unset, .unset, .unset, .unset] []))
  subst hp1
  show own_Go p e below s _ _ _ (s₁.setTop (mkF m 0 #[.val (.ref b_), .val (.int (2 : Int32)), .val (.int pn_), .unset, .unset, .unset, .unset, .unset, .unset] []))
  refine own_via (fun _ k => XS.lconst X0.here hx rfl (hb hby d1_0) k) ?_
  show own_Go p e below s _ _ _ (s₁.setTop (mkF m 1 #[.val (.ref b_), .val (.int (2 : Int32)), .val (.int pn_), .unset, .unset, .unset, .unset, .unset, .unset] [(.long (0 : Int64))]))
  refine own_via (fun _ k => XS.lstoreN X0.here hx rfl (hb hby d1_1) rfl (l' := #[.val (.ref b_), .val (.int (2 : Int32)), .val (.int pn_), .val (.long (0 : Int64)), .second, .unset, .unset, .unset, .unset]) rfl k) ?_
  show own_Go p e below s _ _ _ (s₁.setTop (mkF m 2 #[.val (.ref b_), .val (.int (2 : Int32)), .val (.int pn_), .val (.long (0 : Int64)), .second, .unset, .unset, .unset, .unset] []))
  refine own_via (fun _ k => XS.lconst X0.here hx rfl (hb hby d1_2) k) ?_
  show own_Go p e below s _ _ _ (s₁.setTop (mkF m 3 #[.val (.ref b_), .val (.int (2 : Int32)), .val (.int pn_), .val (.long (0 : Int64)), .second, .unset, .unset, .unset, .unset] [(.long (0 : Int64))]))
  refine own_via (fun _ k => XS.lstore X0.here hx rfl (hb hby d1_3) rfl (l' := #[.val (.ref b_), .val (.int (2 : Int32)), .val (.int pn_), .val (.long (0 : Int64)), .second, .val (.long (0 : Int64)), .second, .unset, .unset]) rfl k) ?_
  show own_Go p e below s _ _ _ (s₁.setTop (mkF m 5 #[.val (.ref b_), .val (.int (2 : Int32)), .val (.int pn_), .val (.long (0 : Int64)), .second, .val (.long (0 : Int64)), .second, .unset, .unset] []))
  refine own_via (fun _ k => XS.iloadN X0.here hx rfl (hb hby d1_5) rfl k) ?_
  show own_Go p e below s _ _ _ (s₁.setTop (mkF m 6 #[.val (.ref b_), .val (.int (2 : Int32)), .val (.int pn_), .val (.long (0 : Int64)), .second, .val (.long (0 : Int64)), .second, .unset, .unset] [(.int (2 : Int32))]))
  refine own_via (fun _ k => XS.ifNo X0.here hx rfl (hb hby d1_6) rfl (Jvm.Free.XT.i0_le_f (by decide)) k) ?_
  show own_Go p e below s _ _ _ (s₁.setTop (mkF m 9 #[.val (.ref b_), .val (.int (2 : Int32)), .val (.int pn_), .val (.long (0 : Int64)), .second, .val (.long (0 : Int64)), .second, .unset, .unset] []))
  refine own_via (fun _ k => XS.lloadN X0.here hx rfl (hb hby d1_9) rfl k) ?_
  show own_Go p e below s _ _ _ (s₁.setTop (mkF m 10 #[.val (.ref b_), .val (.int (2 : Int32)), .val (.int pn_), .val (.long (0 : Int64)), .second, .val (.long (0 : Int64)), .second, .unset, .unset] [(.long (0 : Int64))]))
  refine own_via (fun _ k => XS.iloadN X0.here hx rfl (hb hby d1_10) rfl k) ?_
  show own_Go p e below s _ _ _ (s₁.setTop (mkF m 11 #[.val (.ref b_), .val (.int (2 : Int32)), .val (.int pn_), .val (.long (0 : Int64)), .second, .val (.long (0 : Int64)), .second, .unset, .unset] [(.int pn_), (.long (0 : Int64))]))
  refine own_via (fun _ k => XS.i2l X0.here hx rfl (hb hby d1_11) rfl k) ?_
  show own_Go p e below s _ _ _ (s₁.setTop (mkF m 12 #[.val (.ref b_), .val (.int (2 : Int32)), .val (.int pn_), .val (.long (0 : Int64)), .second, .val (.long (0 : Int64)), .second, .unset, .unset] [(.long (o_i2l pn_)), (.long (0 : Int64))]))
  refine own_via (fun _ k => XS.aloadN X0.here hx rfl (hb hby d1_12) rfl rfl k) ?_
  show own_Go p e below s _ _ _ (s₁.setTop (mkF m 13 #[.val (.ref b_), .val (.int (2 : Int32)), .val (.int pn_), .val (.long (0 : Int64)), .second, .val (.long (0 : Int64)), .second, .unset, .unset] [(.ref b_), (.long (o_i2l pn_)), (.long (0 : Int64))]))
  refine own_via (fun _ k => XS.iconst X0.here hx rfl (hb hby d1_13) k) ?_
  show own_Go p e below s _ _ _ (s₁.setTop (mkF m 14 #[.val (.ref b_), .val (.int (2 : Int32)), .val (.int pn_), .val (.long (0 : Int64)), .second, .val (.long (0 : Int64)), .second, .unset, .unset] [(.int (0 : Int32)), (.ref b_), (.long (o_i2l pn_)), (.long (0 : Int64))]))
  obtain ⟨cl1, Ar1, q1, S1, M1, H1, G1⟩ := (id V_b_)
  have hin1 : ¬ ((0 : Int32) < 0 ∨ cl1.slots.size ≤ ((0 : Int32)).toNatClampNeg) := inb_of S1 ⟨by decide, by decide⟩
  have hat1 : cl1.slots[((0 : Int32)).toNatClampNeg]? = some (.int u0) := Has.at H1 hin1 rfl
  refine own_via (fun _ k => X0.iaload hx (j := (0 : Int32)) (v := (.int u0)) (by rw [e0]; exact Ar1.1) (State.isArrayOf_alike hZ.alike Ar1.2.1) Ar1.2.2 hin1 hat1 (g := (mkF m 14 #[.val (.ref b_), .val (.int (2 : Int32)), .val (.int pn_), .val (.long (0 : Int64)), .second, .val (.long (0 : Int64)), .second, .unset, .unset] [(.int (0 : Int32)), (.ref b_), (.long (o_i2l pn_)), (.long (0 : Int64))])) rfl rfl (hb hby d1_14) _ k) ?_
  show own_Go p e below s _ _ _ (s₁.setTop (mkF m 15 #[.val (.ref b_), .val (.int (2 : Int32)), .val (.int pn_), .val (.long (0 : Int64)), .second, .val (.long (0 : Int64)), .second, .unset, .unset] [(.int u0), (.long (o_i2l pn_)), (.long (0 : Int64))]))
  obtain ⟨_, _, ⟨T2, L2, k2, n2⟩, -, X2, ⟨Lc2, hQ2, l2, y2, z2⟩, st2⟩ := Jvm.LawKit.callS X0 hx (y := (⟨"com/example/unalike/unalike/engine/TSetsNextPinLaw", "feat", "(I)J"⟩ : MethodName)) hown (mvT hZ (hw _ (List.mem_of_getElem? (i := 13) rfl))) (mvT hZ (hw _ (List.mem_of_getElem? (i := 14) rfl))) (mvT hZ (hw _ (List.mem_of_getElem? (i := 4) rfl))) (mvT hZ (hw _ (List.mem_of_getElem? (i := 15) rfl))) (by decide) (backOf (W := 4) (rm4 l Z a0 hw [] u0 h0 n0 Z0 ) hZ (hw _ (List.mem_of_getElem? (i := 15) rfl)) (hw _ (List.mem_of_getElem? (i := 4) rfl)) (by decide) (by decide)) (g := (mkF m 15 #[.val (.ref b_), .val (.int (2 : Int32)), .val (.int pn_), .val (.long (0 : Int64)), .second, .val (.long (0 : Int64)), .second, .unset, .unset] [(.int u0), (.long (o_i2l pn_)), (.long (0 : Int64))])) rfl (by rw [hml]; rfl) (argsL := [(.int u0)]) (rest := [(.long (o_i2l pn_)), (.long (0 : Int64))]) (lenOf pd_0 rfl) rfl (by show 2 * 0 + _ ≤ _; exact Nat.le_of_eq rfl) (hb hby d1_15) (fun _ _ => ⟨rfl, e0, (by decide : 0 + 0 ≤ _), (by decide : 0 + 0 ≤ _)⟩)
  dsimp only [Pt.U, Pt.locs, Pt.cells, Pt.slots] at X2 l2 y2 z2 st2 hQ2
  subst l2 y2 z2
  obtain ⟨rfl, N2q, e2⟩ := hQ2
  have N2 := Fr.app N0 N2q
  refine own_via st2 ?_
  show own_Go p e below s _ _ _ (T2.setTop (mkF m 18 #[.val (.ref b_), .val (.int (2 : Int32)), .val (.int pn_), .val (.long (0 : Int64)), .second, .val (.long (0 : Int64)), .second, .unset, .unset] [(.long (own_ft u0)), (.long (o_i2l pn_)), (.long (0 : Int64))]))
  refine own_via (fun _ k => XS.lsub X2.here hx rfl (hb hby d1_18) rfl k) ?_
  show own_Go p e below s _ _ _ (T2.setTop (mkF m 19 #[.val (.ref b_), .val (.int (2 : Int32)), .val (.int pn_), .val (.long (0 : Int64)), .second, .val (.long (0 : Int64)), .second, .unset, .unset] [(.long ((o_i2l pn_) - (own_ft u0))), (.long (0 : Int64))]))
  refine own_via (fun _ k => XS.iloadN X2.here hx rfl (hb hby d1_19) rfl k) ?_
  show own_Go p e below s _ _ _ (T2.setTop (mkF m 20 #[.val (.ref b_), .val (.int (2 : Int32)), .val (.int pn_), .val (.long (0 : Int64)), .second, .val (.long (0 : Int64)), .second, .unset, .unset] [(.int (2 : Int32)), (.long ((o_i2l pn_) - (own_ft u0))), (.long (0 : Int64))]))
  obtain ⟨_, _, ⟨T3, L3, k3, n3⟩, -, X3, ⟨Lc3, hQ3, l3, y3, z3⟩, st3⟩ := Jvm.LawKit.callS X2 hx (y := (⟨"com/example/unalike/unalike/engine/TSetsNextPinLaw", "choose", "(JI)J"⟩ : MethodName)) hown (mvT hZ (hw _ (List.mem_of_getElem? (i := 6) rfl))) (mvT hZ (hw _ (List.mem_of_getElem? (i := 7) rfl))) (mvT hZ (hw _ (List.mem_of_getElem? (i := 4) rfl))) (mvT hZ (hw _ (List.mem_of_getElem? (i := 8) rfl))) (by decide) (backOf (W := 2) (rm2 l Z a0 hw [] ((o_i2l pn_) - (own_ft u0)) (2 : Int32) h0 n0 Z0 ) hZ (hw _ (List.mem_of_getElem? (i := 8) rfl)) (hw _ (List.mem_of_getElem? (i := 4) rfl)) (by decide) (by decide)) (g := (mkF m 20 #[.val (.ref b_), .val (.int (2 : Int32)), .val (.int pn_), .val (.long (0 : Int64)), .second, .val (.long (0 : Int64)), .second, .unset, .unset] [(.int (2 : Int32)), (.long ((o_i2l pn_) - (own_ft u0))), (.long (0 : Int64))])) rfl (by rw [hml]; rfl) (argsL := [(.long ((o_i2l pn_) - (own_ft u0))), (.int (2 : Int32))]) (rest := [(.long (0 : Int64))]) (lenOf pd_1 rfl) rfl (by show 2 * 0 + _ ≤ _; exact Nat.le_of_eq rfl) (hb hby d1_20) (fun _ _ => ⟨rfl, e2, (by decide : 0 + 0 ≤ _), (by decide : 0 + 0 ≤ _)⟩)
  dsimp only [Pt.U, Pt.locs, Pt.cells, Pt.slots] at X3 l3 y3 z3 st3 hQ3
  subst l3 y3 z3
  obtain ⟨rfl, N3q, e3⟩ := hQ3
  have N3 := Fr.app N2 N3q
  refine own_via st3 ?_
  show own_Go p e below s _ _ _ (T3.setTop (mkF m 23 #[.val (.ref b_), .val (.int (2 : Int32)), .val (.int pn_), .val (.long (0 : Int64)), .second, .val (.long (0 : Int64)), .second, .unset, .unset] [(.long (own_ch ((o_i2l pn_) - (own_ft u0)) (2 : Int32))), (.long (0 : Int64))]))
  refine own_via (fun _ k => XS.ladd X3.here hx rfl (hb hby d1_23) rfl k) ?_
  show own_Go p e below s _ _ _ (T3.setTop (mkF m 24 #[.val (.ref b_), .val (.int (2 : Int32)), .val (.int pn_), .val (.long (0 : Int64)), .second, .val (.long (0 : Int64)), .second, .unset, .unset] [(.long ((0 : Int64) + (own_ch ((o_i2l pn_) - (own_ft u0)) (2 : Int32))))]))
  refine own_via (fun _ k => XS.lstoreN X3.here hx rfl (hb hby d1_24) rfl (l' := #[.val (.ref b_), .val (.int (2 : Int32)), .val (.int pn_), .val (.long ((0 : Int64) + (own_ch ((o_i2l pn_) - (own_ft u0)) (2 : Int32)))), .second, .val (.long (0 : Int64)), .second, .unset, .unset]) rfl k) ?_
  show own_Go p e below s _ _ _ (T3.setTop (mkF m 25 #[.val (.ref b_), .val (.int (2 : Int32)), .val (.int pn_), .val (.long ((0 : Int64) + (own_ch ((o_i2l pn_) - (own_ft u0)) (2 : Int32)))), .second, .val (.long (0 : Int64)), .second, .unset, .unset] []))
  refine own_via (fun _ k => XS.aloadN X3.here hx rfl (hb hby d1_25) rfl rfl k) ?_
  show own_Go p e below s _ _ _ (T3.setTop (mkF m 26 #[.val (.ref b_), .val (.int (2 : Int32)), .val (.int pn_), .val (.long ((0 : Int64) + (own_ch ((o_i2l pn_) - (own_ft u0)) (2 : Int32)))), .second, .val (.long (0 : Int64)), .second, .unset, .unset] [(.ref b_)]))
  refine own_via (fun _ k => XS.iconst X3.here hx rfl (hb hby d1_26) k) ?_
  show own_Go p e below s _ _ _ (T3.setTop (mkF m 27 #[.val (.ref b_), .val (.int (2 : Int32)), .val (.int pn_), .val (.long ((0 : Int64) + (own_ch ((o_i2l pn_) - (own_ft u0)) (2 : Int32)))), .second, .val (.long (0 : Int64)), .second, .unset, .unset] [(.int (0 : Int32)), (.ref b_)]))
  obtain ⟨cl4, Ar4, q4, S4, M4, H4, G4⟩ := (id V_b_)
  have hin4 : ¬ ((0 : Int32) < 0 ∨ cl4.slots.size ≤ ((0 : Int32)).toNatClampNeg) := inb_of S4 ⟨by decide, by decide⟩
  have hat4 : cl4.slots[((0 : Int32)).toNatClampNeg]? = some (.int u0) := Has.at H4 hin4 rfl
  refine own_via (fun _ k => X3.iaload hx (j := (0 : Int32)) (v := (.int u0)) (by rw [e3]; exact Ar4.1) (State.isArrayOf_alike hZ.alike Ar4.2.1) Ar4.2.2 hin4 hat4 (g := (mkF m 27 #[.val (.ref b_), .val (.int (2 : Int32)), .val (.int pn_), .val (.long ((0 : Int64) + (own_ch ((o_i2l pn_) - (own_ft u0)) (2 : Int32)))), .second, .val (.long (0 : Int64)), .second, .unset, .unset] [(.int (0 : Int32)), (.ref b_)])) rfl rfl (hb hby d1_27) _ k) ?_
  show own_Go p e below s _ _ _ (T3.setTop (mkF m 28 #[.val (.ref b_), .val (.int (2 : Int32)), .val (.int pn_), .val (.long ((0 : Int64) + (own_ch ((o_i2l pn_) - (own_ft u0)) (2 : Int32)))), .second, .val (.long (0 : Int64)), .second, .unset, .unset] [(.int u0)]))
  have st5 : ∀ t, Steps p.tables e below (T3.setTop (mkF m 41 #[.val (.ref b_), .val (.int (2 : Int32)), .val (.int pn_), .val (.long ((0 : Int64) + (own_ch ((o_i2l pn_) - (own_ft u0)) (2 : Int32)))), .second, .val (.long (if u0 < (0 : Int32) then ((0 : Int64) + (o_lshl (1 : Int64) (1 : Int32))) else (0 : Int64))), .second, .unset, .unset] [])) t → Steps p.tables e below (T3.setTop (mkF m 28 #[.val (.ref b_), .val (.int (2 : Int32)), .val (.int pn_), .val (.long ((0 : Int64) + (own_ch ((o_i2l pn_) - (own_ft u0)) (2 : Int32)))), .second, .val (.long (0 : Int64)), .second, .unset, .unset] [(.int u0)])) t := by
    intro t k
    by_cases hq6 : u0 < (0 : Int32)
    · refine XS.ifNo X3.here hx rfl (hb hby d1_28) rfl (Jvm.Free.XT.i0_ge_f hq6) ?_
      show Steps p.tables e below (T3.setTop (mkF m 31 #[.val (.ref b_), .val (.int (2 : Int32)), .val (.int pn_), .val (.long ((0 : Int64) + (own_ch ((o_i2l pn_) - (own_ft u0)) (2 : Int32)))), .second, .val (.long (0 : Int64)), .second, .unset, .unset] [])) t
      refine XS.lload X3.here hx rfl (hb hby d1_31) rfl ?_
      show Steps p.tables e below (T3.setTop (mkF m 33 #[.val (.ref b_), .val (.int (2 : Int32)), .val (.int pn_), .val (.long ((0 : Int64) + (own_ch ((o_i2l pn_) - (own_ft u0)) (2 : Int32)))), .second, .val (.long (0 : Int64)), .second, .unset, .unset] [(.long (0 : Int64))])) t
      refine XS.lconst X3.here hx rfl (hb hby d1_33) ?_
      show Steps p.tables e below (T3.setTop (mkF m 34 #[.val (.ref b_), .val (.int (2 : Int32)), .val (.int pn_), .val (.long ((0 : Int64) + (own_ch ((o_i2l pn_) - (own_ft u0)) (2 : Int32)))), .second, .val (.long (0 : Int64)), .second, .unset, .unset] [(.long (1 : Int64)), (.long (0 : Int64))])) t
      refine XS.iloadN X3.here hx rfl (hb hby d1_34) rfl ?_
      show Steps p.tables e below (T3.setTop (mkF m 35 #[.val (.ref b_), .val (.int (2 : Int32)), .val (.int pn_), .val (.long ((0 : Int64) + (own_ch ((o_i2l pn_) - (own_ft u0)) (2 : Int32)))), .second, .val (.long (0 : Int64)), .second, .unset, .unset] [(.int (2 : Int32)), (.long (1 : Int64)), (.long (0 : Int64))])) t
      refine XS.iconst X3.here hx rfl (hb hby d1_35) ?_
      show Steps p.tables e below (T3.setTop (mkF m 36 #[.val (.ref b_), .val (.int (2 : Int32)), .val (.int pn_), .val (.long ((0 : Int64) + (own_ch ((o_i2l pn_) - (own_ft u0)) (2 : Int32)))), .second, .val (.long (0 : Int64)), .second, .unset, .unset] [(.int (1 : Int32)), (.int (2 : Int32)), (.long (1 : Int64)), (.long (0 : Int64))])) t
      refine XS.isub X3.here hx rfl (hb hby d1_36) rfl ?_
      show Steps p.tables e below (T3.setTop (mkF m 37 #[.val (.ref b_), .val (.int (2 : Int32)), .val (.int pn_), .val (.long ((0 : Int64) + (own_ch ((o_i2l pn_) - (own_ft u0)) (2 : Int32)))), .second, .val (.long (0 : Int64)), .second, .unset, .unset] [(.int (1 : Int32)), (.long (1 : Int64)), (.long (0 : Int64))])) t
      refine XS.lshl X3.here hx rfl (hb hby d1_37) rfl ?_
      show Steps p.tables e below (T3.setTop (mkF m 38 #[.val (.ref b_), .val (.int (2 : Int32)), .val (.int pn_), .val (.long ((0 : Int64) + (own_ch ((o_i2l pn_) - (own_ft u0)) (2 : Int32)))), .second, .val (.long (0 : Int64)), .second, .unset, .unset] [(.long (o_lshl (1 : Int64) (1 : Int32))), (.long (0 : Int64))])) t
      refine XS.ladd X3.here hx rfl (hb hby d1_38) rfl ?_
      show Steps p.tables e below (T3.setTop (mkF m 39 #[.val (.ref b_), .val (.int (2 : Int32)), .val (.int pn_), .val (.long ((0 : Int64) + (own_ch ((o_i2l pn_) - (own_ft u0)) (2 : Int32)))), .second, .val (.long (0 : Int64)), .second, .unset, .unset] [(.long ((0 : Int64) + (o_lshl (1 : Int64) (1 : Int32))))])) t
      refine XS.lstore X3.here hx rfl (hb hby d1_39) rfl (l' := #[.val (.ref b_), .val (.int (2 : Int32)), .val (.int pn_), .val (.long ((0 : Int64) + (own_ch ((o_i2l pn_) - (own_ft u0)) (2 : Int32)))), .second, .val (.long ((0 : Int64) + (o_lshl (1 : Int64) (1 : Int32)))), .second, .unset, .unset]) rfl ?_
      show Steps p.tables e below (T3.setTop (mkF m 41 #[.val (.ref b_), .val (.int (2 : Int32)), .val (.int pn_), .val (.long ((0 : Int64) + (own_ch ((o_i2l pn_) - (own_ft u0)) (2 : Int32)))), .second, .val (.long ((0 : Int64) + (o_lshl (1 : Int64) (1 : Int32)))), .second, .unset, .unset] [])) t
      simp only [if_pos hq6] at k
      exact k
    · refine XS.ifYes X3.here hx rfl (pc0 := 28) (pc' := 41) rfl (hb hby d1_28) rfl (Jvm.Free.XT.i0_ge_t hq6) (by decide) (by decide) ?_
      show Steps p.tables e below (T3.setTop (mkF m 41 #[.val (.ref b_), .val (.int (2 : Int32)), .val (.int pn_), .val (.long ((0 : Int64) + (own_ch ((o_i2l pn_) - (own_ft u0)) (2 : Int32)))), .second, .val (.long (0 : Int64)), .second, .unset, .unset] [])) t
      simp only [if_neg hq6] at k
      exact k
  refine own_via st5 ?_
  show own_Go p e below s _ _ _ (T3.setTop (mkF m 41 #[.val (.ref b_), .val (.int (2 : Int32)), .val (.int pn_), .val (.long ((0 : Int64) + (own_ch ((o_i2l pn_) - (own_ft u0)) (2 : Int32)))), .second, .val (.long (if u0 < (0 : Int32) then ((0 : Int64) + (o_lshl (1 : Int64) (1 : Int32))) else (0 : Int64))), .second, .unset, .unset] []))
  refine own_via (fun _ k => XS.iloadN X3.here hx rfl (hb hby d1_41) rfl k) ?_
  show own_Go p e below s _ _ _ (T3.setTop (mkF m 42 #[.val (.ref b_), .val (.int (2 : Int32)), .val (.int pn_), .val (.long ((0 : Int64) + (own_ch ((o_i2l pn_) - (own_ft u0)) (2 : Int32)))), .second, .val (.long (if u0 < (0 : Int32) then ((0 : Int64) + (o_lshl (1 : Int64) (1 : Int32))) else (0 : Int64))), .second, .unset, .unset] [(.int (2 : Int32))]))
  refine own_via (fun _ k => XS.iconst X3.here hx rfl (hb hby d1_42) k) ?_
  show own_Go p e below s _ _ _ (T3.setTop (mkF m 43 #[.val (.ref b_), .val (.int (2 : Int32)), .val (.int pn_), .val (.long ((0 : Int64) + (own_ch ((o_i2l pn_) - (own_ft u0)) (2 : Int32)))), .second, .val (.long (if u0 < (0 : Int32) then ((0 : Int64) + (o_lshl (1 : Int64) (1 : Int32))) else (0 : Int64))), .second, .unset, .unset] [(.int (1 : Int32)), (.int (2 : Int32))]))
  refine own_via (fun _ k => XS.icmpNo X3.here hx rfl (hb hby d1_43) rfl (Jvm.Free.XT.ii_le_f (by decide)) k) ?_
  show own_Go p e below s _ _ _ (T3.setTop (mkF m 46 #[.val (.ref b_), .val (.int (2 : Int32)), .val (.int pn_), .val (.long ((0 : Int64) + (own_ch ((o_i2l pn_) - (own_ft u0)) (2 : Int32)))), .second, .val (.long (if u0 < (0 : Int32) then ((0 : Int64) + (o_lshl (1 : Int64) (1 : Int32))) else (0 : Int64))), .second, .unset, .unset] []))
  refine own_via (fun _ k => XS.lloadN X3.here hx rfl (hb hby d1_46) rfl k) ?_
  show own_Go p e below s _ _ _ (T3.setTop (mkF m 47 #[.val (.ref b_), .val (.int (2 : Int32)), .val (.int pn_), .val (.long ((0 : Int64) + (own_ch ((o_i2l pn_) - (own_ft u0)) (2 : Int32)))), .second, .val (.long (if u0 < (0 : Int32) then ((0 : Int64) + (o_lshl (1 : Int64) (1 : Int32))) else (0 : Int64))), .second, .unset, .unset] [(.long ((0 : Int64) + (own_ch ((o_i2l pn_) - (own_ft u0)) (2 : Int32))))]))
  refine own_via (fun _ k => XS.iloadN X3.here hx rfl (hb hby d1_47) rfl k) ?_
  show own_Go p e below s _ _ _ (T3.setTop (mkF m 48 #[.val (.ref b_), .val (.int (2 : Int32)), .val (.int pn_), .val (.long ((0 : Int64) + (own_ch ((o_i2l pn_) - (own_ft u0)) (2 : Int32)))), .second, .val (.long (if u0 < (0 : Int32) then ((0 : Int64) + (o_lshl (1 : Int64) (1 : Int32))) else (0 : Int64))), .second, .unset, .unset] [(.int pn_), (.long ((0 : Int64) + (own_ch ((o_i2l pn_) - (own_ft u0)) (2 : Int32))))]))
  refine own_via (fun _ k => XS.i2l X3.here hx rfl (hb hby d1_48) rfl k) ?_
  show own_Go p e below s _ _ _ (T3.setTop (mkF m 49 #[.val (.ref b_), .val (.int (2 : Int32)), .val (.int pn_), .val (.long ((0 : Int64) + (own_ch ((o_i2l pn_) - (own_ft u0)) (2 : Int32)))), .second, .val (.long (if u0 < (0 : Int32) then ((0 : Int64) + (o_lshl (1 : Int64) (1 : Int32))) else (0 : Int64))), .second, .unset, .unset] [(.long (o_i2l pn_)), (.long ((0 : Int64) + (own_ch ((o_i2l pn_) - (own_ft u0)) (2 : Int32))))]))
  refine own_via (fun _ k => XS.aloadN X3.here hx rfl (hb hby d1_49) rfl rfl k) ?_
  show own_Go p e below s _ _ _ (T3.setTop (mkF m 50 #[.val (.ref b_), .val (.int (2 : Int32)), .val (.int pn_), .val (.long ((0 : Int64) + (own_ch ((o_i2l pn_) - (own_ft u0)) (2 : Int32)))), .second, .val (.long (if u0 < (0 : Int32) then ((0 : Int64) + (o_lshl (1 : Int64) (1 : Int32))) else (0 : Int64))), .second, .unset, .unset] [(.ref b_), (.long (o_i2l pn_)), (.long ((0 : Int64) + (own_ch ((o_i2l pn_) - (own_ft u0)) (2 : Int32))))]))
  refine own_via (fun _ k => XS.iconst X3.here hx rfl (hb hby d1_50) k) ?_
  show own_Go p e below s _ _ _ (T3.setTop (mkF m 51 #[.val (.ref b_), .val (.int (2 : Int32)), .val (.int pn_), .val (.long ((0 : Int64) + (own_ch ((o_i2l pn_) - (own_ft u0)) (2 : Int32)))), .second, .val (.long (if u0 < (0 : Int32) then ((0 : Int64) + (o_lshl (1 : Int64) (1 : Int32))) else (0 : Int64))), .second, .unset, .unset] [(.int (1 : Int32)), (.ref b_), (.long (o_i2l pn_)), (.long ((0 : Int64) + (own_ch ((o_i2l pn_) - (own_ft u0)) (2 : Int32))))]))
  obtain ⟨cl7, Ar7, q7, S7, M7, H7, G7⟩ := (id V_b_)
  have hin7 : ¬ ((1 : Int32) < 0 ∨ cl7.slots.size ≤ ((1 : Int32)).toNatClampNeg) := inb_of S7 ⟨by decide, by decide⟩
  have hat7 : cl7.slots[((1 : Int32)).toNatClampNeg]? = some (.int u1) := Has.at H7 hin7 rfl
  refine own_via (fun _ k => X3.iaload hx (j := (1 : Int32)) (v := (.int u1)) (by rw [e3]; exact Ar7.1) (State.isArrayOf_alike hZ.alike Ar7.2.1) Ar7.2.2 hin7 hat7 (g := (mkF m 51 #[.val (.ref b_), .val (.int (2 : Int32)), .val (.int pn_), .val (.long ((0 : Int64) + (own_ch ((o_i2l pn_) - (own_ft u0)) (2 : Int32)))), .second, .val (.long (if u0 < (0 : Int32) then ((0 : Int64) + (o_lshl (1 : Int64) (1 : Int32))) else (0 : Int64))), .second, .unset, .unset] [(.int (1 : Int32)), (.ref b_), (.long (o_i2l pn_)), (.long ((0 : Int64) + (own_ch ((o_i2l pn_) - (own_ft u0)) (2 : Int32))))])) rfl rfl (hb hby d1_51) _ k) ?_
  show own_Go p e below s _ _ _ (T3.setTop (mkF m 52 #[.val (.ref b_), .val (.int (2 : Int32)), .val (.int pn_), .val (.long ((0 : Int64) + (own_ch ((o_i2l pn_) - (own_ft u0)) (2 : Int32)))), .second, .val (.long (if u0 < (0 : Int32) then ((0 : Int64) + (o_lshl (1 : Int64) (1 : Int32))) else (0 : Int64))), .second, .unset, .unset] [(.int u1), (.long (o_i2l pn_)), (.long ((0 : Int64) + (own_ch ((o_i2l pn_) - (own_ft u0)) (2 : Int32))))]))
  obtain ⟨_, _, ⟨T8, L8, k8, n8⟩, -, X8, ⟨Lc8, hQ8, l8, y8, z8⟩, st8⟩ := Jvm.LawKit.callS X3 hx (y := (⟨"com/example/unalike/unalike/engine/TSetsNextPinLaw", "feat", "(I)J"⟩ : MethodName)) hown (mvT hZ (hw _ (List.mem_of_getElem? (i := 13) rfl))) (mvT hZ (hw _ (List.mem_of_getElem? (i := 14) rfl))) (mvT hZ (hw _ (List.mem_of_getElem? (i := 4) rfl))) (mvT hZ (hw _ (List.mem_of_getElem? (i := 15) rfl))) (by decide) (backOf (W := 4) (rm4 l Z a0 hw [] u1 h0 n0 Z0 ) hZ (hw _ (List.mem_of_getElem? (i := 15) rfl)) (hw _ (List.mem_of_getElem? (i := 4) rfl)) (by decide) (by decide)) (g := (mkF m 52 #[.val (.ref b_), .val (.int (2 : Int32)), .val (.int pn_), .val (.long ((0 : Int64) + (own_ch ((o_i2l pn_) - (own_ft u0)) (2 : Int32)))), .second, .val (.long (if u0 < (0 : Int32) then ((0 : Int64) + (o_lshl (1 : Int64) (1 : Int32))) else (0 : Int64))), .second, .unset, .unset] [(.int u1), (.long (o_i2l pn_)), (.long ((0 : Int64) + (own_ch ((o_i2l pn_) - (own_ft u0)) (2 : Int32))))])) rfl (by rw [hml]; rfl) (argsL := [(.int u1)]) (rest := [(.long (o_i2l pn_)), (.long ((0 : Int64) + (own_ch ((o_i2l pn_) - (own_ft u0)) (2 : Int32))))]) (lenOf pd_0 rfl) rfl (by show 2 * 0 + _ ≤ _; exact Nat.le_of_eq rfl) (hb hby d1_52) (fun _ _ => ⟨rfl, e3, (by decide : 0 + 0 ≤ _), (by decide : 0 + 0 ≤ _)⟩)
  dsimp only [Pt.U, Pt.locs, Pt.cells, Pt.slots] at X8 l8 y8 z8 st8 hQ8
  subst l8 y8 z8
  obtain ⟨rfl, N8q, e8⟩ := hQ8
  have N8 := Fr.app N3 N8q
  refine own_via st8 ?_
  show own_Go p e below s _ _ _ (T8.setTop (mkF m 55 #[.val (.ref b_), .val (.int (2 : Int32)), .val (.int pn_), .val (.long ((0 : Int64) + (own_ch ((o_i2l pn_) - (own_ft u0)) (2 : Int32)))), .second, .val (.long (if u0 < (0 : Int32) then ((0 : Int64) + (o_lshl (1 : Int64) (1 : Int32))) else (0 : Int64))), .second, .unset, .unset] [(.long (own_ft u1)), (.long (o_i2l pn_)), (.long ((0 : Int64) + (own_ch ((o_i2l pn_) - (own_ft u0)) (2 : Int32))))]))
  refine own_via (fun _ k => XS.lsub X8.here hx rfl (hb hby d1_55) rfl k) ?_
  show own_Go p e below s _ _ _ (T8.setTop (mkF m 56 #[.val (.ref b_), .val (.int (2 : Int32)), .val (.int pn_), .val (.long ((0 : Int64) + (own_ch ((o_i2l pn_) - (own_ft u0)) (2 : Int32)))), .second, .val (.long (if u0 < (0 : Int32) then ((0 : Int64) + (o_lshl (1 : Int64) (1 : Int32))) else (0 : Int64))), .second, .unset, .unset] [(.long ((o_i2l pn_) - (own_ft u1))), (.long ((0 : Int64) + (own_ch ((o_i2l pn_) - (own_ft u0)) (2 : Int32))))]))
  refine own_via (fun _ k => XS.iloadN X8.here hx rfl (hb hby d1_56) rfl k) ?_
  show own_Go p e below s _ _ _ (T8.setTop (mkF m 57 #[.val (.ref b_), .val (.int (2 : Int32)), .val (.int pn_), .val (.long ((0 : Int64) + (own_ch ((o_i2l pn_) - (own_ft u0)) (2 : Int32)))), .second, .val (.long (if u0 < (0 : Int32) then ((0 : Int64) + (o_lshl (1 : Int64) (1 : Int32))) else (0 : Int64))), .second, .unset, .unset] [(.int (2 : Int32)), (.long ((o_i2l pn_) - (own_ft u1))), (.long ((0 : Int64) + (own_ch ((o_i2l pn_) - (own_ft u0)) (2 : Int32))))]))
  refine own_via (fun _ k => XS.iconst X8.here hx rfl (hb hby d1_57) k) ?_
  show own_Go p e below s _ _ _ (T8.setTop (mkF m 58 #[.val (.ref b_), .val (.int (2 : Int32)), .val (.int pn_), .val (.long ((0 : Int64) + (own_ch ((o_i2l pn_) - (own_ft u0)) (2 : Int32)))), .second, .val (.long (if u0 < (0 : Int32) then ((0 : Int64) + (o_lshl (1 : Int64) (1 : Int32))) else (0 : Int64))), .second, .unset, .unset] [(.int (1 : Int32)), (.int (2 : Int32)), (.long ((o_i2l pn_) - (own_ft u1))), (.long ((0 : Int64) + (own_ch ((o_i2l pn_) - (own_ft u0)) (2 : Int32))))]))
  refine own_via (fun _ k => XS.isub X8.here hx rfl (hb hby d1_58) rfl k) ?_
  show own_Go p e below s _ _ _ (T8.setTop (mkF m 59 #[.val (.ref b_), .val (.int (2 : Int32)), .val (.int pn_), .val (.long ((0 : Int64) + (own_ch ((o_i2l pn_) - (own_ft u0)) (2 : Int32)))), .second, .val (.long (if u0 < (0 : Int32) then ((0 : Int64) + (o_lshl (1 : Int64) (1 : Int32))) else (0 : Int64))), .second, .unset, .unset] [(.int (1 : Int32)), (.long ((o_i2l pn_) - (own_ft u1))), (.long ((0 : Int64) + (own_ch ((o_i2l pn_) - (own_ft u0)) (2 : Int32))))]))
  obtain ⟨_, _, ⟨T9, L9, k9, n9⟩, -, X9, ⟨Lc9, hQ9, l9, y9, z9⟩, st9⟩ := Jvm.LawKit.callS X8 hx (y := (⟨"com/example/unalike/unalike/engine/TSetsNextPinLaw", "choose", "(JI)J"⟩ : MethodName)) hown (mvT hZ (hw _ (List.mem_of_getElem? (i := 6) rfl))) (mvT hZ (hw _ (List.mem_of_getElem? (i := 7) rfl))) (mvT hZ (hw _ (List.mem_of_getElem? (i := 4) rfl))) (mvT hZ (hw _ (List.mem_of_getElem? (i := 8) rfl))) (by decide) (backOf (W := 2) (rm2 l Z a0 hw [] ((o_i2l pn_) - (own_ft u1)) (1 : Int32) h0 n0 Z0 ) hZ (hw _ (List.mem_of_getElem? (i := 8) rfl)) (hw _ (List.mem_of_getElem? (i := 4) rfl)) (by decide) (by decide)) (g := (mkF m 59 #[.val (.ref b_), .val (.int (2 : Int32)), .val (.int pn_), .val (.long ((0 : Int64) + (own_ch ((o_i2l pn_) - (own_ft u0)) (2 : Int32)))), .second, .val (.long (if u0 < (0 : Int32) then ((0 : Int64) + (o_lshl (1 : Int64) (1 : Int32))) else (0 : Int64))), .second, .unset, .unset] [(.int (1 : Int32)), (.long ((o_i2l pn_) - (own_ft u1))), (.long ((0 : Int64) + (own_ch ((o_i2l pn_) - (own_ft u0)) (2 : Int32))))])) rfl (by rw [hml]; rfl) (argsL := [(.long ((o_i2l pn_) - (own_ft u1))), (.int (1 : Int32))]) (rest := [(.long ((0 : Int64) + (own_ch ((o_i2l pn_) - (own_ft u0)) (2 : Int32))))]) (lenOf pd_1 rfl) rfl (by show 2 * 0 + _ ≤ _; exact Nat.le_of_eq rfl) (hb hby d1_59) (fun _ _ => ⟨rfl, e8, (by decide : 0 + 0 ≤ _), (by decide : 0 + 0 ≤ _)⟩)
  dsimp only [Pt.U, Pt.locs, Pt.cells, Pt.slots] at X9 l9 y9 z9 st9 hQ9
  subst l9 y9 z9
  obtain ⟨rfl, N9q, e9⟩ := hQ9
  have N9 := Fr.app N8 N9q
  refine own_via st9 ?_
  show own_Go p e below s _ _ _ (T9.setTop (mkF m 62 #[.val (.ref b_), .val (.int (2 : Int32)), .val (.int pn_), .val (.long ((0 : Int64) + (own_ch ((o_i2l pn_) - (own_ft u0)) (2 : Int32)))), .second, .val (.long (if u0 < (0 : Int32) then ((0 : Int64) + (o_lshl (1 : Int64) (1 : Int32))) else (0 : Int64))), .second, .unset, .unset] [(.long (own_ch ((o_i2l pn_) - (own_ft u1)) (1 : Int32))), (.long ((0 : Int64) + (own_ch ((o_i2l pn_) - (own_ft u0)) (2 : Int32))))]))
  refine own_via (fun _ k => XS.ladd X9.here hx rfl (hb hby d1_62) rfl k) ?_
  show own_Go p e below s _ _ _ (T9.setTop (mkF m 63 #[.val (.ref b_), .val (.int (2 : Int32)), .val (.int pn_), .val (.long ((0 : Int64) + (own_ch ((o_i2l pn_) - (own_ft u0)) (2 : Int32)))), .second, .val (.long (if u0 < (0 : Int32) then ((0 : Int64) + (o_lshl (1 : Int64) (1 : Int32))) else (0 : Int64))), .second, .unset, .unset] [(.long (((0 : Int64) + (own_ch ((o_i2l pn_) - (own_ft u0)) (2 : Int32))) + (own_ch ((o_i2l pn_) - (own_ft u1)) (1 : Int32))))]))
  refine own_via (fun _ k => XS.lstoreN X9.here hx rfl (hb hby d1_63) rfl (l' := #[.val (.ref b_), .val (.int (2 : Int32)), .val (.int pn_), .val (.long (((0 : Int64) + (own_ch ((o_i2l pn_) - (own_ft u0)) (2 : Int32))) + (own_ch ((o_i2l pn_) - (own_ft u1)) (1 : Int32)))), .second, .val (.long (if u0 < (0 : Int32) then ((0 : Int64) + (o_lshl (1 : Int64) (1 : Int32))) else (0 : Int64))), .second, .unset, .unset]) rfl k) ?_
  show own_Go p e below s _ _ _ (T9.setTop (mkF m 64 #[.val (.ref b_), .val (.int (2 : Int32)), .val (.int pn_), .val (.long (((0 : Int64) + (own_ch ((o_i2l pn_) - (own_ft u0)) (2 : Int32))) + (own_ch ((o_i2l pn_) - (own_ft u1)) (1 : Int32)))), .second, .val (.long (if u0 < (0 : Int32) then ((0 : Int64) + (o_lshl (1 : Int64) (1 : Int32))) else (0 : Int64))), .second, .unset, .unset] []))
  refine own_via (fun _ k => XS.aloadN X9.here hx rfl (hb hby d1_64) rfl rfl k) ?_
  show own_Go p e below s _ _ _ (T9.setTop (mkF m 65 #[.val (.ref b_), .val (.int (2 : Int32)), .val (.int pn_), .val (.long (((0 : Int64) + (own_ch ((o_i2l pn_) - (own_ft u0)) (2 : Int32))) + (own_ch ((o_i2l pn_) - (own_ft u1)) (1 : Int32)))), .second, .val (.long (if u0 < (0 : Int32) then ((0 : Int64) + (o_lshl (1 : Int64) (1 : Int32))) else (0 : Int64))), .second, .unset, .unset] [(.ref b_)]))
  refine own_via (fun _ k => XS.iconst X9.here hx rfl (hb hby d1_65) k) ?_
  show own_Go p e below s _ _ _ (T9.setTop (mkF m 66 #[.val (.ref b_), .val (.int (2 : Int32)), .val (.int pn_), .val (.long (((0 : Int64) + (own_ch ((o_i2l pn_) - (own_ft u0)) (2 : Int32))) + (own_ch ((o_i2l pn_) - (own_ft u1)) (1 : Int32)))), .second, .val (.long (if u0 < (0 : Int32) then ((0 : Int64) + (o_lshl (1 : Int64) (1 : Int32))) else (0 : Int64))), .second, .unset, .unset] [(.int (1 : Int32)), (.ref b_)]))
  obtain ⟨cl10, Ar10, q10, S10, M10, H10, G10⟩ := (id V_b_)
  have hin10 : ¬ ((1 : Int32) < 0 ∨ cl10.slots.size ≤ ((1 : Int32)).toNatClampNeg) := inb_of S10 ⟨by decide, by decide⟩
  have hat10 : cl10.slots[((1 : Int32)).toNatClampNeg]? = some (.int u1) := Has.at H10 hin10 rfl
  refine own_via (fun _ k => X9.iaload hx (j := (1 : Int32)) (v := (.int u1)) (by rw [e9]; exact Ar10.1) (State.isArrayOf_alike hZ.alike Ar10.2.1) Ar10.2.2 hin10 hat10 (g := (mkF m 66 #[.val (.ref b_), .val (.int (2 : Int32)), .val (.int pn_), .val (.long (((0 : Int64) + (own_ch ((o_i2l pn_) - (own_ft u0)) (2 : Int32))) + (own_ch ((o_i2l pn_) - (own_ft u1)) (1 : Int32)))), .second, .val (.long (if u0 < (0 : Int32) then ((0 : Int64) + (o_lshl (1 : Int64) (1 : Int32))) else (0 : Int64))), .second, .unset, .unset] [(.int (1 : Int32)), (.ref b_)])) rfl rfl (hb hby d1_66) _ k) ?_
  show own_Go p e below s _ _ _ (T9.setTop (mkF m 67 #[.val (.ref b_), .val (.int (2 : Int32)), .val (.int pn_), .val (.long (((0 : Int64) + (own_ch ((o_i2l pn_) - (own_ft u0)) (2 : Int32))) + (own_ch ((o_i2l pn_) - (own_ft u1)) (1 : Int32)))), .second, .val (.long (if u0 < (0 : Int32) then ((0 : Int64) + (o_lshl (1 : Int64) (1 : Int32))) else (0 : Int64))), .second, .unset, .unset] [(.int u1)]))
  have st11 : ∀ t, Steps p.tables e below (T9.setTop (mkF m 80 #[.val (.ref b_), .val (.int (2 : Int32)), .val (.int pn_), .val (.long (((0 : Int64) + (own_ch ((o_i2l pn_) - (own_ft u0)) (2 : Int32))) + (own_ch ((o_i2l pn_) - (own_ft u1)) (1 : Int32)))), .second, .val (.long (if u1 < (0 : Int32) then ((if u0 < (0 : Int32) then ((0 : Int64) + (o_lshl (1 : Int64) (1 : Int32))) else (0 : Int64)) + (o_lshl (1 : Int64) (0 : Int32))) else (if u0 < (0 : Int32) then ((0 : Int64) + (o_lshl (1 : Int64) (1 : Int32))) else (0 : Int64)))), .second, .unset, .unset] [])) t → Steps p.tables e below (T9.setTop (mkF m 67 #[.val (.ref b_), .val (.int (2 : Int32)), .val (.int pn_), .val (.long (((0 : Int64) + (own_ch ((o_i2l pn_) - (own_ft u0)) (2 : Int32))) + (own_ch ((o_i2l pn_) - (own_ft u1)) (1 : Int32)))), .second, .val (.long (if u0 < (0 : Int32) then ((0 : Int64) + (o_lshl (1 : Int64) (1 : Int32))) else (0 : Int64))), .second, .unset, .unset] [(.int u1)])) t := by
    intro t k
    by_cases hq12 : u1 < (0 : Int32)
    · refine XS.ifNo X9.here hx rfl (hb hby d1_67) rfl (Jvm.Free.XT.i0_ge_f hq12) ?_
      show Steps p.tables e below (T9.setTop (mkF m 70 #[.val (.ref b_), .val (.int (2 : Int32)), .val (.int pn_), .val (.long (((0 : Int64) + (own_ch ((o_i2l pn_) - (own_ft u0)) (2 : Int32))) + (own_ch ((o_i2l pn_) - (own_ft u1)) (1 : Int32)))), .second, .val (.long (if u0 < (0 : Int32) then ((0 : Int64) + (o_lshl (1 : Int64) (1 : Int32))) else (0 : Int64))), .second, .unset, .unset] [])) t
      refine XS.lload X9.here hx rfl (hb hby d1_70) rfl ?_
      show Steps p.tables e below (T9.setTop (mkF m 72 #[.val (.ref b_), .val (.int (2 : Int32)), .val (.int pn_), .val (.long (((0 : Int64) + (own_ch ((o_i2l pn_) - (own_ft u0)) (2 : Int32))) + (own_ch ((o_i2l pn_) - (own_ft u1)) (1 : Int32)))), .second, .val (.long (if u0 < (0 : Int32) then ((0 : Int64) + (o_lshl (1 : Int64) (1 : Int32))) else (0 : Int64))), .second, .unset, .unset] [(.long (if u0 < (0 : Int32) then ((0 : Int64) + (o_lshl (1 : Int64) (1 : Int32))) else (0 : Int64)))])) t
      refine XS.lconst X9.here hx rfl (hb hby d1_72) ?_
      show Steps p.tables e below (T9.setTop (mkF m 73 #[.val (.ref b_), .val (.int (2 : Int32)), .val (.int pn_), .val (.long (((0 : Int64) + (own_ch ((o_i2l pn_) - (own_ft u0)) (2 : Int32))) + (own_ch ((o_i2l pn_) - (own_ft u1)) (1 : Int32)))), .second, .val (.long (if u0 < (0 : Int32) then ((0 : Int64) + (o_lshl (1 : Int64) (1 : Int32))) else (0 : Int64))), .second, .unset, .unset] [(.long (1 : Int64)), (.long (if u0 < (0 : Int32) then ((0 : Int64) + (o_lshl (1 : Int64) (1 : Int32))) else (0 : Int64)))])) t
      refine XS.iloadN X9.here hx rfl (hb hby d1_73) rfl ?_
      show Steps p.tables e below (T9.setTop (mkF m 74 #[.val (.ref b_), .val (.int (2 : Int32)), .val (.int pn_), .val (.long (((0 : Int64) + (own_ch ((o_i2l pn_) - (own_ft u0)) (2 : Int32))) + (own_ch ((o_i2l pn_) - (own_ft u1)) (1 : Int32)))), .second, .val (.long (if u0 < (0 : Int32) then ((0 : Int64) + (o_lshl (1 : Int64) (1 : Int32))) else (0 : Int64))), .second, .unset, .unset] [(.int (2 : Int32)), (.long (1 : Int64)), (.long (if u0 < (0 : Int32) then ((0 : Int64) + (o_lshl (1 : Int64) (1 : Int32))) else (0 : Int64)))])) t
      refine XS.iconst X9.here hx rfl (hb hby d1_74) ?_
      show Steps p.tables e below (T9.setTop (mkF m 75 #[.val (.ref b_), .val (.int (2 : Int32)), .val (.int pn_), .val (.long (((0 : Int64) + (own_ch ((o_i2l pn_) - (own_ft u0)) (2 : Int32))) + (own_ch ((o_i2l pn_) - (own_ft u1)) (1 : Int32)))), .second, .val (.long (if u0 < (0 : Int32) then ((0 : Int64) + (o_lshl (1 : Int64) (1 : Int32))) else (0 : Int64))), .second, .unset, .unset] [(.int (2 : Int32)), (.int (2 : Int32)), (.long (1 : Int64)), (.long (if u0 < (0 : Int32) then ((0 : Int64) + (o_lshl (1 : Int64) (1 : Int32))) else (0 : Int64)))])) t
      refine XS.isub X9.here hx rfl (hb hby d1_75) rfl ?_
      show Steps p.tables e below (T9.setTop (mkF m 76 #[.val (.ref b_), .val (.int (2 : Int32)), .val (.int pn_), .val (.long (((0 : Int64) + (own_ch ((o_i2l pn_) - (own_ft u0)) (2 : Int32))) + (own_ch ((o_i2l pn_) - (own_ft u1)) (1 : Int32)))), .second, .val (.long (if u0 < (0 : Int32) then ((0 : Int64) + (o_lshl (1 : Int64) (1 : Int32))) else (0 : Int64))), .second, .unset, .unset] [(.int (0 : Int32)), (.long (1 : Int64)), (.long (if u0 < (0 : Int32) then ((0 : Int64) + (o_lshl (1 : Int64) (1 : Int32))) else (0 : Int64)))])) t
      refine XS.lshl X9.here hx rfl (hb hby d1_76) rfl ?_
      show Steps p.tables e below (T9.setTop (mkF m 77 #[.val (.ref b_), .val (.int (2 : Int32)), .val (.int pn_), .val (.long (((0 : Int64) + (own_ch ((o_i2l pn_) - (own_ft u0)) (2 : Int32))) + (own_ch ((o_i2l pn_) - (own_ft u1)) (1 : Int32)))), .second, .val (.long (if u0 < (0 : Int32) then ((0 : Int64) + (o_lshl (1 : Int64) (1 : Int32))) else (0 : Int64))), .second, .unset, .unset] [(.long (o_lshl (1 : Int64) (0 : Int32))), (.long (if u0 < (0 : Int32) then ((0 : Int64) + (o_lshl (1 : Int64) (1 : Int32))) else (0 : Int64)))])) t
      refine XS.ladd X9.here hx rfl (hb hby d1_77) rfl ?_
      show Steps p.tables e below (T9.setTop (mkF m 78 #[.val (.ref b_), .val (.int (2 : Int32)), .val (.int pn_), .val (.long (((0 : Int64) + (own_ch ((o_i2l pn_) - (own_ft u0)) (2 : Int32))) + (own_ch ((o_i2l pn_) - (own_ft u1)) (1 : Int32)))), .second, .val (.long (if u0 < (0 : Int32) then ((0 : Int64) + (o_lshl (1 : Int64) (1 : Int32))) else (0 : Int64))), .second, .unset, .unset] [(.long ((if u0 < (0 : Int32) then ((0 : Int64) + (o_lshl (1 : Int64) (1 : Int32))) else (0 : Int64)) + (o_lshl (1 : Int64) (0 : Int32))))])) t
      refine XS.lstore X9.here hx rfl (hb hby d1_78) rfl (l' := #[.val (.ref b_), .val (.int (2 : Int32)), .val (.int pn_), .val (.long (((0 : Int64) + (own_ch ((o_i2l pn_) - (own_ft u0)) (2 : Int32))) + (own_ch ((o_i2l pn_) - (own_ft u1)) (1 : Int32)))), .second, .val (.long ((if u0 < (0 : Int32) then ((0 : Int64) + (o_lshl (1 : Int64) (1 : Int32))) else (0 : Int64)) + (o_lshl (1 : Int64) (0 : Int32)))), .second, .unset, .unset]) rfl ?_
      show Steps p.tables e below (T9.setTop (mkF m 80 #[.val (.ref b_), .val (.int (2 : Int32)), .val (.int pn_), .val (.long (((0 : Int64) + (own_ch ((o_i2l pn_) - (own_ft u0)) (2 : Int32))) + (own_ch ((o_i2l pn_) - (own_ft u1)) (1 : Int32)))), .second, .val (.long ((if u0 < (0 : Int32) then ((0 : Int64) + (o_lshl (1 : Int64) (1 : Int32))) else (0 : Int64)) + (o_lshl (1 : Int64) (0 : Int32)))), .second, .unset, .unset] [])) t
      simp only [if_pos hq12] at k
      exact k
    · refine XS.ifYes X9.here hx rfl (pc0 := 67) (pc' := 80) rfl (hb hby d1_67) rfl (Jvm.Free.XT.i0_ge_t hq12) (by decide) (by decide) ?_
      show Steps p.tables e below (T9.setTop (mkF m 80 #[.val (.ref b_), .val (.int (2 : Int32)), .val (.int pn_), .val (.long (((0 : Int64) + (own_ch ((o_i2l pn_) - (own_ft u0)) (2 : Int32))) + (own_ch ((o_i2l pn_) - (own_ft u1)) (1 : Int32)))), .second, .val (.long (if u0 < (0 : Int32) then ((0 : Int64) + (o_lshl (1 : Int64) (1 : Int32))) else (0 : Int64))), .second, .unset, .unset] [])) t
      simp only [if_neg hq12] at k
      exact k
  refine own_via st11 ?_
  show own_Go p e below s _ _ _ (T9.setTop (mkF m 80 #[.val (.ref b_), .val (.int (2 : Int32)), .val (.int pn_), .val (.long (((0 : Int64) + (own_ch ((o_i2l pn_) - (own_ft u0)) (2 : Int32))) + (own_ch ((o_i2l pn_) - (own_ft u1)) (1 : Int32)))), .second, .val (.long (if u1 < (0 : Int32) then ((if u0 < (0 : Int32) then ((0 : Int64) + (o_lshl (1 : Int64) (1 : Int32))) else (0 : Int64)) + (o_lshl (1 : Int64) (0 : Int32))) else (if u0 < (0 : Int32) then ((0 : Int64) + (o_lshl (1 : Int64) (1 : Int32))) else (0 : Int64)))), .second, .unset, .unset] []))
  refine own_via (fun _ k => XS.iloadN X9.here hx rfl (hb hby d1_80) rfl k) ?_
  show own_Go p e below s _ _ _ (T9.setTop (mkF m 81 #[.val (.ref b_), .val (.int (2 : Int32)), .val (.int pn_), .val (.long (((0 : Int64) + (own_ch ((o_i2l pn_) - (own_ft u0)) (2 : Int32))) + (own_ch ((o_i2l pn_) - (own_ft u1)) (1 : Int32)))), .second, .val (.long (if u1 < (0 : Int32) then ((if u0 < (0 : Int32) then ((0 : Int64) + (o_lshl (1 : Int64) (1 : Int32))) else (0 : Int64)) + (o_lshl (1 : Int64) (0 : Int32))) else (if u0 < (0 : Int32) then ((0 : Int64) + (o_lshl (1 : Int64) (1 : Int32))) else (0 : Int64)))), .second, .unset, .unset] [(.int (2 : Int32))]))
  refine own_via (fun _ k => XS.iconst X9.here hx rfl (hb hby d1_81) k) ?_
  show own_Go p e below s _ _ _ (T9.setTop (mkF m 82 #[.val (.ref b_), .val (.int (2 : Int32)), .val (.int pn_), .val (.long (((0 : Int64) + (own_ch ((o_i2l pn_) - (own_ft u0)) (2 : Int32))) + (own_ch ((o_i2l pn_) - (own_ft u1)) (1 : Int32)))), .second, .val (.long (if u1 < (0 : Int32) then ((if u0 < (0 : Int32) then ((0 : Int64) + (o_lshl (1 : Int64) (1 : Int32))) else (0 : Int64)) + (o_lshl (1 : Int64) (0 : Int32))) else (if u0 < (0 : Int32) then ((0 : Int64) + (o_lshl (1 : Int64) (1 : Int32))) else (0 : Int64)))), .second, .unset, .unset] [(.int (2 : Int32)), (.int (2 : Int32))]))
  refine own_via (fun _ k => XS.icmpYes X9.here hx rfl (pc0 := 82) (pc' := 115) rfl (hb hby d1_82) rfl (Jvm.Free.XT.ii_le_t (by decide)) (by decide) (by decide) k) ?_
  show own_Go p e below s _ _ _ (T9.setTop (mkF m 115 #[.val (.ref b_), .val (.int (2 : Int32)), .val (.int pn_), .val (.long (((0 : Int64) + (own_ch ((o_i2l pn_) - (own_ft u0)) (2 : Int32))) + (own_ch ((o_i2l pn_) - (own_ft u1)) (1 : Int32)))), .second, .val (.long (if u1 < (0 : Int32) then ((if u0 < (0 : Int32) then ((0 : Int64) + (o_lshl (1 : Int64) (1 : Int32))) else (0 : Int64)) + (o_lshl (1 : Int64) (0 : Int32))) else (if u0 < (0 : Int32) then ((0 : Int64) + (o_lshl (1 : Int64) (1 : Int32))) else (0 : Int64)))), .second, .unset, .unset] []))
  refine own_via (fun _ k => XS.iloadN X9.here hx rfl (hb hby d1_115) rfl k) ?_
  show own_Go p e below s _ _ _ (T9.setTop (mkF m 116 #[.val (.ref b_), .val (.int (2 : Int32)), .val (.int pn_), .val (.long (((0 : Int64) + (own_ch ((o_i2l pn_) - (own_ft u0)) (2 : Int32))) + (own_ch ((o_i2l pn_) - (own_ft u1)) (1 : Int32)))), .second, .val (.long (if u1 < (0 : Int32) then ((if u0 < (0 : Int32) then ((0 : Int64) + (o_lshl (1 : Int64) (1 : Int32))) else (0 : Int64)) + (o_lshl (1 : Int64) (0 : Int32))) else (if u0 < (0 : Int32) then ((0 : Int64) + (o_lshl (1 : Int64) (1 : Int32))) else (0 : Int64)))), .second, .unset, .unset] [(.int pn_)]))
  refine own_via (fun _ k => XS.i2l X9.here hx rfl (hb hby d1_116) rfl k) ?_
  show own_Go p e below s _ _ _ (T9.setTop (mkF m 117 #[.val (.ref b_), .val (.int (2 : Int32)), .val (.int pn_), .val (.long (((0 : Int64) + (own_ch ((o_i2l pn_) - (own_ft u0)) (2 : Int32))) + (own_ch ((o_i2l pn_) - (own_ft u1)) (1 : Int32)))), .second, .val (.long (if u1 < (0 : Int32) then ((if u0 < (0 : Int32) then ((0 : Int64) + (o_lshl (1 : Int64) (1 : Int32))) else (0 : Int64)) + (o_lshl (1 : Int64) (0 : Int32))) else (if u0 < (0 : Int32) then ((0 : Int64) + (o_lshl (1 : Int64) (1 : Int32))) else (0 : Int64)))), .second, .unset, .unset] [(.long (o_i2l pn_))]))
  refine own_via (fun _ k => XS.iloadN X9.here hx rfl (hb hby d1_117) rfl k) ?_
  show own_Go p e below s _ _ _ (T9.setTop (mkF m 118 #[.val (.ref b_), .val (.int (2 : Int32)), .val (.int pn_), .val (.long (((0 : Int64) + (own_ch ((o_i2l pn_) - (own_ft u0)) (2 : Int32))) + (own_ch ((o_i2l pn_) - (own_ft u1)) (1 : Int32)))), .second, .val (.long (if u1 < (0 : Int32) then ((if u0 < (0 : Int32) then ((0 : Int64) + (o_lshl (1 : Int64) (1 : Int32))) else (0 : Int64)) + (o_lshl (1 : Int64) (0 : Int32))) else (if u0 < (0 : Int32) then ((0 : Int64) + (o_lshl (1 : Int64) (1 : Int32))) else (0 : Int64)))), .second, .unset, .unset] [(.int (2 : Int32)), (.long (o_i2l pn_))]))
  obtain ⟨_, _, ⟨T13, L13, k13, n13⟩, -, X13, ⟨Lc13, hQ13, l13, y13, z13⟩, st13⟩ := Jvm.LawKit.callS X9 hx (y := (⟨"com/example/unalike/unalike/engine/TSetsNextPinLaw", "choose", "(JI)J"⟩ : MethodName)) hown (mvT hZ (hw _ (List.mem_of_getElem? (i := 6) rfl))) (mvT hZ (hw _ (List.mem_of_getElem? (i := 7) rfl))) (mvT hZ (hw _ (List.mem_of_getElem? (i := 4) rfl))) (mvT hZ (hw _ (List.mem_of_getElem? (i := 8) rfl))) (by decide) (backOf (W := 0) (rm2 l Z a0 hw [] (o_i2l pn_) (2 : Int32) h0 n0 Z0 ) hZ (hw _ (List.mem_of_getElem? (i := 8) rfl)) (hw _ (List.mem_of_getElem? (i := 4) rfl)) (by decide) (by decide)) (g := (mkF m 118 #[.val (.ref b_), .val (.int (2 : Int32)), .val (.int pn_), .val (.long (((0 : Int64) + (own_ch ((o_i2l pn_) - (own_ft u0)) (2 : Int32))) + (own_ch ((o_i2l pn_) - (own_ft u1)) (1 : Int32)))), .second, .val (.long (if u1 < (0 : Int32) then ((if u0 < (0 : Int32) then ((0 : Int64) + (o_lshl (1 : Int64) (1 : Int32))) else (0 : Int64)) + (o_lshl (1 : Int64) (0 : Int32))) else (if u0 < (0 : Int32) then ((0 : Int64) + (o_lshl (1 : Int64) (1 : Int32))) else (0 : Int64)))), .second, .unset, .unset] [(.int (2 : Int32)), (.long (o_i2l pn_))])) rfl (by rw [hml]; rfl) (argsL := [(.long (o_i2l pn_)), (.int (2 : Int32))]) (rest := []) (lenOf pd_1 rfl) rfl (by show 2 * 0 + _ ≤ _; exact Nat.le_of_eq rfl) (hb hby d1_118) (fun _ _ => ⟨rfl, e9, (by decide : 0 + 0 ≤ _), (by decide : 0 + 0 ≤ _)⟩)
  dsimp only [Pt.U, Pt.locs, Pt.cells, Pt.slots] at X13 l13 y13 z13 st13 hQ13
  subst l13 y13 z13
  obtain ⟨rfl, N13q, e13⟩ := hQ13
  have N13 := Fr.app N9 N13q
  refine own_via st13 ?_
  show own_Go p e below s _ _ _ (T13.setTop (mkF m 121 #[.val (.ref b_), .val (.int (2 : Int32)), .val (.int pn_), .val (.long (((0 : Int64) + (own_ch ((o_i2l pn_) - (own_ft u0)) (2 : Int32))) + (own_ch ((o_i2l pn_) - (own_ft u1)) (1 : Int32)))), .second, .val (.long (if u1 < (0 : Int32) then ((if u0 < (0 : Int32) then ((0 : Int64) + (o_lshl (1 : Int64) (1 : Int32))) else (0 : Int64)) + (o_lshl (1 : Int64) (0 : Int32))) else (if u0 < (0 : Int32) then ((0 : Int64) + (o_lshl (1 : Int64) (1 : Int32))) else (0 : Int64)))), .second, .unset, .unset] [(.long (own_ch (o_i2l pn_) (2 : Int32)))]))
  refine own_via (fun _ k => XS.lconst X13.here hx rfl (hb hby d1_121) k) ?_
  show own_Go p e below s _ _ _ (T13.setTop (mkF m 122 #[.val (.ref b_), .val (.int (2 : Int32)), .val (.int pn_), .val (.long (((0 : Int64) + (own_ch ((o_i2l pn_) - (own_ft u0)) (2 : Int32))) + (own_ch ((o_i2l pn_) - (own_ft u1)) (1 : Int32)))), .second, .val (.long (if u1 < (0 : Int32) then ((if u0 < (0 : Int32) then ((0 : Int64) + (o_lshl (1 : Int64) (1 : Int32))) else (0 : Int64)) + (o_lshl (1 : Int64) (0 : Int32))) else (if u0 < (0 : Int32) then ((0 : Int64) + (o_lshl (1 : Int64) (1 : Int32))) else (0 : Int64)))), .second, .unset, .unset] [(.long (1 : Int64)), (.long (own_ch (o_i2l pn_) (2 : Int32)))]))
  refine own_via (fun _ k => XS.lsub X13.here hx rfl (hb hby d1_122) rfl k) ?_
  show own_Go p e below s _ _ _ (T13.setTop (mkF m 123 #[.val (.ref b_), .val (.int (2 : Int32)), .val (.int pn_), .val (.long (((0 : Int64) + (own_ch ((o_i2l pn_) - (own_ft u0)) (2 : Int32))) + (own_ch ((o_i2l pn_) - (own_ft u1)) (1 : Int32)))), .second, .val (.long (if u1 < (0 : Int32) then ((if u0 < (0 : Int32) then ((0 : Int64) + (o_lshl (1 : Int64) (1 : Int32))) else (0 : Int64)) + (o_lshl (1 : Int64) (0 : Int32))) else (if u0 < (0 : Int32) then ((0 : Int64) + (o_lshl (1 : Int64) (1 : Int32))) else (0 : Int64)))), .second, .unset, .unset] [(.long ((own_ch (o_i2l pn_) (2 : Int32)) - (1 : Int64)))]))
  refine own_via (fun _ k => XS.lloadN X13.here hx rfl (hb hby d1_123) rfl k) ?_
  show own_Go p e below s _ _ _ (T13.setTop (mkF m 124 #[.val (.ref b_), .val (.int (2 : Int32)), .val (.int pn_), .val (.long (((0 : Int64) + (own_ch ((o_i2l pn_) - (own_ft u0)) (2 : Int32))) + (own_ch ((o_i2l pn_) - (own_ft u1)) (1 : Int32)))), .second, .val (.long (if u1 < (0 : Int32) then ((if u0 < (0 : Int32) then ((0 : Int64) + (o_lshl (1 : Int64) (1 : Int32))) else (0 : Int64)) + (o_lshl (1 : Int64) (0 : Int32))) else (if u0 < (0 : Int32) then ((0 : Int64) + (o_lshl (1 : Int64) (1 : Int32))) else (0 : Int64)))), .second, .unset, .unset] [(.long (((0 : Int64) + (own_ch ((o_i2l pn_) - (own_ft u0)) (2 : Int32))) + (own_ch ((o_i2l pn_) - (own_ft u1)) (1 : Int32)))), (.long ((own_ch (o_i2l pn_) (2 : Int32)) - (1 : Int64)))]))
  refine own_via (fun _ k => XS.lsub X13.here hx rfl (hb hby d1_124) rfl k) ?_
  show own_Go p e below s _ _ _ (T13.setTop (mkF m 125 #[.val (.ref b_), .val (.int (2 : Int32)), .val (.int pn_), .val (.long (((0 : Int64) + (own_ch ((o_i2l pn_) - (own_ft u0)) (2 : Int32))) + (own_ch ((o_i2l pn_) - (own_ft u1)) (1 : Int32)))), .second, .val (.long (if u1 < (0 : Int32) then ((if u0 < (0 : Int32) then ((0 : Int64) + (o_lshl (1 : Int64) (1 : Int32))) else (0 : Int64)) + (o_lshl (1 : Int64) (0 : Int32))) else (if u0 < (0 : Int32) then ((0 : Int64) + (o_lshl (1 : Int64) (1 : Int32))) else (0 : Int64)))), .second, .unset, .unset] [(.long (((own_ch (o_i2l pn_) (2 : Int32)) - (1 : Int64)) - (((0 : Int64) + (own_ch ((o_i2l pn_) - (own_ft u0)) (2 : Int32))) + (own_ch ((o_i2l pn_) - (own_ft u1)) (1 : Int32)))))]))
  refine own_via (fun _ k => XS.lstore X13.here hx rfl (hb hby d1_125) rfl (l' := #[.val (.ref b_), .val (.int (2 : Int32)), .val (.int pn_), .val (.long (((0 : Int64) + (own_ch ((o_i2l pn_) - (own_ft u0)) (2 : Int32))) + (own_ch ((o_i2l pn_) - (own_ft u1)) (1 : Int32)))), .second, .val (.long (if u1 < (0 : Int32) then ((if u0 < (0 : Int32) then ((0 : Int64) + (o_lshl (1 : Int64) (1 : Int32))) else (0 : Int64)) + (o_lshl (1 : Int64) (0 : Int32))) else (if u0 < (0 : Int32) then ((0 : Int64) + (o_lshl (1 : Int64) (1 : Int32))) else (0 : Int64)))), .second, .val (.long (((own_ch (o_i2l pn_) (2 : Int32)) - (1 : Int64)) - (((0 : Int64) + (own_ch ((o_i2l pn_) - (own_ft u0)) (2 : Int32))) + (own_ch ((o_i2l pn_) - (own_ft u1)) (1 : Int32))))), .second]) rfl k) ?_
  show own_Go p e below s _ _ _ (T13.setTop (mkF m 127 #[.val (.ref b_), .val (.int (2 : Int32)), .val (.int pn_), .val (.long (((0 : Int64) + (own_ch ((o_i2l pn_) - (own_ft u0)) (2 : Int32))) + (own_ch ((o_i2l pn_) - (own_ft u1)) (1 : Int32)))), .second, .val (.long (if u1 < (0 : Int32) then ((if u0 < (0 : Int32) then ((0 : Int64) + (o_lshl (1 : Int64) (1 : Int32))) else (0 : Int64)) + (o_lshl (1 : Int64) (0 : Int32))) else (if u0 < (0 : Int32) then ((0 : Int64) + (o_lshl (1 : Int64) (1 : Int32))) else (0 : Int64)))), .second, .val (.long (((own_ch (o_i2l pn_) (2 : Int32)) - (1 : Int64)) - (((0 : Int64) + (own_ch ((o_i2l pn_) - (own_ft u0)) (2 : Int32))) + (own_ch ((o_i2l pn_) - (own_ft u1)) (1 : Int32))))), .second] []))
  refine own_via (fun _ k => XS.lload X13.here hx rfl (hb hby d1_127) rfl k) ?_
  show own_Go p e below s _ _ _ (T13.setTop (mkF m 129 #[.val (.ref b_), .val (.int (2 : Int32)), .val (.int pn_), .val (.long (((0 : Int64) + (own_ch ((o_i2l pn_) - (own_ft u0)) (2 : Int32))) + (own_ch ((o_i2l pn_) - (own_ft u1)) (1 : Int32)))), .second, .val (.long (if u1 < (0 : Int32) then ((if u0 < (0 : Int32) then ((0 : Int64) + (o_lshl (1 : Int64) (1 : Int32))) else (0 : Int64)) + (o_lshl (1 : Int64) (0 : Int32))) else (if u0 < (0 : Int32) then ((0 : Int64) + (o_lshl (1 : Int64) (1 : Int32))) else (0 : Int64)))), .second, .val (.long (((own_ch (o_i2l pn_) (2 : Int32)) - (1 : Int64)) - (((0 : Int64) + (own_ch ((o_i2l pn_) - (own_ft u0)) (2 : Int32))) + (own_ch ((o_i2l pn_) - (own_ft u1)) (1 : Int32))))), .second] [(.long (((own_ch (o_i2l pn_) (2 : Int32)) - (1 : Int64)) - (((0 : Int64) + (own_ch ((o_i2l pn_) - (own_ft u0)) (2 : Int32))) + (own_ch ((o_i2l pn_) - (own_ft u1)) (1 : Int32)))))]))
  refine own_via (fun _ k => XS.iloadN X13.here hx rfl (hb hby d1_129) rfl k) ?_
  show own_Go p e below s _ _ _ (T13.setTop (mkF m 130 #[.val (.ref b_), .val (.int (2 : Int32)), .val (.int pn_), .val (.long (((0 : Int64) + (own_ch ((o_i2l pn_) - (own_ft u0)) (2 : Int32))) + (own_ch ((o_i2l pn_) - (own_ft u1)) (1 : Int32)))), .second, .val (.long (if u1 < (0 : Int32) then ((if u0 < (0 : Int32) then ((0 : Int64) + (o_lshl (1 : Int64) (1 : Int32))) else (0 : Int64)) + (o_lshl (1 : Int64) (0 : Int32))) else (if u0 < (0 : Int32) then ((0 : Int64) + (o_lshl (1 : Int64) (1 : Int32))) else (0 : Int64)))), .second, .val (.long (((own_ch (o_i2l pn_) (2 : Int32)) - (1 : Int64)) - (((0 : Int64) + (own_ch ((o_i2l pn_) - (own_ft u0)) (2 : Int32))) + (own_ch ((o_i2l pn_) - (own_ft u1)) (1 : Int32))))), .second] [(.int (2 : Int32)), (.long (((own_ch (o_i2l pn_) (2 : Int32)) - (1 : Int64)) - (((0 : Int64) + (own_ch ((o_i2l pn_) - (own_ft u0)) (2 : Int32))) + (own_ch ((o_i2l pn_) - (own_ft u1)) (1 : Int32)))))]))
  refine own_via (fun _ k => XS.lshl X13.here hx rfl (hb hby d1_130) rfl k) ?_
  show own_Go p e below s _ _ _ (T13.setTop (mkF m 131 #[.val (.ref b_), .val (.int (2 : Int32)), .val (.int pn_), .val (.long (((0 : Int64) + (own_ch ((o_i2l pn_) - (own_ft u0)) (2 : Int32))) + (own_ch ((o_i2l pn_) - (own_ft u1)) (1 : Int32)))), .second, .val (.long (if u1 < (0 : Int32) then ((if u0 < (0 : Int32) then ((0 : Int64) + (o_lshl (1 : Int64) (1 : Int32))) else (0 : Int64)) + (o_lshl (1 : Int64) (0 : Int32))) else (if u0 < (0 : Int32) then ((0 : Int64) + (o_lshl (1 : Int64) (1 : Int32))) else (0 : Int64)))), .second, .val (.long (((own_ch (o_i2l pn_) (2 : Int32)) - (1 : Int64)) - (((0 : Int64) + (own_ch ((o_i2l pn_) - (own_ft u0)) (2 : Int32))) + (own_ch ((o_i2l pn_) - (own_ft u1)) (1 : Int32))))), .second] [(.long (o_lshl (((own_ch (o_i2l pn_) (2 : Int32)) - (1 : Int64)) - (((0 : Int64) + (own_ch ((o_i2l pn_) - (own_ft u0)) (2 : Int32))) + (own_ch ((o_i2l pn_) - (own_ft u1)) (1 : Int32)))) (2 : Int32)))]))
  refine own_via (fun _ k => XS.lload X13.here hx rfl (hb hby d1_131) rfl k) ?_
  show own_Go p e below s _ _ _ (T13.setTop (mkF m 133 #[.val (.ref b_), .val (.int (2 : Int32)), .val (.int pn_), .val (.long (((0 : Int64) + (own_ch ((o_i2l pn_) - (own_ft u0)) (2 : Int32))) + (own_ch ((o_i2l pn_) - (own_ft u1)) (1 : Int32)))), .second, .val (.long (if u1 < (0 : Int32) then ((if u0 < (0 : Int32) then ((0 : Int64) + (o_lshl (1 : Int64) (1 : Int32))) else (0 : Int64)) + (o_lshl (1 : Int64) (0 : Int32))) else (if u0 < (0 : Int32) then ((0 : Int64) + (o_lshl (1 : Int64) (1 : Int32))) else (0 : Int64)))), .second, .val (.long (((own_ch (o_i2l pn_) (2 : Int32)) - (1 : Int64)) - (((0 : Int64) + (own_ch ((o_i2l pn_) - (own_ft u0)) (2 : Int32))) + (own_ch ((o_i2l pn_) - (own_ft u1)) (1 : Int32))))), .second] [(.long (if u1 < (0 : Int32) then ((if u0 < (0 : Int32) then ((0 : Int64) + (o_lshl (1 : Int64) (1 : Int32))) else (0 : Int64)) + (o_lshl (1 : Int64) (0 : Int32))) else (if u0 < (0 : Int32) then ((0 : Int64) + (o_lshl (1 : Int64) (1 : Int32))) else (0 : Int64)))), (.long (o_lshl (((own_ch (o_i2l pn_) (2 : Int32)) - (1 : Int64)) - (((0 : Int64) + (own_ch ((o_i2l pn_) - (own_ft u0)) (2 : Int32))) + (own_ch ((o_i2l pn_) - (own_ft u1)) (1 : Int32)))) (2 : Int32)))]))
  refine own_via (fun _ k => XS.ladd X13.here hx rfl (hb hby d1_133) rfl k) ?_
  show own_Go p e below s _ _ _ (T13.setTop (mkF m 134 #[.val (.ref b_), .val (.int (2 : Int32)), .val (.int pn_), .val (.long (((0 : Int64) + (own_ch ((o_i2l pn_) - (own_ft u0)) (2 : Int32))) + (own_ch ((o_i2l pn_) - (own_ft u1)) (1 : Int32)))), .second, .val (.long (if u1 < (0 : Int32) then ((if u0 < (0 : Int32) then ((0 : Int64) + (o_lshl (1 : Int64) (1 : Int32))) else (0 : Int64)) + (o_lshl (1 : Int64) (0 : Int32))) else (if u0 < (0 : Int32) then ((0 : Int64) + (o_lshl (1 : Int64) (1 : Int32))) else (0 : Int64)))), .second, .val (.long (((own_ch (o_i2l pn_) (2 : Int32)) - (1 : Int64)) - (((0 : Int64) + (own_ch ((o_i2l pn_) - (own_ft u0)) (2 : Int32))) + (own_ch ((o_i2l pn_) - (own_ft u1)) (1 : Int32))))), .second] [(.long ((o_lshl (((own_ch (o_i2l pn_) (2 : Int32)) - (1 : Int64)) - (((0 : Int64) + (own_ch ((o_i2l pn_) - (own_ft u0)) (2 : Int32))) + (own_ch ((o_i2l pn_) - (own_ft u1)) (1 : Int32)))) (2 : Int32)) + (if u1 < (0 : Int32) then ((if u0 < (0 : Int32) then ((0 : Int64) + (o_lshl (1 : Int64) (1 : Int32))) else (0 : Int64)) + (o_lshl (1 : Int64) (0 : Int32))) else (if u0 < (0 : Int32) then ((0 : Int64) + (o_lshl (1 : Int64) (1 : Int32))) else (0 : Int64)))))]))
  exact own_goJ X13 hx Bd.returns (hb hby d1_134) Bd.notSynchronized (by decide) (by decide) (by rw [e13]; exact ⟨by rw [own_rk2] <;> rfl, N13, rfl⟩)
theorem d5_31 : decode method_5_code 31 = .ok (.iload_n 3, 1) := by decide +kernel
theorem d5_32 : decode method_5_code 32 = .ok (.ifCond .eq 33, 3) := by decide +kernel
theorem d5_65 : decode method_5_code 65 = .ok (.iconst 0, 1) := by decide +kernel
theorem d5_66 : decode method_5_code 66 = .ok (.istore_n 3, 1) := by decide +kernel
theorem d5_35 : decode method_5_code 35 = .ok (.aload_n 0, 1) := by decide +kernel
theorem d5_36 : decode method_5_code 36 = .ok (.iconst 1, 1) := by decide +kernel
theorem d5_37 : decode method_5_code 37 = .ok (.iaload, 1) := by decide +kernel
theorem d5_38 : decode method_5_code 38 = .ok (.iload_n 2, 1) := by decide +kernel
theorem d5_39 : decode method_5_code 39 = .ok (.invokestatic 32, 3) := by decide +kernel
theorem d5_42 : decode method_5_code 42 = .ok (.ifCond .eq 23, 3) := by decide +kernel
theorem d5_45 : decode method_5_code 45 = .ok (.aload_n 0, 1) := by decide +kernel
theorem d5_46 : decode method_5_code 46 = .ok (.iconst 0, 1) := by decide +kernel
theorem d5_47 : decode method_5_code 47 = .ok (.iaload, 1) := by decide +kernel
theorem d5_48 : decode method_5_code 48 = .ok (.invokestatic 28, 3) := by decide +kernel
theorem d5_51 : decode method_5_code 51 = .ok (.aload_n 0, 1) := by decide +kernel
theorem d5_52 : decode method_5_code 52 = .ok (.iconst 1, 1) := by decide +kernel
theorem d5_53 : decode method_5_code 53 = .ok (.iaload, 1) := by decide +kernel
theorem d5_54 : decode method_5_code 54 = .ok (.invokestatic 28, 3) := by decide +kernel
theorem d5_57 : decode method_5_code 57 = .ok (.lcmp, 1) := by decide +kernel
theorem d5_58 : decode method_5_code 58 = .ok (.ifCond .ge 7, 3) := by decide +kernel
theorem d5_61 : decode method_5_code 61 = .ok (.iconst 1, 1) := by decide +kernel
theorem d5_62 : decode method_5_code 62 = .ok (.goto 4, 3) := by decide +kernel
def own_va2 (u0 : Int32) (u1 : Int32) (pn_ : Int32) : Int32 := (if (own_ir u0 pn_) = (0 : Int32) then (0 : Int32) else (if (own_ir u1 pn_) = (0 : Int32) then (0 : Int32) else (if (own_ft u0) < (own_ft u1) then (1 : Int32) else (0 : Int32))))
theorem ef_v2 (m : MethodId) (x0 : Addr) (x1 : Int32) (x2 : Int32) : entryFrame m #[(.ref x0), (.int x1), (.int x2)] 4 = mkF m 0 #[.val (.ref x0), .val (.int x1), .val (.int x2), .unset] [] := by first | (simp [entryFrame, mkF, argsToLocals, Value.category]; done) | rfl
def Qv2 (Z : State) (b_ : Addr) (pt_ : Int32) (pn_ : Int32) (k_ : ClassId) (d_ : Value) (u0 : Int32) (u1 : Int32) (h0 : Heap) (n0 : Nat) (v : Option Value) (h : Heap) (L : List Loc) : Prop := v = some (.int (own_va2 u0 u1 pn_)) ∧ Fr n0 L ∧ h = h0
set_option maxRecDepth 65536 in
set_option maxHeartbeats 40000000 in
theorem rmv2 (l : Launch) (Z : State) (a0 : Array Value) (hw : ∀ d ∈ tables_1, d.before a0 Z = true) (ws : List Jvm.Cond) (b_ : Addr) (pt_ : Int32) (pn_ : Int32) (k_ : ClassId) (d_ : Value) (u0 : Int32) (u1 : Int32) (h0 : Heap) (n0 : Nat) (Z0 : n0 ≤ h0.size) (V_b_ : Arv Z h0 b_ k_ .int (2 : Int32) [(.int u0), (.int u1)] d_) (hp1 : pt_ = (2 : Int32)) :
    MetFree l (⟨"com/example/unalike/unalike/engine/TSetsNextPinLaw", "valid", "([III)Z"⟩ : MethodName) (head1 (Jvm.Cond.code (⟨"com/example/unalike/unalike/engine/TSetsNextPinLaw", "valid", "([III)Z"⟩ : MethodName) method_5_code 4 (some .boolean) :: ws) ({ frames := 2, cells := 0, slots := 0, locals := 27 } : Room)) (fun q_ U => q_ = #[(.ref b_), (.int pt_), (.int pn_)] ∧ Z.Warmed39 U.vm ∧ U.heap = h0) (fun _ _ _ _ _ => True) (fun _ U o U' => ∃ v L, o = .returned v ∧ Qv2 Z b_ pt_ pn_ k_ d_ u0 u1 h0 n0 v U'.heap L ∧ FrameEnd U o U' L ({ frames := 2, cells := 0, slots := 0, locals := 27 } : Room).cells ({ frames := 2, cells := 0, slots := 0, locals := 27 } : Room).slots) := by
  refine MetFree.of_bodySF (plainFor_of_name pn_0) hisR ?_
  intro p e s m args below meth c s₁ Bd hml0 hP hK
  obtain ⟨rfl, hZ, hh⟩ := hP
  have hx := Bd.exec
  have hby := Bd.bytes
  have hml : c.maxLocals = 4 := hml0
  have hown : s.vm.findClass "com/example/unalike/unalike/engine/TSetsNextPinLaw" = some m.cls := findClass_of_methodNamed Bd.named
  have hnm := (name_of_methodNamed Bd.named Bd.method).1
  have X0 : Stand p l e ({ frames := 2, cells := 0, slots := 0, locals := 27 } : Room) s m #[(.ref b_), (.int pt_), (.int pn_)] below meth c s₁ [] 0 0 := Stand.of_body Bd
  have e0 : s₁.heap = h0 := by rw [← hh, Bd.state]; rfl
  have N0 := Fr.nil n0
  show own_Go p e below s (Qv2 Z b_ pt_ pn_ k_ d_ u0 u1 h0 n0) ({ frames := 2, cells := 0, slots := 0, locals := 27 } : Room).cells ({ frames := 2, cells := 0, slots := 0, locals := 27 } : Room).slots (s₁.setTop (entryFrame m #[(.ref b_), (.int pt_), (.int pn_)] 4))
  refine own_via (fun t k => castTop (ef_v2 m b_ pt_ pn_) k) ?_
  show own_Go p e below s _ _ _ (s₁.setTop (mkF m 0 #[.val (.ref b_), .val (.int pt_), .val (.int pn_), .unset] []))
  subst hp1
  show own_Go p e below s _ _ _ (s₁.setTop (mkF m 0 #[.val (.ref b_), .val (.int (2 : Int32)), .val (.int pn_), .unset] []))
  refine own_via (fun _ k => XS.iconst X0.here hx rfl (hb hby d5_0) k) ?_
  show own_Go p e below s _ _ _ (s₁.setTop (mkF m 1 #[.val (.ref b_), .val (.int (2 : Int32)), .val (.int pn_), .unset] [(.int (1 : Int32))]))
  refine own_via (fun _ k => XS.istoreN X0.here hx rfl (hb hby d5_1) rfl (l' := #[.val (.ref b_), .val (.int (2 : Int32)), .val (.int pn_), .val (.int (1 : Int32))]) rfl k) ?_
  show own_Go p e below s _ _ _ (s₁.setTop (mkF m 2 #[.val (.ref b_), .val (.int (2 : Int32)), .val (.int pn_), .val (.int (1 : Int32))] []))
  refine own_via (fun _ k => XS.iloadN X0.here hx rfl (hb hby d5_2) rfl k) ?_
  show own_Go p e below s _ _ _ (s₁.setTop (mkF m 3 #[.val (.ref b_), .val (.int (2 : Int32)), .val (.int pn_), .val (.int (1 : Int32))] [(.int (2 : Int32))]))
  refine own_via (fun _ k => XS.ifNo X0.here hx rfl (hb hby d5_3) rfl (Jvm.Free.XT.i0_le_f (by decide)) k) ?_
  show own_Go p e below s _ _ _ (s₁.setTop (mkF m 6 #[.val (.ref b_), .val (.int (2 : Int32)), .val (.int pn_), .val (.int (1 : Int32))] []))
  refine own_via (fun _ k => XS.iloadN X0.here hx rfl (hb hby d5_6) rfl k) ?_
  show own_Go p e below s _ _ _ (s₁.setTop (mkF m 7 #[.val (.ref b_), .val (.int (2 : Int32)), .val (.int pn_), .val (.int (1 : Int32))] [(.int (1 : Int32))]))
  refine own_via (fun _ k => XS.ifNo X0.here hx rfl (hb hby d5_7) rfl (Jvm.Free.XT.i0_eq_f (by decide)) k) ?_
  show own_Go p e below s _ _ _ (s₁.setTop (mkF m 10 #[.val (.ref b_), .val (.int (2 : Int32)), .val (.int pn_), .val (.int (1 : Int32))] []))
  refine own_via (fun _ k => XS.aloadN X0.here hx rfl (hb hby d5_10) rfl rfl k) ?_
  show own_Go p e below s _ _ _ (s₁.setTop (mkF m 11 #[.val (.ref b_), .val (.int (2 : Int32)), .val (.int pn_), .val (.int (1 : Int32))] [(.ref b_)]))
  refine own_via (fun _ k => XS.iconst X0.here hx rfl (hb hby d5_11) k) ?_
  show own_Go p e below s _ _ _ (s₁.setTop (mkF m 12 #[.val (.ref b_), .val (.int (2 : Int32)), .val (.int pn_), .val (.int (1 : Int32))] [(.int (0 : Int32)), (.ref b_)]))
  obtain ⟨cl1, Ar1, q1, S1, M1, H1, G1⟩ := (id V_b_)
  have hin1 : ¬ ((0 : Int32) < 0 ∨ cl1.slots.size ≤ ((0 : Int32)).toNatClampNeg) := inb_of S1 ⟨by decide, by decide⟩
  have hat1 : cl1.slots[((0 : Int32)).toNatClampNeg]? = some (.int u0) := Has.at H1 hin1 rfl
  refine own_via (fun _ k => X0.iaload hx (j := (0 : Int32)) (v := (.int u0)) (by rw [e0]; exact Ar1.1) (State.isArrayOf_alike hZ.alike Ar1.2.1) Ar1.2.2 hin1 hat1 (g := (mkF m 12 #[.val (.ref b_), .val (.int (2 : Int32)), .val (.int pn_), .val (.int (1 : Int32))] [(.int (0 : Int32)), (.ref b_)])) rfl rfl (hb hby d5_12) _ k) ?_
  show own_Go p e below s _ _ _ (s₁.setTop (mkF m 13 #[.val (.ref b_), .val (.int (2 : Int32)), .val (.int pn_), .val (.int (1 : Int32))] [(.int u0)]))
  refine own_via (fun _ k => XS.iloadN X0.here hx rfl (hb hby d5_13) rfl k) ?_
  show own_Go p e below s _ _ _ (s₁.setTop (mkF m 14 #[.val (.ref b_), .val (.int (2 : Int32)), .val (.int pn_), .val (.int (1 : Int32))] [(.int pn_), (.int u0)]))
  obtain ⟨_, _, ⟨T2, L2, k2, n2⟩, -, X2, ⟨Lc2, hQ2, l2, y2, z2⟩, st2⟩ := Jvm.LawKit.callS X0 hx (y := (⟨"com/example/unalike/unalike/engine/TSetsNextPinLaw", "inRange", "(II)Z"⟩ : MethodName)) hown (mvT hZ (hw _ (List.mem_of_getElem? (i := 21) rfl))) (mvT hZ (hw _ (List.mem_of_getElem? (i := 22) rfl))) (mvT hZ (hw _ (List.mem_of_getElem? (i := 4) rfl))) (mvT hZ (hw _ (List.mem_of_getElem? (i := 23) rfl))) (by decide) (backOf (W := 0) (rm6 l Z a0 hw [] u0 pn_ h0 n0 Z0 ) hZ (hw _ (List.mem_of_getElem? (i := 23) rfl)) (hw _ (List.mem_of_getElem? (i := 4) rfl)) (by decide) (by decide)) (g := (mkF m 14 #[.val (.ref b_), .val (.int (2 : Int32)), .val (.int pn_), .val (.int (1 : Int32))] [(.int pn_), (.int u0)])) rfl (by rw [hml]; rfl) (argsL := [(.int u0), (.int pn_)]) (rest := []) (lenOf pd_2 rfl) rfl (by show 2 * 0 + _ ≤ _; exact Nat.le_of_eq rfl) (hb hby d5_14) (fun _ _ => ⟨rfl, e0, (by decide : 0 + 0 ≤ _), (by decide : 0 + 0 ≤ _)⟩)
  dsimp only [Pt.U, Pt.locs, Pt.cells, Pt.slots] at X2 l2 y2 z2 st2 hQ2
  subst l2 y2 z2
  obtain ⟨rfl, N2q, e2⟩ := hQ2
  have N2 := Fr.app N0 N2q
  refine own_via st2 ?_
  show own_Go p e below s _ _ _ (T2.setTop (mkF m 17 #[.val (.ref b_), .val (.int (2 : Int32)), .val (.int pn_), .val (.int (1 : Int32))] [(.int (own_ir u0 pn_))]))
  by_cases hc3 : (own_ir u0 pn_) = (0 : Int32)
  · refine own_via (fun _ k => XS.ifYes X2.here hx rfl (pc0 := 17) (pc' := 24) rfl (hb hby d5_17) rfl (Jvm.Free.XT.i0_eq_t hc3) (by decide) (by decide) k) ?_
    show own_Go p e below s _ _ _ (T2.setTop (mkF m 24 #[.val (.ref b_), .val (.int (2 : Int32)), .val (.int pn_), .val (.int (1 : Int32))] []))
    refine own_via (fun _ k => XS.iconst X2.here hx rfl (hb hby d5_24) k) ?_
    show own_Go p e below s _ _ _ (T2.setTop (mkF m 25 #[.val (.ref b_), .val (.int (2 : Int32)), .val (.int pn_), .val (.int (1 : Int32))] [(.int (0 : Int32))]))
    refine own_via (fun _ k => XS.istoreN X2.here hx rfl (hb hby d5_25) rfl (l' := #[.val (.ref b_), .val (.int (2 : Int32)), .val (.int pn_), .val (.int (0 : Int32))]) rfl k) ?_
    show own_Go p e below s _ _ _ (T2.setTop (mkF m 26 #[.val (.ref b_), .val (.int (2 : Int32)), .val (.int pn_), .val (.int (0 : Int32))] []))
    refine own_via (fun _ k => XS.iloadN X2.here hx rfl (hb hby d5_26) rfl k) ?_
    show own_Go p e below s _ _ _ (T2.setTop (mkF m 27 #[.val (.ref b_), .val (.int (2 : Int32)), .val (.int pn_), .val (.int (0 : Int32))] [(.int (2 : Int32))]))
    refine own_via (fun _ k => XS.iconst X2.here hx rfl (hb hby d5_27) k) ?_
    show own_Go p e below s _ _ _ (T2.setTop (mkF m 28 #[.val (.ref b_), .val (.int (2 : Int32)), .val (.int pn_), .val (.int (0 : Int32))] [(.int (1 : Int32)), (.int (2 : Int32))]))
    refine own_via (fun _ k => XS.icmpNo X2.here hx rfl (hb hby d5_28) rfl (Jvm.Free.XT.ii_le_f (by decide)) k) ?_
    show own_Go p e below s _ _ _ (T2.setTop (mkF m 31 #[.val (.ref b_), .val (.int (2 : Int32)), .val (.int pn_), .val (.int (0 : Int32))] []))
    refine own_via (fun _ k => XS.iloadN X2.here hx rfl (hb hby d5_31) rfl k) ?_
    show own_Go p e below s _ _ _ (T2.setTop (mkF m 32 #[.val (.ref b_), .val (.int (2 : Int32)), .val (.int pn_), .val (.int (0 : Int32))] [(.int (0 : Int32))]))
    refine own_via (fun _ k => XS.ifYes X2.here hx rfl (pc0 := 32) (pc' := 65) rfl (hb hby d5_32) rfl (Jvm.Free.XT.i0_eq_t (by decide)) (by decide) (by decide) k) ?_
    show own_Go p e below s _ _ _ (T2.setTop (mkF m 65 #[.val (.ref b_), .val (.int (2 : Int32)), .val (.int pn_), .val (.int (0 : Int32))] []))
    refine own_via (fun _ k => XS.iconst X2.here hx rfl (hb hby d5_65) k) ?_
    show own_Go p e below s _ _ _ (T2.setTop (mkF m 66 #[.val (.ref b_), .val (.int (2 : Int32)), .val (.int pn_), .val (.int (0 : Int32))] [(.int (0 : Int32))]))
    refine own_via (fun _ k => XS.istoreN X2.here hx rfl (hb hby d5_66) rfl (l' := #[.val (.ref b_), .val (.int (2 : Int32)), .val (.int pn_), .val (.int (0 : Int32))]) rfl k) ?_
    show own_Go p e below s _ _ _ (T2.setTop (mkF m 67 #[.val (.ref b_), .val (.int (2 : Int32)), .val (.int pn_), .val (.int (0 : Int32))] []))
    refine own_via (fun _ k => XS.iloadN X2.here hx rfl (hb hby d5_67) rfl k) ?_
    show own_Go p e below s _ _ _ (T2.setTop (mkF m 68 #[.val (.ref b_), .val (.int (2 : Int32)), .val (.int pn_), .val (.int (0 : Int32))] [(.int (2 : Int32))]))
    refine own_via (fun _ k => XS.iconst X2.here hx rfl (hb hby d5_68) k) ?_
    show own_Go p e below s _ _ _ (T2.setTop (mkF m 69 #[.val (.ref b_), .val (.int (2 : Int32)), .val (.int pn_), .val (.int (0 : Int32))] [(.int (2 : Int32)), (.int (2 : Int32))]))
    refine own_via (fun _ k => XS.icmpYes X2.here hx rfl (pc0 := 69) (pc' := 108) rfl (hb hby d5_69) rfl (Jvm.Free.XT.ii_le_t (by decide)) (by decide) (by decide) k) ?_
    show own_Go p e below s _ _ _ (T2.setTop (mkF m 108 #[.val (.ref b_), .val (.int (2 : Int32)), .val (.int pn_), .val (.int (0 : Int32))] []))
    refine own_via (fun _ k => XS.iloadN X2.here hx rfl (hb hby d5_108) rfl k) ?_
    show own_Go p e below s _ _ _ (T2.setTop (mkF m 109 #[.val (.ref b_), .val (.int (2 : Int32)), .val (.int pn_), .val (.int (0 : Int32))] [(.int (0 : Int32))]))
    exact own_goN X2 hx (t := .boolean) Bd.returns (by simp) (hb hby d5_109) Bd.notSynchronized (by decide) (by decide) (by rw [e2]; exact ⟨by rw [own_va2, if_pos hc3] <;> rfl, N2, rfl⟩)
  · refine own_via (fun _ k => XS.ifNo X2.here hx rfl (hb hby d5_17) rfl (Jvm.Free.XT.i0_eq_f hc3) k) ?_
    show own_Go p e below s _ _ _ (T2.setTop (mkF m 20 #[.val (.ref b_), .val (.int (2 : Int32)), .val (.int pn_), .val (.int (1 : Int32))] []))
    refine own_via (fun _ k => XS.iconst X2.here hx rfl (hb hby d5_20) k) ?_
    show own_Go p e below s _ _ _ (T2.setTop (mkF m 21 #[.val (.ref b_), .val (.int (2 : Int32)), .val (.int pn_), .val (.int (1 : Int32))] [(.int (1 : Int32))]))
    refine own_via (fun _ k => XS.goto X2.here hx rfl (pc0 := 21) (pc' := 25) rfl (hb hby d5_21) (by decide) (by decide) k) ?_
    show own_Go p e below s _ _ _ (T2.setTop (mkF m 25 #[.val (.ref b_), .val (.int (2 : Int32)), .val (.int pn_), .val (.int (1 : Int32))] [(.int (1 : Int32))]))
    refine own_via (fun _ k => XS.istoreN X2.here hx rfl (hb hby d5_25) rfl (l' := #[.val (.ref b_), .val (.int (2 : Int32)), .val (.int pn_), .val (.int (1 : Int32))]) rfl k) ?_
    show own_Go p e below s _ _ _ (T2.setTop (mkF m 26 #[.val (.ref b_), .val (.int (2 : Int32)), .val (.int pn_), .val (.int (1 : Int32))] []))
    refine own_via (fun _ k => XS.iloadN X2.here hx rfl (hb hby d5_26) rfl k) ?_
    show own_Go p e below s _ _ _ (T2.setTop (mkF m 27 #[.val (.ref b_), .val (.int (2 : Int32)), .val (.int pn_), .val (.int (1 : Int32))] [(.int (2 : Int32))]))
    refine own_via (fun _ k => XS.iconst X2.here hx rfl (hb hby d5_27) k) ?_
    show own_Go p e below s _ _ _ (T2.setTop (mkF m 28 #[.val (.ref b_), .val (.int (2 : Int32)), .val (.int pn_), .val (.int (1 : Int32))] [(.int (1 : Int32)), (.int (2 : Int32))]))
    refine own_via (fun _ k => XS.icmpNo X2.here hx rfl (hb hby d5_28) rfl (Jvm.Free.XT.ii_le_f (by decide)) k) ?_
    show own_Go p e below s _ _ _ (T2.setTop (mkF m 31 #[.val (.ref b_), .val (.int (2 : Int32)), .val (.int pn_), .val (.int (1 : Int32))] []))
    refine own_via (fun _ k => XS.iloadN X2.here hx rfl (hb hby d5_31) rfl k) ?_
    show own_Go p e below s _ _ _ (T2.setTop (mkF m 32 #[.val (.ref b_), .val (.int (2 : Int32)), .val (.int pn_), .val (.int (1 : Int32))] [(.int (1 : Int32))]))
    refine own_via (fun _ k => XS.ifNo X2.here hx rfl (hb hby d5_32) rfl (Jvm.Free.XT.i0_eq_f (by decide)) k) ?_
    show own_Go p e below s _ _ _ (T2.setTop (mkF m 35 #[.val (.ref b_), .val (.int (2 : Int32)), .val (.int pn_), .val (.int (1 : Int32))] []))
    refine own_via (fun _ k => XS.aloadN X2.here hx rfl (hb hby d5_35) rfl rfl k) ?_
    show own_Go p e below s _ _ _ (T2.setTop (mkF m 36 #[.val (.ref b_), .val (.int (2 : Int32)), .val (.int pn_), .val (.int (1 : Int32))] [(.ref b_)]))
    refine own_via (fun _ k => XS.iconst X2.here hx rfl (hb hby d5_36) k) ?_
    show own_Go p e below s _ _ _ (T2.setTop (mkF m 37 #[.val (.ref b_), .val (.int (2 : Int32)), .val (.int pn_), .val (.int (1 : Int32))] [(.int (1 : Int32)), (.ref b_)]))
    obtain ⟨cl4, Ar4, q4, S4, M4, H4, G4⟩ := (id V_b_)
    have hin4 : ¬ ((1 : Int32) < 0 ∨ cl4.slots.size ≤ ((1 : Int32)).toNatClampNeg) := inb_of S4 ⟨by decide, by decide⟩
    have hat4 : cl4.slots[((1 : Int32)).toNatClampNeg]? = some (.int u1) := Has.at H4 hin4 rfl
    refine own_via (fun _ k => X2.iaload hx (j := (1 : Int32)) (v := (.int u1)) (by rw [e2]; exact Ar4.1) (State.isArrayOf_alike hZ.alike Ar4.2.1) Ar4.2.2 hin4 hat4 (g := (mkF m 37 #[.val (.ref b_), .val (.int (2 : Int32)), .val (.int pn_), .val (.int (1 : Int32))] [(.int (1 : Int32)), (.ref b_)])) rfl rfl (hb hby d5_37) _ k) ?_
    show own_Go p e below s _ _ _ (T2.setTop (mkF m 38 #[.val (.ref b_), .val (.int (2 : Int32)), .val (.int pn_), .val (.int (1 : Int32))] [(.int u1)]))
    refine own_via (fun _ k => XS.iloadN X2.here hx rfl (hb hby d5_38) rfl k) ?_
    show own_Go p e below s _ _ _ (T2.setTop (mkF m 39 #[.val (.ref b_), .val (.int (2 : Int32)), .val (.int pn_), .val (.int (1 : Int32))] [(.int pn_), (.int u1)]))
    obtain ⟨_, _, ⟨T5, L5, k5, n5⟩, -, X5, ⟨Lc5, hQ5, l5, y5, z5⟩, st5⟩ := Jvm.LawKit.callS X2 hx (y := (⟨"com/example/unalike/unalike/engine/TSetsNextPinLaw", "inRange", "(II)Z"⟩ : MethodName)) hown (mvT hZ (hw _ (List.mem_of_getElem? (i := 21) rfl))) (mvT hZ (hw _ (List.mem_of_getElem? (i := 22) rfl))) (mvT hZ (hw _ (List.mem_of_getElem? (i := 4) rfl))) (mvT hZ (hw _ (List.mem_of_getElem? (i := 23) rfl))) (by decide) (backOf (W := 0) (rm6 l Z a0 hw [] u1 pn_ h0 n0 Z0 ) hZ (hw _ (List.mem_of_getElem? (i := 23) rfl)) (hw _ (List.mem_of_getElem? (i := 4) rfl)) (by decide) (by decide)) (g := (mkF m 39 #[.val (.ref b_), .val (.int (2 : Int32)), .val (.int pn_), .val (.int (1 : Int32))] [(.int pn_), (.int u1)])) rfl (by rw [hml]; rfl) (argsL := [(.int u1), (.int pn_)]) (rest := []) (lenOf pd_2 rfl) rfl (by show 2 * 0 + _ ≤ _; exact Nat.le_of_eq rfl) (hb hby d5_39) (fun _ _ => ⟨rfl, e2, (by decide : 0 + 0 ≤ _), (by decide : 0 + 0 ≤ _)⟩)
    dsimp only [Pt.U, Pt.locs, Pt.cells, Pt.slots] at X5 l5 y5 z5 st5 hQ5
    subst l5 y5 z5
    obtain ⟨rfl, N5q, e5⟩ := hQ5
    have N5 := Fr.app N2 N5q
    refine own_via st5 ?_
    show own_Go p e below s _ _ _ (T5.setTop (mkF m 42 #[.val (.ref b_), .val (.int (2 : Int32)), .val (.int pn_), .val (.int (1 : Int32))] [(.int (own_ir u1 pn_))]))
    by_cases hc6 : (own_ir u1 pn_) = (0 : Int32)
    · refine own_via (fun _ k => XS.ifYes X5.here hx rfl (pc0 := 42) (pc' := 65) rfl (hb hby d5_42) rfl (Jvm.Free.XT.i0_eq_t hc6) (by decide) (by decide) k) ?_
      show own_Go p e below s _ _ _ (T5.setTop (mkF m 65 #[.val (.ref b_), .val (.int (2 : Int32)), .val (.int pn_), .val (.int (1 : Int32))] []))
      refine own_via (fun _ k => XS.iconst X5.here hx rfl (hb hby d5_65) k) ?_
      show own_Go p e below s _ _ _ (T5.setTop (mkF m 66 #[.val (.ref b_), .val (.int (2 : Int32)), .val (.int pn_), .val (.int (1 : Int32))] [(.int (0 : Int32))]))
      refine own_via (fun _ k => XS.istoreN X5.here hx rfl (hb hby d5_66) rfl (l' := #[.val (.ref b_), .val (.int (2 : Int32)), .val (.int pn_), .val (.int (0 : Int32))]) rfl k) ?_
      show own_Go p e below s _ _ _ (T5.setTop (mkF m 67 #[.val (.ref b_), .val (.int (2 : Int32)), .val (.int pn_), .val (.int (0 : Int32))] []))
      refine own_via (fun _ k => XS.iloadN X5.here hx rfl (hb hby d5_67) rfl k) ?_
      show own_Go p e below s _ _ _ (T5.setTop (mkF m 68 #[.val (.ref b_), .val (.int (2 : Int32)), .val (.int pn_), .val (.int (0 : Int32))] [(.int (2 : Int32))]))
      refine own_via (fun _ k => XS.iconst X5.here hx rfl (hb hby d5_68) k) ?_
      show own_Go p e below s _ _ _ (T5.setTop (mkF m 69 #[.val (.ref b_), .val (.int (2 : Int32)), .val (.int pn_), .val (.int (0 : Int32))] [(.int (2 : Int32)), (.int (2 : Int32))]))
      refine own_via (fun _ k => XS.icmpYes X5.here hx rfl (pc0 := 69) (pc' := 108) rfl (hb hby d5_69) rfl (Jvm.Free.XT.ii_le_t (by decide)) (by decide) (by decide) k) ?_
      show own_Go p e below s _ _ _ (T5.setTop (mkF m 108 #[.val (.ref b_), .val (.int (2 : Int32)), .val (.int pn_), .val (.int (0 : Int32))] []))
      refine own_via (fun _ k => XS.iloadN X5.here hx rfl (hb hby d5_108) rfl k) ?_
      show own_Go p e below s _ _ _ (T5.setTop (mkF m 109 #[.val (.ref b_), .val (.int (2 : Int32)), .val (.int pn_), .val (.int (0 : Int32))] [(.int (0 : Int32))]))
      exact own_goN X5 hx (t := .boolean) Bd.returns (by simp) (hb hby d5_109) Bd.notSynchronized (by decide) (by decide) (by rw [e5]; exact ⟨by rw [own_va2, if_neg hc3, if_pos hc6] <;> rfl, N5, rfl⟩)
    · refine own_via (fun _ k => XS.ifNo X5.here hx rfl (hb hby d5_42) rfl (Jvm.Free.XT.i0_eq_f hc6) k) ?_
      show own_Go p e below s _ _ _ (T5.setTop (mkF m 45 #[.val (.ref b_), .val (.int (2 : Int32)), .val (.int pn_), .val (.int (1 : Int32))] []))
      refine own_via (fun _ k => XS.aloadN X5.here hx rfl (hb hby d5_45) rfl rfl k) ?_
      show own_Go p e below s _ _ _ (T5.setTop (mkF m 46 #[.val (.ref b_), .val (.int (2 : Int32)), .val (.int pn_), .val (.int (1 : Int32))] [(.ref b_)]))
      refine own_via (fun _ k => XS.iconst X5.here hx rfl (hb hby d5_46) k) ?_
      show own_Go p e below s _ _ _ (T5.setTop (mkF m 47 #[.val (.ref b_), .val (.int (2 : Int32)), .val (.int pn_), .val (.int (1 : Int32))] [(.int (0 : Int32)), (.ref b_)]))
      obtain ⟨cl7, Ar7, q7, S7, M7, H7, G7⟩ := (id V_b_)
      have hin7 : ¬ ((0 : Int32) < 0 ∨ cl7.slots.size ≤ ((0 : Int32)).toNatClampNeg) := inb_of S7 ⟨by decide, by decide⟩
      have hat7 : cl7.slots[((0 : Int32)).toNatClampNeg]? = some (.int u0) := Has.at H7 hin7 rfl
      refine own_via (fun _ k => X5.iaload hx (j := (0 : Int32)) (v := (.int u0)) (by rw [e5]; exact Ar7.1) (State.isArrayOf_alike hZ.alike Ar7.2.1) Ar7.2.2 hin7 hat7 (g := (mkF m 47 #[.val (.ref b_), .val (.int (2 : Int32)), .val (.int pn_), .val (.int (1 : Int32))] [(.int (0 : Int32)), (.ref b_)])) rfl rfl (hb hby d5_47) _ k) ?_
      show own_Go p e below s _ _ _ (T5.setTop (mkF m 48 #[.val (.ref b_), .val (.int (2 : Int32)), .val (.int pn_), .val (.int (1 : Int32))] [(.int u0)]))
      obtain ⟨_, _, ⟨T8, L8, k8, n8⟩, -, X8, ⟨Lc8, hQ8, l8, y8, z8⟩, st8⟩ := Jvm.LawKit.callS X5 hx (y := (⟨"com/example/unalike/unalike/engine/TSetsNextPinLaw", "feat", "(I)J"⟩ : MethodName)) hown (mvT hZ (hw _ (List.mem_of_getElem? (i := 13) rfl))) (mvT hZ (hw _ (List.mem_of_getElem? (i := 14) rfl))) (mvT hZ (hw _ (List.mem_of_getElem? (i := 4) rfl))) (mvT hZ (hw _ (List.mem_of_getElem? (i := 15) rfl))) (by decide) (backOf (W := 0) (rm4 l Z a0 hw [] u0 h0 n0 Z0 ) hZ (hw _ (List.mem_of_getElem? (i := 15) rfl)) (hw _ (List.mem_of_getElem? (i := 4) rfl)) (by decide) (by decide)) (g := (mkF m 48 #[.val (.ref b_), .val (.int (2 : Int32)), .val (.int pn_), .val (.int (1 : Int32))] [(.int u0)])) rfl (by rw [hml]; rfl) (argsL := [(.int u0)]) (rest := []) (lenOf pd_0 rfl) rfl (by show 2 * 0 + _ ≤ _; exact Nat.le_of_eq rfl) (hb hby d5_48) (fun _ _ => ⟨rfl, e5, (by decide : 0 + 0 ≤ _), (by decide : 0 + 0 ≤ _)⟩)
      dsimp only [Pt.U, Pt.locs, Pt.cells, Pt.slots] at X8 l8 y8 z8 st8 hQ8
      subst l8 y8 z8
      obtain ⟨rfl, N8q, e8⟩ := hQ8
      have N8 := Fr.app N5 N8q
      refine own_via st8 ?_
      show own_Go p e below s _ _ _ (T8.setTop (mkF m 51 #[.val (.ref b_), .val (.int (2 : Int32)), .val (.int pn_), .val (.int (1 : Int32))] [(.long (own_ft u0))]))
      refine own_via (fun _ k => XS.aloadN X8.here hx rfl (hb hby d5_51) rfl rfl k) ?_
      show own_Go p e below s _ _ _ (T8.setTop (mkF m 52 #[.val (.ref b_), .val (.int (2 : Int32)), .val (.int pn_), .val (.int (1 : Int32))] [(.ref b_), (.long (own_ft u0))]))
      refine own_via (fun _ k => XS.iconst X8.here hx rfl (hb hby d5_52) k) ?_
      show own_Go p e below s _ _ _ (T8.setTop (mkF m 53 #[.val (.ref b_), .val (.int (2 : Int32)), .val (.int pn_), .val (.int (1 : Int32))] [(.int (1 : Int32)), (.ref b_), (.long (own_ft u0))]))
      obtain ⟨cl9, Ar9, q9, S9, M9, H9, G9⟩ := (id V_b_)
      have hin9 : ¬ ((1 : Int32) < 0 ∨ cl9.slots.size ≤ ((1 : Int32)).toNatClampNeg) := inb_of S9 ⟨by decide, by decide⟩
      have hat9 : cl9.slots[((1 : Int32)).toNatClampNeg]? = some (.int u1) := Has.at H9 hin9 rfl
      refine own_via (fun _ k => X8.iaload hx (j := (1 : Int32)) (v := (.int u1)) (by rw [e8]; exact Ar9.1) (State.isArrayOf_alike hZ.alike Ar9.2.1) Ar9.2.2 hin9 hat9 (g := (mkF m 53 #[.val (.ref b_), .val (.int (2 : Int32)), .val (.int pn_), .val (.int (1 : Int32))] [(.int (1 : Int32)), (.ref b_), (.long (own_ft u0))])) rfl rfl (hb hby d5_53) _ k) ?_
      show own_Go p e below s _ _ _ (T8.setTop (mkF m 54 #[.val (.ref b_), .val (.int (2 : Int32)), .val (.int pn_), .val (.int (1 : Int32))] [(.int u1), (.long (own_ft u0))]))
      obtain ⟨_, _, ⟨T10, L10, k10, n10⟩, -, X10, ⟨Lc10, hQ10, l10, y10, z10⟩, st10⟩ := Jvm.LawKit.callS X8 hx (y := (⟨"com/example/unalike/unalike/engine/TSetsNextPinLaw", "feat", "(I)J"⟩ : MethodName)) hown (mvT hZ (hw _ (List.mem_of_getElem? (i := 13) rfl))) (mvT hZ (hw _ (List.mem_of_getElem? (i := 14) rfl))) (mvT hZ (hw _ (List.mem_of_getElem? (i := 4) rfl))) (mvT hZ (hw _ (List.mem_of_getElem? (i := 15) rfl))) (by decide) (backOf (W := 2) (rm4 l Z a0 hw [] u1 h0 n0 Z0 ) hZ (hw _ (List.mem_of_getElem? (i := 15) rfl)) (hw _ (List.mem_of_getElem? (i := 4) rfl)) (by decide) (by decide)) (g := (mkF m 54 #[.val (.ref b_), .val (.int (2 : Int32)), .val (.int pn_), .val (.int (1 : Int32))] [(.int u1), (.long (own_ft u0))])) rfl (by rw [hml]; rfl) (argsL := [(.int u1)]) (rest := [(.long (own_ft u0))]) (lenOf pd_0 rfl) rfl (by show 2 * 0 + _ ≤ _; exact Nat.le_of_eq rfl) (hb hby d5_54) (fun _ _ => ⟨rfl, e8, (by decide : 0 + 0 ≤ _), (by decide : 0 + 0 ≤ _)⟩)
      dsimp only [Pt.U, Pt.locs, Pt.cells, Pt.slots] at X10 l10 y10 z10 st10 hQ10
      subst l10 y10 z10
      obtain ⟨rfl, N10q, e10⟩ := hQ10
      have N10 := Fr.app N8 N10q
      refine own_via st10 ?_
      show own_Go p e below s _ _ _ (T10.setTop (mkF m 57 #[.val (.ref b_), .val (.int (2 : Int32)), .val (.int pn_), .val (.int (1 : Int32))] [(.long (own_ft u1)), (.long (own_ft u0))]))
      refine own_via (fun _ k => XS.lcmp X10.here hx rfl (hb hby d5_57) rfl k) ?_
      show own_Go p e below s _ _ _ (T10.setTop (mkF m 58 #[.val (.ref b_), .val (.int (2 : Int32)), .val (.int pn_), .val (.int (1 : Int32))] [(.int (lcmpW (own_ft u0) (own_ft u1)))]))
      by_cases hc11 : (own_ft u0) < (own_ft u1)
      · refine own_via (fun _ k => XS.ifNo X10.here hx rfl (hb hby d5_58) rfl (Jvm.Free.XT.ll_ge_f hc11) k) ?_
        show own_Go p e below s _ _ _ (T10.setTop (mkF m 61 #[.val (.ref b_), .val (.int (2 : Int32)), .val (.int pn_), .val (.int (1 : Int32))] []))
        refine own_via (fun _ k => XS.iconst X10.here hx rfl (hb hby d5_61) k) ?_
        show own_Go p e below s _ _ _ (T10.setTop (mkF m 62 #[.val (.ref b_), .val (.int (2 : Int32)), .val (.int pn_), .val (.int (1 : Int32))] [(.int (1 : Int32))]))
        refine own_via (fun _ k => XS.goto X10.here hx rfl (pc0 := 62) (pc' := 66) rfl (hb hby d5_62) (by decide) (by decide) k) ?_
        show own_Go p e below s _ _ _ (T10.setTop (mkF m 66 #[.val (.ref b_), .val (.int (2 : Int32)), .val (.int pn_), .val (.int (1 : Int32))] [(.int (1 : Int32))]))
        refine own_via (fun _ k => XS.istoreN X10.here hx rfl (hb hby d5_66) rfl (l' := #[.val (.ref b_), .val (.int (2 : Int32)), .val (.int pn_), .val (.int (1 : Int32))]) rfl k) ?_
        show own_Go p e below s _ _ _ (T10.setTop (mkF m 67 #[.val (.ref b_), .val (.int (2 : Int32)), .val (.int pn_), .val (.int (1 : Int32))] []))
        refine own_via (fun _ k => XS.iloadN X10.here hx rfl (hb hby d5_67) rfl k) ?_
        show own_Go p e below s _ _ _ (T10.setTop (mkF m 68 #[.val (.ref b_), .val (.int (2 : Int32)), .val (.int pn_), .val (.int (1 : Int32))] [(.int (2 : Int32))]))
        refine own_via (fun _ k => XS.iconst X10.here hx rfl (hb hby d5_68) k) ?_
        show own_Go p e below s _ _ _ (T10.setTop (mkF m 69 #[.val (.ref b_), .val (.int (2 : Int32)), .val (.int pn_), .val (.int (1 : Int32))] [(.int (2 : Int32)), (.int (2 : Int32))]))
        refine own_via (fun _ k => XS.icmpYes X10.here hx rfl (pc0 := 69) (pc' := 108) rfl (hb hby d5_69) rfl (Jvm.Free.XT.ii_le_t (by decide)) (by decide) (by decide) k) ?_
        show own_Go p e below s _ _ _ (T10.setTop (mkF m 108 #[.val (.ref b_), .val (.int (2 : Int32)), .val (.int pn_), .val (.int (1 : Int32))] []))
        refine own_via (fun _ k => XS.iloadN X10.here hx rfl (hb hby d5_108) rfl k) ?_
        show own_Go p e below s _ _ _ (T10.setTop (mkF m 109 #[.val (.ref b_), .val (.int (2 : Int32)), .val (.int pn_), .val (.int (1 : Int32))] [(.int (1 : Int32))]))
        exact own_goN X10 hx (t := .boolean) Bd.returns (by simp) (hb hby d5_109) Bd.notSynchronized (by decide) (by decide) (by rw [e10]; exact ⟨by rw [own_va2, if_neg hc3, if_neg hc6, if_pos hc11] <;> rfl, N10, rfl⟩)
      · refine own_via (fun _ k => XS.ifYes X10.here hx rfl (pc0 := 58) (pc' := 65) rfl (hb hby d5_58) rfl (Jvm.Free.XT.ll_ge_t hc11) (by decide) (by decide) k) ?_
        show own_Go p e below s _ _ _ (T10.setTop (mkF m 65 #[.val (.ref b_), .val (.int (2 : Int32)), .val (.int pn_), .val (.int (1 : Int32))] []))
        refine own_via (fun _ k => XS.iconst X10.here hx rfl (hb hby d5_65) k) ?_
        show own_Go p e below s _ _ _ (T10.setTop (mkF m 66 #[.val (.ref b_), .val (.int (2 : Int32)), .val (.int pn_), .val (.int (1 : Int32))] [(.int (0 : Int32))]))
        refine own_via (fun _ k => XS.istoreN X10.here hx rfl (hb hby d5_66) rfl (l' := #[.val (.ref b_), .val (.int (2 : Int32)), .val (.int pn_), .val (.int (0 : Int32))]) rfl k) ?_
        show own_Go p e below s _ _ _ (T10.setTop (mkF m 67 #[.val (.ref b_), .val (.int (2 : Int32)), .val (.int pn_), .val (.int (0 : Int32))] []))
        refine own_via (fun _ k => XS.iloadN X10.here hx rfl (hb hby d5_67) rfl k) ?_
        show own_Go p e below s _ _ _ (T10.setTop (mkF m 68 #[.val (.ref b_), .val (.int (2 : Int32)), .val (.int pn_), .val (.int (0 : Int32))] [(.int (2 : Int32))]))
        refine own_via (fun _ k => XS.iconst X10.here hx rfl (hb hby d5_68) k) ?_
        show own_Go p e below s _ _ _ (T10.setTop (mkF m 69 #[.val (.ref b_), .val (.int (2 : Int32)), .val (.int pn_), .val (.int (0 : Int32))] [(.int (2 : Int32)), (.int (2 : Int32))]))
        refine own_via (fun _ k => XS.icmpYes X10.here hx rfl (pc0 := 69) (pc' := 108) rfl (hb hby d5_69) rfl (Jvm.Free.XT.ii_le_t (by decide)) (by decide) (by decide) k) ?_
        show own_Go p e below s _ _ _ (T10.setTop (mkF m 108 #[.val (.ref b_), .val (.int (2 : Int32)), .val (.int pn_), .val (.int (0 : Int32))] []))
        refine own_via (fun _ k => XS.iloadN X10.here hx rfl (hb hby d5_108) rfl k) ?_
        show own_Go p e below s _ _ _ (T10.setTop (mkF m 109 #[.val (.ref b_), .val (.int (2 : Int32)), .val (.int pn_), .val (.int (0 : Int32))] [(.int (0 : Int32))]))
        exact own_goN X10 hx (t := .boolean) Bd.returns (by simp) (hb hby d5_109) Bd.notSynchronized (by decide) (by decide) (by rw [e10]; exact ⟨by rw [own_va2, if_neg hc3, if_neg hc6, if_neg hc11] <;> rfl, N10, rfl⟩)
theorem d3_71 : decode prog_20_method_4_code 71 = .ok (.aload_n 0, 1) := by decide +kernel
theorem d3_72 : decode prog_20_method_4_code 72 = .ok (.iload 4, 2) := by decide +kernel
theorem d3_74 : decode prog_20_method_4_code 74 = .ok (.aload_n 0, 1) := by decide +kernel
theorem d3_75 : decode prog_20_method_4_code 75 = .ok (.iload 4, 2) := by decide +kernel
theorem d3_77 : decode prog_20_method_4_code 77 = .ok (.iconst 1, 1) := by decide +kernel
theorem d3_78 : decode prog_20_method_4_code 78 = .ok (.isub, 1) := by decide +kernel
theorem d3_79 : decode prog_20_method_4_code 79 = .ok (.iaload, 1) := by decide +kernel
theorem d3_80 : decode prog_20_method_4_code 80 = .ok (.iconst 1, 1) := by decide +kernel
theorem d3_81 : decode prog_20_method_4_code 81 = .ok (.iadd, 1) := by decide +kernel
theorem d3_82 : decode prog_20_method_4_code 82 = .ok (.iastore, 1) := by decide +kernel
theorem d3_83 : decode prog_20_method_4_code 83 = .ok (.iinc 4 1, 3) := by decide +kernel
theorem d3_86 : decode prog_20_method_4_code 86 = .ok (.goto (-21), 3) := by decide +kernel
def own_nr2 (u0 : Int32) (u1 : Int32) (pn_ : Int32) : Int32 := (if (-u1) < (0 : Int32) then (1 : Int32) else (if (-u0) < (0 : Int32) then (1 : Int32) else (if (-u1) < (pn_ - (0 : Int32)) then (1 : Int32) else (if (-u0) < (pn_ - (1 : Int32)) then (1 : Int32) else (0 : Int32)))))
def own_nx2_0 (u0 : Int32) (u1 : Int32) (pn_ : Int32) : Int32 := (if (-u1) < (0 : Int32) then u0 else (if (-u0) < (0 : Int32) then (-u0) else (if (-u1) < (pn_ - (0 : Int32)) then (-u0) else (if (-u0) < (pn_ - (1 : Int32)) then ((-u0) + (1 : Int32)) else (-u0)))))
def own_nx2_1 (u0 : Int32) (u1 : Int32) (pn_ : Int32) : Int32 := (if (-u1) < (0 : Int32) then (-u1) else (if (-u0) < (0 : Int32) then (-u1) else (if (-u1) < (pn_ - (0 : Int32)) then ((-u1) + (1 : Int32)) else (if (-u0) < (pn_ - (1 : Int32)) then (((-u0) + (1 : Int32)) + (1 : Int32)) else (-u1)))))
theorem ef_n2 (m : MethodId) (x0 : Addr) (x1 : Int32) : entryFrame m #[(.ref x0), (.int x1)] 5 = mkF m 0 #[.val (.ref x0), .val (.int x1), .unset, .unset, .unset] [] := by first | (simp [entryFrame, mkF, argsToLocals, Value.category]; done) | rfl
def Qn2 (Z : State) (b_ : Addr) (pn_ : Int32) (k_ : ClassId) (d_ : Value) (u0 : Int32) (u1 : Int32) (h0 : Heap) (n0 : Nat) (v : Option Value) (h : Heap) (L : List Loc) : Prop := v = some (.int (own_nr2 u0 u1 pn_)) ∧ Fr n0 L ∧ Keep h0 h [b_] ∧ Arv Z h b_ k_ .int (2 : Int32) [(.int (own_nx2_0 u0 u1 pn_)), (.int (own_nx2_1 u0 u1 pn_))] d_
set_option maxRecDepth 65536 in
set_option maxHeartbeats 40000000 in
theorem rmn2 (l : Launch) (Z : State) (a0 : Array Value) (hw : ∀ d ∈ tables_1, d.before a0 Z = true) (ws : List Jvm.Cond) (b_ : Addr) (pn_ : Int32) (k_ : ClassId) (d_ : Value) (u0 : Int32) (u1 : Int32) (h0 : Heap) (n0 : Nat) (Z0 : n0 ≤ h0.size) (V_b_ : Arv Z h0 b_ k_ .int (2 : Int32) [(.int u0), (.int u1)] d_) (g_b_ : n0 ≤ b_) :
    MetFree l (⟨"com/example/unalike/unalike/engine/TSets", "next", "([II)Z"⟩ : MethodName) (head1 (Jvm.Cond.code (⟨"com/example/unalike/unalike/engine/TSets", "next", "([II)Z"⟩ : MethodName) prog_20_method_4_code 5 (some .boolean) :: ws) ({ frames := 0, cells := 0, slots := 0, locals := 0 } : Room)) (fun q_ U => q_ = #[(.ref b_), (.int pn_)] ∧ Z.Warmed39 U.vm ∧ U.heap = h0) (fun _ _ _ _ _ => True) (fun _ U o U' => ∃ v L, o = .returned v ∧ Qn2 Z b_ pn_ k_ d_ u0 u1 h0 n0 v U'.heap L ∧ FrameEnd U o U' L ({ frames := 0, cells := 0, slots := 0, locals := 0 } : Room).cells ({ frames := 0, cells := 0, slots := 0, locals := 0 } : Room).slots) := by
  refine MetFree.of_bodySF (plainFor_of_name pn_1) hisR ?_
  intro p e s m args below meth c s₁ Bd hml0 hP hK
  obtain ⟨rfl, hZ, hh⟩ := hP
  have hx := Bd.exec
  have hby := Bd.bytes
  have hml : c.maxLocals = 5 := hml0
  have hown : s.vm.findClass "com/example/unalike/unalike/engine/TSets" = some m.cls := findClass_of_methodNamed Bd.named
  have hnm := (name_of_methodNamed Bd.named Bd.method).1
  have X0 : Stand p l e ({ frames := 0, cells := 0, slots := 0, locals := 0 } : Room) s m #[(.ref b_), (.int pn_)] below meth c s₁ [] 0 0 := Stand.of_body Bd
  have e0 : s₁.heap = h0 := by rw [← hh, Bd.state]; rfl
  have N0 := Fr.nil n0
  show own_Go p e below s (Qn2 Z b_ pn_ k_ d_ u0 u1 h0 n0) ({ frames := 0, cells := 0, slots := 0, locals := 0 } : Room).cells ({ frames := 0, cells := 0, slots := 0, locals := 0 } : Room).slots (s₁.setTop (entryFrame m #[(.ref b_), (.int pn_)] 5))
  refine own_via (fun t k => castTop (ef_n2 m b_ pn_) k) ?_
  have K0 : Keep h0 h0 [b_] := Keep.refl _ _
  show own_Go p e below s _ _ _ (s₁.setTop (mkF m 0 #[.val (.ref b_), .val (.int pn_), .unset, .unset, .unset] []))
  refine own_via (fun _ k => XS.aloadN X0.here hx rfl (hb hby d3_0) rfl rfl k) ?_
  show own_Go p e below s _ _ _ (s₁.setTop (mkF m 1 #[.val (.ref b_), .val (.int pn_), .unset, .unset, .unset] [(.ref b_)]))
  obtain ⟨cl1, Ar1, q1, S1, M1, H1, G1⟩ := (id V_b_)
  refine own_via (fun _ k => X0.arraylength hx (by rw [e0]; exact Ar1.1) (State.isArrayOf_alike hZ.alike Ar1.2.1) (g := (mkF m 1 #[.val (.ref b_), .val (.int pn_), .unset, .unset, .unset] [(.ref b_)])) rfl rfl (hb hby d3_1) _ (by rw [len_of S1 M1]; exact k)) ?_
  show own_Go p e below s _ _ _ (s₁.setTop (mkF m 2 #[.val (.ref b_), .val (.int pn_), .unset, .unset, .unset] [(.int (2 : Int32))]))
  refine own_via (fun _ k => XS.istoreN X0.here hx rfl (hb hby d3_2) rfl (l' := #[.val (.ref b_), .val (.int pn_), .val (.int (2 : Int32)), .unset, .unset]) rfl k) ?_
  show own_Go p e below s _ _ _ (s₁.setTop (mkF m 3 #[.val (.ref b_), .val (.int pn_), .val (.int (2 : Int32)), .unset, .unset] []))
  refine own_via (fun _ k => XS.iloadN X0.here hx rfl (hb hby d3_3) rfl k) ?_
  show own_Go p e below s _ _ _ (s₁.setTop (mkF m 4 #[.val (.ref b_), .val (.int pn_), .val (.int (2 : Int32)), .unset, .unset] [(.int (2 : Int32))]))
  refine own_via (fun _ k => XS.iconst X0.here hx rfl (hb hby d3_4) k) ?_
  show own_Go p e below s _ _ _ (s₁.setTop (mkF m 5 #[.val (.ref b_), .val (.int pn_), .val (.int (2 : Int32)), .unset, .unset] [(.int (1 : Int32)), (.int (2 : Int32))]))
  refine own_via (fun _ k => XS.isub X0.here hx rfl (hb hby d3_5) rfl k) ?_
  show own_Go p e below s _ _ _ (s₁.setTop (mkF m 6 #[.val (.ref b_), .val (.int pn_), .val (.int (2 : Int32)), .unset, .unset] [(.int (1 : Int32))]))
  refine own_via (fun _ k => XS.istoreN X0.here hx rfl (hb hby d3_6) rfl (l' := #[.val (.ref b_), .val (.int pn_), .val (.int (2 : Int32)), .val (.int (1 : Int32)), .unset]) rfl k) ?_
  show own_Go p e below s _ _ _ (s₁.setTop (mkF m 7 #[.val (.ref b_), .val (.int pn_), .val (.int (2 : Int32)), .val (.int (1 : Int32)), .unset] []))
  refine own_via (fun _ k => XS.iloadN X0.here hx rfl (hb hby d3_7) rfl k) ?_
  show own_Go p e below s _ _ _ (s₁.setTop (mkF m 8 #[.val (.ref b_), .val (.int pn_), .val (.int (2 : Int32)), .val (.int (1 : Int32)), .unset] [(.int (1 : Int32))]))
  refine own_via (fun _ k => XS.ifNo X0.here hx rfl (hb hby d3_8) rfl (Jvm.Free.XT.i0_lt_f (by decide)) k) ?_
  show own_Go p e below s _ _ _ (s₁.setTop (mkF m 11 #[.val (.ref b_), .val (.int pn_), .val (.int (2 : Int32)), .val (.int (1 : Int32)), .unset] []))
  refine own_via (fun _ k => XS.aloadN X0.here hx rfl (hb hby d3_11) rfl rfl k) ?_
  show own_Go p e below s _ _ _ (s₁.setTop (mkF m 12 #[.val (.ref b_), .val (.int pn_), .val (.int (2 : Int32)), .val (.int (1 : Int32)), .unset] [(.ref b_)]))
  refine own_via (fun _ k => XS.iloadN X0.here hx rfl (hb hby d3_12) rfl k) ?_
  show own_Go p e below s _ _ _ (s₁.setTop (mkF m 13 #[.val (.ref b_), .val (.int pn_), .val (.int (2 : Int32)), .val (.int (1 : Int32)), .unset] [(.int (1 : Int32)), (.ref b_)]))
  refine own_via (fun _ k => XS.aloadN X0.here hx rfl (hb hby d3_13) rfl rfl k) ?_
  show own_Go p e below s _ _ _ (s₁.setTop (mkF m 14 #[.val (.ref b_), .val (.int pn_), .val (.int (2 : Int32)), .val (.int (1 : Int32)), .unset] [(.ref b_), (.int (1 : Int32)), (.ref b_)]))
  refine own_via (fun _ k => XS.iloadN X0.here hx rfl (hb hby d3_14) rfl k) ?_
  show own_Go p e below s _ _ _ (s₁.setTop (mkF m 15 #[.val (.ref b_), .val (.int pn_), .val (.int (2 : Int32)), .val (.int (1 : Int32)), .unset] [(.int (1 : Int32)), (.ref b_), (.int (1 : Int32)), (.ref b_)]))
  obtain ⟨cl2, Ar2, q2, S2, M2, H2, G2⟩ := (id V_b_)
  have hin2 : ¬ ((1 : Int32) < 0 ∨ cl2.slots.size ≤ ((1 : Int32)).toNatClampNeg) := inb_of S2 ⟨by decide, by decide⟩
  have hat2 : cl2.slots[((1 : Int32)).toNatClampNeg]? = some (.int u1) := Has.at H2 hin2 rfl
  refine own_via (fun _ k => X0.iaload hx (j := (1 : Int32)) (v := (.int u1)) (by rw [e0]; exact Ar2.1) (State.isArrayOf_alike hZ.alike Ar2.2.1) Ar2.2.2 hin2 hat2 (g := (mkF m 15 #[.val (.ref b_), .val (.int pn_), .val (.int (2 : Int32)), .val (.int (1 : Int32)), .unset] [(.int (1 : Int32)), (.ref b_), (.int (1 : Int32)), (.ref b_)])) rfl rfl (hb hby d3_15) _ k) ?_
  show own_Go p e below s _ _ _ (s₁.setTop (mkF m 16 #[.val (.ref b_), .val (.int pn_), .val (.int (2 : Int32)), .val (.int (1 : Int32)), .unset] [(.int u1), (.int (1 : Int32)), (.ref b_)]))
  refine own_via (fun _ k => XS.ineg X0.here hx rfl (hb hby d3_16) rfl k) ?_
  show own_Go p e below s _ _ _ (s₁.setTop (mkF m 17 #[.val (.ref b_), .val (.int pn_), .val (.int (2 : Int32)), .val (.int (1 : Int32)), .unset] [(.int (-u1)), (.int (1 : Int32)), (.ref b_)]))
  obtain ⟨cl3, Ar3, q3, S3, M3, H3, G3⟩ := (id V_b_)
  have hin3 : ¬ ((1 : Int32) < 0 ∨ cl3.slots.size ≤ ((1 : Int32)).toNatClampNeg) := inb_of S3 ⟨by decide, by decide⟩
  obtain ⟨T3, h3, X3, e3, W3, st3⟩ := stI X0 hx hZ e0 Ar3 (j := (1 : Int32)) hin3 (g := (mkF m 17 #[.val (.ref b_), .val (.int pn_), .val (.int (2 : Int32)), .val (.int (1 : Int32)), .unset] [(.int (-u1)), (.int (1 : Int32)), (.ref b_)])) rfl rfl (hb hby d3_17)
  have V3 : Arv Z h3 b_ k_ .int (2 : Int32) [(.int u0), (.int (-u1))] d_ := Arv.set Ar3 q3 S3 M3 H3 G3 rfl W3 1 rfl (Nat.le_of_ble_eq_true rfl)
  have N3 := Fr.snoc X3 N0 g_b_
  have Z3 : n0 ≤ h3.size := Nat.le_trans Z0 (Keep.of_wr W3).1
  have K3 : Keep h0 h3 [b_] := K0.wr W3 (Or.inl (List.mem_of_getElem? (i := 0) rfl))
  refine own_via st3 ?_
  show own_Go p e below s _ _ _ (T3.setTop (mkF m 18 #[.val (.ref b_), .val (.int pn_), .val (.int (2 : Int32)), .val (.int (1 : Int32)), .unset] []))
  refine own_via (fun _ k => XS.aloadN X3.here hx rfl (hb hby d3_18) rfl rfl k) ?_
  show own_Go p e below s _ _ _ (T3.setTop (mkF m 19 #[.val (.ref b_), .val (.int pn_), .val (.int (2 : Int32)), .val (.int (1 : Int32)), .unset] [(.ref b_)]))
  refine own_via (fun _ k => XS.iloadN X3.here hx rfl (hb hby d3_19) rfl k) ?_
  show own_Go p e below s _ _ _ (T3.setTop (mkF m 20 #[.val (.ref b_), .val (.int pn_), .val (.int (2 : Int32)), .val (.int (1 : Int32)), .unset] [(.int (1 : Int32)), (.ref b_)]))
  obtain ⟨cl4, Ar4, q4, S4, M4, H4, G4⟩ := (id V3)
  have hin4 : ¬ ((1 : Int32) < 0 ∨ cl4.slots.size ≤ ((1 : Int32)).toNatClampNeg) := inb_of S4 ⟨by decide, by decide⟩
  have hat4 : cl4.slots[((1 : Int32)).toNatClampNeg]? = some (.int (-u1)) := Has.at H4 hin4 rfl
  refine own_via (fun _ k => X3.iaload hx (j := (1 : Int32)) (v := (.int (-u1))) (by rw [e3]; exact Ar4.1) (State.isArrayOf_alike hZ.alike Ar4.2.1) Ar4.2.2 hin4 hat4 (g := (mkF m 20 #[.val (.ref b_), .val (.int pn_), .val (.int (2 : Int32)), .val (.int (1 : Int32)), .unset] [(.int (1 : Int32)), (.ref b_)])) rfl rfl (hb hby d3_20) _ k) ?_
  show own_Go p e below s _ _ _ (T3.setTop (mkF m 21 #[.val (.ref b_), .val (.int pn_), .val (.int (2 : Int32)), .val (.int (1 : Int32)), .unset] [(.int (-u1))]))
  by_cases hc5 : (-u1) < (0 : Int32)
  · refine own_via (fun _ k => XS.ifNo X3.here hx rfl (hb hby d3_21) rfl (Jvm.Free.XT.i0_ge_f hc5) k) ?_
    show own_Go p e below s _ _ _ (T3.setTop (mkF m 24 #[.val (.ref b_), .val (.int pn_), .val (.int (2 : Int32)), .val (.int (1 : Int32)), .unset] []))
    refine own_via (fun _ k => XS.iconst X3.here hx rfl (hb hby d3_24) k) ?_
    show own_Go p e below s _ _ _ (T3.setTop (mkF m 25 #[.val (.ref b_), .val (.int pn_), .val (.int (2 : Int32)), .val (.int (1 : Int32)), .unset] [(.int (1 : Int32))]))
    exact own_goN X3 hx (t := .boolean) Bd.returns (by simp) (hb hby d3_25) Bd.notSynchronized (by decide) (by decide) (by rw [e3]; exact ⟨by rw [own_nr2, if_pos hc5] <;> rfl, N3, K3, (by simp only [own_nx2_0, own_nx2_1, if_pos hc5]; exact V3)⟩)
  · refine own_via (fun _ k => XS.ifYes X3.here hx rfl (pc0 := 21) (pc' := 26) rfl (hb hby d3_21) rfl (Jvm.Free.XT.i0_ge_t hc5) (by decide) (by decide) k) ?_
    show own_Go p e below s _ _ _ (T3.setTop (mkF m 26 #[.val (.ref b_), .val (.int pn_), .val (.int (2 : Int32)), .val (.int (1 : Int32)), .unset] []))
    refine own_via (fun _ k => XS.iinc X3.here hx rfl (hb hby d3_26) rfl (l' := #[.val (.ref b_), .val (.int pn_), .val (.int (2 : Int32)), .val (.int (0 : Int32)), .unset]) rfl k) ?_
    show own_Go p e below s _ _ _ (T3.setTop (mkF m 29 #[.val (.ref b_), .val (.int pn_), .val (.int (2 : Int32)), .val (.int (0 : Int32)), .unset] []))
    refine own_via (fun _ k => XS.goto X3.here hx rfl (pc0 := 29) (pc' := 7) rfl (hb hby d3_29) (by decide) (by decide) k) ?_
    show own_Go p e below s _ _ _ (T3.setTop (mkF m 7 #[.val (.ref b_), .val (.int pn_), .val (.int (2 : Int32)), .val (.int (0 : Int32)), .unset] []))
    refine own_via (fun _ k => XS.iloadN X3.here hx rfl (hb hby d3_7) rfl k) ?_
    show own_Go p e below s _ _ _ (T3.setTop (mkF m 8 #[.val (.ref b_), .val (.int pn_), .val (.int (2 : Int32)), .val (.int (0 : Int32)), .unset] [(.int (0 : Int32))]))
    refine own_via (fun _ k => XS.ifNo X3.here hx rfl (hb hby d3_8) rfl (Jvm.Free.XT.i0_lt_f (by decide)) k) ?_
    show own_Go p e below s _ _ _ (T3.setTop (mkF m 11 #[.val (.ref b_), .val (.int pn_), .val (.int (2 : Int32)), .val (.int (0 : Int32)), .unset] []))
    refine own_via (fun _ k => XS.aloadN X3.here hx rfl (hb hby d3_11) rfl rfl k) ?_
    show own_Go p e below s _ _ _ (T3.setTop (mkF m 12 #[.val (.ref b_), .val (.int pn_), .val (.int (2 : Int32)), .val (.int (0 : Int32)), .unset] [(.ref b_)]))
    refine own_via (fun _ k => XS.iloadN X3.here hx rfl (hb hby d3_12) rfl k) ?_
    show own_Go p e below s _ _ _ (T3.setTop (mkF m 13 #[.val (.ref b_), .val (.int pn_), .val (.int (2 : Int32)), .val (.int (0 : Int32)), .unset] [(.int (0 : Int32)), (.ref b_)]))
    refine own_via (fun _ k => XS.aloadN X3.here hx rfl (hb hby d3_13) rfl rfl k) ?_
    show own_Go p e below s _ _ _ (T3.setTop (mkF m 14 #[.val (.ref b_), .val (.int pn_), .val (.int (2 : Int32)), .val (.int (0 : Int32)), .unset] [(.ref b_), (.int (0 : Int32)), (.ref b_)]))
    refine own_via (fun _ k => XS.iloadN X3.here hx rfl (hb hby d3_14) rfl k) ?_
    show own_Go p e below s _ _ _ (T3.setTop (mkF m 15 #[.val (.ref b_), .val (.int pn_), .val (.int (2 : Int32)), .val (.int (0 : Int32)), .unset] [(.int (0 : Int32)), (.ref b_), (.int (0 : Int32)), (.ref b_)]))
    obtain ⟨cl6, Ar6, q6, S6, M6, H6, G6⟩ := (id V3)
    have hin6 : ¬ ((0 : Int32) < 0 ∨ cl6.slots.size ≤ ((0 : Int32)).toNatClampNeg) := inb_of S6 ⟨by decide, by decide⟩
    have hat6 : cl6.slots[((0 : Int32)).toNatClampNeg]? = some (.int u0) := Has.at H6 hin6 rfl
    refine own_via (fun _ k => X3.iaload hx (j := (0 : Int32)) (v := (.int u0)) (by rw [e3]; exact Ar6.1) (State.isArrayOf_alike hZ.alike Ar6.2.1) Ar6.2.2 hin6 hat6 (g := (mkF m 15 #[.val (.ref b_), .val (.int pn_), .val (.int (2 : Int32)), .val (.int (0 : Int32)), .unset] [(.int (0 : Int32)), (.ref b_), (.int (0 : Int32)), (.ref b_)])) rfl rfl (hb hby d3_15) _ k) ?_
    show own_Go p e below s _ _ _ (T3.setTop (mkF m 16 #[.val (.ref b_), .val (.int pn_), .val (.int (2 : Int32)), .val (.int (0 : Int32)), .unset] [(.int u0), (.int (0 : Int32)), (.ref b_)]))
    refine own_via (fun _ k => XS.ineg X3.here hx rfl (hb hby d3_16) rfl k) ?_
    show own_Go p e below s _ _ _ (T3.setTop (mkF m 17 #[.val (.ref b_), .val (.int pn_), .val (.int (2 : Int32)), .val (.int (0 : Int32)), .unset] [(.int (-u0)), (.int (0 : Int32)), (.ref b_)]))
    obtain ⟨cl7, Ar7, q7, S7, M7, H7, G7⟩ := (id V3)
    have hin7 : ¬ ((0 : Int32) < 0 ∨ cl7.slots.size ≤ ((0 : Int32)).toNatClampNeg) := inb_of S7 ⟨by decide, by decide⟩
    obtain ⟨T7, h7, X7, e7, W7, st7⟩ := stI X3 hx hZ e3 Ar7 (j := (0 : Int32)) hin7 (g := (mkF m 17 #[.val (.ref b_), .val (.int pn_), .val (.int (2 : Int32)), .val (.int (0 : Int32)), .unset] [(.int (-u0)), (.int (0 : Int32)), (.ref b_)])) rfl rfl (hb hby d3_17)
    have V7 : Arv Z h7 b_ k_ .int (2 : Int32) [(.int (-u0)), (.int (-u1))] d_ := Arv.set Ar7 q7 S7 M7 H7 G7 rfl W7 0 rfl (Nat.le_of_ble_eq_true rfl)
    have N7 := Fr.snoc X7 N3 g_b_
    have Z7 : n0 ≤ h7.size := Nat.le_trans Z3 (Keep.of_wr W7).1
    have K7 : Keep h0 h7 [b_] := K3.wr W7 (Or.inl (List.mem_of_getElem? (i := 0) rfl))
    refine own_via st7 ?_
    show own_Go p e below s _ _ _ (T7.setTop (mkF m 18 #[.val (.ref b_), .val (.int pn_), .val (.int (2 : Int32)), .val (.int (0 : Int32)), .unset] []))
    refine own_via (fun _ k => XS.aloadN X7.here hx rfl (hb hby d3_18) rfl rfl k) ?_
    show own_Go p e below s _ _ _ (T7.setTop (mkF m 19 #[.val (.ref b_), .val (.int pn_), .val (.int (2 : Int32)), .val (.int (0 : Int32)), .unset] [(.ref b_)]))
    refine own_via (fun _ k => XS.iloadN X7.here hx rfl (hb hby d3_19) rfl k) ?_
    show own_Go p e below s _ _ _ (T7.setTop (mkF m 20 #[.val (.ref b_), .val (.int pn_), .val (.int (2 : Int32)), .val (.int (0 : Int32)), .unset] [(.int (0 : Int32)), (.ref b_)]))
    obtain ⟨cl8, Ar8, q8, S8, M8, H8, G8⟩ := (id V7)
    have hin8 : ¬ ((0 : Int32) < 0 ∨ cl8.slots.size ≤ ((0 : Int32)).toNatClampNeg) := inb_of S8 ⟨by decide, by decide⟩
    have hat8 : cl8.slots[((0 : Int32)).toNatClampNeg]? = some (.int (-u0)) := Has.at H8 hin8 rfl
    refine own_via (fun _ k => X7.iaload hx (j := (0 : Int32)) (v := (.int (-u0))) (by rw [e7]; exact Ar8.1) (State.isArrayOf_alike hZ.alike Ar8.2.1) Ar8.2.2 hin8 hat8 (g := (mkF m 20 #[.val (.ref b_), .val (.int pn_), .val (.int (2 : Int32)), .val (.int (0 : Int32)), .unset] [(.int (0 : Int32)), (.ref b_)])) rfl rfl (hb hby d3_20) _ k) ?_
    show own_Go p e below s _ _ _ (T7.setTop (mkF m 21 #[.val (.ref b_), .val (.int pn_), .val (.int (2 : Int32)), .val (.int (0 : Int32)), .unset] [(.int (-u0))]))
    by_cases hc9 : (-u0) < (0 : Int32)
    · refine own_via (fun _ k => XS.ifNo X7.here hx rfl (hb hby d3_21) rfl (Jvm.Free.XT.i0_ge_f hc9) k) ?_
      show own_Go p e below s _ _ _ (T7.setTop (mkF m 24 #[.val (.ref b_), .val (.int pn_), .val (.int (2 : Int32)), .val (.int (0 : Int32)), .unset] []))
      refine own_via (fun _ k => XS.iconst X7.here hx rfl (hb hby d3_24) k) ?_
      show own_Go p e below s _ _ _ (T7.setTop (mkF m 25 #[.val (.ref b_), .val (.int pn_), .val (.int (2 : Int32)), .val (.int (0 : Int32)), .unset] [(.int (1 : Int32))]))
      exact own_goN X7 hx (t := .boolean) Bd.returns (by simp) (hb hby d3_25) Bd.notSynchronized (by decide) (by decide) (by rw [e7]; exact ⟨by rw [own_nr2, if_neg hc5, if_pos hc9] <;> rfl, N7, K7, (by simp only [own_nx2_0, own_nx2_1, if_neg hc5, if_pos hc9]; exact V7)⟩)
    · refine own_via (fun _ k => XS.ifYes X7.here hx rfl (pc0 := 21) (pc' := 26) rfl (hb hby d3_21) rfl (Jvm.Free.XT.i0_ge_t hc9) (by decide) (by decide) k) ?_
      show own_Go p e below s _ _ _ (T7.setTop (mkF m 26 #[.val (.ref b_), .val (.int pn_), .val (.int (2 : Int32)), .val (.int (0 : Int32)), .unset] []))
      refine own_via (fun _ k => XS.iinc X7.here hx rfl (hb hby d3_26) rfl (l' := #[.val (.ref b_), .val (.int pn_), .val (.int (2 : Int32)), .val (.int (-1 : Int32)), .unset]) rfl k) ?_
      show own_Go p e below s _ _ _ (T7.setTop (mkF m 29 #[.val (.ref b_), .val (.int pn_), .val (.int (2 : Int32)), .val (.int (-1 : Int32)), .unset] []))
      refine own_via (fun _ k => XS.goto X7.here hx rfl (pc0 := 29) (pc' := 7) rfl (hb hby d3_29) (by decide) (by decide) k) ?_
      show own_Go p e below s _ _ _ (T7.setTop (mkF m 7 #[.val (.ref b_), .val (.int pn_), .val (.int (2 : Int32)), .val (.int (-1 : Int32)), .unset] []))
      refine own_via (fun _ k => XS.iloadN X7.here hx rfl (hb hby d3_7) rfl k) ?_
      show own_Go p e below s _ _ _ (T7.setTop (mkF m 8 #[.val (.ref b_), .val (.int pn_), .val (.int (2 : Int32)), .val (.int (-1 : Int32)), .unset] [(.int (-1 : Int32))]))
      refine own_via (fun _ k => XS.ifYes X7.here hx rfl (pc0 := 8) (pc' := 32) rfl (hb hby d3_8) rfl (Jvm.Free.XT.i0_lt_t (by decide)) (by decide) (by decide) k) ?_
      show own_Go p e below s _ _ _ (T7.setTop (mkF m 32 #[.val (.ref b_), .val (.int pn_), .val (.int (2 : Int32)), .val (.int (-1 : Int32)), .unset] []))
      refine own_via (fun _ k => XS.iloadN X7.here hx rfl (hb hby d3_32) rfl k) ?_
      show own_Go p e below s _ _ _ (T7.setTop (mkF m 33 #[.val (.ref b_), .val (.int pn_), .val (.int (2 : Int32)), .val (.int (-1 : Int32)), .unset] [(.int (2 : Int32))]))
      refine own_via (fun _ k => XS.iconst X7.here hx rfl (hb hby d3_33) k) ?_
      show own_Go p e below s _ _ _ (T7.setTop (mkF m 34 #[.val (.ref b_), .val (.int pn_), .val (.int (2 : Int32)), .val (.int (-1 : Int32)), .unset] [(.int (1 : Int32)), (.int (2 : Int32))]))
      refine own_via (fun _ k => XS.isub X7.here hx rfl (hb hby d3_34) rfl k) ?_
      show own_Go p e below s _ _ _ (T7.setTop (mkF m 35 #[.val (.ref b_), .val (.int pn_), .val (.int (2 : Int32)), .val (.int (-1 : Int32)), .unset] [(.int (1 : Int32))]))
      refine own_via (fun _ k => XS.istoreN X7.here hx rfl (hb hby d3_35) rfl (l' := #[.val (.ref b_), .val (.int pn_), .val (.int (2 : Int32)), .val (.int (1 : Int32)), .unset]) rfl k) ?_
      show own_Go p e below s _ _ _ (T7.setTop (mkF m 36 #[.val (.ref b_), .val (.int pn_), .val (.int (2 : Int32)), .val (.int (1 : Int32)), .unset] []))
      refine own_via (fun _ k => XS.iloadN X7.here hx rfl (hb hby d3_36) rfl k) ?_
      show own_Go p e below s _ _ _ (T7.setTop (mkF m 37 #[.val (.ref b_), .val (.int pn_), .val (.int (2 : Int32)), .val (.int (1 : Int32)), .unset] [(.int (1 : Int32))]))
      refine own_via (fun _ k => XS.ifNo X7.here hx rfl (hb hby d3_37) rfl (Jvm.Free.XT.i0_lt_f (by decide)) k) ?_
      show own_Go p e below s _ _ _ (T7.setTop (mkF m 40 #[.val (.ref b_), .val (.int pn_), .val (.int (2 : Int32)), .val (.int (1 : Int32)), .unset] []))
      refine own_via (fun _ k => XS.aloadN X7.here hx rfl (hb hby d3_40) rfl rfl k) ?_
      show own_Go p e below s _ _ _ (T7.setTop (mkF m 41 #[.val (.ref b_), .val (.int pn_), .val (.int (2 : Int32)), .val (.int (1 : Int32)), .unset] [(.ref b_)]))
      refine own_via (fun _ k => XS.iloadN X7.here hx rfl (hb hby d3_41) rfl k) ?_
      show own_Go p e below s _ _ _ (T7.setTop (mkF m 42 #[.val (.ref b_), .val (.int pn_), .val (.int (2 : Int32)), .val (.int (1 : Int32)), .unset] [(.int (1 : Int32)), (.ref b_)]))
      obtain ⟨cl10, Ar10, q10, S10, M10, H10, G10⟩ := (id V7)
      have hin10 : ¬ ((1 : Int32) < 0 ∨ cl10.slots.size ≤ ((1 : Int32)).toNatClampNeg) := inb_of S10 ⟨by decide, by decide⟩
      have hat10 : cl10.slots[((1 : Int32)).toNatClampNeg]? = some (.int (-u1)) := Has.at H10 hin10 rfl
      refine own_via (fun _ k => X7.iaload hx (j := (1 : Int32)) (v := (.int (-u1))) (by rw [e7]; exact Ar10.1) (State.isArrayOf_alike hZ.alike Ar10.2.1) Ar10.2.2 hin10 hat10 (g := (mkF m 42 #[.val (.ref b_), .val (.int pn_), .val (.int (2 : Int32)), .val (.int (1 : Int32)), .unset] [(.int (1 : Int32)), (.ref b_)])) rfl rfl (hb hby d3_42) _ k) ?_
      show own_Go p e below s _ _ _ (T7.setTop (mkF m 43 #[.val (.ref b_), .val (.int pn_), .val (.int (2 : Int32)), .val (.int (1 : Int32)), .unset] [(.int (-u1))]))
      refine own_via (fun _ k => XS.iloadN X7.here hx rfl (hb hby d3_43) rfl k) ?_
      show own_Go p e below s _ _ _ (T7.setTop (mkF m 44 #[.val (.ref b_), .val (.int pn_), .val (.int (2 : Int32)), .val (.int (1 : Int32)), .unset] [(.int pn_), (.int (-u1))]))
      refine own_via (fun _ k => XS.iloadN X7.here hx rfl (hb hby d3_44) rfl k) ?_
      show own_Go p e below s _ _ _ (T7.setTop (mkF m 45 #[.val (.ref b_), .val (.int pn_), .val (.int (2 : Int32)), .val (.int (1 : Int32)), .unset] [(.int (2 : Int32)), (.int pn_), (.int (-u1))]))
      refine own_via (fun _ k => XS.iconst X7.here hx rfl (hb hby d3_45) k) ?_
      show own_Go p e below s _ _ _ (T7.setTop (mkF m 46 #[.val (.ref b_), .val (.int pn_), .val (.int (2 : Int32)), .val (.int (1 : Int32)), .unset] [(.int (1 : Int32)), (.int (2 : Int32)), (.int pn_), (.int (-u1))]))
      refine own_via (fun _ k => XS.isub X7.here hx rfl (hb hby d3_46) rfl k) ?_
      show own_Go p e below s _ _ _ (T7.setTop (mkF m 47 #[.val (.ref b_), .val (.int pn_), .val (.int (2 : Int32)), .val (.int (1 : Int32)), .unset] [(.int (1 : Int32)), (.int pn_), (.int (-u1))]))
      refine own_via (fun _ k => XS.iloadN X7.here hx rfl (hb hby d3_47) rfl k) ?_
      show own_Go p e below s _ _ _ (T7.setTop (mkF m 48 #[.val (.ref b_), .val (.int pn_), .val (.int (2 : Int32)), .val (.int (1 : Int32)), .unset] [(.int (1 : Int32)), (.int (1 : Int32)), (.int pn_), (.int (-u1))]))
      refine own_via (fun _ k => XS.isub X7.here hx rfl (hb hby d3_48) rfl k) ?_
      show own_Go p e below s _ _ _ (T7.setTop (mkF m 49 #[.val (.ref b_), .val (.int pn_), .val (.int (2 : Int32)), .val (.int (1 : Int32)), .unset] [(.int (0 : Int32)), (.int pn_), (.int (-u1))]))
      refine own_via (fun _ k => XS.isub X7.here hx rfl (hb hby d3_49) rfl k) ?_
      show own_Go p e below s _ _ _ (T7.setTop (mkF m 50 #[.val (.ref b_), .val (.int pn_), .val (.int (2 : Int32)), .val (.int (1 : Int32)), .unset] [(.int (pn_ - (0 : Int32))), (.int (-u1))]))
      by_cases hc11 : (-u1) < (pn_ - (0 : Int32))
      · refine own_via (fun _ k => XS.icmpNo X7.here hx rfl (hb hby d3_50) rfl (Jvm.Free.XT.ii_ge_f hc11) k) ?_
        show own_Go p e below s _ _ _ (T7.setTop (mkF m 53 #[.val (.ref b_), .val (.int pn_), .val (.int (2 : Int32)), .val (.int (1 : Int32)), .unset] []))
        refine own_via (fun _ k => XS.aloadN X7.here hx rfl (hb hby d3_53) rfl rfl k) ?_
        show own_Go p e below s _ _ _ (T7.setTop (mkF m 54 #[.val (.ref b_), .val (.int pn_), .val (.int (2 : Int32)), .val (.int (1 : Int32)), .unset] [(.ref b_)]))
        refine own_via (fun _ k => XS.iloadN X7.here hx rfl (hb hby d3_54) rfl k) ?_
        show own_Go p e below s _ _ _ (T7.setTop (mkF m 55 #[.val (.ref b_), .val (.int pn_), .val (.int (2 : Int32)), .val (.int (1 : Int32)), .unset] [(.int (1 : Int32)), (.ref b_)]))
        refine own_via (fun _ k => Jvm.Free.XT.dup2 X7.here hx rfl (hb hby d3_55) rfl rfl rfl k) ?_
        show own_Go p e below s _ _ _ (T7.setTop (mkF m 56 #[.val (.ref b_), .val (.int pn_), .val (.int (2 : Int32)), .val (.int (1 : Int32)), .unset] [(.int (1 : Int32)), (.ref b_), (.int (1 : Int32)), (.ref b_)]))
        obtain ⟨cl12, Ar12, q12, S12, M12, H12, G12⟩ := (id V7)
        have hin12 : ¬ ((1 : Int32) < 0 ∨ cl12.slots.size ≤ ((1 : Int32)).toNatClampNeg) := inb_of S12 ⟨by decide, by decide⟩
        have hat12 : cl12.slots[((1 : Int32)).toNatClampNeg]? = some (.int (-u1)) := Has.at H12 hin12 rfl
        refine own_via (fun _ k => X7.iaload hx (j := (1 : Int32)) (v := (.int (-u1))) (by rw [e7]; exact Ar12.1) (State.isArrayOf_alike hZ.alike Ar12.2.1) Ar12.2.2 hin12 hat12 (g := (mkF m 56 #[.val (.ref b_), .val (.int pn_), .val (.int (2 : Int32)), .val (.int (1 : Int32)), .unset] [(.int (1 : Int32)), (.ref b_), (.int (1 : Int32)), (.ref b_)])) rfl rfl (hb hby d3_56) _ k) ?_
        show own_Go p e below s _ _ _ (T7.setTop (mkF m 57 #[.val (.ref b_), .val (.int pn_), .val (.int (2 : Int32)), .val (.int (1 : Int32)), .unset] [(.int (-u1)), (.int (1 : Int32)), (.ref b_)]))
        refine own_via (fun _ k => XS.iconst X7.here hx rfl (hb hby d3_57) k) ?_
        show own_Go p e below s _ _ _ (T7.setTop (mkF m 58 #[.val (.ref b_), .val (.int pn_), .val (.int (2 : Int32)), .val (.int (1 : Int32)), .unset] [(.int (1 : Int32)), (.int (-u1)), (.int (1 : Int32)), (.ref b_)]))
        refine own_via (fun _ k => XS.iadd X7.here hx rfl (hb hby d3_58) rfl k) ?_
        show own_Go p e below s _ _ _ (T7.setTop (mkF m 59 #[.val (.ref b_), .val (.int pn_), .val (.int (2 : Int32)), .val (.int (1 : Int32)), .unset] [(.int ((-u1) + (1 : Int32))), (.int (1 : Int32)), (.ref b_)]))
        obtain ⟨cl13, Ar13, q13, S13, M13, H13, G13⟩ := (id V7)
        have hin13 : ¬ ((1 : Int32) < 0 ∨ cl13.slots.size ≤ ((1 : Int32)).toNatClampNeg) := inb_of S13 ⟨by decide, by decide⟩
        obtain ⟨T13, h13, X13, e13, W13, st13⟩ := stI X7 hx hZ e7 Ar13 (j := (1 : Int32)) hin13 (g := (mkF m 59 #[.val (.ref b_), .val (.int pn_), .val (.int (2 : Int32)), .val (.int (1 : Int32)), .unset] [(.int ((-u1) + (1 : Int32))), (.int (1 : Int32)), (.ref b_)])) rfl rfl (hb hby d3_59)
        have V13 : Arv Z h13 b_ k_ .int (2 : Int32) [(.int (-u0)), (.int ((-u1) + (1 : Int32)))] d_ := Arv.set Ar13 q13 S13 M13 H13 G13 rfl W13 1 rfl (Nat.le_of_ble_eq_true rfl)
        have N13 := Fr.snoc X13 N7 g_b_
        have Z13 : n0 ≤ h13.size := Nat.le_trans Z7 (Keep.of_wr W13).1
        have K13 : Keep h0 h13 [b_] := K7.wr W13 (Or.inl (List.mem_of_getElem? (i := 0) rfl))
        refine own_via st13 ?_
        show own_Go p e below s _ _ _ (T13.setTop (mkF m 60 #[.val (.ref b_), .val (.int pn_), .val (.int (2 : Int32)), .val (.int (1 : Int32)), .unset] []))
        refine own_via (fun _ k => XS.iloadN X13.here hx rfl (hb hby d3_60) rfl k) ?_
        show own_Go p e below s _ _ _ (T13.setTop (mkF m 61 #[.val (.ref b_), .val (.int pn_), .val (.int (2 : Int32)), .val (.int (1 : Int32)), .unset] [(.int (1 : Int32))]))
        refine own_via (fun _ k => XS.iconst X13.here hx rfl (hb hby d3_61) k) ?_
        show own_Go p e below s _ _ _ (T13.setTop (mkF m 62 #[.val (.ref b_), .val (.int pn_), .val (.int (2 : Int32)), .val (.int (1 : Int32)), .unset] [(.int (1 : Int32)), (.int (1 : Int32))]))
        refine own_via (fun _ k => XS.iadd X13.here hx rfl (hb hby d3_62) rfl k) ?_
        show own_Go p e below s _ _ _ (T13.setTop (mkF m 63 #[.val (.ref b_), .val (.int pn_), .val (.int (2 : Int32)), .val (.int (1 : Int32)), .unset] [(.int (2 : Int32))]))
        refine own_via (fun _ k => XS.istore X13.here hx rfl (hb hby d3_63) rfl (l' := #[.val (.ref b_), .val (.int pn_), .val (.int (2 : Int32)), .val (.int (1 : Int32)), .val (.int (2 : Int32))]) rfl k) ?_
        show own_Go p e below s _ _ _ (T13.setTop (mkF m 65 #[.val (.ref b_), .val (.int pn_), .val (.int (2 : Int32)), .val (.int (1 : Int32)), .val (.int (2 : Int32))] []))
        refine own_via (fun _ k => XS.iload X13.here hx rfl (hb hby d3_65) rfl k) ?_
        show own_Go p e below s _ _ _ (T13.setTop (mkF m 67 #[.val (.ref b_), .val (.int pn_), .val (.int (2 : Int32)), .val (.int (1 : Int32)), .val (.int (2 : Int32))] [(.int (2 : Int32))]))
        refine own_via (fun _ k => XS.iloadN X13.here hx rfl (hb hby d3_67) rfl k) ?_
        show own_Go p e below s _ _ _ (T13.setTop (mkF m 68 #[.val (.ref b_), .val (.int pn_), .val (.int (2 : Int32)), .val (.int (1 : Int32)), .val (.int (2 : Int32))] [(.int (2 : Int32)), (.int (2 : Int32))]))
        refine own_via (fun _ k => XS.icmpYes X13.here hx rfl (pc0 := 68) (pc' := 89) rfl (hb hby d3_68) rfl (Jvm.Free.XT.ii_ge_t (by decide)) (by decide) (by decide) k) ?_
        show own_Go p e below s _ _ _ (T13.setTop (mkF m 89 #[.val (.ref b_), .val (.int pn_), .val (.int (2 : Int32)), .val (.int (1 : Int32)), .val (.int (2 : Int32))] []))
        refine own_via (fun _ k => XS.iconst X13.here hx rfl (hb hby d3_89) k) ?_
        show own_Go p e below s _ _ _ (T13.setTop (mkF m 90 #[.val (.ref b_), .val (.int pn_), .val (.int (2 : Int32)), .val (.int (1 : Int32)), .val (.int (2 : Int32))] [(.int (1 : Int32))]))
        exact own_goN X13 hx (t := .boolean) Bd.returns (by simp) (hb hby d3_90) Bd.notSynchronized (by decide) (by decide) (by rw [e13]; exact ⟨by rw [own_nr2, if_neg hc5, if_neg hc9, if_pos hc11] <;> rfl, N13, K13, (by simp only [own_nx2_0, own_nx2_1, if_neg hc5, if_neg hc9, if_pos hc11]; exact V13)⟩)
      · refine own_via (fun _ k => XS.icmpYes X7.here hx rfl (pc0 := 50) (pc' := 91) rfl (hb hby d3_50) rfl (Jvm.Free.XT.ii_ge_t hc11) (by decide) (by decide) k) ?_
        show own_Go p e below s _ _ _ (T7.setTop (mkF m 91 #[.val (.ref b_), .val (.int pn_), .val (.int (2 : Int32)), .val (.int (1 : Int32)), .unset] []))
        refine own_via (fun _ k => XS.iinc X7.here hx rfl (hb hby d3_91) rfl (l' := #[.val (.ref b_), .val (.int pn_), .val (.int (2 : Int32)), .val (.int (0 : Int32)), .unset]) rfl k) ?_
        show own_Go p e below s _ _ _ (T7.setTop (mkF m 94 #[.val (.ref b_), .val (.int pn_), .val (.int (2 : Int32)), .val (.int (0 : Int32)), .unset] []))
        refine own_via (fun _ k => XS.goto X7.here hx rfl (pc0 := 94) (pc' := 36) rfl (hb hby d3_94) (by decide) (by decide) k) ?_
        show own_Go p e below s _ _ _ (T7.setTop (mkF m 36 #[.val (.ref b_), .val (.int pn_), .val (.int (2 : Int32)), .val (.int (0 : Int32)), .unset] []))
        refine own_via (fun _ k => XS.iloadN X7.here hx rfl (hb hby d3_36) rfl k) ?_
        show own_Go p e below s _ _ _ (T7.setTop (mkF m 37 #[.val (.ref b_), .val (.int pn_), .val (.int (2 : Int32)), .val (.int (0 : Int32)), .unset] [(.int (0 : Int32))]))
        refine own_via (fun _ k => XS.ifNo X7.here hx rfl (hb hby d3_37) rfl (Jvm.Free.XT.i0_lt_f (by decide)) k) ?_
        show own_Go p e below s _ _ _ (T7.setTop (mkF m 40 #[.val (.ref b_), .val (.int pn_), .val (.int (2 : Int32)), .val (.int (0 : Int32)), .unset] []))
        refine own_via (fun _ k => XS.aloadN X7.here hx rfl (hb hby d3_40) rfl rfl k) ?_
        show own_Go p e below s _ _ _ (T7.setTop (mkF m 41 #[.val (.ref b_), .val (.int pn_), .val (.int (2 : Int32)), .val (.int (0 : Int32)), .unset] [(.ref b_)]))
        refine own_via (fun _ k => XS.iloadN X7.here hx rfl (hb hby d3_41) rfl k) ?_
        show own_Go p e below s _ _ _ (T7.setTop (mkF m 42 #[.val (.ref b_), .val (.int pn_), .val (.int (2 : Int32)), .val (.int (0 : Int32)), .unset] [(.int (0 : Int32)), (.ref b_)]))
        obtain ⟨cl14, Ar14, q14, S14, M14, H14, G14⟩ := (id V7)
        have hin14 : ¬ ((0 : Int32) < 0 ∨ cl14.slots.size ≤ ((0 : Int32)).toNatClampNeg) := inb_of S14 ⟨by decide, by decide⟩
        have hat14 : cl14.slots[((0 : Int32)).toNatClampNeg]? = some (.int (-u0)) := Has.at H14 hin14 rfl
        refine own_via (fun _ k => X7.iaload hx (j := (0 : Int32)) (v := (.int (-u0))) (by rw [e7]; exact Ar14.1) (State.isArrayOf_alike hZ.alike Ar14.2.1) Ar14.2.2 hin14 hat14 (g := (mkF m 42 #[.val (.ref b_), .val (.int pn_), .val (.int (2 : Int32)), .val (.int (0 : Int32)), .unset] [(.int (0 : Int32)), (.ref b_)])) rfl rfl (hb hby d3_42) _ k) ?_
        show own_Go p e below s _ _ _ (T7.setTop (mkF m 43 #[.val (.ref b_), .val (.int pn_), .val (.int (2 : Int32)), .val (.int (0 : Int32)), .unset] [(.int (-u0))]))
        refine own_via (fun _ k => XS.iloadN X7.here hx rfl (hb hby d3_43) rfl k) ?_
        show own_Go p e below s _ _ _ (T7.setTop (mkF m 44 #[.val (.ref b_), .val (.int pn_), .val (.int (2 : Int32)), .val (.int (0 : Int32)), .unset] [(.int pn_), (.int (-u0))]))
        refine own_via (fun _ k => XS.iloadN X7.here hx rfl (hb hby d3_44) rfl k) ?_
        show own_Go p e below s _ _ _ (T7.setTop (mkF m 45 #[.val (.ref b_), .val (.int pn_), .val (.int (2 : Int32)), .val (.int (0 : Int32)), .unset] [(.int (2 : Int32)), (.int pn_), (.int (-u0))]))
        refine own_via (fun _ k => XS.iconst X7.here hx rfl (hb hby d3_45) k) ?_
        show own_Go p e below s _ _ _ (T7.setTop (mkF m 46 #[.val (.ref b_), .val (.int pn_), .val (.int (2 : Int32)), .val (.int (0 : Int32)), .unset] [(.int (1 : Int32)), (.int (2 : Int32)), (.int pn_), (.int (-u0))]))
        refine own_via (fun _ k => XS.isub X7.here hx rfl (hb hby d3_46) rfl k) ?_
        show own_Go p e below s _ _ _ (T7.setTop (mkF m 47 #[.val (.ref b_), .val (.int pn_), .val (.int (2 : Int32)), .val (.int (0 : Int32)), .unset] [(.int (1 : Int32)), (.int pn_), (.int (-u0))]))
        refine own_via (fun _ k => XS.iloadN X7.here hx rfl (hb hby d3_47) rfl k) ?_
        show own_Go p e below s _ _ _ (T7.setTop (mkF m 48 #[.val (.ref b_), .val (.int pn_), .val (.int (2 : Int32)), .val (.int (0 : Int32)), .unset] [(.int (0 : Int32)), (.int (1 : Int32)), (.int pn_), (.int (-u0))]))
        refine own_via (fun _ k => XS.isub X7.here hx rfl (hb hby d3_48) rfl k) ?_
        show own_Go p e below s _ _ _ (T7.setTop (mkF m 49 #[.val (.ref b_), .val (.int pn_), .val (.int (2 : Int32)), .val (.int (0 : Int32)), .unset] [(.int (1 : Int32)), (.int pn_), (.int (-u0))]))
        refine own_via (fun _ k => XS.isub X7.here hx rfl (hb hby d3_49) rfl k) ?_
        show own_Go p e below s _ _ _ (T7.setTop (mkF m 50 #[.val (.ref b_), .val (.int pn_), .val (.int (2 : Int32)), .val (.int (0 : Int32)), .unset] [(.int (pn_ - (1 : Int32))), (.int (-u0))]))
        by_cases hc15 : (-u0) < (pn_ - (1 : Int32))
        · refine own_via (fun _ k => XS.icmpNo X7.here hx rfl (hb hby d3_50) rfl (Jvm.Free.XT.ii_ge_f hc15) k) ?_
          show own_Go p e below s _ _ _ (T7.setTop (mkF m 53 #[.val (.ref b_), .val (.int pn_), .val (.int (2 : Int32)), .val (.int (0 : Int32)), .unset] []))
          refine own_via (fun _ k => XS.aloadN X7.here hx rfl (hb hby d3_53) rfl rfl k) ?_
          show own_Go p e below s _ _ _ (T7.setTop (mkF m 54 #[.val (.ref b_), .val (.int pn_), .val (.int (2 : Int32)), .val (.int (0 : Int32)), .unset] [(.ref b_)]))
          refine own_via (fun _ k => XS.iloadN X7.here hx rfl (hb hby d3_54) rfl k) ?_
          show own_Go p e below s _ _ _ (T7.setTop (mkF m 55 #[.val (.ref b_), .val (.int pn_), .val (.int (2 : Int32)), .val (.int (0 : Int32)), .unset] [(.int (0 : Int32)), (.ref b_)]))
          refine own_via (fun _ k => Jvm.Free.XT.dup2 X7.here hx rfl (hb hby d3_55) rfl rfl rfl k) ?_
          show own_Go p e below s _ _ _ (T7.setTop (mkF m 56 #[.val (.ref b_), .val (.int pn_), .val (.int (2 : Int32)), .val (.int (0 : Int32)), .unset] [(.int (0 : Int32)), (.ref b_), (.int (0 : Int32)), (.ref b_)]))
          obtain ⟨cl16, Ar16, q16, S16, M16, H16, G16⟩ := (id V7)
          have hin16 : ¬ ((0 : Int32) < 0 ∨ cl16.slots.size ≤ ((0 : Int32)).toNatClampNeg) := inb_of S16 ⟨by decide, by decide⟩
          have hat16 : cl16.slots[((0 : Int32)).toNatClampNeg]? = some (.int (-u0)) := Has.at H16 hin16 rfl
          refine own_via (fun _ k => X7.iaload hx (j := (0 : Int32)) (v := (.int (-u0))) (by rw [e7]; exact Ar16.1) (State.isArrayOf_alike hZ.alike Ar16.2.1) Ar16.2.2 hin16 hat16 (g := (mkF m 56 #[.val (.ref b_), .val (.int pn_), .val (.int (2 : Int32)), .val (.int (0 : Int32)), .unset] [(.int (0 : Int32)), (.ref b_), (.int (0 : Int32)), (.ref b_)])) rfl rfl (hb hby d3_56) _ k) ?_
          show own_Go p e below s _ _ _ (T7.setTop (mkF m 57 #[.val (.ref b_), .val (.int pn_), .val (.int (2 : Int32)), .val (.int (0 : Int32)), .unset] [(.int (-u0)), (.int (0 : Int32)), (.ref b_)]))
          refine own_via (fun _ k => XS.iconst X7.here hx rfl (hb hby d3_57) k) ?_
          show own_Go p e below s _ _ _ (T7.setTop (mkF m 58 #[.val (.ref b_), .val (.int pn_), .val (.int (2 : Int32)), .val (.int (0 : Int32)), .unset] [(.int (1 : Int32)), (.int (-u0)), (.int (0 : Int32)), (.ref b_)]))
          refine own_via (fun _ k => XS.iadd X7.here hx rfl (hb hby d3_58) rfl k) ?_
          show own_Go p e below s _ _ _ (T7.setTop (mkF m 59 #[.val (.ref b_), .val (.int pn_), .val (.int (2 : Int32)), .val (.int (0 : Int32)), .unset] [(.int ((-u0) + (1 : Int32))), (.int (0 : Int32)), (.ref b_)]))
          obtain ⟨cl17, Ar17, q17, S17, M17, H17, G17⟩ := (id V7)
          have hin17 : ¬ ((0 : Int32) < 0 ∨ cl17.slots.size ≤ ((0 : Int32)).toNatClampNeg) := inb_of S17 ⟨by decide, by decide⟩
          obtain ⟨T17, h17, X17, e17, W17, st17⟩ := stI X7 hx hZ e7 Ar17 (j := (0 : Int32)) hin17 (g := (mkF m 59 #[.val (.ref b_), .val (.int pn_), .val (.int (2 : Int32)), .val (.int (0 : Int32)), .unset] [(.int ((-u0) + (1 : Int32))), (.int (0 : Int32)), (.ref b_)])) rfl rfl (hb hby d3_59)
          have V17 : Arv Z h17 b_ k_ .int (2 : Int32) [(.int ((-u0) + (1 : Int32))), (.int (-u1))] d_ := Arv.set Ar17 q17 S17 M17 H17 G17 rfl W17 0 rfl (Nat.le_of_ble_eq_true rfl)
          have N17 := Fr.snoc X17 N7 g_b_
          have Z17 : n0 ≤ h17.size := Nat.le_trans Z7 (Keep.of_wr W17).1
          have K17 : Keep h0 h17 [b_] := K7.wr W17 (Or.inl (List.mem_of_getElem? (i := 0) rfl))
          refine own_via st17 ?_
          show own_Go p e below s _ _ _ (T17.setTop (mkF m 60 #[.val (.ref b_), .val (.int pn_), .val (.int (2 : Int32)), .val (.int (0 : Int32)), .unset] []))
          refine own_via (fun _ k => XS.iloadN X17.here hx rfl (hb hby d3_60) rfl k) ?_
          show own_Go p e below s _ _ _ (T17.setTop (mkF m 61 #[.val (.ref b_), .val (.int pn_), .val (.int (2 : Int32)), .val (.int (0 : Int32)), .unset] [(.int (0 : Int32))]))
          refine own_via (fun _ k => XS.iconst X17.here hx rfl (hb hby d3_61) k) ?_
          show own_Go p e below s _ _ _ (T17.setTop (mkF m 62 #[.val (.ref b_), .val (.int pn_), .val (.int (2 : Int32)), .val (.int (0 : Int32)), .unset] [(.int (1 : Int32)), (.int (0 : Int32))]))
          refine own_via (fun _ k => XS.iadd X17.here hx rfl (hb hby d3_62) rfl k) ?_
          show own_Go p e below s _ _ _ (T17.setTop (mkF m 63 #[.val (.ref b_), .val (.int pn_), .val (.int (2 : Int32)), .val (.int (0 : Int32)), .unset] [(.int (1 : Int32))]))
          refine own_via (fun _ k => XS.istore X17.here hx rfl (hb hby d3_63) rfl (l' := #[.val (.ref b_), .val (.int pn_), .val (.int (2 : Int32)), .val (.int (0 : Int32)), .val (.int (1 : Int32))]) rfl k) ?_
          show own_Go p e below s _ _ _ (T17.setTop (mkF m 65 #[.val (.ref b_), .val (.int pn_), .val (.int (2 : Int32)), .val (.int (0 : Int32)), .val (.int (1 : Int32))] []))
          refine own_via (fun _ k => XS.iload X17.here hx rfl (hb hby d3_65) rfl k) ?_
          show own_Go p e below s _ _ _ (T17.setTop (mkF m 67 #[.val (.ref b_), .val (.int pn_), .val (.int (2 : Int32)), .val (.int (0 : Int32)), .val (.int (1 : Int32))] [(.int (1 : Int32))]))
          refine own_via (fun _ k => XS.iloadN X17.here hx rfl (hb hby d3_67) rfl k) ?_
          show own_Go p e below s _ _ _ (T17.setTop (mkF m 68 #[.val (.ref b_), .val (.int pn_), .val (.int (2 : Int32)), .val (.int (0 : Int32)), .val (.int (1 : Int32))] [(.int (2 : Int32)), (.int (1 : Int32))]))
          refine own_via (fun _ k => XS.icmpNo X17.here hx rfl (hb hby d3_68) rfl (Jvm.Free.XT.ii_ge_f (by decide)) k) ?_
          show own_Go p e below s _ _ _ (T17.setTop (mkF m 71 #[.val (.ref b_), .val (.int pn_), .val (.int (2 : Int32)), .val (.int (0 : Int32)), .val (.int (1 : Int32))] []))
          refine own_via (fun _ k => XS.aloadN X17.here hx rfl (hb hby d3_71) rfl rfl k) ?_
          show own_Go p e below s _ _ _ (T17.setTop (mkF m 72 #[.val (.ref b_), .val (.int pn_), .val (.int (2 : Int32)), .val (.int (0 : Int32)), .val (.int (1 : Int32))] [(.ref b_)]))
          refine own_via (fun _ k => XS.iload X17.here hx rfl (hb hby d3_72) rfl k) ?_
          show own_Go p e below s _ _ _ (T17.setTop (mkF m 74 #[.val (.ref b_), .val (.int pn_), .val (.int (2 : Int32)), .val (.int (0 : Int32)), .val (.int (1 : Int32))] [(.int (1 : Int32)), (.ref b_)]))
          refine own_via (fun _ k => XS.aloadN X17.here hx rfl (hb hby d3_74) rfl rfl k) ?_
          show own_Go p e below s _ _ _ (T17.setTop (mkF m 75 #[.val (.ref b_), .val (.int pn_), .val (.int (2 : Int32)), .val (.int (0 : Int32)), .val (.int (1 : Int32))] [(.ref b_), (.int (1 : Int32)), (.ref b_)]))
          refine own_via (fun _ k => XS.iload X17.here hx rfl (hb hby d3_75) rfl k) ?_
          show own_Go p e below s _ _ _ (T17.setTop (mkF m 77 #[.val (.ref b_), .val (.int pn_), .val (.int (2 : Int32)), .val (.int (0 : Int32)), .val (.int (1 : Int32))] [(.int (1 : Int32)), (.ref b_), (.int (1 : Int32)), (.ref b_)]))
          refine own_via (fun _ k => XS.iconst X17.here hx rfl (hb hby d3_77) k) ?_
          show own_Go p e below s _ _ _ (T17.setTop (mkF m 78 #[.val (.ref b_), .val (.int pn_), .val (.int (2 : Int32)), .val (.int (0 : Int32)), .val (.int (1 : Int32))] [(.int (1 : Int32)), (.int (1 : Int32)), (.ref b_), (.int (1 : Int32)), (.ref b_)]))
          refine own_via (fun _ k => XS.isub X17.here hx rfl (hb hby d3_78) rfl k) ?_
          show own_Go p e below s _ _ _ (T17.setTop (mkF m 79 #[.val (.ref b_), .val (.int pn_), .val (.int (2 : Int32)), .val (.int (0 : Int32)), .val (.int (1 : Int32))] [(.int (0 : Int32)), (.ref b_), (.int (1 : Int32)), (.ref b_)]))
          obtain ⟨cl18, Ar18, q18, S18, M18, H18, G18⟩ := (id V17)
          have hin18 : ¬ ((0 : Int32) < 0 ∨ cl18.slots.size ≤ ((0 : Int32)).toNatClampNeg) := inb_of S18 ⟨by decide, by decide⟩
          have hat18 : cl18.slots[((0 : Int32)).toNatClampNeg]? = some (.int ((-u0) + (1 : Int32))) := Has.at H18 hin18 rfl
          refine own_via (fun _ k => X17.iaload hx (j := (0 : Int32)) (v := (.int ((-u0) + (1 : Int32)))) (by rw [e17]; exact Ar18.1) (State.isArrayOf_alike hZ.alike Ar18.2.1) Ar18.2.2 hin18 hat18 (g := (mkF m 79 #[.val (.ref b_), .val (.int pn_), .val (.int (2 : Int32)), .val (.int (0 : Int32)), .val (.int (1 : Int32))] [(.int (0 : Int32)), (.ref b_), (.int (1 : Int32)), (.ref b_)])) rfl rfl (hb hby d3_79) _ k) ?_
          show own_Go p e below s _ _ _ (T17.setTop (mkF m 80 #[.val (.ref b_), .val (.int pn_), .val (.int (2 : Int32)), .val (.int (0 : Int32)), .val (.int (1 : Int32))] [(.int ((-u0) + (1 : Int32))), (.int (1 : Int32)), (.ref b_)]))
          refine own_via (fun _ k => XS.iconst X17.here hx rfl (hb hby d3_80) k) ?_
          show own_Go p e below s _ _ _ (T17.setTop (mkF m 81 #[.val (.ref b_), .val (.int pn_), .val (.int (2 : Int32)), .val (.int (0 : Int32)), .val (.int (1 : Int32))] [(.int (1 : Int32)), (.int ((-u0) + (1 : Int32))), (.int (1 : Int32)), (.ref b_)]))
          refine own_via (fun _ k => XS.iadd X17.here hx rfl (hb hby d3_81) rfl k) ?_
          show own_Go p e below s _ _ _ (T17.setTop (mkF m 82 #[.val (.ref b_), .val (.int pn_), .val (.int (2 : Int32)), .val (.int (0 : Int32)), .val (.int (1 : Int32))] [(.int (((-u0) + (1 : Int32)) + (1 : Int32))), (.int (1 : Int32)), (.ref b_)]))
          obtain ⟨cl19, Ar19, q19, S19, M19, H19, G19⟩ := (id V17)
          have hin19 : ¬ ((1 : Int32) < 0 ∨ cl19.slots.size ≤ ((1 : Int32)).toNatClampNeg) := inb_of S19 ⟨by decide, by decide⟩
          obtain ⟨T19, h19, X19, e19, W19, st19⟩ := stI X17 hx hZ e17 Ar19 (j := (1 : Int32)) hin19 (g := (mkF m 82 #[.val (.ref b_), .val (.int pn_), .val (.int (2 : Int32)), .val (.int (0 : Int32)), .val (.int (1 : Int32))] [(.int (((-u0) + (1 : Int32)) + (1 : Int32))), (.int (1 : Int32)), (.ref b_)])) rfl rfl (hb hby d3_82)
          have V19 : Arv Z h19 b_ k_ .int (2 : Int32) [(.int ((-u0) + (1 : Int32))), (.int (((-u0) + (1 : Int32)) + (1 : Int32)))] d_ := Arv.set Ar19 q19 S19 M19 H19 G19 rfl W19 1 rfl (Nat.le_of_ble_eq_true rfl)
          have N19 := Fr.snoc X19 N17 g_b_
          have Z19 : n0 ≤ h19.size := Nat.le_trans Z17 (Keep.of_wr W19).1
          have K19 : Keep h0 h19 [b_] := K17.wr W19 (Or.inl (List.mem_of_getElem? (i := 0) rfl))
          refine own_via st19 ?_
          show own_Go p e below s _ _ _ (T19.setTop (mkF m 83 #[.val (.ref b_), .val (.int pn_), .val (.int (2 : Int32)), .val (.int (0 : Int32)), .val (.int (1 : Int32))] []))
          refine own_via (fun _ k => XS.iinc X19.here hx rfl (hb hby d3_83) rfl (l' := #[.val (.ref b_), .val (.int pn_), .val (.int (2 : Int32)), .val (.int (0 : Int32)), .val (.int (2 : Int32))]) rfl k) ?_
          show own_Go p e below s _ _ _ (T19.setTop (mkF m 86 #[.val (.ref b_), .val (.int pn_), .val (.int (2 : Int32)), .val (.int (0 : Int32)), .val (.int (2 : Int32))] []))
          refine own_via (fun _ k => XS.goto X19.here hx rfl (pc0 := 86) (pc' := 65) rfl (hb hby d3_86) (by decide) (by decide) k) ?_
          show own_Go p e below s _ _ _ (T19.setTop (mkF m 65 #[.val (.ref b_), .val (.int pn_), .val (.int (2 : Int32)), .val (.int (0 : Int32)), .val (.int (2 : Int32))] []))
          refine own_via (fun _ k => XS.iload X19.here hx rfl (hb hby d3_65) rfl k) ?_
          show own_Go p e below s _ _ _ (T19.setTop (mkF m 67 #[.val (.ref b_), .val (.int pn_), .val (.int (2 : Int32)), .val (.int (0 : Int32)), .val (.int (2 : Int32))] [(.int (2 : Int32))]))
          refine own_via (fun _ k => XS.iloadN X19.here hx rfl (hb hby d3_67) rfl k) ?_
          show own_Go p e below s _ _ _ (T19.setTop (mkF m 68 #[.val (.ref b_), .val (.int pn_), .val (.int (2 : Int32)), .val (.int (0 : Int32)), .val (.int (2 : Int32))] [(.int (2 : Int32)), (.int (2 : Int32))]))
          refine own_via (fun _ k => XS.icmpYes X19.here hx rfl (pc0 := 68) (pc' := 89) rfl (hb hby d3_68) rfl (Jvm.Free.XT.ii_ge_t (by decide)) (by decide) (by decide) k) ?_
          show own_Go p e below s _ _ _ (T19.setTop (mkF m 89 #[.val (.ref b_), .val (.int pn_), .val (.int (2 : Int32)), .val (.int (0 : Int32)), .val (.int (2 : Int32))] []))
          refine own_via (fun _ k => XS.iconst X19.here hx rfl (hb hby d3_89) k) ?_
          show own_Go p e below s _ _ _ (T19.setTop (mkF m 90 #[.val (.ref b_), .val (.int pn_), .val (.int (2 : Int32)), .val (.int (0 : Int32)), .val (.int (2 : Int32))] [(.int (1 : Int32))]))
          exact own_goN X19 hx (t := .boolean) Bd.returns (by simp) (hb hby d3_90) Bd.notSynchronized (by decide) (by decide) (by rw [e19]; exact ⟨by rw [own_nr2, if_neg hc5, if_neg hc9, if_neg hc11, if_pos hc15] <;> rfl, N19, K19, (by simp only [own_nx2_0, own_nx2_1, if_neg hc5, if_neg hc9, if_neg hc11, if_pos hc15]; exact V19)⟩)
        · refine own_via (fun _ k => XS.icmpYes X7.here hx rfl (pc0 := 50) (pc' := 91) rfl (hb hby d3_50) rfl (Jvm.Free.XT.ii_ge_t hc15) (by decide) (by decide) k) ?_
          show own_Go p e below s _ _ _ (T7.setTop (mkF m 91 #[.val (.ref b_), .val (.int pn_), .val (.int (2 : Int32)), .val (.int (0 : Int32)), .unset] []))
          refine own_via (fun _ k => XS.iinc X7.here hx rfl (hb hby d3_91) rfl (l' := #[.val (.ref b_), .val (.int pn_), .val (.int (2 : Int32)), .val (.int (-1 : Int32)), .unset]) rfl k) ?_
          show own_Go p e below s _ _ _ (T7.setTop (mkF m 94 #[.val (.ref b_), .val (.int pn_), .val (.int (2 : Int32)), .val (.int (-1 : Int32)), .unset] []))
          refine own_via (fun _ k => XS.goto X7.here hx rfl (pc0 := 94) (pc' := 36) rfl (hb hby d3_94) (by decide) (by decide) k) ?_
          show own_Go p e below s _ _ _ (T7.setTop (mkF m 36 #[.val (.ref b_), .val (.int pn_), .val (.int (2 : Int32)), .val (.int (-1 : Int32)), .unset] []))
          refine own_via (fun _ k => XS.iloadN X7.here hx rfl (hb hby d3_36) rfl k) ?_
          show own_Go p e below s _ _ _ (T7.setTop (mkF m 37 #[.val (.ref b_), .val (.int pn_), .val (.int (2 : Int32)), .val (.int (-1 : Int32)), .unset] [(.int (-1 : Int32))]))
          refine own_via (fun _ k => XS.ifYes X7.here hx rfl (pc0 := 37) (pc' := 97) rfl (hb hby d3_37) rfl (Jvm.Free.XT.i0_lt_t (by decide)) (by decide) (by decide) k) ?_
          show own_Go p e below s _ _ _ (T7.setTop (mkF m 97 #[.val (.ref b_), .val (.int pn_), .val (.int (2 : Int32)), .val (.int (-1 : Int32)), .unset] []))
          refine own_via (fun _ k => XS.iconst X7.here hx rfl (hb hby d3_97) k) ?_
          show own_Go p e below s _ _ _ (T7.setTop (mkF m 98 #[.val (.ref b_), .val (.int pn_), .val (.int (2 : Int32)), .val (.int (-1 : Int32)), .unset] [(.int (0 : Int32))]))
          exact own_goN X7 hx (t := .boolean) Bd.returns (by simp) (hb hby d3_98) Bd.notSynchronized (by decide) (by decide) (by rw [e7]; exact ⟨by rw [own_nr2, if_neg hc5, if_neg hc9, if_neg hc11, if_neg hc15] <;> rfl, N7, K7, (by simp only [own_nx2_0, own_nx2_1, if_neg hc5, if_neg hc9, if_neg hc11, if_neg hc15]; exact V7)⟩)
theorem d1_85 : decode method_7_code 85 = .ok (.lload_n 3, 1) := by decide +kernel
theorem d1_86 : decode method_7_code 86 = .ok (.iload_n 2, 1) := by decide +kernel
theorem d1_87 : decode method_7_code 87 = .ok (.i2l, 1) := by decide +kernel
theorem d1_88 : decode method_7_code 88 = .ok (.aload_n 0, 1) := by decide +kernel
theorem d1_89 : decode method_7_code 89 = .ok (.iconst 2, 1) := by decide +kernel
theorem d1_90 : decode method_7_code 90 = .ok (.iaload, 1) := by decide +kernel
theorem d1_91 : decode method_7_code 91 = .ok (.invokestatic 28, 3) := by decide +kernel
theorem d1_94 : decode method_7_code 94 = .ok (.lsub, 1) := by decide +kernel
theorem d1_95 : decode method_7_code 95 = .ok (.iload_n 1, 1) := by decide +kernel
theorem d1_96 : decode method_7_code 96 = .ok (.iconst 2, 1) := by decide +kernel
theorem d1_97 : decode method_7_code 97 = .ok (.isub, 1) := by decide +kernel
theorem d1_98 : decode method_7_code 98 = .ok (.invokestatic 14, 3) := by decide +kernel
theorem d1_101 : decode method_7_code 101 = .ok (.ladd, 1) := by decide +kernel
theorem d1_102 : decode method_7_code 102 = .ok (.lstore_n 3, 1) := by decide +kernel
theorem d1_103 : decode method_7_code 103 = .ok (.aload_n 0, 1) := by decide +kernel
theorem d1_104 : decode method_7_code 104 = .ok (.iconst 2, 1) := by decide +kernel
theorem d1_105 : decode method_7_code 105 = .ok (.iaload, 1) := by decide +kernel
theorem d1_106 : decode method_7_code 106 = .ok (.ifCond .ge 9, 3) := by decide +kernel
theorem d1_109 : decode method_7_code 109 = .ok (.lload 5, 2) := by decide +kernel
theorem d1_111 : decode method_7_code 111 = .ok (.lconst 1, 1) := by decide +kernel
theorem d1_112 : decode method_7_code 112 = .ok (.ladd, 1) := by decide +kernel
theorem d1_113 : decode method_7_code 113 = .ok (.lstore 5, 2) := by decide +kernel
def own_rk3 (u0 : Int32) (u1 : Int32) (u2 : Int32) (pn_ : Int32) : Int64 := ((o_lshl (((own_ch (o_i2l pn_) (3 : Int32)) - (1 : Int64)) - ((((0 : Int64) + (own_ch ((o_i2l pn_) - (own_ft u0)) (3 : Int32))) + (own_ch ((o_i2l pn_) - (own_ft u1)) (2 : Int32))) + (own_ch ((o_i2l pn_) - (own_ft u2)) (1 : Int32)))) (3 : Int32)) + (if u2 < (0 : Int32) then ((if u1 < (0 : Int32) then ((if u0 < (0 : Int32) then ((0 : Int64) + (o_lshl (1 : Int64) (2 : Int32))) else (0 : Int64)) + (o_lshl (1 : Int64) (1 : Int32))) else (if u0 < (0 : Int32) then ((0 : Int64) + (o_lshl (1 : Int64) (2 : Int32))) else (0 : Int64))) + (1 : Int64)) else (if u1 < (0 : Int32) then ((if u0 < (0 : Int32) then ((0 : Int64) + (o_lshl (1 : Int64) (2 : Int32))) else (0 : Int64)) + (o_lshl (1 : Int64) (1 : Int32))) else (if u0 < (0 : Int32) then ((0 : Int64) + (o_lshl (1 : Int64) (2 : Int32))) else (0 : Int64)))))
theorem ef_r3 (m : MethodId) (x0 : Addr) (x1 : Int32) (x2 : Int32) : entryFrame m #[(.ref x0), (.int x1), (.int x2)] 9 = mkF m 0 #[.val (.ref x0), .val (.int x1), .val (.int x2), .unset, .unset, .unset, .unset, .unset, .unset] [] := by first | (simp [entryFrame, mkF, argsToLocals, Value.category]; done) | rfl
def Qr3 (Z : State) (b_ : Addr) (pt_ : Int32) (pn_ : Int32) (k_ : ClassId) (d_ : Value) (u0 : Int32) (u1 : Int32) (u2 : Int32) (h0 : Heap) (n0 : Nat) (v : Option Value) (h : Heap) (L : List Loc) : Prop := v = some (.long (own_rk3 u0 u1 u2 pn_)) ∧ Fr n0 L ∧ h = h0
set_option maxRecDepth 65536 in
set_option maxHeartbeats 40000000 in
theorem rmr3 (l : Launch) (Z : State) (a0 : Array Value) (hw : ∀ d ∈ tables_1, d.before a0 Z = true) (ws : List Jvm.Cond) (b_ : Addr) (pt_ : Int32) (pn_ : Int32) (k_ : ClassId) (d_ : Value) (u0 : Int32) (u1 : Int32) (u2 : Int32) (h0 : Heap) (n0 : Nat) (Z0 : n0 ≤ h0.size) (V_b_ : Arv Z h0 b_ k_ .int (3 : Int32) [(.int u0), (.int u1), (.int u2)] d_) (hp1 : pt_ = (3 : Int32)) :
    MetFree l (⟨"com/example/unalike/unalike/engine/TSetsNextPinLaw", "rank", "([III)J"⟩ : MethodName) (head1 (Jvm.Cond.code (⟨"com/example/unalike/unalike/engine/TSetsNextPinLaw", "rank", "([III)J"⟩ : MethodName) method_7_code 9 (some .long) :: ws) ({ frames := 1, cells := 0, slots := 0, locals := 16 } : Room)) (fun q_ U => q_ = #[(.ref b_), (.int pt_), (.int pn_)] ∧ Z.Warmed39 U.vm ∧ U.heap = h0) (fun _ _ _ _ _ => True) (fun _ U o U' => ∃ v L, o = .returned v ∧ Qr3 Z b_ pt_ pn_ k_ d_ u0 u1 u2 h0 n0 v U'.heap L ∧ FrameEnd U o U' L ({ frames := 1, cells := 0, slots := 0, locals := 16 } : Room).cells ({ frames := 1, cells := 0, slots := 0, locals := 16 } : Room).slots) := by
  refine MetFree.of_bodySF (plainFor_of_name pn_0) hisR ?_
  intro p e s m args below meth c s₁ Bd hml0 hP hK
  obtain ⟨rfl, hZ, hh⟩ := hP
  have hx := Bd.exec
  have hby := Bd.bytes
  have hml : c.maxLocals = 9 := hml0
  have hown : s.vm.findClass "com/example/unalike/unalike/engine/TSetsNextPinLaw" = some m.cls := findClass_of_methodNamed Bd.named
  have hnm := (name_of_methodNamed Bd.named Bd.method).1
  have X0 : Stand p l e ({ frames := 1, cells := 0, slots := 0, locals := 16 } : Room) s m #[(.ref b_), (.int pt_), (.int pn_)] below meth c s₁ [] 0 0 := Stand.of_body Bd
  have e0 : s₁.heap = h0 := by rw [← hh, Bd.state]; rfl
  have N0 := Fr.nil n0
  show own_Go p e below s (Qr3 Z b_ pt_ pn_ k_ d_ u0 u1 u2 h0 n0) ({ frames := 1, cells := 0, slots := 0, locals := 16 } : Room).cells ({ frames := 1, cells := 0, slots := 0, locals := 16 } : Room).slots (s₁.setTop (entryFrame m #[(.ref b_), (.int pt_), (.int pn_)] 9))
  refine own_via (fun t k => castTop (ef_r3 m b_ pt_ pn_) k) ?_
  show own_Go p e below s _ _ _ (s₁.setTop (mkF m 0 #[.val (.ref b_), .val (.int pt_), .val (.int pn_), .unset, .unset, .unset, .unset, .unset, .unset] []))
  subst hp1
  show own_Go p e below s _ _ _ (s₁.setTop (mkF m 0 #[.val (.ref b_), .val (.int (3 : Int32)), .val (.int pn_), .unset, .unset, .unset, .unset, .unset, .unset] []))
  refine own_via (fun _ k => XS.lconst X0.here hx rfl (hb hby d1_0) k) ?_
  show own_Go p e below s _ _ _ (s₁.setTop (mkF m 1 #[.val (.ref b_), .val (.int (3 : Int32)), .val (.int pn_), .unset, .unset, .unset, .unset, .unset, .unset] [(.long (0 : Int64))]))
  refine own_via (fun _ k => XS.lstoreN X0.here hx rfl (hb hby d1_1) rfl (l' := #[.val (.ref b_), .val (.int (3 : Int32)), .val (.int pn_), .val (.long (0 : Int64)), .second, .unset, .unset, .unset, .unset]) rfl k) ?_
  show own_Go p e below s _ _ _ (s₁.setTop (mkF m 2 #[.val (.ref b_), .val (.int (3 : Int32)), .val (.int pn_), .val (.long (0 : Int64)), .second, .unset, .unset, .unset, .unset] []))
  refine own_via (fun _ k => XS.lconst X0.here hx rfl (hb hby d1_2) k) ?_
  show own_Go p e below s _ _ _ (s₁.setTop (mkF m 3 #[.val (.ref b_), .val (.int (3 : Int32)), .val (.int pn_), .val (.long (0 : Int64)), .second, .unset, .unset, .unset, .unset] [(.long (0 : Int64))]))
  refine own_via (fun _ k => XS.lstore X0.here hx rfl (hb hby d1_3) rfl (l' := #[.val (.ref b_), .val (.int (3 : Int32)), .val (.int pn_), .val (.long (0 : Int64)), .second, .val (.long (0 : Int64)), .second, .unset, .unset]) rfl k) ?_
  show own_Go p e below s _ _ _ (s₁.setTop (mkF m 5 #[.val (.ref b_), .val (.int (3 : Int32)), .val (.int pn_), .val (.long (0 : Int64)), .second, .val (.long (0 : Int64)), .second, .unset, .unset] []))
  refine own_via (fun _ k => XS.iloadN X0.here hx rfl (hb hby d1_5) rfl k) ?_
  show own_Go p e below s _ _ _ (s₁.setTop (mkF m 6 #[.val (.ref b_), .val (.int (3 : Int32)), .val (.int pn_), .val (.long (0 : Int64)), .second, .val (.long (0 : Int64)), .second, .unset, .unset] [(.int (3 : Int32))]))
  refine own_via (fun _ k => XS.ifNo X0.here hx rfl (hb hby d1_6) rfl (Jvm.Free.XT.i0_le_f (by decide)) k) ?_
  show own_Go p e below s _ _ _ (s₁.setTop (mkF m 9 #[.val (.ref b_), .val (.int (3 : Int32)), .val (.int pn_), .val (.long (0 : Int64)), .second, .val (.long (0 : Int64)), .second, .unset, .unset] []))
  refine own_via (fun _ k => XS.lloadN X0.here hx rfl (hb hby d1_9) rfl k) ?_
  show own_Go p e below s _ _ _ (s₁.setTop (mkF m 10 #[.val (.ref b_), .val (.int (3 : Int32)), .val (.int pn_), .val (.long (0 : Int64)), .second, .val (.long (0 : Int64)), .second, .unset, .unset] [(.long (0 : Int64))]))
  refine own_via (fun _ k => XS.iloadN X0.here hx rfl (hb hby d1_10) rfl k) ?_
  show own_Go p e below s _ _ _ (s₁.setTop (mkF m 11 #[.val (.ref b_), .val (.int (3 : Int32)), .val (.int pn_), .val (.long (0 : Int64)), .second, .val (.long (0 : Int64)), .second, .unset, .unset] [(.int pn_), (.long (0 : Int64))]))
  refine own_via (fun _ k => XS.i2l X0.here hx rfl (hb hby d1_11) rfl k) ?_
  show own_Go p e below s _ _ _ (s₁.setTop (mkF m 12 #[.val (.ref b_), .val (.int (3 : Int32)), .val (.int pn_), .val (.long (0 : Int64)), .second, .val (.long (0 : Int64)), .second, .unset, .unset] [(.long (o_i2l pn_)), (.long (0 : Int64))]))
  refine own_via (fun _ k => XS.aloadN X0.here hx rfl (hb hby d1_12) rfl rfl k) ?_
  show own_Go p e below s _ _ _ (s₁.setTop (mkF m 13 #[.val (.ref b_), .val (.int (3 : Int32)), .val (.int pn_), .val (.long (0 : Int64)), .second, .val (.long (0 : Int64)), .second, .unset, .unset] [(.ref b_), (.long (o_i2l pn_)), (.long (0 : Int64))]))
  refine own_via (fun _ k => XS.iconst X0.here hx rfl (hb hby d1_13) k) ?_
  show own_Go p e below s _ _ _ (s₁.setTop (mkF m 14 #[.val (.ref b_), .val (.int (3 : Int32)), .val (.int pn_), .val (.long (0 : Int64)), .second, .val (.long (0 : Int64)), .second, .unset, .unset] [(.int (0 : Int32)), (.ref b_), (.long (o_i2l pn_)), (.long (0 : Int64))]))
  obtain ⟨cl1, Ar1, q1, S1, M1, H1, G1⟩ := (id V_b_)
  have hin1 : ¬ ((0 : Int32) < 0 ∨ cl1.slots.size ≤ ((0 : Int32)).toNatClampNeg) := inb_of S1 ⟨by decide, by decide⟩
  have hat1 : cl1.slots[((0 : Int32)).toNatClampNeg]? = some (.int u0) := Has.at H1 hin1 rfl
  refine own_via (fun _ k => X0.iaload hx (j := (0 : Int32)) (v := (.int u0)) (by rw [e0]; exact Ar1.1) (State.isArrayOf_alike hZ.alike Ar1.2.1) Ar1.2.2 hin1 hat1 (g := (mkF m 14 #[.val (.ref b_), .val (.int (3 : Int32)), .val (.int pn_), .val (.long (0 : Int64)), .second, .val (.long (0 : Int64)), .second, .unset, .unset] [(.int (0 : Int32)), (.ref b_), (.long (o_i2l pn_)), (.long (0 : Int64))])) rfl rfl (hb hby d1_14) _ k) ?_
  show own_Go p e below s _ _ _ (s₁.setTop (mkF m 15 #[.val (.ref b_), .val (.int (3 : Int32)), .val (.int pn_), .val (.long (0 : Int64)), .second, .val (.long (0 : Int64)), .second, .unset, .unset] [(.int u0), (.long (o_i2l pn_)), (.long (0 : Int64))]))
  obtain ⟨_, _, ⟨T2, L2, k2, n2⟩, -, X2, ⟨Lc2, hQ2, l2, y2, z2⟩, st2⟩ := Jvm.LawKit.callS X0 hx (y := (⟨"com/example/unalike/unalike/engine/TSetsNextPinLaw", "feat", "(I)J"⟩ : MethodName)) hown (mvT hZ (hw _ (List.mem_of_getElem? (i := 13) rfl))) (mvT hZ (hw _ (List.mem_of_getElem? (i := 14) rfl))) (mvT hZ (hw _ (List.mem_of_getElem? (i := 4) rfl))) (mvT hZ (hw _ (List.mem_of_getElem? (i := 15) rfl))) (by decide) (backOf (W := 4) (rm4 l Z a0 hw [] u0 h0 n0 Z0 ) hZ (hw _ (List.mem_of_getElem? (i := 15) rfl)) (hw _ (List.mem_of_getElem? (i := 4) rfl)) (by decide) (by decide)) (g := (mkF m 15 #[.val (.ref b_), .val (.int (3 : Int32)), .val (.int pn_), .val (.long (0 : Int64)), .second, .val (.long (0 : Int64)), .second, .unset, .unset] [(.int u0), (.long (o_i2l pn_)), (.long (0 : Int64))])) rfl (by rw [hml]; rfl) (argsL := [(.int u0)]) (rest := [(.long (o_i2l pn_)), (.long (0 : Int64))]) (lenOf pd_0 rfl) rfl (by show 2 * 0 + _ ≤ _; exact Nat.le_of_eq rfl) (hb hby d1_15) (fun _ _ => ⟨rfl, e0, (by decide : 0 + 0 ≤ _), (by decide : 0 + 0 ≤ _)⟩)
  dsimp only [Pt.U, Pt.locs, Pt.cells, Pt.slots] at X2 l2 y2 z2 st2 hQ2
  subst l2 y2 z2
  obtain ⟨rfl, N2q, e2⟩ := hQ2
  have N2 := Fr.app N0 N2q
  refine own_via st2 ?_
  show own_Go p e below s _ _ _ (T2.setTop (mkF m 18 #[.val (.ref b_), .val (.int (3 : Int32)), .val (.int pn_), .val (.long (0 : Int64)), .second, .val (.long (0 : Int64)), .second, .unset, .unset] [(.long (own_ft u0)), (.long (o_i2l pn_)), (.long (0 : Int64))]))
  refine own_via (fun _ k => XS.lsub X2.here hx rfl (hb hby d1_18) rfl k) ?_
  show own_Go p e below s _ _ _ (T2.setTop (mkF m 19 #[.val (.ref b_), .val (.int (3 : Int32)), .val (.int pn_), .val (.long (0 : Int64)), .second, .val (.long (0 : Int64)), .second, .unset, .unset] [(.long ((o_i2l pn_) - (own_ft u0))), (.long (0 : Int64))]))
  refine own_via (fun _ k => XS.iloadN X2.here hx rfl (hb hby d1_19) rfl k) ?_
  show own_Go p e below s _ _ _ (T2.setTop (mkF m 20 #[.val (.ref b_), .val (.int (3 : Int32)), .val (.int pn_), .val (.long (0 : Int64)), .second, .val (.long (0 : Int64)), .second, .unset, .unset] [(.int (3 : Int32)), (.long ((o_i2l pn_) - (own_ft u0))), (.long (0 : Int64))]))
  obtain ⟨_, _, ⟨T3, L3, k3, n3⟩, -, X3, ⟨Lc3, hQ3, l3, y3, z3⟩, st3⟩ := Jvm.LawKit.callS X2 hx (y := (⟨"com/example/unalike/unalike/engine/TSetsNextPinLaw", "choose", "(JI)J"⟩ : MethodName)) hown (mvT hZ (hw _ (List.mem_of_getElem? (i := 6) rfl))) (mvT hZ (hw _ (List.mem_of_getElem? (i := 7) rfl))) (mvT hZ (hw _ (List.mem_of_getElem? (i := 4) rfl))) (mvT hZ (hw _ (List.mem_of_getElem? (i := 8) rfl))) (by decide) (backOf (W := 2) (rm2 l Z a0 hw [] ((o_i2l pn_) - (own_ft u0)) (3 : Int32) h0 n0 Z0 ) hZ (hw _ (List.mem_of_getElem? (i := 8) rfl)) (hw _ (List.mem_of_getElem? (i := 4) rfl)) (by decide) (by decide)) (g := (mkF m 20 #[.val (.ref b_), .val (.int (3 : Int32)), .val (.int pn_), .val (.long (0 : Int64)), .second, .val (.long (0 : Int64)), .second, .unset, .unset] [(.int (3 : Int32)), (.long ((o_i2l pn_) - (own_ft u0))), (.long (0 : Int64))])) rfl (by rw [hml]; rfl) (argsL := [(.long ((o_i2l pn_) - (own_ft u0))), (.int (3 : Int32))]) (rest := [(.long (0 : Int64))]) (lenOf pd_1 rfl) rfl (by show 2 * 0 + _ ≤ _; exact Nat.le_of_eq rfl) (hb hby d1_20) (fun _ _ => ⟨rfl, e2, (by decide : 0 + 0 ≤ _), (by decide : 0 + 0 ≤ _)⟩)
  dsimp only [Pt.U, Pt.locs, Pt.cells, Pt.slots] at X3 l3 y3 z3 st3 hQ3
  subst l3 y3 z3
  obtain ⟨rfl, N3q, e3⟩ := hQ3
  have N3 := Fr.app N2 N3q
  refine own_via st3 ?_
  show own_Go p e below s _ _ _ (T3.setTop (mkF m 23 #[.val (.ref b_), .val (.int (3 : Int32)), .val (.int pn_), .val (.long (0 : Int64)), .second, .val (.long (0 : Int64)), .second, .unset, .unset] [(.long (own_ch ((o_i2l pn_) - (own_ft u0)) (3 : Int32))), (.long (0 : Int64))]))
  refine own_via (fun _ k => XS.ladd X3.here hx rfl (hb hby d1_23) rfl k) ?_
  show own_Go p e below s _ _ _ (T3.setTop (mkF m 24 #[.val (.ref b_), .val (.int (3 : Int32)), .val (.int pn_), .val (.long (0 : Int64)), .second, .val (.long (0 : Int64)), .second, .unset, .unset] [(.long ((0 : Int64) + (own_ch ((o_i2l pn_) - (own_ft u0)) (3 : Int32))))]))
  refine own_via (fun _ k => XS.lstoreN X3.here hx rfl (hb hby d1_24) rfl (l' := #[.val (.ref b_), .val (.int (3 : Int32)), .val (.int pn_), .val (.long ((0 : Int64) + (own_ch ((o_i2l pn_) - (own_ft u0)) (3 : Int32)))), .second, .val (.long (0 : Int64)), .second, .unset, .unset]) rfl k) ?_
  show own_Go p e below s _ _ _ (T3.setTop (mkF m 25 #[.val (.ref b_), .val (.int (3 : Int32)), .val (.int pn_), .val (.long ((0 : Int64) + (own_ch ((o_i2l pn_) - (own_ft u0)) (3 : Int32)))), .second, .val (.long (0 : Int64)), .second, .unset, .unset] []))
  refine own_via (fun _ k => XS.aloadN X3.here hx rfl (hb hby d1_25) rfl rfl k) ?_
  show own_Go p e below s _ _ _ (T3.setTop (mkF m 26 #[.val (.ref b_), .val (.int (3 : Int32)), .val (.int pn_), .val (.long ((0 : Int64) + (own_ch ((o_i2l pn_) - (own_ft u0)) (3 : Int32)))), .second, .val (.long (0 : Int64)), .second, .unset, .unset] [(.ref b_)]))
  refine own_via (fun _ k => XS.iconst X3.here hx rfl (hb hby d1_26) k) ?_
  show own_Go p e below s _ _ _ (T3.setTop (mkF m 27 #[.val (.ref b_), .val (.int (3 : Int32)), .val (.int pn_), .val (.long ((0 : Int64) + (own_ch ((o_i2l pn_) - (own_ft u0)) (3 : Int32)))), .second, .val (.long (0 : Int64)), .second, .unset, .unset] [(.int (0 : Int32)), (.ref b_)]))
  obtain ⟨cl4, Ar4, q4, S4, M4, H4, G4⟩ := (id V_b_)
  have hin4 : ¬ ((0 : Int32) < 0 ∨ cl4.slots.size ≤ ((0 : Int32)).toNatClampNeg) := inb_of S4 ⟨by decide, by decide⟩
  have hat4 : cl4.slots[((0 : Int32)).toNatClampNeg]? = some (.int u0) := Has.at H4 hin4 rfl
  refine own_via (fun _ k => X3.iaload hx (j := (0 : Int32)) (v := (.int u0)) (by rw [e3]; exact Ar4.1) (State.isArrayOf_alike hZ.alike Ar4.2.1) Ar4.2.2 hin4 hat4 (g := (mkF m 27 #[.val (.ref b_), .val (.int (3 : Int32)), .val (.int pn_), .val (.long ((0 : Int64) + (own_ch ((o_i2l pn_) - (own_ft u0)) (3 : Int32)))), .second, .val (.long (0 : Int64)), .second, .unset, .unset] [(.int (0 : Int32)), (.ref b_)])) rfl rfl (hb hby d1_27) _ k) ?_
  show own_Go p e below s _ _ _ (T3.setTop (mkF m 28 #[.val (.ref b_), .val (.int (3 : Int32)), .val (.int pn_), .val (.long ((0 : Int64) + (own_ch ((o_i2l pn_) - (own_ft u0)) (3 : Int32)))), .second, .val (.long (0 : Int64)), .second, .unset, .unset] [(.int u0)]))
  have st5 : ∀ t, Steps p.tables e below (T3.setTop (mkF m 41 #[.val (.ref b_), .val (.int (3 : Int32)), .val (.int pn_), .val (.long ((0 : Int64) + (own_ch ((o_i2l pn_) - (own_ft u0)) (3 : Int32)))), .second, .val (.long (if u0 < (0 : Int32) then ((0 : Int64) + (o_lshl (1 : Int64) (2 : Int32))) else (0 : Int64))), .second, .unset, .unset] [])) t → Steps p.tables e below (T3.setTop (mkF m 28 #[.val (.ref b_), .val (.int (3 : Int32)), .val (.int pn_), .val (.long ((0 : Int64) + (own_ch ((o_i2l pn_) - (own_ft u0)) (3 : Int32)))), .second, .val (.long (0 : Int64)), .second, .unset, .unset] [(.int u0)])) t := by
    intro t k
    by_cases hq6 : u0 < (0 : Int32)
    · refine XS.ifNo X3.here hx rfl (hb hby d1_28) rfl (Jvm.Free.XT.i0_ge_f hq6) ?_
      show Steps p.tables e below (T3.setTop (mkF m 31 #[.val (.ref b_), .val (.int (3 : Int32)), .val (.int pn_), .val (.long ((0 : Int64) + (own_ch ((o_i2l pn_) - (own_ft u0)) (3 : Int32)))), .second, .val (.long (0 : Int64)), .second, .unset, .unset] [])) t
      refine XS.lload X3.here hx rfl (hb hby d1_31) rfl ?_
      show Steps p.tables e below (T3.setTop (mkF m 33 #[.val (.ref b_), .val (.int (3 : Int32)), .val (.int pn_), .val (.long ((0 : Int64) + (own_ch ((o_i2l pn_) - (own_ft u0)) (3 : Int32)))), .second, .val (.long (0 : Int64)), .second, .unset, .unset] [(.long (0 : Int64))])) t
      refine XS.lconst X3.here hx rfl (hb hby d1_33) ?_
      show Steps p.tables e below (T3.setTop (mkF m 34 #[.val (.ref b_), .val (.int (3 : Int32)), .val (.int pn_), .val (.long ((0 : Int64) + (own_ch ((o_i2l pn_) - (own_ft u0)) (3 : Int32)))), .second, .val (.long (0 : Int64)), .second, .unset, .unset] [(.long (1 : Int64)), (.long (0 : Int64))])) t
      refine XS.iloadN X3.here hx rfl (hb hby d1_34) rfl ?_
      show Steps p.tables e below (T3.setTop (mkF m 35 #[.val (.ref b_), .val (.int (3 : Int32)), .val (.int pn_), .val (.long ((0 : Int64) + (own_ch ((o_i2l pn_) - (own_ft u0)) (3 : Int32)))), .second, .val (.long (0 : Int64)), .second, .unset, .unset] [(.int (3 : Int32)), (.long (1 : Int64)), (.long (0 : Int64))])) t
      refine XS.iconst X3.here hx rfl (hb hby d1_35) ?_
      show Steps p.tables e below (T3.setTop (mkF m 36 #[.val (.ref b_), .val (.int (3 : Int32)), .val (.int pn_), .val (.long ((0 : Int64) + (own_ch ((o_i2l pn_) - (own_ft u0)) (3 : Int32)))), .second, .val (.long (0 : Int64)), .second, .unset, .unset] [(.int (1 : Int32)), (.int (3 : Int32)), (.long (1 : Int64)), (.long (0 : Int64))])) t
      refine XS.isub X3.here hx rfl (hb hby d1_36) rfl ?_
      show Steps p.tables e below (T3.setTop (mkF m 37 #[.val (.ref b_), .val (.int (3 : Int32)), .val (.int pn_), .val (.long ((0 : Int64) + (own_ch ((o_i2l pn_) - (own_ft u0)) (3 : Int32)))), .second, .val (.long (0 : Int64)), .second, .unset, .unset] [(.int (2 : Int32)), (.long (1 : Int64)), (.long (0 : Int64))])) t
      refine XS.lshl X3.here hx rfl (hb hby d1_37) rfl ?_
      show Steps p.tables e below (T3.setTop (mkF m 38 #[.val (.ref b_), .val (.int (3 : Int32)), .val (.int pn_), .val (.long ((0 : Int64) + (own_ch ((o_i2l pn_) - (own_ft u0)) (3 : Int32)))), .second, .val (.long (0 : Int64)), .second, .unset, .unset] [(.long (o_lshl (1 : Int64) (2 : Int32))), (.long (0 : Int64))])) t
      refine XS.ladd X3.here hx rfl (hb hby d1_38) rfl ?_
      show Steps p.tables e below (T3.setTop (mkF m 39 #[.val (.ref b_), .val (.int (3 : Int32)), .val (.int pn_), .val (.long ((0 : Int64) + (own_ch ((o_i2l pn_) - (own_ft u0)) (3 : Int32)))), .second, .val (.long (0 : Int64)), .second, .unset, .unset] [(.long ((0 : Int64) + (o_lshl (1 : Int64) (2 : Int32))))])) t
      refine XS.lstore X3.here hx rfl (hb hby d1_39) rfl (l' := #[.val (.ref b_), .val (.int (3 : Int32)), .val (.int pn_), .val (.long ((0 : Int64) + (own_ch ((o_i2l pn_) - (own_ft u0)) (3 : Int32)))), .second, .val (.long ((0 : Int64) + (o_lshl (1 : Int64) (2 : Int32)))), .second, .unset, .unset]) rfl ?_
      show Steps p.tables e below (T3.setTop (mkF m 41 #[.val (.ref b_), .val (.int (3 : Int32)), .val (.int pn_), .val (.long ((0 : Int64) + (own_ch ((o_i2l pn_) - (own_ft u0)) (3 : Int32)))), .second, .val (.long ((0 : Int64) + (o_lshl (1 : Int64) (2 : Int32)))), .second, .unset, .unset] [])) t
      simp only [if_pos hq6] at k
      exact k
    · refine XS.ifYes X3.here hx rfl (pc0 := 28) (pc' := 41) rfl (hb hby d1_28) rfl (Jvm.Free.XT.i0_ge_t hq6) (by decide) (by decide) ?_
      show Steps p.tables e below (T3.setTop (mkF m 41 #[.val (.ref b_), .val (.int (3 : Int32)), .val (.int pn_), .val (.long ((0 : Int64) + (own_ch ((o_i2l pn_) - (own_ft u0)) (3 : Int32)))), .second, .val (.long (0 : Int64)), .second, .unset, .unset] [])) t
      simp only [if_neg hq6] at k
      exact k
  refine own_via st5 ?_
  show own_Go p e below s _ _ _ (T3.setTop (mkF m 41 #[.val (.ref b_), .val (.int (3 : Int32)), .val (.int pn_), .val (.long ((0 : Int64) + (own_ch ((o_i2l pn_) - (own_ft u0)) (3 : Int32)))), .second, .val (.long (if u0 < (0 : Int32) then ((0 : Int64) + (o_lshl (1 : Int64) (2 : Int32))) else (0 : Int64))), .second, .unset, .unset] []))
  refine own_via (fun _ k => XS.iloadN X3.here hx rfl (hb hby d1_41) rfl k) ?_
  show own_Go p e below s _ _ _ (T3.setTop (mkF m 42 #[.val (.ref b_), .val (.int (3 : Int32)), .val (.int pn_), .val (.long ((0 : Int64) + (own_ch ((o_i2l pn_) - (own_ft u0)) (3 : Int32)))), .second, .val (.long (if u0 < (0 : Int32) then ((0 : Int64) + (o_lshl (1 : Int64) (2 : Int32))) else (0 : Int64))), .second, .unset, .unset] [(.int (3 : Int32))]))
  refine own_via (fun _ k => XS.iconst X3.here hx rfl (hb hby d1_42) k) ?_
  show own_Go p e below s _ _ _ (T3.setTop (mkF m 43 #[.val (.ref b_), .val (.int (3 : Int32)), .val (.int pn_), .val (.long ((0 : Int64) + (own_ch ((o_i2l pn_) - (own_ft u0)) (3 : Int32)))), .second, .val (.long (if u0 < (0 : Int32) then ((0 : Int64) + (o_lshl (1 : Int64) (2 : Int32))) else (0 : Int64))), .second, .unset, .unset] [(.int (1 : Int32)), (.int (3 : Int32))]))
  refine own_via (fun _ k => XS.icmpNo X3.here hx rfl (hb hby d1_43) rfl (Jvm.Free.XT.ii_le_f (by decide)) k) ?_
  show own_Go p e below s _ _ _ (T3.setTop (mkF m 46 #[.val (.ref b_), .val (.int (3 : Int32)), .val (.int pn_), .val (.long ((0 : Int64) + (own_ch ((o_i2l pn_) - (own_ft u0)) (3 : Int32)))), .second, .val (.long (if u0 < (0 : Int32) then ((0 : Int64) + (o_lshl (1 : Int64) (2 : Int32))) else (0 : Int64))), .second, .unset, .unset] []))
  refine own_via (fun _ k => XS.lloadN X3.here hx rfl (hb hby d1_46) rfl k) ?_
  show own_Go p e below s _ _ _ (T3.setTop (mkF m 47 #[.val (.ref b_), .val (.int (3 : Int32)), .val (.int pn_), .val (.long ((0 : Int64) + (own_ch ((o_i2l pn_) - (own_ft u0)) (3 : Int32)))), .second, .val (.long (if u0 < (0 : Int32) then ((0 : Int64) + (o_lshl (1 : Int64) (2 : Int32))) else (0 : Int64))), .second, .unset, .unset] [(.long ((0 : Int64) + (own_ch ((o_i2l pn_) - (own_ft u0)) (3 : Int32))))]))
  refine own_via (fun _ k => XS.iloadN X3.here hx rfl (hb hby d1_47) rfl k) ?_
  show own_Go p e below s _ _ _ (T3.setTop (mkF m 48 #[.val (.ref b_), .val (.int (3 : Int32)), .val (.int pn_), .val (.long ((0 : Int64) + (own_ch ((o_i2l pn_) - (own_ft u0)) (3 : Int32)))), .second, .val (.long (if u0 < (0 : Int32) then ((0 : Int64) + (o_lshl (1 : Int64) (2 : Int32))) else (0 : Int64))), .second, .unset, .unset] [(.int pn_), (.long ((0 : Int64) + (own_ch ((o_i2l pn_) - (own_ft u0)) (3 : Int32))))]))
  refine own_via (fun _ k => XS.i2l X3.here hx rfl (hb hby d1_48) rfl k) ?_
  show own_Go p e below s _ _ _ (T3.setTop (mkF m 49 #[.val (.ref b_), .val (.int (3 : Int32)), .val (.int pn_), .val (.long ((0 : Int64) + (own_ch ((o_i2l pn_) - (own_ft u0)) (3 : Int32)))), .second, .val (.long (if u0 < (0 : Int32) then ((0 : Int64) + (o_lshl (1 : Int64) (2 : Int32))) else (0 : Int64))), .second, .unset, .unset] [(.long (o_i2l pn_)), (.long ((0 : Int64) + (own_ch ((o_i2l pn_) - (own_ft u0)) (3 : Int32))))]))
  refine own_via (fun _ k => XS.aloadN X3.here hx rfl (hb hby d1_49) rfl rfl k) ?_
  show own_Go p e below s _ _ _ (T3.setTop (mkF m 50 #[.val (.ref b_), .val (.int (3 : Int32)), .val (.int pn_), .val (.long ((0 : Int64) + (own_ch ((o_i2l pn_) - (own_ft u0)) (3 : Int32)))), .second, .val (.long (if u0 < (0 : Int32) then ((0 : Int64) + (o_lshl (1 : Int64) (2 : Int32))) else (0 : Int64))), .second, .unset, .unset] [(.ref b_), (.long (o_i2l pn_)), (.long ((0 : Int64) + (own_ch ((o_i2l pn_) - (own_ft u0)) (3 : Int32))))]))
  refine own_via (fun _ k => XS.iconst X3.here hx rfl (hb hby d1_50) k) ?_
  show own_Go p e below s _ _ _ (T3.setTop (mkF m 51 #[.val (.ref b_), .val (.int (3 : Int32)), .val (.int pn_), .val (.long ((0 : Int64) + (own_ch ((o_i2l pn_) - (own_ft u0)) (3 : Int32)))), .second, .val (.long (if u0 < (0 : Int32) then ((0 : Int64) + (o_lshl (1 : Int64) (2 : Int32))) else (0 : Int64))), .second, .unset, .unset] [(.int (1 : Int32)), (.ref b_), (.long (o_i2l pn_)), (.long ((0 : Int64) + (own_ch ((o_i2l pn_) - (own_ft u0)) (3 : Int32))))]))
  obtain ⟨cl7, Ar7, q7, S7, M7, H7, G7⟩ := (id V_b_)
  have hin7 : ¬ ((1 : Int32) < 0 ∨ cl7.slots.size ≤ ((1 : Int32)).toNatClampNeg) := inb_of S7 ⟨by decide, by decide⟩
  have hat7 : cl7.slots[((1 : Int32)).toNatClampNeg]? = some (.int u1) := Has.at H7 hin7 rfl
  refine own_via (fun _ k => X3.iaload hx (j := (1 : Int32)) (v := (.int u1)) (by rw [e3]; exact Ar7.1) (State.isArrayOf_alike hZ.alike Ar7.2.1) Ar7.2.2 hin7 hat7 (g := (mkF m 51 #[.val (.ref b_), .val (.int (3 : Int32)), .val (.int pn_), .val (.long ((0 : Int64) + (own_ch ((o_i2l pn_) - (own_ft u0)) (3 : Int32)))), .second, .val (.long (if u0 < (0 : Int32) then ((0 : Int64) + (o_lshl (1 : Int64) (2 : Int32))) else (0 : Int64))), .second, .unset, .unset] [(.int (1 : Int32)), (.ref b_), (.long (o_i2l pn_)), (.long ((0 : Int64) + (own_ch ((o_i2l pn_) - (own_ft u0)) (3 : Int32))))])) rfl rfl (hb hby d1_51) _ k) ?_
  show own_Go p e below s _ _ _ (T3.setTop (mkF m 52 #[.val (.ref b_), .val (.int (3 : Int32)), .val (.int pn_), .val (.long ((0 : Int64) + (own_ch ((o_i2l pn_) - (own_ft u0)) (3 : Int32)))), .second, .val (.long (if u0 < (0 : Int32) then ((0 : Int64) + (o_lshl (1 : Int64) (2 : Int32))) else (0 : Int64))), .second, .unset, .unset] [(.int u1), (.long (o_i2l pn_)), (.long ((0 : Int64) + (own_ch ((o_i2l pn_) - (own_ft u0)) (3 : Int32))))]))
  obtain ⟨_, _, ⟨T8, L8, k8, n8⟩, -, X8, ⟨Lc8, hQ8, l8, y8, z8⟩, st8⟩ := Jvm.LawKit.callS X3 hx (y := (⟨"com/example/unalike/unalike/engine/TSetsNextPinLaw", "feat", "(I)J"⟩ : MethodName)) hown (mvT hZ (hw _ (List.mem_of_getElem? (i := 13) rfl))) (mvT hZ (hw _ (List.mem_of_getElem? (i := 14) rfl))) (mvT hZ (hw _ (List.mem_of_getElem? (i := 4) rfl))) (mvT hZ (hw _ (List.mem_of_getElem? (i := 15) rfl))) (by decide) (backOf (W := 4) (rm4 l Z a0 hw [] u1 h0 n0 Z0 ) hZ (hw _ (List.mem_of_getElem? (i := 15) rfl)) (hw _ (List.mem_of_getElem? (i := 4) rfl)) (by decide) (by decide)) (g := (mkF m 52 #[.val (.ref b_), .val (.int (3 : Int32)), .val (.int pn_), .val (.long ((0 : Int64) + (own_ch ((o_i2l pn_) - (own_ft u0)) (3 : Int32)))), .second, .val (.long (if u0 < (0 : Int32) then ((0 : Int64) + (o_lshl (1 : Int64) (2 : Int32))) else (0 : Int64))), .second, .unset, .unset] [(.int u1), (.long (o_i2l pn_)), (.long ((0 : Int64) + (own_ch ((o_i2l pn_) - (own_ft u0)) (3 : Int32))))])) rfl (by rw [hml]; rfl) (argsL := [(.int u1)]) (rest := [(.long (o_i2l pn_)), (.long ((0 : Int64) + (own_ch ((o_i2l pn_) - (own_ft u0)) (3 : Int32))))]) (lenOf pd_0 rfl) rfl (by show 2 * 0 + _ ≤ _; exact Nat.le_of_eq rfl) (hb hby d1_52) (fun _ _ => ⟨rfl, e3, (by decide : 0 + 0 ≤ _), (by decide : 0 + 0 ≤ _)⟩)
  dsimp only [Pt.U, Pt.locs, Pt.cells, Pt.slots] at X8 l8 y8 z8 st8 hQ8
  subst l8 y8 z8
  obtain ⟨rfl, N8q, e8⟩ := hQ8
  have N8 := Fr.app N3 N8q
  refine own_via st8 ?_
  show own_Go p e below s _ _ _ (T8.setTop (mkF m 55 #[.val (.ref b_), .val (.int (3 : Int32)), .val (.int pn_), .val (.long ((0 : Int64) + (own_ch ((o_i2l pn_) - (own_ft u0)) (3 : Int32)))), .second, .val (.long (if u0 < (0 : Int32) then ((0 : Int64) + (o_lshl (1 : Int64) (2 : Int32))) else (0 : Int64))), .second, .unset, .unset] [(.long (own_ft u1)), (.long (o_i2l pn_)), (.long ((0 : Int64) + (own_ch ((o_i2l pn_) - (own_ft u0)) (3 : Int32))))]))
  refine own_via (fun _ k => XS.lsub X8.here hx rfl (hb hby d1_55) rfl k) ?_
  show own_Go p e below s _ _ _ (T8.setTop (mkF m 56 #[.val (.ref b_), .val (.int (3 : Int32)), .val (.int pn_), .val (.long ((0 : Int64) + (own_ch ((o_i2l pn_) - (own_ft u0)) (3 : Int32)))), .second, .val (.long (if u0 < (0 : Int32) then ((0 : Int64) + (o_lshl (1 : Int64) (2 : Int32))) else (0 : Int64))), .second, .unset, .unset] [(.long ((o_i2l pn_) - (own_ft u1))), (.long ((0 : Int64) + (own_ch ((o_i2l pn_) - (own_ft u0)) (3 : Int32))))]))
  refine own_via (fun _ k => XS.iloadN X8.here hx rfl (hb hby d1_56) rfl k) ?_
  show own_Go p e below s _ _ _ (T8.setTop (mkF m 57 #[.val (.ref b_), .val (.int (3 : Int32)), .val (.int pn_), .val (.long ((0 : Int64) + (own_ch ((o_i2l pn_) - (own_ft u0)) (3 : Int32)))), .second, .val (.long (if u0 < (0 : Int32) then ((0 : Int64) + (o_lshl (1 : Int64) (2 : Int32))) else (0 : Int64))), .second, .unset, .unset] [(.int (3 : Int32)), (.long ((o_i2l pn_) - (own_ft u1))), (.long ((0 : Int64) + (own_ch ((o_i2l pn_) - (own_ft u0)) (3 : Int32))))]))
  refine own_via (fun _ k => XS.iconst X8.here hx rfl (hb hby d1_57) k) ?_
  show own_Go p e below s _ _ _ (T8.setTop (mkF m 58 #[.val (.ref b_), .val (.int (3 : Int32)), .val (.int pn_), .val (.long ((0 : Int64) + (own_ch ((o_i2l pn_) - (own_ft u0)) (3 : Int32)))), .second, .val (.long (if u0 < (0 : Int32) then ((0 : Int64) + (o_lshl (1 : Int64) (2 : Int32))) else (0 : Int64))), .second, .unset, .unset] [(.int (1 : Int32)), (.int (3 : Int32)), (.long ((o_i2l pn_) - (own_ft u1))), (.long ((0 : Int64) + (own_ch ((o_i2l pn_) - (own_ft u0)) (3 : Int32))))]))
  refine own_via (fun _ k => XS.isub X8.here hx rfl (hb hby d1_58) rfl k) ?_
  show own_Go p e below s _ _ _ (T8.setTop (mkF m 59 #[.val (.ref b_), .val (.int (3 : Int32)), .val (.int pn_), .val (.long ((0 : Int64) + (own_ch ((o_i2l pn_) - (own_ft u0)) (3 : Int32)))), .second, .val (.long (if u0 < (0 : Int32) then ((0 : Int64) + (o_lshl (1 : Int64) (2 : Int32))) else (0 : Int64))), .second, .unset, .unset] [(.int (2 : Int32)), (.long ((o_i2l pn_) - (own_ft u1))), (.long ((0 : Int64) + (own_ch ((o_i2l pn_) - (own_ft u0)) (3 : Int32))))]))
  obtain ⟨_, _, ⟨T9, L9, k9, n9⟩, -, X9, ⟨Lc9, hQ9, l9, y9, z9⟩, st9⟩ := Jvm.LawKit.callS X8 hx (y := (⟨"com/example/unalike/unalike/engine/TSetsNextPinLaw", "choose", "(JI)J"⟩ : MethodName)) hown (mvT hZ (hw _ (List.mem_of_getElem? (i := 6) rfl))) (mvT hZ (hw _ (List.mem_of_getElem? (i := 7) rfl))) (mvT hZ (hw _ (List.mem_of_getElem? (i := 4) rfl))) (mvT hZ (hw _ (List.mem_of_getElem? (i := 8) rfl))) (by decide) (backOf (W := 2) (rm2 l Z a0 hw [] ((o_i2l pn_) - (own_ft u1)) (2 : Int32) h0 n0 Z0 ) hZ (hw _ (List.mem_of_getElem? (i := 8) rfl)) (hw _ (List.mem_of_getElem? (i := 4) rfl)) (by decide) (by decide)) (g := (mkF m 59 #[.val (.ref b_), .val (.int (3 : Int32)), .val (.int pn_), .val (.long ((0 : Int64) + (own_ch ((o_i2l pn_) - (own_ft u0)) (3 : Int32)))), .second, .val (.long (if u0 < (0 : Int32) then ((0 : Int64) + (o_lshl (1 : Int64) (2 : Int32))) else (0 : Int64))), .second, .unset, .unset] [(.int (2 : Int32)), (.long ((o_i2l pn_) - (own_ft u1))), (.long ((0 : Int64) + (own_ch ((o_i2l pn_) - (own_ft u0)) (3 : Int32))))])) rfl (by rw [hml]; rfl) (argsL := [(.long ((o_i2l pn_) - (own_ft u1))), (.int (2 : Int32))]) (rest := [(.long ((0 : Int64) + (own_ch ((o_i2l pn_) - (own_ft u0)) (3 : Int32))))]) (lenOf pd_1 rfl) rfl (by show 2 * 0 + _ ≤ _; exact Nat.le_of_eq rfl) (hb hby d1_59) (fun _ _ => ⟨rfl, e8, (by decide : 0 + 0 ≤ _), (by decide : 0 + 0 ≤ _)⟩)
  dsimp only [Pt.U, Pt.locs, Pt.cells, Pt.slots] at X9 l9 y9 z9 st9 hQ9
  subst l9 y9 z9
  obtain ⟨rfl, N9q, e9⟩ := hQ9
  have N9 := Fr.app N8 N9q
  refine own_via st9 ?_
  show own_Go p e below s _ _ _ (T9.setTop (mkF m 62 #[.val (.ref b_), .val (.int (3 : Int32)), .val (.int pn_), .val (.long ((0 : Int64) + (own_ch ((o_i2l pn_) - (own_ft u0)) (3 : Int32)))), .second, .val (.long (if u0 < (0 : Int32) then ((0 : Int64) + (o_lshl (1 : Int64) (2 : Int32))) else (0 : Int64))), .second, .unset, .unset] [(.long (own_ch ((o_i2l pn_) - (own_ft u1)) (2 : Int32))), (.long ((0 : Int64) + (own_ch ((o_i2l pn_) - (own_ft u0)) (3 : Int32))))]))
  refine own_via (fun _ k => XS.ladd X9.here hx rfl (hb hby d1_62) rfl k) ?_
  show own_Go p e below s _ _ _ (T9.setTop (mkF m 63 #[.val (.ref b_), .val (.int (3 : Int32)), .val (.int pn_), .val (.long ((0 : Int64) + (own_ch ((o_i2l pn_) - (own_ft u0)) (3 : Int32)))), .second, .val (.long (if u0 < (0 : Int32) then ((0 : Int64) + (o_lshl (1 : Int64) (2 : Int32))) else (0 : Int64))), .second, .unset, .unset] [(.long (((0 : Int64) + (own_ch ((o_i2l pn_) - (own_ft u0)) (3 : Int32))) + (own_ch ((o_i2l pn_) - (own_ft u1)) (2 : Int32))))]))
  refine own_via (fun _ k => XS.lstoreN X9.here hx rfl (hb hby d1_63) rfl (l' := #[.val (.ref b_), .val (.int (3 : Int32)), .val (.int pn_), .val (.long (((0 : Int64) + (own_ch ((o_i2l pn_) - (own_ft u0)) (3 : Int32))) + (own_ch ((o_i2l pn_) - (own_ft u1)) (2 : Int32)))), .second, .val (.long (if u0 < (0 : Int32) then ((0 : Int64) + (o_lshl (1 : Int64) (2 : Int32))) else (0 : Int64))), .second, .unset, .unset]) rfl k) ?_
  show own_Go p e below s _ _ _ (T9.setTop (mkF m 64 #[.val (.ref b_), .val (.int (3 : Int32)), .val (.int pn_), .val (.long (((0 : Int64) + (own_ch ((o_i2l pn_) - (own_ft u0)) (3 : Int32))) + (own_ch ((o_i2l pn_) - (own_ft u1)) (2 : Int32)))), .second, .val (.long (if u0 < (0 : Int32) then ((0 : Int64) + (o_lshl (1 : Int64) (2 : Int32))) else (0 : Int64))), .second, .unset, .unset] []))
  refine own_via (fun _ k => XS.aloadN X9.here hx rfl (hb hby d1_64) rfl rfl k) ?_
  show own_Go p e below s _ _ _ (T9.setTop (mkF m 65 #[.val (.ref b_), .val (.int (3 : Int32)), .val (.int pn_), .val (.long (((0 : Int64) + (own_ch ((o_i2l pn_) - (own_ft u0)) (3 : Int32))) + (own_ch ((o_i2l pn_) - (own_ft u1)) (2 : Int32)))), .second, .val (.long (if u0 < (0 : Int32) then ((0 : Int64) + (o_lshl (1 : Int64) (2 : Int32))) else (0 : Int64))), .second, .unset, .unset] [(.ref b_)]))
  refine own_via (fun _ k => XS.iconst X9.here hx rfl (hb hby d1_65) k) ?_
  show own_Go p e below s _ _ _ (T9.setTop (mkF m 66 #[.val (.ref b_), .val (.int (3 : Int32)), .val (.int pn_), .val (.long (((0 : Int64) + (own_ch ((o_i2l pn_) - (own_ft u0)) (3 : Int32))) + (own_ch ((o_i2l pn_) - (own_ft u1)) (2 : Int32)))), .second, .val (.long (if u0 < (0 : Int32) then ((0 : Int64) + (o_lshl (1 : Int64) (2 : Int32))) else (0 : Int64))), .second, .unset, .unset] [(.int (1 : Int32)), (.ref b_)]))
  obtain ⟨cl10, Ar10, q10, S10, M10, H10, G10⟩ := (id V_b_)
  have hin10 : ¬ ((1 : Int32) < 0 ∨ cl10.slots.size ≤ ((1 : Int32)).toNatClampNeg) := inb_of S10 ⟨by decide, by decide⟩
  have hat10 : cl10.slots[((1 : Int32)).toNatClampNeg]? = some (.int u1) := Has.at H10 hin10 rfl
  refine own_via (fun _ k => X9.iaload hx (j := (1 : Int32)) (v := (.int u1)) (by rw [e9]; exact Ar10.1) (State.isArrayOf_alike hZ.alike Ar10.2.1) Ar10.2.2 hin10 hat10 (g := (mkF m 66 #[.val (.ref b_), .val (.int (3 : Int32)), .val (.int pn_), .val (.long (((0 : Int64) + (own_ch ((o_i2l pn_) - (own_ft u0)) (3 : Int32))) + (own_ch ((o_i2l pn_) - (own_ft u1)) (2 : Int32)))), .second, .val (.long (if u0 < (0 : Int32) then ((0 : Int64) + (o_lshl (1 : Int64) (2 : Int32))) else (0 : Int64))), .second, .unset, .unset] [(.int (1 : Int32)), (.ref b_)])) rfl rfl (hb hby d1_66) _ k) ?_
  show own_Go p e below s _ _ _ (T9.setTop (mkF m 67 #[.val (.ref b_), .val (.int (3 : Int32)), .val (.int pn_), .val (.long (((0 : Int64) + (own_ch ((o_i2l pn_) - (own_ft u0)) (3 : Int32))) + (own_ch ((o_i2l pn_) - (own_ft u1)) (2 : Int32)))), .second, .val (.long (if u0 < (0 : Int32) then ((0 : Int64) + (o_lshl (1 : Int64) (2 : Int32))) else (0 : Int64))), .second, .unset, .unset] [(.int u1)]))
  have st11 : ∀ t, Steps p.tables e below (T9.setTop (mkF m 80 #[.val (.ref b_), .val (.int (3 : Int32)), .val (.int pn_), .val (.long (((0 : Int64) + (own_ch ((o_i2l pn_) - (own_ft u0)) (3 : Int32))) + (own_ch ((o_i2l pn_) - (own_ft u1)) (2 : Int32)))), .second, .val (.long (if u1 < (0 : Int32) then ((if u0 < (0 : Int32) then ((0 : Int64) + (o_lshl (1 : Int64) (2 : Int32))) else (0 : Int64)) + (o_lshl (1 : Int64) (1 : Int32))) else (if u0 < (0 : Int32) then ((0 : Int64) + (o_lshl (1 : Int64) (2 : Int32))) else (0 : Int64)))), .second, .unset, .unset] [])) t → Steps p.tables e below (T9.setTop (mkF m 67 #[.val (.ref b_), .val (.int (3 : Int32)), .val (.int pn_), .val (.long (((0 : Int64) + (own_ch ((o_i2l pn_) - (own_ft u0)) (3 : Int32))) + (own_ch ((o_i2l pn_) - (own_ft u1)) (2 : Int32)))), .second, .val (.long (if u0 < (0 : Int32) then ((0 : Int64) + (o_lshl (1 : Int64) (2 : Int32))) else (0 : Int64))), .second, .unset, .unset] [(.int u1)])) t := by
    intro t k
    by_cases hq12 : u1 < (0 : Int32)
    · refine XS.ifNo X9.here hx rfl (hb hby d1_67) rfl (Jvm.Free.XT.i0_ge_f hq12) ?_
      show Steps p.tables e below (T9.setTop (mkF m 70 #[.val (.ref b_), .val (.int (3 : Int32)), .val (.int pn_), .val (.long (((0 : Int64) + (own_ch ((o_i2l pn_) - (own_ft u0)) (3 : Int32))) + (own_ch ((o_i2l pn_) - (own_ft u1)) (2 : Int32)))), .second, .val (.long (if u0 < (0 : Int32) then ((0 : Int64) + (o_lshl (1 : Int64) (2 : Int32))) else (0 : Int64))), .second, .unset, .unset] [])) t
      refine XS.lload X9.here hx rfl (hb hby d1_70) rfl ?_
      show Steps p.tables e below (T9.setTop (mkF m 72 #[.val (.ref b_), .val (.int (3 : Int32)), .val (.int pn_), .val (.long (((0 : Int64) + (own_ch ((o_i2l pn_) - (own_ft u0)) (3 : Int32))) + (own_ch ((o_i2l pn_) - (own_ft u1)) (2 : Int32)))), .second, .val (.long (if u0 < (0 : Int32) then ((0 : Int64) + (o_lshl (1 : Int64) (2 : Int32))) else (0 : Int64))), .second, .unset, .unset] [(.long (if u0 < (0 : Int32) then ((0 : Int64) + (o_lshl (1 : Int64) (2 : Int32))) else (0 : Int64)))])) t
      refine XS.lconst X9.here hx rfl (hb hby d1_72) ?_
      show Steps p.tables e below (T9.setTop (mkF m 73 #[.val (.ref b_), .val (.int (3 : Int32)), .val (.int pn_), .val (.long (((0 : Int64) + (own_ch ((o_i2l pn_) - (own_ft u0)) (3 : Int32))) + (own_ch ((o_i2l pn_) - (own_ft u1)) (2 : Int32)))), .second, .val (.long (if u0 < (0 : Int32) then ((0 : Int64) + (o_lshl (1 : Int64) (2 : Int32))) else (0 : Int64))), .second, .unset, .unset] [(.long (1 : Int64)), (.long (if u0 < (0 : Int32) then ((0 : Int64) + (o_lshl (1 : Int64) (2 : Int32))) else (0 : Int64)))])) t
      refine XS.iloadN X9.here hx rfl (hb hby d1_73) rfl ?_
      show Steps p.tables e below (T9.setTop (mkF m 74 #[.val (.ref b_), .val (.int (3 : Int32)), .val (.int pn_), .val (.long (((0 : Int64) + (own_ch ((o_i2l pn_) - (own_ft u0)) (3 : Int32))) + (own_ch ((o_i2l pn_) - (own_ft u1)) (2 : Int32)))), .second, .val (.long (if u0 < (0 : Int32) then ((0 : Int64) + (o_lshl (1 : Int64) (2 : Int32))) else (0 : Int64))), .second, .unset, .unset] [(.int (3 : Int32)), (.long (1 : Int64)), (.long (if u0 < (0 : Int32) then ((0 : Int64) + (o_lshl (1 : Int64) (2 : Int32))) else (0 : Int64)))])) t
      refine XS.iconst X9.here hx rfl (hb hby d1_74) ?_
      show Steps p.tables e below (T9.setTop (mkF m 75 #[.val (.ref b_), .val (.int (3 : Int32)), .val (.int pn_), .val (.long (((0 : Int64) + (own_ch ((o_i2l pn_) - (own_ft u0)) (3 : Int32))) + (own_ch ((o_i2l pn_) - (own_ft u1)) (2 : Int32)))), .second, .val (.long (if u0 < (0 : Int32) then ((0 : Int64) + (o_lshl (1 : Int64) (2 : Int32))) else (0 : Int64))), .second, .unset, .unset] [(.int (2 : Int32)), (.int (3 : Int32)), (.long (1 : Int64)), (.long (if u0 < (0 : Int32) then ((0 : Int64) + (o_lshl (1 : Int64) (2 : Int32))) else (0 : Int64)))])) t
      refine XS.isub X9.here hx rfl (hb hby d1_75) rfl ?_
      show Steps p.tables e below (T9.setTop (mkF m 76 #[.val (.ref b_), .val (.int (3 : Int32)), .val (.int pn_), .val (.long (((0 : Int64) + (own_ch ((o_i2l pn_) - (own_ft u0)) (3 : Int32))) + (own_ch ((o_i2l pn_) - (own_ft u1)) (2 : Int32)))), .second, .val (.long (if u0 < (0 : Int32) then ((0 : Int64) + (o_lshl (1 : Int64) (2 : Int32))) else (0 : Int64))), .second, .unset, .unset] [(.int (1 : Int32)), (.long (1 : Int64)), (.long (if u0 < (0 : Int32) then ((0 : Int64) + (o_lshl (1 : Int64) (2 : Int32))) else (0 : Int64)))])) t
      refine XS.lshl X9.here hx rfl (hb hby d1_76) rfl ?_
      show Steps p.tables e below (T9.setTop (mkF m 77 #[.val (.ref b_), .val (.int (3 : Int32)), .val (.int pn_), .val (.long (((0 : Int64) + (own_ch ((o_i2l pn_) - (own_ft u0)) (3 : Int32))) + (own_ch ((o_i2l pn_) - (own_ft u1)) (2 : Int32)))), .second, .val (.long (if u0 < (0 : Int32) then ((0 : Int64) + (o_lshl (1 : Int64) (2 : Int32))) else (0 : Int64))), .second, .unset, .unset] [(.long (o_lshl (1 : Int64) (1 : Int32))), (.long (if u0 < (0 : Int32) then ((0 : Int64) + (o_lshl (1 : Int64) (2 : Int32))) else (0 : Int64)))])) t
      refine XS.ladd X9.here hx rfl (hb hby d1_77) rfl ?_
      show Steps p.tables e below (T9.setTop (mkF m 78 #[.val (.ref b_), .val (.int (3 : Int32)), .val (.int pn_), .val (.long (((0 : Int64) + (own_ch ((o_i2l pn_) - (own_ft u0)) (3 : Int32))) + (own_ch ((o_i2l pn_) - (own_ft u1)) (2 : Int32)))), .second, .val (.long (if u0 < (0 : Int32) then ((0 : Int64) + (o_lshl (1 : Int64) (2 : Int32))) else (0 : Int64))), .second, .unset, .unset] [(.long ((if u0 < (0 : Int32) then ((0 : Int64) + (o_lshl (1 : Int64) (2 : Int32))) else (0 : Int64)) + (o_lshl (1 : Int64) (1 : Int32))))])) t
      refine XS.lstore X9.here hx rfl (hb hby d1_78) rfl (l' := #[.val (.ref b_), .val (.int (3 : Int32)), .val (.int pn_), .val (.long (((0 : Int64) + (own_ch ((o_i2l pn_) - (own_ft u0)) (3 : Int32))) + (own_ch ((o_i2l pn_) - (own_ft u1)) (2 : Int32)))), .second, .val (.long ((if u0 < (0 : Int32) then ((0 : Int64) + (o_lshl (1 : Int64) (2 : Int32))) else (0 : Int64)) + (o_lshl (1 : Int64) (1 : Int32)))), .second, .unset, .unset]) rfl ?_
      show Steps p.tables e below (T9.setTop (mkF m 80 #[.val (.ref b_), .val (.int (3 : Int32)), .val (.int pn_), .val (.long (((0 : Int64) + (own_ch ((o_i2l pn_) - (own_ft u0)) (3 : Int32))) + (own_ch ((o_i2l pn_) - (own_ft u1)) (2 : Int32)))), .second, .val (.long ((if u0 < (0 : Int32) then ((0 : Int64) + (o_lshl (1 : Int64) (2 : Int32))) else (0 : Int64)) + (o_lshl (1 : Int64) (1 : Int32)))), .second, .unset, .unset] [])) t
      simp only [if_pos hq12] at k
      exact k
    · refine XS.ifYes X9.here hx rfl (pc0 := 67) (pc' := 80) rfl (hb hby d1_67) rfl (Jvm.Free.XT.i0_ge_t hq12) (by decide) (by decide) ?_
      show Steps p.tables e below (T9.setTop (mkF m 80 #[.val (.ref b_), .val (.int (3 : Int32)), .val (.int pn_), .val (.long (((0 : Int64) + (own_ch ((o_i2l pn_) - (own_ft u0)) (3 : Int32))) + (own_ch ((o_i2l pn_) - (own_ft u1)) (2 : Int32)))), .second, .val (.long (if u0 < (0 : Int32) then ((0 : Int64) + (o_lshl (1 : Int64) (2 : Int32))) else (0 : Int64))), .second, .unset, .unset] [])) t
      simp only [if_neg hq12] at k
      exact k
  refine own_via st11 ?_
  show own_Go p e below s _ _ _ (T9.setTop (mkF m 80 #[.val (.ref b_), .val (.int (3 : Int32)), .val (.int pn_), .val (.long (((0 : Int64) + (own_ch ((o_i2l pn_) - (own_ft u0)) (3 : Int32))) + (own_ch ((o_i2l pn_) - (own_ft u1)) (2 : Int32)))), .second, .val (.long (if u1 < (0 : Int32) then ((if u0 < (0 : Int32) then ((0 : Int64) + (o_lshl (1 : Int64) (2 : Int32))) else (0 : Int64)) + (o_lshl (1 : Int64) (1 : Int32))) else (if u0 < (0 : Int32) then ((0 : Int64) + (o_lshl (1 : Int64) (2 : Int32))) else (0 : Int64)))), .second, .unset, .unset] []))
  refine own_via (fun _ k => XS.iloadN X9.here hx rfl (hb hby d1_80) rfl k) ?_
  show own_Go p e below s _ _ _ (T9.setTop (mkF m 81 #[.val (.ref b_), .val (.int (3 : Int32)), .val (.int pn_), .val (.long (((0 : Int64) + (own_ch ((o_i2l pn_) - (own_ft u0)) (3 : Int32))) + (own_ch ((o_i2l pn_) - (own_ft u1)) (2 : Int32)))), .second, .val (.long (if u1 < (0 : Int32) then ((if u0 < (0 : Int32) then ((0 : Int64) + (o_lshl (1 : Int64) (2 : Int32))) else (0 : Int64)) + (o_lshl (1 : Int64) (1 : Int32))) else (if u0 < (0 : Int32) then ((0 : Int64) + (o_lshl (1 : Int64) (2 : Int32))) else (0 : Int64)))), .second, .unset, .unset] [(.int (3 : Int32))]))
  refine own_via (fun _ k => XS.iconst X9.here hx rfl (hb hby d1_81) k) ?_
  show own_Go p e below s _ _ _ (T9.setTop (mkF m 82 #[.val (.ref b_), .val (.int (3 : Int32)), .val (.int pn_), .val (.long (((0 : Int64) + (own_ch ((o_i2l pn_) - (own_ft u0)) (3 : Int32))) + (own_ch ((o_i2l pn_) - (own_ft u1)) (2 : Int32)))), .second, .val (.long (if u1 < (0 : Int32) then ((if u0 < (0 : Int32) then ((0 : Int64) + (o_lshl (1 : Int64) (2 : Int32))) else (0 : Int64)) + (o_lshl (1 : Int64) (1 : Int32))) else (if u0 < (0 : Int32) then ((0 : Int64) + (o_lshl (1 : Int64) (2 : Int32))) else (0 : Int64)))), .second, .unset, .unset] [(.int (2 : Int32)), (.int (3 : Int32))]))
  refine own_via (fun _ k => XS.icmpNo X9.here hx rfl (hb hby d1_82) rfl (Jvm.Free.XT.ii_le_f (by decide)) k) ?_
  show own_Go p e below s _ _ _ (T9.setTop (mkF m 85 #[.val (.ref b_), .val (.int (3 : Int32)), .val (.int pn_), .val (.long (((0 : Int64) + (own_ch ((o_i2l pn_) - (own_ft u0)) (3 : Int32))) + (own_ch ((o_i2l pn_) - (own_ft u1)) (2 : Int32)))), .second, .val (.long (if u1 < (0 : Int32) then ((if u0 < (0 : Int32) then ((0 : Int64) + (o_lshl (1 : Int64) (2 : Int32))) else (0 : Int64)) + (o_lshl (1 : Int64) (1 : Int32))) else (if u0 < (0 : Int32) then ((0 : Int64) + (o_lshl (1 : Int64) (2 : Int32))) else (0 : Int64)))), .second, .unset, .unset] []))
  refine own_via (fun _ k => XS.lloadN X9.here hx rfl (hb hby d1_85) rfl k) ?_
  show own_Go p e below s _ _ _ (T9.setTop (mkF m 86 #[.val (.ref b_), .val (.int (3 : Int32)), .val (.int pn_), .val (.long (((0 : Int64) + (own_ch ((o_i2l pn_) - (own_ft u0)) (3 : Int32))) + (own_ch ((o_i2l pn_) - (own_ft u1)) (2 : Int32)))), .second, .val (.long (if u1 < (0 : Int32) then ((if u0 < (0 : Int32) then ((0 : Int64) + (o_lshl (1 : Int64) (2 : Int32))) else (0 : Int64)) + (o_lshl (1 : Int64) (1 : Int32))) else (if u0 < (0 : Int32) then ((0 : Int64) + (o_lshl (1 : Int64) (2 : Int32))) else (0 : Int64)))), .second, .unset, .unset] [(.long (((0 : Int64) + (own_ch ((o_i2l pn_) - (own_ft u0)) (3 : Int32))) + (own_ch ((o_i2l pn_) - (own_ft u1)) (2 : Int32))))]))
  refine own_via (fun _ k => XS.iloadN X9.here hx rfl (hb hby d1_86) rfl k) ?_
  show own_Go p e below s _ _ _ (T9.setTop (mkF m 87 #[.val (.ref b_), .val (.int (3 : Int32)), .val (.int pn_), .val (.long (((0 : Int64) + (own_ch ((o_i2l pn_) - (own_ft u0)) (3 : Int32))) + (own_ch ((o_i2l pn_) - (own_ft u1)) (2 : Int32)))), .second, .val (.long (if u1 < (0 : Int32) then ((if u0 < (0 : Int32) then ((0 : Int64) + (o_lshl (1 : Int64) (2 : Int32))) else (0 : Int64)) + (o_lshl (1 : Int64) (1 : Int32))) else (if u0 < (0 : Int32) then ((0 : Int64) + (o_lshl (1 : Int64) (2 : Int32))) else (0 : Int64)))), .second, .unset, .unset] [(.int pn_), (.long (((0 : Int64) + (own_ch ((o_i2l pn_) - (own_ft u0)) (3 : Int32))) + (own_ch ((o_i2l pn_) - (own_ft u1)) (2 : Int32))))]))
  refine own_via (fun _ k => XS.i2l X9.here hx rfl (hb hby d1_87) rfl k) ?_
  show own_Go p e below s _ _ _ (T9.setTop (mkF m 88 #[.val (.ref b_), .val (.int (3 : Int32)), .val (.int pn_), .val (.long (((0 : Int64) + (own_ch ((o_i2l pn_) - (own_ft u0)) (3 : Int32))) + (own_ch ((o_i2l pn_) - (own_ft u1)) (2 : Int32)))), .second, .val (.long (if u1 < (0 : Int32) then ((if u0 < (0 : Int32) then ((0 : Int64) + (o_lshl (1 : Int64) (2 : Int32))) else (0 : Int64)) + (o_lshl (1 : Int64) (1 : Int32))) else (if u0 < (0 : Int32) then ((0 : Int64) + (o_lshl (1 : Int64) (2 : Int32))) else (0 : Int64)))), .second, .unset, .unset] [(.long (o_i2l pn_)), (.long (((0 : Int64) + (own_ch ((o_i2l pn_) - (own_ft u0)) (3 : Int32))) + (own_ch ((o_i2l pn_) - (own_ft u1)) (2 : Int32))))]))
  refine own_via (fun _ k => XS.aloadN X9.here hx rfl (hb hby d1_88) rfl rfl k) ?_
  show own_Go p e below s _ _ _ (T9.setTop (mkF m 89 #[.val (.ref b_), .val (.int (3 : Int32)), .val (.int pn_), .val (.long (((0 : Int64) + (own_ch ((o_i2l pn_) - (own_ft u0)) (3 : Int32))) + (own_ch ((o_i2l pn_) - (own_ft u1)) (2 : Int32)))), .second, .val (.long (if u1 < (0 : Int32) then ((if u0 < (0 : Int32) then ((0 : Int64) + (o_lshl (1 : Int64) (2 : Int32))) else (0 : Int64)) + (o_lshl (1 : Int64) (1 : Int32))) else (if u0 < (0 : Int32) then ((0 : Int64) + (o_lshl (1 : Int64) (2 : Int32))) else (0 : Int64)))), .second, .unset, .unset] [(.ref b_), (.long (o_i2l pn_)), (.long (((0 : Int64) + (own_ch ((o_i2l pn_) - (own_ft u0)) (3 : Int32))) + (own_ch ((o_i2l pn_) - (own_ft u1)) (2 : Int32))))]))
  refine own_via (fun _ k => XS.iconst X9.here hx rfl (hb hby d1_89) k) ?_
  show own_Go p e below s _ _ _ (T9.setTop (mkF m 90 #[.val (.ref b_), .val (.int (3 : Int32)), .val (.int pn_), .val (.long (((0 : Int64) + (own_ch ((o_i2l pn_) - (own_ft u0)) (3 : Int32))) + (own_ch ((o_i2l pn_) - (own_ft u1)) (2 : Int32)))), .second, .val (.long (if u1 < (0 : Int32) then ((if u0 < (0 : Int32) then ((0 : Int64) + (o_lshl (1 : Int64) (2 : Int32))) else (0 : Int64)) + (o_lshl (1 : Int64) (1 : Int32))) else (if u0 < (0 : Int32) then ((0 : Int64) + (o_lshl (1 : Int64) (2 : Int32))) else (0 : Int64)))), .second, .unset, .unset] [(.int (2 : Int32)), (.ref b_), (.long (o_i2l pn_)), (.long (((0 : Int64) + (own_ch ((o_i2l pn_) - (own_ft u0)) (3 : Int32))) + (own_ch ((o_i2l pn_) - (own_ft u1)) (2 : Int32))))]))
  obtain ⟨cl13, Ar13, q13, S13, M13, H13, G13⟩ := (id V_b_)
  have hin13 : ¬ ((2 : Int32) < 0 ∨ cl13.slots.size ≤ ((2 : Int32)).toNatClampNeg) := inb_of S13 ⟨by decide, by decide⟩
  have hat13 : cl13.slots[((2 : Int32)).toNatClampNeg]? = some (.int u2) := Has.at H13 hin13 rfl
  refine own_via (fun _ k => X9.iaload hx (j := (2 : Int32)) (v := (.int u2)) (by rw [e9]; exact Ar13.1) (State.isArrayOf_alike hZ.alike Ar13.2.1) Ar13.2.2 hin13 hat13 (g := (mkF m 90 #[.val (.ref b_), .val (.int (3 : Int32)), .val (.int pn_), .val (.long (((0 : Int64) + (own_ch ((o_i2l pn_) - (own_ft u0)) (3 : Int32))) + (own_ch ((o_i2l pn_) - (own_ft u1)) (2 : Int32)))), .second, .val (.long (if u1 < (0 : Int32) then ((if u0 < (0 : Int32) then ((0 : Int64) + (o_lshl (1 : Int64) (2 : Int32))) else (0 : Int64)) + (o_lshl (1 : Int64) (1 : Int32))) else (if u0 < (0 : Int32) then ((0 : Int64) + (o_lshl (1 : Int64) (2 : Int32))) else (0 : Int64)))), .second, .unset, .unset] [(.int (2 : Int32)), (.ref b_), (.long (o_i2l pn_)), (.long (((0 : Int64) + (own_ch ((o_i2l pn_) - (own_ft u0)) (3 : Int32))) + (own_ch ((o_i2l pn_) - (own_ft u1)) (2 : Int32))))])) rfl rfl (hb hby d1_90) _ k) ?_
  show own_Go p e below s _ _ _ (T9.setTop (mkF m 91 #[.val (.ref b_), .val (.int (3 : Int32)), .val (.int pn_), .val (.long (((0 : Int64) + (own_ch ((o_i2l pn_) - (own_ft u0)) (3 : Int32))) + (own_ch ((o_i2l pn_) - (own_ft u1)) (2 : Int32)))), .second, .val (.long (if u1 < (0 : Int32) then ((if u0 < (0 : Int32) then ((0 : Int64) + (o_lshl (1 : Int64) (2 : Int32))) else (0 : Int64)) + (o_lshl (1 : Int64) (1 : Int32))) else (if u0 < (0 : Int32) then ((0 : Int64) + (o_lshl (1 : Int64) (2 : Int32))) else (0 : Int64)))), .second, .unset, .unset] [(.int u2), (.long (o_i2l pn_)), (.long (((0 : Int64) + (own_ch ((o_i2l pn_) - (own_ft u0)) (3 : Int32))) + (own_ch ((o_i2l pn_) - (own_ft u1)) (2 : Int32))))]))
  obtain ⟨_, _, ⟨T14, L14, k14, n14⟩, -, X14, ⟨Lc14, hQ14, l14, y14, z14⟩, st14⟩ := Jvm.LawKit.callS X9 hx (y := (⟨"com/example/unalike/unalike/engine/TSetsNextPinLaw", "feat", "(I)J"⟩ : MethodName)) hown (mvT hZ (hw _ (List.mem_of_getElem? (i := 13) rfl))) (mvT hZ (hw _ (List.mem_of_getElem? (i := 14) rfl))) (mvT hZ (hw _ (List.mem_of_getElem? (i := 4) rfl))) (mvT hZ (hw _ (List.mem_of_getElem? (i := 15) rfl))) (by decide) (backOf (W := 4) (rm4 l Z a0 hw [] u2 h0 n0 Z0 ) hZ (hw _ (List.mem_of_getElem? (i := 15) rfl)) (hw _ (List.mem_of_getElem? (i := 4) rfl)) (by decide) (by decide)) (g := (mkF m 91 #[.val (.ref b_), .val (.int (3 : Int32)), .val (.int pn_), .val (.long (((0 : Int64) + (own_ch ((o_i2l pn_) - (own_ft u0)) (3 : Int32))) + (own_ch ((o_i2l pn_) - (own_ft u1)) (2 : Int32)))), .second, .val (.long (if u1 < (0 : Int32) then ((if u0 < (0 : Int32) then ((0 : Int64) + (o_lshl (1 : Int64) (2 : Int32))) else (0 : Int64)) + (o_lshl (1 : Int64) (1 : Int32))) else (if u0 < (0 : Int32) then ((0 : Int64) + (o_lshl (1 : Int64) (2 : Int32))) else (0 : Int64)))), .second, .unset, .unset] [(.int u2), (.long (o_i2l pn_)), (.long (((0 : Int64) + (own_ch ((o_i2l pn_) - (own_ft u0)) (3 : Int32))) + (own_ch ((o_i2l pn_) - (own_ft u1)) (2 : Int32))))])) rfl (by rw [hml]; rfl) (argsL := [(.int u2)]) (rest := [(.long (o_i2l pn_)), (.long (((0 : Int64) + (own_ch ((o_i2l pn_) - (own_ft u0)) (3 : Int32))) + (own_ch ((o_i2l pn_) - (own_ft u1)) (2 : Int32))))]) (lenOf pd_0 rfl) rfl (by show 2 * 0 + _ ≤ _; exact Nat.le_of_eq rfl) (hb hby d1_91) (fun _ _ => ⟨rfl, e9, (by decide : 0 + 0 ≤ _), (by decide : 0 + 0 ≤ _)⟩)
  dsimp only [Pt.U, Pt.locs, Pt.cells, Pt.slots] at X14 l14 y14 z14 st14 hQ14
  subst l14 y14 z14
  obtain ⟨rfl, N14q, e14⟩ := hQ14
  have N14 := Fr.app N9 N14q
  refine own_via st14 ?_
  show own_Go p e below s _ _ _ (T14.setTop (mkF m 94 #[.val (.ref b_), .val (.int (3 : Int32)), .val (.int pn_), .val (.long (((0 : Int64) + (own_ch ((o_i2l pn_) - (own_ft u0)) (3 : Int32))) + (own_ch ((o_i2l pn_) - (own_ft u1)) (2 : Int32)))), .second, .val (.long (if u1 < (0 : Int32) then ((if u0 < (0 : Int32) then ((0 : Int64) + (o_lshl (1 : Int64) (2 : Int32))) else (0 : Int64)) + (o_lshl (1 : Int64) (1 : Int32))) else (if u0 < (0 : Int32) then ((0 : Int64) + (o_lshl (1 : Int64) (2 : Int32))) else (0 : Int64)))), .second, .unset, .unset] [(.long (own_ft u2)), (.long (o_i2l pn_)), (.long (((0 : Int64) + (own_ch ((o_i2l pn_) - (own_ft u0)) (3 : Int32))) + (own_ch ((o_i2l pn_) - (own_ft u1)) (2 : Int32))))]))
  refine own_via (fun _ k => XS.lsub X14.here hx rfl (hb hby d1_94) rfl k) ?_
  show own_Go p e below s _ _ _ (T14.setTop (mkF m 95 #[.val (.ref b_), .val (.int (3 : Int32)), .val (.int pn_), .val (.long (((0 : Int64) + (own_ch ((o_i2l pn_) - (own_ft u0)) (3 : Int32))) + (own_ch ((o_i2l pn_) - (own_ft u1)) (2 : Int32)))), .second, .val (.long (if u1 < (0 : Int32) then ((if u0 < (0 : Int32) then ((0 : Int64) + (o_lshl (1 : Int64) (2 : Int32))) else (0 : Int64)) + (o_lshl (1 : Int64) (1 : Int32))) else (if u0 < (0 : Int32) then ((0 : Int64) + (o_lshl (1 : Int64) (2 : Int32))) else (0 : Int64)))), .second, .unset, .unset] [(.long ((o_i2l pn_) - (own_ft u2))), (.long (((0 : Int64) + (own_ch ((o_i2l pn_) - (own_ft u0)) (3 : Int32))) + (own_ch ((o_i2l pn_) - (own_ft u1)) (2 : Int32))))]))
  refine own_via (fun _ k => XS.iloadN X14.here hx rfl (hb hby d1_95) rfl k) ?_
  show own_Go p e below s _ _ _ (T14.setTop (mkF m 96 #[.val (.ref b_), .val (.int (3 : Int32)), .val (.int pn_), .val (.long (((0 : Int64) + (own_ch ((o_i2l pn_) - (own_ft u0)) (3 : Int32))) + (own_ch ((o_i2l pn_) - (own_ft u1)) (2 : Int32)))), .second, .val (.long (if u1 < (0 : Int32) then ((if u0 < (0 : Int32) then ((0 : Int64) + (o_lshl (1 : Int64) (2 : Int32))) else (0 : Int64)) + (o_lshl (1 : Int64) (1 : Int32))) else (if u0 < (0 : Int32) then ((0 : Int64) + (o_lshl (1 : Int64) (2 : Int32))) else (0 : Int64)))), .second, .unset, .unset] [(.int (3 : Int32)), (.long ((o_i2l pn_) - (own_ft u2))), (.long (((0 : Int64) + (own_ch ((o_i2l pn_) - (own_ft u0)) (3 : Int32))) + (own_ch ((o_i2l pn_) - (own_ft u1)) (2 : Int32))))]))
  refine own_via (fun _ k => XS.iconst X14.here hx rfl (hb hby d1_96) k) ?_
  show own_Go p e below s _ _ _ (T14.setTop (mkF m 97 #[.val (.ref b_), .val (.int (3 : Int32)), .val (.int pn_), .val (.long (((0 : Int64) + (own_ch ((o_i2l pn_) - (own_ft u0)) (3 : Int32))) + (own_ch ((o_i2l pn_) - (own_ft u1)) (2 : Int32)))), .second, .val (.long (if u1 < (0 : Int32) then ((if u0 < (0 : Int32) then ((0 : Int64) + (o_lshl (1 : Int64) (2 : Int32))) else (0 : Int64)) + (o_lshl (1 : Int64) (1 : Int32))) else (if u0 < (0 : Int32) then ((0 : Int64) + (o_lshl (1 : Int64) (2 : Int32))) else (0 : Int64)))), .second, .unset, .unset] [(.int (2 : Int32)), (.int (3 : Int32)), (.long ((o_i2l pn_) - (own_ft u2))), (.long (((0 : Int64) + (own_ch ((o_i2l pn_) - (own_ft u0)) (3 : Int32))) + (own_ch ((o_i2l pn_) - (own_ft u1)) (2 : Int32))))]))
  refine own_via (fun _ k => XS.isub X14.here hx rfl (hb hby d1_97) rfl k) ?_
  show own_Go p e below s _ _ _ (T14.setTop (mkF m 98 #[.val (.ref b_), .val (.int (3 : Int32)), .val (.int pn_), .val (.long (((0 : Int64) + (own_ch ((o_i2l pn_) - (own_ft u0)) (3 : Int32))) + (own_ch ((o_i2l pn_) - (own_ft u1)) (2 : Int32)))), .second, .val (.long (if u1 < (0 : Int32) then ((if u0 < (0 : Int32) then ((0 : Int64) + (o_lshl (1 : Int64) (2 : Int32))) else (0 : Int64)) + (o_lshl (1 : Int64) (1 : Int32))) else (if u0 < (0 : Int32) then ((0 : Int64) + (o_lshl (1 : Int64) (2 : Int32))) else (0 : Int64)))), .second, .unset, .unset] [(.int (1 : Int32)), (.long ((o_i2l pn_) - (own_ft u2))), (.long (((0 : Int64) + (own_ch ((o_i2l pn_) - (own_ft u0)) (3 : Int32))) + (own_ch ((o_i2l pn_) - (own_ft u1)) (2 : Int32))))]))
  obtain ⟨_, _, ⟨T15, L15, k15, n15⟩, -, X15, ⟨Lc15, hQ15, l15, y15, z15⟩, st15⟩ := Jvm.LawKit.callS X14 hx (y := (⟨"com/example/unalike/unalike/engine/TSetsNextPinLaw", "choose", "(JI)J"⟩ : MethodName)) hown (mvT hZ (hw _ (List.mem_of_getElem? (i := 6) rfl))) (mvT hZ (hw _ (List.mem_of_getElem? (i := 7) rfl))) (mvT hZ (hw _ (List.mem_of_getElem? (i := 4) rfl))) (mvT hZ (hw _ (List.mem_of_getElem? (i := 8) rfl))) (by decide) (backOf (W := 2) (rm2 l Z a0 hw [] ((o_i2l pn_) - (own_ft u2)) (1 : Int32) h0 n0 Z0 ) hZ (hw _ (List.mem_of_getElem? (i := 8) rfl)) (hw _ (List.mem_of_getElem? (i := 4) rfl)) (by decide) (by decide)) (g := (mkF m 98 #[.val (.ref b_), .val (.int (3 : Int32)), .val (.int pn_), .val (.long (((0 : Int64) + (own_ch ((o_i2l pn_) - (own_ft u0)) (3 : Int32))) + (own_ch ((o_i2l pn_) - (own_ft u1)) (2 : Int32)))), .second, .val (.long (if u1 < (0 : Int32) then ((if u0 < (0 : Int32) then ((0 : Int64) + (o_lshl (1 : Int64) (2 : Int32))) else (0 : Int64)) + (o_lshl (1 : Int64) (1 : Int32))) else (if u0 < (0 : Int32) then ((0 : Int64) + (o_lshl (1 : Int64) (2 : Int32))) else (0 : Int64)))), .second, .unset, .unset] [(.int (1 : Int32)), (.long ((o_i2l pn_) - (own_ft u2))), (.long (((0 : Int64) + (own_ch ((o_i2l pn_) - (own_ft u0)) (3 : Int32))) + (own_ch ((o_i2l pn_) - (own_ft u1)) (2 : Int32))))])) rfl (by rw [hml]; rfl) (argsL := [(.long ((o_i2l pn_) - (own_ft u2))), (.int (1 : Int32))]) (rest := [(.long (((0 : Int64) + (own_ch ((o_i2l pn_) - (own_ft u0)) (3 : Int32))) + (own_ch ((o_i2l pn_) - (own_ft u1)) (2 : Int32))))]) (lenOf pd_1 rfl) rfl (by show 2 * 0 + _ ≤ _; exact Nat.le_of_eq rfl) (hb hby d1_98) (fun _ _ => ⟨rfl, e14, (by decide : 0 + 0 ≤ _), (by decide : 0 + 0 ≤ _)⟩)
  dsimp only [Pt.U, Pt.locs, Pt.cells, Pt.slots] at X15 l15 y15 z15 st15 hQ15
  subst l15 y15 z15
  obtain ⟨rfl, N15q, e15⟩ := hQ15
  have N15 := Fr.app N14 N15q
  refine own_via st15 ?_
  show own_Go p e below s _ _ _ (T15.setTop (mkF m 101 #[.val (.ref b_), .val (.int (3 : Int32)), .val (.int pn_), .val (.long (((0 : Int64) + (own_ch ((o_i2l pn_) - (own_ft u0)) (3 : Int32))) + (own_ch ((o_i2l pn_) - (own_ft u1)) (2 : Int32)))), .second, .val (.long (if u1 < (0 : Int32) then ((if u0 < (0 : Int32) then ((0 : Int64) + (o_lshl (1 : Int64) (2 : Int32))) else (0 : Int64)) + (o_lshl (1 : Int64) (1 : Int32))) else (if u0 < (0 : Int32) then ((0 : Int64) + (o_lshl (1 : Int64) (2 : Int32))) else (0 : Int64)))), .second, .unset, .unset] [(.long (own_ch ((o_i2l pn_) - (own_ft u2)) (1 : Int32))), (.long (((0 : Int64) + (own_ch ((o_i2l pn_) - (own_ft u0)) (3 : Int32))) + (own_ch ((o_i2l pn_) - (own_ft u1)) (2 : Int32))))]))
  refine own_via (fun _ k => XS.ladd X15.here hx rfl (hb hby d1_101) rfl k) ?_
  show own_Go p e below s _ _ _ (T15.setTop (mkF m 102 #[.val (.ref b_), .val (.int (3 : Int32)), .val (.int pn_), .val (.long (((0 : Int64) + (own_ch ((o_i2l pn_) - (own_ft u0)) (3 : Int32))) + (own_ch ((o_i2l pn_) - (own_ft u1)) (2 : Int32)))), .second, .val (.long (if u1 < (0 : Int32) then ((if u0 < (0 : Int32) then ((0 : Int64) + (o_lshl (1 : Int64) (2 : Int32))) else (0 : Int64)) + (o_lshl (1 : Int64) (1 : Int32))) else (if u0 < (0 : Int32) then ((0 : Int64) + (o_lshl (1 : Int64) (2 : Int32))) else (0 : Int64)))), .second, .unset, .unset] [(.long ((((0 : Int64) + (own_ch ((o_i2l pn_) - (own_ft u0)) (3 : Int32))) + (own_ch ((o_i2l pn_) - (own_ft u1)) (2 : Int32))) + (own_ch ((o_i2l pn_) - (own_ft u2)) (1 : Int32))))]))
  refine own_via (fun _ k => XS.lstoreN X15.here hx rfl (hb hby d1_102) rfl (l' := #[.val (.ref b_), .val (.int (3 : Int32)), .val (.int pn_), .val (.long ((((0 : Int64) + (own_ch ((o_i2l pn_) - (own_ft u0)) (3 : Int32))) + (own_ch ((o_i2l pn_) - (own_ft u1)) (2 : Int32))) + (own_ch ((o_i2l pn_) - (own_ft u2)) (1 : Int32)))), .second, .val (.long (if u1 < (0 : Int32) then ((if u0 < (0 : Int32) then ((0 : Int64) + (o_lshl (1 : Int64) (2 : Int32))) else (0 : Int64)) + (o_lshl (1 : Int64) (1 : Int32))) else (if u0 < (0 : Int32) then ((0 : Int64) + (o_lshl (1 : Int64) (2 : Int32))) else (0 : Int64)))), .second, .unset, .unset]) rfl k) ?_
  show own_Go p e below s _ _ _ (T15.setTop (mkF m 103 #[.val (.ref b_), .val (.int (3 : Int32)), .val (.int pn_), .val (.long ((((0 : Int64) + (own_ch ((o_i2l pn_) - (own_ft u0)) (3 : Int32))) + (own_ch ((o_i2l pn_) - (own_ft u1)) (2 : Int32))) + (own_ch ((o_i2l pn_) - (own_ft u2)) (1 : Int32)))), .second, .val (.long (if u1 < (0 : Int32) then ((if u0 < (0 : Int32) then ((0 : Int64) + (o_lshl (1 : Int64) (2 : Int32))) else (0 : Int64)) + (o_lshl (1 : Int64) (1 : Int32))) else (if u0 < (0 : Int32) then ((0 : Int64) + (o_lshl (1 : Int64) (2 : Int32))) else (0 : Int64)))), .second, .unset, .unset] []))
  refine own_via (fun _ k => XS.aloadN X15.here hx rfl (hb hby d1_103) rfl rfl k) ?_
  show own_Go p e below s _ _ _ (T15.setTop (mkF m 104 #[.val (.ref b_), .val (.int (3 : Int32)), .val (.int pn_), .val (.long ((((0 : Int64) + (own_ch ((o_i2l pn_) - (own_ft u0)) (3 : Int32))) + (own_ch ((o_i2l pn_) - (own_ft u1)) (2 : Int32))) + (own_ch ((o_i2l pn_) - (own_ft u2)) (1 : Int32)))), .second, .val (.long (if u1 < (0 : Int32) then ((if u0 < (0 : Int32) then ((0 : Int64) + (o_lshl (1 : Int64) (2 : Int32))) else (0 : Int64)) + (o_lshl (1 : Int64) (1 : Int32))) else (if u0 < (0 : Int32) then ((0 : Int64) + (o_lshl (1 : Int64) (2 : Int32))) else (0 : Int64)))), .second, .unset, .unset] [(.ref b_)]))
  refine own_via (fun _ k => XS.iconst X15.here hx rfl (hb hby d1_104) k) ?_
  show own_Go p e below s _ _ _ (T15.setTop (mkF m 105 #[.val (.ref b_), .val (.int (3 : Int32)), .val (.int pn_), .val (.long ((((0 : Int64) + (own_ch ((o_i2l pn_) - (own_ft u0)) (3 : Int32))) + (own_ch ((o_i2l pn_) - (own_ft u1)) (2 : Int32))) + (own_ch ((o_i2l pn_) - (own_ft u2)) (1 : Int32)))), .second, .val (.long (if u1 < (0 : Int32) then ((if u0 < (0 : Int32) then ((0 : Int64) + (o_lshl (1 : Int64) (2 : Int32))) else (0 : Int64)) + (o_lshl (1 : Int64) (1 : Int32))) else (if u0 < (0 : Int32) then ((0 : Int64) + (o_lshl (1 : Int64) (2 : Int32))) else (0 : Int64)))), .second, .unset, .unset] [(.int (2 : Int32)), (.ref b_)]))
  obtain ⟨cl16, Ar16, q16, S16, M16, H16, G16⟩ := (id V_b_)
  have hin16 : ¬ ((2 : Int32) < 0 ∨ cl16.slots.size ≤ ((2 : Int32)).toNatClampNeg) := inb_of S16 ⟨by decide, by decide⟩
  have hat16 : cl16.slots[((2 : Int32)).toNatClampNeg]? = some (.int u2) := Has.at H16 hin16 rfl
  refine own_via (fun _ k => X15.iaload hx (j := (2 : Int32)) (v := (.int u2)) (by rw [e15]; exact Ar16.1) (State.isArrayOf_alike hZ.alike Ar16.2.1) Ar16.2.2 hin16 hat16 (g := (mkF m 105 #[.val (.ref b_), .val (.int (3 : Int32)), .val (.int pn_), .val (.long ((((0 : Int64) + (own_ch ((o_i2l pn_) - (own_ft u0)) (3 : Int32))) + (own_ch ((o_i2l pn_) - (own_ft u1)) (2 : Int32))) + (own_ch ((o_i2l pn_) - (own_ft u2)) (1 : Int32)))), .second, .val (.long (if u1 < (0 : Int32) then ((if u0 < (0 : Int32) then ((0 : Int64) + (o_lshl (1 : Int64) (2 : Int32))) else (0 : Int64)) + (o_lshl (1 : Int64) (1 : Int32))) else (if u0 < (0 : Int32) then ((0 : Int64) + (o_lshl (1 : Int64) (2 : Int32))) else (0 : Int64)))), .second, .unset, .unset] [(.int (2 : Int32)), (.ref b_)])) rfl rfl (hb hby d1_105) _ k) ?_
  show own_Go p e below s _ _ _ (T15.setTop (mkF m 106 #[.val (.ref b_), .val (.int (3 : Int32)), .val (.int pn_), .val (.long ((((0 : Int64) + (own_ch ((o_i2l pn_) - (own_ft u0)) (3 : Int32))) + (own_ch ((o_i2l pn_) - (own_ft u1)) (2 : Int32))) + (own_ch ((o_i2l pn_) - (own_ft u2)) (1 : Int32)))), .second, .val (.long (if u1 < (0 : Int32) then ((if u0 < (0 : Int32) then ((0 : Int64) + (o_lshl (1 : Int64) (2 : Int32))) else (0 : Int64)) + (o_lshl (1 : Int64) (1 : Int32))) else (if u0 < (0 : Int32) then ((0 : Int64) + (o_lshl (1 : Int64) (2 : Int32))) else (0 : Int64)))), .second, .unset, .unset] [(.int u2)]))
  have st17 : ∀ t, Steps p.tables e below (T15.setTop (mkF m 115 #[.val (.ref b_), .val (.int (3 : Int32)), .val (.int pn_), .val (.long ((((0 : Int64) + (own_ch ((o_i2l pn_) - (own_ft u0)) (3 : Int32))) + (own_ch ((o_i2l pn_) - (own_ft u1)) (2 : Int32))) + (own_ch ((o_i2l pn_) - (own_ft u2)) (1 : Int32)))), .second, .val (.long (if u2 < (0 : Int32) then ((if u1 < (0 : Int32) then ((if u0 < (0 : Int32) then ((0 : Int64) + (o_lshl (1 : Int64) (2 : Int32))) else (0 : Int64)) + (o_lshl (1 : Int64) (1 : Int32))) else (if u0 < (0 : Int32) then ((0 : Int64) + (o_lshl (1 : Int64) (2 : Int32))) else (0 : Int64))) + (1 : Int64)) else (if u1 < (0 : Int32) then ((if u0 < (0 : Int32) then ((0 : Int64) + (o_lshl (1 : Int64) (2 : Int32))) else (0 : Int64)) + (o_lshl (1 : Int64) (1 : Int32))) else (if u0 < (0 : Int32) then ((0 : Int64) + (o_lshl (1 : Int64) (2 : Int32))) else (0 : Int64))))), .second, .unset, .unset] [])) t → Steps p.tables e below (T15.setTop (mkF m 106 #[.val (.ref b_), .val (.int (3 : Int32)), .val (.int pn_), .val (.long ((((0 : Int64) + (own_ch ((o_i2l pn_) - (own_ft u0)) (3 : Int32))) + (own_ch ((o_i2l pn_) - (own_ft u1)) (2 : Int32))) + (own_ch ((o_i2l pn_) - (own_ft u2)) (1 : Int32)))), .second, .val (.long (if u1 < (0 : Int32) then ((if u0 < (0 : Int32) then ((0 : Int64) + (o_lshl (1 : Int64) (2 : Int32))) else (0 : Int64)) + (o_lshl (1 : Int64) (1 : Int32))) else (if u0 < (0 : Int32) then ((0 : Int64) + (o_lshl (1 : Int64) (2 : Int32))) else (0 : Int64)))), .second, .unset, .unset] [(.int u2)])) t := by
    intro t k
    by_cases hq18 : u2 < (0 : Int32)
    · refine XS.ifNo X15.here hx rfl (hb hby d1_106) rfl (Jvm.Free.XT.i0_ge_f hq18) ?_
      show Steps p.tables e below (T15.setTop (mkF m 109 #[.val (.ref b_), .val (.int (3 : Int32)), .val (.int pn_), .val (.long ((((0 : Int64) + (own_ch ((o_i2l pn_) - (own_ft u0)) (3 : Int32))) + (own_ch ((o_i2l pn_) - (own_ft u1)) (2 : Int32))) + (own_ch ((o_i2l pn_) - (own_ft u2)) (1 : Int32)))), .second, .val (.long (if u1 < (0 : Int32) then ((if u0 < (0 : Int32) then ((0 : Int64) + (o_lshl (1 : Int64) (2 : Int32))) else (0 : Int64)) + (o_lshl (1 : Int64) (1 : Int32))) else (if u0 < (0 : Int32) then ((0 : Int64) + (o_lshl (1 : Int64) (2 : Int32))) else (0 : Int64)))), .second, .unset, .unset] [])) t
      refine XS.lload X15.here hx rfl (hb hby d1_109) rfl ?_
      show Steps p.tables e below (T15.setTop (mkF m 111 #[.val (.ref b_), .val (.int (3 : Int32)), .val (.int pn_), .val (.long ((((0 : Int64) + (own_ch ((o_i2l pn_) - (own_ft u0)) (3 : Int32))) + (own_ch ((o_i2l pn_) - (own_ft u1)) (2 : Int32))) + (own_ch ((o_i2l pn_) - (own_ft u2)) (1 : Int32)))), .second, .val (.long (if u1 < (0 : Int32) then ((if u0 < (0 : Int32) then ((0 : Int64) + (o_lshl (1 : Int64) (2 : Int32))) else (0 : Int64)) + (o_lshl (1 : Int64) (1 : Int32))) else (if u0 < (0 : Int32) then ((0 : Int64) + (o_lshl (1 : Int64) (2 : Int32))) else (0 : Int64)))), .second, .unset, .unset] [(.long (if u1 < (0 : Int32) then ((if u0 < (0 : Int32) then ((0 : Int64) + (o_lshl (1 : Int64) (2 : Int32))) else (0 : Int64)) + (o_lshl (1 : Int64) (1 : Int32))) else (if u0 < (0 : Int32) then ((0 : Int64) + (o_lshl (1 : Int64) (2 : Int32))) else (0 : Int64))))])) t
      refine XS.lconst X15.here hx rfl (hb hby d1_111) ?_
      show Steps p.tables e below (T15.setTop (mkF m 112 #[.val (.ref b_), .val (.int (3 : Int32)), .val (.int pn_), .val (.long ((((0 : Int64) + (own_ch ((o_i2l pn_) - (own_ft u0)) (3 : Int32))) + (own_ch ((o_i2l pn_) - (own_ft u1)) (2 : Int32))) + (own_ch ((o_i2l pn_) - (own_ft u2)) (1 : Int32)))), .second, .val (.long (if u1 < (0 : Int32) then ((if u0 < (0 : Int32) then ((0 : Int64) + (o_lshl (1 : Int64) (2 : Int32))) else (0 : Int64)) + (o_lshl (1 : Int64) (1 : Int32))) else (if u0 < (0 : Int32) then ((0 : Int64) + (o_lshl (1 : Int64) (2 : Int32))) else (0 : Int64)))), .second, .unset, .unset] [(.long (1 : Int64)), (.long (if u1 < (0 : Int32) then ((if u0 < (0 : Int32) then ((0 : Int64) + (o_lshl (1 : Int64) (2 : Int32))) else (0 : Int64)) + (o_lshl (1 : Int64) (1 : Int32))) else (if u0 < (0 : Int32) then ((0 : Int64) + (o_lshl (1 : Int64) (2 : Int32))) else (0 : Int64))))])) t
      refine XS.ladd X15.here hx rfl (hb hby d1_112) rfl ?_
      show Steps p.tables e below (T15.setTop (mkF m 113 #[.val (.ref b_), .val (.int (3 : Int32)), .val (.int pn_), .val (.long ((((0 : Int64) + (own_ch ((o_i2l pn_) - (own_ft u0)) (3 : Int32))) + (own_ch ((o_i2l pn_) - (own_ft u1)) (2 : Int32))) + (own_ch ((o_i2l pn_) - (own_ft u2)) (1 : Int32)))), .second, .val (.long (if u1 < (0 : Int32) then ((if u0 < (0 : Int32) then ((0 : Int64) + (o_lshl (1 : Int64) (2 : Int32))) else (0 : Int64)) + (o_lshl (1 : Int64) (1 : Int32))) else (if u0 < (0 : Int32) then ((0 : Int64) + (o_lshl (1 : Int64) (2 : Int32))) else (0 : Int64)))), .second, .unset, .unset] [(.long ((if u1 < (0 : Int32) then ((if u0 < (0 : Int32) then ((0 : Int64) + (o_lshl (1 : Int64) (2 : Int32))) else (0 : Int64)) + (o_lshl (1 : Int64) (1 : Int32))) else (if u0 < (0 : Int32) then ((0 : Int64) + (o_lshl (1 : Int64) (2 : Int32))) else (0 : Int64))) + (1 : Int64)))])) t
      refine XS.lstore X15.here hx rfl (hb hby d1_113) rfl (l' := #[.val (.ref b_), .val (.int (3 : Int32)), .val (.int pn_), .val (.long ((((0 : Int64) + (own_ch ((o_i2l pn_) - (own_ft u0)) (3 : Int32))) + (own_ch ((o_i2l pn_) - (own_ft u1)) (2 : Int32))) + (own_ch ((o_i2l pn_) - (own_ft u2)) (1 : Int32)))), .second, .val (.long ((if u1 < (0 : Int32) then ((if u0 < (0 : Int32) then ((0 : Int64) + (o_lshl (1 : Int64) (2 : Int32))) else (0 : Int64)) + (o_lshl (1 : Int64) (1 : Int32))) else (if u0 < (0 : Int32) then ((0 : Int64) + (o_lshl (1 : Int64) (2 : Int32))) else (0 : Int64))) + (1 : Int64))), .second, .unset, .unset]) rfl ?_
      show Steps p.tables e below (T15.setTop (mkF m 115 #[.val (.ref b_), .val (.int (3 : Int32)), .val (.int pn_), .val (.long ((((0 : Int64) + (own_ch ((o_i2l pn_) - (own_ft u0)) (3 : Int32))) + (own_ch ((o_i2l pn_) - (own_ft u1)) (2 : Int32))) + (own_ch ((o_i2l pn_) - (own_ft u2)) (1 : Int32)))), .second, .val (.long ((if u1 < (0 : Int32) then ((if u0 < (0 : Int32) then ((0 : Int64) + (o_lshl (1 : Int64) (2 : Int32))) else (0 : Int64)) + (o_lshl (1 : Int64) (1 : Int32))) else (if u0 < (0 : Int32) then ((0 : Int64) + (o_lshl (1 : Int64) (2 : Int32))) else (0 : Int64))) + (1 : Int64))), .second, .unset, .unset] [])) t
      simp only [if_pos hq18] at k
      exact k
    · refine XS.ifYes X15.here hx rfl (pc0 := 106) (pc' := 115) rfl (hb hby d1_106) rfl (Jvm.Free.XT.i0_ge_t hq18) (by decide) (by decide) ?_
      show Steps p.tables e below (T15.setTop (mkF m 115 #[.val (.ref b_), .val (.int (3 : Int32)), .val (.int pn_), .val (.long ((((0 : Int64) + (own_ch ((o_i2l pn_) - (own_ft u0)) (3 : Int32))) + (own_ch ((o_i2l pn_) - (own_ft u1)) (2 : Int32))) + (own_ch ((o_i2l pn_) - (own_ft u2)) (1 : Int32)))), .second, .val (.long (if u1 < (0 : Int32) then ((if u0 < (0 : Int32) then ((0 : Int64) + (o_lshl (1 : Int64) (2 : Int32))) else (0 : Int64)) + (o_lshl (1 : Int64) (1 : Int32))) else (if u0 < (0 : Int32) then ((0 : Int64) + (o_lshl (1 : Int64) (2 : Int32))) else (0 : Int64)))), .second, .unset, .unset] [])) t
      simp only [if_neg hq18] at k
      exact k
  refine own_via st17 ?_
  show own_Go p e below s _ _ _ (T15.setTop (mkF m 115 #[.val (.ref b_), .val (.int (3 : Int32)), .val (.int pn_), .val (.long ((((0 : Int64) + (own_ch ((o_i2l pn_) - (own_ft u0)) (3 : Int32))) + (own_ch ((o_i2l pn_) - (own_ft u1)) (2 : Int32))) + (own_ch ((o_i2l pn_) - (own_ft u2)) (1 : Int32)))), .second, .val (.long (if u2 < (0 : Int32) then ((if u1 < (0 : Int32) then ((if u0 < (0 : Int32) then ((0 : Int64) + (o_lshl (1 : Int64) (2 : Int32))) else (0 : Int64)) + (o_lshl (1 : Int64) (1 : Int32))) else (if u0 < (0 : Int32) then ((0 : Int64) + (o_lshl (1 : Int64) (2 : Int32))) else (0 : Int64))) + (1 : Int64)) else (if u1 < (0 : Int32) then ((if u0 < (0 : Int32) then ((0 : Int64) + (o_lshl (1 : Int64) (2 : Int32))) else (0 : Int64)) + (o_lshl (1 : Int64) (1 : Int32))) else (if u0 < (0 : Int32) then ((0 : Int64) + (o_lshl (1 : Int64) (2 : Int32))) else (0 : Int64))))), .second, .unset, .unset] []))
  refine own_via (fun _ k => XS.iloadN X15.here hx rfl (hb hby d1_115) rfl k) ?_
  show own_Go p e below s _ _ _ (T15.setTop (mkF m 116 #[.val (.ref b_), .val (.int (3 : Int32)), .val (.int pn_), .val (.long ((((0 : Int64) + (own_ch ((o_i2l pn_) - (own_ft u0)) (3 : Int32))) + (own_ch ((o_i2l pn_) - (own_ft u1)) (2 : Int32))) + (own_ch ((o_i2l pn_) - (own_ft u2)) (1 : Int32)))), .second, .val (.long (if u2 < (0 : Int32) then ((if u1 < (0 : Int32) then ((if u0 < (0 : Int32) then ((0 : Int64) + (o_lshl (1 : Int64) (2 : Int32))) else (0 : Int64)) + (o_lshl (1 : Int64) (1 : Int32))) else (if u0 < (0 : Int32) then ((0 : Int64) + (o_lshl (1 : Int64) (2 : Int32))) else (0 : Int64))) + (1 : Int64)) else (if u1 < (0 : Int32) then ((if u0 < (0 : Int32) then ((0 : Int64) + (o_lshl (1 : Int64) (2 : Int32))) else (0 : Int64)) + (o_lshl (1 : Int64) (1 : Int32))) else (if u0 < (0 : Int32) then ((0 : Int64) + (o_lshl (1 : Int64) (2 : Int32))) else (0 : Int64))))), .second, .unset, .unset] [(.int pn_)]))
  refine own_via (fun _ k => XS.i2l X15.here hx rfl (hb hby d1_116) rfl k) ?_
  show own_Go p e below s _ _ _ (T15.setTop (mkF m 117 #[.val (.ref b_), .val (.int (3 : Int32)), .val (.int pn_), .val (.long ((((0 : Int64) + (own_ch ((o_i2l pn_) - (own_ft u0)) (3 : Int32))) + (own_ch ((o_i2l pn_) - (own_ft u1)) (2 : Int32))) + (own_ch ((o_i2l pn_) - (own_ft u2)) (1 : Int32)))), .second, .val (.long (if u2 < (0 : Int32) then ((if u1 < (0 : Int32) then ((if u0 < (0 : Int32) then ((0 : Int64) + (o_lshl (1 : Int64) (2 : Int32))) else (0 : Int64)) + (o_lshl (1 : Int64) (1 : Int32))) else (if u0 < (0 : Int32) then ((0 : Int64) + (o_lshl (1 : Int64) (2 : Int32))) else (0 : Int64))) + (1 : Int64)) else (if u1 < (0 : Int32) then ((if u0 < (0 : Int32) then ((0 : Int64) + (o_lshl (1 : Int64) (2 : Int32))) else (0 : Int64)) + (o_lshl (1 : Int64) (1 : Int32))) else (if u0 < (0 : Int32) then ((0 : Int64) + (o_lshl (1 : Int64) (2 : Int32))) else (0 : Int64))))), .second, .unset, .unset] [(.long (o_i2l pn_))]))
  refine own_via (fun _ k => XS.iloadN X15.here hx rfl (hb hby d1_117) rfl k) ?_
  show own_Go p e below s _ _ _ (T15.setTop (mkF m 118 #[.val (.ref b_), .val (.int (3 : Int32)), .val (.int pn_), .val (.long ((((0 : Int64) + (own_ch ((o_i2l pn_) - (own_ft u0)) (3 : Int32))) + (own_ch ((o_i2l pn_) - (own_ft u1)) (2 : Int32))) + (own_ch ((o_i2l pn_) - (own_ft u2)) (1 : Int32)))), .second, .val (.long (if u2 < (0 : Int32) then ((if u1 < (0 : Int32) then ((if u0 < (0 : Int32) then ((0 : Int64) + (o_lshl (1 : Int64) (2 : Int32))) else (0 : Int64)) + (o_lshl (1 : Int64) (1 : Int32))) else (if u0 < (0 : Int32) then ((0 : Int64) + (o_lshl (1 : Int64) (2 : Int32))) else (0 : Int64))) + (1 : Int64)) else (if u1 < (0 : Int32) then ((if u0 < (0 : Int32) then ((0 : Int64) + (o_lshl (1 : Int64) (2 : Int32))) else (0 : Int64)) + (o_lshl (1 : Int64) (1 : Int32))) else (if u0 < (0 : Int32) then ((0 : Int64) + (o_lshl (1 : Int64) (2 : Int32))) else (0 : Int64))))), .second, .unset, .unset] [(.int (3 : Int32)), (.long (o_i2l pn_))]))
  obtain ⟨_, _, ⟨T19, L19, k19, n19⟩, -, X19, ⟨Lc19, hQ19, l19, y19, z19⟩, st19⟩ := Jvm.LawKit.callS X15 hx (y := (⟨"com/example/unalike/unalike/engine/TSetsNextPinLaw", "choose", "(JI)J"⟩ : MethodName)) hown (mvT hZ (hw _ (List.mem_of_getElem? (i := 6) rfl))) (mvT hZ (hw _ (List.mem_of_getElem? (i := 7) rfl))) (mvT hZ (hw _ (List.mem_of_getElem? (i := 4) rfl))) (mvT hZ (hw _ (List.mem_of_getElem? (i := 8) rfl))) (by decide) (backOf (W := 0) (rm2 l Z a0 hw [] (o_i2l pn_) (3 : Int32) h0 n0 Z0 ) hZ (hw _ (List.mem_of_getElem? (i := 8) rfl)) (hw _ (List.mem_of_getElem? (i := 4) rfl)) (by decide) (by decide)) (g := (mkF m 118 #[.val (.ref b_), .val (.int (3 : Int32)), .val (.int pn_), .val (.long ((((0 : Int64) + (own_ch ((o_i2l pn_) - (own_ft u0)) (3 : Int32))) + (own_ch ((o_i2l pn_) - (own_ft u1)) (2 : Int32))) + (own_ch ((o_i2l pn_) - (own_ft u2)) (1 : Int32)))), .second, .val (.long (if u2 < (0 : Int32) then ((if u1 < (0 : Int32) then ((if u0 < (0 : Int32) then ((0 : Int64) + (o_lshl (1 : Int64) (2 : Int32))) else (0 : Int64)) + (o_lshl (1 : Int64) (1 : Int32))) else (if u0 < (0 : Int32) then ((0 : Int64) + (o_lshl (1 : Int64) (2 : Int32))) else (0 : Int64))) + (1 : Int64)) else (if u1 < (0 : Int32) then ((if u0 < (0 : Int32) then ((0 : Int64) + (o_lshl (1 : Int64) (2 : Int32))) else (0 : Int64)) + (o_lshl (1 : Int64) (1 : Int32))) else (if u0 < (0 : Int32) then ((0 : Int64) + (o_lshl (1 : Int64) (2 : Int32))) else (0 : Int64))))), .second, .unset, .unset] [(.int (3 : Int32)), (.long (o_i2l pn_))])) rfl (by rw [hml]; rfl) (argsL := [(.long (o_i2l pn_)), (.int (3 : Int32))]) (rest := []) (lenOf pd_1 rfl) rfl (by show 2 * 0 + _ ≤ _; exact Nat.le_of_eq rfl) (hb hby d1_118) (fun _ _ => ⟨rfl, e15, (by decide : 0 + 0 ≤ _), (by decide : 0 + 0 ≤ _)⟩)
  dsimp only [Pt.U, Pt.locs, Pt.cells, Pt.slots] at X19 l19 y19 z19 st19 hQ19
  subst l19 y19 z19
  obtain ⟨rfl, N19q, e19⟩ := hQ19
  have N19 := Fr.app N15 N19q
  refine own_via st19 ?_
  show own_Go p e below s _ _ _ (T19.setTop (mkF m 121 #[.val (.ref b_), .val (.int (3 : Int32)), .val (.int pn_), .val (.long ((((0 : Int64) + (own_ch ((o_i2l pn_) - (own_ft u0)) (3 : Int32))) + (own_ch ((o_i2l pn_) - (own_ft u1)) (2 : Int32))) + (own_ch ((o_i2l pn_) - (own_ft u2)) (1 : Int32)))), .second, .val (.long (if u2 < (0 : Int32) then ((if u1 < (0 : Int32) then ((if u0 < (0 : Int32) then ((0 : Int64) + (o_lshl (1 : Int64) (2 : Int32))) else (0 : Int64)) + (o_lshl (1 : Int64) (1 : Int32))) else (if u0 < (0 : Int32) then ((0 : Int64) + (o_lshl (1 : Int64) (2 : Int32))) else (0 : Int64))) + (1 : Int64)) else (if u1 < (0 : Int32) then ((if u0 < (0 : Int32) then ((0 : Int64) + (o_lshl (1 : Int64) (2 : Int32))) else (0 : Int64)) + (o_lshl (1 : Int64) (1 : Int32))) else (if u0 < (0 : Int32) then ((0 : Int64) + (o_lshl (1 : Int64) (2 : Int32))) else (0 : Int64))))), .second, .unset, .unset] [(.long (own_ch (o_i2l pn_) (3 : Int32)))]))
  refine own_via (fun _ k => XS.lconst X19.here hx rfl (hb hby d1_121) k) ?_
  show own_Go p e below s _ _ _ (T19.setTop (mkF m 122 #[.val (.ref b_), .val (.int (3 : Int32)), .val (.int pn_), .val (.long ((((0 : Int64) + (own_ch ((o_i2l pn_) - (own_ft u0)) (3 : Int32))) + (own_ch ((o_i2l pn_) - (own_ft u1)) (2 : Int32))) + (own_ch ((o_i2l pn_) - (own_ft u2)) (1 : Int32)))), .second, .val (.long (if u2 < (0 : Int32) then ((if u1 < (0 : Int32) then ((if u0 < (0 : Int32) then ((0 : Int64) + (o_lshl (1 : Int64) (2 : Int32))) else (0 : Int64)) + (o_lshl (1 : Int64) (1 : Int32))) else (if u0 < (0 : Int32) then ((0 : Int64) + (o_lshl (1 : Int64) (2 : Int32))) else (0 : Int64))) + (1 : Int64)) else (if u1 < (0 : Int32) then ((if u0 < (0 : Int32) then ((0 : Int64) + (o_lshl (1 : Int64) (2 : Int32))) else (0 : Int64)) + (o_lshl (1 : Int64) (1 : Int32))) else (if u0 < (0 : Int32) then ((0 : Int64) + (o_lshl (1 : Int64) (2 : Int32))) else (0 : Int64))))), .second, .unset, .unset] [(.long (1 : Int64)), (.long (own_ch (o_i2l pn_) (3 : Int32)))]))
  refine own_via (fun _ k => XS.lsub X19.here hx rfl (hb hby d1_122) rfl k) ?_
  show own_Go p e below s _ _ _ (T19.setTop (mkF m 123 #[.val (.ref b_), .val (.int (3 : Int32)), .val (.int pn_), .val (.long ((((0 : Int64) + (own_ch ((o_i2l pn_) - (own_ft u0)) (3 : Int32))) + (own_ch ((o_i2l pn_) - (own_ft u1)) (2 : Int32))) + (own_ch ((o_i2l pn_) - (own_ft u2)) (1 : Int32)))), .second, .val (.long (if u2 < (0 : Int32) then ((if u1 < (0 : Int32) then ((if u0 < (0 : Int32) then ((0 : Int64) + (o_lshl (1 : Int64) (2 : Int32))) else (0 : Int64)) + (o_lshl (1 : Int64) (1 : Int32))) else (if u0 < (0 : Int32) then ((0 : Int64) + (o_lshl (1 : Int64) (2 : Int32))) else (0 : Int64))) + (1 : Int64)) else (if u1 < (0 : Int32) then ((if u0 < (0 : Int32) then ((0 : Int64) + (o_lshl (1 : Int64) (2 : Int32))) else (0 : Int64)) + (o_lshl (1 : Int64) (1 : Int32))) else (if u0 < (0 : Int32) then ((0 : Int64) + (o_lshl (1 : Int64) (2 : Int32))) else (0 : Int64))))), .second, .unset, .unset] [(.long ((own_ch (o_i2l pn_) (3 : Int32)) - (1 : Int64)))]))
  refine own_via (fun _ k => XS.lloadN X19.here hx rfl (hb hby d1_123) rfl k) ?_
  show own_Go p e below s _ _ _ (T19.setTop (mkF m 124 #[.val (.ref b_), .val (.int (3 : Int32)), .val (.int pn_), .val (.long ((((0 : Int64) + (own_ch ((o_i2l pn_) - (own_ft u0)) (3 : Int32))) + (own_ch ((o_i2l pn_) - (own_ft u1)) (2 : Int32))) + (own_ch ((o_i2l pn_) - (own_ft u2)) (1 : Int32)))), .second, .val (.long (if u2 < (0 : Int32) then ((if u1 < (0 : Int32) then ((if u0 < (0 : Int32) then ((0 : Int64) + (o_lshl (1 : Int64) (2 : Int32))) else (0 : Int64)) + (o_lshl (1 : Int64) (1 : Int32))) else (if u0 < (0 : Int32) then ((0 : Int64) + (o_lshl (1 : Int64) (2 : Int32))) else (0 : Int64))) + (1 : Int64)) else (if u1 < (0 : Int32) then ((if u0 < (0 : Int32) then ((0 : Int64) + (o_lshl (1 : Int64) (2 : Int32))) else (0 : Int64)) + (o_lshl (1 : Int64) (1 : Int32))) else (if u0 < (0 : Int32) then ((0 : Int64) + (o_lshl (1 : Int64) (2 : Int32))) else (0 : Int64))))), .second, .unset, .unset] [(.long ((((0 : Int64) + (own_ch ((o_i2l pn_) - (own_ft u0)) (3 : Int32))) + (own_ch ((o_i2l pn_) - (own_ft u1)) (2 : Int32))) + (own_ch ((o_i2l pn_) - (own_ft u2)) (1 : Int32)))), (.long ((own_ch (o_i2l pn_) (3 : Int32)) - (1 : Int64)))]))
  refine own_via (fun _ k => XS.lsub X19.here hx rfl (hb hby d1_124) rfl k) ?_
  show own_Go p e below s _ _ _ (T19.setTop (mkF m 125 #[.val (.ref b_), .val (.int (3 : Int32)), .val (.int pn_), .val (.long ((((0 : Int64) + (own_ch ((o_i2l pn_) - (own_ft u0)) (3 : Int32))) + (own_ch ((o_i2l pn_) - (own_ft u1)) (2 : Int32))) + (own_ch ((o_i2l pn_) - (own_ft u2)) (1 : Int32)))), .second, .val (.long (if u2 < (0 : Int32) then ((if u1 < (0 : Int32) then ((if u0 < (0 : Int32) then ((0 : Int64) + (o_lshl (1 : Int64) (2 : Int32))) else (0 : Int64)) + (o_lshl (1 : Int64) (1 : Int32))) else (if u0 < (0 : Int32) then ((0 : Int64) + (o_lshl (1 : Int64) (2 : Int32))) else (0 : Int64))) + (1 : Int64)) else (if u1 < (0 : Int32) then ((if u0 < (0 : Int32) then ((0 : Int64) + (o_lshl (1 : Int64) (2 : Int32))) else (0 : Int64)) + (o_lshl (1 : Int64) (1 : Int32))) else (if u0 < (0 : Int32) then ((0 : Int64) + (o_lshl (1 : Int64) (2 : Int32))) else (0 : Int64))))), .second, .unset, .unset] [(.long (((own_ch (o_i2l pn_) (3 : Int32)) - (1 : Int64)) - ((((0 : Int64) + (own_ch ((o_i2l pn_) - (own_ft u0)) (3 : Int32))) + (own_ch ((o_i2l pn_) - (own_ft u1)) (2 : Int32))) + (own_ch ((o_i2l pn_) - (own_ft u2)) (1 : Int32)))))]))
  refine own_via (fun _ k => XS.lstore X19.here hx rfl (hb hby d1_125) rfl (l' := #[.val (.ref b_), .val (.int (3 : Int32)), .val (.int pn_), .val (.long ((((0 : Int64) + (own_ch ((o_i2l pn_) - (own_ft u0)) (3 : Int32))) + (own_ch ((o_i2l pn_) - (own_ft u1)) (2 : Int32))) + (own_ch ((o_i2l pn_) - (own_ft u2)) (1 : Int32)))), .second, .val (.long (if u2 < (0 : Int32) then ((if u1 < (0 : Int32) then ((if u0 < (0 : Int32) then ((0 : Int64) + (o_lshl (1 : Int64) (2 : Int32))) else (0 : Int64)) + (o_lshl (1 : Int64) (1 : Int32))) else (if u0 < (0 : Int32) then ((0 : Int64) + (o_lshl (1 : Int64) (2 : Int32))) else (0 : Int64))) + (1 : Int64)) else (if u1 < (0 : Int32) then ((if u0 < (0 : Int32) then ((0 : Int64) + (o_lshl (1 : Int64) (2 : Int32))) else (0 : Int64)) + (o_lshl (1 : Int64) (1 : Int32))) else (if u0 < (0 : Int32) then ((0 : Int64) + (o_lshl (1 : Int64) (2 : Int32))) else (0 : Int64))))), .second, .val (.long (((own_ch (o_i2l pn_) (3 : Int32)) - (1 : Int64)) - ((((0 : Int64) + (own_ch ((o_i2l pn_) - (own_ft u0)) (3 : Int32))) + (own_ch ((o_i2l pn_) - (own_ft u1)) (2 : Int32))) + (own_ch ((o_i2l pn_) - (own_ft u2)) (1 : Int32))))), .second]) rfl k) ?_
  show own_Go p e below s _ _ _ (T19.setTop (mkF m 127 #[.val (.ref b_), .val (.int (3 : Int32)), .val (.int pn_), .val (.long ((((0 : Int64) + (own_ch ((o_i2l pn_) - (own_ft u0)) (3 : Int32))) + (own_ch ((o_i2l pn_) - (own_ft u1)) (2 : Int32))) + (own_ch ((o_i2l pn_) - (own_ft u2)) (1 : Int32)))), .second, .val (.long (if u2 < (0 : Int32) then ((if u1 < (0 : Int32) then ((if u0 < (0 : Int32) then ((0 : Int64) + (o_lshl (1 : Int64) (2 : Int32))) else (0 : Int64)) + (o_lshl (1 : Int64) (1 : Int32))) else (if u0 < (0 : Int32) then ((0 : Int64) + (o_lshl (1 : Int64) (2 : Int32))) else (0 : Int64))) + (1 : Int64)) else (if u1 < (0 : Int32) then ((if u0 < (0 : Int32) then ((0 : Int64) + (o_lshl (1 : Int64) (2 : Int32))) else (0 : Int64)) + (o_lshl (1 : Int64) (1 : Int32))) else (if u0 < (0 : Int32) then ((0 : Int64) + (o_lshl (1 : Int64) (2 : Int32))) else (0 : Int64))))), .second, .val (.long (((own_ch (o_i2l pn_) (3 : Int32)) - (1 : Int64)) - ((((0 : Int64) + (own_ch ((o_i2l pn_) - (own_ft u0)) (3 : Int32))) + (own_ch ((o_i2l pn_) - (own_ft u1)) (2 : Int32))) + (own_ch ((o_i2l pn_) - (own_ft u2)) (1 : Int32))))), .second] []))
  refine own_via (fun _ k => XS.lload X19.here hx rfl (hb hby d1_127) rfl k) ?_
  show own_Go p e below s _ _ _ (T19.setTop (mkF m 129 #[.val (.ref b_), .val (.int (3 : Int32)), .val (.int pn_), .val (.long ((((0 : Int64) + (own_ch ((o_i2l pn_) - (own_ft u0)) (3 : Int32))) + (own_ch ((o_i2l pn_) - (own_ft u1)) (2 : Int32))) + (own_ch ((o_i2l pn_) - (own_ft u2)) (1 : Int32)))), .second, .val (.long (if u2 < (0 : Int32) then ((if u1 < (0 : Int32) then ((if u0 < (0 : Int32) then ((0 : Int64) + (o_lshl (1 : Int64) (2 : Int32))) else (0 : Int64)) + (o_lshl (1 : Int64) (1 : Int32))) else (if u0 < (0 : Int32) then ((0 : Int64) + (o_lshl (1 : Int64) (2 : Int32))) else (0 : Int64))) + (1 : Int64)) else (if u1 < (0 : Int32) then ((if u0 < (0 : Int32) then ((0 : Int64) + (o_lshl (1 : Int64) (2 : Int32))) else (0 : Int64)) + (o_lshl (1 : Int64) (1 : Int32))) else (if u0 < (0 : Int32) then ((0 : Int64) + (o_lshl (1 : Int64) (2 : Int32))) else (0 : Int64))))), .second, .val (.long (((own_ch (o_i2l pn_) (3 : Int32)) - (1 : Int64)) - ((((0 : Int64) + (own_ch ((o_i2l pn_) - (own_ft u0)) (3 : Int32))) + (own_ch ((o_i2l pn_) - (own_ft u1)) (2 : Int32))) + (own_ch ((o_i2l pn_) - (own_ft u2)) (1 : Int32))))), .second] [(.long (((own_ch (o_i2l pn_) (3 : Int32)) - (1 : Int64)) - ((((0 : Int64) + (own_ch ((o_i2l pn_) - (own_ft u0)) (3 : Int32))) + (own_ch ((o_i2l pn_) - (own_ft u1)) (2 : Int32))) + (own_ch ((o_i2l pn_) - (own_ft u2)) (1 : Int32)))))]))
  refine own_via (fun _ k => XS.iloadN X19.here hx rfl (hb hby d1_129) rfl k) ?_
  show own_Go p e below s _ _ _ (T19.setTop (mkF m 130 #[.val (.ref b_), .val (.int (3 : Int32)), .val (.int pn_), .val (.long ((((0 : Int64) + (own_ch ((o_i2l pn_) - (own_ft u0)) (3 : Int32))) + (own_ch ((o_i2l pn_) - (own_ft u1)) (2 : Int32))) + (own_ch ((o_i2l pn_) - (own_ft u2)) (1 : Int32)))), .second, .val (.long (if u2 < (0 : Int32) then ((if u1 < (0 : Int32) then ((if u0 < (0 : Int32) then ((0 : Int64) + (o_lshl (1 : Int64) (2 : Int32))) else (0 : Int64)) + (o_lshl (1 : Int64) (1 : Int32))) else (if u0 < (0 : Int32) then ((0 : Int64) + (o_lshl (1 : Int64) (2 : Int32))) else (0 : Int64))) + (1 : Int64)) else (if u1 < (0 : Int32) then ((if u0 < (0 : Int32) then ((0 : Int64) + (o_lshl (1 : Int64) (2 : Int32))) else (0 : Int64)) + (o_lshl (1 : Int64) (1 : Int32))) else (if u0 < (0 : Int32) then ((0 : Int64) + (o_lshl (1 : Int64) (2 : Int32))) else (0 : Int64))))), .second, .val (.long (((own_ch (o_i2l pn_) (3 : Int32)) - (1 : Int64)) - ((((0 : Int64) + (own_ch ((o_i2l pn_) - (own_ft u0)) (3 : Int32))) + (own_ch ((o_i2l pn_) - (own_ft u1)) (2 : Int32))) + (own_ch ((o_i2l pn_) - (own_ft u2)) (1 : Int32))))), .second] [(.int (3 : Int32)), (.long (((own_ch (o_i2l pn_) (3 : Int32)) - (1 : Int64)) - ((((0 : Int64) + (own_ch ((o_i2l pn_) - (own_ft u0)) (3 : Int32))) + (own_ch ((o_i2l pn_) - (own_ft u1)) (2 : Int32))) + (own_ch ((o_i2l pn_) - (own_ft u2)) (1 : Int32)))))]))
  refine own_via (fun _ k => XS.lshl X19.here hx rfl (hb hby d1_130) rfl k) ?_
  show own_Go p e below s _ _ _ (T19.setTop (mkF m 131 #[.val (.ref b_), .val (.int (3 : Int32)), .val (.int pn_), .val (.long ((((0 : Int64) + (own_ch ((o_i2l pn_) - (own_ft u0)) (3 : Int32))) + (own_ch ((o_i2l pn_) - (own_ft u1)) (2 : Int32))) + (own_ch ((o_i2l pn_) - (own_ft u2)) (1 : Int32)))), .second, .val (.long (if u2 < (0 : Int32) then ((if u1 < (0 : Int32) then ((if u0 < (0 : Int32) then ((0 : Int64) + (o_lshl (1 : Int64) (2 : Int32))) else (0 : Int64)) + (o_lshl (1 : Int64) (1 : Int32))) else (if u0 < (0 : Int32) then ((0 : Int64) + (o_lshl (1 : Int64) (2 : Int32))) else (0 : Int64))) + (1 : Int64)) else (if u1 < (0 : Int32) then ((if u0 < (0 : Int32) then ((0 : Int64) + (o_lshl (1 : Int64) (2 : Int32))) else (0 : Int64)) + (o_lshl (1 : Int64) (1 : Int32))) else (if u0 < (0 : Int32) then ((0 : Int64) + (o_lshl (1 : Int64) (2 : Int32))) else (0 : Int64))))), .second, .val (.long (((own_ch (o_i2l pn_) (3 : Int32)) - (1 : Int64)) - ((((0 : Int64) + (own_ch ((o_i2l pn_) - (own_ft u0)) (3 : Int32))) + (own_ch ((o_i2l pn_) - (own_ft u1)) (2 : Int32))) + (own_ch ((o_i2l pn_) - (own_ft u2)) (1 : Int32))))), .second] [(.long (o_lshl (((own_ch (o_i2l pn_) (3 : Int32)) - (1 : Int64)) - ((((0 : Int64) + (own_ch ((o_i2l pn_) - (own_ft u0)) (3 : Int32))) + (own_ch ((o_i2l pn_) - (own_ft u1)) (2 : Int32))) + (own_ch ((o_i2l pn_) - (own_ft u2)) (1 : Int32)))) (3 : Int32)))]))
  refine own_via (fun _ k => XS.lload X19.here hx rfl (hb hby d1_131) rfl k) ?_
  show own_Go p e below s _ _ _ (T19.setTop (mkF m 133 #[.val (.ref b_), .val (.int (3 : Int32)), .val (.int pn_), .val (.long ((((0 : Int64) + (own_ch ((o_i2l pn_) - (own_ft u0)) (3 : Int32))) + (own_ch ((o_i2l pn_) - (own_ft u1)) (2 : Int32))) + (own_ch ((o_i2l pn_) - (own_ft u2)) (1 : Int32)))), .second, .val (.long (if u2 < (0 : Int32) then ((if u1 < (0 : Int32) then ((if u0 < (0 : Int32) then ((0 : Int64) + (o_lshl (1 : Int64) (2 : Int32))) else (0 : Int64)) + (o_lshl (1 : Int64) (1 : Int32))) else (if u0 < (0 : Int32) then ((0 : Int64) + (o_lshl (1 : Int64) (2 : Int32))) else (0 : Int64))) + (1 : Int64)) else (if u1 < (0 : Int32) then ((if u0 < (0 : Int32) then ((0 : Int64) + (o_lshl (1 : Int64) (2 : Int32))) else (0 : Int64)) + (o_lshl (1 : Int64) (1 : Int32))) else (if u0 < (0 : Int32) then ((0 : Int64) + (o_lshl (1 : Int64) (2 : Int32))) else (0 : Int64))))), .second, .val (.long (((own_ch (o_i2l pn_) (3 : Int32)) - (1 : Int64)) - ((((0 : Int64) + (own_ch ((o_i2l pn_) - (own_ft u0)) (3 : Int32))) + (own_ch ((o_i2l pn_) - (own_ft u1)) (2 : Int32))) + (own_ch ((o_i2l pn_) - (own_ft u2)) (1 : Int32))))), .second] [(.long (if u2 < (0 : Int32) then ((if u1 < (0 : Int32) then ((if u0 < (0 : Int32) then ((0 : Int64) + (o_lshl (1 : Int64) (2 : Int32))) else (0 : Int64)) + (o_lshl (1 : Int64) (1 : Int32))) else (if u0 < (0 : Int32) then ((0 : Int64) + (o_lshl (1 : Int64) (2 : Int32))) else (0 : Int64))) + (1 : Int64)) else (if u1 < (0 : Int32) then ((if u0 < (0 : Int32) then ((0 : Int64) + (o_lshl (1 : Int64) (2 : Int32))) else (0 : Int64)) + (o_lshl (1 : Int64) (1 : Int32))) else (if u0 < (0 : Int32) then ((0 : Int64) + (o_lshl (1 : Int64) (2 : Int32))) else (0 : Int64))))), (.long (o_lshl (((own_ch (o_i2l pn_) (3 : Int32)) - (1 : Int64)) - ((((0 : Int64) + (own_ch ((o_i2l pn_) - (own_ft u0)) (3 : Int32))) + (own_ch ((o_i2l pn_) - (own_ft u1)) (2 : Int32))) + (own_ch ((o_i2l pn_) - (own_ft u2)) (1 : Int32)))) (3 : Int32)))]))
  refine own_via (fun _ k => XS.ladd X19.here hx rfl (hb hby d1_133) rfl k) ?_
  show own_Go p e below s _ _ _ (T19.setTop (mkF m 134 #[.val (.ref b_), .val (.int (3 : Int32)), .val (.int pn_), .val (.long ((((0 : Int64) + (own_ch ((o_i2l pn_) - (own_ft u0)) (3 : Int32))) + (own_ch ((o_i2l pn_) - (own_ft u1)) (2 : Int32))) + (own_ch ((o_i2l pn_) - (own_ft u2)) (1 : Int32)))), .second, .val (.long (if u2 < (0 : Int32) then ((if u1 < (0 : Int32) then ((if u0 < (0 : Int32) then ((0 : Int64) + (o_lshl (1 : Int64) (2 : Int32))) else (0 : Int64)) + (o_lshl (1 : Int64) (1 : Int32))) else (if u0 < (0 : Int32) then ((0 : Int64) + (o_lshl (1 : Int64) (2 : Int32))) else (0 : Int64))) + (1 : Int64)) else (if u1 < (0 : Int32) then ((if u0 < (0 : Int32) then ((0 : Int64) + (o_lshl (1 : Int64) (2 : Int32))) else (0 : Int64)) + (o_lshl (1 : Int64) (1 : Int32))) else (if u0 < (0 : Int32) then ((0 : Int64) + (o_lshl (1 : Int64) (2 : Int32))) else (0 : Int64))))), .second, .val (.long (((own_ch (o_i2l pn_) (3 : Int32)) - (1 : Int64)) - ((((0 : Int64) + (own_ch ((o_i2l pn_) - (own_ft u0)) (3 : Int32))) + (own_ch ((o_i2l pn_) - (own_ft u1)) (2 : Int32))) + (own_ch ((o_i2l pn_) - (own_ft u2)) (1 : Int32))))), .second] [(.long ((o_lshl (((own_ch (o_i2l pn_) (3 : Int32)) - (1 : Int64)) - ((((0 : Int64) + (own_ch ((o_i2l pn_) - (own_ft u0)) (3 : Int32))) + (own_ch ((o_i2l pn_) - (own_ft u1)) (2 : Int32))) + (own_ch ((o_i2l pn_) - (own_ft u2)) (1 : Int32)))) (3 : Int32)) + (if u2 < (0 : Int32) then ((if u1 < (0 : Int32) then ((if u0 < (0 : Int32) then ((0 : Int64) + (o_lshl (1 : Int64) (2 : Int32))) else (0 : Int64)) + (o_lshl (1 : Int64) (1 : Int32))) else (if u0 < (0 : Int32) then ((0 : Int64) + (o_lshl (1 : Int64) (2 : Int32))) else (0 : Int64))) + (1 : Int64)) else (if u1 < (0 : Int32) then ((if u0 < (0 : Int32) then ((0 : Int64) + (o_lshl (1 : Int64) (2 : Int32))) else (0 : Int64)) + (o_lshl (1 : Int64) (1 : Int32))) else (if u0 < (0 : Int32) then ((0 : Int64) + (o_lshl (1 : Int64) (2 : Int32))) else (0 : Int64))))))]))
  exact own_goJ X19 hx Bd.returns (hb hby d1_134) Bd.notSynchronized (by decide) (by decide) (by rw [e19]; exact ⟨by rw [own_rk3] <;> rfl, N19, rfl⟩)
theorem d5_72 : decode method_5_code 72 = .ok (.iload_n 3, 1) := by decide +kernel
theorem d5_73 : decode method_5_code 73 = .ok (.ifCond .eq 33, 3) := by decide +kernel
theorem d5_106 : decode method_5_code 106 = .ok (.iconst 0, 1) := by decide +kernel
theorem d5_107 : decode method_5_code 107 = .ok (.istore_n 3, 1) := by decide +kernel
theorem d5_76 : decode method_5_code 76 = .ok (.aload_n 0, 1) := by decide +kernel
theorem d5_77 : decode method_5_code 77 = .ok (.iconst 2, 1) := by decide +kernel
theorem d5_78 : decode method_5_code 78 = .ok (.iaload, 1) := by decide +kernel
theorem d5_79 : decode method_5_code 79 = .ok (.iload_n 2, 1) := by decide +kernel
theorem d5_80 : decode method_5_code 80 = .ok (.invokestatic 32, 3) := by decide +kernel
theorem d5_83 : decode method_5_code 83 = .ok (.ifCond .eq 23, 3) := by decide +kernel
theorem d5_86 : decode method_5_code 86 = .ok (.aload_n 0, 1) := by decide +kernel
theorem d5_87 : decode method_5_code 87 = .ok (.iconst 1, 1) := by decide +kernel
theorem d5_88 : decode method_5_code 88 = .ok (.iaload, 1) := by decide +kernel
theorem d5_89 : decode method_5_code 89 = .ok (.invokestatic 28, 3) := by decide +kernel
theorem d5_92 : decode method_5_code 92 = .ok (.aload_n 0, 1) := by decide +kernel
theorem d5_93 : decode method_5_code 93 = .ok (.iconst 2, 1) := by decide +kernel
theorem d5_94 : decode method_5_code 94 = .ok (.iaload, 1) := by decide +kernel
theorem d5_95 : decode method_5_code 95 = .ok (.invokestatic 28, 3) := by decide +kernel
theorem d5_98 : decode method_5_code 98 = .ok (.lcmp, 1) := by decide +kernel
theorem d5_99 : decode method_5_code 99 = .ok (.ifCond .ge 7, 3) := by decide +kernel
theorem d5_102 : decode method_5_code 102 = .ok (.iconst 1, 1) := by decide +kernel
theorem d5_103 : decode method_5_code 103 = .ok (.goto 4, 3) := by decide +kernel
def own_va3 (u0 : Int32) (u1 : Int32) (u2 : Int32) (pn_ : Int32) : Int32 := (if (own_ir u0 pn_) = (0 : Int32) then (0 : Int32) else (if (own_ir u1 pn_) = (0 : Int32) then (0 : Int32) else (if (own_ft u0) < (own_ft u1) then (if (own_ir u2 pn_) = (0 : Int32) then (0 : Int32) else (if (own_ft u1) < (own_ft u2) then (1 : Int32) else (0 : Int32))) else (0 : Int32))))
theorem ef_v3 (m : MethodId) (x0 : Addr) (x1 : Int32) (x2 : Int32) : entryFrame m #[(.ref x0), (.int x1), (.int x2)] 4 = mkF m 0 #[.val (.ref x0), .val (.int x1), .val (.int x2), .unset] [] := by first | (simp [entryFrame, mkF, argsToLocals, Value.category]; done) | rfl
def Qv3 (Z : State) (b_ : Addr) (pt_ : Int32) (pn_ : Int32) (k_ : ClassId) (d_ : Value) (u0 : Int32) (u1 : Int32) (u2 : Int32) (h0 : Heap) (n0 : Nat) (v : Option Value) (h : Heap) (L : List Loc) : Prop := v = some (.int (own_va3 u0 u1 u2 pn_)) ∧ Fr n0 L ∧ h = h0
set_option maxRecDepth 65536 in
set_option maxHeartbeats 40000000 in
theorem rmv3 (l : Launch) (Z : State) (a0 : Array Value) (hw : ∀ d ∈ tables_1, d.before a0 Z = true) (ws : List Jvm.Cond) (b_ : Addr) (pt_ : Int32) (pn_ : Int32) (k_ : ClassId) (d_ : Value) (u0 : Int32) (u1 : Int32) (u2 : Int32) (h0 : Heap) (n0 : Nat) (Z0 : n0 ≤ h0.size) (V_b_ : Arv Z h0 b_ k_ .int (3 : Int32) [(.int u0), (.int u1), (.int u2)] d_) (hp1 : pt_ = (3 : Int32)) :
    MetFree l (⟨"com/example/unalike/unalike/engine/TSetsNextPinLaw", "valid", "([III)Z"⟩ : MethodName) (head1 (Jvm.Cond.code (⟨"com/example/unalike/unalike/engine/TSetsNextPinLaw", "valid", "([III)Z"⟩ : MethodName) method_5_code 4 (some .boolean) :: ws) ({ frames := 2, cells := 0, slots := 0, locals := 27 } : Room)) (fun q_ U => q_ = #[(.ref b_), (.int pt_), (.int pn_)] ∧ Z.Warmed39 U.vm ∧ U.heap = h0) (fun _ _ _ _ _ => True) (fun _ U o U' => ∃ v L, o = .returned v ∧ Qv3 Z b_ pt_ pn_ k_ d_ u0 u1 u2 h0 n0 v U'.heap L ∧ FrameEnd U o U' L ({ frames := 2, cells := 0, slots := 0, locals := 27 } : Room).cells ({ frames := 2, cells := 0, slots := 0, locals := 27 } : Room).slots) := by
  refine MetFree.of_bodySF (plainFor_of_name pn_0) hisR ?_
  intro p e s m args below meth c s₁ Bd hml0 hP hK
  obtain ⟨rfl, hZ, hh⟩ := hP
  have hx := Bd.exec
  have hby := Bd.bytes
  have hml : c.maxLocals = 4 := hml0
  have hown : s.vm.findClass "com/example/unalike/unalike/engine/TSetsNextPinLaw" = some m.cls := findClass_of_methodNamed Bd.named
  have hnm := (name_of_methodNamed Bd.named Bd.method).1
  have X0 : Stand p l e ({ frames := 2, cells := 0, slots := 0, locals := 27 } : Room) s m #[(.ref b_), (.int pt_), (.int pn_)] below meth c s₁ [] 0 0 := Stand.of_body Bd
  have e0 : s₁.heap = h0 := by rw [← hh, Bd.state]; rfl
  have N0 := Fr.nil n0
  show own_Go p e below s (Qv3 Z b_ pt_ pn_ k_ d_ u0 u1 u2 h0 n0) ({ frames := 2, cells := 0, slots := 0, locals := 27 } : Room).cells ({ frames := 2, cells := 0, slots := 0, locals := 27 } : Room).slots (s₁.setTop (entryFrame m #[(.ref b_), (.int pt_), (.int pn_)] 4))
  refine own_via (fun t k => castTop (ef_v3 m b_ pt_ pn_) k) ?_
  show own_Go p e below s _ _ _ (s₁.setTop (mkF m 0 #[.val (.ref b_), .val (.int pt_), .val (.int pn_), .unset] []))
  subst hp1
  show own_Go p e below s _ _ _ (s₁.setTop (mkF m 0 #[.val (.ref b_), .val (.int (3 : Int32)), .val (.int pn_), .unset] []))
  refine own_via (fun _ k => XS.iconst X0.here hx rfl (hb hby d5_0) k) ?_
  show own_Go p e below s _ _ _ (s₁.setTop (mkF m 1 #[.val (.ref b_), .val (.int (3 : Int32)), .val (.int pn_), .unset] [(.int (1 : Int32))]))
  refine own_via (fun _ k => XS.istoreN X0.here hx rfl (hb hby d5_1) rfl (l' := #[.val (.ref b_), .val (.int (3 : Int32)), .val (.int pn_), .val (.int (1 : Int32))]) rfl k) ?_
  show own_Go p e below s _ _ _ (s₁.setTop (mkF m 2 #[.val (.ref b_), .val (.int (3 : Int32)), .val (.int pn_), .val (.int (1 : Int32))] []))
  refine own_via (fun _ k => XS.iloadN X0.here hx rfl (hb hby d5_2) rfl k) ?_
  show own_Go p e below s _ _ _ (s₁.setTop (mkF m 3 #[.val (.ref b_), .val (.int (3 : Int32)), .val (.int pn_), .val (.int (1 : Int32))] [(.int (3 : Int32))]))
  refine own_via (fun _ k => XS.ifNo X0.here hx rfl (hb hby d5_3) rfl (Jvm.Free.XT.i0_le_f (by decide)) k) ?_
  show own_Go p e below s _ _ _ (s₁.setTop (mkF m 6 #[.val (.ref b_), .val (.int (3 : Int32)), .val (.int pn_), .val (.int (1 : Int32))] []))
  refine own_via (fun _ k => XS.iloadN X0.here hx rfl (hb hby d5_6) rfl k) ?_
  show own_Go p e below s _ _ _ (s₁.setTop (mkF m 7 #[.val (.ref b_), .val (.int (3 : Int32)), .val (.int pn_), .val (.int (1 : Int32))] [(.int (1 : Int32))]))
  refine own_via (fun _ k => XS.ifNo X0.here hx rfl (hb hby d5_7) rfl (Jvm.Free.XT.i0_eq_f (by decide)) k) ?_
  show own_Go p e below s _ _ _ (s₁.setTop (mkF m 10 #[.val (.ref b_), .val (.int (3 : Int32)), .val (.int pn_), .val (.int (1 : Int32))] []))
  refine own_via (fun _ k => XS.aloadN X0.here hx rfl (hb hby d5_10) rfl rfl k) ?_
  show own_Go p e below s _ _ _ (s₁.setTop (mkF m 11 #[.val (.ref b_), .val (.int (3 : Int32)), .val (.int pn_), .val (.int (1 : Int32))] [(.ref b_)]))
  refine own_via (fun _ k => XS.iconst X0.here hx rfl (hb hby d5_11) k) ?_
  show own_Go p e below s _ _ _ (s₁.setTop (mkF m 12 #[.val (.ref b_), .val (.int (3 : Int32)), .val (.int pn_), .val (.int (1 : Int32))] [(.int (0 : Int32)), (.ref b_)]))
  obtain ⟨cl1, Ar1, q1, S1, M1, H1, G1⟩ := (id V_b_)
  have hin1 : ¬ ((0 : Int32) < 0 ∨ cl1.slots.size ≤ ((0 : Int32)).toNatClampNeg) := inb_of S1 ⟨by decide, by decide⟩
  have hat1 : cl1.slots[((0 : Int32)).toNatClampNeg]? = some (.int u0) := Has.at H1 hin1 rfl
  refine own_via (fun _ k => X0.iaload hx (j := (0 : Int32)) (v := (.int u0)) (by rw [e0]; exact Ar1.1) (State.isArrayOf_alike hZ.alike Ar1.2.1) Ar1.2.2 hin1 hat1 (g := (mkF m 12 #[.val (.ref b_), .val (.int (3 : Int32)), .val (.int pn_), .val (.int (1 : Int32))] [(.int (0 : Int32)), (.ref b_)])) rfl rfl (hb hby d5_12) _ k) ?_
  show own_Go p e below s _ _ _ (s₁.setTop (mkF m 13 #[.val (.ref b_), .val (.int (3 : Int32)), .val (.int pn_), .val (.int (1 : Int32))] [(.int u0)]))
  refine own_via (fun _ k => XS.iloadN X0.here hx rfl (hb hby d5_13) rfl k) ?_
  show own_Go p e below s _ _ _ (s₁.setTop (mkF m 14 #[.val (.ref b_), .val (.int (3 : Int32)), .val (.int pn_), .val (.int (1 : Int32))] [(.int pn_), (.int u0)]))
  obtain ⟨_, _, ⟨T2, L2, k2, n2⟩, -, X2, ⟨Lc2, hQ2, l2, y2, z2⟩, st2⟩ := Jvm.LawKit.callS X0 hx (y := (⟨"com/example/unalike/unalike/engine/TSetsNextPinLaw", "inRange", "(II)Z"⟩ : MethodName)) hown (mvT hZ (hw _ (List.mem_of_getElem? (i := 21) rfl))) (mvT hZ (hw _ (List.mem_of_getElem? (i := 22) rfl))) (mvT hZ (hw _ (List.mem_of_getElem? (i := 4) rfl))) (mvT hZ (hw _ (List.mem_of_getElem? (i := 23) rfl))) (by decide) (backOf (W := 0) (rm6 l Z a0 hw [] u0 pn_ h0 n0 Z0 ) hZ (hw _ (List.mem_of_getElem? (i := 23) rfl)) (hw _ (List.mem_of_getElem? (i := 4) rfl)) (by decide) (by decide)) (g := (mkF m 14 #[.val (.ref b_), .val (.int (3 : Int32)), .val (.int pn_), .val (.int (1 : Int32))] [(.int pn_), (.int u0)])) rfl (by rw [hml]; rfl) (argsL := [(.int u0), (.int pn_)]) (rest := []) (lenOf pd_2 rfl) rfl (by show 2 * 0 + _ ≤ _; exact Nat.le_of_eq rfl) (hb hby d5_14) (fun _ _ => ⟨rfl, e0, (by decide : 0 + 0 ≤ _), (by decide : 0 + 0 ≤ _)⟩)
  dsimp only [Pt.U, Pt.locs, Pt.cells, Pt.slots] at X2 l2 y2 z2 st2 hQ2
  subst l2 y2 z2
  obtain ⟨rfl, N2q, e2⟩ := hQ2
  have N2 := Fr.app N0 N2q
  refine own_via st2 ?_
  show own_Go p e below s _ _ _ (T2.setTop (mkF m 17 #[.val (.ref b_), .val (.int (3 : Int32)), .val (.int pn_), .val (.int (1 : Int32))] [(.int (own_ir u0 pn_))]))
  by_cases hc3 : (own_ir u0 pn_) = (0 : Int32)
  · refine own_via (fun _ k => XS.ifYes X2.here hx rfl (pc0 := 17) (pc' := 24) rfl (hb hby d5_17) rfl (Jvm.Free.XT.i0_eq_t hc3) (by decide) (by decide) k) ?_
    show own_Go p e below s _ _ _ (T2.setTop (mkF m 24 #[.val (.ref b_), .val (.int (3 : Int32)), .val (.int pn_), .val (.int (1 : Int32))] []))
    refine own_via (fun _ k => XS.iconst X2.here hx rfl (hb hby d5_24) k) ?_
    show own_Go p e below s _ _ _ (T2.setTop (mkF m 25 #[.val (.ref b_), .val (.int (3 : Int32)), .val (.int pn_), .val (.int (1 : Int32))] [(.int (0 : Int32))]))
    refine own_via (fun _ k => XS.istoreN X2.here hx rfl (hb hby d5_25) rfl (l' := #[.val (.ref b_), .val (.int (3 : Int32)), .val (.int pn_), .val (.int (0 : Int32))]) rfl k) ?_
    show own_Go p e below s _ _ _ (T2.setTop (mkF m 26 #[.val (.ref b_), .val (.int (3 : Int32)), .val (.int pn_), .val (.int (0 : Int32))] []))
    refine own_via (fun _ k => XS.iloadN X2.here hx rfl (hb hby d5_26) rfl k) ?_
    show own_Go p e below s _ _ _ (T2.setTop (mkF m 27 #[.val (.ref b_), .val (.int (3 : Int32)), .val (.int pn_), .val (.int (0 : Int32))] [(.int (3 : Int32))]))
    refine own_via (fun _ k => XS.iconst X2.here hx rfl (hb hby d5_27) k) ?_
    show own_Go p e below s _ _ _ (T2.setTop (mkF m 28 #[.val (.ref b_), .val (.int (3 : Int32)), .val (.int pn_), .val (.int (0 : Int32))] [(.int (1 : Int32)), (.int (3 : Int32))]))
    refine own_via (fun _ k => XS.icmpNo X2.here hx rfl (hb hby d5_28) rfl (Jvm.Free.XT.ii_le_f (by decide)) k) ?_
    show own_Go p e below s _ _ _ (T2.setTop (mkF m 31 #[.val (.ref b_), .val (.int (3 : Int32)), .val (.int pn_), .val (.int (0 : Int32))] []))
    refine own_via (fun _ k => XS.iloadN X2.here hx rfl (hb hby d5_31) rfl k) ?_
    show own_Go p e below s _ _ _ (T2.setTop (mkF m 32 #[.val (.ref b_), .val (.int (3 : Int32)), .val (.int pn_), .val (.int (0 : Int32))] [(.int (0 : Int32))]))
    refine own_via (fun _ k => XS.ifYes X2.here hx rfl (pc0 := 32) (pc' := 65) rfl (hb hby d5_32) rfl (Jvm.Free.XT.i0_eq_t (by decide)) (by decide) (by decide) k) ?_
    show own_Go p e below s _ _ _ (T2.setTop (mkF m 65 #[.val (.ref b_), .val (.int (3 : Int32)), .val (.int pn_), .val (.int (0 : Int32))] []))
    refine own_via (fun _ k => XS.iconst X2.here hx rfl (hb hby d5_65) k) ?_
    show own_Go p e below s _ _ _ (T2.setTop (mkF m 66 #[.val (.ref b_), .val (.int (3 : Int32)), .val (.int pn_), .val (.int (0 : Int32))] [(.int (0 : Int32))]))
    refine own_via (fun _ k => XS.istoreN X2.here hx rfl (hb hby d5_66) rfl (l' := #[.val (.ref b_), .val (.int (3 : Int32)), .val (.int pn_), .val (.int (0 : Int32))]) rfl k) ?_
    show own_Go p e below s _ _ _ (T2.setTop (mkF m 67 #[.val (.ref b_), .val (.int (3 : Int32)), .val (.int pn_), .val (.int (0 : Int32))] []))
    refine own_via (fun _ k => XS.iloadN X2.here hx rfl (hb hby d5_67) rfl k) ?_
    show own_Go p e below s _ _ _ (T2.setTop (mkF m 68 #[.val (.ref b_), .val (.int (3 : Int32)), .val (.int pn_), .val (.int (0 : Int32))] [(.int (3 : Int32))]))
    refine own_via (fun _ k => XS.iconst X2.here hx rfl (hb hby d5_68) k) ?_
    show own_Go p e below s _ _ _ (T2.setTop (mkF m 69 #[.val (.ref b_), .val (.int (3 : Int32)), .val (.int pn_), .val (.int (0 : Int32))] [(.int (2 : Int32)), (.int (3 : Int32))]))
    refine own_via (fun _ k => XS.icmpNo X2.here hx rfl (hb hby d5_69) rfl (Jvm.Free.XT.ii_le_f (by decide)) k) ?_
    show own_Go p e below s _ _ _ (T2.setTop (mkF m 72 #[.val (.ref b_), .val (.int (3 : Int32)), .val (.int pn_), .val (.int (0 : Int32))] []))
    refine own_via (fun _ k => XS.iloadN X2.here hx rfl (hb hby d5_72) rfl k) ?_
    show own_Go p e below s _ _ _ (T2.setTop (mkF m 73 #[.val (.ref b_), .val (.int (3 : Int32)), .val (.int pn_), .val (.int (0 : Int32))] [(.int (0 : Int32))]))
    refine own_via (fun _ k => XS.ifYes X2.here hx rfl (pc0 := 73) (pc' := 106) rfl (hb hby d5_73) rfl (Jvm.Free.XT.i0_eq_t (by decide)) (by decide) (by decide) k) ?_
    show own_Go p e below s _ _ _ (T2.setTop (mkF m 106 #[.val (.ref b_), .val (.int (3 : Int32)), .val (.int pn_), .val (.int (0 : Int32))] []))
    refine own_via (fun _ k => XS.iconst X2.here hx rfl (hb hby d5_106) k) ?_
    show own_Go p e below s _ _ _ (T2.setTop (mkF m 107 #[.val (.ref b_), .val (.int (3 : Int32)), .val (.int pn_), .val (.int (0 : Int32))] [(.int (0 : Int32))]))
    refine own_via (fun _ k => XS.istoreN X2.here hx rfl (hb hby d5_107) rfl (l' := #[.val (.ref b_), .val (.int (3 : Int32)), .val (.int pn_), .val (.int (0 : Int32))]) rfl k) ?_
    show own_Go p e below s _ _ _ (T2.setTop (mkF m 108 #[.val (.ref b_), .val (.int (3 : Int32)), .val (.int pn_), .val (.int (0 : Int32))] []))
    refine own_via (fun _ k => XS.iloadN X2.here hx rfl (hb hby d5_108) rfl k) ?_
    show own_Go p e below s _ _ _ (T2.setTop (mkF m 109 #[.val (.ref b_), .val (.int (3 : Int32)), .val (.int pn_), .val (.int (0 : Int32))] [(.int (0 : Int32))]))
    exact own_goN X2 hx (t := .boolean) Bd.returns (by simp) (hb hby d5_109) Bd.notSynchronized (by decide) (by decide) (by rw [e2]; exact ⟨by rw [own_va3, if_pos hc3] <;> rfl, N2, rfl⟩)
  · refine own_via (fun _ k => XS.ifNo X2.here hx rfl (hb hby d5_17) rfl (Jvm.Free.XT.i0_eq_f hc3) k) ?_
    show own_Go p e below s _ _ _ (T2.setTop (mkF m 20 #[.val (.ref b_), .val (.int (3 : Int32)), .val (.int pn_), .val (.int (1 : Int32))] []))
    refine own_via (fun _ k => XS.iconst X2.here hx rfl (hb hby d5_20) k) ?_
    show own_Go p e below s _ _ _ (T2.setTop (mkF m 21 #[.val (.ref b_), .val (.int (3 : Int32)), .val (.int pn_), .val (.int (1 : Int32))] [(.int (1 : Int32))]))
    refine own_via (fun _ k => XS.goto X2.here hx rfl (pc0 := 21) (pc' := 25) rfl (hb hby d5_21) (by decide) (by decide) k) ?_
    show own_Go p e below s _ _ _ (T2.setTop (mkF m 25 #[.val (.ref b_), .val (.int (3 : Int32)), .val (.int pn_), .val (.int (1 : Int32))] [(.int (1 : Int32))]))
    refine own_via (fun _ k => XS.istoreN X2.here hx rfl (hb hby d5_25) rfl (l' := #[.val (.ref b_), .val (.int (3 : Int32)), .val (.int pn_), .val (.int (1 : Int32))]) rfl k) ?_
    show own_Go p e below s _ _ _ (T2.setTop (mkF m 26 #[.val (.ref b_), .val (.int (3 : Int32)), .val (.int pn_), .val (.int (1 : Int32))] []))
    refine own_via (fun _ k => XS.iloadN X2.here hx rfl (hb hby d5_26) rfl k) ?_
    show own_Go p e below s _ _ _ (T2.setTop (mkF m 27 #[.val (.ref b_), .val (.int (3 : Int32)), .val (.int pn_), .val (.int (1 : Int32))] [(.int (3 : Int32))]))
    refine own_via (fun _ k => XS.iconst X2.here hx rfl (hb hby d5_27) k) ?_
    show own_Go p e below s _ _ _ (T2.setTop (mkF m 28 #[.val (.ref b_), .val (.int (3 : Int32)), .val (.int pn_), .val (.int (1 : Int32))] [(.int (1 : Int32)), (.int (3 : Int32))]))
    refine own_via (fun _ k => XS.icmpNo X2.here hx rfl (hb hby d5_28) rfl (Jvm.Free.XT.ii_le_f (by decide)) k) ?_
    show own_Go p e below s _ _ _ (T2.setTop (mkF m 31 #[.val (.ref b_), .val (.int (3 : Int32)), .val (.int pn_), .val (.int (1 : Int32))] []))
    refine own_via (fun _ k => XS.iloadN X2.here hx rfl (hb hby d5_31) rfl k) ?_
    show own_Go p e below s _ _ _ (T2.setTop (mkF m 32 #[.val (.ref b_), .val (.int (3 : Int32)), .val (.int pn_), .val (.int (1 : Int32))] [(.int (1 : Int32))]))
    refine own_via (fun _ k => XS.ifNo X2.here hx rfl (hb hby d5_32) rfl (Jvm.Free.XT.i0_eq_f (by decide)) k) ?_
    show own_Go p e below s _ _ _ (T2.setTop (mkF m 35 #[.val (.ref b_), .val (.int (3 : Int32)), .val (.int pn_), .val (.int (1 : Int32))] []))
    refine own_via (fun _ k => XS.aloadN X2.here hx rfl (hb hby d5_35) rfl rfl k) ?_
    show own_Go p e below s _ _ _ (T2.setTop (mkF m 36 #[.val (.ref b_), .val (.int (3 : Int32)), .val (.int pn_), .val (.int (1 : Int32))] [(.ref b_)]))
    refine own_via (fun _ k => XS.iconst X2.here hx rfl (hb hby d5_36) k) ?_
    show own_Go p e below s _ _ _ (T2.setTop (mkF m 37 #[.val (.ref b_), .val (.int (3 : Int32)), .val (.int pn_), .val (.int (1 : Int32))] [(.int (1 : Int32)), (.ref b_)]))
    obtain ⟨cl4, Ar4, q4, S4, M4, H4, G4⟩ := (id V_b_)
    have hin4 : ¬ ((1 : Int32) < 0 ∨ cl4.slots.size ≤ ((1 : Int32)).toNatClampNeg) := inb_of S4 ⟨by decide, by decide⟩
    have hat4 : cl4.slots[((1 : Int32)).toNatClampNeg]? = some (.int u1) := Has.at H4 hin4 rfl
    refine own_via (fun _ k => X2.iaload hx (j := (1 : Int32)) (v := (.int u1)) (by rw [e2]; exact Ar4.1) (State.isArrayOf_alike hZ.alike Ar4.2.1) Ar4.2.2 hin4 hat4 (g := (mkF m 37 #[.val (.ref b_), .val (.int (3 : Int32)), .val (.int pn_), .val (.int (1 : Int32))] [(.int (1 : Int32)), (.ref b_)])) rfl rfl (hb hby d5_37) _ k) ?_
    show own_Go p e below s _ _ _ (T2.setTop (mkF m 38 #[.val (.ref b_), .val (.int (3 : Int32)), .val (.int pn_), .val (.int (1 : Int32))] [(.int u1)]))
    refine own_via (fun _ k => XS.iloadN X2.here hx rfl (hb hby d5_38) rfl k) ?_
    show own_Go p e below s _ _ _ (T2.setTop (mkF m 39 #[.val (.ref b_), .val (.int (3 : Int32)), .val (.int pn_), .val (.int (1 : Int32))] [(.int pn_), (.int u1)]))
    obtain ⟨_, _, ⟨T5, L5, k5, n5⟩, -, X5, ⟨Lc5, hQ5, l5, y5, z5⟩, st5⟩ := Jvm.LawKit.callS X2 hx (y := (⟨"com/example/unalike/unalike/engine/TSetsNextPinLaw", "inRange", "(II)Z"⟩ : MethodName)) hown (mvT hZ (hw _ (List.mem_of_getElem? (i := 21) rfl))) (mvT hZ (hw _ (List.mem_of_getElem? (i := 22) rfl))) (mvT hZ (hw _ (List.mem_of_getElem? (i := 4) rfl))) (mvT hZ (hw _ (List.mem_of_getElem? (i := 23) rfl))) (by decide) (backOf (W := 0) (rm6 l Z a0 hw [] u1 pn_ h0 n0 Z0 ) hZ (hw _ (List.mem_of_getElem? (i := 23) rfl)) (hw _ (List.mem_of_getElem? (i := 4) rfl)) (by decide) (by decide)) (g := (mkF m 39 #[.val (.ref b_), .val (.int (3 : Int32)), .val (.int pn_), .val (.int (1 : Int32))] [(.int pn_), (.int u1)])) rfl (by rw [hml]; rfl) (argsL := [(.int u1), (.int pn_)]) (rest := []) (lenOf pd_2 rfl) rfl (by show 2 * 0 + _ ≤ _; exact Nat.le_of_eq rfl) (hb hby d5_39) (fun _ _ => ⟨rfl, e2, (by decide : 0 + 0 ≤ _), (by decide : 0 + 0 ≤ _)⟩)
    dsimp only [Pt.U, Pt.locs, Pt.cells, Pt.slots] at X5 l5 y5 z5 st5 hQ5
    subst l5 y5 z5
    obtain ⟨rfl, N5q, e5⟩ := hQ5
    have N5 := Fr.app N2 N5q
    refine own_via st5 ?_
    show own_Go p e below s _ _ _ (T5.setTop (mkF m 42 #[.val (.ref b_), .val (.int (3 : Int32)), .val (.int pn_), .val (.int (1 : Int32))] [(.int (own_ir u1 pn_))]))
    by_cases hc6 : (own_ir u1 pn_) = (0 : Int32)
    · refine own_via (fun _ k => XS.ifYes X5.here hx rfl (pc0 := 42) (pc' := 65) rfl (hb hby d5_42) rfl (Jvm.Free.XT.i0_eq_t hc6) (by decide) (by decide) k) ?_
      show own_Go p e below s _ _ _ (T5.setTop (mkF m 65 #[.val (.ref b_), .val (.int (3 : Int32)), .val (.int pn_), .val (.int (1 : Int32))] []))
      refine own_via (fun _ k => XS.iconst X5.here hx rfl (hb hby d5_65) k) ?_
      show own_Go p e below s _ _ _ (T5.setTop (mkF m 66 #[.val (.ref b_), .val (.int (3 : Int32)), .val (.int pn_), .val (.int (1 : Int32))] [(.int (0 : Int32))]))
      refine own_via (fun _ k => XS.istoreN X5.here hx rfl (hb hby d5_66) rfl (l' := #[.val (.ref b_), .val (.int (3 : Int32)), .val (.int pn_), .val (.int (0 : Int32))]) rfl k) ?_
      show own_Go p e below s _ _ _ (T5.setTop (mkF m 67 #[.val (.ref b_), .val (.int (3 : Int32)), .val (.int pn_), .val (.int (0 : Int32))] []))
      refine own_via (fun _ k => XS.iloadN X5.here hx rfl (hb hby d5_67) rfl k) ?_
      show own_Go p e below s _ _ _ (T5.setTop (mkF m 68 #[.val (.ref b_), .val (.int (3 : Int32)), .val (.int pn_), .val (.int (0 : Int32))] [(.int (3 : Int32))]))
      refine own_via (fun _ k => XS.iconst X5.here hx rfl (hb hby d5_68) k) ?_
      show own_Go p e below s _ _ _ (T5.setTop (mkF m 69 #[.val (.ref b_), .val (.int (3 : Int32)), .val (.int pn_), .val (.int (0 : Int32))] [(.int (2 : Int32)), (.int (3 : Int32))]))
      refine own_via (fun _ k => XS.icmpNo X5.here hx rfl (hb hby d5_69) rfl (Jvm.Free.XT.ii_le_f (by decide)) k) ?_
      show own_Go p e below s _ _ _ (T5.setTop (mkF m 72 #[.val (.ref b_), .val (.int (3 : Int32)), .val (.int pn_), .val (.int (0 : Int32))] []))
      refine own_via (fun _ k => XS.iloadN X5.here hx rfl (hb hby d5_72) rfl k) ?_
      show own_Go p e below s _ _ _ (T5.setTop (mkF m 73 #[.val (.ref b_), .val (.int (3 : Int32)), .val (.int pn_), .val (.int (0 : Int32))] [(.int (0 : Int32))]))
      refine own_via (fun _ k => XS.ifYes X5.here hx rfl (pc0 := 73) (pc' := 106) rfl (hb hby d5_73) rfl (Jvm.Free.XT.i0_eq_t (by decide)) (by decide) (by decide) k) ?_
      show own_Go p e below s _ _ _ (T5.setTop (mkF m 106 #[.val (.ref b_), .val (.int (3 : Int32)), .val (.int pn_), .val (.int (0 : Int32))] []))
      refine own_via (fun _ k => XS.iconst X5.here hx rfl (hb hby d5_106) k) ?_
      show own_Go p e below s _ _ _ (T5.setTop (mkF m 107 #[.val (.ref b_), .val (.int (3 : Int32)), .val (.int pn_), .val (.int (0 : Int32))] [(.int (0 : Int32))]))
      refine own_via (fun _ k => XS.istoreN X5.here hx rfl (hb hby d5_107) rfl (l' := #[.val (.ref b_), .val (.int (3 : Int32)), .val (.int pn_), .val (.int (0 : Int32))]) rfl k) ?_
      show own_Go p e below s _ _ _ (T5.setTop (mkF m 108 #[.val (.ref b_), .val (.int (3 : Int32)), .val (.int pn_), .val (.int (0 : Int32))] []))
      refine own_via (fun _ k => XS.iloadN X5.here hx rfl (hb hby d5_108) rfl k) ?_
      show own_Go p e below s _ _ _ (T5.setTop (mkF m 109 #[.val (.ref b_), .val (.int (3 : Int32)), .val (.int pn_), .val (.int (0 : Int32))] [(.int (0 : Int32))]))
      exact own_goN X5 hx (t := .boolean) Bd.returns (by simp) (hb hby d5_109) Bd.notSynchronized (by decide) (by decide) (by rw [e5]; exact ⟨by rw [own_va3, if_neg hc3, if_pos hc6] <;> rfl, N5, rfl⟩)
    · refine own_via (fun _ k => XS.ifNo X5.here hx rfl (hb hby d5_42) rfl (Jvm.Free.XT.i0_eq_f hc6) k) ?_
      show own_Go p e below s _ _ _ (T5.setTop (mkF m 45 #[.val (.ref b_), .val (.int (3 : Int32)), .val (.int pn_), .val (.int (1 : Int32))] []))
      refine own_via (fun _ k => XS.aloadN X5.here hx rfl (hb hby d5_45) rfl rfl k) ?_
      show own_Go p e below s _ _ _ (T5.setTop (mkF m 46 #[.val (.ref b_), .val (.int (3 : Int32)), .val (.int pn_), .val (.int (1 : Int32))] [(.ref b_)]))
      refine own_via (fun _ k => XS.iconst X5.here hx rfl (hb hby d5_46) k) ?_
      show own_Go p e below s _ _ _ (T5.setTop (mkF m 47 #[.val (.ref b_), .val (.int (3 : Int32)), .val (.int pn_), .val (.int (1 : Int32))] [(.int (0 : Int32)), (.ref b_)]))
      obtain ⟨cl7, Ar7, q7, S7, M7, H7, G7⟩ := (id V_b_)
      have hin7 : ¬ ((0 : Int32) < 0 ∨ cl7.slots.size ≤ ((0 : Int32)).toNatClampNeg) := inb_of S7 ⟨by decide, by decide⟩
      have hat7 : cl7.slots[((0 : Int32)).toNatClampNeg]? = some (.int u0) := Has.at H7 hin7 rfl
      refine own_via (fun _ k => X5.iaload hx (j := (0 : Int32)) (v := (.int u0)) (by rw [e5]; exact Ar7.1) (State.isArrayOf_alike hZ.alike Ar7.2.1) Ar7.2.2 hin7 hat7 (g := (mkF m 47 #[.val (.ref b_), .val (.int (3 : Int32)), .val (.int pn_), .val (.int (1 : Int32))] [(.int (0 : Int32)), (.ref b_)])) rfl rfl (hb hby d5_47) _ k) ?_
      show own_Go p e below s _ _ _ (T5.setTop (mkF m 48 #[.val (.ref b_), .val (.int (3 : Int32)), .val (.int pn_), .val (.int (1 : Int32))] [(.int u0)]))
      obtain ⟨_, _, ⟨T8, L8, k8, n8⟩, -, X8, ⟨Lc8, hQ8, l8, y8, z8⟩, st8⟩ := Jvm.LawKit.callS X5 hx (y := (⟨"com/example/unalike/unalike/engine/TSetsNextPinLaw", "feat", "(I)J"⟩ : MethodName)) hown (mvT hZ (hw _ (List.mem_of_getElem? (i := 13) rfl))) (mvT hZ (hw _ (List.mem_of_getElem? (i := 14) rfl))) (mvT hZ (hw _ (List.mem_of_getElem? (i := 4) rfl))) (mvT hZ (hw _ (List.mem_of_getElem? (i := 15) rfl))) (by decide) (backOf (W := 0) (rm4 l Z a0 hw [] u0 h0 n0 Z0 ) hZ (hw _ (List.mem_of_getElem? (i := 15) rfl)) (hw _ (List.mem_of_getElem? (i := 4) rfl)) (by decide) (by decide)) (g := (mkF m 48 #[.val (.ref b_), .val (.int (3 : Int32)), .val (.int pn_), .val (.int (1 : Int32))] [(.int u0)])) rfl (by rw [hml]; rfl) (argsL := [(.int u0)]) (rest := []) (lenOf pd_0 rfl) rfl (by show 2 * 0 + _ ≤ _; exact Nat.le_of_eq rfl) (hb hby d5_48) (fun _ _ => ⟨rfl, e5, (by decide : 0 + 0 ≤ _), (by decide : 0 + 0 ≤ _)⟩)
      dsimp only [Pt.U, Pt.locs, Pt.cells, Pt.slots] at X8 l8 y8 z8 st8 hQ8
      subst l8 y8 z8
      obtain ⟨rfl, N8q, e8⟩ := hQ8
      have N8 := Fr.app N5 N8q
      refine own_via st8 ?_
      show own_Go p e below s _ _ _ (T8.setTop (mkF m 51 #[.val (.ref b_), .val (.int (3 : Int32)), .val (.int pn_), .val (.int (1 : Int32))] [(.long (own_ft u0))]))
      refine own_via (fun _ k => XS.aloadN X8.here hx rfl (hb hby d5_51) rfl rfl k) ?_
      show own_Go p e below s _ _ _ (T8.setTop (mkF m 52 #[.val (.ref b_), .val (.int (3 : Int32)), .val (.int pn_), .val (.int (1 : Int32))] [(.ref b_), (.long (own_ft u0))]))
      refine own_via (fun _ k => XS.iconst X8.here hx rfl (hb hby d5_52) k) ?_
      show own_Go p e below s _ _ _ (T8.setTop (mkF m 53 #[.val (.ref b_), .val (.int (3 : Int32)), .val (.int pn_), .val (.int (1 : Int32))] [(.int (1 : Int32)), (.ref b_), (.long (own_ft u0))]))
      obtain ⟨cl9, Ar9, q9, S9, M9, H9, G9⟩ := (id V_b_)
      have hin9 : ¬ ((1 : Int32) < 0 ∨ cl9.slots.size ≤ ((1 : Int32)).toNatClampNeg) := inb_of S9 ⟨by decide, by decide⟩
      have hat9 : cl9.slots[((1 : Int32)).toNatClampNeg]? = some (.int u1) := Has.at H9 hin9 rfl
      refine own_via (fun _ k => X8.iaload hx (j := (1 : Int32)) (v := (.int u1)) (by rw [e8]; exact Ar9.1) (State.isArrayOf_alike hZ.alike Ar9.2.1) Ar9.2.2 hin9 hat9 (g := (mkF m 53 #[.val (.ref b_), .val (.int (3 : Int32)), .val (.int pn_), .val (.int (1 : Int32))] [(.int (1 : Int32)), (.ref b_), (.long (own_ft u0))])) rfl rfl (hb hby d5_53) _ k) ?_
      show own_Go p e below s _ _ _ (T8.setTop (mkF m 54 #[.val (.ref b_), .val (.int (3 : Int32)), .val (.int pn_), .val (.int (1 : Int32))] [(.int u1), (.long (own_ft u0))]))
      obtain ⟨_, _, ⟨T10, L10, k10, n10⟩, -, X10, ⟨Lc10, hQ10, l10, y10, z10⟩, st10⟩ := Jvm.LawKit.callS X8 hx (y := (⟨"com/example/unalike/unalike/engine/TSetsNextPinLaw", "feat", "(I)J"⟩ : MethodName)) hown (mvT hZ (hw _ (List.mem_of_getElem? (i := 13) rfl))) (mvT hZ (hw _ (List.mem_of_getElem? (i := 14) rfl))) (mvT hZ (hw _ (List.mem_of_getElem? (i := 4) rfl))) (mvT hZ (hw _ (List.mem_of_getElem? (i := 15) rfl))) (by decide) (backOf (W := 2) (rm4 l Z a0 hw [] u1 h0 n0 Z0 ) hZ (hw _ (List.mem_of_getElem? (i := 15) rfl)) (hw _ (List.mem_of_getElem? (i := 4) rfl)) (by decide) (by decide)) (g := (mkF m 54 #[.val (.ref b_), .val (.int (3 : Int32)), .val (.int pn_), .val (.int (1 : Int32))] [(.int u1), (.long (own_ft u0))])) rfl (by rw [hml]; rfl) (argsL := [(.int u1)]) (rest := [(.long (own_ft u0))]) (lenOf pd_0 rfl) rfl (by show 2 * 0 + _ ≤ _; exact Nat.le_of_eq rfl) (hb hby d5_54) (fun _ _ => ⟨rfl, e8, (by decide : 0 + 0 ≤ _), (by decide : 0 + 0 ≤ _)⟩)
      dsimp only [Pt.U, Pt.locs, Pt.cells, Pt.slots] at X10 l10 y10 z10 st10 hQ10
      subst l10 y10 z10
      obtain ⟨rfl, N10q, e10⟩ := hQ10
      have N10 := Fr.app N8 N10q
      refine own_via st10 ?_
      show own_Go p e below s _ _ _ (T10.setTop (mkF m 57 #[.val (.ref b_), .val (.int (3 : Int32)), .val (.int pn_), .val (.int (1 : Int32))] [(.long (own_ft u1)), (.long (own_ft u0))]))
      refine own_via (fun _ k => XS.lcmp X10.here hx rfl (hb hby d5_57) rfl k) ?_
      show own_Go p e below s _ _ _ (T10.setTop (mkF m 58 #[.val (.ref b_), .val (.int (3 : Int32)), .val (.int pn_), .val (.int (1 : Int32))] [(.int (lcmpW (own_ft u0) (own_ft u1)))]))
      by_cases hc11 : (own_ft u0) < (own_ft u1)
      · refine own_via (fun _ k => XS.ifNo X10.here hx rfl (hb hby d5_58) rfl (Jvm.Free.XT.ll_ge_f hc11) k) ?_
        show own_Go p e below s _ _ _ (T10.setTop (mkF m 61 #[.val (.ref b_), .val (.int (3 : Int32)), .val (.int pn_), .val (.int (1 : Int32))] []))
        refine own_via (fun _ k => XS.iconst X10.here hx rfl (hb hby d5_61) k) ?_
        show own_Go p e below s _ _ _ (T10.setTop (mkF m 62 #[.val (.ref b_), .val (.int (3 : Int32)), .val (.int pn_), .val (.int (1 : Int32))] [(.int (1 : Int32))]))
        refine own_via (fun _ k => XS.goto X10.here hx rfl (pc0 := 62) (pc' := 66) rfl (hb hby d5_62) (by decide) (by decide) k) ?_
        show own_Go p e below s _ _ _ (T10.setTop (mkF m 66 #[.val (.ref b_), .val (.int (3 : Int32)), .val (.int pn_), .val (.int (1 : Int32))] [(.int (1 : Int32))]))
        refine own_via (fun _ k => XS.istoreN X10.here hx rfl (hb hby d5_66) rfl (l' := #[.val (.ref b_), .val (.int (3 : Int32)), .val (.int pn_), .val (.int (1 : Int32))]) rfl k) ?_
        show own_Go p e below s _ _ _ (T10.setTop (mkF m 67 #[.val (.ref b_), .val (.int (3 : Int32)), .val (.int pn_), .val (.int (1 : Int32))] []))
        refine own_via (fun _ k => XS.iloadN X10.here hx rfl (hb hby d5_67) rfl k) ?_
        show own_Go p e below s _ _ _ (T10.setTop (mkF m 68 #[.val (.ref b_), .val (.int (3 : Int32)), .val (.int pn_), .val (.int (1 : Int32))] [(.int (3 : Int32))]))
        refine own_via (fun _ k => XS.iconst X10.here hx rfl (hb hby d5_68) k) ?_
        show own_Go p e below s _ _ _ (T10.setTop (mkF m 69 #[.val (.ref b_), .val (.int (3 : Int32)), .val (.int pn_), .val (.int (1 : Int32))] [(.int (2 : Int32)), (.int (3 : Int32))]))
        refine own_via (fun _ k => XS.icmpNo X10.here hx rfl (hb hby d5_69) rfl (Jvm.Free.XT.ii_le_f (by decide)) k) ?_
        show own_Go p e below s _ _ _ (T10.setTop (mkF m 72 #[.val (.ref b_), .val (.int (3 : Int32)), .val (.int pn_), .val (.int (1 : Int32))] []))
        refine own_via (fun _ k => XS.iloadN X10.here hx rfl (hb hby d5_72) rfl k) ?_
        show own_Go p e below s _ _ _ (T10.setTop (mkF m 73 #[.val (.ref b_), .val (.int (3 : Int32)), .val (.int pn_), .val (.int (1 : Int32))] [(.int (1 : Int32))]))
        refine own_via (fun _ k => XS.ifNo X10.here hx rfl (hb hby d5_73) rfl (Jvm.Free.XT.i0_eq_f (by decide)) k) ?_
        show own_Go p e below s _ _ _ (T10.setTop (mkF m 76 #[.val (.ref b_), .val (.int (3 : Int32)), .val (.int pn_), .val (.int (1 : Int32))] []))
        refine own_via (fun _ k => XS.aloadN X10.here hx rfl (hb hby d5_76) rfl rfl k) ?_
        show own_Go p e below s _ _ _ (T10.setTop (mkF m 77 #[.val (.ref b_), .val (.int (3 : Int32)), .val (.int pn_), .val (.int (1 : Int32))] [(.ref b_)]))
        refine own_via (fun _ k => XS.iconst X10.here hx rfl (hb hby d5_77) k) ?_
        show own_Go p e below s _ _ _ (T10.setTop (mkF m 78 #[.val (.ref b_), .val (.int (3 : Int32)), .val (.int pn_), .val (.int (1 : Int32))] [(.int (2 : Int32)), (.ref b_)]))
        obtain ⟨cl12, Ar12, q12, S12, M12, H12, G12⟩ := (id V_b_)
        have hin12 : ¬ ((2 : Int32) < 0 ∨ cl12.slots.size ≤ ((2 : Int32)).toNatClampNeg) := inb_of S12 ⟨by decide, by decide⟩
        have hat12 : cl12.slots[((2 : Int32)).toNatClampNeg]? = some (.int u2) := Has.at H12 hin12 rfl
        refine own_via (fun _ k => X10.iaload hx (j := (2 : Int32)) (v := (.int u2)) (by rw [e10]; exact Ar12.1) (State.isArrayOf_alike hZ.alike Ar12.2.1) Ar12.2.2 hin12 hat12 (g := (mkF m 78 #[.val (.ref b_), .val (.int (3 : Int32)), .val (.int pn_), .val (.int (1 : Int32))] [(.int (2 : Int32)), (.ref b_)])) rfl rfl (hb hby d5_78) _ k) ?_
        show own_Go p e below s _ _ _ (T10.setTop (mkF m 79 #[.val (.ref b_), .val (.int (3 : Int32)), .val (.int pn_), .val (.int (1 : Int32))] [(.int u2)]))
        refine own_via (fun _ k => XS.iloadN X10.here hx rfl (hb hby d5_79) rfl k) ?_
        show own_Go p e below s _ _ _ (T10.setTop (mkF m 80 #[.val (.ref b_), .val (.int (3 : Int32)), .val (.int pn_), .val (.int (1 : Int32))] [(.int pn_), (.int u2)]))
        obtain ⟨_, _, ⟨T13, L13, k13, n13⟩, -, X13, ⟨Lc13, hQ13, l13, y13, z13⟩, st13⟩ := Jvm.LawKit.callS X10 hx (y := (⟨"com/example/unalike/unalike/engine/TSetsNextPinLaw", "inRange", "(II)Z"⟩ : MethodName)) hown (mvT hZ (hw _ (List.mem_of_getElem? (i := 21) rfl))) (mvT hZ (hw _ (List.mem_of_getElem? (i := 22) rfl))) (mvT hZ (hw _ (List.mem_of_getElem? (i := 4) rfl))) (mvT hZ (hw _ (List.mem_of_getElem? (i := 23) rfl))) (by decide) (backOf (W := 0) (rm6 l Z a0 hw [] u2 pn_ h0 n0 Z0 ) hZ (hw _ (List.mem_of_getElem? (i := 23) rfl)) (hw _ (List.mem_of_getElem? (i := 4) rfl)) (by decide) (by decide)) (g := (mkF m 80 #[.val (.ref b_), .val (.int (3 : Int32)), .val (.int pn_), .val (.int (1 : Int32))] [(.int pn_), (.int u2)])) rfl (by rw [hml]; rfl) (argsL := [(.int u2), (.int pn_)]) (rest := []) (lenOf pd_2 rfl) rfl (by show 2 * 0 + _ ≤ _; exact Nat.le_of_eq rfl) (hb hby d5_80) (fun _ _ => ⟨rfl, e10, (by decide : 0 + 0 ≤ _), (by decide : 0 + 0 ≤ _)⟩)
        dsimp only [Pt.U, Pt.locs, Pt.cells, Pt.slots] at X13 l13 y13 z13 st13 hQ13
        subst l13 y13 z13
        obtain ⟨rfl, N13q, e13⟩ := hQ13
        have N13 := Fr.app N10 N13q
        refine own_via st13 ?_
        show own_Go p e below s _ _ _ (T13.setTop (mkF m 83 #[.val (.ref b_), .val (.int (3 : Int32)), .val (.int pn_), .val (.int (1 : Int32))] [(.int (own_ir u2 pn_))]))
        by_cases hc14 : (own_ir u2 pn_) = (0 : Int32)
        · refine own_via (fun _ k => XS.ifYes X13.here hx rfl (pc0 := 83) (pc' := 106) rfl (hb hby d5_83) rfl (Jvm.Free.XT.i0_eq_t hc14) (by decide) (by decide) k) ?_
          show own_Go p e below s _ _ _ (T13.setTop (mkF m 106 #[.val (.ref b_), .val (.int (3 : Int32)), .val (.int pn_), .val (.int (1 : Int32))] []))
          refine own_via (fun _ k => XS.iconst X13.here hx rfl (hb hby d5_106) k) ?_
          show own_Go p e below s _ _ _ (T13.setTop (mkF m 107 #[.val (.ref b_), .val (.int (3 : Int32)), .val (.int pn_), .val (.int (1 : Int32))] [(.int (0 : Int32))]))
          refine own_via (fun _ k => XS.istoreN X13.here hx rfl (hb hby d5_107) rfl (l' := #[.val (.ref b_), .val (.int (3 : Int32)), .val (.int pn_), .val (.int (0 : Int32))]) rfl k) ?_
          show own_Go p e below s _ _ _ (T13.setTop (mkF m 108 #[.val (.ref b_), .val (.int (3 : Int32)), .val (.int pn_), .val (.int (0 : Int32))] []))
          refine own_via (fun _ k => XS.iloadN X13.here hx rfl (hb hby d5_108) rfl k) ?_
          show own_Go p e below s _ _ _ (T13.setTop (mkF m 109 #[.val (.ref b_), .val (.int (3 : Int32)), .val (.int pn_), .val (.int (0 : Int32))] [(.int (0 : Int32))]))
          exact own_goN X13 hx (t := .boolean) Bd.returns (by simp) (hb hby d5_109) Bd.notSynchronized (by decide) (by decide) (by rw [e13]; exact ⟨by rw [own_va3, if_neg hc3, if_neg hc6, if_pos hc11, if_pos hc14] <;> rfl, N13, rfl⟩)
        · refine own_via (fun _ k => XS.ifNo X13.here hx rfl (hb hby d5_83) rfl (Jvm.Free.XT.i0_eq_f hc14) k) ?_
          show own_Go p e below s _ _ _ (T13.setTop (mkF m 86 #[.val (.ref b_), .val (.int (3 : Int32)), .val (.int pn_), .val (.int (1 : Int32))] []))
          refine own_via (fun _ k => XS.aloadN X13.here hx rfl (hb hby d5_86) rfl rfl k) ?_
          show own_Go p e below s _ _ _ (T13.setTop (mkF m 87 #[.val (.ref b_), .val (.int (3 : Int32)), .val (.int pn_), .val (.int (1 : Int32))] [(.ref b_)]))
          refine own_via (fun _ k => XS.iconst X13.here hx rfl (hb hby d5_87) k) ?_
          show own_Go p e below s _ _ _ (T13.setTop (mkF m 88 #[.val (.ref b_), .val (.int (3 : Int32)), .val (.int pn_), .val (.int (1 : Int32))] [(.int (1 : Int32)), (.ref b_)]))
          obtain ⟨cl15, Ar15, q15, S15, M15, H15, G15⟩ := (id V_b_)
          have hin15 : ¬ ((1 : Int32) < 0 ∨ cl15.slots.size ≤ ((1 : Int32)).toNatClampNeg) := inb_of S15 ⟨by decide, by decide⟩
          have hat15 : cl15.slots[((1 : Int32)).toNatClampNeg]? = some (.int u1) := Has.at H15 hin15 rfl
          refine own_via (fun _ k => X13.iaload hx (j := (1 : Int32)) (v := (.int u1)) (by rw [e13]; exact Ar15.1) (State.isArrayOf_alike hZ.alike Ar15.2.1) Ar15.2.2 hin15 hat15 (g := (mkF m 88 #[.val (.ref b_), .val (.int (3 : Int32)), .val (.int pn_), .val (.int (1 : Int32))] [(.int (1 : Int32)), (.ref b_)])) rfl rfl (hb hby d5_88) _ k) ?_
          show own_Go p e below s _ _ _ (T13.setTop (mkF m 89 #[.val (.ref b_), .val (.int (3 : Int32)), .val (.int pn_), .val (.int (1 : Int32))] [(.int u1)]))
          obtain ⟨_, _, ⟨T16, L16, k16, n16⟩, -, X16, ⟨Lc16, hQ16, l16, y16, z16⟩, st16⟩ := Jvm.LawKit.callS X13 hx (y := (⟨"com/example/unalike/unalike/engine/TSetsNextPinLaw", "feat", "(I)J"⟩ : MethodName)) hown (mvT hZ (hw _ (List.mem_of_getElem? (i := 13) rfl))) (mvT hZ (hw _ (List.mem_of_getElem? (i := 14) rfl))) (mvT hZ (hw _ (List.mem_of_getElem? (i := 4) rfl))) (mvT hZ (hw _ (List.mem_of_getElem? (i := 15) rfl))) (by decide) (backOf (W := 0) (rm4 l Z a0 hw [] u1 h0 n0 Z0 ) hZ (hw _ (List.mem_of_getElem? (i := 15) rfl)) (hw _ (List.mem_of_getElem? (i := 4) rfl)) (by decide) (by decide)) (g := (mkF m 89 #[.val (.ref b_), .val (.int (3 : Int32)), .val (.int pn_), .val (.int (1 : Int32))] [(.int u1)])) rfl (by rw [hml]; rfl) (argsL := [(.int u1)]) (rest := []) (lenOf pd_0 rfl) rfl (by show 2 * 0 + _ ≤ _; exact Nat.le_of_eq rfl) (hb hby d5_89) (fun _ _ => ⟨rfl, e13, (by decide : 0 + 0 ≤ _), (by decide : 0 + 0 ≤ _)⟩)
          dsimp only [Pt.U, Pt.locs, Pt.cells, Pt.slots] at X16 l16 y16 z16 st16 hQ16
          subst l16 y16 z16
          obtain ⟨rfl, N16q, e16⟩ := hQ16
          have N16 := Fr.app N13 N16q
          refine own_via st16 ?_
          show own_Go p e below s _ _ _ (T16.setTop (mkF m 92 #[.val (.ref b_), .val (.int (3 : Int32)), .val (.int pn_), .val (.int (1 : Int32))] [(.long (own_ft u1))]))
          refine own_via (fun _ k => XS.aloadN X16.here hx rfl (hb hby d5_92) rfl rfl k) ?_
          show own_Go p e below s _ _ _ (T16.setTop (mkF m 93 #[.val (.ref b_), .val (.int (3 : Int32)), .val (.int pn_), .val (.int (1 : Int32))] [(.ref b_), (.long (own_ft u1))]))
          refine own_via (fun _ k => XS.iconst X16.here hx rfl (hb hby d5_93) k) ?_
          show own_Go p e below s _ _ _ (T16.setTop (mkF m 94 #[.val (.ref b_), .val (.int (3 : Int32)), .val (.int pn_), .val (.int (1 : Int32))] [(.int (2 : Int32)), (.ref b_), (.long (own_ft u1))]))
          obtain ⟨cl17, Ar17, q17, S17, M17, H17, G17⟩ := (id V_b_)
          have hin17 : ¬ ((2 : Int32) < 0 ∨ cl17.slots.size ≤ ((2 : Int32)).toNatClampNeg) := inb_of S17 ⟨by decide, by decide⟩
          have hat17 : cl17.slots[((2 : Int32)).toNatClampNeg]? = some (.int u2) := Has.at H17 hin17 rfl
          refine own_via (fun _ k => X16.iaload hx (j := (2 : Int32)) (v := (.int u2)) (by rw [e16]; exact Ar17.1) (State.isArrayOf_alike hZ.alike Ar17.2.1) Ar17.2.2 hin17 hat17 (g := (mkF m 94 #[.val (.ref b_), .val (.int (3 : Int32)), .val (.int pn_), .val (.int (1 : Int32))] [(.int (2 : Int32)), (.ref b_), (.long (own_ft u1))])) rfl rfl (hb hby d5_94) _ k) ?_
          show own_Go p e below s _ _ _ (T16.setTop (mkF m 95 #[.val (.ref b_), .val (.int (3 : Int32)), .val (.int pn_), .val (.int (1 : Int32))] [(.int u2), (.long (own_ft u1))]))
          obtain ⟨_, _, ⟨T18, L18, k18, n18⟩, -, X18, ⟨Lc18, hQ18, l18, y18, z18⟩, st18⟩ := Jvm.LawKit.callS X16 hx (y := (⟨"com/example/unalike/unalike/engine/TSetsNextPinLaw", "feat", "(I)J"⟩ : MethodName)) hown (mvT hZ (hw _ (List.mem_of_getElem? (i := 13) rfl))) (mvT hZ (hw _ (List.mem_of_getElem? (i := 14) rfl))) (mvT hZ (hw _ (List.mem_of_getElem? (i := 4) rfl))) (mvT hZ (hw _ (List.mem_of_getElem? (i := 15) rfl))) (by decide) (backOf (W := 2) (rm4 l Z a0 hw [] u2 h0 n0 Z0 ) hZ (hw _ (List.mem_of_getElem? (i := 15) rfl)) (hw _ (List.mem_of_getElem? (i := 4) rfl)) (by decide) (by decide)) (g := (mkF m 95 #[.val (.ref b_), .val (.int (3 : Int32)), .val (.int pn_), .val (.int (1 : Int32))] [(.int u2), (.long (own_ft u1))])) rfl (by rw [hml]; rfl) (argsL := [(.int u2)]) (rest := [(.long (own_ft u1))]) (lenOf pd_0 rfl) rfl (by show 2 * 0 + _ ≤ _; exact Nat.le_of_eq rfl) (hb hby d5_95) (fun _ _ => ⟨rfl, e16, (by decide : 0 + 0 ≤ _), (by decide : 0 + 0 ≤ _)⟩)
          dsimp only [Pt.U, Pt.locs, Pt.cells, Pt.slots] at X18 l18 y18 z18 st18 hQ18
          subst l18 y18 z18
          obtain ⟨rfl, N18q, e18⟩ := hQ18
          have N18 := Fr.app N16 N18q
          refine own_via st18 ?_
          show own_Go p e below s _ _ _ (T18.setTop (mkF m 98 #[.val (.ref b_), .val (.int (3 : Int32)), .val (.int pn_), .val (.int (1 : Int32))] [(.long (own_ft u2)), (.long (own_ft u1))]))
          refine own_via (fun _ k => XS.lcmp X18.here hx rfl (hb hby d5_98) rfl k) ?_
          show own_Go p e below s _ _ _ (T18.setTop (mkF m 99 #[.val (.ref b_), .val (.int (3 : Int32)), .val (.int pn_), .val (.int (1 : Int32))] [(.int (lcmpW (own_ft u1) (own_ft u2)))]))
          by_cases hc19 : (own_ft u1) < (own_ft u2)
          · refine own_via (fun _ k => XS.ifNo X18.here hx rfl (hb hby d5_99) rfl (Jvm.Free.XT.ll_ge_f hc19) k) ?_
            show own_Go p e below s _ _ _ (T18.setTop (mkF m 102 #[.val (.ref b_), .val (.int (3 : Int32)), .val (.int pn_), .val (.int (1 : Int32))] []))
            refine own_via (fun _ k => XS.iconst X18.here hx rfl (hb hby d5_102) k) ?_
            show own_Go p e below s _ _ _ (T18.setTop (mkF m 103 #[.val (.ref b_), .val (.int (3 : Int32)), .val (.int pn_), .val (.int (1 : Int32))] [(.int (1 : Int32))]))
            refine own_via (fun _ k => XS.goto X18.here hx rfl (pc0 := 103) (pc' := 107) rfl (hb hby d5_103) (by decide) (by decide) k) ?_
            show own_Go p e below s _ _ _ (T18.setTop (mkF m 107 #[.val (.ref b_), .val (.int (3 : Int32)), .val (.int pn_), .val (.int (1 : Int32))] [(.int (1 : Int32))]))
            refine own_via (fun _ k => XS.istoreN X18.here hx rfl (hb hby d5_107) rfl (l' := #[.val (.ref b_), .val (.int (3 : Int32)), .val (.int pn_), .val (.int (1 : Int32))]) rfl k) ?_
            show own_Go p e below s _ _ _ (T18.setTop (mkF m 108 #[.val (.ref b_), .val (.int (3 : Int32)), .val (.int pn_), .val (.int (1 : Int32))] []))
            refine own_via (fun _ k => XS.iloadN X18.here hx rfl (hb hby d5_108) rfl k) ?_
            show own_Go p e below s _ _ _ (T18.setTop (mkF m 109 #[.val (.ref b_), .val (.int (3 : Int32)), .val (.int pn_), .val (.int (1 : Int32))] [(.int (1 : Int32))]))
            exact own_goN X18 hx (t := .boolean) Bd.returns (by simp) (hb hby d5_109) Bd.notSynchronized (by decide) (by decide) (by rw [e18]; exact ⟨by rw [own_va3, if_neg hc3, if_neg hc6, if_pos hc11, if_neg hc14, if_pos hc19] <;> rfl, N18, rfl⟩)
          · refine own_via (fun _ k => XS.ifYes X18.here hx rfl (pc0 := 99) (pc' := 106) rfl (hb hby d5_99) rfl (Jvm.Free.XT.ll_ge_t hc19) (by decide) (by decide) k) ?_
            show own_Go p e below s _ _ _ (T18.setTop (mkF m 106 #[.val (.ref b_), .val (.int (3 : Int32)), .val (.int pn_), .val (.int (1 : Int32))] []))
            refine own_via (fun _ k => XS.iconst X18.here hx rfl (hb hby d5_106) k) ?_
            show own_Go p e below s _ _ _ (T18.setTop (mkF m 107 #[.val (.ref b_), .val (.int (3 : Int32)), .val (.int pn_), .val (.int (1 : Int32))] [(.int (0 : Int32))]))
            refine own_via (fun _ k => XS.istoreN X18.here hx rfl (hb hby d5_107) rfl (l' := #[.val (.ref b_), .val (.int (3 : Int32)), .val (.int pn_), .val (.int (0 : Int32))]) rfl k) ?_
            show own_Go p e below s _ _ _ (T18.setTop (mkF m 108 #[.val (.ref b_), .val (.int (3 : Int32)), .val (.int pn_), .val (.int (0 : Int32))] []))
            refine own_via (fun _ k => XS.iloadN X18.here hx rfl (hb hby d5_108) rfl k) ?_
            show own_Go p e below s _ _ _ (T18.setTop (mkF m 109 #[.val (.ref b_), .val (.int (3 : Int32)), .val (.int pn_), .val (.int (0 : Int32))] [(.int (0 : Int32))]))
            exact own_goN X18 hx (t := .boolean) Bd.returns (by simp) (hb hby d5_109) Bd.notSynchronized (by decide) (by decide) (by rw [e18]; exact ⟨by rw [own_va3, if_neg hc3, if_neg hc6, if_pos hc11, if_neg hc14, if_neg hc19] <;> rfl, N18, rfl⟩)
      · refine own_via (fun _ k => XS.ifYes X10.here hx rfl (pc0 := 58) (pc' := 65) rfl (hb hby d5_58) rfl (Jvm.Free.XT.ll_ge_t hc11) (by decide) (by decide) k) ?_
        show own_Go p e below s _ _ _ (T10.setTop (mkF m 65 #[.val (.ref b_), .val (.int (3 : Int32)), .val (.int pn_), .val (.int (1 : Int32))] []))
        refine own_via (fun _ k => XS.iconst X10.here hx rfl (hb hby d5_65) k) ?_
        show own_Go p e below s _ _ _ (T10.setTop (mkF m 66 #[.val (.ref b_), .val (.int (3 : Int32)), .val (.int pn_), .val (.int (1 : Int32))] [(.int (0 : Int32))]))
        refine own_via (fun _ k => XS.istoreN X10.here hx rfl (hb hby d5_66) rfl (l' := #[.val (.ref b_), .val (.int (3 : Int32)), .val (.int pn_), .val (.int (0 : Int32))]) rfl k) ?_
        show own_Go p e below s _ _ _ (T10.setTop (mkF m 67 #[.val (.ref b_), .val (.int (3 : Int32)), .val (.int pn_), .val (.int (0 : Int32))] []))
        refine own_via (fun _ k => XS.iloadN X10.here hx rfl (hb hby d5_67) rfl k) ?_
        show own_Go p e below s _ _ _ (T10.setTop (mkF m 68 #[.val (.ref b_), .val (.int (3 : Int32)), .val (.int pn_), .val (.int (0 : Int32))] [(.int (3 : Int32))]))
        refine own_via (fun _ k => XS.iconst X10.here hx rfl (hb hby d5_68) k) ?_
        show own_Go p e below s _ _ _ (T10.setTop (mkF m 69 #[.val (.ref b_), .val (.int (3 : Int32)), .val (.int pn_), .val (.int (0 : Int32))] [(.int (2 : Int32)), (.int (3 : Int32))]))
        refine own_via (fun _ k => XS.icmpNo X10.here hx rfl (hb hby d5_69) rfl (Jvm.Free.XT.ii_le_f (by decide)) k) ?_
        show own_Go p e below s _ _ _ (T10.setTop (mkF m 72 #[.val (.ref b_), .val (.int (3 : Int32)), .val (.int pn_), .val (.int (0 : Int32))] []))
        refine own_via (fun _ k => XS.iloadN X10.here hx rfl (hb hby d5_72) rfl k) ?_
        show own_Go p e below s _ _ _ (T10.setTop (mkF m 73 #[.val (.ref b_), .val (.int (3 : Int32)), .val (.int pn_), .val (.int (0 : Int32))] [(.int (0 : Int32))]))
        refine own_via (fun _ k => XS.ifYes X10.here hx rfl (pc0 := 73) (pc' := 106) rfl (hb hby d5_73) rfl (Jvm.Free.XT.i0_eq_t (by decide)) (by decide) (by decide) k) ?_
        show own_Go p e below s _ _ _ (T10.setTop (mkF m 106 #[.val (.ref b_), .val (.int (3 : Int32)), .val (.int pn_), .val (.int (0 : Int32))] []))
        refine own_via (fun _ k => XS.iconst X10.here hx rfl (hb hby d5_106) k) ?_
        show own_Go p e below s _ _ _ (T10.setTop (mkF m 107 #[.val (.ref b_), .val (.int (3 : Int32)), .val (.int pn_), .val (.int (0 : Int32))] [(.int (0 : Int32))]))
        refine own_via (fun _ k => XS.istoreN X10.here hx rfl (hb hby d5_107) rfl (l' := #[.val (.ref b_), .val (.int (3 : Int32)), .val (.int pn_), .val (.int (0 : Int32))]) rfl k) ?_
        show own_Go p e below s _ _ _ (T10.setTop (mkF m 108 #[.val (.ref b_), .val (.int (3 : Int32)), .val (.int pn_), .val (.int (0 : Int32))] []))
        refine own_via (fun _ k => XS.iloadN X10.here hx rfl (hb hby d5_108) rfl k) ?_
        show own_Go p e below s _ _ _ (T10.setTop (mkF m 109 #[.val (.ref b_), .val (.int (3 : Int32)), .val (.int pn_), .val (.int (0 : Int32))] [(.int (0 : Int32))]))
        exact own_goN X10 hx (t := .boolean) Bd.returns (by simp) (hb hby d5_109) Bd.notSynchronized (by decide) (by decide) (by rw [e10]; exact ⟨by rw [own_va3, if_neg hc3, if_neg hc6, if_neg hc11] <;> rfl, N10, rfl⟩)
def own_nr3 (u0 : Int32) (u1 : Int32) (u2 : Int32) (pn_ : Int32) : Int32 := (if (-u2) < (0 : Int32) then (1 : Int32) else (if (-u1) < (0 : Int32) then (1 : Int32) else (if (-u0) < (0 : Int32) then (1 : Int32) else (if (-u2) < (pn_ - (0 : Int32)) then (1 : Int32) else (if (-u1) < (pn_ - (1 : Int32)) then (1 : Int32) else (if (-u0) < (pn_ - (2 : Int32)) then (1 : Int32) else (0 : Int32)))))))
def own_nx3_0 (u0 : Int32) (u1 : Int32) (u2 : Int32) (pn_ : Int32) : Int32 := (if (-u2) < (0 : Int32) then u0 else (if (-u1) < (0 : Int32) then u0 else (if (-u0) < (0 : Int32) then (-u0) else (if (-u2) < (pn_ - (0 : Int32)) then (-u0) else (if (-u1) < (pn_ - (1 : Int32)) then (-u0) else (if (-u0) < (pn_ - (2 : Int32)) then ((-u0) + (1 : Int32)) else (-u0)))))))
def own_nx3_1 (u0 : Int32) (u1 : Int32) (u2 : Int32) (pn_ : Int32) : Int32 := (if (-u2) < (0 : Int32) then u1 else (if (-u1) < (0 : Int32) then (-u1) else (if (-u0) < (0 : Int32) then (-u1) else (if (-u2) < (pn_ - (0 : Int32)) then (-u1) else (if (-u1) < (pn_ - (1 : Int32)) then ((-u1) + (1 : Int32)) else (if (-u0) < (pn_ - (2 : Int32)) then (((-u0) + (1 : Int32)) + (1 : Int32)) else (-u1)))))))
def own_nx3_2 (u0 : Int32) (u1 : Int32) (u2 : Int32) (pn_ : Int32) : Int32 := (if (-u2) < (0 : Int32) then (-u2) else (if (-u1) < (0 : Int32) then (-u2) else (if (-u0) < (0 : Int32) then (-u2) else (if (-u2) < (pn_ - (0 : Int32)) then ((-u2) + (1 : Int32)) else (if (-u1) < (pn_ - (1 : Int32)) then (((-u1) + (1 : Int32)) + (1 : Int32)) else (if (-u0) < (pn_ - (2 : Int32)) then ((((-u0) + (1 : Int32)) + (1 : Int32)) + (1 : Int32)) else (-u2)))))))
theorem ef_n3 (m : MethodId) (x0 : Addr) (x1 : Int32) : entryFrame m #[(.ref x0), (.int x1)] 5 = mkF m 0 #[.val (.ref x0), .val (.int x1), .unset, .unset, .unset] [] := by first | (simp [entryFrame, mkF, argsToLocals, Value.category]; done) | rfl
def Qn3 (Z : State) (b_ : Addr) (pn_ : Int32) (k_ : ClassId) (d_ : Value) (u0 : Int32) (u1 : Int32) (u2 : Int32) (h0 : Heap) (n0 : Nat) (v : Option Value) (h : Heap) (L : List Loc) : Prop := v = some (.int (own_nr3 u0 u1 u2 pn_)) ∧ Fr n0 L ∧ Keep h0 h [b_] ∧ Arv Z h b_ k_ .int (3 : Int32) [(.int (own_nx3_0 u0 u1 u2 pn_)), (.int (own_nx3_1 u0 u1 u2 pn_)), (.int (own_nx3_2 u0 u1 u2 pn_))] d_
set_option maxRecDepth 65536 in
set_option maxHeartbeats 40000000 in
theorem rmn3 (l : Launch) (Z : State) (a0 : Array Value) (hw : ∀ d ∈ tables_1, d.before a0 Z = true) (ws : List Jvm.Cond) (b_ : Addr) (pn_ : Int32) (k_ : ClassId) (d_ : Value) (u0 : Int32) (u1 : Int32) (u2 : Int32) (h0 : Heap) (n0 : Nat) (Z0 : n0 ≤ h0.size) (V_b_ : Arv Z h0 b_ k_ .int (3 : Int32) [(.int u0), (.int u1), (.int u2)] d_) (g_b_ : n0 ≤ b_) :
    MetFree l (⟨"com/example/unalike/unalike/engine/TSets", "next", "([II)Z"⟩ : MethodName) (head1 (Jvm.Cond.code (⟨"com/example/unalike/unalike/engine/TSets", "next", "([II)Z"⟩ : MethodName) prog_20_method_4_code 5 (some .boolean) :: ws) ({ frames := 0, cells := 0, slots := 0, locals := 0 } : Room)) (fun q_ U => q_ = #[(.ref b_), (.int pn_)] ∧ Z.Warmed39 U.vm ∧ U.heap = h0) (fun _ _ _ _ _ => True) (fun _ U o U' => ∃ v L, o = .returned v ∧ Qn3 Z b_ pn_ k_ d_ u0 u1 u2 h0 n0 v U'.heap L ∧ FrameEnd U o U' L ({ frames := 0, cells := 0, slots := 0, locals := 0 } : Room).cells ({ frames := 0, cells := 0, slots := 0, locals := 0 } : Room).slots) := by
  refine MetFree.of_bodySF (plainFor_of_name pn_1) hisR ?_
  intro p e s m args below meth c s₁ Bd hml0 hP hK
  obtain ⟨rfl, hZ, hh⟩ := hP
  have hx := Bd.exec
  have hby := Bd.bytes
  have hml : c.maxLocals = 5 := hml0
  have hown : s.vm.findClass "com/example/unalike/unalike/engine/TSets" = some m.cls := findClass_of_methodNamed Bd.named
  have hnm := (name_of_methodNamed Bd.named Bd.method).1
  have X0 : Stand p l e ({ frames := 0, cells := 0, slots := 0, locals := 0 } : Room) s m #[(.ref b_), (.int pn_)] below meth c s₁ [] 0 0 := Stand.of_body Bd
  have e0 : s₁.heap = h0 := by rw [← hh, Bd.state]; rfl
  have N0 := Fr.nil n0
  show own_Go p e below s (Qn3 Z b_ pn_ k_ d_ u0 u1 u2 h0 n0) ({ frames := 0, cells := 0, slots := 0, locals := 0 } : Room).cells ({ frames := 0, cells := 0, slots := 0, locals := 0 } : Room).slots (s₁.setTop (entryFrame m #[(.ref b_), (.int pn_)] 5))
  refine own_via (fun t k => castTop (ef_n3 m b_ pn_) k) ?_
  have K0 : Keep h0 h0 [b_] := Keep.refl _ _
  show own_Go p e below s _ _ _ (s₁.setTop (mkF m 0 #[.val (.ref b_), .val (.int pn_), .unset, .unset, .unset] []))
  refine own_via (fun _ k => XS.aloadN X0.here hx rfl (hb hby d3_0) rfl rfl k) ?_
  show own_Go p e below s _ _ _ (s₁.setTop (mkF m 1 #[.val (.ref b_), .val (.int pn_), .unset, .unset, .unset] [(.ref b_)]))
  obtain ⟨cl1, Ar1, q1, S1, M1, H1, G1⟩ := (id V_b_)
  refine own_via (fun _ k => X0.arraylength hx (by rw [e0]; exact Ar1.1) (State.isArrayOf_alike hZ.alike Ar1.2.1) (g := (mkF m 1 #[.val (.ref b_), .val (.int pn_), .unset, .unset, .unset] [(.ref b_)])) rfl rfl (hb hby d3_1) _ (by rw [len_of S1 M1]; exact k)) ?_
  show own_Go p e below s _ _ _ (s₁.setTop (mkF m 2 #[.val (.ref b_), .val (.int pn_), .unset, .unset, .unset] [(.int (3 : Int32))]))
  refine own_via (fun _ k => XS.istoreN X0.here hx rfl (hb hby d3_2) rfl (l' := #[.val (.ref b_), .val (.int pn_), .val (.int (3 : Int32)), .unset, .unset]) rfl k) ?_
  show own_Go p e below s _ _ _ (s₁.setTop (mkF m 3 #[.val (.ref b_), .val (.int pn_), .val (.int (3 : Int32)), .unset, .unset] []))
  refine own_via (fun _ k => XS.iloadN X0.here hx rfl (hb hby d3_3) rfl k) ?_
  show own_Go p e below s _ _ _ (s₁.setTop (mkF m 4 #[.val (.ref b_), .val (.int pn_), .val (.int (3 : Int32)), .unset, .unset] [(.int (3 : Int32))]))
  refine own_via (fun _ k => XS.iconst X0.here hx rfl (hb hby d3_4) k) ?_
  show own_Go p e below s _ _ _ (s₁.setTop (mkF m 5 #[.val (.ref b_), .val (.int pn_), .val (.int (3 : Int32)), .unset, .unset] [(.int (1 : Int32)), (.int (3 : Int32))]))
  refine own_via (fun _ k => XS.isub X0.here hx rfl (hb hby d3_5) rfl k) ?_
  show own_Go p e below s _ _ _ (s₁.setTop (mkF m 6 #[.val (.ref b_), .val (.int pn_), .val (.int (3 : Int32)), .unset, .unset] [(.int (2 : Int32))]))
  refine own_via (fun _ k => XS.istoreN X0.here hx rfl (hb hby d3_6) rfl (l' := #[.val (.ref b_), .val (.int pn_), .val (.int (3 : Int32)), .val (.int (2 : Int32)), .unset]) rfl k) ?_
  show own_Go p e below s _ _ _ (s₁.setTop (mkF m 7 #[.val (.ref b_), .val (.int pn_), .val (.int (3 : Int32)), .val (.int (2 : Int32)), .unset] []))
  refine own_via (fun _ k => XS.iloadN X0.here hx rfl (hb hby d3_7) rfl k) ?_
  show own_Go p e below s _ _ _ (s₁.setTop (mkF m 8 #[.val (.ref b_), .val (.int pn_), .val (.int (3 : Int32)), .val (.int (2 : Int32)), .unset] [(.int (2 : Int32))]))
  refine own_via (fun _ k => XS.ifNo X0.here hx rfl (hb hby d3_8) rfl (Jvm.Free.XT.i0_lt_f (by decide)) k) ?_
  show own_Go p e below s _ _ _ (s₁.setTop (mkF m 11 #[.val (.ref b_), .val (.int pn_), .val (.int (3 : Int32)), .val (.int (2 : Int32)), .unset] []))
  refine own_via (fun _ k => XS.aloadN X0.here hx rfl (hb hby d3_11) rfl rfl k) ?_
  show own_Go p e below s _ _ _ (s₁.setTop (mkF m 12 #[.val (.ref b_), .val (.int pn_), .val (.int (3 : Int32)), .val (.int (2 : Int32)), .unset] [(.ref b_)]))
  refine own_via (fun _ k => XS.iloadN X0.here hx rfl (hb hby d3_12) rfl k) ?_
  show own_Go p e below s _ _ _ (s₁.setTop (mkF m 13 #[.val (.ref b_), .val (.int pn_), .val (.int (3 : Int32)), .val (.int (2 : Int32)), .unset] [(.int (2 : Int32)), (.ref b_)]))
  refine own_via (fun _ k => XS.aloadN X0.here hx rfl (hb hby d3_13) rfl rfl k) ?_
  show own_Go p e below s _ _ _ (s₁.setTop (mkF m 14 #[.val (.ref b_), .val (.int pn_), .val (.int (3 : Int32)), .val (.int (2 : Int32)), .unset] [(.ref b_), (.int (2 : Int32)), (.ref b_)]))
  refine own_via (fun _ k => XS.iloadN X0.here hx rfl (hb hby d3_14) rfl k) ?_
  show own_Go p e below s _ _ _ (s₁.setTop (mkF m 15 #[.val (.ref b_), .val (.int pn_), .val (.int (3 : Int32)), .val (.int (2 : Int32)), .unset] [(.int (2 : Int32)), (.ref b_), (.int (2 : Int32)), (.ref b_)]))
  obtain ⟨cl2, Ar2, q2, S2, M2, H2, G2⟩ := (id V_b_)
  have hin2 : ¬ ((2 : Int32) < 0 ∨ cl2.slots.size ≤ ((2 : Int32)).toNatClampNeg) := inb_of S2 ⟨by decide, by decide⟩
  have hat2 : cl2.slots[((2 : Int32)).toNatClampNeg]? = some (.int u2) := Has.at H2 hin2 rfl
  refine own_via (fun _ k => X0.iaload hx (j := (2 : Int32)) (v := (.int u2)) (by rw [e0]; exact Ar2.1) (State.isArrayOf_alike hZ.alike Ar2.2.1) Ar2.2.2 hin2 hat2 (g := (mkF m 15 #[.val (.ref b_), .val (.int pn_), .val (.int (3 : Int32)), .val (.int (2 : Int32)), .unset] [(.int (2 : Int32)), (.ref b_), (.int (2 : Int32)), (.ref b_)])) rfl rfl (hb hby d3_15) _ k) ?_
  show own_Go p e below s _ _ _ (s₁.setTop (mkF m 16 #[.val (.ref b_), .val (.int pn_), .val (.int (3 : Int32)), .val (.int (2 : Int32)), .unset] [(.int u2), (.int (2 : Int32)), (.ref b_)]))
  refine own_via (fun _ k => XS.ineg X0.here hx rfl (hb hby d3_16) rfl k) ?_
  show own_Go p e below s _ _ _ (s₁.setTop (mkF m 17 #[.val (.ref b_), .val (.int pn_), .val (.int (3 : Int32)), .val (.int (2 : Int32)), .unset] [(.int (-u2)), (.int (2 : Int32)), (.ref b_)]))
  obtain ⟨cl3, Ar3, q3, S3, M3, H3, G3⟩ := (id V_b_)
  have hin3 : ¬ ((2 : Int32) < 0 ∨ cl3.slots.size ≤ ((2 : Int32)).toNatClampNeg) := inb_of S3 ⟨by decide, by decide⟩
  obtain ⟨T3, h3, X3, e3, W3, st3⟩ := stI X0 hx hZ e0 Ar3 (j := (2 : Int32)) hin3 (g := (mkF m 17 #[.val (.ref b_), .val (.int pn_), .val (.int (3 : Int32)), .val (.int (2 : Int32)), .unset] [(.int (-u2)), (.int (2 : Int32)), (.ref b_)])) rfl rfl (hb hby d3_17)
  have V3 : Arv Z h3 b_ k_ .int (3 : Int32) [(.int u0), (.int u1), (.int (-u2))] d_ := Arv.set Ar3 q3 S3 M3 H3 G3 rfl W3 2 rfl (Nat.le_of_ble_eq_true rfl)
  have N3 := Fr.snoc X3 N0 g_b_
  have Z3 : n0 ≤ h3.size := Nat.le_trans Z0 (Keep.of_wr W3).1
  have K3 : Keep h0 h3 [b_] := K0.wr W3 (Or.inl (List.mem_of_getElem? (i := 0) rfl))
  refine own_via st3 ?_
  show own_Go p e below s _ _ _ (T3.setTop (mkF m 18 #[.val (.ref b_), .val (.int pn_), .val (.int (3 : Int32)), .val (.int (2 : Int32)), .unset] []))
  refine own_via (fun _ k => XS.aloadN X3.here hx rfl (hb hby d3_18) rfl rfl k) ?_
  show own_Go p e below s _ _ _ (T3.setTop (mkF m 19 #[.val (.ref b_), .val (.int pn_), .val (.int (3 : Int32)), .val (.int (2 : Int32)), .unset] [(.ref b_)]))
  refine own_via (fun _ k => XS.iloadN X3.here hx rfl (hb hby d3_19) rfl k) ?_
  show own_Go p e below s _ _ _ (T3.setTop (mkF m 20 #[.val (.ref b_), .val (.int pn_), .val (.int (3 : Int32)), .val (.int (2 : Int32)), .unset] [(.int (2 : Int32)), (.ref b_)]))
  obtain ⟨cl4, Ar4, q4, S4, M4, H4, G4⟩ := (id V3)
  have hin4 : ¬ ((2 : Int32) < 0 ∨ cl4.slots.size ≤ ((2 : Int32)).toNatClampNeg) := inb_of S4 ⟨by decide, by decide⟩
  have hat4 : cl4.slots[((2 : Int32)).toNatClampNeg]? = some (.int (-u2)) := Has.at H4 hin4 rfl
  refine own_via (fun _ k => X3.iaload hx (j := (2 : Int32)) (v := (.int (-u2))) (by rw [e3]; exact Ar4.1) (State.isArrayOf_alike hZ.alike Ar4.2.1) Ar4.2.2 hin4 hat4 (g := (mkF m 20 #[.val (.ref b_), .val (.int pn_), .val (.int (3 : Int32)), .val (.int (2 : Int32)), .unset] [(.int (2 : Int32)), (.ref b_)])) rfl rfl (hb hby d3_20) _ k) ?_
  show own_Go p e below s _ _ _ (T3.setTop (mkF m 21 #[.val (.ref b_), .val (.int pn_), .val (.int (3 : Int32)), .val (.int (2 : Int32)), .unset] [(.int (-u2))]))
  by_cases hc5 : (-u2) < (0 : Int32)
  · refine own_via (fun _ k => XS.ifNo X3.here hx rfl (hb hby d3_21) rfl (Jvm.Free.XT.i0_ge_f hc5) k) ?_
    show own_Go p e below s _ _ _ (T3.setTop (mkF m 24 #[.val (.ref b_), .val (.int pn_), .val (.int (3 : Int32)), .val (.int (2 : Int32)), .unset] []))
    refine own_via (fun _ k => XS.iconst X3.here hx rfl (hb hby d3_24) k) ?_
    show own_Go p e below s _ _ _ (T3.setTop (mkF m 25 #[.val (.ref b_), .val (.int pn_), .val (.int (3 : Int32)), .val (.int (2 : Int32)), .unset] [(.int (1 : Int32))]))
    exact own_goN X3 hx (t := .boolean) Bd.returns (by simp) (hb hby d3_25) Bd.notSynchronized (by decide) (by decide) (by rw [e3]; exact ⟨by rw [own_nr3, if_pos hc5] <;> rfl, N3, K3, (by simp only [own_nx3_0, own_nx3_1, own_nx3_2, if_pos hc5]; exact V3)⟩)
  · refine own_via (fun _ k => XS.ifYes X3.here hx rfl (pc0 := 21) (pc' := 26) rfl (hb hby d3_21) rfl (Jvm.Free.XT.i0_ge_t hc5) (by decide) (by decide) k) ?_
    show own_Go p e below s _ _ _ (T3.setTop (mkF m 26 #[.val (.ref b_), .val (.int pn_), .val (.int (3 : Int32)), .val (.int (2 : Int32)), .unset] []))
    refine own_via (fun _ k => XS.iinc X3.here hx rfl (hb hby d3_26) rfl (l' := #[.val (.ref b_), .val (.int pn_), .val (.int (3 : Int32)), .val (.int (1 : Int32)), .unset]) rfl k) ?_
    show own_Go p e below s _ _ _ (T3.setTop (mkF m 29 #[.val (.ref b_), .val (.int pn_), .val (.int (3 : Int32)), .val (.int (1 : Int32)), .unset] []))
    refine own_via (fun _ k => XS.goto X3.here hx rfl (pc0 := 29) (pc' := 7) rfl (hb hby d3_29) (by decide) (by decide) k) ?_
    show own_Go p e below s _ _ _ (T3.setTop (mkF m 7 #[.val (.ref b_), .val (.int pn_), .val (.int (3 : Int32)), .val (.int (1 : Int32)), .unset] []))
    refine own_via (fun _ k => XS.iloadN X3.here hx rfl (hb hby d3_7) rfl k) ?_
    show own_Go p e below s _ _ _ (T3.setTop (mkF m 8 #[.val (.ref b_), .val (.int pn_), .val (.int (3 : Int32)), .val (.int (1 : Int32)), .unset] [(.int (1 : Int32))]))
    refine own_via (fun _ k => XS.ifNo X3.here hx rfl (hb hby d3_8) rfl (Jvm.Free.XT.i0_lt_f (by decide)) k) ?_
    show own_Go p e below s _ _ _ (T3.setTop (mkF m 11 #[.val (.ref b_), .val (.int pn_), .val (.int (3 : Int32)), .val (.int (1 : Int32)), .unset] []))
    refine own_via (fun _ k => XS.aloadN X3.here hx rfl (hb hby d3_11) rfl rfl k) ?_
    show own_Go p e below s _ _ _ (T3.setTop (mkF m 12 #[.val (.ref b_), .val (.int pn_), .val (.int (3 : Int32)), .val (.int (1 : Int32)), .unset] [(.ref b_)]))
    refine own_via (fun _ k => XS.iloadN X3.here hx rfl (hb hby d3_12) rfl k) ?_
    show own_Go p e below s _ _ _ (T3.setTop (mkF m 13 #[.val (.ref b_), .val (.int pn_), .val (.int (3 : Int32)), .val (.int (1 : Int32)), .unset] [(.int (1 : Int32)), (.ref b_)]))
    refine own_via (fun _ k => XS.aloadN X3.here hx rfl (hb hby d3_13) rfl rfl k) ?_
    show own_Go p e below s _ _ _ (T3.setTop (mkF m 14 #[.val (.ref b_), .val (.int pn_), .val (.int (3 : Int32)), .val (.int (1 : Int32)), .unset] [(.ref b_), (.int (1 : Int32)), (.ref b_)]))
    refine own_via (fun _ k => XS.iloadN X3.here hx rfl (hb hby d3_14) rfl k) ?_
    show own_Go p e below s _ _ _ (T3.setTop (mkF m 15 #[.val (.ref b_), .val (.int pn_), .val (.int (3 : Int32)), .val (.int (1 : Int32)), .unset] [(.int (1 : Int32)), (.ref b_), (.int (1 : Int32)), (.ref b_)]))
    obtain ⟨cl6, Ar6, q6, S6, M6, H6, G6⟩ := (id V3)
    have hin6 : ¬ ((1 : Int32) < 0 ∨ cl6.slots.size ≤ ((1 : Int32)).toNatClampNeg) := inb_of S6 ⟨by decide, by decide⟩
    have hat6 : cl6.slots[((1 : Int32)).toNatClampNeg]? = some (.int u1) := Has.at H6 hin6 rfl
    refine own_via (fun _ k => X3.iaload hx (j := (1 : Int32)) (v := (.int u1)) (by rw [e3]; exact Ar6.1) (State.isArrayOf_alike hZ.alike Ar6.2.1) Ar6.2.2 hin6 hat6 (g := (mkF m 15 #[.val (.ref b_), .val (.int pn_), .val (.int (3 : Int32)), .val (.int (1 : Int32)), .unset] [(.int (1 : Int32)), (.ref b_), (.int (1 : Int32)), (.ref b_)])) rfl rfl (hb hby d3_15) _ k) ?_
    show own_Go p e below s _ _ _ (T3.setTop (mkF m 16 #[.val (.ref b_), .val (.int pn_), .val (.int (3 : Int32)), .val (.int (1 : Int32)), .unset] [(.int u1), (.int (1 : Int32)), (.ref b_)]))
    refine own_via (fun _ k => XS.ineg X3.here hx rfl (hb hby d3_16) rfl k) ?_
    show own_Go p e below s _ _ _ (T3.setTop (mkF m 17 #[.val (.ref b_), .val (.int pn_), .val (.int (3 : Int32)), .val (.int (1 : Int32)), .unset] [(.int (-u1)), (.int (1 : Int32)), (.ref b_)]))
    obtain ⟨cl7, Ar7, q7, S7, M7, H7, G7⟩ := (id V3)
    have hin7 : ¬ ((1 : Int32) < 0 ∨ cl7.slots.size ≤ ((1 : Int32)).toNatClampNeg) := inb_of S7 ⟨by decide, by decide⟩
    obtain ⟨T7, h7, X7, e7, W7, st7⟩ := stI X3 hx hZ e3 Ar7 (j := (1 : Int32)) hin7 (g := (mkF m 17 #[.val (.ref b_), .val (.int pn_), .val (.int (3 : Int32)), .val (.int (1 : Int32)), .unset] [(.int (-u1)), (.int (1 : Int32)), (.ref b_)])) rfl rfl (hb hby d3_17)
    have V7 : Arv Z h7 b_ k_ .int (3 : Int32) [(.int u0), (.int (-u1)), (.int (-u2))] d_ := Arv.set Ar7 q7 S7 M7 H7 G7 rfl W7 1 rfl (Nat.le_of_ble_eq_true rfl)
    have N7 := Fr.snoc X7 N3 g_b_
    have Z7 : n0 ≤ h7.size := Nat.le_trans Z3 (Keep.of_wr W7).1
    have K7 : Keep h0 h7 [b_] := K3.wr W7 (Or.inl (List.mem_of_getElem? (i := 0) rfl))
    refine own_via st7 ?_
    show own_Go p e below s _ _ _ (T7.setTop (mkF m 18 #[.val (.ref b_), .val (.int pn_), .val (.int (3 : Int32)), .val (.int (1 : Int32)), .unset] []))
    refine own_via (fun _ k => XS.aloadN X7.here hx rfl (hb hby d3_18) rfl rfl k) ?_
    show own_Go p e below s _ _ _ (T7.setTop (mkF m 19 #[.val (.ref b_), .val (.int pn_), .val (.int (3 : Int32)), .val (.int (1 : Int32)), .unset] [(.ref b_)]))
    refine own_via (fun _ k => XS.iloadN X7.here hx rfl (hb hby d3_19) rfl k) ?_
    show own_Go p e below s _ _ _ (T7.setTop (mkF m 20 #[.val (.ref b_), .val (.int pn_), .val (.int (3 : Int32)), .val (.int (1 : Int32)), .unset] [(.int (1 : Int32)), (.ref b_)]))
    obtain ⟨cl8, Ar8, q8, S8, M8, H8, G8⟩ := (id V7)
    have hin8 : ¬ ((1 : Int32) < 0 ∨ cl8.slots.size ≤ ((1 : Int32)).toNatClampNeg) := inb_of S8 ⟨by decide, by decide⟩
    have hat8 : cl8.slots[((1 : Int32)).toNatClampNeg]? = some (.int (-u1)) := Has.at H8 hin8 rfl
    refine own_via (fun _ k => X7.iaload hx (j := (1 : Int32)) (v := (.int (-u1))) (by rw [e7]; exact Ar8.1) (State.isArrayOf_alike hZ.alike Ar8.2.1) Ar8.2.2 hin8 hat8 (g := (mkF m 20 #[.val (.ref b_), .val (.int pn_), .val (.int (3 : Int32)), .val (.int (1 : Int32)), .unset] [(.int (1 : Int32)), (.ref b_)])) rfl rfl (hb hby d3_20) _ k) ?_
    show own_Go p e below s _ _ _ (T7.setTop (mkF m 21 #[.val (.ref b_), .val (.int pn_), .val (.int (3 : Int32)), .val (.int (1 : Int32)), .unset] [(.int (-u1))]))
    by_cases hc9 : (-u1) < (0 : Int32)
    · refine own_via (fun _ k => XS.ifNo X7.here hx rfl (hb hby d3_21) rfl (Jvm.Free.XT.i0_ge_f hc9) k) ?_
      show own_Go p e below s _ _ _ (T7.setTop (mkF m 24 #[.val (.ref b_), .val (.int pn_), .val (.int (3 : Int32)), .val (.int (1 : Int32)), .unset] []))
      refine own_via (fun _ k => XS.iconst X7.here hx rfl (hb hby d3_24) k) ?_
      show own_Go p e below s _ _ _ (T7.setTop (mkF m 25 #[.val (.ref b_), .val (.int pn_), .val (.int (3 : Int32)), .val (.int (1 : Int32)), .unset] [(.int (1 : Int32))]))
      exact own_goN X7 hx (t := .boolean) Bd.returns (by simp) (hb hby d3_25) Bd.notSynchronized (by decide) (by decide) (by rw [e7]; exact ⟨by rw [own_nr3, if_neg hc5, if_pos hc9] <;> rfl, N7, K7, (by simp only [own_nx3_0, own_nx3_1, own_nx3_2, if_neg hc5, if_pos hc9]; exact V7)⟩)
    · refine own_via (fun _ k => XS.ifYes X7.here hx rfl (pc0 := 21) (pc' := 26) rfl (hb hby d3_21) rfl (Jvm.Free.XT.i0_ge_t hc9) (by decide) (by decide) k) ?_
      show own_Go p e below s _ _ _ (T7.setTop (mkF m 26 #[.val (.ref b_), .val (.int pn_), .val (.int (3 : Int32)), .val (.int (1 : Int32)), .unset] []))
      refine own_via (fun _ k => XS.iinc X7.here hx rfl (hb hby d3_26) rfl (l' := #[.val (.ref b_), .val (.int pn_), .val (.int (3 : Int32)), .val (.int (0 : Int32)), .unset]) rfl k) ?_
      show own_Go p e below s _ _ _ (T7.setTop (mkF m 29 #[.val (.ref b_), .val (.int pn_), .val (.int (3 : Int32)), .val (.int (0 : Int32)), .unset] []))
      refine own_via (fun _ k => XS.goto X7.here hx rfl (pc0 := 29) (pc' := 7) rfl (hb hby d3_29) (by decide) (by decide) k) ?_
      show own_Go p e below s _ _ _ (T7.setTop (mkF m 7 #[.val (.ref b_), .val (.int pn_), .val (.int (3 : Int32)), .val (.int (0 : Int32)), .unset] []))
      refine own_via (fun _ k => XS.iloadN X7.here hx rfl (hb hby d3_7) rfl k) ?_
      show own_Go p e below s _ _ _ (T7.setTop (mkF m 8 #[.val (.ref b_), .val (.int pn_), .val (.int (3 : Int32)), .val (.int (0 : Int32)), .unset] [(.int (0 : Int32))]))
      refine own_via (fun _ k => XS.ifNo X7.here hx rfl (hb hby d3_8) rfl (Jvm.Free.XT.i0_lt_f (by decide)) k) ?_
      show own_Go p e below s _ _ _ (T7.setTop (mkF m 11 #[.val (.ref b_), .val (.int pn_), .val (.int (3 : Int32)), .val (.int (0 : Int32)), .unset] []))
      refine own_via (fun _ k => XS.aloadN X7.here hx rfl (hb hby d3_11) rfl rfl k) ?_
      show own_Go p e below s _ _ _ (T7.setTop (mkF m 12 #[.val (.ref b_), .val (.int pn_), .val (.int (3 : Int32)), .val (.int (0 : Int32)), .unset] [(.ref b_)]))
      refine own_via (fun _ k => XS.iloadN X7.here hx rfl (hb hby d3_12) rfl k) ?_
      show own_Go p e below s _ _ _ (T7.setTop (mkF m 13 #[.val (.ref b_), .val (.int pn_), .val (.int (3 : Int32)), .val (.int (0 : Int32)), .unset] [(.int (0 : Int32)), (.ref b_)]))
      refine own_via (fun _ k => XS.aloadN X7.here hx rfl (hb hby d3_13) rfl rfl k) ?_
      show own_Go p e below s _ _ _ (T7.setTop (mkF m 14 #[.val (.ref b_), .val (.int pn_), .val (.int (3 : Int32)), .val (.int (0 : Int32)), .unset] [(.ref b_), (.int (0 : Int32)), (.ref b_)]))
      refine own_via (fun _ k => XS.iloadN X7.here hx rfl (hb hby d3_14) rfl k) ?_
      show own_Go p e below s _ _ _ (T7.setTop (mkF m 15 #[.val (.ref b_), .val (.int pn_), .val (.int (3 : Int32)), .val (.int (0 : Int32)), .unset] [(.int (0 : Int32)), (.ref b_), (.int (0 : Int32)), (.ref b_)]))
      obtain ⟨cl10, Ar10, q10, S10, M10, H10, G10⟩ := (id V7)
      have hin10 : ¬ ((0 : Int32) < 0 ∨ cl10.slots.size ≤ ((0 : Int32)).toNatClampNeg) := inb_of S10 ⟨by decide, by decide⟩
      have hat10 : cl10.slots[((0 : Int32)).toNatClampNeg]? = some (.int u0) := Has.at H10 hin10 rfl
      refine own_via (fun _ k => X7.iaload hx (j := (0 : Int32)) (v := (.int u0)) (by rw [e7]; exact Ar10.1) (State.isArrayOf_alike hZ.alike Ar10.2.1) Ar10.2.2 hin10 hat10 (g := (mkF m 15 #[.val (.ref b_), .val (.int pn_), .val (.int (3 : Int32)), .val (.int (0 : Int32)), .unset] [(.int (0 : Int32)), (.ref b_), (.int (0 : Int32)), (.ref b_)])) rfl rfl (hb hby d3_15) _ k) ?_
      show own_Go p e below s _ _ _ (T7.setTop (mkF m 16 #[.val (.ref b_), .val (.int pn_), .val (.int (3 : Int32)), .val (.int (0 : Int32)), .unset] [(.int u0), (.int (0 : Int32)), (.ref b_)]))
      refine own_via (fun _ k => XS.ineg X7.here hx rfl (hb hby d3_16) rfl k) ?_
      show own_Go p e below s _ _ _ (T7.setTop (mkF m 17 #[.val (.ref b_), .val (.int pn_), .val (.int (3 : Int32)), .val (.int (0 : Int32)), .unset] [(.int (-u0)), (.int (0 : Int32)), (.ref b_)]))
      obtain ⟨cl11, Ar11, q11, S11, M11, H11, G11⟩ := (id V7)
      have hin11 : ¬ ((0 : Int32) < 0 ∨ cl11.slots.size ≤ ((0 : Int32)).toNatClampNeg) := inb_of S11 ⟨by decide, by decide⟩
      obtain ⟨T11, h11, X11, e11, W11, st11⟩ := stI X7 hx hZ e7 Ar11 (j := (0 : Int32)) hin11 (g := (mkF m 17 #[.val (.ref b_), .val (.int pn_), .val (.int (3 : Int32)), .val (.int (0 : Int32)), .unset] [(.int (-u0)), (.int (0 : Int32)), (.ref b_)])) rfl rfl (hb hby d3_17)
      have V11 : Arv Z h11 b_ k_ .int (3 : Int32) [(.int (-u0)), (.int (-u1)), (.int (-u2))] d_ := Arv.set Ar11 q11 S11 M11 H11 G11 rfl W11 0 rfl (Nat.le_of_ble_eq_true rfl)
      have N11 := Fr.snoc X11 N7 g_b_
      have Z11 : n0 ≤ h11.size := Nat.le_trans Z7 (Keep.of_wr W11).1
      have K11 : Keep h0 h11 [b_] := K7.wr W11 (Or.inl (List.mem_of_getElem? (i := 0) rfl))
      refine own_via st11 ?_
      show own_Go p e below s _ _ _ (T11.setTop (mkF m 18 #[.val (.ref b_), .val (.int pn_), .val (.int (3 : Int32)), .val (.int (0 : Int32)), .unset] []))
      refine own_via (fun _ k => XS.aloadN X11.here hx rfl (hb hby d3_18) rfl rfl k) ?_
      show own_Go p e below s _ _ _ (T11.setTop (mkF m 19 #[.val (.ref b_), .val (.int pn_), .val (.int (3 : Int32)), .val (.int (0 : Int32)), .unset] [(.ref b_)]))
      refine own_via (fun _ k => XS.iloadN X11.here hx rfl (hb hby d3_19) rfl k) ?_
      show own_Go p e below s _ _ _ (T11.setTop (mkF m 20 #[.val (.ref b_), .val (.int pn_), .val (.int (3 : Int32)), .val (.int (0 : Int32)), .unset] [(.int (0 : Int32)), (.ref b_)]))
      obtain ⟨cl12, Ar12, q12, S12, M12, H12, G12⟩ := (id V11)
      have hin12 : ¬ ((0 : Int32) < 0 ∨ cl12.slots.size ≤ ((0 : Int32)).toNatClampNeg) := inb_of S12 ⟨by decide, by decide⟩
      have hat12 : cl12.slots[((0 : Int32)).toNatClampNeg]? = some (.int (-u0)) := Has.at H12 hin12 rfl
      refine own_via (fun _ k => X11.iaload hx (j := (0 : Int32)) (v := (.int (-u0))) (by rw [e11]; exact Ar12.1) (State.isArrayOf_alike hZ.alike Ar12.2.1) Ar12.2.2 hin12 hat12 (g := (mkF m 20 #[.val (.ref b_), .val (.int pn_), .val (.int (3 : Int32)), .val (.int (0 : Int32)), .unset] [(.int (0 : Int32)), (.ref b_)])) rfl rfl (hb hby d3_20) _ k) ?_
      show own_Go p e below s _ _ _ (T11.setTop (mkF m 21 #[.val (.ref b_), .val (.int pn_), .val (.int (3 : Int32)), .val (.int (0 : Int32)), .unset] [(.int (-u0))]))
      by_cases hc13 : (-u0) < (0 : Int32)
      · refine own_via (fun _ k => XS.ifNo X11.here hx rfl (hb hby d3_21) rfl (Jvm.Free.XT.i0_ge_f hc13) k) ?_
        show own_Go p e below s _ _ _ (T11.setTop (mkF m 24 #[.val (.ref b_), .val (.int pn_), .val (.int (3 : Int32)), .val (.int (0 : Int32)), .unset] []))
        refine own_via (fun _ k => XS.iconst X11.here hx rfl (hb hby d3_24) k) ?_
        show own_Go p e below s _ _ _ (T11.setTop (mkF m 25 #[.val (.ref b_), .val (.int pn_), .val (.int (3 : Int32)), .val (.int (0 : Int32)), .unset] [(.int (1 : Int32))]))
        exact own_goN X11 hx (t := .boolean) Bd.returns (by simp) (hb hby d3_25) Bd.notSynchronized (by decide) (by decide) (by rw [e11]; exact ⟨by rw [own_nr3, if_neg hc5, if_neg hc9, if_pos hc13] <;> rfl, N11, K11, (by simp only [own_nx3_0, own_nx3_1, own_nx3_2, if_neg hc5, if_neg hc9, if_pos hc13]; exact V11)⟩)
      · refine own_via (fun _ k => XS.ifYes X11.here hx rfl (pc0 := 21) (pc' := 26) rfl (hb hby d3_21) rfl (Jvm.Free.XT.i0_ge_t hc13) (by decide) (by decide) k) ?_
        show own_Go p e below s _ _ _ (T11.setTop (mkF m 26 #[.val (.ref b_), .val (.int pn_), .val (.int (3 : Int32)), .val (.int (0 : Int32)), .unset] []))
        refine own_via (fun _ k => XS.iinc X11.here hx rfl (hb hby d3_26) rfl (l' := #[.val (.ref b_), .val (.int pn_), .val (.int (3 : Int32)), .val (.int (-1 : Int32)), .unset]) rfl k) ?_
        show own_Go p e below s _ _ _ (T11.setTop (mkF m 29 #[.val (.ref b_), .val (.int pn_), .val (.int (3 : Int32)), .val (.int (-1 : Int32)), .unset] []))
        refine own_via (fun _ k => XS.goto X11.here hx rfl (pc0 := 29) (pc' := 7) rfl (hb hby d3_29) (by decide) (by decide) k) ?_
        show own_Go p e below s _ _ _ (T11.setTop (mkF m 7 #[.val (.ref b_), .val (.int pn_), .val (.int (3 : Int32)), .val (.int (-1 : Int32)), .unset] []))
        refine own_via (fun _ k => XS.iloadN X11.here hx rfl (hb hby d3_7) rfl k) ?_
        show own_Go p e below s _ _ _ (T11.setTop (mkF m 8 #[.val (.ref b_), .val (.int pn_), .val (.int (3 : Int32)), .val (.int (-1 : Int32)), .unset] [(.int (-1 : Int32))]))
        refine own_via (fun _ k => XS.ifYes X11.here hx rfl (pc0 := 8) (pc' := 32) rfl (hb hby d3_8) rfl (Jvm.Free.XT.i0_lt_t (by decide)) (by decide) (by decide) k) ?_
        show own_Go p e below s _ _ _ (T11.setTop (mkF m 32 #[.val (.ref b_), .val (.int pn_), .val (.int (3 : Int32)), .val (.int (-1 : Int32)), .unset] []))
        refine own_via (fun _ k => XS.iloadN X11.here hx rfl (hb hby d3_32) rfl k) ?_
        show own_Go p e below s _ _ _ (T11.setTop (mkF m 33 #[.val (.ref b_), .val (.int pn_), .val (.int (3 : Int32)), .val (.int (-1 : Int32)), .unset] [(.int (3 : Int32))]))
        refine own_via (fun _ k => XS.iconst X11.here hx rfl (hb hby d3_33) k) ?_
        show own_Go p e below s _ _ _ (T11.setTop (mkF m 34 #[.val (.ref b_), .val (.int pn_), .val (.int (3 : Int32)), .val (.int (-1 : Int32)), .unset] [(.int (1 : Int32)), (.int (3 : Int32))]))
        refine own_via (fun _ k => XS.isub X11.here hx rfl (hb hby d3_34) rfl k) ?_
        show own_Go p e below s _ _ _ (T11.setTop (mkF m 35 #[.val (.ref b_), .val (.int pn_), .val (.int (3 : Int32)), .val (.int (-1 : Int32)), .unset] [(.int (2 : Int32))]))
        refine own_via (fun _ k => XS.istoreN X11.here hx rfl (hb hby d3_35) rfl (l' := #[.val (.ref b_), .val (.int pn_), .val (.int (3 : Int32)), .val (.int (2 : Int32)), .unset]) rfl k) ?_
        show own_Go p e below s _ _ _ (T11.setTop (mkF m 36 #[.val (.ref b_), .val (.int pn_), .val (.int (3 : Int32)), .val (.int (2 : Int32)), .unset] []))
        refine own_via (fun _ k => XS.iloadN X11.here hx rfl (hb hby d3_36) rfl k) ?_
        show own_Go p e below s _ _ _ (T11.setTop (mkF m 37 #[.val (.ref b_), .val (.int pn_), .val (.int (3 : Int32)), .val (.int (2 : Int32)), .unset] [(.int (2 : Int32))]))
        refine own_via (fun _ k => XS.ifNo X11.here hx rfl (hb hby d3_37) rfl (Jvm.Free.XT.i0_lt_f (by decide)) k) ?_
        show own_Go p e below s _ _ _ (T11.setTop (mkF m 40 #[.val (.ref b_), .val (.int pn_), .val (.int (3 : Int32)), .val (.int (2 : Int32)), .unset] []))
        refine own_via (fun _ k => XS.aloadN X11.here hx rfl (hb hby d3_40) rfl rfl k) ?_
        show own_Go p e below s _ _ _ (T11.setTop (mkF m 41 #[.val (.ref b_), .val (.int pn_), .val (.int (3 : Int32)), .val (.int (2 : Int32)), .unset] [(.ref b_)]))
        refine own_via (fun _ k => XS.iloadN X11.here hx rfl (hb hby d3_41) rfl k) ?_
        show own_Go p e below s _ _ _ (T11.setTop (mkF m 42 #[.val (.ref b_), .val (.int pn_), .val (.int (3 : Int32)), .val (.int (2 : Int32)), .unset] [(.int (2 : Int32)), (.ref b_)]))
        obtain ⟨cl14, Ar14, q14, S14, M14, H14, G14⟩ := (id V11)
        have hin14 : ¬ ((2 : Int32) < 0 ∨ cl14.slots.size ≤ ((2 : Int32)).toNatClampNeg) := inb_of S14 ⟨by decide, by decide⟩
        have hat14 : cl14.slots[((2 : Int32)).toNatClampNeg]? = some (.int (-u2)) := Has.at H14 hin14 rfl
        refine own_via (fun _ k => X11.iaload hx (j := (2 : Int32)) (v := (.int (-u2))) (by rw [e11]; exact Ar14.1) (State.isArrayOf_alike hZ.alike Ar14.2.1) Ar14.2.2 hin14 hat14 (g := (mkF m 42 #[.val (.ref b_), .val (.int pn_), .val (.int (3 : Int32)), .val (.int (2 : Int32)), .unset] [(.int (2 : Int32)), (.ref b_)])) rfl rfl (hb hby d3_42) _ k) ?_
        show own_Go p e below s _ _ _ (T11.setTop (mkF m 43 #[.val (.ref b_), .val (.int pn_), .val (.int (3 : Int32)), .val (.int (2 : Int32)), .unset] [(.int (-u2))]))
        refine own_via (fun _ k => XS.iloadN X11.here hx rfl (hb hby d3_43) rfl k) ?_
        show own_Go p e below s _ _ _ (T11.setTop (mkF m 44 #[.val (.ref b_), .val (.int pn_), .val (.int (3 : Int32)), .val (.int (2 : Int32)), .unset] [(.int pn_), (.int (-u2))]))
        refine own_via (fun _ k => XS.iloadN X11.here hx rfl (hb hby d3_44) rfl k) ?_
        show own_Go p e below s _ _ _ (T11.setTop (mkF m 45 #[.val (.ref b_), .val (.int pn_), .val (.int (3 : Int32)), .val (.int (2 : Int32)), .unset] [(.int (3 : Int32)), (.int pn_), (.int (-u2))]))
        refine own_via (fun _ k => XS.iconst X11.here hx rfl (hb hby d3_45) k) ?_
        show own_Go p e below s _ _ _ (T11.setTop (mkF m 46 #[.val (.ref b_), .val (.int pn_), .val (.int (3 : Int32)), .val (.int (2 : Int32)), .unset] [(.int (1 : Int32)), (.int (3 : Int32)), (.int pn_), (.int (-u2))]))
        refine own_via (fun _ k => XS.isub X11.here hx rfl (hb hby d3_46) rfl k) ?_
        show own_Go p e below s _ _ _ (T11.setTop (mkF m 47 #[.val (.ref b_), .val (.int pn_), .val (.int (3 : Int32)), .val (.int (2 : Int32)), .unset] [(.int (2 : Int32)), (.int pn_), (.int (-u2))]))
        refine own_via (fun _ k => XS.iloadN X11.here hx rfl (hb hby d3_47) rfl k) ?_
        show own_Go p e below s _ _ _ (T11.setTop (mkF m 48 #[.val (.ref b_), .val (.int pn_), .val (.int (3 : Int32)), .val (.int (2 : Int32)), .unset] [(.int (2 : Int32)), (.int (2 : Int32)), (.int pn_), (.int (-u2))]))
        refine own_via (fun _ k => XS.isub X11.here hx rfl (hb hby d3_48) rfl k) ?_
        show own_Go p e below s _ _ _ (T11.setTop (mkF m 49 #[.val (.ref b_), .val (.int pn_), .val (.int (3 : Int32)), .val (.int (2 : Int32)), .unset] [(.int (0 : Int32)), (.int pn_), (.int (-u2))]))
        refine own_via (fun _ k => XS.isub X11.here hx rfl (hb hby d3_49) rfl k) ?_
        show own_Go p e below s _ _ _ (T11.setTop (mkF m 50 #[.val (.ref b_), .val (.int pn_), .val (.int (3 : Int32)), .val (.int (2 : Int32)), .unset] [(.int (pn_ - (0 : Int32))), (.int (-u2))]))
        by_cases hc15 : (-u2) < (pn_ - (0 : Int32))
        · refine own_via (fun _ k => XS.icmpNo X11.here hx rfl (hb hby d3_50) rfl (Jvm.Free.XT.ii_ge_f hc15) k) ?_
          show own_Go p e below s _ _ _ (T11.setTop (mkF m 53 #[.val (.ref b_), .val (.int pn_), .val (.int (3 : Int32)), .val (.int (2 : Int32)), .unset] []))
          refine own_via (fun _ k => XS.aloadN X11.here hx rfl (hb hby d3_53) rfl rfl k) ?_
          show own_Go p e below s _ _ _ (T11.setTop (mkF m 54 #[.val (.ref b_), .val (.int pn_), .val (.int (3 : Int32)), .val (.int (2 : Int32)), .unset] [(.ref b_)]))
          refine own_via (fun _ k => XS.iloadN X11.here hx rfl (hb hby d3_54) rfl k) ?_
          show own_Go p e below s _ _ _ (T11.setTop (mkF m 55 #[.val (.ref b_), .val (.int pn_), .val (.int (3 : Int32)), .val (.int (2 : Int32)), .unset] [(.int (2 : Int32)), (.ref b_)]))
          refine own_via (fun _ k => Jvm.Free.XT.dup2 X11.here hx rfl (hb hby d3_55) rfl rfl rfl k) ?_
          show own_Go p e below s _ _ _ (T11.setTop (mkF m 56 #[.val (.ref b_), .val (.int pn_), .val (.int (3 : Int32)), .val (.int (2 : Int32)), .unset] [(.int (2 : Int32)), (.ref b_), (.int (2 : Int32)), (.ref b_)]))
          obtain ⟨cl16, Ar16, q16, S16, M16, H16, G16⟩ := (id V11)
          have hin16 : ¬ ((2 : Int32) < 0 ∨ cl16.slots.size ≤ ((2 : Int32)).toNatClampNeg) := inb_of S16 ⟨by decide, by decide⟩
          have hat16 : cl16.slots[((2 : Int32)).toNatClampNeg]? = some (.int (-u2)) := Has.at H16 hin16 rfl
          refine own_via (fun _ k => X11.iaload hx (j := (2 : Int32)) (v := (.int (-u2))) (by rw [e11]; exact Ar16.1) (State.isArrayOf_alike hZ.alike Ar16.2.1) Ar16.2.2 hin16 hat16 (g := (mkF m 56 #[.val (.ref b_), .val (.int pn_), .val (.int (3 : Int32)), .val (.int (2 : Int32)), .unset] [(.int (2 : Int32)), (.ref b_), (.int (2 : Int32)), (.ref b_)])) rfl rfl (hb hby d3_56) _ k) ?_
          show own_Go p e below s _ _ _ (T11.setTop (mkF m 57 #[.val (.ref b_), .val (.int pn_), .val (.int (3 : Int32)), .val (.int (2 : Int32)), .unset] [(.int (-u2)), (.int (2 : Int32)), (.ref b_)]))
          refine own_via (fun _ k => XS.iconst X11.here hx rfl (hb hby d3_57) k) ?_
          show own_Go p e below s _ _ _ (T11.setTop (mkF m 58 #[.val (.ref b_), .val (.int pn_), .val (.int (3 : Int32)), .val (.int (2 : Int32)), .unset] [(.int (1 : Int32)), (.int (-u2)), (.int (2 : Int32)), (.ref b_)]))
          refine own_via (fun _ k => XS.iadd X11.here hx rfl (hb hby d3_58) rfl k) ?_
          show own_Go p e below s _ _ _ (T11.setTop (mkF m 59 #[.val (.ref b_), .val (.int pn_), .val (.int (3 : Int32)), .val (.int (2 : Int32)), .unset] [(.int ((-u2) + (1 : Int32))), (.int (2 : Int32)), (.ref b_)]))
          obtain ⟨cl17, Ar17, q17, S17, M17, H17, G17⟩ := (id V11)
          have hin17 : ¬ ((2 : Int32) < 0 ∨ cl17.slots.size ≤ ((2 : Int32)).toNatClampNeg) := inb_of S17 ⟨by decide, by decide⟩
          obtain ⟨T17, h17, X17, e17, W17, st17⟩ := stI X11 hx hZ e11 Ar17 (j := (2 : Int32)) hin17 (g := (mkF m 59 #[.val (.ref b_), .val (.int pn_), .val (.int (3 : Int32)), .val (.int (2 : Int32)), .unset] [(.int ((-u2) + (1 : Int32))), (.int (2 : Int32)), (.ref b_)])) rfl rfl (hb hby d3_59)
          have V17 : Arv Z h17 b_ k_ .int (3 : Int32) [(.int (-u0)), (.int (-u1)), (.int ((-u2) + (1 : Int32)))] d_ := Arv.set Ar17 q17 S17 M17 H17 G17 rfl W17 2 rfl (Nat.le_of_ble_eq_true rfl)
          have N17 := Fr.snoc X17 N11 g_b_
          have Z17 : n0 ≤ h17.size := Nat.le_trans Z11 (Keep.of_wr W17).1
          have K17 : Keep h0 h17 [b_] := K11.wr W17 (Or.inl (List.mem_of_getElem? (i := 0) rfl))
          refine own_via st17 ?_
          show own_Go p e below s _ _ _ (T17.setTop (mkF m 60 #[.val (.ref b_), .val (.int pn_), .val (.int (3 : Int32)), .val (.int (2 : Int32)), .unset] []))
          refine own_via (fun _ k => XS.iloadN X17.here hx rfl (hb hby d3_60) rfl k) ?_
          show own_Go p e below s _ _ _ (T17.setTop (mkF m 61 #[.val (.ref b_), .val (.int pn_), .val (.int (3 : Int32)), .val (.int (2 : Int32)), .unset] [(.int (2 : Int32))]))
          refine own_via (fun _ k => XS.iconst X17.here hx rfl (hb hby d3_61) k) ?_
          show own_Go p e below s _ _ _ (T17.setTop (mkF m 62 #[.val (.ref b_), .val (.int pn_), .val (.int (3 : Int32)), .val (.int (2 : Int32)), .unset] [(.int (1 : Int32)), (.int (2 : Int32))]))
          refine own_via (fun _ k => XS.iadd X17.here hx rfl (hb hby d3_62) rfl k) ?_
          show own_Go p e below s _ _ _ (T17.setTop (mkF m 63 #[.val (.ref b_), .val (.int pn_), .val (.int (3 : Int32)), .val (.int (2 : Int32)), .unset] [(.int (3 : Int32))]))
          refine own_via (fun _ k => XS.istore X17.here hx rfl (hb hby d3_63) rfl (l' := #[.val (.ref b_), .val (.int pn_), .val (.int (3 : Int32)), .val (.int (2 : Int32)), .val (.int (3 : Int32))]) rfl k) ?_
          show own_Go p e below s _ _ _ (T17.setTop (mkF m 65 #[.val (.ref b_), .val (.int pn_), .val (.int (3 : Int32)), .val (.int (2 : Int32)), .val (.int (3 : Int32))] []))
          refine own_via (fun _ k => XS.iload X17.here hx rfl (hb hby d3_65) rfl k) ?_
          show own_Go p e below s _ _ _ (T17.setTop (mkF m 67 #[.val (.ref b_), .val (.int pn_), .val (.int (3 : Int32)), .val (.int (2 : Int32)), .val (.int (3 : Int32))] [(.int (3 : Int32))]))
          refine own_via (fun _ k => XS.iloadN X17.here hx rfl (hb hby d3_67) rfl k) ?_
          show own_Go p e below s _ _ _ (T17.setTop (mkF m 68 #[.val (.ref b_), .val (.int pn_), .val (.int (3 : Int32)), .val (.int (2 : Int32)), .val (.int (3 : Int32))] [(.int (3 : Int32)), (.int (3 : Int32))]))
          refine own_via (fun _ k => XS.icmpYes X17.here hx rfl (pc0 := 68) (pc' := 89) rfl (hb hby d3_68) rfl (Jvm.Free.XT.ii_ge_t (by decide)) (by decide) (by decide) k) ?_
          show own_Go p e below s _ _ _ (T17.setTop (mkF m 89 #[.val (.ref b_), .val (.int pn_), .val (.int (3 : Int32)), .val (.int (2 : Int32)), .val (.int (3 : Int32))] []))
          refine own_via (fun _ k => XS.iconst X17.here hx rfl (hb hby d3_89) k) ?_
          show own_Go p e below s _ _ _ (T17.setTop (mkF m 90 #[.val (.ref b_), .val (.int pn_), .val (.int (3 : Int32)), .val (.int (2 : Int32)), .val (.int (3 : Int32))] [(.int (1 : Int32))]))
          exact own_goN X17 hx (t := .boolean) Bd.returns (by simp) (hb hby d3_90) Bd.notSynchronized (by decide) (by decide) (by rw [e17]; exact ⟨by rw [own_nr3, if_neg hc5, if_neg hc9, if_neg hc13, if_pos hc15] <;> rfl, N17, K17, (by simp only [own_nx3_0, own_nx3_1, own_nx3_2, if_neg hc5, if_neg hc9, if_neg hc13, if_pos hc15]; exact V17)⟩)
        · refine own_via (fun _ k => XS.icmpYes X11.here hx rfl (pc0 := 50) (pc' := 91) rfl (hb hby d3_50) rfl (Jvm.Free.XT.ii_ge_t hc15) (by decide) (by decide) k) ?_
          show own_Go p e below s _ _ _ (T11.setTop (mkF m 91 #[.val (.ref b_), .val (.int pn_), .val (.int (3 : Int32)), .val (.int (2 : Int32)), .unset] []))
          refine own_via (fun _ k => XS.iinc X11.here hx rfl (hb hby d3_91) rfl (l' := #[.val (.ref b_), .val (.int pn_), .val (.int (3 : Int32)), .val (.int (1 : Int32)), .unset]) rfl k) ?_
          show own_Go p e below s _ _ _ (T11.setTop (mkF m 94 #[.val (.ref b_), .val (.int pn_), .val (.int (3 : Int32)), .val (.int (1 : Int32)), .unset] []))
          refine own_via (fun _ k => XS.goto X11.here hx rfl (pc0 := 94) (pc' := 36) rfl (hb hby d3_94) (by decide) (by decide) k) ?_
          show own_Go p e below s _ _ _ (T11.setTop (mkF m 36 #[.val (.ref b_), .val (.int pn_), .val (.int (3 : Int32)), .val (.int (1 : Int32)), .unset] []))
          refine own_via (fun _ k => XS.iloadN X11.here hx rfl (hb hby d3_36) rfl k) ?_
          show own_Go p e below s _ _ _ (T11.setTop (mkF m 37 #[.val (.ref b_), .val (.int pn_), .val (.int (3 : Int32)), .val (.int (1 : Int32)), .unset] [(.int (1 : Int32))]))
          refine own_via (fun _ k => XS.ifNo X11.here hx rfl (hb hby d3_37) rfl (Jvm.Free.XT.i0_lt_f (by decide)) k) ?_
          show own_Go p e below s _ _ _ (T11.setTop (mkF m 40 #[.val (.ref b_), .val (.int pn_), .val (.int (3 : Int32)), .val (.int (1 : Int32)), .unset] []))
          refine own_via (fun _ k => XS.aloadN X11.here hx rfl (hb hby d3_40) rfl rfl k) ?_
          show own_Go p e below s _ _ _ (T11.setTop (mkF m 41 #[.val (.ref b_), .val (.int pn_), .val (.int (3 : Int32)), .val (.int (1 : Int32)), .unset] [(.ref b_)]))
          refine own_via (fun _ k => XS.iloadN X11.here hx rfl (hb hby d3_41) rfl k) ?_
          show own_Go p e below s _ _ _ (T11.setTop (mkF m 42 #[.val (.ref b_), .val (.int pn_), .val (.int (3 : Int32)), .val (.int (1 : Int32)), .unset] [(.int (1 : Int32)), (.ref b_)]))
          obtain ⟨cl18, Ar18, q18, S18, M18, H18, G18⟩ := (id V11)
          have hin18 : ¬ ((1 : Int32) < 0 ∨ cl18.slots.size ≤ ((1 : Int32)).toNatClampNeg) := inb_of S18 ⟨by decide, by decide⟩
          have hat18 : cl18.slots[((1 : Int32)).toNatClampNeg]? = some (.int (-u1)) := Has.at H18 hin18 rfl
          refine own_via (fun _ k => X11.iaload hx (j := (1 : Int32)) (v := (.int (-u1))) (by rw [e11]; exact Ar18.1) (State.isArrayOf_alike hZ.alike Ar18.2.1) Ar18.2.2 hin18 hat18 (g := (mkF m 42 #[.val (.ref b_), .val (.int pn_), .val (.int (3 : Int32)), .val (.int (1 : Int32)), .unset] [(.int (1 : Int32)), (.ref b_)])) rfl rfl (hb hby d3_42) _ k) ?_
          show own_Go p e below s _ _ _ (T11.setTop (mkF m 43 #[.val (.ref b_), .val (.int pn_), .val (.int (3 : Int32)), .val (.int (1 : Int32)), .unset] [(.int (-u1))]))
          refine own_via (fun _ k => XS.iloadN X11.here hx rfl (hb hby d3_43) rfl k) ?_
          show own_Go p e below s _ _ _ (T11.setTop (mkF m 44 #[.val (.ref b_), .val (.int pn_), .val (.int (3 : Int32)), .val (.int (1 : Int32)), .unset] [(.int pn_), (.int (-u1))]))
          refine own_via (fun _ k => XS.iloadN X11.here hx rfl (hb hby d3_44) rfl k) ?_
          show own_Go p e below s _ _ _ (T11.setTop (mkF m 45 #[.val (.ref b_), .val (.int pn_), .val (.int (3 : Int32)), .val (.int (1 : Int32)), .unset] [(.int (3 : Int32)), (.int pn_), (.int (-u1))]))
          refine own_via (fun _ k => XS.iconst X11.here hx rfl (hb hby d3_45) k) ?_
          show own_Go p e below s _ _ _ (T11.setTop (mkF m 46 #[.val (.ref b_), .val (.int pn_), .val (.int (3 : Int32)), .val (.int (1 : Int32)), .unset] [(.int (1 : Int32)), (.int (3 : Int32)), (.int pn_), (.int (-u1))]))
          refine own_via (fun _ k => XS.isub X11.here hx rfl (hb hby d3_46) rfl k) ?_
          show own_Go p e below s _ _ _ (T11.setTop (mkF m 47 #[.val (.ref b_), .val (.int pn_), .val (.int (3 : Int32)), .val (.int (1 : Int32)), .unset] [(.int (2 : Int32)), (.int pn_), (.int (-u1))]))
          refine own_via (fun _ k => XS.iloadN X11.here hx rfl (hb hby d3_47) rfl k) ?_
          show own_Go p e below s _ _ _ (T11.setTop (mkF m 48 #[.val (.ref b_), .val (.int pn_), .val (.int (3 : Int32)), .val (.int (1 : Int32)), .unset] [(.int (1 : Int32)), (.int (2 : Int32)), (.int pn_), (.int (-u1))]))
          refine own_via (fun _ k => XS.isub X11.here hx rfl (hb hby d3_48) rfl k) ?_
          show own_Go p e below s _ _ _ (T11.setTop (mkF m 49 #[.val (.ref b_), .val (.int pn_), .val (.int (3 : Int32)), .val (.int (1 : Int32)), .unset] [(.int (1 : Int32)), (.int pn_), (.int (-u1))]))
          refine own_via (fun _ k => XS.isub X11.here hx rfl (hb hby d3_49) rfl k) ?_
          show own_Go p e below s _ _ _ (T11.setTop (mkF m 50 #[.val (.ref b_), .val (.int pn_), .val (.int (3 : Int32)), .val (.int (1 : Int32)), .unset] [(.int (pn_ - (1 : Int32))), (.int (-u1))]))
          by_cases hc19 : (-u1) < (pn_ - (1 : Int32))
          · refine own_via (fun _ k => XS.icmpNo X11.here hx rfl (hb hby d3_50) rfl (Jvm.Free.XT.ii_ge_f hc19) k) ?_
            show own_Go p e below s _ _ _ (T11.setTop (mkF m 53 #[.val (.ref b_), .val (.int pn_), .val (.int (3 : Int32)), .val (.int (1 : Int32)), .unset] []))
            refine own_via (fun _ k => XS.aloadN X11.here hx rfl (hb hby d3_53) rfl rfl k) ?_
            show own_Go p e below s _ _ _ (T11.setTop (mkF m 54 #[.val (.ref b_), .val (.int pn_), .val (.int (3 : Int32)), .val (.int (1 : Int32)), .unset] [(.ref b_)]))
            refine own_via (fun _ k => XS.iloadN X11.here hx rfl (hb hby d3_54) rfl k) ?_
            show own_Go p e below s _ _ _ (T11.setTop (mkF m 55 #[.val (.ref b_), .val (.int pn_), .val (.int (3 : Int32)), .val (.int (1 : Int32)), .unset] [(.int (1 : Int32)), (.ref b_)]))
            refine own_via (fun _ k => Jvm.Free.XT.dup2 X11.here hx rfl (hb hby d3_55) rfl rfl rfl k) ?_
            show own_Go p e below s _ _ _ (T11.setTop (mkF m 56 #[.val (.ref b_), .val (.int pn_), .val (.int (3 : Int32)), .val (.int (1 : Int32)), .unset] [(.int (1 : Int32)), (.ref b_), (.int (1 : Int32)), (.ref b_)]))
            obtain ⟨cl20, Ar20, q20, S20, M20, H20, G20⟩ := (id V11)
            have hin20 : ¬ ((1 : Int32) < 0 ∨ cl20.slots.size ≤ ((1 : Int32)).toNatClampNeg) := inb_of S20 ⟨by decide, by decide⟩
            have hat20 : cl20.slots[((1 : Int32)).toNatClampNeg]? = some (.int (-u1)) := Has.at H20 hin20 rfl
            refine own_via (fun _ k => X11.iaload hx (j := (1 : Int32)) (v := (.int (-u1))) (by rw [e11]; exact Ar20.1) (State.isArrayOf_alike hZ.alike Ar20.2.1) Ar20.2.2 hin20 hat20 (g := (mkF m 56 #[.val (.ref b_), .val (.int pn_), .val (.int (3 : Int32)), .val (.int (1 : Int32)), .unset] [(.int (1 : Int32)), (.ref b_), (.int (1 : Int32)), (.ref b_)])) rfl rfl (hb hby d3_56) _ k) ?_
            show own_Go p e below s _ _ _ (T11.setTop (mkF m 57 #[.val (.ref b_), .val (.int pn_), .val (.int (3 : Int32)), .val (.int (1 : Int32)), .unset] [(.int (-u1)), (.int (1 : Int32)), (.ref b_)]))
            refine own_via (fun _ k => XS.iconst X11.here hx rfl (hb hby d3_57) k) ?_
            show own_Go p e below s _ _ _ (T11.setTop (mkF m 58 #[.val (.ref b_), .val (.int pn_), .val (.int (3 : Int32)), .val (.int (1 : Int32)), .unset] [(.int (1 : Int32)), (.int (-u1)), (.int (1 : Int32)), (.ref b_)]))
            refine own_via (fun _ k => XS.iadd X11.here hx rfl (hb hby d3_58) rfl k) ?_
            show own_Go p e below s _ _ _ (T11.setTop (mkF m 59 #[.val (.ref b_), .val (.int pn_), .val (.int (3 : Int32)), .val (.int (1 : Int32)), .unset] [(.int ((-u1) + (1 : Int32))), (.int (1 : Int32)), (.ref b_)]))
            obtain ⟨cl21, Ar21, q21, S21, M21, H21, G21⟩ := (id V11)
            have hin21 : ¬ ((1 : Int32) < 0 ∨ cl21.slots.size ≤ ((1 : Int32)).toNatClampNeg) := inb_of S21 ⟨by decide, by decide⟩
            obtain ⟨T21, h21, X21, e21, W21, st21⟩ := stI X11 hx hZ e11 Ar21 (j := (1 : Int32)) hin21 (g := (mkF m 59 #[.val (.ref b_), .val (.int pn_), .val (.int (3 : Int32)), .val (.int (1 : Int32)), .unset] [(.int ((-u1) + (1 : Int32))), (.int (1 : Int32)), (.ref b_)])) rfl rfl (hb hby d3_59)
            have V21 : Arv Z h21 b_ k_ .int (3 : Int32) [(.int (-u0)), (.int ((-u1) + (1 : Int32))), (.int (-u2))] d_ := Arv.set Ar21 q21 S21 M21 H21 G21 rfl W21 1 rfl (Nat.le_of_ble_eq_true rfl)
            have N21 := Fr.snoc X21 N11 g_b_
            have Z21 : n0 ≤ h21.size := Nat.le_trans Z11 (Keep.of_wr W21).1
            have K21 : Keep h0 h21 [b_] := K11.wr W21 (Or.inl (List.mem_of_getElem? (i := 0) rfl))
            refine own_via st21 ?_
            show own_Go p e below s _ _ _ (T21.setTop (mkF m 60 #[.val (.ref b_), .val (.int pn_), .val (.int (3 : Int32)), .val (.int (1 : Int32)), .unset] []))
            refine own_via (fun _ k => XS.iloadN X21.here hx rfl (hb hby d3_60) rfl k) ?_
            show own_Go p e below s _ _ _ (T21.setTop (mkF m 61 #[.val (.ref b_), .val (.int pn_), .val (.int (3 : Int32)), .val (.int (1 : Int32)), .unset] [(.int (1 : Int32))]))
            refine own_via (fun _ k => XS.iconst X21.here hx rfl (hb hby d3_61) k) ?_
            show own_Go p e below s _ _ _ (T21.setTop (mkF m 62 #[.val (.ref b_), .val (.int pn_), .val (.int (3 : Int32)), .val (.int (1 : Int32)), .unset] [(.int (1 : Int32)), (.int (1 : Int32))]))
            refine own_via (fun _ k => XS.iadd X21.here hx rfl (hb hby d3_62) rfl k) ?_
            show own_Go p e below s _ _ _ (T21.setTop (mkF m 63 #[.val (.ref b_), .val (.int pn_), .val (.int (3 : Int32)), .val (.int (1 : Int32)), .unset] [(.int (2 : Int32))]))
            refine own_via (fun _ k => XS.istore X21.here hx rfl (hb hby d3_63) rfl (l' := #[.val (.ref b_), .val (.int pn_), .val (.int (3 : Int32)), .val (.int (1 : Int32)), .val (.int (2 : Int32))]) rfl k) ?_
            show own_Go p e below s _ _ _ (T21.setTop (mkF m 65 #[.val (.ref b_), .val (.int pn_), .val (.int (3 : Int32)), .val (.int (1 : Int32)), .val (.int (2 : Int32))] []))
            refine own_via (fun _ k => XS.iload X21.here hx rfl (hb hby d3_65) rfl k) ?_
            show own_Go p e below s _ _ _ (T21.setTop (mkF m 67 #[.val (.ref b_), .val (.int pn_), .val (.int (3 : Int32)), .val (.int (1 : Int32)), .val (.int (2 : Int32))] [(.int (2 : Int32))]))
            refine own_via (fun _ k => XS.iloadN X21.here hx rfl (hb hby d3_67) rfl k) ?_
            show own_Go p e below s _ _ _ (T21.setTop (mkF m 68 #[.val (.ref b_), .val (.int pn_), .val (.int (3 : Int32)), .val (.int (1 : Int32)), .val (.int (2 : Int32))] [(.int (3 : Int32)), (.int (2 : Int32))]))
            refine own_via (fun _ k => XS.icmpNo X21.here hx rfl (hb hby d3_68) rfl (Jvm.Free.XT.ii_ge_f (by decide)) k) ?_
            show own_Go p e below s _ _ _ (T21.setTop (mkF m 71 #[.val (.ref b_), .val (.int pn_), .val (.int (3 : Int32)), .val (.int (1 : Int32)), .val (.int (2 : Int32))] []))
            refine own_via (fun _ k => XS.aloadN X21.here hx rfl (hb hby d3_71) rfl rfl k) ?_
            show own_Go p e below s _ _ _ (T21.setTop (mkF m 72 #[.val (.ref b_), .val (.int pn_), .val (.int (3 : Int32)), .val (.int (1 : Int32)), .val (.int (2 : Int32))] [(.ref b_)]))
            refine own_via (fun _ k => XS.iload X21.here hx rfl (hb hby d3_72) rfl k) ?_
            show own_Go p e below s _ _ _ (T21.setTop (mkF m 74 #[.val (.ref b_), .val (.int pn_), .val (.int (3 : Int32)), .val (.int (1 : Int32)), .val (.int (2 : Int32))] [(.int (2 : Int32)), (.ref b_)]))
            refine own_via (fun _ k => XS.aloadN X21.here hx rfl (hb hby d3_74) rfl rfl k) ?_
            show own_Go p e below s _ _ _ (T21.setTop (mkF m 75 #[.val (.ref b_), .val (.int pn_), .val (.int (3 : Int32)), .val (.int (1 : Int32)), .val (.int (2 : Int32))] [(.ref b_), (.int (2 : Int32)), (.ref b_)]))
            refine own_via (fun _ k => XS.iload X21.here hx rfl (hb hby d3_75) rfl k) ?_
            show own_Go p e below s _ _ _ (T21.setTop (mkF m 77 #[.val (.ref b_), .val (.int pn_), .val (.int (3 : Int32)), .val (.int (1 : Int32)), .val (.int (2 : Int32))] [(.int (2 : Int32)), (.ref b_), (.int (2 : Int32)), (.ref b_)]))
            refine own_via (fun _ k => XS.iconst X21.here hx rfl (hb hby d3_77) k) ?_
            show own_Go p e below s _ _ _ (T21.setTop (mkF m 78 #[.val (.ref b_), .val (.int pn_), .val (.int (3 : Int32)), .val (.int (1 : Int32)), .val (.int (2 : Int32))] [(.int (1 : Int32)), (.int (2 : Int32)), (.ref b_), (.int (2 : Int32)), (.ref b_)]))
            refine own_via (fun _ k => XS.isub X21.here hx rfl (hb hby d3_78) rfl k) ?_
            show own_Go p e below s _ _ _ (T21.setTop (mkF m 79 #[.val (.ref b_), .val (.int pn_), .val (.int (3 : Int32)), .val (.int (1 : Int32)), .val (.int (2 : Int32))] [(.int (1 : Int32)), (.ref b_), (.int (2 : Int32)), (.ref b_)]))
            obtain ⟨cl22, Ar22, q22, S22, M22, H22, G22⟩ := (id V21)
            have hin22 : ¬ ((1 : Int32) < 0 ∨ cl22.slots.size ≤ ((1 : Int32)).toNatClampNeg) := inb_of S22 ⟨by decide, by decide⟩
            have hat22 : cl22.slots[((1 : Int32)).toNatClampNeg]? = some (.int ((-u1) + (1 : Int32))) := Has.at H22 hin22 rfl
            refine own_via (fun _ k => X21.iaload hx (j := (1 : Int32)) (v := (.int ((-u1) + (1 : Int32)))) (by rw [e21]; exact Ar22.1) (State.isArrayOf_alike hZ.alike Ar22.2.1) Ar22.2.2 hin22 hat22 (g := (mkF m 79 #[.val (.ref b_), .val (.int pn_), .val (.int (3 : Int32)), .val (.int (1 : Int32)), .val (.int (2 : Int32))] [(.int (1 : Int32)), (.ref b_), (.int (2 : Int32)), (.ref b_)])) rfl rfl (hb hby d3_79) _ k) ?_
            show own_Go p e below s _ _ _ (T21.setTop (mkF m 80 #[.val (.ref b_), .val (.int pn_), .val (.int (3 : Int32)), .val (.int (1 : Int32)), .val (.int (2 : Int32))] [(.int ((-u1) + (1 : Int32))), (.int (2 : Int32)), (.ref b_)]))
            refine own_via (fun _ k => XS.iconst X21.here hx rfl (hb hby d3_80) k) ?_
            show own_Go p e below s _ _ _ (T21.setTop (mkF m 81 #[.val (.ref b_), .val (.int pn_), .val (.int (3 : Int32)), .val (.int (1 : Int32)), .val (.int (2 : Int32))] [(.int (1 : Int32)), (.int ((-u1) + (1 : Int32))), (.int (2 : Int32)), (.ref b_)]))
            refine own_via (fun _ k => XS.iadd X21.here hx rfl (hb hby d3_81) rfl k) ?_
            show own_Go p e below s _ _ _ (T21.setTop (mkF m 82 #[.val (.ref b_), .val (.int pn_), .val (.int (3 : Int32)), .val (.int (1 : Int32)), .val (.int (2 : Int32))] [(.int (((-u1) + (1 : Int32)) + (1 : Int32))), (.int (2 : Int32)), (.ref b_)]))
            obtain ⟨cl23, Ar23, q23, S23, M23, H23, G23⟩ := (id V21)
            have hin23 : ¬ ((2 : Int32) < 0 ∨ cl23.slots.size ≤ ((2 : Int32)).toNatClampNeg) := inb_of S23 ⟨by decide, by decide⟩
            obtain ⟨T23, h23, X23, e23, W23, st23⟩ := stI X21 hx hZ e21 Ar23 (j := (2 : Int32)) hin23 (g := (mkF m 82 #[.val (.ref b_), .val (.int pn_), .val (.int (3 : Int32)), .val (.int (1 : Int32)), .val (.int (2 : Int32))] [(.int (((-u1) + (1 : Int32)) + (1 : Int32))), (.int (2 : Int32)), (.ref b_)])) rfl rfl (hb hby d3_82)
            have V23 : Arv Z h23 b_ k_ .int (3 : Int32) [(.int (-u0)), (.int ((-u1) + (1 : Int32))), (.int (((-u1) + (1 : Int32)) + (1 : Int32)))] d_ := Arv.set Ar23 q23 S23 M23 H23 G23 rfl W23 2 rfl (Nat.le_of_ble_eq_true rfl)
            have N23 := Fr.snoc X23 N21 g_b_
            have Z23 : n0 ≤ h23.size := Nat.le_trans Z21 (Keep.of_wr W23).1
            have K23 : Keep h0 h23 [b_] := K21.wr W23 (Or.inl (List.mem_of_getElem? (i := 0) rfl))
            refine own_via st23 ?_
            show own_Go p e below s _ _ _ (T23.setTop (mkF m 83 #[.val (.ref b_), .val (.int pn_), .val (.int (3 : Int32)), .val (.int (1 : Int32)), .val (.int (2 : Int32))] []))
            refine own_via (fun _ k => XS.iinc X23.here hx rfl (hb hby d3_83) rfl (l' := #[.val (.ref b_), .val (.int pn_), .val (.int (3 : Int32)), .val (.int (1 : Int32)), .val (.int (3 : Int32))]) rfl k) ?_
            show own_Go p e below s _ _ _ (T23.setTop (mkF m 86 #[.val (.ref b_), .val (.int pn_), .val (.int (3 : Int32)), .val (.int (1 : Int32)), .val (.int (3 : Int32))] []))
            refine own_via (fun _ k => XS.goto X23.here hx rfl (pc0 := 86) (pc' := 65) rfl (hb hby d3_86) (by decide) (by decide) k) ?_
            show own_Go p e below s _ _ _ (T23.setTop (mkF m 65 #[.val (.ref b_), .val (.int pn_), .val (.int (3 : Int32)), .val (.int (1 : Int32)), .val (.int (3 : Int32))] []))
            refine own_via (fun _ k => XS.iload X23.here hx rfl (hb hby d3_65) rfl k) ?_
            show own_Go p e below s _ _ _ (T23.setTop (mkF m 67 #[.val (.ref b_), .val (.int pn_), .val (.int (3 : Int32)), .val (.int (1 : Int32)), .val (.int (3 : Int32))] [(.int (3 : Int32))]))
            refine own_via (fun _ k => XS.iloadN X23.here hx rfl (hb hby d3_67) rfl k) ?_
            show own_Go p e below s _ _ _ (T23.setTop (mkF m 68 #[.val (.ref b_), .val (.int pn_), .val (.int (3 : Int32)), .val (.int (1 : Int32)), .val (.int (3 : Int32))] [(.int (3 : Int32)), (.int (3 : Int32))]))
            refine own_via (fun _ k => XS.icmpYes X23.here hx rfl (pc0 := 68) (pc' := 89) rfl (hb hby d3_68) rfl (Jvm.Free.XT.ii_ge_t (by decide)) (by decide) (by decide) k) ?_
            show own_Go p e below s _ _ _ (T23.setTop (mkF m 89 #[.val (.ref b_), .val (.int pn_), .val (.int (3 : Int32)), .val (.int (1 : Int32)), .val (.int (3 : Int32))] []))
            refine own_via (fun _ k => XS.iconst X23.here hx rfl (hb hby d3_89) k) ?_
            show own_Go p e below s _ _ _ (T23.setTop (mkF m 90 #[.val (.ref b_), .val (.int pn_), .val (.int (3 : Int32)), .val (.int (1 : Int32)), .val (.int (3 : Int32))] [(.int (1 : Int32))]))
            exact own_goN X23 hx (t := .boolean) Bd.returns (by simp) (hb hby d3_90) Bd.notSynchronized (by decide) (by decide) (by rw [e23]; exact ⟨by rw [own_nr3, if_neg hc5, if_neg hc9, if_neg hc13, if_neg hc15, if_pos hc19] <;> rfl, N23, K23, (by simp only [own_nx3_0, own_nx3_1, own_nx3_2, if_neg hc5, if_neg hc9, if_neg hc13, if_neg hc15, if_pos hc19]; exact V23)⟩)
          · refine own_via (fun _ k => XS.icmpYes X11.here hx rfl (pc0 := 50) (pc' := 91) rfl (hb hby d3_50) rfl (Jvm.Free.XT.ii_ge_t hc19) (by decide) (by decide) k) ?_
            show own_Go p e below s _ _ _ (T11.setTop (mkF m 91 #[.val (.ref b_), .val (.int pn_), .val (.int (3 : Int32)), .val (.int (1 : Int32)), .unset] []))
            refine own_via (fun _ k => XS.iinc X11.here hx rfl (hb hby d3_91) rfl (l' := #[.val (.ref b_), .val (.int pn_), .val (.int (3 : Int32)), .val (.int (0 : Int32)), .unset]) rfl k) ?_
            show own_Go p e below s _ _ _ (T11.setTop (mkF m 94 #[.val (.ref b_), .val (.int pn_), .val (.int (3 : Int32)), .val (.int (0 : Int32)), .unset] []))
            refine own_via (fun _ k => XS.goto X11.here hx rfl (pc0 := 94) (pc' := 36) rfl (hb hby d3_94) (by decide) (by decide) k) ?_
            show own_Go p e below s _ _ _ (T11.setTop (mkF m 36 #[.val (.ref b_), .val (.int pn_), .val (.int (3 : Int32)), .val (.int (0 : Int32)), .unset] []))
            refine own_via (fun _ k => XS.iloadN X11.here hx rfl (hb hby d3_36) rfl k) ?_
            show own_Go p e below s _ _ _ (T11.setTop (mkF m 37 #[.val (.ref b_), .val (.int pn_), .val (.int (3 : Int32)), .val (.int (0 : Int32)), .unset] [(.int (0 : Int32))]))
            refine own_via (fun _ k => XS.ifNo X11.here hx rfl (hb hby d3_37) rfl (Jvm.Free.XT.i0_lt_f (by decide)) k) ?_
            show own_Go p e below s _ _ _ (T11.setTop (mkF m 40 #[.val (.ref b_), .val (.int pn_), .val (.int (3 : Int32)), .val (.int (0 : Int32)), .unset] []))
            refine own_via (fun _ k => XS.aloadN X11.here hx rfl (hb hby d3_40) rfl rfl k) ?_
            show own_Go p e below s _ _ _ (T11.setTop (mkF m 41 #[.val (.ref b_), .val (.int pn_), .val (.int (3 : Int32)), .val (.int (0 : Int32)), .unset] [(.ref b_)]))
            refine own_via (fun _ k => XS.iloadN X11.here hx rfl (hb hby d3_41) rfl k) ?_
            show own_Go p e below s _ _ _ (T11.setTop (mkF m 42 #[.val (.ref b_), .val (.int pn_), .val (.int (3 : Int32)), .val (.int (0 : Int32)), .unset] [(.int (0 : Int32)), (.ref b_)]))
            obtain ⟨cl24, Ar24, q24, S24, M24, H24, G24⟩ := (id V11)
            have hin24 : ¬ ((0 : Int32) < 0 ∨ cl24.slots.size ≤ ((0 : Int32)).toNatClampNeg) := inb_of S24 ⟨by decide, by decide⟩
            have hat24 : cl24.slots[((0 : Int32)).toNatClampNeg]? = some (.int (-u0)) := Has.at H24 hin24 rfl
            refine own_via (fun _ k => X11.iaload hx (j := (0 : Int32)) (v := (.int (-u0))) (by rw [e11]; exact Ar24.1) (State.isArrayOf_alike hZ.alike Ar24.2.1) Ar24.2.2 hin24 hat24 (g := (mkF m 42 #[.val (.ref b_), .val (.int pn_), .val (.int (3 : Int32)), .val (.int (0 : Int32)), .unset] [(.int (0 : Int32)), (.ref b_)])) rfl rfl (hb hby d3_42) _ k) ?_
            show own_Go p e below s _ _ _ (T11.setTop (mkF m 43 #[.val (.ref b_), .val (.int pn_), .val (.int (3 : Int32)), .val (.int (0 : Int32)), .unset] [(.int (-u0))]))
            refine own_via (fun _ k => XS.iloadN X11.here hx rfl (hb hby d3_43) rfl k) ?_
            show own_Go p e below s _ _ _ (T11.setTop (mkF m 44 #[.val (.ref b_), .val (.int pn_), .val (.int (3 : Int32)), .val (.int (0 : Int32)), .unset] [(.int pn_), (.int (-u0))]))
            refine own_via (fun _ k => XS.iloadN X11.here hx rfl (hb hby d3_44) rfl k) ?_
            show own_Go p e below s _ _ _ (T11.setTop (mkF m 45 #[.val (.ref b_), .val (.int pn_), .val (.int (3 : Int32)), .val (.int (0 : Int32)), .unset] [(.int (3 : Int32)), (.int pn_), (.int (-u0))]))
            refine own_via (fun _ k => XS.iconst X11.here hx rfl (hb hby d3_45) k) ?_
            show own_Go p e below s _ _ _ (T11.setTop (mkF m 46 #[.val (.ref b_), .val (.int pn_), .val (.int (3 : Int32)), .val (.int (0 : Int32)), .unset] [(.int (1 : Int32)), (.int (3 : Int32)), (.int pn_), (.int (-u0))]))
            refine own_via (fun _ k => XS.isub X11.here hx rfl (hb hby d3_46) rfl k) ?_
            show own_Go p e below s _ _ _ (T11.setTop (mkF m 47 #[.val (.ref b_), .val (.int pn_), .val (.int (3 : Int32)), .val (.int (0 : Int32)), .unset] [(.int (2 : Int32)), (.int pn_), (.int (-u0))]))
            refine own_via (fun _ k => XS.iloadN X11.here hx rfl (hb hby d3_47) rfl k) ?_
            show own_Go p e below s _ _ _ (T11.setTop (mkF m 48 #[.val (.ref b_), .val (.int pn_), .val (.int (3 : Int32)), .val (.int (0 : Int32)), .unset] [(.int (0 : Int32)), (.int (2 : Int32)), (.int pn_), (.int (-u0))]))
            refine own_via (fun _ k => XS.isub X11.here hx rfl (hb hby d3_48) rfl k) ?_
            show own_Go p e below s _ _ _ (T11.setTop (mkF m 49 #[.val (.ref b_), .val (.int pn_), .val (.int (3 : Int32)), .val (.int (0 : Int32)), .unset] [(.int (2 : Int32)), (.int pn_), (.int (-u0))]))
            refine own_via (fun _ k => XS.isub X11.here hx rfl (hb hby d3_49) rfl k) ?_
            show own_Go p e below s _ _ _ (T11.setTop (mkF m 50 #[.val (.ref b_), .val (.int pn_), .val (.int (3 : Int32)), .val (.int (0 : Int32)), .unset] [(.int (pn_ - (2 : Int32))), (.int (-u0))]))
            by_cases hc25 : (-u0) < (pn_ - (2 : Int32))
            · refine own_via (fun _ k => XS.icmpNo X11.here hx rfl (hb hby d3_50) rfl (Jvm.Free.XT.ii_ge_f hc25) k) ?_
              show own_Go p e below s _ _ _ (T11.setTop (mkF m 53 #[.val (.ref b_), .val (.int pn_), .val (.int (3 : Int32)), .val (.int (0 : Int32)), .unset] []))
              refine own_via (fun _ k => XS.aloadN X11.here hx rfl (hb hby d3_53) rfl rfl k) ?_
              show own_Go p e below s _ _ _ (T11.setTop (mkF m 54 #[.val (.ref b_), .val (.int pn_), .val (.int (3 : Int32)), .val (.int (0 : Int32)), .unset] [(.ref b_)]))
              refine own_via (fun _ k => XS.iloadN X11.here hx rfl (hb hby d3_54) rfl k) ?_
              show own_Go p e below s _ _ _ (T11.setTop (mkF m 55 #[.val (.ref b_), .val (.int pn_), .val (.int (3 : Int32)), .val (.int (0 : Int32)), .unset] [(.int (0 : Int32)), (.ref b_)]))
              refine own_via (fun _ k => Jvm.Free.XT.dup2 X11.here hx rfl (hb hby d3_55) rfl rfl rfl k) ?_
              show own_Go p e below s _ _ _ (T11.setTop (mkF m 56 #[.val (.ref b_), .val (.int pn_), .val (.int (3 : Int32)), .val (.int (0 : Int32)), .unset] [(.int (0 : Int32)), (.ref b_), (.int (0 : Int32)), (.ref b_)]))
              obtain ⟨cl26, Ar26, q26, S26, M26, H26, G26⟩ := (id V11)
              have hin26 : ¬ ((0 : Int32) < 0 ∨ cl26.slots.size ≤ ((0 : Int32)).toNatClampNeg) := inb_of S26 ⟨by decide, by decide⟩
              have hat26 : cl26.slots[((0 : Int32)).toNatClampNeg]? = some (.int (-u0)) := Has.at H26 hin26 rfl
              refine own_via (fun _ k => X11.iaload hx (j := (0 : Int32)) (v := (.int (-u0))) (by rw [e11]; exact Ar26.1) (State.isArrayOf_alike hZ.alike Ar26.2.1) Ar26.2.2 hin26 hat26 (g := (mkF m 56 #[.val (.ref b_), .val (.int pn_), .val (.int (3 : Int32)), .val (.int (0 : Int32)), .unset] [(.int (0 : Int32)), (.ref b_), (.int (0 : Int32)), (.ref b_)])) rfl rfl (hb hby d3_56) _ k) ?_
              show own_Go p e below s _ _ _ (T11.setTop (mkF m 57 #[.val (.ref b_), .val (.int pn_), .val (.int (3 : Int32)), .val (.int (0 : Int32)), .unset] [(.int (-u0)), (.int (0 : Int32)), (.ref b_)]))
              refine own_via (fun _ k => XS.iconst X11.here hx rfl (hb hby d3_57) k) ?_
              show own_Go p e below s _ _ _ (T11.setTop (mkF m 58 #[.val (.ref b_), .val (.int pn_), .val (.int (3 : Int32)), .val (.int (0 : Int32)), .unset] [(.int (1 : Int32)), (.int (-u0)), (.int (0 : Int32)), (.ref b_)]))
              refine own_via (fun _ k => XS.iadd X11.here hx rfl (hb hby d3_58) rfl k) ?_
              show own_Go p e below s _ _ _ (T11.setTop (mkF m 59 #[.val (.ref b_), .val (.int pn_), .val (.int (3 : Int32)), .val (.int (0 : Int32)), .unset] [(.int ((-u0) + (1 : Int32))), (.int (0 : Int32)), (.ref b_)]))
              obtain ⟨cl27, Ar27, q27, S27, M27, H27, G27⟩ := (id V11)
              have hin27 : ¬ ((0 : Int32) < 0 ∨ cl27.slots.size ≤ ((0 : Int32)).toNatClampNeg) := inb_of S27 ⟨by decide, by decide⟩
              obtain ⟨T27, h27, X27, e27, W27, st27⟩ := stI X11 hx hZ e11 Ar27 (j := (0 : Int32)) hin27 (g := (mkF m 59 #[.val (.ref b_), .val (.int pn_), .val (.int (3 : Int32)), .val (.int (0 : Int32)), .unset] [(.int ((-u0) + (1 : Int32))), (.int (0 : Int32)), (.ref b_)])) rfl rfl (hb hby d3_59)
              have V27 : Arv Z h27 b_ k_ .int (3 : Int32) [(.int ((-u0) + (1 : Int32))), (.int (-u1)), (.int (-u2))] d_ := Arv.set Ar27 q27 S27 M27 H27 G27 rfl W27 0 rfl (Nat.le_of_ble_eq_true rfl)
              have N27 := Fr.snoc X27 N11 g_b_
              have Z27 : n0 ≤ h27.size := Nat.le_trans Z11 (Keep.of_wr W27).1
              have K27 : Keep h0 h27 [b_] := K11.wr W27 (Or.inl (List.mem_of_getElem? (i := 0) rfl))
              refine own_via st27 ?_
              show own_Go p e below s _ _ _ (T27.setTop (mkF m 60 #[.val (.ref b_), .val (.int pn_), .val (.int (3 : Int32)), .val (.int (0 : Int32)), .unset] []))
              refine own_via (fun _ k => XS.iloadN X27.here hx rfl (hb hby d3_60) rfl k) ?_
              show own_Go p e below s _ _ _ (T27.setTop (mkF m 61 #[.val (.ref b_), .val (.int pn_), .val (.int (3 : Int32)), .val (.int (0 : Int32)), .unset] [(.int (0 : Int32))]))
              refine own_via (fun _ k => XS.iconst X27.here hx rfl (hb hby d3_61) k) ?_
              show own_Go p e below s _ _ _ (T27.setTop (mkF m 62 #[.val (.ref b_), .val (.int pn_), .val (.int (3 : Int32)), .val (.int (0 : Int32)), .unset] [(.int (1 : Int32)), (.int (0 : Int32))]))
              refine own_via (fun _ k => XS.iadd X27.here hx rfl (hb hby d3_62) rfl k) ?_
              show own_Go p e below s _ _ _ (T27.setTop (mkF m 63 #[.val (.ref b_), .val (.int pn_), .val (.int (3 : Int32)), .val (.int (0 : Int32)), .unset] [(.int (1 : Int32))]))
              refine own_via (fun _ k => XS.istore X27.here hx rfl (hb hby d3_63) rfl (l' := #[.val (.ref b_), .val (.int pn_), .val (.int (3 : Int32)), .val (.int (0 : Int32)), .val (.int (1 : Int32))]) rfl k) ?_
              show own_Go p e below s _ _ _ (T27.setTop (mkF m 65 #[.val (.ref b_), .val (.int pn_), .val (.int (3 : Int32)), .val (.int (0 : Int32)), .val (.int (1 : Int32))] []))
              refine own_via (fun _ k => XS.iload X27.here hx rfl (hb hby d3_65) rfl k) ?_
              show own_Go p e below s _ _ _ (T27.setTop (mkF m 67 #[.val (.ref b_), .val (.int pn_), .val (.int (3 : Int32)), .val (.int (0 : Int32)), .val (.int (1 : Int32))] [(.int (1 : Int32))]))
              refine own_via (fun _ k => XS.iloadN X27.here hx rfl (hb hby d3_67) rfl k) ?_
              show own_Go p e below s _ _ _ (T27.setTop (mkF m 68 #[.val (.ref b_), .val (.int pn_), .val (.int (3 : Int32)), .val (.int (0 : Int32)), .val (.int (1 : Int32))] [(.int (3 : Int32)), (.int (1 : Int32))]))
              refine own_via (fun _ k => XS.icmpNo X27.here hx rfl (hb hby d3_68) rfl (Jvm.Free.XT.ii_ge_f (by decide)) k) ?_
              show own_Go p e below s _ _ _ (T27.setTop (mkF m 71 #[.val (.ref b_), .val (.int pn_), .val (.int (3 : Int32)), .val (.int (0 : Int32)), .val (.int (1 : Int32))] []))
              refine own_via (fun _ k => XS.aloadN X27.here hx rfl (hb hby d3_71) rfl rfl k) ?_
              show own_Go p e below s _ _ _ (T27.setTop (mkF m 72 #[.val (.ref b_), .val (.int pn_), .val (.int (3 : Int32)), .val (.int (0 : Int32)), .val (.int (1 : Int32))] [(.ref b_)]))
              refine own_via (fun _ k => XS.iload X27.here hx rfl (hb hby d3_72) rfl k) ?_
              show own_Go p e below s _ _ _ (T27.setTop (mkF m 74 #[.val (.ref b_), .val (.int pn_), .val (.int (3 : Int32)), .val (.int (0 : Int32)), .val (.int (1 : Int32))] [(.int (1 : Int32)), (.ref b_)]))
              refine own_via (fun _ k => XS.aloadN X27.here hx rfl (hb hby d3_74) rfl rfl k) ?_
              show own_Go p e below s _ _ _ (T27.setTop (mkF m 75 #[.val (.ref b_), .val (.int pn_), .val (.int (3 : Int32)), .val (.int (0 : Int32)), .val (.int (1 : Int32))] [(.ref b_), (.int (1 : Int32)), (.ref b_)]))
              refine own_via (fun _ k => XS.iload X27.here hx rfl (hb hby d3_75) rfl k) ?_
              show own_Go p e below s _ _ _ (T27.setTop (mkF m 77 #[.val (.ref b_), .val (.int pn_), .val (.int (3 : Int32)), .val (.int (0 : Int32)), .val (.int (1 : Int32))] [(.int (1 : Int32)), (.ref b_), (.int (1 : Int32)), (.ref b_)]))
              refine own_via (fun _ k => XS.iconst X27.here hx rfl (hb hby d3_77) k) ?_
              show own_Go p e below s _ _ _ (T27.setTop (mkF m 78 #[.val (.ref b_), .val (.int pn_), .val (.int (3 : Int32)), .val (.int (0 : Int32)), .val (.int (1 : Int32))] [(.int (1 : Int32)), (.int (1 : Int32)), (.ref b_), (.int (1 : Int32)), (.ref b_)]))
              refine own_via (fun _ k => XS.isub X27.here hx rfl (hb hby d3_78) rfl k) ?_
              show own_Go p e below s _ _ _ (T27.setTop (mkF m 79 #[.val (.ref b_), .val (.int pn_), .val (.int (3 : Int32)), .val (.int (0 : Int32)), .val (.int (1 : Int32))] [(.int (0 : Int32)), (.ref b_), (.int (1 : Int32)), (.ref b_)]))
              obtain ⟨cl28, Ar28, q28, S28, M28, H28, G28⟩ := (id V27)
              have hin28 : ¬ ((0 : Int32) < 0 ∨ cl28.slots.size ≤ ((0 : Int32)).toNatClampNeg) := inb_of S28 ⟨by decide, by decide⟩
              have hat28 : cl28.slots[((0 : Int32)).toNatClampNeg]? = some (.int ((-u0) + (1 : Int32))) := Has.at H28 hin28 rfl
              refine own_via (fun _ k => X27.iaload hx (j := (0 : Int32)) (v := (.int ((-u0) + (1 : Int32)))) (by rw [e27]; exact Ar28.1) (State.isArrayOf_alike hZ.alike Ar28.2.1) Ar28.2.2 hin28 hat28 (g := (mkF m 79 #[.val (.ref b_), .val (.int pn_), .val (.int (3 : Int32)), .val (.int (0 : Int32)), .val (.int (1 : Int32))] [(.int (0 : Int32)), (.ref b_), (.int (1 : Int32)), (.ref b_)])) rfl rfl (hb hby d3_79) _ k) ?_
              show own_Go p e below s _ _ _ (T27.setTop (mkF m 80 #[.val (.ref b_), .val (.int pn_), .val (.int (3 : Int32)), .val (.int (0 : Int32)), .val (.int (1 : Int32))] [(.int ((-u0) + (1 : Int32))), (.int (1 : Int32)), (.ref b_)]))
              refine own_via (fun _ k => XS.iconst X27.here hx rfl (hb hby d3_80) k) ?_
              show own_Go p e below s _ _ _ (T27.setTop (mkF m 81 #[.val (.ref b_), .val (.int pn_), .val (.int (3 : Int32)), .val (.int (0 : Int32)), .val (.int (1 : Int32))] [(.int (1 : Int32)), (.int ((-u0) + (1 : Int32))), (.int (1 : Int32)), (.ref b_)]))
              refine own_via (fun _ k => XS.iadd X27.here hx rfl (hb hby d3_81) rfl k) ?_
              show own_Go p e below s _ _ _ (T27.setTop (mkF m 82 #[.val (.ref b_), .val (.int pn_), .val (.int (3 : Int32)), .val (.int (0 : Int32)), .val (.int (1 : Int32))] [(.int (((-u0) + (1 : Int32)) + (1 : Int32))), (.int (1 : Int32)), (.ref b_)]))
              obtain ⟨cl29, Ar29, q29, S29, M29, H29, G29⟩ := (id V27)
              have hin29 : ¬ ((1 : Int32) < 0 ∨ cl29.slots.size ≤ ((1 : Int32)).toNatClampNeg) := inb_of S29 ⟨by decide, by decide⟩
              obtain ⟨T29, h29, X29, e29, W29, st29⟩ := stI X27 hx hZ e27 Ar29 (j := (1 : Int32)) hin29 (g := (mkF m 82 #[.val (.ref b_), .val (.int pn_), .val (.int (3 : Int32)), .val (.int (0 : Int32)), .val (.int (1 : Int32))] [(.int (((-u0) + (1 : Int32)) + (1 : Int32))), (.int (1 : Int32)), (.ref b_)])) rfl rfl (hb hby d3_82)
              have V29 : Arv Z h29 b_ k_ .int (3 : Int32) [(.int ((-u0) + (1 : Int32))), (.int (((-u0) + (1 : Int32)) + (1 : Int32))), (.int (-u2))] d_ := Arv.set Ar29 q29 S29 M29 H29 G29 rfl W29 1 rfl (Nat.le_of_ble_eq_true rfl)
              have N29 := Fr.snoc X29 N27 g_b_
              have Z29 : n0 ≤ h29.size := Nat.le_trans Z27 (Keep.of_wr W29).1
              have K29 : Keep h0 h29 [b_] := K27.wr W29 (Or.inl (List.mem_of_getElem? (i := 0) rfl))
              refine own_via st29 ?_
              show own_Go p e below s _ _ _ (T29.setTop (mkF m 83 #[.val (.ref b_), .val (.int pn_), .val (.int (3 : Int32)), .val (.int (0 : Int32)), .val (.int (1 : Int32))] []))
              refine own_via (fun _ k => XS.iinc X29.here hx rfl (hb hby d3_83) rfl (l' := #[.val (.ref b_), .val (.int pn_), .val (.int (3 : Int32)), .val (.int (0 : Int32)), .val (.int (2 : Int32))]) rfl k) ?_
              show own_Go p e below s _ _ _ (T29.setTop (mkF m 86 #[.val (.ref b_), .val (.int pn_), .val (.int (3 : Int32)), .val (.int (0 : Int32)), .val (.int (2 : Int32))] []))
              refine own_via (fun _ k => XS.goto X29.here hx rfl (pc0 := 86) (pc' := 65) rfl (hb hby d3_86) (by decide) (by decide) k) ?_
              show own_Go p e below s _ _ _ (T29.setTop (mkF m 65 #[.val (.ref b_), .val (.int pn_), .val (.int (3 : Int32)), .val (.int (0 : Int32)), .val (.int (2 : Int32))] []))
              refine own_via (fun _ k => XS.iload X29.here hx rfl (hb hby d3_65) rfl k) ?_
              show own_Go p e below s _ _ _ (T29.setTop (mkF m 67 #[.val (.ref b_), .val (.int pn_), .val (.int (3 : Int32)), .val (.int (0 : Int32)), .val (.int (2 : Int32))] [(.int (2 : Int32))]))
              refine own_via (fun _ k => XS.iloadN X29.here hx rfl (hb hby d3_67) rfl k) ?_
              show own_Go p e below s _ _ _ (T29.setTop (mkF m 68 #[.val (.ref b_), .val (.int pn_), .val (.int (3 : Int32)), .val (.int (0 : Int32)), .val (.int (2 : Int32))] [(.int (3 : Int32)), (.int (2 : Int32))]))
              refine own_via (fun _ k => XS.icmpNo X29.here hx rfl (hb hby d3_68) rfl (Jvm.Free.XT.ii_ge_f (by decide)) k) ?_
              show own_Go p e below s _ _ _ (T29.setTop (mkF m 71 #[.val (.ref b_), .val (.int pn_), .val (.int (3 : Int32)), .val (.int (0 : Int32)), .val (.int (2 : Int32))] []))
              refine own_via (fun _ k => XS.aloadN X29.here hx rfl (hb hby d3_71) rfl rfl k) ?_
              show own_Go p e below s _ _ _ (T29.setTop (mkF m 72 #[.val (.ref b_), .val (.int pn_), .val (.int (3 : Int32)), .val (.int (0 : Int32)), .val (.int (2 : Int32))] [(.ref b_)]))
              refine own_via (fun _ k => XS.iload X29.here hx rfl (hb hby d3_72) rfl k) ?_
              show own_Go p e below s _ _ _ (T29.setTop (mkF m 74 #[.val (.ref b_), .val (.int pn_), .val (.int (3 : Int32)), .val (.int (0 : Int32)), .val (.int (2 : Int32))] [(.int (2 : Int32)), (.ref b_)]))
              refine own_via (fun _ k => XS.aloadN X29.here hx rfl (hb hby d3_74) rfl rfl k) ?_
              show own_Go p e below s _ _ _ (T29.setTop (mkF m 75 #[.val (.ref b_), .val (.int pn_), .val (.int (3 : Int32)), .val (.int (0 : Int32)), .val (.int (2 : Int32))] [(.ref b_), (.int (2 : Int32)), (.ref b_)]))
              refine own_via (fun _ k => XS.iload X29.here hx rfl (hb hby d3_75) rfl k) ?_
              show own_Go p e below s _ _ _ (T29.setTop (mkF m 77 #[.val (.ref b_), .val (.int pn_), .val (.int (3 : Int32)), .val (.int (0 : Int32)), .val (.int (2 : Int32))] [(.int (2 : Int32)), (.ref b_), (.int (2 : Int32)), (.ref b_)]))
              refine own_via (fun _ k => XS.iconst X29.here hx rfl (hb hby d3_77) k) ?_
              show own_Go p e below s _ _ _ (T29.setTop (mkF m 78 #[.val (.ref b_), .val (.int pn_), .val (.int (3 : Int32)), .val (.int (0 : Int32)), .val (.int (2 : Int32))] [(.int (1 : Int32)), (.int (2 : Int32)), (.ref b_), (.int (2 : Int32)), (.ref b_)]))
              refine own_via (fun _ k => XS.isub X29.here hx rfl (hb hby d3_78) rfl k) ?_
              show own_Go p e below s _ _ _ (T29.setTop (mkF m 79 #[.val (.ref b_), .val (.int pn_), .val (.int (3 : Int32)), .val (.int (0 : Int32)), .val (.int (2 : Int32))] [(.int (1 : Int32)), (.ref b_), (.int (2 : Int32)), (.ref b_)]))
              obtain ⟨cl30, Ar30, q30, S30, M30, H30, G30⟩ := (id V29)
              have hin30 : ¬ ((1 : Int32) < 0 ∨ cl30.slots.size ≤ ((1 : Int32)).toNatClampNeg) := inb_of S30 ⟨by decide, by decide⟩
              have hat30 : cl30.slots[((1 : Int32)).toNatClampNeg]? = some (.int (((-u0) + (1 : Int32)) + (1 : Int32))) := Has.at H30 hin30 rfl
              refine own_via (fun _ k => X29.iaload hx (j := (1 : Int32)) (v := (.int (((-u0) + (1 : Int32)) + (1 : Int32)))) (by rw [e29]; exact Ar30.1) (State.isArrayOf_alike hZ.alike Ar30.2.1) Ar30.2.2 hin30 hat30 (g := (mkF m 79 #[.val (.ref b_), .val (.int pn_), .val (.int (3 : Int32)), .val (.int (0 : Int32)), .val (.int (2 : Int32))] [(.int (1 : Int32)), (.ref b_), (.int (2 : Int32)), (.ref b_)])) rfl rfl (hb hby d3_79) _ k) ?_
              show own_Go p e below s _ _ _ (T29.setTop (mkF m 80 #[.val (.ref b_), .val (.int pn_), .val (.int (3 : Int32)), .val (.int (0 : Int32)), .val (.int (2 : Int32))] [(.int (((-u0) + (1 : Int32)) + (1 : Int32))), (.int (2 : Int32)), (.ref b_)]))
              refine own_via (fun _ k => XS.iconst X29.here hx rfl (hb hby d3_80) k) ?_
              show own_Go p e below s _ _ _ (T29.setTop (mkF m 81 #[.val (.ref b_), .val (.int pn_), .val (.int (3 : Int32)), .val (.int (0 : Int32)), .val (.int (2 : Int32))] [(.int (1 : Int32)), (.int (((-u0) + (1 : Int32)) + (1 : Int32))), (.int (2 : Int32)), (.ref b_)]))
              refine own_via (fun _ k => XS.iadd X29.here hx rfl (hb hby d3_81) rfl k) ?_
              show own_Go p e below s _ _ _ (T29.setTop (mkF m 82 #[.val (.ref b_), .val (.int pn_), .val (.int (3 : Int32)), .val (.int (0 : Int32)), .val (.int (2 : Int32))] [(.int ((((-u0) + (1 : Int32)) + (1 : Int32)) + (1 : Int32))), (.int (2 : Int32)), (.ref b_)]))
              obtain ⟨cl31, Ar31, q31, S31, M31, H31, G31⟩ := (id V29)
              have hin31 : ¬ ((2 : Int32) < 0 ∨ cl31.slots.size ≤ ((2 : Int32)).toNatClampNeg) := inb_of S31 ⟨by decide, by decide⟩
              obtain ⟨T31, h31, X31, e31, W31, st31⟩ := stI X29 hx hZ e29 Ar31 (j := (2 : Int32)) hin31 (g := (mkF m 82 #[.val (.ref b_), .val (.int pn_), .val (.int (3 : Int32)), .val (.int (0 : Int32)), .val (.int (2 : Int32))] [(.int ((((-u0) + (1 : Int32)) + (1 : Int32)) + (1 : Int32))), (.int (2 : Int32)), (.ref b_)])) rfl rfl (hb hby d3_82)
              have V31 : Arv Z h31 b_ k_ .int (3 : Int32) [(.int ((-u0) + (1 : Int32))), (.int (((-u0) + (1 : Int32)) + (1 : Int32))), (.int ((((-u0) + (1 : Int32)) + (1 : Int32)) + (1 : Int32)))] d_ := Arv.set Ar31 q31 S31 M31 H31 G31 rfl W31 2 rfl (Nat.le_of_ble_eq_true rfl)
              have N31 := Fr.snoc X31 N29 g_b_
              have Z31 : n0 ≤ h31.size := Nat.le_trans Z29 (Keep.of_wr W31).1
              have K31 : Keep h0 h31 [b_] := K29.wr W31 (Or.inl (List.mem_of_getElem? (i := 0) rfl))
              refine own_via st31 ?_
              show own_Go p e below s _ _ _ (T31.setTop (mkF m 83 #[.val (.ref b_), .val (.int pn_), .val (.int (3 : Int32)), .val (.int (0 : Int32)), .val (.int (2 : Int32))] []))
              refine own_via (fun _ k => XS.iinc X31.here hx rfl (hb hby d3_83) rfl (l' := #[.val (.ref b_), .val (.int pn_), .val (.int (3 : Int32)), .val (.int (0 : Int32)), .val (.int (3 : Int32))]) rfl k) ?_
              show own_Go p e below s _ _ _ (T31.setTop (mkF m 86 #[.val (.ref b_), .val (.int pn_), .val (.int (3 : Int32)), .val (.int (0 : Int32)), .val (.int (3 : Int32))] []))
              refine own_via (fun _ k => XS.goto X31.here hx rfl (pc0 := 86) (pc' := 65) rfl (hb hby d3_86) (by decide) (by decide) k) ?_
              show own_Go p e below s _ _ _ (T31.setTop (mkF m 65 #[.val (.ref b_), .val (.int pn_), .val (.int (3 : Int32)), .val (.int (0 : Int32)), .val (.int (3 : Int32))] []))
              refine own_via (fun _ k => XS.iload X31.here hx rfl (hb hby d3_65) rfl k) ?_
              show own_Go p e below s _ _ _ (T31.setTop (mkF m 67 #[.val (.ref b_), .val (.int pn_), .val (.int (3 : Int32)), .val (.int (0 : Int32)), .val (.int (3 : Int32))] [(.int (3 : Int32))]))
              refine own_via (fun _ k => XS.iloadN X31.here hx rfl (hb hby d3_67) rfl k) ?_
              show own_Go p e below s _ _ _ (T31.setTop (mkF m 68 #[.val (.ref b_), .val (.int pn_), .val (.int (3 : Int32)), .val (.int (0 : Int32)), .val (.int (3 : Int32))] [(.int (3 : Int32)), (.int (3 : Int32))]))
              refine own_via (fun _ k => XS.icmpYes X31.here hx rfl (pc0 := 68) (pc' := 89) rfl (hb hby d3_68) rfl (Jvm.Free.XT.ii_ge_t (by decide)) (by decide) (by decide) k) ?_
              show own_Go p e below s _ _ _ (T31.setTop (mkF m 89 #[.val (.ref b_), .val (.int pn_), .val (.int (3 : Int32)), .val (.int (0 : Int32)), .val (.int (3 : Int32))] []))
              refine own_via (fun _ k => XS.iconst X31.here hx rfl (hb hby d3_89) k) ?_
              show own_Go p e below s _ _ _ (T31.setTop (mkF m 90 #[.val (.ref b_), .val (.int pn_), .val (.int (3 : Int32)), .val (.int (0 : Int32)), .val (.int (3 : Int32))] [(.int (1 : Int32))]))
              exact own_goN X31 hx (t := .boolean) Bd.returns (by simp) (hb hby d3_90) Bd.notSynchronized (by decide) (by decide) (by rw [e31]; exact ⟨by rw [own_nr3, if_neg hc5, if_neg hc9, if_neg hc13, if_neg hc15, if_neg hc19, if_pos hc25] <;> rfl, N31, K31, (by simp only [own_nx3_0, own_nx3_1, own_nx3_2, if_neg hc5, if_neg hc9, if_neg hc13, if_neg hc15, if_neg hc19, if_pos hc25]; exact V31)⟩)
            · refine own_via (fun _ k => XS.icmpYes X11.here hx rfl (pc0 := 50) (pc' := 91) rfl (hb hby d3_50) rfl (Jvm.Free.XT.ii_ge_t hc25) (by decide) (by decide) k) ?_
              show own_Go p e below s _ _ _ (T11.setTop (mkF m 91 #[.val (.ref b_), .val (.int pn_), .val (.int (3 : Int32)), .val (.int (0 : Int32)), .unset] []))
              refine own_via (fun _ k => XS.iinc X11.here hx rfl (hb hby d3_91) rfl (l' := #[.val (.ref b_), .val (.int pn_), .val (.int (3 : Int32)), .val (.int (-1 : Int32)), .unset]) rfl k) ?_
              show own_Go p e below s _ _ _ (T11.setTop (mkF m 94 #[.val (.ref b_), .val (.int pn_), .val (.int (3 : Int32)), .val (.int (-1 : Int32)), .unset] []))
              refine own_via (fun _ k => XS.goto X11.here hx rfl (pc0 := 94) (pc' := 36) rfl (hb hby d3_94) (by decide) (by decide) k) ?_
              show own_Go p e below s _ _ _ (T11.setTop (mkF m 36 #[.val (.ref b_), .val (.int pn_), .val (.int (3 : Int32)), .val (.int (-1 : Int32)), .unset] []))
              refine own_via (fun _ k => XS.iloadN X11.here hx rfl (hb hby d3_36) rfl k) ?_
              show own_Go p e below s _ _ _ (T11.setTop (mkF m 37 #[.val (.ref b_), .val (.int pn_), .val (.int (3 : Int32)), .val (.int (-1 : Int32)), .unset] [(.int (-1 : Int32))]))
              refine own_via (fun _ k => XS.ifYes X11.here hx rfl (pc0 := 37) (pc' := 97) rfl (hb hby d3_37) rfl (Jvm.Free.XT.i0_lt_t (by decide)) (by decide) (by decide) k) ?_
              show own_Go p e below s _ _ _ (T11.setTop (mkF m 97 #[.val (.ref b_), .val (.int pn_), .val (.int (3 : Int32)), .val (.int (-1 : Int32)), .unset] []))
              refine own_via (fun _ k => XS.iconst X11.here hx rfl (hb hby d3_97) k) ?_
              show own_Go p e below s _ _ _ (T11.setTop (mkF m 98 #[.val (.ref b_), .val (.int pn_), .val (.int (3 : Int32)), .val (.int (-1 : Int32)), .unset] [(.int (0 : Int32))]))
              exact own_goN X11 hx (t := .boolean) Bd.returns (by simp) (hb hby d3_98) Bd.notSynchronized (by decide) (by decide) (by rw [e11]; exact ⟨by rw [own_nr3, if_neg hc5, if_neg hc9, if_neg hc13, if_neg hc15, if_neg hc19, if_neg hc25] <;> rfl, N11, K11, (by simp only [own_nx3_0, own_nx3_1, own_nx3_2, if_neg hc5, if_neg hc9, if_neg hc13, if_neg hc15, if_neg hc19, if_neg hc25]; exact V11)⟩)

theorem own_and3 (x : Int32) {v : Int32} (h : (x &&& (3 : Int32)) = v) : v = (0 : Int32) ∨ v = (1 : Int32) ∨ v = (2 : Int32) ∨ v = (3 : Int32) := by
  obtain ⟨h0, h1⟩ := c_and x 3 (by decide)
  rw [h] at h0 h1
  simp only [Int32.reduceToInt] at h1
  simp only [← Int32.toInt_inj, Int32.reduceToInt]
  omega


section OwnRank
def own_c2 : Nat → Nat
  | 0 => 0
  | m + 1 => own_c2 m + m
def own_c3 : Nat → Nat
  | 0 => 0
  | m + 1 => own_c3 m + own_c2 m
theorem own_c2_s (m : Nat) : own_c2 (m + 1) = own_c2 m + m := rfl
theorem own_c3_s (m : Nat) : own_c3 (m + 1) = own_c3 m + own_c2 m := rfl
theorem own_c2_mul (m : Nat) : (m : Int) * ((m : Int) - 1) = 2 * (own_c2 m : Int) := by
  induction m with
  | zero => rfl
  | succ k ih =>
    rw [own_c2_s]
    have e1 : ((k + 1 : Nat) : Int) = (k : Int) + 1 := rfl
    rw [e1, Int.add_sub_cancel, Int.add_mul, Int.one_mul]
    rw [Int.mul_sub, Int.mul_one] at ih
    have e2 : ((own_c2 k + k : Nat) : Int) = (own_c2 k : Int) + k := rfl
    rw [e2]
    generalize (k : Int) * (k : Int) = z at *
    omega
theorem own_c3_mul (m : Nat) : (m : Int) * ((m : Int) - 1) * ((m : Int) - 2) = 6 * (own_c3 m : Int) := by
  induction m with
  | zero => rfl
  | succ k ih =>
    rw [own_c3_s]
    have e1 : ((k + 1 : Nat) : Int) = (k : Int) + 1 := rfl
    have e2 : ((own_c3 k + own_c2 k : Nat) : Int) = (own_c3 k : Int) + own_c2 k := rfl
    have h2 := own_c2_mul k
    have e3 : (k : Int) + 1 - 2 = (k : Int) - 1 := by omega
    rw [e1, e2, Int.add_sub_cancel, e3, Int.mul_assoc, h2, Int.mul_comm]
    rw [h2] at ih
    rw [Int.mul_sub] at ih
    rw [Int.mul_add, Int.mul_one]
    generalize 2 * (own_c2 k : Int) * (k : Int) = z at *
    omega
theorem own_c2_b (m : Nat) : 2 * own_c2 m ≤ m * m := by
  induction m with
  | zero => exact Nat.le_refl _
  | succ k ih =>
    have e : (k + 1) * (k + 1) = k * k + 2 * k + 1 := by rw [Nat.add_mul, Nat.mul_add k, Nat.mul_one, Nat.one_mul]; omega
    rw [own_c2_s, e]
    generalize k * k = z at *
    omega
theorem own_c3_b (m : Nat) : 2 * own_c3 m ≤ m * m * m := by
  induction m with
  | zero => exact Nat.le_refl _
  | succ k ih =>
    have h := own_c2_b k
    have q : k * k * (k + 1) ≤ (k + 1) * (k + 1) * (k + 1) := Nat.mul_le_mul_right _ (Nat.mul_le_mul (by omega) (by omega))
    rw [Nat.mul_add, Nat.mul_one] at q
    rw [own_c3_s]
    generalize (k + 1) * (k + 1) * (k + 1) = y at *
    generalize k * k * k = x at *
    generalize k * k = z at *
    omega
theorem own_c2_le (m : Nat) (h : m ≤ 1048600) : own_c2 m ≤ 600000000000 := by
  have a := own_c2_b m
  have b : m * m ≤ 1048600 * 1048600 := Nat.mul_le_mul h h
  generalize m * m = z at *
  omega
theorem own_c3_le (m : Nat) (h : m ≤ 1048600) : own_c3 m ≤ 600000000000000000 := by
  have a := own_c3_b m
  have b : m * m * m ≤ 1048600 * 1048600 * 1048600 := Nat.mul_le_mul (Nat.mul_le_mul h h) h
  generalize m * m * m = z at *
  omega
theorem own_ladd {x y : Int64} {a b : Int} (hx : x.toInt = a) (hy : y.toInt = b) (h : -9223372036854775808 ≤ a + b ∧ a + b < 9223372036854775808) : (x + y).toInt = a + b := by
  have := c_ladd x y; have := rng64 (x + y); omega
theorem own_lsub {x y : Int64} {a b : Int} (hx : x.toInt = a) (hy : y.toInt = b) (h : -9223372036854775808 ≤ a - b ∧ a - b < 9223372036854775808) : (x - y).toInt = a - b := by
  have := c_lsub x y; have := rng64 (x - y); omega
theorem own_lsh {x : Int64} {q : Int32} {a : Int} (k : Nat) (hk : q.toBitVec.toNat % 64 = k) (hx : x.toInt = a) (h : -9223372036854775808 ≤ a * (2 ^ k : Nat) ∧ a * (2 ^ k : Nat) < 9223372036854775808) : (o_lshl x q).toInt = a * (2 ^ k : Nat) := by
  have h1 : ((o_lshl x q).toInt - x.toInt * (2 ^ k : Nat)) % 18446744073709551616 = 0 := c_lshl x q k hk
  have h2 := rng64 (o_lshl x q)
  rw [hx] at h1
  generalize a * (2 ^ k : Nat) = z at *
  omega
theorem own_ch_int {x : Int64} {m : Nat} (hx : x.toInt = m) (hm : m ≤ 1048600) : (own_ch x 2).toInt = own_c2 m ∧ (own_ch x 3).toInt = own_c3 m := by
  have a1 : (x - 1).toInt = (m : Int) - 1 := own_lsub hx rfl (by omega)
  have a2 : (x - 2).toInt = (m : Int) - 2 := own_lsub hx rfl (by omega)
  have b2 := own_c2_le m hm
  have b3 := own_c3_le m hm
  have m1 : (x * (x - 1)).toInt = 2 * (own_c2 m : Int) := by
    have p1 := c_lmul x (x - 1); have q1 := rng64 (x * (x - 1))
    rw [hx, a1, own_c2_mul] at p1; omega
  have m2 : (x * (x - 1) * (x - 2)).toInt = 6 * (own_c3 m : Int) := by
    have p2 := c_lmul (x * (x - 1)) (x - 2); have q2 := rng64 (x * (x - 1) * (x - 2))
    rw [m1, a2, ← own_c2_mul, own_c3_mul] at p2; omega
  constructor
  · have e : own_ch x 2 = (x * (x - 1)) / 2 := rfl
    rw [e, (c_ldiv _ 2 2 rfl (by decide)).1 (by omega), m1]; omega
  · have e : own_ch x 3 = (x * (x - 1) * (x - 2)) / 6 := rfl
    rw [e, (c_ldiv _ 6 6 rfl (by decide)).1 (by omega), m2]; omega
def own_S (u : Int32) (f b : Nat) : Prop := 1 ≤ f ∧ f ≤ 1048600 ∧ ((b = 0 ∧ u.toInt = (f : Int)) ∨ (b = 1 ∧ u.toInt = -(f : Int)))
theorem own_S_neg {u : Int32} {f b : Nat} (h : own_S u f b) : (u < (0 : Int32)) ↔ b = 1 := by
  obtain ⟨h1, h2, h3⟩ := h
  rw [Int32.lt_iff_toInt_lt, show (0 : Int32).toInt = 0 from rfl]; omega
theorem own_S_ft {u : Int32} {f b : Nat} (h : own_S u f b) : (own_ft u).toInt = (f : Int) := by
  have hn := own_S_neg h
  obtain ⟨h1, h2, h3⟩ := h
  unfold own_ft
  by_cases q : u < (0 : Int32)
  · rw [if_pos q]
    have := c_lneg (o_i2l u); have := rng64 (-(o_i2l u)); have := own_i2l u
    have := hn.mp q
    omega
  · rw [if_neg q, own_i2l]
    have : b ≠ 1 := fun x => q (hn.mpr x)
    omega
theorem own_S_flip {u : Int32} {f b : Nat} (h : own_S u f b) : own_S (-u) f (1 - b) := by
  obtain ⟨h1, h2, h3⟩ := h
  refine ⟨h1, h2, ?_⟩
  have := c_ineg u; have := rng32 (-u); omega
theorem own_S_succ {u : Int32} {f : Nat} (h : own_S u f 0) (q : f + 1 ≤ 1048600) : own_S (u + (1 : Int32)) (f + 1) 0 := by
  obtain ⟨h1, h2, h3⟩ := h
  refine ⟨by omega, q, Or.inl ⟨rfl, ?_⟩⟩
  have := c_iadd u 1; have := rng32 (u + 1); have : (1 : Int32).toInt = 1 := rfl; omega
theorem own_S_lt {u n k : Int32} {f N K : Nat} (h : own_S u f 0) (hn : n.toInt = (N : Int)) (hN : N ≤ 1048600) (hk : k.toInt = (K : Int)) (hK : K ≤ 3) : (u < (n - k)) ↔ f + K < N := by
  obtain ⟨h1, h2, h3⟩ := h
  rw [Int32.lt_iff_toInt_lt]
  have := c_isub n k; have := rng32 (n - k); omega
theorem own_S_ir {u n : Int32} {f b N : Nat} (h : own_S u f b) (hn : n.toInt = (N : Int)) (hf : f ≤ N) : own_ir u n = 1 := by
  have e := own_S_ft h
  unfold own_ir
  rw [if_neg, if_neg]
  · rw [Int64.lt_iff_toInt_lt, own_i2l]; omega
  · rw [Int64.lt_iff_toInt_lt, show (1 : Int64).toInt = 1 from rfl]; have := h.1; omega
theorem own_S_mk {f : Int32} {F : Nat} (hf : f.toInt = (F : Int)) (h1 : 1 ≤ F) (h2 : F ≤ 1048600) (c : Prop) [Decidable c] : own_S (if c then f else (-f)) F (if c then 0 else 1) := by
  by_cases q : c
  · rw [if_pos q, if_pos q]; exact ⟨h1, h2, Or.inl ⟨rfl, hf⟩⟩
  · rw [if_neg q, if_neg q]
    refine ⟨h1, h2, Or.inr ⟨rfl, ?_⟩⟩
    have := c_ineg f; have := rng32 (-f); omega
theorem own_S_pos {u : Int32} {f : Nat} (h : own_S u f 0) : u.toInt = (f : Int) := by
  obtain ⟨h1, h2, h3⟩ := h; omega
theorem own_R1 {u0 n : Int32} {f0 N b0 : Nat} (S0 : own_S u0 f0 b0) (hn : n.toInt = (N : Int)) (hN : N ≤ 1048600)  (lN : f0 ≤ N) : (own_rk1 u0 n).toInt = 2 * (((N : Nat) : Int) - 1 - (((N - f0 : Nat) : Int))) + (1 * (b0 : Int)) := by
  have n0 : (o_i2l n).toInt = ((N : Nat) : Int) := by rw [own_i2l, hn]
  have F0 := own_S_ft S0
  have d0 : (o_i2l n - own_ft u0).toInt = ((N - f0 : Nat) : Int) := by rw [own_lsub n0 F0 (by omega)]; omega
  have c0 : (own_ch (o_i2l n - own_ft u0) 1).toInt = ((N - f0 : Nat) : Int) := d0
  have cn : (own_ch (o_i2l n) 1).toInt = ((N : Nat) : Int) := n0
  have B0 : b0 = 0 ∨ b0 = 1 := by rcases S0.2.2 with q | q <;> omega
  have G0 := own_S_neg S0
  obtain ⟨σ, hσ, e⟩ : ∃ σ : Int64, σ.toInt = 1 * (b0 : Int) ∧ own_rk1 u0 n = (o_lshl (((own_ch (o_i2l n) (1 : Int32)) - (1 : Int64)) - ((0 : Int64) + (own_ch ((o_i2l n) - (own_ft u0)) (1 : Int32)))) (1 : Int32)) + σ := by
    refine ⟨_, ?_, rfl⟩
    simp only [G0]
    rcases B0 with rfl | rfl <;> decide
  have z0 := own_ladd (x := (0 : Int64)) (a := 0) rfl c0 (by omega)
  have y0 := own_lsub cn (y := (1 : Int64)) (b := 1) rfl (by omega)
  have y1 := own_lsub y0 z0 (by omega)
  have y2 := own_lsh (q := (1 : Int32)) 1 rfl y1 (by rw [show ((2 ^ 1 : Nat) : Int) = 2 from rfl]; omega)
  rw [show ((2 ^ 1 : Nat) : Int) = 2 from rfl] at y2
  rw [e, own_ladd y2 hσ (by omega)]
  omega
theorem own_W1 {n : Int32} {N : Nat} (hn : n.toInt = (N : Int)) (hN : N ≤ 1048600) : (o_lshl (own_ch (o_i2l n) (1 : Int32)) (1 : Int32)).toInt = 2 * ((N : Nat) : Int) := by
  have n0 : (o_i2l n).toInt = ((N : Nat) : Int) := by rw [own_i2l, hn]
  have cn : (own_ch (o_i2l n) 1).toInt = ((N : Nat) : Int) := n0
  rw [own_lsh (q := (1 : Int32)) 1 rfl cn (by rw [show ((2 ^ 1 : Nat) : Int) = 2 from rfl]; omega), show ((2 ^ 1 : Nat) : Int) = 2 from rfl]; omega
theorem own_V1 {u0 n : Int32} {f0 N b0 : Nat} (S0 : own_S u0 f0 b0) (hn : n.toInt = (N : Int)) (hN : N ≤ 1048600)  (lN : f0 ≤ N) : own_va1 u0 n = 1 := by
  unfold own_va1
  rw [own_S_ir S0 hn (by omega)]
  rfl
theorem own_fin1 {r r' : Int64} {T : Int64} {x : Int} {nr va : Int32} (hr : r.toInt = x) (hb : -9223372036854775808 ≤ x ∧ x < 9223372036854775807) (h1 : nr = 1) (h2 : va = 1) (h3 : r'.toInt = x + 1) : ¬ (nr = (0 : Int32)) ∧ ¬ (va = (0 : Int32)) ∧ r' = r + (1 : Int64) := by
  refine ⟨by rw [h1]; decide, by rw [h2]; decide, ?_⟩
  rw [← Int64.toInt_inj, h3, own_ladd hr (y := (1 : Int64)) (b := 1) rfl (by omega)]
theorem own_T1 {u0 n : Int32} {f0 N b0 : Nat} (S0 : own_S u0 f0 b0) (hn : n.toInt = (N : Int)) (hN : N ≤ 1048600)  (lN : f0 ≤ N) : ((own_rk1 u0 n + (1 : Int64)) < (o_lshl (own_ch (o_i2l n) (1 : Int32)) (1 : Int32)) → ¬ (own_nr1 u0 n = (0 : Int32)) ∧ ¬ (own_va1 (own_nx1_0 u0 n) n = (0 : Int32)) ∧ own_rk1 (own_nx1_0 u0 n) n = own_rk1 u0 n + (1 : Int64)) ∧ (¬ (own_rk1 u0 n + (1 : Int64)) < (o_lshl (own_ch (o_i2l n) (1 : Int32)) (1 : Int32)) → own_nr1 u0 n = (0 : Int32) ∧ (own_nx1_0 u0 n).toInt = (f0 : Int)) := by
  have r0 := own_R1 S0 hn hN  lN
  have W := own_W1 hn hN
  have B0 : b0 = 0 ∨ b0 = 1 := by rcases S0.2.2 with q | q <;> omega
  have rb : -9223372036854775808 ≤ 2 * (((N : Nat) : Int) - 1 - (((N - f0 : Nat) : Int))) + (1 * (b0 : Int)) ∧ 2 * (((N : Nat) : Int) - 1 - (((N - f0 : Nat) : Int))) + (1 * (b0 : Int)) < 9223372036854775807 := by omega
  have A : ((own_rk1 u0 n + (1 : Int64)) < (o_lshl (own_ch (o_i2l n) (1 : Int32)) (1 : Int32))) ↔ 2 * (((N : Nat) : Int) - 1 - (((N - f0 : Nat) : Int))) + (1 * (b0 : Int)) + 1 < 2 * ((N : Nat) : Int) := by
    rw [Int64.lt_iff_toInt_lt, W, own_ladd r0 (y := (1 : Int64)) (b := 1) rfl (by omega)]
  rw [A]
  have Q0 := own_S_flip S0
  have K0 : (-u0) < (0 : Int32) ↔ b0 = 0 := (own_S_neg Q0).trans (by omega)
  by_cases k0 : (-u0) < (0 : Int32)
  · obtain rfl := K0.mp k0
    refine ⟨fun _ => ?_, fun q => absurd (show _ from by omega) q⟩
    simp only [own_nr1, own_nx1_0, k0, if_true, if_false]
    refine own_fin1 (T := 0) r0 rb rfl (own_V1 Q0 hn hN  lN) ?_
    rw [own_R1 Q0 hn hN  lN]; omega
  have e0 : b0 = 1 := by have := mt K0.mpr k0; omega
  subst e0
  have P0 : own_S (-u0) f0 0 := Q0
  skip
  have J0 := own_S_lt P0 hn hN (k := (0 : Int32)) (K := 0) rfl (by decide)
  by_cases m0 : (-u0) < (n - (0 : Int32))
  · have g := J0.mp m0
    have N0 := own_S_succ P0 (by omega)
    obtain ⟨a, ha⟩ : ∃ a, N - f0 = a + 1 := ⟨N - f0 - 1, by omega⟩
    rw [ha] at r0 rb
    refine ⟨fun _ => ?_, fun q => absurd (show _ from by rw [ha]; omega) q⟩
    simp only [own_nr1, own_nx1_0, k0, m0, if_true, if_false]
    refine own_fin1 (T := 0) r0 rb rfl (own_V1 N0 hn hN  (by omega)) ?_
    rw [own_R1 N0 hn hN  (by omega)]
    have D0 : N - (f0 + 1) = a + 0 := by omega
    rw [D0]; omega
  have g0 : ¬ (f0 + 0 < N) := fun x => m0 (J0.mpr x)
  have E0 : N - f0 = 0 := by omega
  refine ⟨fun q => absurd q ?_, fun _ => ?_⟩
  · rw [E0]
    have x1 : own_c3 2 = 0 := rfl
    have x2 : own_c2 1 = 0 := rfl
    omega
  · simp only [own_nr1, own_nx1_0, k0, m0, if_true, if_false]
    exact ⟨trivial, own_S_pos P0⟩
theorem own_law1 {p1 p2 p3 p4 f n nr : Int32} {r T : Int64} (h0 : ((1 : Int32) + (p1 &&& (1048575 : Int32))) = f) (hn : (f + (p3 &&& (3 : Int32))) = n) (hr : own_rk1 (if (p4 &&& (1 : Int32)) = (0 : Int32) then f else (-f)) n = r) (hT : (o_lshl (own_ch (o_i2l n) (1 : Int32)) (1 : Int32)) = T) (hnr : own_nr1 (if (p4 &&& (1 : Int32)) = (0 : Int32) then f else (-f)) n = nr) : ((r + (1 : Int64)) < T → ¬ (nr = (0 : Int32)) ∧ ¬ (own_va1 (own_nx1_0 (if (p4 &&& (1 : Int32)) = (0 : Int32) then f else (-f)) n) n = (0 : Int32)) ∧ own_rk1 (own_nx1_0 (if (p4 &&& (1 : Int32)) = (0 : Int32) then f else (-f)) n) n = r + (1 : Int64)) ∧ (¬ (r + (1 : Int64)) < T → nr = (0 : Int32) ∧ own_nx1_0 (if (p4 &&& (1 : Int32)) = (0 : Int32) then f else (-f)) n = f) := by
  have o1 : (1 : Int32).toInt = 1 := rfl
  have o3 : (3 : Int32).toInt = 3 := rfl
  have o5 : (1048575 : Int32).toInt = 1048575 := rfl
  have a0 := c_and p1 1048575 (by decide)
  have i0 := c_iadd 1 (p1 &&& 1048575); rw [h0] at i0
  have j0 := rng32 f
  have t0 : 1 ≤ f.toInt ∧ f.toInt ≤ 1048576 := by omega
  have a3 := c_and p3 3 (by decide)
  have i3 := c_iadd f (p3 &&& 3); rw [hn] at i3
  have j3 := rng32 n
  have t3 : f.toInt ≤ n.toInt ∧ n.toInt ≤ 1048590 := by omega
  clear a0 i0 j0 a3 i3 j3
  obtain ⟨F0, q0⟩ : ∃ F : Nat, f.toInt = (F : Int) := ⟨f.toInt.toNat, by omega⟩
  obtain ⟨N, qn⟩ : ∃ N : Nat, n.toInt = (N : Int) := ⟨n.toInt.toNat, by omega⟩
  subst hr hT hnr
  obtain ⟨T1, T2⟩ := own_T1 (own_S_mk q0 (by omega) (by omega) ((p4 &&& (1 : Int32)) = (0 : Int32))) qn (by omega)  (by omega)
  refine ⟨T1, fun z => ?_⟩
  obtain ⟨z0, z1⟩ := T2 z
  exact ⟨z0, Int32.toInt_inj.mp (z1.trans q0.symm)⟩
theorem own_R2 {u0 u1 n : Int32} {f0 f1 N b0 b1 : Nat} (S0 : own_S u0 f0 b0) (S1 : own_S u1 f1 b1) (hn : n.toInt = (N : Int)) (hN : N ≤ 1048600) (l0 : f0 < f1) (lN : f1 ≤ N) : (own_rk2 u0 u1 n).toInt = 4 * ((own_c2 (N) : Int) - 1 - ((own_c2 (N - f0) : Int) + ((N - f1 : Nat) : Int))) + (2 * (b0 : Int) + 1 * (b1 : Int)) := by
  have n0 : (o_i2l n).toInt = ((N : Nat) : Int) := by rw [own_i2l, hn]
  have F0 := own_S_ft S0
  have d0 : (o_i2l n - own_ft u0).toInt = ((N - f0 : Nat) : Int) := by rw [own_lsub n0 F0 (by omega)]; omega
  have F1 := own_S_ft S1
  have d1 : (o_i2l n - own_ft u1).toInt = ((N - f1 : Nat) : Int) := by rw [own_lsub n0 F1 (by omega)]; omega
  have c0 := (own_ch_int d0 (by omega)).1
  have w0 := own_c2_le (N - f0) (by omega)
  have c1 : (own_ch (o_i2l n - own_ft u1) 1).toInt = ((N - f1 : Nat) : Int) := d1
  have cn := (own_ch_int n0 hN).1
  have wn := own_c2_le N hN
  have B0 : b0 = 0 ∨ b0 = 1 := by rcases S0.2.2 with q | q <;> omega
  have G0 := own_S_neg S0
  have B1 : b1 = 0 ∨ b1 = 1 := by rcases S1.2.2 with q | q <;> omega
  have G1 := own_S_neg S1
  obtain ⟨σ, hσ, e⟩ : ∃ σ : Int64, σ.toInt = 2 * (b0 : Int) + 1 * (b1 : Int) ∧ own_rk2 u0 u1 n = (o_lshl (((own_ch (o_i2l n) (2 : Int32)) - (1 : Int64)) - (((0 : Int64) + (own_ch ((o_i2l n) - (own_ft u0)) (2 : Int32))) + (own_ch ((o_i2l n) - (own_ft u1)) (1 : Int32)))) (2 : Int32)) + σ := by
    refine ⟨_, ?_, rfl⟩
    simp only [G0, G1]
    rcases B0 with rfl | rfl <;> rcases B1 with rfl | rfl <;> decide
  have z0 := own_ladd (x := (0 : Int64)) (a := 0) rfl c0 (by omega)
  have z1 := own_ladd z0 c1 (by omega)
  have y0 := own_lsub cn (y := (1 : Int64)) (b := 1) rfl (by omega)
  have y1 := own_lsub y0 z1 (by omega)
  have y2 := own_lsh (q := (2 : Int32)) 2 rfl y1 (by rw [show ((2 ^ 2 : Nat) : Int) = 4 from rfl]; omega)
  rw [show ((2 ^ 2 : Nat) : Int) = 4 from rfl] at y2
  rw [e, own_ladd y2 hσ (by omega)]
  omega
theorem own_W2 {n : Int32} {N : Nat} (hn : n.toInt = (N : Int)) (hN : N ≤ 1048600) : (o_lshl (own_ch (o_i2l n) (2 : Int32)) (2 : Int32)).toInt = 4 * (own_c2 (N) : Int) := by
  have n0 : (o_i2l n).toInt = ((N : Nat) : Int) := by rw [own_i2l, hn]
  have cn := (own_ch_int n0 hN).1
  have wn := own_c2_le N hN
  rw [own_lsh (q := (2 : Int32)) 2 rfl cn (by rw [show ((2 ^ 2 : Nat) : Int) = 4 from rfl]; omega), show ((2 ^ 2 : Nat) : Int) = 4 from rfl]; omega
theorem own_V2 {u0 u1 n : Int32} {f0 f1 N b0 b1 : Nat} (S0 : own_S u0 f0 b0) (S1 : own_S u1 f1 b1) (hn : n.toInt = (N : Int)) (hN : N ≤ 1048600) (l0 : f0 < f1) (lN : f1 ≤ N) : own_va2 u0 u1 n = 1 := by
  unfold own_va2
  rw [own_S_ir S0 hn (by omega), own_S_ir S1 hn (by omega)]
  have g0 : own_ft u0 < own_ft u1 := by rw [Int64.lt_iff_toInt_lt, own_S_ft S0, own_S_ft S1]; omega
  rw [if_pos g0]
  rfl
theorem own_T2 {u0 u1 n : Int32} {f0 f1 N b0 b1 : Nat} (S0 : own_S u0 f0 b0) (S1 : own_S u1 f1 b1) (hn : n.toInt = (N : Int)) (hN : N ≤ 1048600) (l0 : f0 < f1) (lN : f1 ≤ N) : ((own_rk2 u0 u1 n + (1 : Int64)) < (o_lshl (own_ch (o_i2l n) (2 : Int32)) (2 : Int32)) → ¬ (own_nr2 u0 u1 n = (0 : Int32)) ∧ ¬ (own_va2 (own_nx2_0 u0 u1 n) (own_nx2_1 u0 u1 n) n = (0 : Int32)) ∧ own_rk2 (own_nx2_0 u0 u1 n) (own_nx2_1 u0 u1 n) n = own_rk2 u0 u1 n + (1 : Int64)) ∧ (¬ (own_rk2 u0 u1 n + (1 : Int64)) < (o_lshl (own_ch (o_i2l n) (2 : Int32)) (2 : Int32)) → own_nr2 u0 u1 n = (0 : Int32) ∧ (own_nx2_0 u0 u1 n).toInt = (f0 : Int) ∧ (own_nx2_1 u0 u1 n).toInt = (f1 : Int)) := by
  have r0 := own_R2 S0 S1 hn hN l0 lN
  have W := own_W2 hn hN
  have wn := own_c2_le N hN
  have w0 := own_c2_le (N - f0) (by omega)
  have B0 : b0 = 0 ∨ b0 = 1 := by rcases S0.2.2 with q | q <;> omega
  have B1 : b1 = 0 ∨ b1 = 1 := by rcases S1.2.2 with q | q <;> omega
  have rb : -9223372036854775808 ≤ 4 * ((own_c2 (N) : Int) - 1 - ((own_c2 (N - f0) : Int) + ((N - f1 : Nat) : Int))) + (2 * (b0 : Int) + 1 * (b1 : Int)) ∧ 4 * ((own_c2 (N) : Int) - 1 - ((own_c2 (N - f0) : Int) + ((N - f1 : Nat) : Int))) + (2 * (b0 : Int) + 1 * (b1 : Int)) < 9223372036854775807 := by omega
  have A : ((own_rk2 u0 u1 n + (1 : Int64)) < (o_lshl (own_ch (o_i2l n) (2 : Int32)) (2 : Int32))) ↔ 4 * ((own_c2 (N) : Int) - 1 - ((own_c2 (N - f0) : Int) + ((N - f1 : Nat) : Int))) + (2 * (b0 : Int) + 1 * (b1 : Int)) + 1 < 4 * (own_c2 (N) : Int) := by
    rw [Int64.lt_iff_toInt_lt, W, own_ladd r0 (y := (1 : Int64)) (b := 1) rfl (by omega)]
  rw [A]
  have Q0 := own_S_flip S0
  have K0 : (-u0) < (0 : Int32) ↔ b0 = 0 := (own_S_neg Q0).trans (by omega)
  have Q1 := own_S_flip S1
  have K1 : (-u1) < (0 : Int32) ↔ b1 = 0 := (own_S_neg Q1).trans (by omega)
  by_cases k1 : (-u1) < (0 : Int32)
  · obtain rfl := K1.mp k1
    refine ⟨fun _ => ?_, fun q => absurd (show _ from by omega) q⟩
    simp only [own_nr2, own_nx2_0, own_nx2_1, k1, if_true, if_false]
    refine own_fin1 (T := 0) r0 rb rfl (own_V2 S0 Q1 hn hN l0 lN) ?_
    rw [own_R2 S0 Q1 hn hN l0 lN]; omega
  have e1 : b1 = 1 := by have := mt K1.mpr k1; omega
  subst e1
  by_cases k0 : (-u0) < (0 : Int32)
  · obtain rfl := K0.mp k0
    refine ⟨fun _ => ?_, fun q => absurd (show _ from by omega) q⟩
    simp only [own_nr2, own_nx2_0, own_nx2_1, k1, k0, if_true, if_false]
    refine own_fin1 (T := 0) r0 rb rfl (own_V2 Q0 Q1 hn hN l0 lN) ?_
    rw [own_R2 Q0 Q1 hn hN l0 lN]; omega
  have e0 : b0 = 1 := by have := mt K0.mpr k0; omega
  subst e0
  have P0 : own_S (-u0) f0 0 := Q0
  have P1 : own_S (-u1) f1 0 := Q1
  skip
  have J1 := own_S_lt P1 hn hN (k := (0 : Int32)) (K := 0) rfl (by decide)
  by_cases m1 : (-u1) < (n - (0 : Int32))
  · have g := J1.mp m1
    have N1 := own_S_succ P1 (by omega)
    obtain ⟨a, ha⟩ : ∃ a, N - f1 = a + 1 := ⟨N - f1 - 1, by omega⟩
    rw [ha] at r0 rb
    refine ⟨fun _ => ?_, fun q => absurd (show _ from by rw [ha]; omega) q⟩
    simp only [own_nr2, own_nx2_0, own_nx2_1, k1, k0, m1, if_true, if_false]
    refine own_fin1 (T := 0) r0 rb rfl (own_V2 P0 N1 hn hN (by omega) (by omega)) ?_
    rw [own_R2 P0 N1 hn hN (by omega) (by omega)]
    have D1 : N - (f1 + 1) = a + 0 := by omega
    rw [D1]; omega
  have g1 : ¬ (f1 + 0 < N) := fun x => m1 (J1.mpr x)
  have J0 := own_S_lt P0 hn hN (k := (1 : Int32)) (K := 1) rfl (by decide)
  by_cases m0 : (-u0) < (n - (1 : Int32))
  · have g := J0.mp m0
    have N0 := own_S_succ P0 (by omega)
    have N1 := own_S_succ N0 (by omega)
    obtain ⟨a, ha⟩ : ∃ a, N - f0 = a + 2 := ⟨N - f0 - 2, by omega⟩
    have E1 : N - f1 = 0 := by omega
    have x2 : own_c2 (a + 2) = own_c2 (a + 1) + (a + 1) := rfl
    rw [ha, E1] at r0 rb
    refine ⟨fun _ => ?_, fun q => absurd (show _ from by rw [ha, E1]; omega) q⟩
    simp only [own_nr2, own_nx2_0, own_nx2_1, k1, k0, m1, m0, if_true, if_false]
    refine own_fin1 (T := 0) r0 rb rfl (own_V2 N0 N1 hn hN (by omega) (by omega)) ?_
    rw [own_R2 N0 N1 hn hN (by omega) (by omega)]
    have D0 : N - (f0 + 1) = a + 1 := by omega
    have D1 : N - (f0 + 1 + 1) = a + 0 := by omega
    rw [D0, D1]; omega
  have g0 : ¬ (f0 + 1 < N) := fun x => m0 (J0.mpr x)
  have E0 : N - f0 = 1 := by omega
  have E1 : N - f1 = 0 := by omega
  refine ⟨fun q => absurd q ?_, fun _ => ?_⟩
  · rw [E0, E1]
    have x1 : own_c3 2 = 0 := rfl
    have x2 : own_c2 1 = 0 := rfl
    omega
  · simp only [own_nr2, own_nx2_0, own_nx2_1, k1, k0, m1, m0, if_true, if_false]
    exact ⟨trivial, own_S_pos P0, own_S_pos P1⟩
theorem own_law2 {p1 p2 p3 p4 f g n nr : Int32} {r T : Int64} (h0 : ((1 : Int32) + (p1 &&& (1048575 : Int32))) = f) (h1 : ((f + (1 : Int32)) + (p2 &&& (3 : Int32))) = g) (hn : (g + (p3 &&& (3 : Int32))) = n) (hr : own_rk2 (if (p4 &&& (1 : Int32)) = (0 : Int32) then f else (-f)) (if (p4 &&& (2 : Int32)) = (0 : Int32) then g else (-g)) n = r) (hT : (o_lshl (own_ch (o_i2l n) (2 : Int32)) (2 : Int32)) = T) (hnr : own_nr2 (if (p4 &&& (1 : Int32)) = (0 : Int32) then f else (-f)) (if (p4 &&& (2 : Int32)) = (0 : Int32) then g else (-g)) n = nr) : ((r + (1 : Int64)) < T → ¬ (nr = (0 : Int32)) ∧ ¬ (own_va2 (own_nx2_0 (if (p4 &&& (1 : Int32)) = (0 : Int32) then f else (-f)) (if (p4 &&& (2 : Int32)) = (0 : Int32) then g else (-g)) n) (own_nx2_1 (if (p4 &&& (1 : Int32)) = (0 : Int32) then f else (-f)) (if (p4 &&& (2 : Int32)) = (0 : Int32) then g else (-g)) n) n = (0 : Int32)) ∧ own_rk2 (own_nx2_0 (if (p4 &&& (1 : Int32)) = (0 : Int32) then f else (-f)) (if (p4 &&& (2 : Int32)) = (0 : Int32) then g else (-g)) n) (own_nx2_1 (if (p4 &&& (1 : Int32)) = (0 : Int32) then f else (-f)) (if (p4 &&& (2 : Int32)) = (0 : Int32) then g else (-g)) n) n = r + (1 : Int64)) ∧ (¬ (r + (1 : Int64)) < T → nr = (0 : Int32) ∧ own_nx2_0 (if (p4 &&& (1 : Int32)) = (0 : Int32) then f else (-f)) (if (p4 &&& (2 : Int32)) = (0 : Int32) then g else (-g)) n = f ∧ own_nx2_1 (if (p4 &&& (1 : Int32)) = (0 : Int32) then f else (-f)) (if (p4 &&& (2 : Int32)) = (0 : Int32) then g else (-g)) n = g) := by
  have o1 : (1 : Int32).toInt = 1 := rfl
  have o3 : (3 : Int32).toInt = 3 := rfl
  have o5 : (1048575 : Int32).toInt = 1048575 := rfl
  have a0 := c_and p1 1048575 (by decide)
  have i0 := c_iadd 1 (p1 &&& 1048575); rw [h0] at i0
  have j0 := rng32 f
  have t0 : 1 ≤ f.toInt ∧ f.toInt ≤ 1048576 := by omega
  have a1 := c_and p2 3 (by decide)
  have s1 := c_iadd f 1; have s1' := rng32 (f + 1)
  have i1 := c_iadd (f + 1) (p2 &&& 3); rw [h1] at i1
  have j1 := rng32 g
  have t1 : f.toInt < g.toInt ∧ g.toInt ≤ 1048580 := by omega
  have a3 := c_and p3 3 (by decide)
  have i3 := c_iadd g (p3 &&& 3); rw [hn] at i3
  have j3 := rng32 n
  have t3 : g.toInt ≤ n.toInt ∧ n.toInt ≤ 1048590 := by omega
  clear a0 i0 j0 a3 i3 j3 a1 s1 s1' i1 j1
  obtain ⟨F0, q0⟩ : ∃ F : Nat, f.toInt = (F : Int) := ⟨f.toInt.toNat, by omega⟩
  obtain ⟨F1, q1⟩ : ∃ F : Nat, g.toInt = (F : Int) := ⟨g.toInt.toNat, by omega⟩
  obtain ⟨N, qn⟩ : ∃ N : Nat, n.toInt = (N : Int) := ⟨n.toInt.toNat, by omega⟩
  subst hr hT hnr
  obtain ⟨T1, T2⟩ := own_T2 (own_S_mk q0 (by omega) (by omega) ((p4 &&& (1 : Int32)) = (0 : Int32))) (own_S_mk q1 (by omega) (by omega) ((p4 &&& (2 : Int32)) = (0 : Int32))) qn (by omega) (by omega) (by omega)
  refine ⟨T1, fun z => ?_⟩
  obtain ⟨z0, z1, z2⟩ := T2 z
  exact ⟨z0, Int32.toInt_inj.mp (z1.trans q0.symm), Int32.toInt_inj.mp (z2.trans q1.symm)⟩
theorem own_R3 {u0 u1 u2 n : Int32} {f0 f1 f2 N b0 b1 b2 : Nat} (S0 : own_S u0 f0 b0) (S1 : own_S u1 f1 b1) (S2 : own_S u2 f2 b2) (hn : n.toInt = (N : Int)) (hN : N ≤ 1048600) (l0 : f0 < f1) (l1 : f1 < f2) (lN : f2 ≤ N) : (own_rk3 u0 u1 u2 n).toInt = 8 * ((own_c3 (N) : Int) - 1 - ((own_c3 (N - f0) : Int) + (own_c2 (N - f1) : Int) + ((N - f2 : Nat) : Int))) + (4 * (b0 : Int) + 2 * (b1 : Int) + 1 * (b2 : Int)) := by
  have n0 : (o_i2l n).toInt = ((N : Nat) : Int) := by rw [own_i2l, hn]
  have F0 := own_S_ft S0
  have d0 : (o_i2l n - own_ft u0).toInt = ((N - f0 : Nat) : Int) := by rw [own_lsub n0 F0 (by omega)]; omega
  have F1 := own_S_ft S1
  have d1 : (o_i2l n - own_ft u1).toInt = ((N - f1 : Nat) : Int) := by rw [own_lsub n0 F1 (by omega)]; omega
  have F2 := own_S_ft S2
  have d2 : (o_i2l n - own_ft u2).toInt = ((N - f2 : Nat) : Int) := by rw [own_lsub n0 F2 (by omega)]; omega
  have c0 := (own_ch_int d0 (by omega)).2
  have w0 := own_c3_le (N - f0) (by omega)
  have c1 := (own_ch_int d1 (by omega)).1
  have w1 := own_c2_le (N - f1) (by omega)
  have c2 : (own_ch (o_i2l n - own_ft u2) 1).toInt = ((N - f2 : Nat) : Int) := d2
  have cn := (own_ch_int n0 hN).2
  have wn := own_c3_le N hN
  have B0 : b0 = 0 ∨ b0 = 1 := by rcases S0.2.2 with q | q <;> omega
  have G0 := own_S_neg S0
  have B1 : b1 = 0 ∨ b1 = 1 := by rcases S1.2.2 with q | q <;> omega
  have G1 := own_S_neg S1
  have B2 : b2 = 0 ∨ b2 = 1 := by rcases S2.2.2 with q | q <;> omega
  have G2 := own_S_neg S2
  obtain ⟨σ, hσ, e⟩ : ∃ σ : Int64, σ.toInt = 4 * (b0 : Int) + 2 * (b1 : Int) + 1 * (b2 : Int) ∧ own_rk3 u0 u1 u2 n = (o_lshl (((own_ch (o_i2l n) (3 : Int32)) - (1 : Int64)) - ((((0 : Int64) + (own_ch ((o_i2l n) - (own_ft u0)) (3 : Int32))) + (own_ch ((o_i2l n) - (own_ft u1)) (2 : Int32))) + (own_ch ((o_i2l n) - (own_ft u2)) (1 : Int32)))) (3 : Int32)) + σ := by
    refine ⟨_, ?_, rfl⟩
    simp only [G0, G1, G2]
    rcases B0 with rfl | rfl <;> rcases B1 with rfl | rfl <;> rcases B2 with rfl | rfl <;> decide
  have z0 := own_ladd (x := (0 : Int64)) (a := 0) rfl c0 (by omega)
  have z1 := own_ladd z0 c1 (by omega)
  have z2 := own_ladd z1 c2 (by omega)
  have y0 := own_lsub cn (y := (1 : Int64)) (b := 1) rfl (by omega)
  have y1 := own_lsub y0 z2 (by omega)
  have y2 := own_lsh (q := (3 : Int32)) 3 rfl y1 (by rw [show ((2 ^ 3 : Nat) : Int) = 8 from rfl]; omega)
  rw [show ((2 ^ 3 : Nat) : Int) = 8 from rfl] at y2
  rw [e, own_ladd y2 hσ (by omega)]
  omega
theorem own_W3 {n : Int32} {N : Nat} (hn : n.toInt = (N : Int)) (hN : N ≤ 1048600) : (o_lshl (own_ch (o_i2l n) (3 : Int32)) (3 : Int32)).toInt = 8 * (own_c3 (N) : Int) := by
  have n0 : (o_i2l n).toInt = ((N : Nat) : Int) := by rw [own_i2l, hn]
  have cn := (own_ch_int n0 hN).2
  have wn := own_c3_le N hN
  rw [own_lsh (q := (3 : Int32)) 3 rfl cn (by rw [show ((2 ^ 3 : Nat) : Int) = 8 from rfl]; omega), show ((2 ^ 3 : Nat) : Int) = 8 from rfl]; omega
theorem own_V3 {u0 u1 u2 n : Int32} {f0 f1 f2 N b0 b1 b2 : Nat} (S0 : own_S u0 f0 b0) (S1 : own_S u1 f1 b1) (S2 : own_S u2 f2 b2) (hn : n.toInt = (N : Int)) (hN : N ≤ 1048600) (l0 : f0 < f1) (l1 : f1 < f2) (lN : f2 ≤ N) : own_va3 u0 u1 u2 n = 1 := by
  unfold own_va3
  rw [own_S_ir S0 hn (by omega), own_S_ir S1 hn (by omega), own_S_ir S2 hn (by omega)]
  have g0 : own_ft u0 < own_ft u1 := by rw [Int64.lt_iff_toInt_lt, own_S_ft S0, own_S_ft S1]; omega
  have g1 : own_ft u1 < own_ft u2 := by rw [Int64.lt_iff_toInt_lt, own_S_ft S1, own_S_ft S2]; omega
  rw [if_pos g0, if_pos g1]
  rfl
theorem own_T3 {u0 u1 u2 n : Int32} {f0 f1 f2 N b0 b1 b2 : Nat} (S0 : own_S u0 f0 b0) (S1 : own_S u1 f1 b1) (S2 : own_S u2 f2 b2) (hn : n.toInt = (N : Int)) (hN : N ≤ 1048600) (l0 : f0 < f1) (l1 : f1 < f2) (lN : f2 ≤ N) : ((own_rk3 u0 u1 u2 n + (1 : Int64)) < (o_lshl (own_ch (o_i2l n) (3 : Int32)) (3 : Int32)) → ¬ (own_nr3 u0 u1 u2 n = (0 : Int32)) ∧ ¬ (own_va3 (own_nx3_0 u0 u1 u2 n) (own_nx3_1 u0 u1 u2 n) (own_nx3_2 u0 u1 u2 n) n = (0 : Int32)) ∧ own_rk3 (own_nx3_0 u0 u1 u2 n) (own_nx3_1 u0 u1 u2 n) (own_nx3_2 u0 u1 u2 n) n = own_rk3 u0 u1 u2 n + (1 : Int64)) ∧ (¬ (own_rk3 u0 u1 u2 n + (1 : Int64)) < (o_lshl (own_ch (o_i2l n) (3 : Int32)) (3 : Int32)) → own_nr3 u0 u1 u2 n = (0 : Int32) ∧ (own_nx3_0 u0 u1 u2 n).toInt = (f0 : Int) ∧ (own_nx3_1 u0 u1 u2 n).toInt = (f1 : Int) ∧ (own_nx3_2 u0 u1 u2 n).toInt = (f2 : Int)) := by
  have r0 := own_R3 S0 S1 S2 hn hN l0 l1 lN
  have W := own_W3 hn hN
  have wn := own_c3_le N hN
  have w0 := own_c3_le (N - f0) (by omega)
  have w1 := own_c2_le (N - f1) (by omega)
  have B0 : b0 = 0 ∨ b0 = 1 := by rcases S0.2.2 with q | q <;> omega
  have B1 : b1 = 0 ∨ b1 = 1 := by rcases S1.2.2 with q | q <;> omega
  have B2 : b2 = 0 ∨ b2 = 1 := by rcases S2.2.2 with q | q <;> omega
  have rb : -9223372036854775808 ≤ 8 * ((own_c3 (N) : Int) - 1 - ((own_c3 (N - f0) : Int) + (own_c2 (N - f1) : Int) + ((N - f2 : Nat) : Int))) + (4 * (b0 : Int) + 2 * (b1 : Int) + 1 * (b2 : Int)) ∧ 8 * ((own_c3 (N) : Int) - 1 - ((own_c3 (N - f0) : Int) + (own_c2 (N - f1) : Int) + ((N - f2 : Nat) : Int))) + (4 * (b0 : Int) + 2 * (b1 : Int) + 1 * (b2 : Int)) < 9223372036854775807 := by omega
  have A : ((own_rk3 u0 u1 u2 n + (1 : Int64)) < (o_lshl (own_ch (o_i2l n) (3 : Int32)) (3 : Int32))) ↔ 8 * ((own_c3 (N) : Int) - 1 - ((own_c3 (N - f0) : Int) + (own_c2 (N - f1) : Int) + ((N - f2 : Nat) : Int))) + (4 * (b0 : Int) + 2 * (b1 : Int) + 1 * (b2 : Int)) + 1 < 8 * (own_c3 (N) : Int) := by
    rw [Int64.lt_iff_toInt_lt, W, own_ladd r0 (y := (1 : Int64)) (b := 1) rfl (by omega)]
  rw [A]
  have Q0 := own_S_flip S0
  have K0 : (-u0) < (0 : Int32) ↔ b0 = 0 := (own_S_neg Q0).trans (by omega)
  have Q1 := own_S_flip S1
  have K1 : (-u1) < (0 : Int32) ↔ b1 = 0 := (own_S_neg Q1).trans (by omega)
  have Q2 := own_S_flip S2
  have K2 : (-u2) < (0 : Int32) ↔ b2 = 0 := (own_S_neg Q2).trans (by omega)
  by_cases k2 : (-u2) < (0 : Int32)
  · obtain rfl := K2.mp k2
    refine ⟨fun _ => ?_, fun q => absurd (show _ from by omega) q⟩
    simp only [own_nr3, own_nx3_0, own_nx3_1, own_nx3_2, k2, if_true, if_false]
    refine own_fin1 (T := 0) r0 rb rfl (own_V3 S0 S1 Q2 hn hN l0 l1 lN) ?_
    rw [own_R3 S0 S1 Q2 hn hN l0 l1 lN]; omega
  have e2 : b2 = 1 := by have := mt K2.mpr k2; omega
  subst e2
  by_cases k1 : (-u1) < (0 : Int32)
  · obtain rfl := K1.mp k1
    refine ⟨fun _ => ?_, fun q => absurd (show _ from by omega) q⟩
    simp only [own_nr3, own_nx3_0, own_nx3_1, own_nx3_2, k2, k1, if_true, if_false]
    refine own_fin1 (T := 0) r0 rb rfl (own_V3 S0 Q1 Q2 hn hN l0 l1 lN) ?_
    rw [own_R3 S0 Q1 Q2 hn hN l0 l1 lN]; omega
  have e1 : b1 = 1 := by have := mt K1.mpr k1; omega
  subst e1
  by_cases k0 : (-u0) < (0 : Int32)
  · obtain rfl := K0.mp k0
    refine ⟨fun _ => ?_, fun q => absurd (show _ from by omega) q⟩
    simp only [own_nr3, own_nx3_0, own_nx3_1, own_nx3_2, k2, k1, k0, if_true, if_false]
    refine own_fin1 (T := 0) r0 rb rfl (own_V3 Q0 Q1 Q2 hn hN l0 l1 lN) ?_
    rw [own_R3 Q0 Q1 Q2 hn hN l0 l1 lN]; omega
  have e0 : b0 = 1 := by have := mt K0.mpr k0; omega
  subst e0
  have P0 : own_S (-u0) f0 0 := Q0
  have P1 : own_S (-u1) f1 0 := Q1
  have P2 : own_S (-u2) f2 0 := Q2
  skip
  have J2 := own_S_lt P2 hn hN (k := (0 : Int32)) (K := 0) rfl (by decide)
  by_cases m2 : (-u2) < (n - (0 : Int32))
  · have g := J2.mp m2
    have N2 := own_S_succ P2 (by omega)
    obtain ⟨a, ha⟩ : ∃ a, N - f2 = a + 1 := ⟨N - f2 - 1, by omega⟩
    rw [ha] at r0 rb
    refine ⟨fun _ => ?_, fun q => absurd (show _ from by rw [ha]; omega) q⟩
    simp only [own_nr3, own_nx3_0, own_nx3_1, own_nx3_2, k2, k1, k0, m2, if_true, if_false]
    refine own_fin1 (T := 0) r0 rb rfl (own_V3 P0 P1 N2 hn hN l0 (by omega) (by omega)) ?_
    rw [own_R3 P0 P1 N2 hn hN l0 (by omega) (by omega)]
    have D2 : N - (f2 + 1) = a + 0 := by omega
    rw [D2]; omega
  have g2 : ¬ (f2 + 0 < N) := fun x => m2 (J2.mpr x)
  have J1 := own_S_lt P1 hn hN (k := (1 : Int32)) (K := 1) rfl (by decide)
  by_cases m1 : (-u1) < (n - (1 : Int32))
  · have g := J1.mp m1
    have N1 := own_S_succ P1 (by omega)
    have N2 := own_S_succ N1 (by omega)
    obtain ⟨a, ha⟩ : ∃ a, N - f1 = a + 2 := ⟨N - f1 - 2, by omega⟩
    have E2 : N - f2 = 0 := by omega
    have x2 : own_c2 (a + 2) = own_c2 (a + 1) + (a + 1) := rfl
    rw [ha, E2] at r0 rb
    refine ⟨fun _ => ?_, fun q => absurd (show _ from by rw [ha, E2]; omega) q⟩
    simp only [own_nr3, own_nx3_0, own_nx3_1, own_nx3_2, k2, k1, k0, m2, m1, if_true, if_false]
    refine own_fin1 (T := 0) r0 rb rfl (own_V3 P0 N1 N2 hn hN (by omega) (by omega) (by omega)) ?_
    rw [own_R3 P0 N1 N2 hn hN (by omega) (by omega) (by omega)]
    have D1 : N - (f1 + 1) = a + 1 := by omega
    have D2 : N - (f1 + 1 + 1) = a + 0 := by omega
    rw [D1, D2]; omega
  have g1 : ¬ (f1 + 1 < N) := fun x => m1 (J1.mpr x)
  have J0 := own_S_lt P0 hn hN (k := (2 : Int32)) (K := 2) rfl (by decide)
  by_cases m0 : (-u0) < (n - (2 : Int32))
  · have g := J0.mp m0
    have N0 := own_S_succ P0 (by omega)
    have N1 := own_S_succ N0 (by omega)
    have N2 := own_S_succ N1 (by omega)
    obtain ⟨a, ha⟩ : ∃ a, N - f0 = a + 3 := ⟨N - f0 - 3, by omega⟩
    have E1 : N - f1 = 1 := by omega
    have E2 : N - f2 = 0 := by omega
    have x1 : own_c3 (a + 3) = own_c3 (a + 2) + own_c2 (a + 2) := rfl
    have x2 : own_c2 (a + 2) = own_c2 (a + 1) + (a + 1) := rfl
    have x3 : own_c2 1 = 0 := rfl
    rw [ha, E1, E2] at r0 rb
    refine ⟨fun _ => ?_, fun q => absurd (show _ from by rw [ha, E1, E2]; omega) q⟩
    simp only [own_nr3, own_nx3_0, own_nx3_1, own_nx3_2, k2, k1, k0, m2, m1, m0, if_true, if_false]
    refine own_fin1 (T := 0) r0 rb rfl (own_V3 N0 N1 N2 hn hN (by omega) (by omega) (by omega)) ?_
    rw [own_R3 N0 N1 N2 hn hN (by omega) (by omega) (by omega)]
    have D0 : N - (f0 + 1) = a + 2 := by omega
    have D1 : N - (f0 + 1 + 1) = a + 1 := by omega
    have D2 : N - (f0 + 1 + 1 + 1) = a + 0 := by omega
    rw [D0, D1, D2]; omega
  have g0 : ¬ (f0 + 2 < N) := fun x => m0 (J0.mpr x)
  have E0 : N - f0 = 2 := by omega
  have E1 : N - f1 = 1 := by omega
  have E2 : N - f2 = 0 := by omega
  refine ⟨fun q => absurd q ?_, fun _ => ?_⟩
  · rw [E0, E1, E2]
    have x1 : own_c3 2 = 0 := rfl
    have x2 : own_c2 1 = 0 := rfl
    omega
  · simp only [own_nr3, own_nx3_0, own_nx3_1, own_nx3_2, k2, k1, k0, m2, m1, m0, if_true, if_false]
    exact ⟨trivial, own_S_pos P0, own_S_pos P1, own_S_pos P2⟩
theorem own_law3 {p1 p2 p3 p4 f g h n nr : Int32} {r T : Int64} (h0 : ((1 : Int32) + (p1 &&& (1048575 : Int32))) = f) (h1 : ((f + (1 : Int32)) + (p2 &&& (3 : Int32))) = g) (h2 : ((g + (1 : Int32)) + ((o_iushr p2 (2 : Int32)) &&& (3 : Int32))) = h) (hn : (h + (p3 &&& (3 : Int32))) = n) (hr : own_rk3 (if (p4 &&& (1 : Int32)) = (0 : Int32) then f else (-f)) (if (p4 &&& (2 : Int32)) = (0 : Int32) then g else (-g)) (if (p4 &&& (4 : Int32)) = (0 : Int32) then h else (-h)) n = r) (hT : (o_lshl (own_ch (o_i2l n) (3 : Int32)) (3 : Int32)) = T) (hnr : own_nr3 (if (p4 &&& (1 : Int32)) = (0 : Int32) then f else (-f)) (if (p4 &&& (2 : Int32)) = (0 : Int32) then g else (-g)) (if (p4 &&& (4 : Int32)) = (0 : Int32) then h else (-h)) n = nr) : ((r + (1 : Int64)) < T → ¬ (nr = (0 : Int32)) ∧ ¬ (own_va3 (own_nx3_0 (if (p4 &&& (1 : Int32)) = (0 : Int32) then f else (-f)) (if (p4 &&& (2 : Int32)) = (0 : Int32) then g else (-g)) (if (p4 &&& (4 : Int32)) = (0 : Int32) then h else (-h)) n) (own_nx3_1 (if (p4 &&& (1 : Int32)) = (0 : Int32) then f else (-f)) (if (p4 &&& (2 : Int32)) = (0 : Int32) then g else (-g)) (if (p4 &&& (4 : Int32)) = (0 : Int32) then h else (-h)) n) (own_nx3_2 (if (p4 &&& (1 : Int32)) = (0 : Int32) then f else (-f)) (if (p4 &&& (2 : Int32)) = (0 : Int32) then g else (-g)) (if (p4 &&& (4 : Int32)) = (0 : Int32) then h else (-h)) n) n = (0 : Int32)) ∧ own_rk3 (own_nx3_0 (if (p4 &&& (1 : Int32)) = (0 : Int32) then f else (-f)) (if (p4 &&& (2 : Int32)) = (0 : Int32) then g else (-g)) (if (p4 &&& (4 : Int32)) = (0 : Int32) then h else (-h)) n) (own_nx3_1 (if (p4 &&& (1 : Int32)) = (0 : Int32) then f else (-f)) (if (p4 &&& (2 : Int32)) = (0 : Int32) then g else (-g)) (if (p4 &&& (4 : Int32)) = (0 : Int32) then h else (-h)) n) (own_nx3_2 (if (p4 &&& (1 : Int32)) = (0 : Int32) then f else (-f)) (if (p4 &&& (2 : Int32)) = (0 : Int32) then g else (-g)) (if (p4 &&& (4 : Int32)) = (0 : Int32) then h else (-h)) n) n = r + (1 : Int64)) ∧ (¬ (r + (1 : Int64)) < T → nr = (0 : Int32) ∧ own_nx3_0 (if (p4 &&& (1 : Int32)) = (0 : Int32) then f else (-f)) (if (p4 &&& (2 : Int32)) = (0 : Int32) then g else (-g)) (if (p4 &&& (4 : Int32)) = (0 : Int32) then h else (-h)) n = f ∧ own_nx3_1 (if (p4 &&& (1 : Int32)) = (0 : Int32) then f else (-f)) (if (p4 &&& (2 : Int32)) = (0 : Int32) then g else (-g)) (if (p4 &&& (4 : Int32)) = (0 : Int32) then h else (-h)) n = g ∧ own_nx3_2 (if (p4 &&& (1 : Int32)) = (0 : Int32) then f else (-f)) (if (p4 &&& (2 : Int32)) = (0 : Int32) then g else (-g)) (if (p4 &&& (4 : Int32)) = (0 : Int32) then h else (-h)) n = h) := by
  have o1 : (1 : Int32).toInt = 1 := rfl
  have o3 : (3 : Int32).toInt = 3 := rfl
  have o5 : (1048575 : Int32).toInt = 1048575 := rfl
  have a0 := c_and p1 1048575 (by decide)
  have i0 := c_iadd 1 (p1 &&& 1048575); rw [h0] at i0
  have j0 := rng32 f
  have t0 : 1 ≤ f.toInt ∧ f.toInt ≤ 1048576 := by omega
  have a1 := c_and p2 3 (by decide)
  have s1 := c_iadd f 1; have s1' := rng32 (f + 1)
  have i1 := c_iadd (f + 1) (p2 &&& 3); rw [h1] at i1
  have j1 := rng32 g
  have t1 : f.toInt < g.toInt ∧ g.toInt ≤ 1048580 := by omega
  have a2 := c_and (o_iushr p2 2) 3 (by decide)
  have s2 := c_iadd g 1; have s2' := rng32 (g + 1)
  have i2 := c_iadd (g + 1) (o_iushr p2 2 &&& 3); rw [h2] at i2
  have j2 := rng32 h
  have t2 : g.toInt < h.toInt ∧ h.toInt ≤ 1048584 := by omega
  have a3 := c_and p3 3 (by decide)
  have i3 := c_iadd h (p3 &&& 3); rw [hn] at i3
  have j3 := rng32 n
  have t3 : h.toInt ≤ n.toInt ∧ n.toInt ≤ 1048590 := by omega
  clear a0 i0 j0 a3 i3 j3 a1 s1 s1' i1 j1 a2 s2 s2' i2 j2
  obtain ⟨F0, q0⟩ : ∃ F : Nat, f.toInt = (F : Int) := ⟨f.toInt.toNat, by omega⟩
  obtain ⟨F1, q1⟩ : ∃ F : Nat, g.toInt = (F : Int) := ⟨g.toInt.toNat, by omega⟩
  obtain ⟨F2, q2⟩ : ∃ F : Nat, h.toInt = (F : Int) := ⟨h.toInt.toNat, by omega⟩
  obtain ⟨N, qn⟩ : ∃ N : Nat, n.toInt = (N : Int) := ⟨n.toInt.toNat, by omega⟩
  subst hr hT hnr
  obtain ⟨T1, T2⟩ := own_T3 (own_S_mk q0 (by omega) (by omega) ((p4 &&& (1 : Int32)) = (0 : Int32))) (own_S_mk q1 (by omega) (by omega) ((p4 &&& (2 : Int32)) = (0 : Int32))) (own_S_mk q2 (by omega) (by omega) ((p4 &&& (4 : Int32)) = (0 : Int32))) qn (by omega) (by omega) (by omega) (by omega)
  refine ⟨T1, fun z => ?_⟩
  obtain ⟨z0, z1, z2, z3⟩ := T2 z
  exact ⟨z0, Int32.toInt_inj.mp (z1.trans q0.symm), Int32.toInt_inj.mp (z2.trans q1.symm), Int32.toInt_inj.mp (z3.trans q2.symm)⟩

theorem own_law0 {n : Int32} {r T : Int64} (hr : own_rk0 n = r) (hT : (o_lshl (own_ch (o_i2l n) (0 : Int32)) (0 : Int32)) = T) : ¬ (r + (1 : Int64)) < T := by
  have e : own_ch (o_i2l n) (0 : Int32) = 1 := rfl
  subst hr hT
  unfold own_rk0
  rw [e]; decide
end OwnRank

theorem pd_3 : parseMethodDescriptor "([III)J" = some ⟨[(.array .int), .int, .int], some .long⟩ := by decide +kernel
theorem pd_4 : parseMethodDescriptor "([II)Z" = some ⟨[(.array .int), .int], some .boolean⟩ := by decide +kernel
theorem pd_5 : parseMethodDescriptor "([III)Z" = some ⟨[(.array .int), .int, .int], some .boolean⟩ := by decide +kernel
theorem ef_0 (m : MethodId) (x0 : Int32) (x1 : Int32) (x2 : Int32) (x3 : Int32) (x4 : Int32) : entryFrame m #[(.int x0), (.int x1), (.int x2), (.int x3), (.int x4)] maxLocals = mkF m 0 #[.val (.int x0), .val (.int x1), .val (.int x2), .val (.int x3), .val (.int x4), .unset, .unset, .unset, .unset, .unset, .unset, .unset, .unset, .unset, .unset, .unset, .unset] [] := by first | (simp [entryFrame, mkF, argsToLocals, Value.category, maxLocals]; done) | rfl
def Q0 (Z : State) (p0 : Int32) (p1 : Int32) (p2 : Int32) (p3 : Int32) (p4 : Int32) (h0 : Heap) (n0 : Nat) (v : Option Value) (h : Heap) (L : List Loc) : Prop := v = some (.int 1) ∧ Fr n0 L
set_option maxRecDepth 65536 in
set_option maxHeartbeats 40000000 in
theorem rm0 (l : Launch) (Z : State) (a0 : Array Value) (hw : ∀ d ∈ tables_1, d.before a0 Z = true) (ws : List Jvm.Cond) (p0 : Int32) (p1 : Int32) (p2 : Int32) (p3 : Int32) (p4 : Int32) (h0 : Heap) (n0 : Nat) (Z0 : n0 ≤ h0.size) :
    MetFree l x (head1 (Jvm.Cond.code x code maxLocals ret :: ws) room_1) (fun q_ U => q_ = #[(.int p0), (.int p1), (.int p2), (.int p3), (.int p4)] ∧ Z.Warmed39 U.vm ∧ U.heap = h0) (fun _ _ _ _ _ => True) (fun _ U o U' => ∃ v L, o = .returned v ∧ Q0 Z p0 p1 p2 p3 p4 h0 n0 v U'.heap L ∧ FrameEnd U o U' L room_1.cells room_1.slots) := by
  refine MetFree.of_bodySF (plainFor_of_name pn_0) hisR ?_
  intro p e s m args below meth c s₁ Bd hml0 hP hK
  obtain ⟨rfl, hZ, hh⟩ := hP
  have hx := Bd.exec
  have hby := Bd.bytes
  have hml : c.maxLocals = 17 := hml0
  have hown : s.vm.findClass "com/example/unalike/unalike/engine/TSetsNextPinLaw" = some m.cls := findClass_of_methodNamed Bd.named
  have hnm := (name_of_methodNamed Bd.named Bd.method).1
  have X0 : Stand p l e room_1 s m #[(.int p0), (.int p1), (.int p2), (.int p3), (.int p4)] below meth c s₁ [] 0 0 := Stand.of_body Bd
  have e0 : s₁.heap = h0 := by rw [← hh, Bd.state]; rfl
  have N0 := Fr.nil n0
  show own_Go p e below s (Q0 Z p0 p1 p2 p3 p4 h0 n0) room_1.cells room_1.slots (s₁.setTop (entryFrame m #[(.int p0), (.int p1), (.int p2), (.int p3), (.int p4)] maxLocals))
  refine own_via (fun t k => castTop (ef_0 m p0 p1 p2 p3 p4) k) ?_
  show own_Go p e below s _ _ _ (s₁.setTop (mkF m 0 #[.val (.int p0), .val (.int p1), .val (.int p2), .val (.int p3), .val (.int p4), .unset, .unset, .unset, .unset, .unset, .unset, .unset, .unset, .unset, .unset, .unset, .unset] []))
  refine own_via (fun _ k => XS.iloadN X0.here hx rfl (hb hby at_0) rfl k) ?_
  show own_Go p e below s _ _ _ (s₁.setTop (mkF m 1 #[.val (.int p0), .val (.int p1), .val (.int p2), .val (.int p3), .val (.int p4), .unset, .unset, .unset, .unset, .unset, .unset, .unset, .unset, .unset, .unset, .unset, .unset] [(.int p0)]))
  refine own_via (fun _ k => XS.iconst X0.here hx rfl (hb hby at_1) k) ?_
  show own_Go p e below s _ _ _ (s₁.setTop (mkF m 2 #[.val (.int p0), .val (.int p1), .val (.int p2), .val (.int p3), .val (.int p4), .unset, .unset, .unset, .unset, .unset, .unset, .unset, .unset, .unset, .unset, .unset, .unset] [(.int (3 : Int32)), (.int p0)]))
  refine own_via (fun _ k => XS.iand X0.here hx rfl (hb hby at_2) rfl k) ?_
  show own_Go p e below s _ _ _ (s₁.setTop (mkF m 3 #[.val (.int p0), .val (.int p1), .val (.int p2), .val (.int p3), .val (.int p4), .unset, .unset, .unset, .unset, .unset, .unset, .unset, .unset, .unset, .unset, .unset, .unset] [(.int (p0 &&& (3 : Int32)))]))
  refine own_via (fun _ k => XS.istore X0.here hx rfl (hb hby at_3) rfl (l' := #[.val (.int p0), .val (.int p1), .val (.int p2), .val (.int p3), .val (.int p4), .val (.int (p0 &&& (3 : Int32))), .unset, .unset, .unset, .unset, .unset, .unset, .unset, .unset, .unset, .unset, .unset]) rfl k) ?_
  show own_Go p e below s _ _ _ (s₁.setTop (mkF m 5 #[.val (.int p0), .val (.int p1), .val (.int p2), .val (.int p3), .val (.int p4), .val (.int (p0 &&& (3 : Int32))), .unset, .unset, .unset, .unset, .unset, .unset, .unset, .unset, .unset, .unset, .unset] []))
  generalize hv1 : (p0 &&& (3 : Int32)) = v1
  show own_Go p e below s _ _ _ (s₁.setTop (mkF m 5 #[.val (.int p0), .val (.int p1), .val (.int p2), .val (.int p3), .val (.int p4), .val (.int v1), .unset, .unset, .unset, .unset, .unset, .unset, .unset, .unset, .unset, .unset, .unset] []))
  rcases (own_and3 p0 hv1) with rfl | rfl | rfl | rfl
  · show own_Go p e below s _ _ _ (s₁.setTop (mkF m 5 #[.val (.int p0), .val (.int p1), .val (.int p2), .val (.int p3), .val (.int p4), .val (.int (0 : Int32)), .unset, .unset, .unset, .unset, .unset, .unset, .unset, .unset, .unset, .unset, .unset] []))
    refine own_via (fun _ k => XS.iconst X0.here hx rfl (hb hby at_5) k) ?_
    show own_Go p e below s _ _ _ (s₁.setTop (mkF m 6 #[.val (.int p0), .val (.int p1), .val (.int p2), .val (.int p3), .val (.int p4), .val (.int (0 : Int32)), .unset, .unset, .unset, .unset, .unset, .unset, .unset, .unset, .unset, .unset, .unset] [(.int (1 : Int32))]))
    refine own_via (fun _ k => XS.iloadN X0.here hx rfl (hb hby at_6) rfl k) ?_
    show own_Go p e below s _ _ _ (s₁.setTop (mkF m 7 #[.val (.int p0), .val (.int p1), .val (.int p2), .val (.int p3), .val (.int p4), .val (.int (0 : Int32)), .unset, .unset, .unset, .unset, .unset, .unset, .unset, .unset, .unset, .unset, .unset] [(.int p1), (.int (1 : Int32))]))
    refine own_via (fun _ k => X0.ldcInt hx hown (mvT hZ (hw _ (List.mem_of_getElem? (i := 0) rfl))) (g := (mkF m 7 #[.val (.int p0), .val (.int p1), .val (.int p2), .val (.int p3), .val (.int p4), .val (.int (0 : Int32)), .unset, .unset, .unset, .unset, .unset, .unset, .unset, .unset, .unset, .unset, .unset] [(.int p1), (.int (1 : Int32))])) rfl (hb hby at_7) _ k) ?_
    show own_Go p e below s _ _ _ (s₁.setTop (mkF m 9 #[.val (.int p0), .val (.int p1), .val (.int p2), .val (.int p3), .val (.int p4), .val (.int (0 : Int32)), .unset, .unset, .unset, .unset, .unset, .unset, .unset, .unset, .unset, .unset, .unset] [(.int (1048575 : Int32)), (.int p1), (.int (1 : Int32))]))
    refine own_via (fun _ k => XS.iand X0.here hx rfl (hb hby at_9) rfl k) ?_
    show own_Go p e below s _ _ _ (s₁.setTop (mkF m 10 #[.val (.int p0), .val (.int p1), .val (.int p2), .val (.int p3), .val (.int p4), .val (.int (0 : Int32)), .unset, .unset, .unset, .unset, .unset, .unset, .unset, .unset, .unset, .unset, .unset] [(.int (p1 &&& (1048575 : Int32))), (.int (1 : Int32))]))
    refine own_via (fun _ k => XS.iadd X0.here hx rfl (hb hby at_10) rfl k) ?_
    show own_Go p e below s _ _ _ (s₁.setTop (mkF m 11 #[.val (.int p0), .val (.int p1), .val (.int p2), .val (.int p3), .val (.int p4), .val (.int (0 : Int32)), .unset, .unset, .unset, .unset, .unset, .unset, .unset, .unset, .unset, .unset, .unset] [(.int ((1 : Int32) + (p1 &&& (1048575 : Int32))))]))
    refine own_via (fun _ k => XS.istore X0.here hx rfl (hb hby at_11) rfl (l' := #[.val (.int p0), .val (.int p1), .val (.int p2), .val (.int p3), .val (.int p4), .val (.int (0 : Int32)), .val (.int ((1 : Int32) + (p1 &&& (1048575 : Int32)))), .unset, .unset, .unset, .unset, .unset, .unset, .unset, .unset, .unset, .unset]) rfl k) ?_
    show own_Go p e below s _ _ _ (s₁.setTop (mkF m 13 #[.val (.int p0), .val (.int p1), .val (.int p2), .val (.int p3), .val (.int p4), .val (.int (0 : Int32)), .val (.int ((1 : Int32) + (p1 &&& (1048575 : Int32)))), .unset, .unset, .unset, .unset, .unset, .unset, .unset, .unset, .unset, .unset] []))
    generalize hv2 : ((1 : Int32) + (p1 &&& (1048575 : Int32))) = v2
    show own_Go p e below s _ _ _ (s₁.setTop (mkF m 13 #[.val (.int p0), .val (.int p1), .val (.int p2), .val (.int p3), .val (.int p4), .val (.int (0 : Int32)), .val (.int v2), .unset, .unset, .unset, .unset, .unset, .unset, .unset, .unset, .unset, .unset] []))
    refine own_via (fun _ k => XS.iload X0.here hx rfl (hb hby at_13) rfl k) ?_
    show own_Go p e below s _ _ _ (s₁.setTop (mkF m 15 #[.val (.int p0), .val (.int p1), .val (.int p2), .val (.int p3), .val (.int p4), .val (.int (0 : Int32)), .val (.int v2), .unset, .unset, .unset, .unset, .unset, .unset, .unset, .unset, .unset, .unset] [(.int v2)]))
    refine own_via (fun _ k => XS.iconst X0.here hx rfl (hb hby at_15) k) ?_
    show own_Go p e below s _ _ _ (s₁.setTop (mkF m 16 #[.val (.int p0), .val (.int p1), .val (.int p2), .val (.int p3), .val (.int p4), .val (.int (0 : Int32)), .val (.int v2), .unset, .unset, .unset, .unset, .unset, .unset, .unset, .unset, .unset, .unset] [(.int (1 : Int32)), (.int v2)]))
    refine own_via (fun _ k => XS.iadd X0.here hx rfl (hb hby at_16) rfl k) ?_
    show own_Go p e below s _ _ _ (s₁.setTop (mkF m 17 #[.val (.int p0), .val (.int p1), .val (.int p2), .val (.int p3), .val (.int p4), .val (.int (0 : Int32)), .val (.int v2), .unset, .unset, .unset, .unset, .unset, .unset, .unset, .unset, .unset, .unset] [(.int (v2 + (1 : Int32)))]))
    refine own_via (fun _ k => XS.iloadN X0.here hx rfl (hb hby at_17) rfl k) ?_
    show own_Go p e below s _ _ _ (s₁.setTop (mkF m 18 #[.val (.int p0), .val (.int p1), .val (.int p2), .val (.int p3), .val (.int p4), .val (.int (0 : Int32)), .val (.int v2), .unset, .unset, .unset, .unset, .unset, .unset, .unset, .unset, .unset, .unset] [(.int p2), (.int (v2 + (1 : Int32)))]))
    refine own_via (fun _ k => XS.iconst X0.here hx rfl (hb hby at_18) k) ?_
    show own_Go p e below s _ _ _ (s₁.setTop (mkF m 19 #[.val (.int p0), .val (.int p1), .val (.int p2), .val (.int p3), .val (.int p4), .val (.int (0 : Int32)), .val (.int v2), .unset, .unset, .unset, .unset, .unset, .unset, .unset, .unset, .unset, .unset] [(.int (3 : Int32)), (.int p2), (.int (v2 + (1 : Int32)))]))
    refine own_via (fun _ k => XS.iand X0.here hx rfl (hb hby at_19) rfl k) ?_
    show own_Go p e below s _ _ _ (s₁.setTop (mkF m 20 #[.val (.int p0), .val (.int p1), .val (.int p2), .val (.int p3), .val (.int p4), .val (.int (0 : Int32)), .val (.int v2), .unset, .unset, .unset, .unset, .unset, .unset, .unset, .unset, .unset, .unset] [(.int (p2 &&& (3 : Int32))), (.int (v2 + (1 : Int32)))]))
    refine own_via (fun _ k => XS.iadd X0.here hx rfl (hb hby at_20) rfl k) ?_
    show own_Go p e below s _ _ _ (s₁.setTop (mkF m 21 #[.val (.int p0), .val (.int p1), .val (.int p2), .val (.int p3), .val (.int p4), .val (.int (0 : Int32)), .val (.int v2), .unset, .unset, .unset, .unset, .unset, .unset, .unset, .unset, .unset, .unset] [(.int ((v2 + (1 : Int32)) + (p2 &&& (3 : Int32))))]))
    refine own_via (fun _ k => XS.istore X0.here hx rfl (hb hby at_21) rfl (l' := #[.val (.int p0), .val (.int p1), .val (.int p2), .val (.int p3), .val (.int p4), .val (.int (0 : Int32)), .val (.int v2), .val (.int ((v2 + (1 : Int32)) + (p2 &&& (3 : Int32)))), .unset, .unset, .unset, .unset, .unset, .unset, .unset, .unset, .unset]) rfl k) ?_
    show own_Go p e below s _ _ _ (s₁.setTop (mkF m 23 #[.val (.int p0), .val (.int p1), .val (.int p2), .val (.int p3), .val (.int p4), .val (.int (0 : Int32)), .val (.int v2), .val (.int ((v2 + (1 : Int32)) + (p2 &&& (3 : Int32)))), .unset, .unset, .unset, .unset, .unset, .unset, .unset, .unset, .unset] []))
    generalize hv3 : ((v2 + (1 : Int32)) + (p2 &&& (3 : Int32))) = v3
    show own_Go p e below s _ _ _ (s₁.setTop (mkF m 23 #[.val (.int p0), .val (.int p1), .val (.int p2), .val (.int p3), .val (.int p4), .val (.int (0 : Int32)), .val (.int v2), .val (.int v3), .unset, .unset, .unset, .unset, .unset, .unset, .unset, .unset, .unset] []))
    refine own_via (fun _ k => XS.iload X0.here hx rfl (hb hby at_23) rfl k) ?_
    show own_Go p e below s _ _ _ (s₁.setTop (mkF m 25 #[.val (.int p0), .val (.int p1), .val (.int p2), .val (.int p3), .val (.int p4), .val (.int (0 : Int32)), .val (.int v2), .val (.int v3), .unset, .unset, .unset, .unset, .unset, .unset, .unset, .unset, .unset] [(.int v3)]))
    refine own_via (fun _ k => XS.iconst X0.here hx rfl (hb hby at_25) k) ?_
    show own_Go p e below s _ _ _ (s₁.setTop (mkF m 26 #[.val (.int p0), .val (.int p1), .val (.int p2), .val (.int p3), .val (.int p4), .val (.int (0 : Int32)), .val (.int v2), .val (.int v3), .unset, .unset, .unset, .unset, .unset, .unset, .unset, .unset, .unset] [(.int (1 : Int32)), (.int v3)]))
    refine own_via (fun _ k => XS.iadd X0.here hx rfl (hb hby at_26) rfl k) ?_
    show own_Go p e below s _ _ _ (s₁.setTop (mkF m 27 #[.val (.int p0), .val (.int p1), .val (.int p2), .val (.int p3), .val (.int p4), .val (.int (0 : Int32)), .val (.int v2), .val (.int v3), .unset, .unset, .unset, .unset, .unset, .unset, .unset, .unset, .unset] [(.int (v3 + (1 : Int32)))]))
    refine own_via (fun _ k => XS.iloadN X0.here hx rfl (hb hby at_27) rfl k) ?_
    show own_Go p e below s _ _ _ (s₁.setTop (mkF m 28 #[.val (.int p0), .val (.int p1), .val (.int p2), .val (.int p3), .val (.int p4), .val (.int (0 : Int32)), .val (.int v2), .val (.int v3), .unset, .unset, .unset, .unset, .unset, .unset, .unset, .unset, .unset] [(.int p2), (.int (v3 + (1 : Int32)))]))
    refine own_via (fun _ k => XS.iconst X0.here hx rfl (hb hby at_28) k) ?_
    show own_Go p e below s _ _ _ (s₁.setTop (mkF m 29 #[.val (.int p0), .val (.int p1), .val (.int p2), .val (.int p3), .val (.int p4), .val (.int (0 : Int32)), .val (.int v2), .val (.int v3), .unset, .unset, .unset, .unset, .unset, .unset, .unset, .unset, .unset] [(.int (2 : Int32)), (.int p2), (.int (v3 + (1 : Int32)))]))
    refine own_via (fun _ k => XS.iushr X0.here hx rfl (hb hby at_29) rfl k) ?_
    show own_Go p e below s _ _ _ (s₁.setTop (mkF m 30 #[.val (.int p0), .val (.int p1), .val (.int p2), .val (.int p3), .val (.int p4), .val (.int (0 : Int32)), .val (.int v2), .val (.int v3), .unset, .unset, .unset, .unset, .unset, .unset, .unset, .unset, .unset] [(.int (o_iushr p2 (2 : Int32))), (.int (v3 + (1 : Int32)))]))
    refine own_via (fun _ k => XS.iconst X0.here hx rfl (hb hby at_30) k) ?_
    show own_Go p e below s _ _ _ (s₁.setTop (mkF m 31 #[.val (.int p0), .val (.int p1), .val (.int p2), .val (.int p3), .val (.int p4), .val (.int (0 : Int32)), .val (.int v2), .val (.int v3), .unset, .unset, .unset, .unset, .unset, .unset, .unset, .unset, .unset] [(.int (3 : Int32)), (.int (o_iushr p2 (2 : Int32))), (.int (v3 + (1 : Int32)))]))
    refine own_via (fun _ k => XS.iand X0.here hx rfl (hb hby at_31) rfl k) ?_
    show own_Go p e below s _ _ _ (s₁.setTop (mkF m 32 #[.val (.int p0), .val (.int p1), .val (.int p2), .val (.int p3), .val (.int p4), .val (.int (0 : Int32)), .val (.int v2), .val (.int v3), .unset, .unset, .unset, .unset, .unset, .unset, .unset, .unset, .unset] [(.int ((o_iushr p2 (2 : Int32)) &&& (3 : Int32))), (.int (v3 + (1 : Int32)))]))
    refine own_via (fun _ k => XS.iadd X0.here hx rfl (hb hby at_32) rfl k) ?_
    show own_Go p e below s _ _ _ (s₁.setTop (mkF m 33 #[.val (.int p0), .val (.int p1), .val (.int p2), .val (.int p3), .val (.int p4), .val (.int (0 : Int32)), .val (.int v2), .val (.int v3), .unset, .unset, .unset, .unset, .unset, .unset, .unset, .unset, .unset] [(.int ((v3 + (1 : Int32)) + ((o_iushr p2 (2 : Int32)) &&& (3 : Int32))))]))
    refine own_via (fun _ k => XS.istore X0.here hx rfl (hb hby at_33) rfl (l' := #[.val (.int p0), .val (.int p1), .val (.int p2), .val (.int p3), .val (.int p4), .val (.int (0 : Int32)), .val (.int v2), .val (.int v3), .val (.int ((v3 + (1 : Int32)) + ((o_iushr p2 (2 : Int32)) &&& (3 : Int32)))), .unset, .unset, .unset, .unset, .unset, .unset, .unset, .unset]) rfl k) ?_
    show own_Go p e below s _ _ _ (s₁.setTop (mkF m 35 #[.val (.int p0), .val (.int p1), .val (.int p2), .val (.int p3), .val (.int p4), .val (.int (0 : Int32)), .val (.int v2), .val (.int v3), .val (.int ((v3 + (1 : Int32)) + ((o_iushr p2 (2 : Int32)) &&& (3 : Int32)))), .unset, .unset, .unset, .unset, .unset, .unset, .unset, .unset] []))
    generalize hv4 : ((v3 + (1 : Int32)) + ((o_iushr p2 (2 : Int32)) &&& (3 : Int32))) = v4
    show own_Go p e below s _ _ _ (s₁.setTop (mkF m 35 #[.val (.int p0), .val (.int p1), .val (.int p2), .val (.int p3), .val (.int p4), .val (.int (0 : Int32)), .val (.int v2), .val (.int v3), .val (.int v4), .unset, .unset, .unset, .unset, .unset, .unset, .unset, .unset] []))
    refine own_via (fun _ k => XS.iload X0.here hx rfl (hb hby at_35) rfl k) ?_
    show own_Go p e below s _ _ _ (s₁.setTop (mkF m 37 #[.val (.int p0), .val (.int p1), .val (.int p2), .val (.int p3), .val (.int p4), .val (.int (0 : Int32)), .val (.int v2), .val (.int v3), .val (.int v4), .unset, .unset, .unset, .unset, .unset, .unset, .unset, .unset] [(.int (0 : Int32))]))
    refine own_via (fun _ k => XS.ifNo X0.here hx rfl (hb hby at_37) rfl (Jvm.Free.XT.i0_ne_f (by decide)) k) ?_
    show own_Go p e below s _ _ _ (s₁.setTop (mkF m 40 #[.val (.int p0), .val (.int p1), .val (.int p2), .val (.int p3), .val (.int p4), .val (.int (0 : Int32)), .val (.int v2), .val (.int v3), .val (.int v4), .unset, .unset, .unset, .unset, .unset, .unset, .unset, .unset] []))
    refine own_via (fun _ k => XS.iload X0.here hx rfl (hb hby at_40) rfl k) ?_
    show own_Go p e below s _ _ _ (s₁.setTop (mkF m 42 #[.val (.int p0), .val (.int p1), .val (.int p2), .val (.int p3), .val (.int p4), .val (.int (0 : Int32)), .val (.int v2), .val (.int v3), .val (.int v4), .unset, .unset, .unset, .unset, .unset, .unset, .unset, .unset] [(.int v2)]))
    refine own_via (fun _ k => XS.iconst X0.here hx rfl (hb hby at_42) k) ?_
    show own_Go p e below s _ _ _ (s₁.setTop (mkF m 43 #[.val (.int p0), .val (.int p1), .val (.int p2), .val (.int p3), .val (.int p4), .val (.int (0 : Int32)), .val (.int v2), .val (.int v3), .val (.int v4), .unset, .unset, .unset, .unset, .unset, .unset, .unset, .unset] [(.int (1 : Int32)), (.int v2)]))
    refine own_via (fun _ k => XS.isub X0.here hx rfl (hb hby at_43) rfl k) ?_
    show own_Go p e below s _ _ _ (s₁.setTop (mkF m 44 #[.val (.int p0), .val (.int p1), .val (.int p2), .val (.int p3), .val (.int p4), .val (.int (0 : Int32)), .val (.int v2), .val (.int v3), .val (.int v4), .unset, .unset, .unset, .unset, .unset, .unset, .unset, .unset] [(.int (v2 - (1 : Int32)))]))
    refine own_via (fun _ k => XS.goto X0.here hx rfl (pc0 := 44) (pc' := 71) rfl (hb hby at_44) (by decide) (by decide) k) ?_
    show own_Go p e below s _ _ _ (s₁.setTop (mkF m 71 #[.val (.int p0), .val (.int p1), .val (.int p2), .val (.int p3), .val (.int p4), .val (.int (0 : Int32)), .val (.int v2), .val (.int v3), .val (.int v4), .unset, .unset, .unset, .unset, .unset, .unset, .unset, .unset] [(.int (v2 - (1 : Int32)))]))
    refine own_via (fun _ k => XS.istore X0.here hx rfl (hb hby at_71) rfl (l' := #[.val (.int p0), .val (.int p1), .val (.int p2), .val (.int p3), .val (.int p4), .val (.int (0 : Int32)), .val (.int v2), .val (.int v3), .val (.int v4), .val (.int (v2 - (1 : Int32))), .unset, .unset, .unset, .unset, .unset, .unset, .unset]) rfl k) ?_
    show own_Go p e below s _ _ _ (s₁.setTop (mkF m 73 #[.val (.int p0), .val (.int p1), .val (.int p2), .val (.int p3), .val (.int p4), .val (.int (0 : Int32)), .val (.int v2), .val (.int v3), .val (.int v4), .val (.int (v2 - (1 : Int32))), .unset, .unset, .unset, .unset, .unset, .unset, .unset] []))
    generalize hv5 : (v2 - (1 : Int32)) = v5
    show own_Go p e below s _ _ _ (s₁.setTop (mkF m 73 #[.val (.int p0), .val (.int p1), .val (.int p2), .val (.int p3), .val (.int p4), .val (.int (0 : Int32)), .val (.int v2), .val (.int v3), .val (.int v4), .val (.int v5), .unset, .unset, .unset, .unset, .unset, .unset, .unset] []))
    refine own_via (fun _ k => XS.iload X0.here hx rfl (hb hby at_73) rfl k) ?_
    show own_Go p e below s _ _ _ (s₁.setTop (mkF m 75 #[.val (.int p0), .val (.int p1), .val (.int p2), .val (.int p3), .val (.int p4), .val (.int (0 : Int32)), .val (.int v2), .val (.int v3), .val (.int v4), .val (.int v5), .unset, .unset, .unset, .unset, .unset, .unset, .unset] [(.int v5)]))
    refine own_via (fun _ k => XS.iloadN X0.here hx rfl (hb hby at_75) rfl k) ?_
    show own_Go p e below s _ _ _ (s₁.setTop (mkF m 76 #[.val (.int p0), .val (.int p1), .val (.int p2), .val (.int p3), .val (.int p4), .val (.int (0 : Int32)), .val (.int v2), .val (.int v3), .val (.int v4), .val (.int v5), .unset, .unset, .unset, .unset, .unset, .unset, .unset] [(.int p3), (.int v5)]))
    refine own_via (fun _ k => XS.iconst X0.here hx rfl (hb hby at_76) k) ?_
    show own_Go p e below s _ _ _ (s₁.setTop (mkF m 77 #[.val (.int p0), .val (.int p1), .val (.int p2), .val (.int p3), .val (.int p4), .val (.int (0 : Int32)), .val (.int v2), .val (.int v3), .val (.int v4), .val (.int v5), .unset, .unset, .unset, .unset, .unset, .unset, .unset] [(.int (3 : Int32)), (.int p3), (.int v5)]))
    refine own_via (fun _ k => XS.iand X0.here hx rfl (hb hby at_77) rfl k) ?_
    show own_Go p e below s _ _ _ (s₁.setTop (mkF m 78 #[.val (.int p0), .val (.int p1), .val (.int p2), .val (.int p3), .val (.int p4), .val (.int (0 : Int32)), .val (.int v2), .val (.int v3), .val (.int v4), .val (.int v5), .unset, .unset, .unset, .unset, .unset, .unset, .unset] [(.int (p3 &&& (3 : Int32))), (.int v5)]))
    refine own_via (fun _ k => XS.iadd X0.here hx rfl (hb hby at_78) rfl k) ?_
    show own_Go p e below s _ _ _ (s₁.setTop (mkF m 79 #[.val (.int p0), .val (.int p1), .val (.int p2), .val (.int p3), .val (.int p4), .val (.int (0 : Int32)), .val (.int v2), .val (.int v3), .val (.int v4), .val (.int v5), .unset, .unset, .unset, .unset, .unset, .unset, .unset] [(.int (v5 + (p3 &&& (3 : Int32))))]))
    refine own_via (fun _ k => XS.istore X0.here hx rfl (hb hby at_79) rfl (l' := #[.val (.int p0), .val (.int p1), .val (.int p2), .val (.int p3), .val (.int p4), .val (.int (0 : Int32)), .val (.int v2), .val (.int v3), .val (.int v4), .val (.int v5), .val (.int (v5 + (p3 &&& (3 : Int32)))), .unset, .unset, .unset, .unset, .unset, .unset]) rfl k) ?_
    show own_Go p e below s _ _ _ (s₁.setTop (mkF m 81 #[.val (.int p0), .val (.int p1), .val (.int p2), .val (.int p3), .val (.int p4), .val (.int (0 : Int32)), .val (.int v2), .val (.int v3), .val (.int v4), .val (.int v5), .val (.int (v5 + (p3 &&& (3 : Int32)))), .unset, .unset, .unset, .unset, .unset, .unset] []))
    generalize hv6 : (v5 + (p3 &&& (3 : Int32))) = v6
    show own_Go p e below s _ _ _ (s₁.setTop (mkF m 81 #[.val (.int p0), .val (.int p1), .val (.int p2), .val (.int p3), .val (.int p4), .val (.int (0 : Int32)), .val (.int v2), .val (.int v3), .val (.int v4), .val (.int v5), .val (.int v6), .unset, .unset, .unset, .unset, .unset, .unset] []))
    refine own_via (fun _ k => XS.iload X0.here hx rfl (hb hby at_81) rfl k) ?_
    show own_Go p e below s _ _ _ (s₁.setTop (mkF m 83 #[.val (.int p0), .val (.int p1), .val (.int p2), .val (.int p3), .val (.int p4), .val (.int (0 : Int32)), .val (.int v2), .val (.int v3), .val (.int v4), .val (.int v5), .val (.int v6), .unset, .unset, .unset, .unset, .unset, .unset] [(.int (0 : Int32))]))
    obtain ⟨T7, h7, k7, X7, e7, E7, A7, st7⟩ := newP X0 hx hZ (hw _ (List.mem_of_getElem? (i := 1) rfl)) e0 (g := (mkF m 83 #[.val (.int p0), .val (.int p1), .val (.int p2), .val (.int p3), .val (.int p4), .val (.int (0 : Int32)), .val (.int v2), .val (.int v3), .val (.int v4), .val (.int v5), .val (.int v6), .unset, .unset, .unset, .unset, .unset, .unset] [(.int (0 : Int32))])) rfl (hb hby at_83) rfl (by decide) (cap := 0) (by decide) (by decide) (by decide) (by decide)
    obtain ⟨b7, gg7⟩ : ∃ z, z = h0.size := ⟨_, rfl⟩
    rw [← gg7] at A7 st7
    have g_b7 : n0 ≤ b7 := Nat.le_trans Z0 (Nat.le_of_eq gg7.symm)
    have Z7 : n0 ≤ h7.size := Nat.le_trans Z0 E7.1
    have V7 : Arv Z h7 b7 k7 .int (0 : Int32) [] (.int (0 : Int32)) := (Arv.new A7 (by decide)).pad (pad_rep [] (.int (0 : Int32)) 0)
    refine own_via st7 ?_
    show own_Go p e below s _ _ _ (T7.setTop (mkF m 85 #[.val (.int p0), .val (.int p1), .val (.int p2), .val (.int p3), .val (.int p4), .val (.int (0 : Int32)), .val (.int v2), .val (.int v3), .val (.int v4), .val (.int v5), .val (.int v6), .unset, .unset, .unset, .unset, .unset, .unset] [(.ref b7)]))
    refine own_via (fun _ k => XS.astore X7.here hx rfl (hb hby at_85) rfl rfl (l' := #[.val (.int p0), .val (.int p1), .val (.int p2), .val (.int p3), .val (.int p4), .val (.int (0 : Int32)), .val (.int v2), .val (.int v3), .val (.int v4), .val (.int v5), .val (.int v6), .val (.ref b7), .unset, .unset, .unset, .unset, .unset]) rfl k) ?_
    show own_Go p e below s _ _ _ (T7.setTop (mkF m 87 #[.val (.int p0), .val (.int p1), .val (.int p2), .val (.int p3), .val (.int p4), .val (.int (0 : Int32)), .val (.int v2), .val (.int v3), .val (.int v4), .val (.int v5), .val (.int v6), .val (.ref b7), .unset, .unset, .unset, .unset, .unset] []))
    refine own_via (fun _ k => XS.iload X7.here hx rfl (hb hby at_87) rfl k) ?_
    show own_Go p e below s _ _ _ (T7.setTop (mkF m 89 #[.val (.int p0), .val (.int p1), .val (.int p2), .val (.int p3), .val (.int p4), .val (.int (0 : Int32)), .val (.int v2), .val (.int v3), .val (.int v4), .val (.int v5), .val (.int v6), .val (.ref b7), .unset, .unset, .unset, .unset, .unset] [(.int (0 : Int32))]))
    refine own_via (fun _ k => XS.ifYes X7.here hx rfl (pc0 := 89) (pc' := 111) rfl (hb hby at_89) rfl (Jvm.Free.XT.i0_le_t (by decide)) (by decide) (by decide) k) ?_
    show own_Go p e below s _ _ _ (T7.setTop (mkF m 111 #[.val (.int p0), .val (.int p1), .val (.int p2), .val (.int p3), .val (.int p4), .val (.int (0 : Int32)), .val (.int v2), .val (.int v3), .val (.int v4), .val (.int v5), .val (.int v6), .val (.ref b7), .unset, .unset, .unset, .unset, .unset] []))
    refine own_via (fun _ k => XS.iload X7.here hx rfl (hb hby at_111) rfl k) ?_
    show own_Go p e below s _ _ _ (T7.setTop (mkF m 113 #[.val (.int p0), .val (.int p1), .val (.int p2), .val (.int p3), .val (.int p4), .val (.int (0 : Int32)), .val (.int v2), .val (.int v3), .val (.int v4), .val (.int v5), .val (.int v6), .val (.ref b7), .unset, .unset, .unset, .unset, .unset] [(.int (0 : Int32))]))
    refine own_via (fun _ k => XS.iconst X7.here hx rfl (hb hby at_113) k) ?_
    show own_Go p e below s _ _ _ (T7.setTop (mkF m 114 #[.val (.int p0), .val (.int p1), .val (.int p2), .val (.int p3), .val (.int p4), .val (.int (0 : Int32)), .val (.int v2), .val (.int v3), .val (.int v4), .val (.int v5), .val (.int v6), .val (.ref b7), .unset, .unset, .unset, .unset, .unset] [(.int (1 : Int32)), (.int (0 : Int32))]))
    refine own_via (fun _ k => XS.icmpYes X7.here hx rfl (pc0 := 114) (pc' := 136) rfl (hb hby at_114) rfl (Jvm.Free.XT.ii_le_t (by decide)) (by decide) (by decide) k) ?_
    show own_Go p e below s _ _ _ (T7.setTop (mkF m 136 #[.val (.int p0), .val (.int p1), .val (.int p2), .val (.int p3), .val (.int p4), .val (.int (0 : Int32)), .val (.int v2), .val (.int v3), .val (.int v4), .val (.int v5), .val (.int v6), .val (.ref b7), .unset, .unset, .unset, .unset, .unset] []))
    refine own_via (fun _ k => XS.iload X7.here hx rfl (hb hby at_136) rfl k) ?_
    show own_Go p e below s _ _ _ (T7.setTop (mkF m 138 #[.val (.int p0), .val (.int p1), .val (.int p2), .val (.int p3), .val (.int p4), .val (.int (0 : Int32)), .val (.int v2), .val (.int v3), .val (.int v4), .val (.int v5), .val (.int v6), .val (.ref b7), .unset, .unset, .unset, .unset, .unset] [(.int (0 : Int32))]))
    refine own_via (fun _ k => XS.iconst X7.here hx rfl (hb hby at_138) k) ?_
    show own_Go p e below s _ _ _ (T7.setTop (mkF m 139 #[.val (.int p0), .val (.int p1), .val (.int p2), .val (.int p3), .val (.int p4), .val (.int (0 : Int32)), .val (.int v2), .val (.int v3), .val (.int v4), .val (.int v5), .val (.int v6), .val (.ref b7), .unset, .unset, .unset, .unset, .unset] [(.int (2 : Int32)), (.int (0 : Int32))]))
    refine own_via (fun _ k => XS.icmpYes X7.here hx rfl (pc0 := 139) (pc' := 161) rfl (hb hby at_139) rfl (Jvm.Free.XT.ii_le_t (by decide)) (by decide) (by decide) k) ?_
    show own_Go p e below s _ _ _ (T7.setTop (mkF m 161 #[.val (.int p0), .val (.int p1), .val (.int p2), .val (.int p3), .val (.int p4), .val (.int (0 : Int32)), .val (.int v2), .val (.int v3), .val (.int v4), .val (.int v5), .val (.int v6), .val (.ref b7), .unset, .unset, .unset, .unset, .unset] []))
    refine own_via (fun _ k => XS.aload X7.here hx rfl (hb hby at_161) rfl rfl k) ?_
    show own_Go p e below s _ _ _ (T7.setTop (mkF m 163 #[.val (.int p0), .val (.int p1), .val (.int p2), .val (.int p3), .val (.int p4), .val (.int (0 : Int32)), .val (.int v2), .val (.int v3), .val (.int v4), .val (.int v5), .val (.int v6), .val (.ref b7), .unset, .unset, .unset, .unset, .unset] [(.ref b7)]))
    refine own_via (fun _ k => XS.iload X7.here hx rfl (hb hby at_163) rfl k) ?_
    show own_Go p e below s _ _ _ (T7.setTop (mkF m 165 #[.val (.int p0), .val (.int p1), .val (.int p2), .val (.int p3), .val (.int p4), .val (.int (0 : Int32)), .val (.int v2), .val (.int v3), .val (.int v4), .val (.int v5), .val (.int v6), .val (.ref b7), .unset, .unset, .unset, .unset, .unset] [(.int (0 : Int32)), (.ref b7)]))
    refine own_via (fun _ k => XS.iload X7.here hx rfl (hb hby at_165) rfl k) ?_
    show own_Go p e below s _ _ _ (T7.setTop (mkF m 167 #[.val (.int p0), .val (.int p1), .val (.int p2), .val (.int p3), .val (.int p4), .val (.int (0 : Int32)), .val (.int v2), .val (.int v3), .val (.int v4), .val (.int v5), .val (.int v6), .val (.ref b7), .unset, .unset, .unset, .unset, .unset] [(.int v6), (.int (0 : Int32)), (.ref b7)]))
    obtain ⟨_, _, ⟨T8, L8, k8, n8⟩, -, X8, ⟨Lc8, hQ8, l8, y8, z8⟩, st8⟩ := Jvm.LawKit.callS X7 hx (y := (⟨"com/example/unalike/unalike/engine/TSetsNextPinLaw", "rank", "([III)J"⟩ : MethodName)) hown (mvT hZ (hw _ (List.mem_of_getElem? (i := 2) rfl))) (mvT hZ (hw _ (List.mem_of_getElem? (i := 3) rfl))) (mvT hZ (hw _ (List.mem_of_getElem? (i := 4) rfl))) (mvT hZ (hw _ (List.mem_of_getElem? (i := 5) rfl))) (by decide) (backOf (W := 0) (rmr0 l Z a0 hw [] b7 (0 : Int32) v6 k7 (.int (0 : Int32)) h7 n0 Z7 V7 (by first | decide | (simp; done))) hZ (hw _ (List.mem_of_getElem? (i := 5) rfl)) (hw _ (List.mem_of_getElem? (i := 4) rfl)) (by decide) (by decide)) (g := (mkF m 167 #[.val (.int p0), .val (.int p1), .val (.int p2), .val (.int p3), .val (.int p4), .val (.int (0 : Int32)), .val (.int v2), .val (.int v3), .val (.int v4), .val (.int v5), .val (.int v6), .val (.ref b7), .unset, .unset, .unset, .unset, .unset] [(.int v6), (.int (0 : Int32)), (.ref b7)])) rfl (by rw [hml]; rfl) (argsL := [(.ref b7), (.int (0 : Int32)), (.int v6)]) (rest := []) (lenOf pd_3 rfl) rfl (by show 2 * 0 + _ ≤ _; exact Nat.le_of_eq rfl) (hb hby at_167) (fun _ _ => ⟨rfl, e7, (by decide : 1 + 0 ≤ _), (by decide : 0 + 0 ≤ _)⟩)
    dsimp only [Pt.U, Pt.locs, Pt.cells, Pt.slots] at X8 l8 y8 z8 st8 hQ8
    subst l8 y8 z8
    obtain ⟨rfl, N8q, e8⟩ := hQ8
    have N8 := Fr.app N0 N8q
    refine own_via st8 ?_
    show own_Go p e below s _ _ _ (T8.setTop (mkF m 170 #[.val (.int p0), .val (.int p1), .val (.int p2), .val (.int p3), .val (.int p4), .val (.int (0 : Int32)), .val (.int v2), .val (.int v3), .val (.int v4), .val (.int v5), .val (.int v6), .val (.ref b7), .unset, .unset, .unset, .unset, .unset] [(.long (own_rk0 v6))]))
    refine own_via (fun _ k => XS.lstore X8.here hx rfl (hb hby at_170) rfl (l' := #[.val (.int p0), .val (.int p1), .val (.int p2), .val (.int p3), .val (.int p4), .val (.int (0 : Int32)), .val (.int v2), .val (.int v3), .val (.int v4), .val (.int v5), .val (.int v6), .val (.ref b7), .val (.long (own_rk0 v6)), .second, .unset, .unset, .unset]) rfl k) ?_
    show own_Go p e below s _ _ _ (T8.setTop (mkF m 172 #[.val (.int p0), .val (.int p1), .val (.int p2), .val (.int p3), .val (.int p4), .val (.int (0 : Int32)), .val (.int v2), .val (.int v3), .val (.int v4), .val (.int v5), .val (.int v6), .val (.ref b7), .val (.long (own_rk0 v6)), .second, .unset, .unset, .unset] []))
    generalize hv9 : (own_rk0 v6) = v9
    show own_Go p e below s _ _ _ (T8.setTop (mkF m 172 #[.val (.int p0), .val (.int p1), .val (.int p2), .val (.int p3), .val (.int p4), .val (.int (0 : Int32)), .val (.int v2), .val (.int v3), .val (.int v4), .val (.int v5), .val (.int v6), .val (.ref b7), .val (.long v9), .second, .unset, .unset, .unset] []))
    refine own_via (fun _ k => XS.iload X8.here hx rfl (hb hby at_172) rfl k) ?_
    show own_Go p e below s _ _ _ (T8.setTop (mkF m 174 #[.val (.int p0), .val (.int p1), .val (.int p2), .val (.int p3), .val (.int p4), .val (.int (0 : Int32)), .val (.int v2), .val (.int v3), .val (.int v4), .val (.int v5), .val (.int v6), .val (.ref b7), .val (.long v9), .second, .unset, .unset, .unset] [(.int v6)]))
    refine own_via (fun _ k => XS.i2l X8.here hx rfl (hb hby at_174) rfl k) ?_
    show own_Go p e below s _ _ _ (T8.setTop (mkF m 175 #[.val (.int p0), .val (.int p1), .val (.int p2), .val (.int p3), .val (.int p4), .val (.int (0 : Int32)), .val (.int v2), .val (.int v3), .val (.int v4), .val (.int v5), .val (.int v6), .val (.ref b7), .val (.long v9), .second, .unset, .unset, .unset] [(.long (o_i2l v6))]))
    refine own_via (fun _ k => XS.iload X8.here hx rfl (hb hby at_175) rfl k) ?_
    show own_Go p e below s _ _ _ (T8.setTop (mkF m 177 #[.val (.int p0), .val (.int p1), .val (.int p2), .val (.int p3), .val (.int p4), .val (.int (0 : Int32)), .val (.int v2), .val (.int v3), .val (.int v4), .val (.int v5), .val (.int v6), .val (.ref b7), .val (.long v9), .second, .unset, .unset, .unset] [(.int (0 : Int32)), (.long (o_i2l v6))]))
    obtain ⟨_, _, ⟨T10, L10, k10, n10⟩, -, X10, ⟨Lc10, hQ10, l10, y10, z10⟩, st10⟩ := Jvm.LawKit.callS X8 hx (y := (⟨"com/example/unalike/unalike/engine/TSetsNextPinLaw", "choose", "(JI)J"⟩ : MethodName)) hown (mvT hZ (hw _ (List.mem_of_getElem? (i := 6) rfl))) (mvT hZ (hw _ (List.mem_of_getElem? (i := 7) rfl))) (mvT hZ (hw _ (List.mem_of_getElem? (i := 4) rfl))) (mvT hZ (hw _ (List.mem_of_getElem? (i := 8) rfl))) (by decide) (backOf (W := 0) (rm2 l Z a0 hw [] (o_i2l v6) (0 : Int32) h7 n0 Z7 ) hZ (hw _ (List.mem_of_getElem? (i := 8) rfl)) (hw _ (List.mem_of_getElem? (i := 4) rfl)) (by decide) (by decide)) (g := (mkF m 177 #[.val (.int p0), .val (.int p1), .val (.int p2), .val (.int p3), .val (.int p4), .val (.int (0 : Int32)), .val (.int v2), .val (.int v3), .val (.int v4), .val (.int v5), .val (.int v6), .val (.ref b7), .val (.long v9), .second, .unset, .unset, .unset] [(.int (0 : Int32)), (.long (o_i2l v6))])) rfl (by rw [hml]; rfl) (argsL := [(.long (o_i2l v6)), (.int (0 : Int32))]) (rest := []) (lenOf pd_1 rfl) rfl (by show 2 * 0 + _ ≤ _; exact Nat.le_of_eq rfl) (hb hby at_177) (fun _ _ => ⟨rfl, e8, (by decide : 1 + 0 ≤ _), (by decide : 0 + 0 ≤ _)⟩)
    dsimp only [Pt.U, Pt.locs, Pt.cells, Pt.slots] at X10 l10 y10 z10 st10 hQ10
    subst l10 y10 z10
    obtain ⟨rfl, N10q, e10⟩ := hQ10
    have N10 := Fr.app N8 N10q
    refine own_via st10 ?_
    show own_Go p e below s _ _ _ (T10.setTop (mkF m 180 #[.val (.int p0), .val (.int p1), .val (.int p2), .val (.int p3), .val (.int p4), .val (.int (0 : Int32)), .val (.int v2), .val (.int v3), .val (.int v4), .val (.int v5), .val (.int v6), .val (.ref b7), .val (.long v9), .second, .unset, .unset, .unset] [(.long (own_ch (o_i2l v6) (0 : Int32)))]))
    refine own_via (fun _ k => XS.iload X10.here hx rfl (hb hby at_180) rfl k) ?_
    show own_Go p e below s _ _ _ (T10.setTop (mkF m 182 #[.val (.int p0), .val (.int p1), .val (.int p2), .val (.int p3), .val (.int p4), .val (.int (0 : Int32)), .val (.int v2), .val (.int v3), .val (.int v4), .val (.int v5), .val (.int v6), .val (.ref b7), .val (.long v9), .second, .unset, .unset, .unset] [(.int (0 : Int32)), (.long (own_ch (o_i2l v6) (0 : Int32)))]))
    refine own_via (fun _ k => XS.lshl X10.here hx rfl (hb hby at_182) rfl k) ?_
    show own_Go p e below s _ _ _ (T10.setTop (mkF m 183 #[.val (.int p0), .val (.int p1), .val (.int p2), .val (.int p3), .val (.int p4), .val (.int (0 : Int32)), .val (.int v2), .val (.int v3), .val (.int v4), .val (.int v5), .val (.int v6), .val (.ref b7), .val (.long v9), .second, .unset, .unset, .unset] [(.long (o_lshl (own_ch (o_i2l v6) (0 : Int32)) (0 : Int32)))]))
    refine own_via (fun _ k => XS.lstore X10.here hx rfl (hb hby at_183) rfl (l' := #[.val (.int p0), .val (.int p1), .val (.int p2), .val (.int p3), .val (.int p4), .val (.int (0 : Int32)), .val (.int v2), .val (.int v3), .val (.int v4), .val (.int v5), .val (.int v6), .val (.ref b7), .val (.long v9), .second, .val (.long (o_lshl (own_ch (o_i2l v6) (0 : Int32)) (0 : Int32))), .second, .unset]) rfl k) ?_
    show own_Go p e below s _ _ _ (T10.setTop (mkF m 185 #[.val (.int p0), .val (.int p1), .val (.int p2), .val (.int p3), .val (.int p4), .val (.int (0 : Int32)), .val (.int v2), .val (.int v3), .val (.int v4), .val (.int v5), .val (.int v6), .val (.ref b7), .val (.long v9), .second, .val (.long (o_lshl (own_ch (o_i2l v6) (0 : Int32)) (0 : Int32))), .second, .unset] []))
    generalize hv11 : (o_lshl (own_ch (o_i2l v6) (0 : Int32)) (0 : Int32)) = v11
    show own_Go p e below s _ _ _ (T10.setTop (mkF m 185 #[.val (.int p0), .val (.int p1), .val (.int p2), .val (.int p3), .val (.int p4), .val (.int (0 : Int32)), .val (.int v2), .val (.int v3), .val (.int v4), .val (.int v5), .val (.int v6), .val (.ref b7), .val (.long v9), .second, .val (.long v11), .second, .unset] []))
    refine own_via (fun _ k => XS.aload X10.here hx rfl (hb hby at_185) rfl rfl k) ?_
    show own_Go p e below s _ _ _ (T10.setTop (mkF m 187 #[.val (.int p0), .val (.int p1), .val (.int p2), .val (.int p3), .val (.int p4), .val (.int (0 : Int32)), .val (.int v2), .val (.int v3), .val (.int v4), .val (.int v5), .val (.int v6), .val (.ref b7), .val (.long v9), .second, .val (.long v11), .second, .unset] [(.ref b7)]))
    refine own_via (fun _ k => XS.iload X10.here hx rfl (hb hby at_187) rfl k) ?_
    show own_Go p e below s _ _ _ (T10.setTop (mkF m 189 #[.val (.int p0), .val (.int p1), .val (.int p2), .val (.int p3), .val (.int p4), .val (.int (0 : Int32)), .val (.int v2), .val (.int v3), .val (.int v4), .val (.int v5), .val (.int v6), .val (.ref b7), .val (.long v9), .second, .val (.long v11), .second, .unset] [(.int v6), (.ref b7)]))
    obtain ⟨_, _, ⟨T12, L12, k12, n12⟩, -, X12, ⟨Lc12, hQ12, l12, y12, z12⟩, st12⟩ := Jvm.LawKit.callS X10 hx (y := (⟨"com/example/unalike/unalike/engine/TSets", "next", "([II)Z"⟩ : MethodName)) hown (mvT hZ (hw _ (List.mem_of_getElem? (i := 9) rfl))) (mvT hZ (hw _ (List.mem_of_getElem? (i := 10) rfl))) (mvT hZ (hw _ (List.mem_of_getElem? (i := 11) rfl))) (mvT hZ (hw _ (List.mem_of_getElem? (i := 12) rfl))) (by decide) (backOf (W := 0) (rmn0 l Z a0 hw [] b7 v6 k7 (.int (0 : Int32)) h7 n0 Z7 V7 g_b7) hZ (hw _ (List.mem_of_getElem? (i := 12) rfl)) (hw _ (List.mem_of_getElem? (i := 11) rfl)) (by decide) (by decide)) (g := (mkF m 189 #[.val (.int p0), .val (.int p1), .val (.int p2), .val (.int p3), .val (.int p4), .val (.int (0 : Int32)), .val (.int v2), .val (.int v3), .val (.int v4), .val (.int v5), .val (.int v6), .val (.ref b7), .val (.long v9), .second, .val (.long v11), .second, .unset] [(.int v6), (.ref b7)])) rfl (by rw [hml]; rfl) (argsL := [(.ref b7), (.int v6)]) (rest := []) (lenOf pd_4 rfl) rfl (by show 2 * 0 + _ ≤ _; exact Nat.le_of_eq rfl) (hb hby at_189) (fun _ _ => ⟨rfl, e10, (by decide : 1 + 0 ≤ _), (by decide : 0 + 0 ≤ _)⟩)
    dsimp only [Pt.U, Pt.locs, Pt.cells, Pt.slots] at X12 l12 y12 z12 st12 hQ12
    subst l12 y12 z12
    obtain ⟨h12, e12⟩ : ∃ h, T12.heap = h := ⟨_, rfl⟩
    rw [e12] at hQ12
    obtain ⟨rfl, N12q, Kq12, F13⟩ := hQ12
    have Z12 : n0 ≤ h12.size := Nat.le_trans Z7 Kq12.1
    have N12 := Fr.app N10 N12q
    refine own_via st12 ?_
    show own_Go p e below s _ _ _ (T12.setTop (mkF m 192 #[.val (.int p0), .val (.int p1), .val (.int p2), .val (.int p3), .val (.int p4), .val (.int (0 : Int32)), .val (.int v2), .val (.int v3), .val (.int v4), .val (.int v5), .val (.int v6), .val (.ref b7), .val (.long v9), .second, .val (.long v11), .second, .unset] [(.int (own_nr0 v6))]))
    refine own_via (fun _ k => XS.istore X12.here hx rfl (hb hby at_192) rfl (l' := #[.val (.int p0), .val (.int p1), .val (.int p2), .val (.int p3), .val (.int p4), .val (.int (0 : Int32)), .val (.int v2), .val (.int v3), .val (.int v4), .val (.int v5), .val (.int v6), .val (.ref b7), .val (.long v9), .second, .val (.long v11), .second, .val (.int (own_nr0 v6))]) rfl k) ?_
    show own_Go p e below s _ _ _ (T12.setTop (mkF m 194 #[.val (.int p0), .val (.int p1), .val (.int p2), .val (.int p3), .val (.int p4), .val (.int (0 : Int32)), .val (.int v2), .val (.int v3), .val (.int v4), .val (.int v5), .val (.int v6), .val (.ref b7), .val (.long v9), .second, .val (.long v11), .second, .val (.int (own_nr0 v6))] []))
    generalize hv14 : (own_nr0 v6) = v14
    show own_Go p e below s _ _ _ (T12.setTop (mkF m 194 #[.val (.int p0), .val (.int p1), .val (.int p2), .val (.int p3), .val (.int p4), .val (.int (0 : Int32)), .val (.int v2), .val (.int v3), .val (.int v4), .val (.int v5), .val (.int v6), .val (.ref b7), .val (.long v9), .second, .val (.long v11), .second, .val (.int v14)] []))
    refine own_via (fun _ k => XS.lload X12.here hx rfl (hb hby at_194) rfl k) ?_
    show own_Go p e below s _ _ _ (T12.setTop (mkF m 196 #[.val (.int p0), .val (.int p1), .val (.int p2), .val (.int p3), .val (.int p4), .val (.int (0 : Int32)), .val (.int v2), .val (.int v3), .val (.int v4), .val (.int v5), .val (.int v6), .val (.ref b7), .val (.long v9), .second, .val (.long v11), .second, .val (.int v14)] [(.long v9)]))
    refine own_via (fun _ k => XS.lconst X12.here hx rfl (hb hby at_196) k) ?_
    show own_Go p e below s _ _ _ (T12.setTop (mkF m 197 #[.val (.int p0), .val (.int p1), .val (.int p2), .val (.int p3), .val (.int p4), .val (.int (0 : Int32)), .val (.int v2), .val (.int v3), .val (.int v4), .val (.int v5), .val (.int v6), .val (.ref b7), .val (.long v9), .second, .val (.long v11), .second, .val (.int v14)] [(.long (1 : Int64)), (.long v9)]))
    refine own_via (fun _ k => XS.ladd X12.here hx rfl (hb hby at_197) rfl k) ?_
    show own_Go p e below s _ _ _ (T12.setTop (mkF m 198 #[.val (.int p0), .val (.int p1), .val (.int p2), .val (.int p3), .val (.int p4), .val (.int (0 : Int32)), .val (.int v2), .val (.int v3), .val (.int v4), .val (.int v5), .val (.int v6), .val (.ref b7), .val (.long v9), .second, .val (.long v11), .second, .val (.int v14)] [(.long (v9 + (1 : Int64)))]))
    refine own_via (fun _ k => XS.lload X12.here hx rfl (hb hby at_198) rfl k) ?_
    show own_Go p e below s _ _ _ (T12.setTop (mkF m 200 #[.val (.int p0), .val (.int p1), .val (.int p2), .val (.int p3), .val (.int p4), .val (.int (0 : Int32)), .val (.int v2), .val (.int v3), .val (.int v4), .val (.int v5), .val (.int v6), .val (.ref b7), .val (.long v9), .second, .val (.long v11), .second, .val (.int v14)] [(.long v11), (.long (v9 + (1 : Int64)))]))
    refine own_via (fun _ k => XS.lcmp X12.here hx rfl (hb hby at_200) rfl k) ?_
    show own_Go p e below s _ _ _ (T12.setTop (mkF m 201 #[.val (.int p0), .val (.int p1), .val (.int p2), .val (.int p3), .val (.int p4), .val (.int (0 : Int32)), .val (.int v2), .val (.int v3), .val (.int v4), .val (.int v5), .val (.int v6), .val (.ref b7), .val (.long v9), .second, .val (.long v11), .second, .val (.int v14)] [(.int (lcmpW (v9 + (1 : Int64)) v11))]))
    have hc15 : ¬ ((v9 + (1 : Int64)) < v11) := (own_law0 hv9 hv11)
    refine own_via (fun _ k => XS.ifYes X12.here hx rfl (pc0 := 201) (pc' := 244) rfl (hb hby at_201) rfl (Jvm.Free.XT.ll_ge_t hc15) (by decide) (by decide) k) ?_
    show own_Go p e below s _ _ _ (T12.setTop (mkF m 244 #[.val (.int p0), .val (.int p1), .val (.int p2), .val (.int p3), .val (.int p4), .val (.int (0 : Int32)), .val (.int v2), .val (.int v3), .val (.int v4), .val (.int v5), .val (.int v6), .val (.ref b7), .val (.long v9), .second, .val (.long v11), .second, .val (.int v14)] []))
    refine own_via (fun _ k => XS.iload X12.here hx rfl (hb hby at_244) rfl k) ?_
    show own_Go p e below s _ _ _ (T12.setTop (mkF m 246 #[.val (.int p0), .val (.int p1), .val (.int p2), .val (.int p3), .val (.int p4), .val (.int (0 : Int32)), .val (.int v2), .val (.int v3), .val (.int v4), .val (.int v5), .val (.int v6), .val (.ref b7), .val (.long v9), .second, .val (.long v11), .second, .val (.int v14)] [(.int v14)]))
    have hc16 : v14 = (0 : Int32) := hv14.symm
    refine own_via (fun _ k => XS.ifNo X12.here hx rfl (hb hby at_246) rfl (Jvm.Free.XT.i0_ne_f hc16) k) ?_
    show own_Go p e below s _ _ _ (T12.setTop (mkF m 249 #[.val (.int p0), .val (.int p1), .val (.int p2), .val (.int p3), .val (.int p4), .val (.int (0 : Int32)), .val (.int v2), .val (.int v3), .val (.int v4), .val (.int v5), .val (.int v6), .val (.ref b7), .val (.long v9), .second, .val (.long v11), .second, .val (.int v14)] []))
    refine own_via (fun _ k => XS.iload X12.here hx rfl (hb hby at_249) rfl k) ?_
    show own_Go p e below s _ _ _ (T12.setTop (mkF m 251 #[.val (.int p0), .val (.int p1), .val (.int p2), .val (.int p3), .val (.int p4), .val (.int (0 : Int32)), .val (.int v2), .val (.int v3), .val (.int v4), .val (.int v5), .val (.int v6), .val (.ref b7), .val (.long v9), .second, .val (.long v11), .second, .val (.int v14)] [(.int (0 : Int32))]))
    refine own_via (fun _ k => XS.iconst X12.here hx rfl (hb hby at_251) k) ?_
    show own_Go p e below s _ _ _ (T12.setTop (mkF m 252 #[.val (.int p0), .val (.int p1), .val (.int p2), .val (.int p3), .val (.int p4), .val (.int (0 : Int32)), .val (.int v2), .val (.int v3), .val (.int v4), .val (.int v5), .val (.int v6), .val (.ref b7), .val (.long v9), .second, .val (.long v11), .second, .val (.int v14)] [(.int (1 : Int32)), (.int (0 : Int32))]))
    refine own_via (fun _ k => XS.icmpYes X12.here hx rfl (pc0 := 252) (pc' := 264) rfl (hb hby at_252) rfl (Jvm.Free.XT.ii_lt_t (by decide)) (by decide) (by decide) k) ?_
    show own_Go p e below s _ _ _ (T12.setTop (mkF m 264 #[.val (.int p0), .val (.int p1), .val (.int p2), .val (.int p3), .val (.int p4), .val (.int (0 : Int32)), .val (.int v2), .val (.int v3), .val (.int v4), .val (.int v5), .val (.int v6), .val (.ref b7), .val (.long v9), .second, .val (.long v11), .second, .val (.int v14)] []))
    refine own_via (fun _ k => XS.iload X12.here hx rfl (hb hby at_264) rfl k) ?_
    show own_Go p e below s _ _ _ (T12.setTop (mkF m 266 #[.val (.int p0), .val (.int p1), .val (.int p2), .val (.int p3), .val (.int p4), .val (.int (0 : Int32)), .val (.int v2), .val (.int v3), .val (.int v4), .val (.int v5), .val (.int v6), .val (.ref b7), .val (.long v9), .second, .val (.long v11), .second, .val (.int v14)] [(.int (0 : Int32))]))
    refine own_via (fun _ k => XS.iconst X12.here hx rfl (hb hby at_266) k) ?_
    show own_Go p e below s _ _ _ (T12.setTop (mkF m 267 #[.val (.int p0), .val (.int p1), .val (.int p2), .val (.int p3), .val (.int p4), .val (.int (0 : Int32)), .val (.int v2), .val (.int v3), .val (.int v4), .val (.int v5), .val (.int v6), .val (.ref b7), .val (.long v9), .second, .val (.long v11), .second, .val (.int v14)] [(.int (2 : Int32)), (.int (0 : Int32))]))
    refine own_via (fun _ k => XS.icmpYes X12.here hx rfl (pc0 := 267) (pc' := 279) rfl (hb hby at_267) rfl (Jvm.Free.XT.ii_lt_t (by decide)) (by decide) (by decide) k) ?_
    show own_Go p e below s _ _ _ (T12.setTop (mkF m 279 #[.val (.int p0), .val (.int p1), .val (.int p2), .val (.int p3), .val (.int p4), .val (.int (0 : Int32)), .val (.int v2), .val (.int v3), .val (.int v4), .val (.int v5), .val (.int v6), .val (.ref b7), .val (.long v9), .second, .val (.long v11), .second, .val (.int v14)] []))
    refine own_via (fun _ k => XS.iload X12.here hx rfl (hb hby at_279) rfl k) ?_
    show own_Go p e below s _ _ _ (T12.setTop (mkF m 281 #[.val (.int p0), .val (.int p1), .val (.int p2), .val (.int p3), .val (.int p4), .val (.int (0 : Int32)), .val (.int v2), .val (.int v3), .val (.int v4), .val (.int v5), .val (.int v6), .val (.ref b7), .val (.long v9), .second, .val (.long v11), .second, .val (.int v14)] [(.int (0 : Int32))]))
    refine own_via (fun _ k => XS.iconst X12.here hx rfl (hb hby at_281) k) ?_
    show own_Go p e below s _ _ _ (T12.setTop (mkF m 282 #[.val (.int p0), .val (.int p1), .val (.int p2), .val (.int p3), .val (.int p4), .val (.int (0 : Int32)), .val (.int v2), .val (.int v3), .val (.int v4), .val (.int v5), .val (.int v6), .val (.ref b7), .val (.long v9), .second, .val (.long v11), .second, .val (.int v14)] [(.int (3 : Int32)), (.int (0 : Int32))]))
    refine own_via (fun _ k => XS.icmpYes X12.here hx rfl (pc0 := 282) (pc' := 294) rfl (hb hby at_282) rfl (Jvm.Free.XT.ii_lt_t (by decide)) (by decide) (by decide) k) ?_
    show own_Go p e below s _ _ _ (T12.setTop (mkF m 294 #[.val (.int p0), .val (.int p1), .val (.int p2), .val (.int p3), .val (.int p4), .val (.int (0 : Int32)), .val (.int v2), .val (.int v3), .val (.int v4), .val (.int v5), .val (.int v6), .val (.ref b7), .val (.long v9), .second, .val (.long v11), .second, .val (.int v14)] []))
    refine own_via (fun _ k => XS.iconst X12.here hx rfl (hb hby at_294) k) ?_
    show own_Go p e below s _ _ _ (T12.setTop (mkF m 295 #[.val (.int p0), .val (.int p1), .val (.int p2), .val (.int p3), .val (.int p4), .val (.int (0 : Int32)), .val (.int v2), .val (.int v3), .val (.int v4), .val (.int v5), .val (.int v6), .val (.ref b7), .val (.long v9), .second, .val (.long v11), .second, .val (.int v14)] [(.int (1 : Int32))]))
    refine own_via (fun _ k => XS.goto X12.here hx rfl (pc0 := 295) (pc' := 299) rfl (hb hby at_295) (by decide) (by decide) k) ?_
    show own_Go p e below s _ _ _ (T12.setTop (mkF m 299 #[.val (.int p0), .val (.int p1), .val (.int p2), .val (.int p3), .val (.int p4), .val (.int (0 : Int32)), .val (.int v2), .val (.int v3), .val (.int v4), .val (.int v5), .val (.int v6), .val (.ref b7), .val (.long v9), .second, .val (.long v11), .second, .val (.int v14)] [(.int (1 : Int32))]))
    exact own_goN X12 hx (t := .boolean) Bd.returns (by simp) (hb hby at_299) Bd.notSynchronized (by decide) (by decide) (by rw [e12]; exact ⟨rfl, N12⟩)
  · show own_Go p e below s _ _ _ (s₁.setTop (mkF m 5 #[.val (.int p0), .val (.int p1), .val (.int p2), .val (.int p3), .val (.int p4), .val (.int (1 : Int32)), .unset, .unset, .unset, .unset, .unset, .unset, .unset, .unset, .unset, .unset, .unset] []))
    refine own_via (fun _ k => XS.iconst X0.here hx rfl (hb hby at_5) k) ?_
    show own_Go p e below s _ _ _ (s₁.setTop (mkF m 6 #[.val (.int p0), .val (.int p1), .val (.int p2), .val (.int p3), .val (.int p4), .val (.int (1 : Int32)), .unset, .unset, .unset, .unset, .unset, .unset, .unset, .unset, .unset, .unset, .unset] [(.int (1 : Int32))]))
    refine own_via (fun _ k => XS.iloadN X0.here hx rfl (hb hby at_6) rfl k) ?_
    show own_Go p e below s _ _ _ (s₁.setTop (mkF m 7 #[.val (.int p0), .val (.int p1), .val (.int p2), .val (.int p3), .val (.int p4), .val (.int (1 : Int32)), .unset, .unset, .unset, .unset, .unset, .unset, .unset, .unset, .unset, .unset, .unset] [(.int p1), (.int (1 : Int32))]))
    refine own_via (fun _ k => X0.ldcInt hx hown (mvT hZ (hw _ (List.mem_of_getElem? (i := 0) rfl))) (g := (mkF m 7 #[.val (.int p0), .val (.int p1), .val (.int p2), .val (.int p3), .val (.int p4), .val (.int (1 : Int32)), .unset, .unset, .unset, .unset, .unset, .unset, .unset, .unset, .unset, .unset, .unset] [(.int p1), (.int (1 : Int32))])) rfl (hb hby at_7) _ k) ?_
    show own_Go p e below s _ _ _ (s₁.setTop (mkF m 9 #[.val (.int p0), .val (.int p1), .val (.int p2), .val (.int p3), .val (.int p4), .val (.int (1 : Int32)), .unset, .unset, .unset, .unset, .unset, .unset, .unset, .unset, .unset, .unset, .unset] [(.int (1048575 : Int32)), (.int p1), (.int (1 : Int32))]))
    refine own_via (fun _ k => XS.iand X0.here hx rfl (hb hby at_9) rfl k) ?_
    show own_Go p e below s _ _ _ (s₁.setTop (mkF m 10 #[.val (.int p0), .val (.int p1), .val (.int p2), .val (.int p3), .val (.int p4), .val (.int (1 : Int32)), .unset, .unset, .unset, .unset, .unset, .unset, .unset, .unset, .unset, .unset, .unset] [(.int (p1 &&& (1048575 : Int32))), (.int (1 : Int32))]))
    refine own_via (fun _ k => XS.iadd X0.here hx rfl (hb hby at_10) rfl k) ?_
    show own_Go p e below s _ _ _ (s₁.setTop (mkF m 11 #[.val (.int p0), .val (.int p1), .val (.int p2), .val (.int p3), .val (.int p4), .val (.int (1 : Int32)), .unset, .unset, .unset, .unset, .unset, .unset, .unset, .unset, .unset, .unset, .unset] [(.int ((1 : Int32) + (p1 &&& (1048575 : Int32))))]))
    refine own_via (fun _ k => XS.istore X0.here hx rfl (hb hby at_11) rfl (l' := #[.val (.int p0), .val (.int p1), .val (.int p2), .val (.int p3), .val (.int p4), .val (.int (1 : Int32)), .val (.int ((1 : Int32) + (p1 &&& (1048575 : Int32)))), .unset, .unset, .unset, .unset, .unset, .unset, .unset, .unset, .unset, .unset]) rfl k) ?_
    show own_Go p e below s _ _ _ (s₁.setTop (mkF m 13 #[.val (.int p0), .val (.int p1), .val (.int p2), .val (.int p3), .val (.int p4), .val (.int (1 : Int32)), .val (.int ((1 : Int32) + (p1 &&& (1048575 : Int32)))), .unset, .unset, .unset, .unset, .unset, .unset, .unset, .unset, .unset, .unset] []))
    generalize hv17 : ((1 : Int32) + (p1 &&& (1048575 : Int32))) = v17
    show own_Go p e below s _ _ _ (s₁.setTop (mkF m 13 #[.val (.int p0), .val (.int p1), .val (.int p2), .val (.int p3), .val (.int p4), .val (.int (1 : Int32)), .val (.int v17), .unset, .unset, .unset, .unset, .unset, .unset, .unset, .unset, .unset, .unset] []))
    refine own_via (fun _ k => XS.iload X0.here hx rfl (hb hby at_13) rfl k) ?_
    show own_Go p e below s _ _ _ (s₁.setTop (mkF m 15 #[.val (.int p0), .val (.int p1), .val (.int p2), .val (.int p3), .val (.int p4), .val (.int (1 : Int32)), .val (.int v17), .unset, .unset, .unset, .unset, .unset, .unset, .unset, .unset, .unset, .unset] [(.int v17)]))
    refine own_via (fun _ k => XS.iconst X0.here hx rfl (hb hby at_15) k) ?_
    show own_Go p e below s _ _ _ (s₁.setTop (mkF m 16 #[.val (.int p0), .val (.int p1), .val (.int p2), .val (.int p3), .val (.int p4), .val (.int (1 : Int32)), .val (.int v17), .unset, .unset, .unset, .unset, .unset, .unset, .unset, .unset, .unset, .unset] [(.int (1 : Int32)), (.int v17)]))
    refine own_via (fun _ k => XS.iadd X0.here hx rfl (hb hby at_16) rfl k) ?_
    show own_Go p e below s _ _ _ (s₁.setTop (mkF m 17 #[.val (.int p0), .val (.int p1), .val (.int p2), .val (.int p3), .val (.int p4), .val (.int (1 : Int32)), .val (.int v17), .unset, .unset, .unset, .unset, .unset, .unset, .unset, .unset, .unset, .unset] [(.int (v17 + (1 : Int32)))]))
    refine own_via (fun _ k => XS.iloadN X0.here hx rfl (hb hby at_17) rfl k) ?_
    show own_Go p e below s _ _ _ (s₁.setTop (mkF m 18 #[.val (.int p0), .val (.int p1), .val (.int p2), .val (.int p3), .val (.int p4), .val (.int (1 : Int32)), .val (.int v17), .unset, .unset, .unset, .unset, .unset, .unset, .unset, .unset, .unset, .unset] [(.int p2), (.int (v17 + (1 : Int32)))]))
    refine own_via (fun _ k => XS.iconst X0.here hx rfl (hb hby at_18) k) ?_
    show own_Go p e below s _ _ _ (s₁.setTop (mkF m 19 #[.val (.int p0), .val (.int p1), .val (.int p2), .val (.int p3), .val (.int p4), .val (.int (1 : Int32)), .val (.int v17), .unset, .unset, .unset, .unset, .unset, .unset, .unset, .unset, .unset, .unset] [(.int (3 : Int32)), (.int p2), (.int (v17 + (1 : Int32)))]))
    refine own_via (fun _ k => XS.iand X0.here hx rfl (hb hby at_19) rfl k) ?_
    show own_Go p e below s _ _ _ (s₁.setTop (mkF m 20 #[.val (.int p0), .val (.int p1), .val (.int p2), .val (.int p3), .val (.int p4), .val (.int (1 : Int32)), .val (.int v17), .unset, .unset, .unset, .unset, .unset, .unset, .unset, .unset, .unset, .unset] [(.int (p2 &&& (3 : Int32))), (.int (v17 + (1 : Int32)))]))
    refine own_via (fun _ k => XS.iadd X0.here hx rfl (hb hby at_20) rfl k) ?_
    show own_Go p e below s _ _ _ (s₁.setTop (mkF m 21 #[.val (.int p0), .val (.int p1), .val (.int p2), .val (.int p3), .val (.int p4), .val (.int (1 : Int32)), .val (.int v17), .unset, .unset, .unset, .unset, .unset, .unset, .unset, .unset, .unset, .unset] [(.int ((v17 + (1 : Int32)) + (p2 &&& (3 : Int32))))]))
    refine own_via (fun _ k => XS.istore X0.here hx rfl (hb hby at_21) rfl (l' := #[.val (.int p0), .val (.int p1), .val (.int p2), .val (.int p3), .val (.int p4), .val (.int (1 : Int32)), .val (.int v17), .val (.int ((v17 + (1 : Int32)) + (p2 &&& (3 : Int32)))), .unset, .unset, .unset, .unset, .unset, .unset, .unset, .unset, .unset]) rfl k) ?_
    show own_Go p e below s _ _ _ (s₁.setTop (mkF m 23 #[.val (.int p0), .val (.int p1), .val (.int p2), .val (.int p3), .val (.int p4), .val (.int (1 : Int32)), .val (.int v17), .val (.int ((v17 + (1 : Int32)) + (p2 &&& (3 : Int32)))), .unset, .unset, .unset, .unset, .unset, .unset, .unset, .unset, .unset] []))
    generalize hv18 : ((v17 + (1 : Int32)) + (p2 &&& (3 : Int32))) = v18
    show own_Go p e below s _ _ _ (s₁.setTop (mkF m 23 #[.val (.int p0), .val (.int p1), .val (.int p2), .val (.int p3), .val (.int p4), .val (.int (1 : Int32)), .val (.int v17), .val (.int v18), .unset, .unset, .unset, .unset, .unset, .unset, .unset, .unset, .unset] []))
    refine own_via (fun _ k => XS.iload X0.here hx rfl (hb hby at_23) rfl k) ?_
    show own_Go p e below s _ _ _ (s₁.setTop (mkF m 25 #[.val (.int p0), .val (.int p1), .val (.int p2), .val (.int p3), .val (.int p4), .val (.int (1 : Int32)), .val (.int v17), .val (.int v18), .unset, .unset, .unset, .unset, .unset, .unset, .unset, .unset, .unset] [(.int v18)]))
    refine own_via (fun _ k => XS.iconst X0.here hx rfl (hb hby at_25) k) ?_
    show own_Go p e below s _ _ _ (s₁.setTop (mkF m 26 #[.val (.int p0), .val (.int p1), .val (.int p2), .val (.int p3), .val (.int p4), .val (.int (1 : Int32)), .val (.int v17), .val (.int v18), .unset, .unset, .unset, .unset, .unset, .unset, .unset, .unset, .unset] [(.int (1 : Int32)), (.int v18)]))
    refine own_via (fun _ k => XS.iadd X0.here hx rfl (hb hby at_26) rfl k) ?_
    show own_Go p e below s _ _ _ (s₁.setTop (mkF m 27 #[.val (.int p0), .val (.int p1), .val (.int p2), .val (.int p3), .val (.int p4), .val (.int (1 : Int32)), .val (.int v17), .val (.int v18), .unset, .unset, .unset, .unset, .unset, .unset, .unset, .unset, .unset] [(.int (v18 + (1 : Int32)))]))
    refine own_via (fun _ k => XS.iloadN X0.here hx rfl (hb hby at_27) rfl k) ?_
    show own_Go p e below s _ _ _ (s₁.setTop (mkF m 28 #[.val (.int p0), .val (.int p1), .val (.int p2), .val (.int p3), .val (.int p4), .val (.int (1 : Int32)), .val (.int v17), .val (.int v18), .unset, .unset, .unset, .unset, .unset, .unset, .unset, .unset, .unset] [(.int p2), (.int (v18 + (1 : Int32)))]))
    refine own_via (fun _ k => XS.iconst X0.here hx rfl (hb hby at_28) k) ?_
    show own_Go p e below s _ _ _ (s₁.setTop (mkF m 29 #[.val (.int p0), .val (.int p1), .val (.int p2), .val (.int p3), .val (.int p4), .val (.int (1 : Int32)), .val (.int v17), .val (.int v18), .unset, .unset, .unset, .unset, .unset, .unset, .unset, .unset, .unset] [(.int (2 : Int32)), (.int p2), (.int (v18 + (1 : Int32)))]))
    refine own_via (fun _ k => XS.iushr X0.here hx rfl (hb hby at_29) rfl k) ?_
    show own_Go p e below s _ _ _ (s₁.setTop (mkF m 30 #[.val (.int p0), .val (.int p1), .val (.int p2), .val (.int p3), .val (.int p4), .val (.int (1 : Int32)), .val (.int v17), .val (.int v18), .unset, .unset, .unset, .unset, .unset, .unset, .unset, .unset, .unset] [(.int (o_iushr p2 (2 : Int32))), (.int (v18 + (1 : Int32)))]))
    refine own_via (fun _ k => XS.iconst X0.here hx rfl (hb hby at_30) k) ?_
    show own_Go p e below s _ _ _ (s₁.setTop (mkF m 31 #[.val (.int p0), .val (.int p1), .val (.int p2), .val (.int p3), .val (.int p4), .val (.int (1 : Int32)), .val (.int v17), .val (.int v18), .unset, .unset, .unset, .unset, .unset, .unset, .unset, .unset, .unset] [(.int (3 : Int32)), (.int (o_iushr p2 (2 : Int32))), (.int (v18 + (1 : Int32)))]))
    refine own_via (fun _ k => XS.iand X0.here hx rfl (hb hby at_31) rfl k) ?_
    show own_Go p e below s _ _ _ (s₁.setTop (mkF m 32 #[.val (.int p0), .val (.int p1), .val (.int p2), .val (.int p3), .val (.int p4), .val (.int (1 : Int32)), .val (.int v17), .val (.int v18), .unset, .unset, .unset, .unset, .unset, .unset, .unset, .unset, .unset] [(.int ((o_iushr p2 (2 : Int32)) &&& (3 : Int32))), (.int (v18 + (1 : Int32)))]))
    refine own_via (fun _ k => XS.iadd X0.here hx rfl (hb hby at_32) rfl k) ?_
    show own_Go p e below s _ _ _ (s₁.setTop (mkF m 33 #[.val (.int p0), .val (.int p1), .val (.int p2), .val (.int p3), .val (.int p4), .val (.int (1 : Int32)), .val (.int v17), .val (.int v18), .unset, .unset, .unset, .unset, .unset, .unset, .unset, .unset, .unset] [(.int ((v18 + (1 : Int32)) + ((o_iushr p2 (2 : Int32)) &&& (3 : Int32))))]))
    refine own_via (fun _ k => XS.istore X0.here hx rfl (hb hby at_33) rfl (l' := #[.val (.int p0), .val (.int p1), .val (.int p2), .val (.int p3), .val (.int p4), .val (.int (1 : Int32)), .val (.int v17), .val (.int v18), .val (.int ((v18 + (1 : Int32)) + ((o_iushr p2 (2 : Int32)) &&& (3 : Int32)))), .unset, .unset, .unset, .unset, .unset, .unset, .unset, .unset]) rfl k) ?_
    show own_Go p e below s _ _ _ (s₁.setTop (mkF m 35 #[.val (.int p0), .val (.int p1), .val (.int p2), .val (.int p3), .val (.int p4), .val (.int (1 : Int32)), .val (.int v17), .val (.int v18), .val (.int ((v18 + (1 : Int32)) + ((o_iushr p2 (2 : Int32)) &&& (3 : Int32)))), .unset, .unset, .unset, .unset, .unset, .unset, .unset, .unset] []))
    generalize hv19 : ((v18 + (1 : Int32)) + ((o_iushr p2 (2 : Int32)) &&& (3 : Int32))) = v19
    show own_Go p e below s _ _ _ (s₁.setTop (mkF m 35 #[.val (.int p0), .val (.int p1), .val (.int p2), .val (.int p3), .val (.int p4), .val (.int (1 : Int32)), .val (.int v17), .val (.int v18), .val (.int v19), .unset, .unset, .unset, .unset, .unset, .unset, .unset, .unset] []))
    refine own_via (fun _ k => XS.iload X0.here hx rfl (hb hby at_35) rfl k) ?_
    show own_Go p e below s _ _ _ (s₁.setTop (mkF m 37 #[.val (.int p0), .val (.int p1), .val (.int p2), .val (.int p3), .val (.int p4), .val (.int (1 : Int32)), .val (.int v17), .val (.int v18), .val (.int v19), .unset, .unset, .unset, .unset, .unset, .unset, .unset, .unset] [(.int (1 : Int32))]))
    refine own_via (fun _ k => XS.ifYes X0.here hx rfl (pc0 := 37) (pc' := 47) rfl (hb hby at_37) rfl (Jvm.Free.XT.i0_ne_t (by decide)) (by decide) (by decide) k) ?_
    show own_Go p e below s _ _ _ (s₁.setTop (mkF m 47 #[.val (.int p0), .val (.int p1), .val (.int p2), .val (.int p3), .val (.int p4), .val (.int (1 : Int32)), .val (.int v17), .val (.int v18), .val (.int v19), .unset, .unset, .unset, .unset, .unset, .unset, .unset, .unset] []))
    refine own_via (fun _ k => XS.iload X0.here hx rfl (hb hby at_47) rfl k) ?_
    show own_Go p e below s _ _ _ (s₁.setTop (mkF m 49 #[.val (.int p0), .val (.int p1), .val (.int p2), .val (.int p3), .val (.int p4), .val (.int (1 : Int32)), .val (.int v17), .val (.int v18), .val (.int v19), .unset, .unset, .unset, .unset, .unset, .unset, .unset, .unset] [(.int (1 : Int32))]))
    refine own_via (fun _ k => XS.iconst X0.here hx rfl (hb hby at_49) k) ?_
    show own_Go p e below s _ _ _ (s₁.setTop (mkF m 50 #[.val (.int p0), .val (.int p1), .val (.int p2), .val (.int p3), .val (.int p4), .val (.int (1 : Int32)), .val (.int v17), .val (.int v18), .val (.int v19), .unset, .unset, .unset, .unset, .unset, .unset, .unset, .unset] [(.int (1 : Int32)), (.int (1 : Int32))]))
    refine own_via (fun _ k => XS.icmpNo X0.here hx rfl (hb hby at_50) rfl (Jvm.Free.XT.ii_ne_f (by decide)) k) ?_
    show own_Go p e below s _ _ _ (s₁.setTop (mkF m 53 #[.val (.int p0), .val (.int p1), .val (.int p2), .val (.int p3), .val (.int p4), .val (.int (1 : Int32)), .val (.int v17), .val (.int v18), .val (.int v19), .unset, .unset, .unset, .unset, .unset, .unset, .unset, .unset] []))
    refine own_via (fun _ k => XS.iload X0.here hx rfl (hb hby at_53) rfl k) ?_
    show own_Go p e below s _ _ _ (s₁.setTop (mkF m 55 #[.val (.int p0), .val (.int p1), .val (.int p2), .val (.int p3), .val (.int p4), .val (.int (1 : Int32)), .val (.int v17), .val (.int v18), .val (.int v19), .unset, .unset, .unset, .unset, .unset, .unset, .unset, .unset] [(.int v17)]))
    refine own_via (fun _ k => XS.goto X0.here hx rfl (pc0 := 55) (pc' := 71) rfl (hb hby at_55) (by decide) (by decide) k) ?_
    show own_Go p e below s _ _ _ (s₁.setTop (mkF m 71 #[.val (.int p0), .val (.int p1), .val (.int p2), .val (.int p3), .val (.int p4), .val (.int (1 : Int32)), .val (.int v17), .val (.int v18), .val (.int v19), .unset, .unset, .unset, .unset, .unset, .unset, .unset, .unset] [(.int v17)]))
    refine own_via (fun _ k => XS.istore X0.here hx rfl (hb hby at_71) rfl (l' := #[.val (.int p0), .val (.int p1), .val (.int p2), .val (.int p3), .val (.int p4), .val (.int (1 : Int32)), .val (.int v17), .val (.int v18), .val (.int v19), .val (.int v17), .unset, .unset, .unset, .unset, .unset, .unset, .unset]) rfl k) ?_
    show own_Go p e below s _ _ _ (s₁.setTop (mkF m 73 #[.val (.int p0), .val (.int p1), .val (.int p2), .val (.int p3), .val (.int p4), .val (.int (1 : Int32)), .val (.int v17), .val (.int v18), .val (.int v19), .val (.int v17), .unset, .unset, .unset, .unset, .unset, .unset, .unset] []))
    refine own_via (fun _ k => XS.iload X0.here hx rfl (hb hby at_73) rfl k) ?_
    show own_Go p e below s _ _ _ (s₁.setTop (mkF m 75 #[.val (.int p0), .val (.int p1), .val (.int p2), .val (.int p3), .val (.int p4), .val (.int (1 : Int32)), .val (.int v17), .val (.int v18), .val (.int v19), .val (.int v17), .unset, .unset, .unset, .unset, .unset, .unset, .unset] [(.int v17)]))
    refine own_via (fun _ k => XS.iloadN X0.here hx rfl (hb hby at_75) rfl k) ?_
    show own_Go p e below s _ _ _ (s₁.setTop (mkF m 76 #[.val (.int p0), .val (.int p1), .val (.int p2), .val (.int p3), .val (.int p4), .val (.int (1 : Int32)), .val (.int v17), .val (.int v18), .val (.int v19), .val (.int v17), .unset, .unset, .unset, .unset, .unset, .unset, .unset] [(.int p3), (.int v17)]))
    refine own_via (fun _ k => XS.iconst X0.here hx rfl (hb hby at_76) k) ?_
    show own_Go p e below s _ _ _ (s₁.setTop (mkF m 77 #[.val (.int p0), .val (.int p1), .val (.int p2), .val (.int p3), .val (.int p4), .val (.int (1 : Int32)), .val (.int v17), .val (.int v18), .val (.int v19), .val (.int v17), .unset, .unset, .unset, .unset, .unset, .unset, .unset] [(.int (3 : Int32)), (.int p3), (.int v17)]))
    refine own_via (fun _ k => XS.iand X0.here hx rfl (hb hby at_77) rfl k) ?_
    show own_Go p e below s _ _ _ (s₁.setTop (mkF m 78 #[.val (.int p0), .val (.int p1), .val (.int p2), .val (.int p3), .val (.int p4), .val (.int (1 : Int32)), .val (.int v17), .val (.int v18), .val (.int v19), .val (.int v17), .unset, .unset, .unset, .unset, .unset, .unset, .unset] [(.int (p3 &&& (3 : Int32))), (.int v17)]))
    refine own_via (fun _ k => XS.iadd X0.here hx rfl (hb hby at_78) rfl k) ?_
    show own_Go p e below s _ _ _ (s₁.setTop (mkF m 79 #[.val (.int p0), .val (.int p1), .val (.int p2), .val (.int p3), .val (.int p4), .val (.int (1 : Int32)), .val (.int v17), .val (.int v18), .val (.int v19), .val (.int v17), .unset, .unset, .unset, .unset, .unset, .unset, .unset] [(.int (v17 + (p3 &&& (3 : Int32))))]))
    refine own_via (fun _ k => XS.istore X0.here hx rfl (hb hby at_79) rfl (l' := #[.val (.int p0), .val (.int p1), .val (.int p2), .val (.int p3), .val (.int p4), .val (.int (1 : Int32)), .val (.int v17), .val (.int v18), .val (.int v19), .val (.int v17), .val (.int (v17 + (p3 &&& (3 : Int32)))), .unset, .unset, .unset, .unset, .unset, .unset]) rfl k) ?_
    show own_Go p e below s _ _ _ (s₁.setTop (mkF m 81 #[.val (.int p0), .val (.int p1), .val (.int p2), .val (.int p3), .val (.int p4), .val (.int (1 : Int32)), .val (.int v17), .val (.int v18), .val (.int v19), .val (.int v17), .val (.int (v17 + (p3 &&& (3 : Int32)))), .unset, .unset, .unset, .unset, .unset, .unset] []))
    generalize hv20 : (v17 + (p3 &&& (3 : Int32))) = v20
    show own_Go p e below s _ _ _ (s₁.setTop (mkF m 81 #[.val (.int p0), .val (.int p1), .val (.int p2), .val (.int p3), .val (.int p4), .val (.int (1 : Int32)), .val (.int v17), .val (.int v18), .val (.int v19), .val (.int v17), .val (.int v20), .unset, .unset, .unset, .unset, .unset, .unset] []))
    refine own_via (fun _ k => XS.iload X0.here hx rfl (hb hby at_81) rfl k) ?_
    show own_Go p e below s _ _ _ (s₁.setTop (mkF m 83 #[.val (.int p0), .val (.int p1), .val (.int p2), .val (.int p3), .val (.int p4), .val (.int (1 : Int32)), .val (.int v17), .val (.int v18), .val (.int v19), .val (.int v17), .val (.int v20), .unset, .unset, .unset, .unset, .unset, .unset] [(.int (1 : Int32))]))
    obtain ⟨T21, h21, k21, X21, e21, E21, A21, st21⟩ := newP X0 hx hZ (hw _ (List.mem_of_getElem? (i := 1) rfl)) e0 (g := (mkF m 83 #[.val (.int p0), .val (.int p1), .val (.int p2), .val (.int p3), .val (.int p4), .val (.int (1 : Int32)), .val (.int v17), .val (.int v18), .val (.int v19), .val (.int v17), .val (.int v20), .unset, .unset, .unset, .unset, .unset, .unset] [(.int (1 : Int32))])) rfl (hb hby at_83) rfl (by decide) (cap := 1) (by decide) (by decide) (by decide) (by decide)
    obtain ⟨b21, gg21⟩ : ∃ z, z = h0.size := ⟨_, rfl⟩
    rw [← gg21] at A21 st21
    have g_b21 : n0 ≤ b21 := Nat.le_trans Z0 (Nat.le_of_eq gg21.symm)
    have Z21 : n0 ≤ h21.size := Nat.le_trans Z0 E21.1
    have V21 : Arv Z h21 b21 k21 .int (1 : Int32) [(.int (0 : Int32))] (.int (0 : Int32)) := (Arv.new A21 (by decide)).pad (pad_rep [] (.int (0 : Int32)) 1)
    refine own_via st21 ?_
    show own_Go p e below s _ _ _ (T21.setTop (mkF m 85 #[.val (.int p0), .val (.int p1), .val (.int p2), .val (.int p3), .val (.int p4), .val (.int (1 : Int32)), .val (.int v17), .val (.int v18), .val (.int v19), .val (.int v17), .val (.int v20), .unset, .unset, .unset, .unset, .unset, .unset] [(.ref b21)]))
    refine own_via (fun _ k => XS.astore X21.here hx rfl (hb hby at_85) rfl rfl (l' := #[.val (.int p0), .val (.int p1), .val (.int p2), .val (.int p3), .val (.int p4), .val (.int (1 : Int32)), .val (.int v17), .val (.int v18), .val (.int v19), .val (.int v17), .val (.int v20), .val (.ref b21), .unset, .unset, .unset, .unset, .unset]) rfl k) ?_
    show own_Go p e below s _ _ _ (T21.setTop (mkF m 87 #[.val (.int p0), .val (.int p1), .val (.int p2), .val (.int p3), .val (.int p4), .val (.int (1 : Int32)), .val (.int v17), .val (.int v18), .val (.int v19), .val (.int v17), .val (.int v20), .val (.ref b21), .unset, .unset, .unset, .unset, .unset] []))
    refine own_via (fun _ k => XS.iload X21.here hx rfl (hb hby at_87) rfl k) ?_
    show own_Go p e below s _ _ _ (T21.setTop (mkF m 89 #[.val (.int p0), .val (.int p1), .val (.int p2), .val (.int p3), .val (.int p4), .val (.int (1 : Int32)), .val (.int v17), .val (.int v18), .val (.int v19), .val (.int v17), .val (.int v20), .val (.ref b21), .unset, .unset, .unset, .unset, .unset] [(.int (1 : Int32))]))
    refine own_via (fun _ k => XS.ifNo X21.here hx rfl (hb hby at_89) rfl (Jvm.Free.XT.i0_le_f (by decide)) k) ?_
    show own_Go p e below s _ _ _ (T21.setTop (mkF m 92 #[.val (.int p0), .val (.int p1), .val (.int p2), .val (.int p3), .val (.int p4), .val (.int (1 : Int32)), .val (.int v17), .val (.int v18), .val (.int v19), .val (.int v17), .val (.int v20), .val (.ref b21), .unset, .unset, .unset, .unset, .unset] []))
    refine own_via (fun _ k => XS.aload X21.here hx rfl (hb hby at_92) rfl rfl k) ?_
    show own_Go p e below s _ _ _ (T21.setTop (mkF m 94 #[.val (.int p0), .val (.int p1), .val (.int p2), .val (.int p3), .val (.int p4), .val (.int (1 : Int32)), .val (.int v17), .val (.int v18), .val (.int v19), .val (.int v17), .val (.int v20), .val (.ref b21), .unset, .unset, .unset, .unset, .unset] [(.ref b21)]))
    refine own_via (fun _ k => XS.iconst X21.here hx rfl (hb hby at_94) k) ?_
    show own_Go p e below s _ _ _ (T21.setTop (mkF m 95 #[.val (.int p0), .val (.int p1), .val (.int p2), .val (.int p3), .val (.int p4), .val (.int (1 : Int32)), .val (.int v17), .val (.int v18), .val (.int v19), .val (.int v17), .val (.int v20), .val (.ref b21), .unset, .unset, .unset, .unset, .unset] [(.int (0 : Int32)), (.ref b21)]))
    have st22 : ∀ t, Steps p.tables e below (T21.setTop (mkF m 110 #[.val (.int p0), .val (.int p1), .val (.int p2), .val (.int p3), .val (.int p4), .val (.int (1 : Int32)), .val (.int v17), .val (.int v18), .val (.int v19), .val (.int v17), .val (.int v20), .val (.ref b21), .unset, .unset, .unset, .unset, .unset] [(.int (if (p4 &&& (1 : Int32)) = (0 : Int32) then v17 else (-v17))), (.int (0 : Int32)), (.ref b21)])) t → Steps p.tables e below (T21.setTop (mkF m 95 #[.val (.int p0), .val (.int p1), .val (.int p2), .val (.int p3), .val (.int p4), .val (.int (1 : Int32)), .val (.int v17), .val (.int v18), .val (.int v19), .val (.int v17), .val (.int v20), .val (.ref b21), .unset, .unset, .unset, .unset, .unset] [(.int (0 : Int32)), (.ref b21)])) t := by
      intro t k
      refine XS.iload X21.here hx rfl (hb hby at_95) rfl ?_
      show Steps p.tables e below (T21.setTop (mkF m 97 #[.val (.int p0), .val (.int p1), .val (.int p2), .val (.int p3), .val (.int p4), .val (.int (1 : Int32)), .val (.int v17), .val (.int v18), .val (.int v19), .val (.int v17), .val (.int v20), .val (.ref b21), .unset, .unset, .unset, .unset, .unset] [(.int p4), (.int (0 : Int32)), (.ref b21)])) t
      refine XS.iconst X21.here hx rfl (hb hby at_97) ?_
      show Steps p.tables e below (T21.setTop (mkF m 98 #[.val (.int p0), .val (.int p1), .val (.int p2), .val (.int p3), .val (.int p4), .val (.int (1 : Int32)), .val (.int v17), .val (.int v18), .val (.int v19), .val (.int v17), .val (.int v20), .val (.ref b21), .unset, .unset, .unset, .unset, .unset] [(.int (1 : Int32)), (.int p4), (.int (0 : Int32)), (.ref b21)])) t
      refine XS.iand X21.here hx rfl (hb hby at_98) rfl ?_
      show Steps p.tables e below (T21.setTop (mkF m 99 #[.val (.int p0), .val (.int p1), .val (.int p2), .val (.int p3), .val (.int p4), .val (.int (1 : Int32)), .val (.int v17), .val (.int v18), .val (.int v19), .val (.int v17), .val (.int v20), .val (.ref b21), .unset, .unset, .unset, .unset, .unset] [(.int (p4 &&& (1 : Int32))), (.int (0 : Int32)), (.ref b21)])) t
      by_cases hq23 : (p4 &&& (1 : Int32)) = (0 : Int32)
      · refine XS.ifYes X21.here hx rfl (pc0 := 99) (pc' := 108) rfl (hb hby at_99) rfl (Jvm.Free.XT.i0_eq_t hq23) (by decide) (by decide) ?_
        show Steps p.tables e below (T21.setTop (mkF m 108 #[.val (.int p0), .val (.int p1), .val (.int p2), .val (.int p3), .val (.int p4), .val (.int (1 : Int32)), .val (.int v17), .val (.int v18), .val (.int v19), .val (.int v17), .val (.int v20), .val (.ref b21), .unset, .unset, .unset, .unset, .unset] [(.int (0 : Int32)), (.ref b21)])) t
        refine XS.iload X21.here hx rfl (hb hby at_108) rfl ?_
        show Steps p.tables e below (T21.setTop (mkF m 110 #[.val (.int p0), .val (.int p1), .val (.int p2), .val (.int p3), .val (.int p4), .val (.int (1 : Int32)), .val (.int v17), .val (.int v18), .val (.int v19), .val (.int v17), .val (.int v20), .val (.ref b21), .unset, .unset, .unset, .unset, .unset] [(.int v17), (.int (0 : Int32)), (.ref b21)])) t
        simp only [if_pos hq23] at k
        exact k
      · refine XS.ifNo X21.here hx rfl (hb hby at_99) rfl (Jvm.Free.XT.i0_eq_f hq23) ?_
        show Steps p.tables e below (T21.setTop (mkF m 102 #[.val (.int p0), .val (.int p1), .val (.int p2), .val (.int p3), .val (.int p4), .val (.int (1 : Int32)), .val (.int v17), .val (.int v18), .val (.int v19), .val (.int v17), .val (.int v20), .val (.ref b21), .unset, .unset, .unset, .unset, .unset] [(.int (0 : Int32)), (.ref b21)])) t
        refine XS.iload X21.here hx rfl (hb hby at_102) rfl ?_
        show Steps p.tables e below (T21.setTop (mkF m 104 #[.val (.int p0), .val (.int p1), .val (.int p2), .val (.int p3), .val (.int p4), .val (.int (1 : Int32)), .val (.int v17), .val (.int v18), .val (.int v19), .val (.int v17), .val (.int v20), .val (.ref b21), .unset, .unset, .unset, .unset, .unset] [(.int v17), (.int (0 : Int32)), (.ref b21)])) t
        refine XS.ineg X21.here hx rfl (hb hby at_104) rfl ?_
        show Steps p.tables e below (T21.setTop (mkF m 105 #[.val (.int p0), .val (.int p1), .val (.int p2), .val (.int p3), .val (.int p4), .val (.int (1 : Int32)), .val (.int v17), .val (.int v18), .val (.int v19), .val (.int v17), .val (.int v20), .val (.ref b21), .unset, .unset, .unset, .unset, .unset] [(.int (-v17)), (.int (0 : Int32)), (.ref b21)])) t
        refine XS.goto X21.here hx rfl (pc0 := 105) (pc' := 110) rfl (hb hby at_105) (by decide) (by decide) ?_
        show Steps p.tables e below (T21.setTop (mkF m 110 #[.val (.int p0), .val (.int p1), .val (.int p2), .val (.int p3), .val (.int p4), .val (.int (1 : Int32)), .val (.int v17), .val (.int v18), .val (.int v19), .val (.int v17), .val (.int v20), .val (.ref b21), .unset, .unset, .unset, .unset, .unset] [(.int (-v17)), (.int (0 : Int32)), (.ref b21)])) t
        simp only [if_neg hq23] at k
        exact k
    refine own_via st22 ?_
    show own_Go p e below s _ _ _ (T21.setTop (mkF m 110 #[.val (.int p0), .val (.int p1), .val (.int p2), .val (.int p3), .val (.int p4), .val (.int (1 : Int32)), .val (.int v17), .val (.int v18), .val (.int v19), .val (.int v17), .val (.int v20), .val (.ref b21), .unset, .unset, .unset, .unset, .unset] [(.int (if (p4 &&& (1 : Int32)) = (0 : Int32) then v17 else (-v17))), (.int (0 : Int32)), (.ref b21)]))
    obtain ⟨cl24, Ar24, q24, S24, M24, H24, G24⟩ := (id V21)
    have hin24 : ¬ ((0 : Int32) < 0 ∨ cl24.slots.size ≤ ((0 : Int32)).toNatClampNeg) := inb_of S24 ⟨by decide, by decide⟩
    obtain ⟨T24, h24, X24, e24, W24, st24⟩ := stI X21 hx hZ e21 Ar24 (j := (0 : Int32)) hin24 (g := (mkF m 110 #[.val (.int p0), .val (.int p1), .val (.int p2), .val (.int p3), .val (.int p4), .val (.int (1 : Int32)), .val (.int v17), .val (.int v18), .val (.int v19), .val (.int v17), .val (.int v20), .val (.ref b21), .unset, .unset, .unset, .unset, .unset] [(.int (if (p4 &&& (1 : Int32)) = (0 : Int32) then v17 else (-v17))), (.int (0 : Int32)), (.ref b21)])) rfl rfl (hb hby at_110)
    have V24 : Arv Z h24 b21 k21 .int (1 : Int32) [(.int (if (p4 &&& (1 : Int32)) = (0 : Int32) then v17 else (-v17)))] (.int (0 : Int32)) := Arv.set Ar24 q24 S24 M24 H24 G24 rfl W24 0 rfl (Nat.le_of_ble_eq_true rfl)
    have N24 := Fr.snoc X24 N0 g_b21
    have Z24 : n0 ≤ h24.size := Nat.le_trans Z21 (Keep.of_wr W24).1
    refine own_via st24 ?_
    show own_Go p e below s _ _ _ (T24.setTop (mkF m 111 #[.val (.int p0), .val (.int p1), .val (.int p2), .val (.int p3), .val (.int p4), .val (.int (1 : Int32)), .val (.int v17), .val (.int v18), .val (.int v19), .val (.int v17), .val (.int v20), .val (.ref b21), .unset, .unset, .unset, .unset, .unset] []))
    refine own_via (fun _ k => XS.iload X24.here hx rfl (hb hby at_111) rfl k) ?_
    show own_Go p e below s _ _ _ (T24.setTop (mkF m 113 #[.val (.int p0), .val (.int p1), .val (.int p2), .val (.int p3), .val (.int p4), .val (.int (1 : Int32)), .val (.int v17), .val (.int v18), .val (.int v19), .val (.int v17), .val (.int v20), .val (.ref b21), .unset, .unset, .unset, .unset, .unset] [(.int (1 : Int32))]))
    refine own_via (fun _ k => XS.iconst X24.here hx rfl (hb hby at_113) k) ?_
    show own_Go p e below s _ _ _ (T24.setTop (mkF m 114 #[.val (.int p0), .val (.int p1), .val (.int p2), .val (.int p3), .val (.int p4), .val (.int (1 : Int32)), .val (.int v17), .val (.int v18), .val (.int v19), .val (.int v17), .val (.int v20), .val (.ref b21), .unset, .unset, .unset, .unset, .unset] [(.int (1 : Int32)), (.int (1 : Int32))]))
    refine own_via (fun _ k => XS.icmpYes X24.here hx rfl (pc0 := 114) (pc' := 136) rfl (hb hby at_114) rfl (Jvm.Free.XT.ii_le_t (by decide)) (by decide) (by decide) k) ?_
    show own_Go p e below s _ _ _ (T24.setTop (mkF m 136 #[.val (.int p0), .val (.int p1), .val (.int p2), .val (.int p3), .val (.int p4), .val (.int (1 : Int32)), .val (.int v17), .val (.int v18), .val (.int v19), .val (.int v17), .val (.int v20), .val (.ref b21), .unset, .unset, .unset, .unset, .unset] []))
    refine own_via (fun _ k => XS.iload X24.here hx rfl (hb hby at_136) rfl k) ?_
    show own_Go p e below s _ _ _ (T24.setTop (mkF m 138 #[.val (.int p0), .val (.int p1), .val (.int p2), .val (.int p3), .val (.int p4), .val (.int (1 : Int32)), .val (.int v17), .val (.int v18), .val (.int v19), .val (.int v17), .val (.int v20), .val (.ref b21), .unset, .unset, .unset, .unset, .unset] [(.int (1 : Int32))]))
    refine own_via (fun _ k => XS.iconst X24.here hx rfl (hb hby at_138) k) ?_
    show own_Go p e below s _ _ _ (T24.setTop (mkF m 139 #[.val (.int p0), .val (.int p1), .val (.int p2), .val (.int p3), .val (.int p4), .val (.int (1 : Int32)), .val (.int v17), .val (.int v18), .val (.int v19), .val (.int v17), .val (.int v20), .val (.ref b21), .unset, .unset, .unset, .unset, .unset] [(.int (2 : Int32)), (.int (1 : Int32))]))
    refine own_via (fun _ k => XS.icmpYes X24.here hx rfl (pc0 := 139) (pc' := 161) rfl (hb hby at_139) rfl (Jvm.Free.XT.ii_le_t (by decide)) (by decide) (by decide) k) ?_
    show own_Go p e below s _ _ _ (T24.setTop (mkF m 161 #[.val (.int p0), .val (.int p1), .val (.int p2), .val (.int p3), .val (.int p4), .val (.int (1 : Int32)), .val (.int v17), .val (.int v18), .val (.int v19), .val (.int v17), .val (.int v20), .val (.ref b21), .unset, .unset, .unset, .unset, .unset] []))
    refine own_via (fun _ k => XS.aload X24.here hx rfl (hb hby at_161) rfl rfl k) ?_
    show own_Go p e below s _ _ _ (T24.setTop (mkF m 163 #[.val (.int p0), .val (.int p1), .val (.int p2), .val (.int p3), .val (.int p4), .val (.int (1 : Int32)), .val (.int v17), .val (.int v18), .val (.int v19), .val (.int v17), .val (.int v20), .val (.ref b21), .unset, .unset, .unset, .unset, .unset] [(.ref b21)]))
    refine own_via (fun _ k => XS.iload X24.here hx rfl (hb hby at_163) rfl k) ?_
    show own_Go p e below s _ _ _ (T24.setTop (mkF m 165 #[.val (.int p0), .val (.int p1), .val (.int p2), .val (.int p3), .val (.int p4), .val (.int (1 : Int32)), .val (.int v17), .val (.int v18), .val (.int v19), .val (.int v17), .val (.int v20), .val (.ref b21), .unset, .unset, .unset, .unset, .unset] [(.int (1 : Int32)), (.ref b21)]))
    refine own_via (fun _ k => XS.iload X24.here hx rfl (hb hby at_165) rfl k) ?_
    show own_Go p e below s _ _ _ (T24.setTop (mkF m 167 #[.val (.int p0), .val (.int p1), .val (.int p2), .val (.int p3), .val (.int p4), .val (.int (1 : Int32)), .val (.int v17), .val (.int v18), .val (.int v19), .val (.int v17), .val (.int v20), .val (.ref b21), .unset, .unset, .unset, .unset, .unset] [(.int v20), (.int (1 : Int32)), (.ref b21)]))
    obtain ⟨_, _, ⟨T25, L25, k25, n25⟩, -, X25, ⟨Lc25, hQ25, l25, y25, z25⟩, st25⟩ := Jvm.LawKit.callS X24 hx (y := (⟨"com/example/unalike/unalike/engine/TSetsNextPinLaw", "rank", "([III)J"⟩ : MethodName)) hown (mvT hZ (hw _ (List.mem_of_getElem? (i := 2) rfl))) (mvT hZ (hw _ (List.mem_of_getElem? (i := 3) rfl))) (mvT hZ (hw _ (List.mem_of_getElem? (i := 4) rfl))) (mvT hZ (hw _ (List.mem_of_getElem? (i := 5) rfl))) (by decide) (backOf (W := 0) (rmr1 l Z a0 hw [] b21 (1 : Int32) v20 k21 (.int (0 : Int32)) (if (p4 &&& (1 : Int32)) = (0 : Int32) then v17 else (-v17)) h24 n0 Z24 V24 (by first | decide | (simp; done))) hZ (hw _ (List.mem_of_getElem? (i := 5) rfl)) (hw _ (List.mem_of_getElem? (i := 4) rfl)) (by decide) (by decide)) (g := (mkF m 167 #[.val (.int p0), .val (.int p1), .val (.int p2), .val (.int p3), .val (.int p4), .val (.int (1 : Int32)), .val (.int v17), .val (.int v18), .val (.int v19), .val (.int v17), .val (.int v20), .val (.ref b21), .unset, .unset, .unset, .unset, .unset] [(.int v20), (.int (1 : Int32)), (.ref b21)])) rfl (by rw [hml]; rfl) (argsL := [(.ref b21), (.int (1 : Int32)), (.int v20)]) (rest := []) (lenOf pd_3 rfl) rfl (by show 2 * 0 + _ ≤ _; exact Nat.le_of_eq rfl) (hb hby at_167) (fun _ _ => ⟨rfl, e24, (by decide : 1 + 0 ≤ _), (by decide : 1 + 0 ≤ _)⟩)
    dsimp only [Pt.U, Pt.locs, Pt.cells, Pt.slots] at X25 l25 y25 z25 st25 hQ25
    subst l25 y25 z25
    obtain ⟨rfl, N25q, e25⟩ := hQ25
    have N25 := Fr.app N24 N25q
    refine own_via st25 ?_
    show own_Go p e below s _ _ _ (T25.setTop (mkF m 170 #[.val (.int p0), .val (.int p1), .val (.int p2), .val (.int p3), .val (.int p4), .val (.int (1 : Int32)), .val (.int v17), .val (.int v18), .val (.int v19), .val (.int v17), .val (.int v20), .val (.ref b21), .unset, .unset, .unset, .unset, .unset] [(.long (own_rk1 (if (p4 &&& (1 : Int32)) = (0 : Int32) then v17 else (-v17)) v20))]))
    refine own_via (fun _ k => XS.lstore X25.here hx rfl (hb hby at_170) rfl (l' := #[.val (.int p0), .val (.int p1), .val (.int p2), .val (.int p3), .val (.int p4), .val (.int (1 : Int32)), .val (.int v17), .val (.int v18), .val (.int v19), .val (.int v17), .val (.int v20), .val (.ref b21), .val (.long (own_rk1 (if (p4 &&& (1 : Int32)) = (0 : Int32) then v17 else (-v17)) v20)), .second, .unset, .unset, .unset]) rfl k) ?_
    show own_Go p e below s _ _ _ (T25.setTop (mkF m 172 #[.val (.int p0), .val (.int p1), .val (.int p2), .val (.int p3), .val (.int p4), .val (.int (1 : Int32)), .val (.int v17), .val (.int v18), .val (.int v19), .val (.int v17), .val (.int v20), .val (.ref b21), .val (.long (own_rk1 (if (p4 &&& (1 : Int32)) = (0 : Int32) then v17 else (-v17)) v20)), .second, .unset, .unset, .unset] []))
    generalize hv26 : (own_rk1 (if (p4 &&& (1 : Int32)) = (0 : Int32) then v17 else (-v17)) v20) = v26
    show own_Go p e below s _ _ _ (T25.setTop (mkF m 172 #[.val (.int p0), .val (.int p1), .val (.int p2), .val (.int p3), .val (.int p4), .val (.int (1 : Int32)), .val (.int v17), .val (.int v18), .val (.int v19), .val (.int v17), .val (.int v20), .val (.ref b21), .val (.long v26), .second, .unset, .unset, .unset] []))
    refine own_via (fun _ k => XS.iload X25.here hx rfl (hb hby at_172) rfl k) ?_
    show own_Go p e below s _ _ _ (T25.setTop (mkF m 174 #[.val (.int p0), .val (.int p1), .val (.int p2), .val (.int p3), .val (.int p4), .val (.int (1 : Int32)), .val (.int v17), .val (.int v18), .val (.int v19), .val (.int v17), .val (.int v20), .val (.ref b21), .val (.long v26), .second, .unset, .unset, .unset] [(.int v20)]))
    refine own_via (fun _ k => XS.i2l X25.here hx rfl (hb hby at_174) rfl k) ?_
    show own_Go p e below s _ _ _ (T25.setTop (mkF m 175 #[.val (.int p0), .val (.int p1), .val (.int p2), .val (.int p3), .val (.int p4), .val (.int (1 : Int32)), .val (.int v17), .val (.int v18), .val (.int v19), .val (.int v17), .val (.int v20), .val (.ref b21), .val (.long v26), .second, .unset, .unset, .unset] [(.long (o_i2l v20))]))
    refine own_via (fun _ k => XS.iload X25.here hx rfl (hb hby at_175) rfl k) ?_
    show own_Go p e below s _ _ _ (T25.setTop (mkF m 177 #[.val (.int p0), .val (.int p1), .val (.int p2), .val (.int p3), .val (.int p4), .val (.int (1 : Int32)), .val (.int v17), .val (.int v18), .val (.int v19), .val (.int v17), .val (.int v20), .val (.ref b21), .val (.long v26), .second, .unset, .unset, .unset] [(.int (1 : Int32)), (.long (o_i2l v20))]))
    obtain ⟨_, _, ⟨T27, L27, k27, n27⟩, -, X27, ⟨Lc27, hQ27, l27, y27, z27⟩, st27⟩ := Jvm.LawKit.callS X25 hx (y := (⟨"com/example/unalike/unalike/engine/TSetsNextPinLaw", "choose", "(JI)J"⟩ : MethodName)) hown (mvT hZ (hw _ (List.mem_of_getElem? (i := 6) rfl))) (mvT hZ (hw _ (List.mem_of_getElem? (i := 7) rfl))) (mvT hZ (hw _ (List.mem_of_getElem? (i := 4) rfl))) (mvT hZ (hw _ (List.mem_of_getElem? (i := 8) rfl))) (by decide) (backOf (W := 0) (rm2 l Z a0 hw [] (o_i2l v20) (1 : Int32) h24 n0 Z24 ) hZ (hw _ (List.mem_of_getElem? (i := 8) rfl)) (hw _ (List.mem_of_getElem? (i := 4) rfl)) (by decide) (by decide)) (g := (mkF m 177 #[.val (.int p0), .val (.int p1), .val (.int p2), .val (.int p3), .val (.int p4), .val (.int (1 : Int32)), .val (.int v17), .val (.int v18), .val (.int v19), .val (.int v17), .val (.int v20), .val (.ref b21), .val (.long v26), .second, .unset, .unset, .unset] [(.int (1 : Int32)), (.long (o_i2l v20))])) rfl (by rw [hml]; rfl) (argsL := [(.long (o_i2l v20)), (.int (1 : Int32))]) (rest := []) (lenOf pd_1 rfl) rfl (by show 2 * 0 + _ ≤ _; exact Nat.le_of_eq rfl) (hb hby at_177) (fun _ _ => ⟨rfl, e25, (by decide : 1 + 0 ≤ _), (by decide : 1 + 0 ≤ _)⟩)
    dsimp only [Pt.U, Pt.locs, Pt.cells, Pt.slots] at X27 l27 y27 z27 st27 hQ27
    subst l27 y27 z27
    obtain ⟨rfl, N27q, e27⟩ := hQ27
    have N27 := Fr.app N25 N27q
    refine own_via st27 ?_
    show own_Go p e below s _ _ _ (T27.setTop (mkF m 180 #[.val (.int p0), .val (.int p1), .val (.int p2), .val (.int p3), .val (.int p4), .val (.int (1 : Int32)), .val (.int v17), .val (.int v18), .val (.int v19), .val (.int v17), .val (.int v20), .val (.ref b21), .val (.long v26), .second, .unset, .unset, .unset] [(.long (own_ch (o_i2l v20) (1 : Int32)))]))
    refine own_via (fun _ k => XS.iload X27.here hx rfl (hb hby at_180) rfl k) ?_
    show own_Go p e below s _ _ _ (T27.setTop (mkF m 182 #[.val (.int p0), .val (.int p1), .val (.int p2), .val (.int p3), .val (.int p4), .val (.int (1 : Int32)), .val (.int v17), .val (.int v18), .val (.int v19), .val (.int v17), .val (.int v20), .val (.ref b21), .val (.long v26), .second, .unset, .unset, .unset] [(.int (1 : Int32)), (.long (own_ch (o_i2l v20) (1 : Int32)))]))
    refine own_via (fun _ k => XS.lshl X27.here hx rfl (hb hby at_182) rfl k) ?_
    show own_Go p e below s _ _ _ (T27.setTop (mkF m 183 #[.val (.int p0), .val (.int p1), .val (.int p2), .val (.int p3), .val (.int p4), .val (.int (1 : Int32)), .val (.int v17), .val (.int v18), .val (.int v19), .val (.int v17), .val (.int v20), .val (.ref b21), .val (.long v26), .second, .unset, .unset, .unset] [(.long (o_lshl (own_ch (o_i2l v20) (1 : Int32)) (1 : Int32)))]))
    refine own_via (fun _ k => XS.lstore X27.here hx rfl (hb hby at_183) rfl (l' := #[.val (.int p0), .val (.int p1), .val (.int p2), .val (.int p3), .val (.int p4), .val (.int (1 : Int32)), .val (.int v17), .val (.int v18), .val (.int v19), .val (.int v17), .val (.int v20), .val (.ref b21), .val (.long v26), .second, .val (.long (o_lshl (own_ch (o_i2l v20) (1 : Int32)) (1 : Int32))), .second, .unset]) rfl k) ?_
    show own_Go p e below s _ _ _ (T27.setTop (mkF m 185 #[.val (.int p0), .val (.int p1), .val (.int p2), .val (.int p3), .val (.int p4), .val (.int (1 : Int32)), .val (.int v17), .val (.int v18), .val (.int v19), .val (.int v17), .val (.int v20), .val (.ref b21), .val (.long v26), .second, .val (.long (o_lshl (own_ch (o_i2l v20) (1 : Int32)) (1 : Int32))), .second, .unset] []))
    generalize hv28 : (o_lshl (own_ch (o_i2l v20) (1 : Int32)) (1 : Int32)) = v28
    show own_Go p e below s _ _ _ (T27.setTop (mkF m 185 #[.val (.int p0), .val (.int p1), .val (.int p2), .val (.int p3), .val (.int p4), .val (.int (1 : Int32)), .val (.int v17), .val (.int v18), .val (.int v19), .val (.int v17), .val (.int v20), .val (.ref b21), .val (.long v26), .second, .val (.long v28), .second, .unset] []))
    refine own_via (fun _ k => XS.aload X27.here hx rfl (hb hby at_185) rfl rfl k) ?_
    show own_Go p e below s _ _ _ (T27.setTop (mkF m 187 #[.val (.int p0), .val (.int p1), .val (.int p2), .val (.int p3), .val (.int p4), .val (.int (1 : Int32)), .val (.int v17), .val (.int v18), .val (.int v19), .val (.int v17), .val (.int v20), .val (.ref b21), .val (.long v26), .second, .val (.long v28), .second, .unset] [(.ref b21)]))
    refine own_via (fun _ k => XS.iload X27.here hx rfl (hb hby at_187) rfl k) ?_
    show own_Go p e below s _ _ _ (T27.setTop (mkF m 189 #[.val (.int p0), .val (.int p1), .val (.int p2), .val (.int p3), .val (.int p4), .val (.int (1 : Int32)), .val (.int v17), .val (.int v18), .val (.int v19), .val (.int v17), .val (.int v20), .val (.ref b21), .val (.long v26), .second, .val (.long v28), .second, .unset] [(.int v20), (.ref b21)]))
    obtain ⟨_, _, ⟨T29, L29, k29, n29⟩, -, X29, ⟨Lc29, hQ29, l29, y29, z29⟩, st29⟩ := Jvm.LawKit.callS X27 hx (y := (⟨"com/example/unalike/unalike/engine/TSets", "next", "([II)Z"⟩ : MethodName)) hown (mvT hZ (hw _ (List.mem_of_getElem? (i := 9) rfl))) (mvT hZ (hw _ (List.mem_of_getElem? (i := 10) rfl))) (mvT hZ (hw _ (List.mem_of_getElem? (i := 11) rfl))) (mvT hZ (hw _ (List.mem_of_getElem? (i := 12) rfl))) (by decide) (backOf (W := 0) (rmn1 l Z a0 hw [] b21 v20 k21 (.int (0 : Int32)) (if (p4 &&& (1 : Int32)) = (0 : Int32) then v17 else (-v17)) h24 n0 Z24 V24 g_b21) hZ (hw _ (List.mem_of_getElem? (i := 12) rfl)) (hw _ (List.mem_of_getElem? (i := 11) rfl)) (by decide) (by decide)) (g := (mkF m 189 #[.val (.int p0), .val (.int p1), .val (.int p2), .val (.int p3), .val (.int p4), .val (.int (1 : Int32)), .val (.int v17), .val (.int v18), .val (.int v19), .val (.int v17), .val (.int v20), .val (.ref b21), .val (.long v26), .second, .val (.long v28), .second, .unset] [(.int v20), (.ref b21)])) rfl (by rw [hml]; rfl) (argsL := [(.ref b21), (.int v20)]) (rest := []) (lenOf pd_4 rfl) rfl (by show 2 * 0 + _ ≤ _; exact Nat.le_of_eq rfl) (hb hby at_189) (fun _ _ => ⟨rfl, e27, (by decide : 1 + 0 ≤ _), (by decide : 1 + 0 ≤ _)⟩)
    dsimp only [Pt.U, Pt.locs, Pt.cells, Pt.slots] at X29 l29 y29 z29 st29 hQ29
    subst l29 y29 z29
    obtain ⟨h29, e29⟩ : ∃ h, T29.heap = h := ⟨_, rfl⟩
    rw [e29] at hQ29
    obtain ⟨rfl, N29q, Kq29, F30⟩ := hQ29
    have Z29 : n0 ≤ h29.size := Nat.le_trans Z24 Kq29.1
    have N29 := Fr.app N27 N29q
    refine own_via st29 ?_
    show own_Go p e below s _ _ _ (T29.setTop (mkF m 192 #[.val (.int p0), .val (.int p1), .val (.int p2), .val (.int p3), .val (.int p4), .val (.int (1 : Int32)), .val (.int v17), .val (.int v18), .val (.int v19), .val (.int v17), .val (.int v20), .val (.ref b21), .val (.long v26), .second, .val (.long v28), .second, .unset] [(.int (own_nr1 (if (p4 &&& (1 : Int32)) = (0 : Int32) then v17 else (-v17)) v20))]))
    refine own_via (fun _ k => XS.istore X29.here hx rfl (hb hby at_192) rfl (l' := #[.val (.int p0), .val (.int p1), .val (.int p2), .val (.int p3), .val (.int p4), .val (.int (1 : Int32)), .val (.int v17), .val (.int v18), .val (.int v19), .val (.int v17), .val (.int v20), .val (.ref b21), .val (.long v26), .second, .val (.long v28), .second, .val (.int (own_nr1 (if (p4 &&& (1 : Int32)) = (0 : Int32) then v17 else (-v17)) v20))]) rfl k) ?_
    show own_Go p e below s _ _ _ (T29.setTop (mkF m 194 #[.val (.int p0), .val (.int p1), .val (.int p2), .val (.int p3), .val (.int p4), .val (.int (1 : Int32)), .val (.int v17), .val (.int v18), .val (.int v19), .val (.int v17), .val (.int v20), .val (.ref b21), .val (.long v26), .second, .val (.long v28), .second, .val (.int (own_nr1 (if (p4 &&& (1 : Int32)) = (0 : Int32) then v17 else (-v17)) v20))] []))
    generalize hv31 : (own_nr1 (if (p4 &&& (1 : Int32)) = (0 : Int32) then v17 else (-v17)) v20) = v31
    show own_Go p e below s _ _ _ (T29.setTop (mkF m 194 #[.val (.int p0), .val (.int p1), .val (.int p2), .val (.int p3), .val (.int p4), .val (.int (1 : Int32)), .val (.int v17), .val (.int v18), .val (.int v19), .val (.int v17), .val (.int v20), .val (.ref b21), .val (.long v26), .second, .val (.long v28), .second, .val (.int v31)] []))
    refine own_via (fun _ k => XS.lload X29.here hx rfl (hb hby at_194) rfl k) ?_
    show own_Go p e below s _ _ _ (T29.setTop (mkF m 196 #[.val (.int p0), .val (.int p1), .val (.int p2), .val (.int p3), .val (.int p4), .val (.int (1 : Int32)), .val (.int v17), .val (.int v18), .val (.int v19), .val (.int v17), .val (.int v20), .val (.ref b21), .val (.long v26), .second, .val (.long v28), .second, .val (.int v31)] [(.long v26)]))
    refine own_via (fun _ k => XS.lconst X29.here hx rfl (hb hby at_196) k) ?_
    show own_Go p e below s _ _ _ (T29.setTop (mkF m 197 #[.val (.int p0), .val (.int p1), .val (.int p2), .val (.int p3), .val (.int p4), .val (.int (1 : Int32)), .val (.int v17), .val (.int v18), .val (.int v19), .val (.int v17), .val (.int v20), .val (.ref b21), .val (.long v26), .second, .val (.long v28), .second, .val (.int v31)] [(.long (1 : Int64)), (.long v26)]))
    refine own_via (fun _ k => XS.ladd X29.here hx rfl (hb hby at_197) rfl k) ?_
    show own_Go p e below s _ _ _ (T29.setTop (mkF m 198 #[.val (.int p0), .val (.int p1), .val (.int p2), .val (.int p3), .val (.int p4), .val (.int (1 : Int32)), .val (.int v17), .val (.int v18), .val (.int v19), .val (.int v17), .val (.int v20), .val (.ref b21), .val (.long v26), .second, .val (.long v28), .second, .val (.int v31)] [(.long (v26 + (1 : Int64)))]))
    refine own_via (fun _ k => XS.lload X29.here hx rfl (hb hby at_198) rfl k) ?_
    show own_Go p e below s _ _ _ (T29.setTop (mkF m 200 #[.val (.int p0), .val (.int p1), .val (.int p2), .val (.int p3), .val (.int p4), .val (.int (1 : Int32)), .val (.int v17), .val (.int v18), .val (.int v19), .val (.int v17), .val (.int v20), .val (.ref b21), .val (.long v26), .second, .val (.long v28), .second, .val (.int v31)] [(.long v28), (.long (v26 + (1 : Int64)))]))
    refine own_via (fun _ k => XS.lcmp X29.here hx rfl (hb hby at_200) rfl k) ?_
    show own_Go p e below s _ _ _ (T29.setTop (mkF m 201 #[.val (.int p0), .val (.int p1), .val (.int p2), .val (.int p3), .val (.int p4), .val (.int (1 : Int32)), .val (.int v17), .val (.int v18), .val (.int v19), .val (.int v17), .val (.int v20), .val (.ref b21), .val (.long v26), .second, .val (.long v28), .second, .val (.int v31)] [(.int (lcmpW (v26 + (1 : Int64)) v28))]))
    by_cases hc32 : (v26 + (1 : Int64)) < v28
    · refine own_via (fun _ k => XS.ifNo X29.here hx rfl (hb hby at_201) rfl (Jvm.Free.XT.ll_ge_f hc32) k) ?_
      show own_Go p e below s _ _ _ (T29.setTop (mkF m 204 #[.val (.int p0), .val (.int p1), .val (.int p2), .val (.int p3), .val (.int p4), .val (.int (1 : Int32)), .val (.int v17), .val (.int v18), .val (.int v19), .val (.int v17), .val (.int v20), .val (.ref b21), .val (.long v26), .second, .val (.long v28), .second, .val (.int v31)] []))
      refine own_via (fun _ k => XS.iload X29.here hx rfl (hb hby at_204) rfl k) ?_
      show own_Go p e below s _ _ _ (T29.setTop (mkF m 206 #[.val (.int p0), .val (.int p1), .val (.int p2), .val (.int p3), .val (.int p4), .val (.int (1 : Int32)), .val (.int v17), .val (.int v18), .val (.int v19), .val (.int v17), .val (.int v20), .val (.ref b21), .val (.long v26), .second, .val (.long v28), .second, .val (.int v31)] [(.int v31)]))
      have hc33 : ¬ (v31 = (0 : Int32)) := ((own_law1 (p2 := p2) hv17 hv20 hv26 hv28 hv31).1 hc32).1
      refine own_via (fun _ k => XS.ifNo X29.here hx rfl (hb hby at_206) rfl (Jvm.Free.XT.i0_eq_f hc33) k) ?_
      show own_Go p e below s _ _ _ (T29.setTop (mkF m 209 #[.val (.int p0), .val (.int p1), .val (.int p2), .val (.int p3), .val (.int p4), .val (.int (1 : Int32)), .val (.int v17), .val (.int v18), .val (.int v19), .val (.int v17), .val (.int v20), .val (.ref b21), .val (.long v26), .second, .val (.long v28), .second, .val (.int v31)] []))
      refine own_via (fun _ k => XS.aload X29.here hx rfl (hb hby at_209) rfl rfl k) ?_
      show own_Go p e below s _ _ _ (T29.setTop (mkF m 211 #[.val (.int p0), .val (.int p1), .val (.int p2), .val (.int p3), .val (.int p4), .val (.int (1 : Int32)), .val (.int v17), .val (.int v18), .val (.int v19), .val (.int v17), .val (.int v20), .val (.ref b21), .val (.long v26), .second, .val (.long v28), .second, .val (.int v31)] [(.ref b21)]))
      refine own_via (fun _ k => XS.iload X29.here hx rfl (hb hby at_211) rfl k) ?_
      show own_Go p e below s _ _ _ (T29.setTop (mkF m 213 #[.val (.int p0), .val (.int p1), .val (.int p2), .val (.int p3), .val (.int p4), .val (.int (1 : Int32)), .val (.int v17), .val (.int v18), .val (.int v19), .val (.int v17), .val (.int v20), .val (.ref b21), .val (.long v26), .second, .val (.long v28), .second, .val (.int v31)] [(.int (1 : Int32)), (.ref b21)]))
      refine own_via (fun _ k => XS.iload X29.here hx rfl (hb hby at_213) rfl k) ?_
      show own_Go p e below s _ _ _ (T29.setTop (mkF m 215 #[.val (.int p0), .val (.int p1), .val (.int p2), .val (.int p3), .val (.int p4), .val (.int (1 : Int32)), .val (.int v17), .val (.int v18), .val (.int v19), .val (.int v17), .val (.int v20), .val (.ref b21), .val (.long v26), .second, .val (.long v28), .second, .val (.int v31)] [(.int v20), (.int (1 : Int32)), (.ref b21)]))
      obtain ⟨_, _, ⟨T34, L34, k34, n34⟩, -, X34, ⟨Lc34, hQ34, l34, y34, z34⟩, st34⟩ := Jvm.LawKit.callS X29 hx (y := (⟨"com/example/unalike/unalike/engine/TSetsNextPinLaw", "valid", "([III)Z"⟩ : MethodName)) hown (mvT hZ (hw _ (List.mem_of_getElem? (i := 18) rfl))) (mvT hZ (hw _ (List.mem_of_getElem? (i := 19) rfl))) (mvT hZ (hw _ (List.mem_of_getElem? (i := 4) rfl))) (mvT hZ (hw _ (List.mem_of_getElem? (i := 20) rfl))) (by decide) (backOf (W := 0) (rmv1 l Z a0 hw [] b21 (1 : Int32) v20 k21 (.int (0 : Int32)) (own_nx1_0 (if (p4 &&& (1 : Int32)) = (0 : Int32) then v17 else (-v17)) v20) h29 n0 Z29 F30 (by first | decide | (simp; done))) hZ (hw _ (List.mem_of_getElem? (i := 20) rfl)) (hw _ (List.mem_of_getElem? (i := 4) rfl)) (by decide) (by decide)) (g := (mkF m 215 #[.val (.int p0), .val (.int p1), .val (.int p2), .val (.int p3), .val (.int p4), .val (.int (1 : Int32)), .val (.int v17), .val (.int v18), .val (.int v19), .val (.int v17), .val (.int v20), .val (.ref b21), .val (.long v26), .second, .val (.long v28), .second, .val (.int v31)] [(.int v20), (.int (1 : Int32)), (.ref b21)])) rfl (by rw [hml]; rfl) (argsL := [(.ref b21), (.int (1 : Int32)), (.int v20)]) (rest := []) (lenOf pd_5 rfl) rfl (by show 2 * 0 + _ ≤ _; exact Nat.le_of_eq rfl) (hb hby at_215) (fun _ _ => ⟨rfl, e29, (by decide : 1 + 0 ≤ _), (by decide : 1 + 0 ≤ _)⟩)
      dsimp only [Pt.U, Pt.locs, Pt.cells, Pt.slots] at X34 l34 y34 z34 st34 hQ34
      subst l34 y34 z34
      obtain ⟨rfl, N34q, e34⟩ := hQ34
      have N34 := Fr.app N29 N34q
      refine own_via st34 ?_
      show own_Go p e below s _ _ _ (T34.setTop (mkF m 218 #[.val (.int p0), .val (.int p1), .val (.int p2), .val (.int p3), .val (.int p4), .val (.int (1 : Int32)), .val (.int v17), .val (.int v18), .val (.int v19), .val (.int v17), .val (.int v20), .val (.ref b21), .val (.long v26), .second, .val (.long v28), .second, .val (.int v31)] [(.int (own_va1 (own_nx1_0 (if (p4 &&& (1 : Int32)) = (0 : Int32) then v17 else (-v17)) v20) v20))]))
      have hc35 : ¬ ((own_va1 (own_nx1_0 (if (p4 &&& (1 : Int32)) = (0 : Int32) then v17 else (-v17)) v20) v20) = (0 : Int32)) := ((own_law1 (p2 := p2) hv17 hv20 hv26 hv28 hv31).1 hc32).2.1
      refine own_via (fun _ k => XS.ifNo X34.here hx rfl (hb hby at_218) rfl (Jvm.Free.XT.i0_eq_f hc35) k) ?_
      show own_Go p e below s _ _ _ (T34.setTop (mkF m 221 #[.val (.int p0), .val (.int p1), .val (.int p2), .val (.int p3), .val (.int p4), .val (.int (1 : Int32)), .val (.int v17), .val (.int v18), .val (.int v19), .val (.int v17), .val (.int v20), .val (.ref b21), .val (.long v26), .second, .val (.long v28), .second, .val (.int v31)] []))
      refine own_via (fun _ k => XS.aload X34.here hx rfl (hb hby at_221) rfl rfl k) ?_
      show own_Go p e below s _ _ _ (T34.setTop (mkF m 223 #[.val (.int p0), .val (.int p1), .val (.int p2), .val (.int p3), .val (.int p4), .val (.int (1 : Int32)), .val (.int v17), .val (.int v18), .val (.int v19), .val (.int v17), .val (.int v20), .val (.ref b21), .val (.long v26), .second, .val (.long v28), .second, .val (.int v31)] [(.ref b21)]))
      refine own_via (fun _ k => XS.iload X34.here hx rfl (hb hby at_223) rfl k) ?_
      show own_Go p e below s _ _ _ (T34.setTop (mkF m 225 #[.val (.int p0), .val (.int p1), .val (.int p2), .val (.int p3), .val (.int p4), .val (.int (1 : Int32)), .val (.int v17), .val (.int v18), .val (.int v19), .val (.int v17), .val (.int v20), .val (.ref b21), .val (.long v26), .second, .val (.long v28), .second, .val (.int v31)] [(.int (1 : Int32)), (.ref b21)]))
      refine own_via (fun _ k => XS.iload X34.here hx rfl (hb hby at_225) rfl k) ?_
      show own_Go p e below s _ _ _ (T34.setTop (mkF m 227 #[.val (.int p0), .val (.int p1), .val (.int p2), .val (.int p3), .val (.int p4), .val (.int (1 : Int32)), .val (.int v17), .val (.int v18), .val (.int v19), .val (.int v17), .val (.int v20), .val (.ref b21), .val (.long v26), .second, .val (.long v28), .second, .val (.int v31)] [(.int v20), (.int (1 : Int32)), (.ref b21)]))
      obtain ⟨_, _, ⟨T36, L36, k36, n36⟩, -, X36, ⟨Lc36, hQ36, l36, y36, z36⟩, st36⟩ := Jvm.LawKit.callS X34 hx (y := (⟨"com/example/unalike/unalike/engine/TSetsNextPinLaw", "rank", "([III)J"⟩ : MethodName)) hown (mvT hZ (hw _ (List.mem_of_getElem? (i := 2) rfl))) (mvT hZ (hw _ (List.mem_of_getElem? (i := 3) rfl))) (mvT hZ (hw _ (List.mem_of_getElem? (i := 4) rfl))) (mvT hZ (hw _ (List.mem_of_getElem? (i := 5) rfl))) (by decide) (backOf (W := 0) (rmr1 l Z a0 hw [] b21 (1 : Int32) v20 k21 (.int (0 : Int32)) (own_nx1_0 (if (p4 &&& (1 : Int32)) = (0 : Int32) then v17 else (-v17)) v20) h29 n0 Z29 F30 (by first | decide | (simp; done))) hZ (hw _ (List.mem_of_getElem? (i := 5) rfl)) (hw _ (List.mem_of_getElem? (i := 4) rfl)) (by decide) (by decide)) (g := (mkF m 227 #[.val (.int p0), .val (.int p1), .val (.int p2), .val (.int p3), .val (.int p4), .val (.int (1 : Int32)), .val (.int v17), .val (.int v18), .val (.int v19), .val (.int v17), .val (.int v20), .val (.ref b21), .val (.long v26), .second, .val (.long v28), .second, .val (.int v31)] [(.int v20), (.int (1 : Int32)), (.ref b21)])) rfl (by rw [hml]; rfl) (argsL := [(.ref b21), (.int (1 : Int32)), (.int v20)]) (rest := []) (lenOf pd_3 rfl) rfl (by show 2 * 0 + _ ≤ _; exact Nat.le_of_eq rfl) (hb hby at_227) (fun _ _ => ⟨rfl, e34, (by decide : 1 + 0 ≤ _), (by decide : 1 + 0 ≤ _)⟩)
      dsimp only [Pt.U, Pt.locs, Pt.cells, Pt.slots] at X36 l36 y36 z36 st36 hQ36
      subst l36 y36 z36
      obtain ⟨rfl, N36q, e36⟩ := hQ36
      have N36 := Fr.app N34 N36q
      refine own_via st36 ?_
      show own_Go p e below s _ _ _ (T36.setTop (mkF m 230 #[.val (.int p0), .val (.int p1), .val (.int p2), .val (.int p3), .val (.int p4), .val (.int (1 : Int32)), .val (.int v17), .val (.int v18), .val (.int v19), .val (.int v17), .val (.int v20), .val (.ref b21), .val (.long v26), .second, .val (.long v28), .second, .val (.int v31)] [(.long (own_rk1 (own_nx1_0 (if (p4 &&& (1 : Int32)) = (0 : Int32) then v17 else (-v17)) v20) v20))]))
      refine own_via (fun _ k => XS.lload X36.here hx rfl (hb hby at_230) rfl k) ?_
      show own_Go p e below s _ _ _ (T36.setTop (mkF m 232 #[.val (.int p0), .val (.int p1), .val (.int p2), .val (.int p3), .val (.int p4), .val (.int (1 : Int32)), .val (.int v17), .val (.int v18), .val (.int v19), .val (.int v17), .val (.int v20), .val (.ref b21), .val (.long v26), .second, .val (.long v28), .second, .val (.int v31)] [(.long v26), (.long (own_rk1 (own_nx1_0 (if (p4 &&& (1 : Int32)) = (0 : Int32) then v17 else (-v17)) v20) v20))]))
      refine own_via (fun _ k => XS.lconst X36.here hx rfl (hb hby at_232) k) ?_
      show own_Go p e below s _ _ _ (T36.setTop (mkF m 233 #[.val (.int p0), .val (.int p1), .val (.int p2), .val (.int p3), .val (.int p4), .val (.int (1 : Int32)), .val (.int v17), .val (.int v18), .val (.int v19), .val (.int v17), .val (.int v20), .val (.ref b21), .val (.long v26), .second, .val (.long v28), .second, .val (.int v31)] [(.long (1 : Int64)), (.long v26), (.long (own_rk1 (own_nx1_0 (if (p4 &&& (1 : Int32)) = (0 : Int32) then v17 else (-v17)) v20) v20))]))
      refine own_via (fun _ k => XS.ladd X36.here hx rfl (hb hby at_233) rfl k) ?_
      show own_Go p e below s _ _ _ (T36.setTop (mkF m 234 #[.val (.int p0), .val (.int p1), .val (.int p2), .val (.int p3), .val (.int p4), .val (.int (1 : Int32)), .val (.int v17), .val (.int v18), .val (.int v19), .val (.int v17), .val (.int v20), .val (.ref b21), .val (.long v26), .second, .val (.long v28), .second, .val (.int v31)] [(.long (v26 + (1 : Int64))), (.long (own_rk1 (own_nx1_0 (if (p4 &&& (1 : Int32)) = (0 : Int32) then v17 else (-v17)) v20) v20))]))
      refine own_via (fun _ k => XS.lcmp X36.here hx rfl (hb hby at_234) rfl k) ?_
      show own_Go p e below s _ _ _ (T36.setTop (mkF m 235 #[.val (.int p0), .val (.int p1), .val (.int p2), .val (.int p3), .val (.int p4), .val (.int (1 : Int32)), .val (.int v17), .val (.int v18), .val (.int v19), .val (.int v17), .val (.int v20), .val (.ref b21), .val (.long v26), .second, .val (.long v28), .second, .val (.int v31)] [(.int (lcmpW (own_rk1 (own_nx1_0 (if (p4 &&& (1 : Int32)) = (0 : Int32) then v17 else (-v17)) v20) v20) (v26 + (1 : Int64))))]))
      have hc37 : (own_rk1 (own_nx1_0 (if (p4 &&& (1 : Int32)) = (0 : Int32) then v17 else (-v17)) v20) v20) = (v26 + (1 : Int64)) := ((own_law1 (p2 := p2) hv17 hv20 hv26 hv28 hv31).1 hc32).2.2
      refine own_via (fun _ k => XS.ifNo X36.here hx rfl (hb hby at_235) rfl (Jvm.Free.XT.ll_ne_f hc37) k) ?_
      show own_Go p e below s _ _ _ (T36.setTop (mkF m 238 #[.val (.int p0), .val (.int p1), .val (.int p2), .val (.int p3), .val (.int p4), .val (.int (1 : Int32)), .val (.int v17), .val (.int v18), .val (.int v19), .val (.int v17), .val (.int v20), .val (.ref b21), .val (.long v26), .second, .val (.long v28), .second, .val (.int v31)] []))
      refine own_via (fun _ k => XS.iconst X36.here hx rfl (hb hby at_238) k) ?_
      show own_Go p e below s _ _ _ (T36.setTop (mkF m 239 #[.val (.int p0), .val (.int p1), .val (.int p2), .val (.int p3), .val (.int p4), .val (.int (1 : Int32)), .val (.int v17), .val (.int v18), .val (.int v19), .val (.int v17), .val (.int v20), .val (.ref b21), .val (.long v26), .second, .val (.long v28), .second, .val (.int v31)] [(.int (1 : Int32))]))
      refine own_via (fun _ k => XS.goto X36.here hx rfl (pc0 := 239) (pc' := 243) rfl (hb hby at_239) (by decide) (by decide) k) ?_
      show own_Go p e below s _ _ _ (T36.setTop (mkF m 243 #[.val (.int p0), .val (.int p1), .val (.int p2), .val (.int p3), .val (.int p4), .val (.int (1 : Int32)), .val (.int v17), .val (.int v18), .val (.int v19), .val (.int v17), .val (.int v20), .val (.ref b21), .val (.long v26), .second, .val (.long v28), .second, .val (.int v31)] [(.int (1 : Int32))]))
      exact own_goN X36 hx (t := .boolean) Bd.returns (by simp) (hb hby at_243) Bd.notSynchronized (by decide) (by decide) (by rw [e36]; exact ⟨rfl, N36⟩)
    · refine own_via (fun _ k => XS.ifYes X29.here hx rfl (pc0 := 201) (pc' := 244) rfl (hb hby at_201) rfl (Jvm.Free.XT.ll_ge_t hc32) (by decide) (by decide) k) ?_
      show own_Go p e below s _ _ _ (T29.setTop (mkF m 244 #[.val (.int p0), .val (.int p1), .val (.int p2), .val (.int p3), .val (.int p4), .val (.int (1 : Int32)), .val (.int v17), .val (.int v18), .val (.int v19), .val (.int v17), .val (.int v20), .val (.ref b21), .val (.long v26), .second, .val (.long v28), .second, .val (.int v31)] []))
      refine own_via (fun _ k => XS.iload X29.here hx rfl (hb hby at_244) rfl k) ?_
      show own_Go p e below s _ _ _ (T29.setTop (mkF m 246 #[.val (.int p0), .val (.int p1), .val (.int p2), .val (.int p3), .val (.int p4), .val (.int (1 : Int32)), .val (.int v17), .val (.int v18), .val (.int v19), .val (.int v17), .val (.int v20), .val (.ref b21), .val (.long v26), .second, .val (.long v28), .second, .val (.int v31)] [(.int v31)]))
      have hc38 : v31 = (0 : Int32) := ((own_law1 (p2 := p2) hv17 hv20 hv26 hv28 hv31).2 hc32).1
      refine own_via (fun _ k => XS.ifNo X29.here hx rfl (hb hby at_246) rfl (Jvm.Free.XT.i0_ne_f hc38) k) ?_
      show own_Go p e below s _ _ _ (T29.setTop (mkF m 249 #[.val (.int p0), .val (.int p1), .val (.int p2), .val (.int p3), .val (.int p4), .val (.int (1 : Int32)), .val (.int v17), .val (.int v18), .val (.int v19), .val (.int v17), .val (.int v20), .val (.ref b21), .val (.long v26), .second, .val (.long v28), .second, .val (.int v31)] []))
      refine own_via (fun _ k => XS.iload X29.here hx rfl (hb hby at_249) rfl k) ?_
      show own_Go p e below s _ _ _ (T29.setTop (mkF m 251 #[.val (.int p0), .val (.int p1), .val (.int p2), .val (.int p3), .val (.int p4), .val (.int (1 : Int32)), .val (.int v17), .val (.int v18), .val (.int v19), .val (.int v17), .val (.int v20), .val (.ref b21), .val (.long v26), .second, .val (.long v28), .second, .val (.int v31)] [(.int (1 : Int32))]))
      refine own_via (fun _ k => XS.iconst X29.here hx rfl (hb hby at_251) k) ?_
      show own_Go p e below s _ _ _ (T29.setTop (mkF m 252 #[.val (.int p0), .val (.int p1), .val (.int p2), .val (.int p3), .val (.int p4), .val (.int (1 : Int32)), .val (.int v17), .val (.int v18), .val (.int v19), .val (.int v17), .val (.int v20), .val (.ref b21), .val (.long v26), .second, .val (.long v28), .second, .val (.int v31)] [(.int (1 : Int32)), (.int (1 : Int32))]))
      refine own_via (fun _ k => XS.icmpNo X29.here hx rfl (hb hby at_252) rfl (Jvm.Free.XT.ii_lt_f (by decide)) k) ?_
      show own_Go p e below s _ _ _ (T29.setTop (mkF m 255 #[.val (.int p0), .val (.int p1), .val (.int p2), .val (.int p3), .val (.int p4), .val (.int (1 : Int32)), .val (.int v17), .val (.int v18), .val (.int v19), .val (.int v17), .val (.int v20), .val (.ref b21), .val (.long v26), .second, .val (.long v28), .second, .val (.int v31)] []))
      refine own_via (fun _ k => XS.aload X29.here hx rfl (hb hby at_255) rfl rfl k) ?_
      show own_Go p e below s _ _ _ (T29.setTop (mkF m 257 #[.val (.int p0), .val (.int p1), .val (.int p2), .val (.int p3), .val (.int p4), .val (.int (1 : Int32)), .val (.int v17), .val (.int v18), .val (.int v19), .val (.int v17), .val (.int v20), .val (.ref b21), .val (.long v26), .second, .val (.long v28), .second, .val (.int v31)] [(.ref b21)]))
      refine own_via (fun _ k => XS.iconst X29.here hx rfl (hb hby at_257) k) ?_
      show own_Go p e below s _ _ _ (T29.setTop (mkF m 258 #[.val (.int p0), .val (.int p1), .val (.int p2), .val (.int p3), .val (.int p4), .val (.int (1 : Int32)), .val (.int v17), .val (.int v18), .val (.int v19), .val (.int v17), .val (.int v20), .val (.ref b21), .val (.long v26), .second, .val (.long v28), .second, .val (.int v31)] [(.int (0 : Int32)), (.ref b21)]))
      obtain ⟨cl39, Ar39, q39, S39, M39, H39, G39⟩ := (id F30)
      have hin39 : ¬ ((0 : Int32) < 0 ∨ cl39.slots.size ≤ ((0 : Int32)).toNatClampNeg) := inb_of S39 ⟨by decide, by decide⟩
      have hat39 : cl39.slots[((0 : Int32)).toNatClampNeg]? = some (.int (own_nx1_0 (if (p4 &&& (1 : Int32)) = (0 : Int32) then v17 else (-v17)) v20)) := Has.at H39 hin39 rfl
      refine own_via (fun _ k => X29.iaload hx (j := (0 : Int32)) (v := (.int (own_nx1_0 (if (p4 &&& (1 : Int32)) = (0 : Int32) then v17 else (-v17)) v20))) (by rw [e29]; exact Ar39.1) (State.isArrayOf_alike hZ.alike Ar39.2.1) Ar39.2.2 hin39 hat39 (g := (mkF m 258 #[.val (.int p0), .val (.int p1), .val (.int p2), .val (.int p3), .val (.int p4), .val (.int (1 : Int32)), .val (.int v17), .val (.int v18), .val (.int v19), .val (.int v17), .val (.int v20), .val (.ref b21), .val (.long v26), .second, .val (.long v28), .second, .val (.int v31)] [(.int (0 : Int32)), (.ref b21)])) rfl rfl (hb hby at_258) _ k) ?_
      show own_Go p e below s _ _ _ (T29.setTop (mkF m 259 #[.val (.int p0), .val (.int p1), .val (.int p2), .val (.int p3), .val (.int p4), .val (.int (1 : Int32)), .val (.int v17), .val (.int v18), .val (.int v19), .val (.int v17), .val (.int v20), .val (.ref b21), .val (.long v26), .second, .val (.long v28), .second, .val (.int v31)] [(.int (own_nx1_0 (if (p4 &&& (1 : Int32)) = (0 : Int32) then v17 else (-v17)) v20))]))
      refine own_via (fun _ k => XS.iload X29.here hx rfl (hb hby at_259) rfl k) ?_
      show own_Go p e below s _ _ _ (T29.setTop (mkF m 261 #[.val (.int p0), .val (.int p1), .val (.int p2), .val (.int p3), .val (.int p4), .val (.int (1 : Int32)), .val (.int v17), .val (.int v18), .val (.int v19), .val (.int v17), .val (.int v20), .val (.ref b21), .val (.long v26), .second, .val (.long v28), .second, .val (.int v31)] [(.int v17), (.int (own_nx1_0 (if (p4 &&& (1 : Int32)) = (0 : Int32) then v17 else (-v17)) v20))]))
      have hc40 : (own_nx1_0 (if (p4 &&& (1 : Int32)) = (0 : Int32) then v17 else (-v17)) v20) = v17 := ((own_law1 (p2 := p2) hv17 hv20 hv26 hv28 hv31).2 hc32).2
      refine own_via (fun _ k => XS.icmpNo X29.here hx rfl (hb hby at_261) rfl (Jvm.Free.XT.ii_ne_f hc40) k) ?_
      show own_Go p e below s _ _ _ (T29.setTop (mkF m 264 #[.val (.int p0), .val (.int p1), .val (.int p2), .val (.int p3), .val (.int p4), .val (.int (1 : Int32)), .val (.int v17), .val (.int v18), .val (.int v19), .val (.int v17), .val (.int v20), .val (.ref b21), .val (.long v26), .second, .val (.long v28), .second, .val (.int v31)] []))
      refine own_via (fun _ k => XS.iload X29.here hx rfl (hb hby at_264) rfl k) ?_
      show own_Go p e below s _ _ _ (T29.setTop (mkF m 266 #[.val (.int p0), .val (.int p1), .val (.int p2), .val (.int p3), .val (.int p4), .val (.int (1 : Int32)), .val (.int v17), .val (.int v18), .val (.int v19), .val (.int v17), .val (.int v20), .val (.ref b21), .val (.long v26), .second, .val (.long v28), .second, .val (.int v31)] [(.int (1 : Int32))]))
      refine own_via (fun _ k => XS.iconst X29.here hx rfl (hb hby at_266) k) ?_
      show own_Go p e below s _ _ _ (T29.setTop (mkF m 267 #[.val (.int p0), .val (.int p1), .val (.int p2), .val (.int p3), .val (.int p4), .val (.int (1 : Int32)), .val (.int v17), .val (.int v18), .val (.int v19), .val (.int v17), .val (.int v20), .val (.ref b21), .val (.long v26), .second, .val (.long v28), .second, .val (.int v31)] [(.int (2 : Int32)), (.int (1 : Int32))]))
      refine own_via (fun _ k => XS.icmpYes X29.here hx rfl (pc0 := 267) (pc' := 279) rfl (hb hby at_267) rfl (Jvm.Free.XT.ii_lt_t (by decide)) (by decide) (by decide) k) ?_
      show own_Go p e below s _ _ _ (T29.setTop (mkF m 279 #[.val (.int p0), .val (.int p1), .val (.int p2), .val (.int p3), .val (.int p4), .val (.int (1 : Int32)), .val (.int v17), .val (.int v18), .val (.int v19), .val (.int v17), .val (.int v20), .val (.ref b21), .val (.long v26), .second, .val (.long v28), .second, .val (.int v31)] []))
      refine own_via (fun _ k => XS.iload X29.here hx rfl (hb hby at_279) rfl k) ?_
      show own_Go p e below s _ _ _ (T29.setTop (mkF m 281 #[.val (.int p0), .val (.int p1), .val (.int p2), .val (.int p3), .val (.int p4), .val (.int (1 : Int32)), .val (.int v17), .val (.int v18), .val (.int v19), .val (.int v17), .val (.int v20), .val (.ref b21), .val (.long v26), .second, .val (.long v28), .second, .val (.int v31)] [(.int (1 : Int32))]))
      refine own_via (fun _ k => XS.iconst X29.here hx rfl (hb hby at_281) k) ?_
      show own_Go p e below s _ _ _ (T29.setTop (mkF m 282 #[.val (.int p0), .val (.int p1), .val (.int p2), .val (.int p3), .val (.int p4), .val (.int (1 : Int32)), .val (.int v17), .val (.int v18), .val (.int v19), .val (.int v17), .val (.int v20), .val (.ref b21), .val (.long v26), .second, .val (.long v28), .second, .val (.int v31)] [(.int (3 : Int32)), (.int (1 : Int32))]))
      refine own_via (fun _ k => XS.icmpYes X29.here hx rfl (pc0 := 282) (pc' := 294) rfl (hb hby at_282) rfl (Jvm.Free.XT.ii_lt_t (by decide)) (by decide) (by decide) k) ?_
      show own_Go p e below s _ _ _ (T29.setTop (mkF m 294 #[.val (.int p0), .val (.int p1), .val (.int p2), .val (.int p3), .val (.int p4), .val (.int (1 : Int32)), .val (.int v17), .val (.int v18), .val (.int v19), .val (.int v17), .val (.int v20), .val (.ref b21), .val (.long v26), .second, .val (.long v28), .second, .val (.int v31)] []))
      refine own_via (fun _ k => XS.iconst X29.here hx rfl (hb hby at_294) k) ?_
      show own_Go p e below s _ _ _ (T29.setTop (mkF m 295 #[.val (.int p0), .val (.int p1), .val (.int p2), .val (.int p3), .val (.int p4), .val (.int (1 : Int32)), .val (.int v17), .val (.int v18), .val (.int v19), .val (.int v17), .val (.int v20), .val (.ref b21), .val (.long v26), .second, .val (.long v28), .second, .val (.int v31)] [(.int (1 : Int32))]))
      refine own_via (fun _ k => XS.goto X29.here hx rfl (pc0 := 295) (pc' := 299) rfl (hb hby at_295) (by decide) (by decide) k) ?_
      show own_Go p e below s _ _ _ (T29.setTop (mkF m 299 #[.val (.int p0), .val (.int p1), .val (.int p2), .val (.int p3), .val (.int p4), .val (.int (1 : Int32)), .val (.int v17), .val (.int v18), .val (.int v19), .val (.int v17), .val (.int v20), .val (.ref b21), .val (.long v26), .second, .val (.long v28), .second, .val (.int v31)] [(.int (1 : Int32))]))
      exact own_goN X29 hx (t := .boolean) Bd.returns (by simp) (hb hby at_299) Bd.notSynchronized (by decide) (by decide) (by rw [e29]; exact ⟨rfl, N29⟩)
  · show own_Go p e below s _ _ _ (s₁.setTop (mkF m 5 #[.val (.int p0), .val (.int p1), .val (.int p2), .val (.int p3), .val (.int p4), .val (.int (2 : Int32)), .unset, .unset, .unset, .unset, .unset, .unset, .unset, .unset, .unset, .unset, .unset] []))
    refine own_via (fun _ k => XS.iconst X0.here hx rfl (hb hby at_5) k) ?_
    show own_Go p e below s _ _ _ (s₁.setTop (mkF m 6 #[.val (.int p0), .val (.int p1), .val (.int p2), .val (.int p3), .val (.int p4), .val (.int (2 : Int32)), .unset, .unset, .unset, .unset, .unset, .unset, .unset, .unset, .unset, .unset, .unset] [(.int (1 : Int32))]))
    refine own_via (fun _ k => XS.iloadN X0.here hx rfl (hb hby at_6) rfl k) ?_
    show own_Go p e below s _ _ _ (s₁.setTop (mkF m 7 #[.val (.int p0), .val (.int p1), .val (.int p2), .val (.int p3), .val (.int p4), .val (.int (2 : Int32)), .unset, .unset, .unset, .unset, .unset, .unset, .unset, .unset, .unset, .unset, .unset] [(.int p1), (.int (1 : Int32))]))
    refine own_via (fun _ k => X0.ldcInt hx hown (mvT hZ (hw _ (List.mem_of_getElem? (i := 0) rfl))) (g := (mkF m 7 #[.val (.int p0), .val (.int p1), .val (.int p2), .val (.int p3), .val (.int p4), .val (.int (2 : Int32)), .unset, .unset, .unset, .unset, .unset, .unset, .unset, .unset, .unset, .unset, .unset] [(.int p1), (.int (1 : Int32))])) rfl (hb hby at_7) _ k) ?_
    show own_Go p e below s _ _ _ (s₁.setTop (mkF m 9 #[.val (.int p0), .val (.int p1), .val (.int p2), .val (.int p3), .val (.int p4), .val (.int (2 : Int32)), .unset, .unset, .unset, .unset, .unset, .unset, .unset, .unset, .unset, .unset, .unset] [(.int (1048575 : Int32)), (.int p1), (.int (1 : Int32))]))
    refine own_via (fun _ k => XS.iand X0.here hx rfl (hb hby at_9) rfl k) ?_
    show own_Go p e below s _ _ _ (s₁.setTop (mkF m 10 #[.val (.int p0), .val (.int p1), .val (.int p2), .val (.int p3), .val (.int p4), .val (.int (2 : Int32)), .unset, .unset, .unset, .unset, .unset, .unset, .unset, .unset, .unset, .unset, .unset] [(.int (p1 &&& (1048575 : Int32))), (.int (1 : Int32))]))
    refine own_via (fun _ k => XS.iadd X0.here hx rfl (hb hby at_10) rfl k) ?_
    show own_Go p e below s _ _ _ (s₁.setTop (mkF m 11 #[.val (.int p0), .val (.int p1), .val (.int p2), .val (.int p3), .val (.int p4), .val (.int (2 : Int32)), .unset, .unset, .unset, .unset, .unset, .unset, .unset, .unset, .unset, .unset, .unset] [(.int ((1 : Int32) + (p1 &&& (1048575 : Int32))))]))
    refine own_via (fun _ k => XS.istore X0.here hx rfl (hb hby at_11) rfl (l' := #[.val (.int p0), .val (.int p1), .val (.int p2), .val (.int p3), .val (.int p4), .val (.int (2 : Int32)), .val (.int ((1 : Int32) + (p1 &&& (1048575 : Int32)))), .unset, .unset, .unset, .unset, .unset, .unset, .unset, .unset, .unset, .unset]) rfl k) ?_
    show own_Go p e below s _ _ _ (s₁.setTop (mkF m 13 #[.val (.int p0), .val (.int p1), .val (.int p2), .val (.int p3), .val (.int p4), .val (.int (2 : Int32)), .val (.int ((1 : Int32) + (p1 &&& (1048575 : Int32)))), .unset, .unset, .unset, .unset, .unset, .unset, .unset, .unset, .unset, .unset] []))
    generalize hv41 : ((1 : Int32) + (p1 &&& (1048575 : Int32))) = v41
    show own_Go p e below s _ _ _ (s₁.setTop (mkF m 13 #[.val (.int p0), .val (.int p1), .val (.int p2), .val (.int p3), .val (.int p4), .val (.int (2 : Int32)), .val (.int v41), .unset, .unset, .unset, .unset, .unset, .unset, .unset, .unset, .unset, .unset] []))
    refine own_via (fun _ k => XS.iload X0.here hx rfl (hb hby at_13) rfl k) ?_
    show own_Go p e below s _ _ _ (s₁.setTop (mkF m 15 #[.val (.int p0), .val (.int p1), .val (.int p2), .val (.int p3), .val (.int p4), .val (.int (2 : Int32)), .val (.int v41), .unset, .unset, .unset, .unset, .unset, .unset, .unset, .unset, .unset, .unset] [(.int v41)]))
    refine own_via (fun _ k => XS.iconst X0.here hx rfl (hb hby at_15) k) ?_
    show own_Go p e below s _ _ _ (s₁.setTop (mkF m 16 #[.val (.int p0), .val (.int p1), .val (.int p2), .val (.int p3), .val (.int p4), .val (.int (2 : Int32)), .val (.int v41), .unset, .unset, .unset, .unset, .unset, .unset, .unset, .unset, .unset, .unset] [(.int (1 : Int32)), (.int v41)]))
    refine own_via (fun _ k => XS.iadd X0.here hx rfl (hb hby at_16) rfl k) ?_
    show own_Go p e below s _ _ _ (s₁.setTop (mkF m 17 #[.val (.int p0), .val (.int p1), .val (.int p2), .val (.int p3), .val (.int p4), .val (.int (2 : Int32)), .val (.int v41), .unset, .unset, .unset, .unset, .unset, .unset, .unset, .unset, .unset, .unset] [(.int (v41 + (1 : Int32)))]))
    refine own_via (fun _ k => XS.iloadN X0.here hx rfl (hb hby at_17) rfl k) ?_
    show own_Go p e below s _ _ _ (s₁.setTop (mkF m 18 #[.val (.int p0), .val (.int p1), .val (.int p2), .val (.int p3), .val (.int p4), .val (.int (2 : Int32)), .val (.int v41), .unset, .unset, .unset, .unset, .unset, .unset, .unset, .unset, .unset, .unset] [(.int p2), (.int (v41 + (1 : Int32)))]))
    refine own_via (fun _ k => XS.iconst X0.here hx rfl (hb hby at_18) k) ?_
    show own_Go p e below s _ _ _ (s₁.setTop (mkF m 19 #[.val (.int p0), .val (.int p1), .val (.int p2), .val (.int p3), .val (.int p4), .val (.int (2 : Int32)), .val (.int v41), .unset, .unset, .unset, .unset, .unset, .unset, .unset, .unset, .unset, .unset] [(.int (3 : Int32)), (.int p2), (.int (v41 + (1 : Int32)))]))
    refine own_via (fun _ k => XS.iand X0.here hx rfl (hb hby at_19) rfl k) ?_
    show own_Go p e below s _ _ _ (s₁.setTop (mkF m 20 #[.val (.int p0), .val (.int p1), .val (.int p2), .val (.int p3), .val (.int p4), .val (.int (2 : Int32)), .val (.int v41), .unset, .unset, .unset, .unset, .unset, .unset, .unset, .unset, .unset, .unset] [(.int (p2 &&& (3 : Int32))), (.int (v41 + (1 : Int32)))]))
    refine own_via (fun _ k => XS.iadd X0.here hx rfl (hb hby at_20) rfl k) ?_
    show own_Go p e below s _ _ _ (s₁.setTop (mkF m 21 #[.val (.int p0), .val (.int p1), .val (.int p2), .val (.int p3), .val (.int p4), .val (.int (2 : Int32)), .val (.int v41), .unset, .unset, .unset, .unset, .unset, .unset, .unset, .unset, .unset, .unset] [(.int ((v41 + (1 : Int32)) + (p2 &&& (3 : Int32))))]))
    refine own_via (fun _ k => XS.istore X0.here hx rfl (hb hby at_21) rfl (l' := #[.val (.int p0), .val (.int p1), .val (.int p2), .val (.int p3), .val (.int p4), .val (.int (2 : Int32)), .val (.int v41), .val (.int ((v41 + (1 : Int32)) + (p2 &&& (3 : Int32)))), .unset, .unset, .unset, .unset, .unset, .unset, .unset, .unset, .unset]) rfl k) ?_
    show own_Go p e below s _ _ _ (s₁.setTop (mkF m 23 #[.val (.int p0), .val (.int p1), .val (.int p2), .val (.int p3), .val (.int p4), .val (.int (2 : Int32)), .val (.int v41), .val (.int ((v41 + (1 : Int32)) + (p2 &&& (3 : Int32)))), .unset, .unset, .unset, .unset, .unset, .unset, .unset, .unset, .unset] []))
    generalize hv42 : ((v41 + (1 : Int32)) + (p2 &&& (3 : Int32))) = v42
    show own_Go p e below s _ _ _ (s₁.setTop (mkF m 23 #[.val (.int p0), .val (.int p1), .val (.int p2), .val (.int p3), .val (.int p4), .val (.int (2 : Int32)), .val (.int v41), .val (.int v42), .unset, .unset, .unset, .unset, .unset, .unset, .unset, .unset, .unset] []))
    refine own_via (fun _ k => XS.iload X0.here hx rfl (hb hby at_23) rfl k) ?_
    show own_Go p e below s _ _ _ (s₁.setTop (mkF m 25 #[.val (.int p0), .val (.int p1), .val (.int p2), .val (.int p3), .val (.int p4), .val (.int (2 : Int32)), .val (.int v41), .val (.int v42), .unset, .unset, .unset, .unset, .unset, .unset, .unset, .unset, .unset] [(.int v42)]))
    refine own_via (fun _ k => XS.iconst X0.here hx rfl (hb hby at_25) k) ?_
    show own_Go p e below s _ _ _ (s₁.setTop (mkF m 26 #[.val (.int p0), .val (.int p1), .val (.int p2), .val (.int p3), .val (.int p4), .val (.int (2 : Int32)), .val (.int v41), .val (.int v42), .unset, .unset, .unset, .unset, .unset, .unset, .unset, .unset, .unset] [(.int (1 : Int32)), (.int v42)]))
    refine own_via (fun _ k => XS.iadd X0.here hx rfl (hb hby at_26) rfl k) ?_
    show own_Go p e below s _ _ _ (s₁.setTop (mkF m 27 #[.val (.int p0), .val (.int p1), .val (.int p2), .val (.int p3), .val (.int p4), .val (.int (2 : Int32)), .val (.int v41), .val (.int v42), .unset, .unset, .unset, .unset, .unset, .unset, .unset, .unset, .unset] [(.int (v42 + (1 : Int32)))]))
    refine own_via (fun _ k => XS.iloadN X0.here hx rfl (hb hby at_27) rfl k) ?_
    show own_Go p e below s _ _ _ (s₁.setTop (mkF m 28 #[.val (.int p0), .val (.int p1), .val (.int p2), .val (.int p3), .val (.int p4), .val (.int (2 : Int32)), .val (.int v41), .val (.int v42), .unset, .unset, .unset, .unset, .unset, .unset, .unset, .unset, .unset] [(.int p2), (.int (v42 + (1 : Int32)))]))
    refine own_via (fun _ k => XS.iconst X0.here hx rfl (hb hby at_28) k) ?_
    show own_Go p e below s _ _ _ (s₁.setTop (mkF m 29 #[.val (.int p0), .val (.int p1), .val (.int p2), .val (.int p3), .val (.int p4), .val (.int (2 : Int32)), .val (.int v41), .val (.int v42), .unset, .unset, .unset, .unset, .unset, .unset, .unset, .unset, .unset] [(.int (2 : Int32)), (.int p2), (.int (v42 + (1 : Int32)))]))
    refine own_via (fun _ k => XS.iushr X0.here hx rfl (hb hby at_29) rfl k) ?_
    show own_Go p e below s _ _ _ (s₁.setTop (mkF m 30 #[.val (.int p0), .val (.int p1), .val (.int p2), .val (.int p3), .val (.int p4), .val (.int (2 : Int32)), .val (.int v41), .val (.int v42), .unset, .unset, .unset, .unset, .unset, .unset, .unset, .unset, .unset] [(.int (o_iushr p2 (2 : Int32))), (.int (v42 + (1 : Int32)))]))
    refine own_via (fun _ k => XS.iconst X0.here hx rfl (hb hby at_30) k) ?_
    show own_Go p e below s _ _ _ (s₁.setTop (mkF m 31 #[.val (.int p0), .val (.int p1), .val (.int p2), .val (.int p3), .val (.int p4), .val (.int (2 : Int32)), .val (.int v41), .val (.int v42), .unset, .unset, .unset, .unset, .unset, .unset, .unset, .unset, .unset] [(.int (3 : Int32)), (.int (o_iushr p2 (2 : Int32))), (.int (v42 + (1 : Int32)))]))
    refine own_via (fun _ k => XS.iand X0.here hx rfl (hb hby at_31) rfl k) ?_
    show own_Go p e below s _ _ _ (s₁.setTop (mkF m 32 #[.val (.int p0), .val (.int p1), .val (.int p2), .val (.int p3), .val (.int p4), .val (.int (2 : Int32)), .val (.int v41), .val (.int v42), .unset, .unset, .unset, .unset, .unset, .unset, .unset, .unset, .unset] [(.int ((o_iushr p2 (2 : Int32)) &&& (3 : Int32))), (.int (v42 + (1 : Int32)))]))
    refine own_via (fun _ k => XS.iadd X0.here hx rfl (hb hby at_32) rfl k) ?_
    show own_Go p e below s _ _ _ (s₁.setTop (mkF m 33 #[.val (.int p0), .val (.int p1), .val (.int p2), .val (.int p3), .val (.int p4), .val (.int (2 : Int32)), .val (.int v41), .val (.int v42), .unset, .unset, .unset, .unset, .unset, .unset, .unset, .unset, .unset] [(.int ((v42 + (1 : Int32)) + ((o_iushr p2 (2 : Int32)) &&& (3 : Int32))))]))
    refine own_via (fun _ k => XS.istore X0.here hx rfl (hb hby at_33) rfl (l' := #[.val (.int p0), .val (.int p1), .val (.int p2), .val (.int p3), .val (.int p4), .val (.int (2 : Int32)), .val (.int v41), .val (.int v42), .val (.int ((v42 + (1 : Int32)) + ((o_iushr p2 (2 : Int32)) &&& (3 : Int32)))), .unset, .unset, .unset, .unset, .unset, .unset, .unset, .unset]) rfl k) ?_
    show own_Go p e below s _ _ _ (s₁.setTop (mkF m 35 #[.val (.int p0), .val (.int p1), .val (.int p2), .val (.int p3), .val (.int p4), .val (.int (2 : Int32)), .val (.int v41), .val (.int v42), .val (.int ((v42 + (1 : Int32)) + ((o_iushr p2 (2 : Int32)) &&& (3 : Int32)))), .unset, .unset, .unset, .unset, .unset, .unset, .unset, .unset] []))
    generalize hv43 : ((v42 + (1 : Int32)) + ((o_iushr p2 (2 : Int32)) &&& (3 : Int32))) = v43
    show own_Go p e below s _ _ _ (s₁.setTop (mkF m 35 #[.val (.int p0), .val (.int p1), .val (.int p2), .val (.int p3), .val (.int p4), .val (.int (2 : Int32)), .val (.int v41), .val (.int v42), .val (.int v43), .unset, .unset, .unset, .unset, .unset, .unset, .unset, .unset] []))
    refine own_via (fun _ k => XS.iload X0.here hx rfl (hb hby at_35) rfl k) ?_
    show own_Go p e below s _ _ _ (s₁.setTop (mkF m 37 #[.val (.int p0), .val (.int p1), .val (.int p2), .val (.int p3), .val (.int p4), .val (.int (2 : Int32)), .val (.int v41), .val (.int v42), .val (.int v43), .unset, .unset, .unset, .unset, .unset, .unset, .unset, .unset] [(.int (2 : Int32))]))
    refine own_via (fun _ k => XS.ifYes X0.here hx rfl (pc0 := 37) (pc' := 47) rfl (hb hby at_37) rfl (Jvm.Free.XT.i0_ne_t (by decide)) (by decide) (by decide) k) ?_
    show own_Go p e below s _ _ _ (s₁.setTop (mkF m 47 #[.val (.int p0), .val (.int p1), .val (.int p2), .val (.int p3), .val (.int p4), .val (.int (2 : Int32)), .val (.int v41), .val (.int v42), .val (.int v43), .unset, .unset, .unset, .unset, .unset, .unset, .unset, .unset] []))
    refine own_via (fun _ k => XS.iload X0.here hx rfl (hb hby at_47) rfl k) ?_
    show own_Go p e below s _ _ _ (s₁.setTop (mkF m 49 #[.val (.int p0), .val (.int p1), .val (.int p2), .val (.int p3), .val (.int p4), .val (.int (2 : Int32)), .val (.int v41), .val (.int v42), .val (.int v43), .unset, .unset, .unset, .unset, .unset, .unset, .unset, .unset] [(.int (2 : Int32))]))
    refine own_via (fun _ k => XS.iconst X0.here hx rfl (hb hby at_49) k) ?_
    show own_Go p e below s _ _ _ (s₁.setTop (mkF m 50 #[.val (.int p0), .val (.int p1), .val (.int p2), .val (.int p3), .val (.int p4), .val (.int (2 : Int32)), .val (.int v41), .val (.int v42), .val (.int v43), .unset, .unset, .unset, .unset, .unset, .unset, .unset, .unset] [(.int (1 : Int32)), (.int (2 : Int32))]))
    refine own_via (fun _ k => XS.icmpYes X0.here hx rfl (pc0 := 50) (pc' := 58) rfl (hb hby at_50) rfl (Jvm.Free.XT.ii_ne_t (by decide)) (by decide) (by decide) k) ?_
    show own_Go p e below s _ _ _ (s₁.setTop (mkF m 58 #[.val (.int p0), .val (.int p1), .val (.int p2), .val (.int p3), .val (.int p4), .val (.int (2 : Int32)), .val (.int v41), .val (.int v42), .val (.int v43), .unset, .unset, .unset, .unset, .unset, .unset, .unset, .unset] []))
    refine own_via (fun _ k => XS.iload X0.here hx rfl (hb hby at_58) rfl k) ?_
    show own_Go p e below s _ _ _ (s₁.setTop (mkF m 60 #[.val (.int p0), .val (.int p1), .val (.int p2), .val (.int p3), .val (.int p4), .val (.int (2 : Int32)), .val (.int v41), .val (.int v42), .val (.int v43), .unset, .unset, .unset, .unset, .unset, .unset, .unset, .unset] [(.int (2 : Int32))]))
    refine own_via (fun _ k => XS.iconst X0.here hx rfl (hb hby at_60) k) ?_
    show own_Go p e below s _ _ _ (s₁.setTop (mkF m 61 #[.val (.int p0), .val (.int p1), .val (.int p2), .val (.int p3), .val (.int p4), .val (.int (2 : Int32)), .val (.int v41), .val (.int v42), .val (.int v43), .unset, .unset, .unset, .unset, .unset, .unset, .unset, .unset] [(.int (2 : Int32)), (.int (2 : Int32))]))
    refine own_via (fun _ k => XS.icmpNo X0.here hx rfl (hb hby at_61) rfl (Jvm.Free.XT.ii_ne_f (by decide)) k) ?_
    show own_Go p e below s _ _ _ (s₁.setTop (mkF m 64 #[.val (.int p0), .val (.int p1), .val (.int p2), .val (.int p3), .val (.int p4), .val (.int (2 : Int32)), .val (.int v41), .val (.int v42), .val (.int v43), .unset, .unset, .unset, .unset, .unset, .unset, .unset, .unset] []))
    refine own_via (fun _ k => XS.iload X0.here hx rfl (hb hby at_64) rfl k) ?_
    show own_Go p e below s _ _ _ (s₁.setTop (mkF m 66 #[.val (.int p0), .val (.int p1), .val (.int p2), .val (.int p3), .val (.int p4), .val (.int (2 : Int32)), .val (.int v41), .val (.int v42), .val (.int v43), .unset, .unset, .unset, .unset, .unset, .unset, .unset, .unset] [(.int v42)]))
    refine own_via (fun _ k => XS.goto X0.here hx rfl (pc0 := 66) (pc' := 71) rfl (hb hby at_66) (by decide) (by decide) k) ?_
    show own_Go p e below s _ _ _ (s₁.setTop (mkF m 71 #[.val (.int p0), .val (.int p1), .val (.int p2), .val (.int p3), .val (.int p4), .val (.int (2 : Int32)), .val (.int v41), .val (.int v42), .val (.int v43), .unset, .unset, .unset, .unset, .unset, .unset, .unset, .unset] [(.int v42)]))
    refine own_via (fun _ k => XS.istore X0.here hx rfl (hb hby at_71) rfl (l' := #[.val (.int p0), .val (.int p1), .val (.int p2), .val (.int p3), .val (.int p4), .val (.int (2 : Int32)), .val (.int v41), .val (.int v42), .val (.int v43), .val (.int v42), .unset, .unset, .unset, .unset, .unset, .unset, .unset]) rfl k) ?_
    show own_Go p e below s _ _ _ (s₁.setTop (mkF m 73 #[.val (.int p0), .val (.int p1), .val (.int p2), .val (.int p3), .val (.int p4), .val (.int (2 : Int32)), .val (.int v41), .val (.int v42), .val (.int v43), .val (.int v42), .unset, .unset, .unset, .unset, .unset, .unset, .unset] []))
    refine own_via (fun _ k => XS.iload X0.here hx rfl (hb hby at_73) rfl k) ?_
    show own_Go p e below s _ _ _ (s₁.setTop (mkF m 75 #[.val (.int p0), .val (.int p1), .val (.int p2), .val (.int p3), .val (.int p4), .val (.int (2 : Int32)), .val (.int v41), .val (.int v42), .val (.int v43), .val (.int v42), .unset, .unset, .unset, .unset, .unset, .unset, .unset] [(.int v42)]))
    refine own_via (fun _ k => XS.iloadN X0.here hx rfl (hb hby at_75) rfl k) ?_
    show own_Go p e below s _ _ _ (s₁.setTop (mkF m 76 #[.val (.int p0), .val (.int p1), .val (.int p2), .val (.int p3), .val (.int p4), .val (.int (2 : Int32)), .val (.int v41), .val (.int v42), .val (.int v43), .val (.int v42), .unset, .unset, .unset, .unset, .unset, .unset, .unset] [(.int p3), (.int v42)]))
    refine own_via (fun _ k => XS.iconst X0.here hx rfl (hb hby at_76) k) ?_
    show own_Go p e below s _ _ _ (s₁.setTop (mkF m 77 #[.val (.int p0), .val (.int p1), .val (.int p2), .val (.int p3), .val (.int p4), .val (.int (2 : Int32)), .val (.int v41), .val (.int v42), .val (.int v43), .val (.int v42), .unset, .unset, .unset, .unset, .unset, .unset, .unset] [(.int (3 : Int32)), (.int p3), (.int v42)]))
    refine own_via (fun _ k => XS.iand X0.here hx rfl (hb hby at_77) rfl k) ?_
    show own_Go p e below s _ _ _ (s₁.setTop (mkF m 78 #[.val (.int p0), .val (.int p1), .val (.int p2), .val (.int p3), .val (.int p4), .val (.int (2 : Int32)), .val (.int v41), .val (.int v42), .val (.int v43), .val (.int v42), .unset, .unset, .unset, .unset, .unset, .unset, .unset] [(.int (p3 &&& (3 : Int32))), (.int v42)]))
    refine own_via (fun _ k => XS.iadd X0.here hx rfl (hb hby at_78) rfl k) ?_
    show own_Go p e below s _ _ _ (s₁.setTop (mkF m 79 #[.val (.int p0), .val (.int p1), .val (.int p2), .val (.int p3), .val (.int p4), .val (.int (2 : Int32)), .val (.int v41), .val (.int v42), .val (.int v43), .val (.int v42), .unset, .unset, .unset, .unset, .unset, .unset, .unset] [(.int (v42 + (p3 &&& (3 : Int32))))]))
    refine own_via (fun _ k => XS.istore X0.here hx rfl (hb hby at_79) rfl (l' := #[.val (.int p0), .val (.int p1), .val (.int p2), .val (.int p3), .val (.int p4), .val (.int (2 : Int32)), .val (.int v41), .val (.int v42), .val (.int v43), .val (.int v42), .val (.int (v42 + (p3 &&& (3 : Int32)))), .unset, .unset, .unset, .unset, .unset, .unset]) rfl k) ?_
    show own_Go p e below s _ _ _ (s₁.setTop (mkF m 81 #[.val (.int p0), .val (.int p1), .val (.int p2), .val (.int p3), .val (.int p4), .val (.int (2 : Int32)), .val (.int v41), .val (.int v42), .val (.int v43), .val (.int v42), .val (.int (v42 + (p3 &&& (3 : Int32)))), .unset, .unset, .unset, .unset, .unset, .unset] []))
    generalize hv44 : (v42 + (p3 &&& (3 : Int32))) = v44
    show own_Go p e below s _ _ _ (s₁.setTop (mkF m 81 #[.val (.int p0), .val (.int p1), .val (.int p2), .val (.int p3), .val (.int p4), .val (.int (2 : Int32)), .val (.int v41), .val (.int v42), .val (.int v43), .val (.int v42), .val (.int v44), .unset, .unset, .unset, .unset, .unset, .unset] []))
    refine own_via (fun _ k => XS.iload X0.here hx rfl (hb hby at_81) rfl k) ?_
    show own_Go p e below s _ _ _ (s₁.setTop (mkF m 83 #[.val (.int p0), .val (.int p1), .val (.int p2), .val (.int p3), .val (.int p4), .val (.int (2 : Int32)), .val (.int v41), .val (.int v42), .val (.int v43), .val (.int v42), .val (.int v44), .unset, .unset, .unset, .unset, .unset, .unset] [(.int (2 : Int32))]))
    obtain ⟨T45, h45, k45, X45, e45, E45, A45, st45⟩ := newP X0 hx hZ (hw _ (List.mem_of_getElem? (i := 1) rfl)) e0 (g := (mkF m 83 #[.val (.int p0), .val (.int p1), .val (.int p2), .val (.int p3), .val (.int p4), .val (.int (2 : Int32)), .val (.int v41), .val (.int v42), .val (.int v43), .val (.int v42), .val (.int v44), .unset, .unset, .unset, .unset, .unset, .unset] [(.int (2 : Int32))])) rfl (hb hby at_83) rfl (by decide) (cap := 2) (by decide) (by decide) (by decide) (by decide)
    obtain ⟨b45, gg45⟩ : ∃ z, z = h0.size := ⟨_, rfl⟩
    rw [← gg45] at A45 st45
    have g_b45 : n0 ≤ b45 := Nat.le_trans Z0 (Nat.le_of_eq gg45.symm)
    have Z45 : n0 ≤ h45.size := Nat.le_trans Z0 E45.1
    have V45 : Arv Z h45 b45 k45 .int (2 : Int32) [(.int (0 : Int32)), (.int (0 : Int32))] (.int (0 : Int32)) := (Arv.new A45 (by decide)).pad (pad_rep [] (.int (0 : Int32)) 2)
    refine own_via st45 ?_
    show own_Go p e below s _ _ _ (T45.setTop (mkF m 85 #[.val (.int p0), .val (.int p1), .val (.int p2), .val (.int p3), .val (.int p4), .val (.int (2 : Int32)), .val (.int v41), .val (.int v42), .val (.int v43), .val (.int v42), .val (.int v44), .unset, .unset, .unset, .unset, .unset, .unset] [(.ref b45)]))
    refine own_via (fun _ k => XS.astore X45.here hx rfl (hb hby at_85) rfl rfl (l' := #[.val (.int p0), .val (.int p1), .val (.int p2), .val (.int p3), .val (.int p4), .val (.int (2 : Int32)), .val (.int v41), .val (.int v42), .val (.int v43), .val (.int v42), .val (.int v44), .val (.ref b45), .unset, .unset, .unset, .unset, .unset]) rfl k) ?_
    show own_Go p e below s _ _ _ (T45.setTop (mkF m 87 #[.val (.int p0), .val (.int p1), .val (.int p2), .val (.int p3), .val (.int p4), .val (.int (2 : Int32)), .val (.int v41), .val (.int v42), .val (.int v43), .val (.int v42), .val (.int v44), .val (.ref b45), .unset, .unset, .unset, .unset, .unset] []))
    refine own_via (fun _ k => XS.iload X45.here hx rfl (hb hby at_87) rfl k) ?_
    show own_Go p e below s _ _ _ (T45.setTop (mkF m 89 #[.val (.int p0), .val (.int p1), .val (.int p2), .val (.int p3), .val (.int p4), .val (.int (2 : Int32)), .val (.int v41), .val (.int v42), .val (.int v43), .val (.int v42), .val (.int v44), .val (.ref b45), .unset, .unset, .unset, .unset, .unset] [(.int (2 : Int32))]))
    refine own_via (fun _ k => XS.ifNo X45.here hx rfl (hb hby at_89) rfl (Jvm.Free.XT.i0_le_f (by decide)) k) ?_
    show own_Go p e below s _ _ _ (T45.setTop (mkF m 92 #[.val (.int p0), .val (.int p1), .val (.int p2), .val (.int p3), .val (.int p4), .val (.int (2 : Int32)), .val (.int v41), .val (.int v42), .val (.int v43), .val (.int v42), .val (.int v44), .val (.ref b45), .unset, .unset, .unset, .unset, .unset] []))
    refine own_via (fun _ k => XS.aload X45.here hx rfl (hb hby at_92) rfl rfl k) ?_
    show own_Go p e below s _ _ _ (T45.setTop (mkF m 94 #[.val (.int p0), .val (.int p1), .val (.int p2), .val (.int p3), .val (.int p4), .val (.int (2 : Int32)), .val (.int v41), .val (.int v42), .val (.int v43), .val (.int v42), .val (.int v44), .val (.ref b45), .unset, .unset, .unset, .unset, .unset] [(.ref b45)]))
    refine own_via (fun _ k => XS.iconst X45.here hx rfl (hb hby at_94) k) ?_
    show own_Go p e below s _ _ _ (T45.setTop (mkF m 95 #[.val (.int p0), .val (.int p1), .val (.int p2), .val (.int p3), .val (.int p4), .val (.int (2 : Int32)), .val (.int v41), .val (.int v42), .val (.int v43), .val (.int v42), .val (.int v44), .val (.ref b45), .unset, .unset, .unset, .unset, .unset] [(.int (0 : Int32)), (.ref b45)]))
    have st46 : ∀ t, Steps p.tables e below (T45.setTop (mkF m 110 #[.val (.int p0), .val (.int p1), .val (.int p2), .val (.int p3), .val (.int p4), .val (.int (2 : Int32)), .val (.int v41), .val (.int v42), .val (.int v43), .val (.int v42), .val (.int v44), .val (.ref b45), .unset, .unset, .unset, .unset, .unset] [(.int (if (p4 &&& (1 : Int32)) = (0 : Int32) then v41 else (-v41))), (.int (0 : Int32)), (.ref b45)])) t → Steps p.tables e below (T45.setTop (mkF m 95 #[.val (.int p0), .val (.int p1), .val (.int p2), .val (.int p3), .val (.int p4), .val (.int (2 : Int32)), .val (.int v41), .val (.int v42), .val (.int v43), .val (.int v42), .val (.int v44), .val (.ref b45), .unset, .unset, .unset, .unset, .unset] [(.int (0 : Int32)), (.ref b45)])) t := by
      intro t k
      refine XS.iload X45.here hx rfl (hb hby at_95) rfl ?_
      show Steps p.tables e below (T45.setTop (mkF m 97 #[.val (.int p0), .val (.int p1), .val (.int p2), .val (.int p3), .val (.int p4), .val (.int (2 : Int32)), .val (.int v41), .val (.int v42), .val (.int v43), .val (.int v42), .val (.int v44), .val (.ref b45), .unset, .unset, .unset, .unset, .unset] [(.int p4), (.int (0 : Int32)), (.ref b45)])) t
      refine XS.iconst X45.here hx rfl (hb hby at_97) ?_
      show Steps p.tables e below (T45.setTop (mkF m 98 #[.val (.int p0), .val (.int p1), .val (.int p2), .val (.int p3), .val (.int p4), .val (.int (2 : Int32)), .val (.int v41), .val (.int v42), .val (.int v43), .val (.int v42), .val (.int v44), .val (.ref b45), .unset, .unset, .unset, .unset, .unset] [(.int (1 : Int32)), (.int p4), (.int (0 : Int32)), (.ref b45)])) t
      refine XS.iand X45.here hx rfl (hb hby at_98) rfl ?_
      show Steps p.tables e below (T45.setTop (mkF m 99 #[.val (.int p0), .val (.int p1), .val (.int p2), .val (.int p3), .val (.int p4), .val (.int (2 : Int32)), .val (.int v41), .val (.int v42), .val (.int v43), .val (.int v42), .val (.int v44), .val (.ref b45), .unset, .unset, .unset, .unset, .unset] [(.int (p4 &&& (1 : Int32))), (.int (0 : Int32)), (.ref b45)])) t
      by_cases hq47 : (p4 &&& (1 : Int32)) = (0 : Int32)
      · refine XS.ifYes X45.here hx rfl (pc0 := 99) (pc' := 108) rfl (hb hby at_99) rfl (Jvm.Free.XT.i0_eq_t hq47) (by decide) (by decide) ?_
        show Steps p.tables e below (T45.setTop (mkF m 108 #[.val (.int p0), .val (.int p1), .val (.int p2), .val (.int p3), .val (.int p4), .val (.int (2 : Int32)), .val (.int v41), .val (.int v42), .val (.int v43), .val (.int v42), .val (.int v44), .val (.ref b45), .unset, .unset, .unset, .unset, .unset] [(.int (0 : Int32)), (.ref b45)])) t
        refine XS.iload X45.here hx rfl (hb hby at_108) rfl ?_
        show Steps p.tables e below (T45.setTop (mkF m 110 #[.val (.int p0), .val (.int p1), .val (.int p2), .val (.int p3), .val (.int p4), .val (.int (2 : Int32)), .val (.int v41), .val (.int v42), .val (.int v43), .val (.int v42), .val (.int v44), .val (.ref b45), .unset, .unset, .unset, .unset, .unset] [(.int v41), (.int (0 : Int32)), (.ref b45)])) t
        simp only [if_pos hq47] at k
        exact k
      · refine XS.ifNo X45.here hx rfl (hb hby at_99) rfl (Jvm.Free.XT.i0_eq_f hq47) ?_
        show Steps p.tables e below (T45.setTop (mkF m 102 #[.val (.int p0), .val (.int p1), .val (.int p2), .val (.int p3), .val (.int p4), .val (.int (2 : Int32)), .val (.int v41), .val (.int v42), .val (.int v43), .val (.int v42), .val (.int v44), .val (.ref b45), .unset, .unset, .unset, .unset, .unset] [(.int (0 : Int32)), (.ref b45)])) t
        refine XS.iload X45.here hx rfl (hb hby at_102) rfl ?_
        show Steps p.tables e below (T45.setTop (mkF m 104 #[.val (.int p0), .val (.int p1), .val (.int p2), .val (.int p3), .val (.int p4), .val (.int (2 : Int32)), .val (.int v41), .val (.int v42), .val (.int v43), .val (.int v42), .val (.int v44), .val (.ref b45), .unset, .unset, .unset, .unset, .unset] [(.int v41), (.int (0 : Int32)), (.ref b45)])) t
        refine XS.ineg X45.here hx rfl (hb hby at_104) rfl ?_
        show Steps p.tables e below (T45.setTop (mkF m 105 #[.val (.int p0), .val (.int p1), .val (.int p2), .val (.int p3), .val (.int p4), .val (.int (2 : Int32)), .val (.int v41), .val (.int v42), .val (.int v43), .val (.int v42), .val (.int v44), .val (.ref b45), .unset, .unset, .unset, .unset, .unset] [(.int (-v41)), (.int (0 : Int32)), (.ref b45)])) t
        refine XS.goto X45.here hx rfl (pc0 := 105) (pc' := 110) rfl (hb hby at_105) (by decide) (by decide) ?_
        show Steps p.tables e below (T45.setTop (mkF m 110 #[.val (.int p0), .val (.int p1), .val (.int p2), .val (.int p3), .val (.int p4), .val (.int (2 : Int32)), .val (.int v41), .val (.int v42), .val (.int v43), .val (.int v42), .val (.int v44), .val (.ref b45), .unset, .unset, .unset, .unset, .unset] [(.int (-v41)), (.int (0 : Int32)), (.ref b45)])) t
        simp only [if_neg hq47] at k
        exact k
    refine own_via st46 ?_
    show own_Go p e below s _ _ _ (T45.setTop (mkF m 110 #[.val (.int p0), .val (.int p1), .val (.int p2), .val (.int p3), .val (.int p4), .val (.int (2 : Int32)), .val (.int v41), .val (.int v42), .val (.int v43), .val (.int v42), .val (.int v44), .val (.ref b45), .unset, .unset, .unset, .unset, .unset] [(.int (if (p4 &&& (1 : Int32)) = (0 : Int32) then v41 else (-v41))), (.int (0 : Int32)), (.ref b45)]))
    obtain ⟨cl48, Ar48, q48, S48, M48, H48, G48⟩ := (id V45)
    have hin48 : ¬ ((0 : Int32) < 0 ∨ cl48.slots.size ≤ ((0 : Int32)).toNatClampNeg) := inb_of S48 ⟨by decide, by decide⟩
    obtain ⟨T48, h48, X48, e48, W48, st48⟩ := stI X45 hx hZ e45 Ar48 (j := (0 : Int32)) hin48 (g := (mkF m 110 #[.val (.int p0), .val (.int p1), .val (.int p2), .val (.int p3), .val (.int p4), .val (.int (2 : Int32)), .val (.int v41), .val (.int v42), .val (.int v43), .val (.int v42), .val (.int v44), .val (.ref b45), .unset, .unset, .unset, .unset, .unset] [(.int (if (p4 &&& (1 : Int32)) = (0 : Int32) then v41 else (-v41))), (.int (0 : Int32)), (.ref b45)])) rfl rfl (hb hby at_110)
    have V48 : Arv Z h48 b45 k45 .int (2 : Int32) [(.int (if (p4 &&& (1 : Int32)) = (0 : Int32) then v41 else (-v41))), (.int (0 : Int32))] (.int (0 : Int32)) := Arv.set Ar48 q48 S48 M48 H48 G48 rfl W48 0 rfl (Nat.le_of_ble_eq_true rfl)
    have N48 := Fr.snoc X48 N0 g_b45
    have Z48 : n0 ≤ h48.size := Nat.le_trans Z45 (Keep.of_wr W48).1
    refine own_via st48 ?_
    show own_Go p e below s _ _ _ (T48.setTop (mkF m 111 #[.val (.int p0), .val (.int p1), .val (.int p2), .val (.int p3), .val (.int p4), .val (.int (2 : Int32)), .val (.int v41), .val (.int v42), .val (.int v43), .val (.int v42), .val (.int v44), .val (.ref b45), .unset, .unset, .unset, .unset, .unset] []))
    refine own_via (fun _ k => XS.iload X48.here hx rfl (hb hby at_111) rfl k) ?_
    show own_Go p e below s _ _ _ (T48.setTop (mkF m 113 #[.val (.int p0), .val (.int p1), .val (.int p2), .val (.int p3), .val (.int p4), .val (.int (2 : Int32)), .val (.int v41), .val (.int v42), .val (.int v43), .val (.int v42), .val (.int v44), .val (.ref b45), .unset, .unset, .unset, .unset, .unset] [(.int (2 : Int32))]))
    refine own_via (fun _ k => XS.iconst X48.here hx rfl (hb hby at_113) k) ?_
    show own_Go p e below s _ _ _ (T48.setTop (mkF m 114 #[.val (.int p0), .val (.int p1), .val (.int p2), .val (.int p3), .val (.int p4), .val (.int (2 : Int32)), .val (.int v41), .val (.int v42), .val (.int v43), .val (.int v42), .val (.int v44), .val (.ref b45), .unset, .unset, .unset, .unset, .unset] [(.int (1 : Int32)), (.int (2 : Int32))]))
    refine own_via (fun _ k => XS.icmpNo X48.here hx rfl (hb hby at_114) rfl (Jvm.Free.XT.ii_le_f (by decide)) k) ?_
    show own_Go p e below s _ _ _ (T48.setTop (mkF m 117 #[.val (.int p0), .val (.int p1), .val (.int p2), .val (.int p3), .val (.int p4), .val (.int (2 : Int32)), .val (.int v41), .val (.int v42), .val (.int v43), .val (.int v42), .val (.int v44), .val (.ref b45), .unset, .unset, .unset, .unset, .unset] []))
    refine own_via (fun _ k => XS.aload X48.here hx rfl (hb hby at_117) rfl rfl k) ?_
    show own_Go p e below s _ _ _ (T48.setTop (mkF m 119 #[.val (.int p0), .val (.int p1), .val (.int p2), .val (.int p3), .val (.int p4), .val (.int (2 : Int32)), .val (.int v41), .val (.int v42), .val (.int v43), .val (.int v42), .val (.int v44), .val (.ref b45), .unset, .unset, .unset, .unset, .unset] [(.ref b45)]))
    refine own_via (fun _ k => XS.iconst X48.here hx rfl (hb hby at_119) k) ?_
    show own_Go p e below s _ _ _ (T48.setTop (mkF m 120 #[.val (.int p0), .val (.int p1), .val (.int p2), .val (.int p3), .val (.int p4), .val (.int (2 : Int32)), .val (.int v41), .val (.int v42), .val (.int v43), .val (.int v42), .val (.int v44), .val (.ref b45), .unset, .unset, .unset, .unset, .unset] [(.int (1 : Int32)), (.ref b45)]))
    have st49 : ∀ t, Steps p.tables e below (T48.setTop (mkF m 135 #[.val (.int p0), .val (.int p1), .val (.int p2), .val (.int p3), .val (.int p4), .val (.int (2 : Int32)), .val (.int v41), .val (.int v42), .val (.int v43), .val (.int v42), .val (.int v44), .val (.ref b45), .unset, .unset, .unset, .unset, .unset] [(.int (if (p4 &&& (2 : Int32)) = (0 : Int32) then v42 else (-v42))), (.int (1 : Int32)), (.ref b45)])) t → Steps p.tables e below (T48.setTop (mkF m 120 #[.val (.int p0), .val (.int p1), .val (.int p2), .val (.int p3), .val (.int p4), .val (.int (2 : Int32)), .val (.int v41), .val (.int v42), .val (.int v43), .val (.int v42), .val (.int v44), .val (.ref b45), .unset, .unset, .unset, .unset, .unset] [(.int (1 : Int32)), (.ref b45)])) t := by
      intro t k
      refine XS.iload X48.here hx rfl (hb hby at_120) rfl ?_
      show Steps p.tables e below (T48.setTop (mkF m 122 #[.val (.int p0), .val (.int p1), .val (.int p2), .val (.int p3), .val (.int p4), .val (.int (2 : Int32)), .val (.int v41), .val (.int v42), .val (.int v43), .val (.int v42), .val (.int v44), .val (.ref b45), .unset, .unset, .unset, .unset, .unset] [(.int p4), (.int (1 : Int32)), (.ref b45)])) t
      refine XS.iconst X48.here hx rfl (hb hby at_122) ?_
      show Steps p.tables e below (T48.setTop (mkF m 123 #[.val (.int p0), .val (.int p1), .val (.int p2), .val (.int p3), .val (.int p4), .val (.int (2 : Int32)), .val (.int v41), .val (.int v42), .val (.int v43), .val (.int v42), .val (.int v44), .val (.ref b45), .unset, .unset, .unset, .unset, .unset] [(.int (2 : Int32)), (.int p4), (.int (1 : Int32)), (.ref b45)])) t
      refine XS.iand X48.here hx rfl (hb hby at_123) rfl ?_
      show Steps p.tables e below (T48.setTop (mkF m 124 #[.val (.int p0), .val (.int p1), .val (.int p2), .val (.int p3), .val (.int p4), .val (.int (2 : Int32)), .val (.int v41), .val (.int v42), .val (.int v43), .val (.int v42), .val (.int v44), .val (.ref b45), .unset, .unset, .unset, .unset, .unset] [(.int (p4 &&& (2 : Int32))), (.int (1 : Int32)), (.ref b45)])) t
      by_cases hq50 : (p4 &&& (2 : Int32)) = (0 : Int32)
      · refine XS.ifYes X48.here hx rfl (pc0 := 124) (pc' := 133) rfl (hb hby at_124) rfl (Jvm.Free.XT.i0_eq_t hq50) (by decide) (by decide) ?_
        show Steps p.tables e below (T48.setTop (mkF m 133 #[.val (.int p0), .val (.int p1), .val (.int p2), .val (.int p3), .val (.int p4), .val (.int (2 : Int32)), .val (.int v41), .val (.int v42), .val (.int v43), .val (.int v42), .val (.int v44), .val (.ref b45), .unset, .unset, .unset, .unset, .unset] [(.int (1 : Int32)), (.ref b45)])) t
        refine XS.iload X48.here hx rfl (hb hby at_133) rfl ?_
        show Steps p.tables e below (T48.setTop (mkF m 135 #[.val (.int p0), .val (.int p1), .val (.int p2), .val (.int p3), .val (.int p4), .val (.int (2 : Int32)), .val (.int v41), .val (.int v42), .val (.int v43), .val (.int v42), .val (.int v44), .val (.ref b45), .unset, .unset, .unset, .unset, .unset] [(.int v42), (.int (1 : Int32)), (.ref b45)])) t
        simp only [if_pos hq50] at k
        exact k
      · refine XS.ifNo X48.here hx rfl (hb hby at_124) rfl (Jvm.Free.XT.i0_eq_f hq50) ?_
        show Steps p.tables e below (T48.setTop (mkF m 127 #[.val (.int p0), .val (.int p1), .val (.int p2), .val (.int p3), .val (.int p4), .val (.int (2 : Int32)), .val (.int v41), .val (.int v42), .val (.int v43), .val (.int v42), .val (.int v44), .val (.ref b45), .unset, .unset, .unset, .unset, .unset] [(.int (1 : Int32)), (.ref b45)])) t
        refine XS.iload X48.here hx rfl (hb hby at_127) rfl ?_
        show Steps p.tables e below (T48.setTop (mkF m 129 #[.val (.int p0), .val (.int p1), .val (.int p2), .val (.int p3), .val (.int p4), .val (.int (2 : Int32)), .val (.int v41), .val (.int v42), .val (.int v43), .val (.int v42), .val (.int v44), .val (.ref b45), .unset, .unset, .unset, .unset, .unset] [(.int v42), (.int (1 : Int32)), (.ref b45)])) t
        refine XS.ineg X48.here hx rfl (hb hby at_129) rfl ?_
        show Steps p.tables e below (T48.setTop (mkF m 130 #[.val (.int p0), .val (.int p1), .val (.int p2), .val (.int p3), .val (.int p4), .val (.int (2 : Int32)), .val (.int v41), .val (.int v42), .val (.int v43), .val (.int v42), .val (.int v44), .val (.ref b45), .unset, .unset, .unset, .unset, .unset] [(.int (-v42)), (.int (1 : Int32)), (.ref b45)])) t
        refine XS.goto X48.here hx rfl (pc0 := 130) (pc' := 135) rfl (hb hby at_130) (by decide) (by decide) ?_
        show Steps p.tables e below (T48.setTop (mkF m 135 #[.val (.int p0), .val (.int p1), .val (.int p2), .val (.int p3), .val (.int p4), .val (.int (2 : Int32)), .val (.int v41), .val (.int v42), .val (.int v43), .val (.int v42), .val (.int v44), .val (.ref b45), .unset, .unset, .unset, .unset, .unset] [(.int (-v42)), (.int (1 : Int32)), (.ref b45)])) t
        simp only [if_neg hq50] at k
        exact k
    refine own_via st49 ?_
    show own_Go p e below s _ _ _ (T48.setTop (mkF m 135 #[.val (.int p0), .val (.int p1), .val (.int p2), .val (.int p3), .val (.int p4), .val (.int (2 : Int32)), .val (.int v41), .val (.int v42), .val (.int v43), .val (.int v42), .val (.int v44), .val (.ref b45), .unset, .unset, .unset, .unset, .unset] [(.int (if (p4 &&& (2 : Int32)) = (0 : Int32) then v42 else (-v42))), (.int (1 : Int32)), (.ref b45)]))
    obtain ⟨cl51, Ar51, q51, S51, M51, H51, G51⟩ := (id V48)
    have hin51 : ¬ ((1 : Int32) < 0 ∨ cl51.slots.size ≤ ((1 : Int32)).toNatClampNeg) := inb_of S51 ⟨by decide, by decide⟩
    obtain ⟨T51, h51, X51, e51, W51, st51⟩ := stI X48 hx hZ e48 Ar51 (j := (1 : Int32)) hin51 (g := (mkF m 135 #[.val (.int p0), .val (.int p1), .val (.int p2), .val (.int p3), .val (.int p4), .val (.int (2 : Int32)), .val (.int v41), .val (.int v42), .val (.int v43), .val (.int v42), .val (.int v44), .val (.ref b45), .unset, .unset, .unset, .unset, .unset] [(.int (if (p4 &&& (2 : Int32)) = (0 : Int32) then v42 else (-v42))), (.int (1 : Int32)), (.ref b45)])) rfl rfl (hb hby at_135)
    have V51 : Arv Z h51 b45 k45 .int (2 : Int32) [(.int (if (p4 &&& (1 : Int32)) = (0 : Int32) then v41 else (-v41))), (.int (if (p4 &&& (2 : Int32)) = (0 : Int32) then v42 else (-v42)))] (.int (0 : Int32)) := Arv.set Ar51 q51 S51 M51 H51 G51 rfl W51 1 rfl (Nat.le_of_ble_eq_true rfl)
    have N51 := Fr.snoc X51 N48 g_b45
    have Z51 : n0 ≤ h51.size := Nat.le_trans Z48 (Keep.of_wr W51).1
    refine own_via st51 ?_
    show own_Go p e below s _ _ _ (T51.setTop (mkF m 136 #[.val (.int p0), .val (.int p1), .val (.int p2), .val (.int p3), .val (.int p4), .val (.int (2 : Int32)), .val (.int v41), .val (.int v42), .val (.int v43), .val (.int v42), .val (.int v44), .val (.ref b45), .unset, .unset, .unset, .unset, .unset] []))
    refine own_via (fun _ k => XS.iload X51.here hx rfl (hb hby at_136) rfl k) ?_
    show own_Go p e below s _ _ _ (T51.setTop (mkF m 138 #[.val (.int p0), .val (.int p1), .val (.int p2), .val (.int p3), .val (.int p4), .val (.int (2 : Int32)), .val (.int v41), .val (.int v42), .val (.int v43), .val (.int v42), .val (.int v44), .val (.ref b45), .unset, .unset, .unset, .unset, .unset] [(.int (2 : Int32))]))
    refine own_via (fun _ k => XS.iconst X51.here hx rfl (hb hby at_138) k) ?_
    show own_Go p e below s _ _ _ (T51.setTop (mkF m 139 #[.val (.int p0), .val (.int p1), .val (.int p2), .val (.int p3), .val (.int p4), .val (.int (2 : Int32)), .val (.int v41), .val (.int v42), .val (.int v43), .val (.int v42), .val (.int v44), .val (.ref b45), .unset, .unset, .unset, .unset, .unset] [(.int (2 : Int32)), (.int (2 : Int32))]))
    refine own_via (fun _ k => XS.icmpYes X51.here hx rfl (pc0 := 139) (pc' := 161) rfl (hb hby at_139) rfl (Jvm.Free.XT.ii_le_t (by decide)) (by decide) (by decide) k) ?_
    show own_Go p e below s _ _ _ (T51.setTop (mkF m 161 #[.val (.int p0), .val (.int p1), .val (.int p2), .val (.int p3), .val (.int p4), .val (.int (2 : Int32)), .val (.int v41), .val (.int v42), .val (.int v43), .val (.int v42), .val (.int v44), .val (.ref b45), .unset, .unset, .unset, .unset, .unset] []))
    refine own_via (fun _ k => XS.aload X51.here hx rfl (hb hby at_161) rfl rfl k) ?_
    show own_Go p e below s _ _ _ (T51.setTop (mkF m 163 #[.val (.int p0), .val (.int p1), .val (.int p2), .val (.int p3), .val (.int p4), .val (.int (2 : Int32)), .val (.int v41), .val (.int v42), .val (.int v43), .val (.int v42), .val (.int v44), .val (.ref b45), .unset, .unset, .unset, .unset, .unset] [(.ref b45)]))
    refine own_via (fun _ k => XS.iload X51.here hx rfl (hb hby at_163) rfl k) ?_
    show own_Go p e below s _ _ _ (T51.setTop (mkF m 165 #[.val (.int p0), .val (.int p1), .val (.int p2), .val (.int p3), .val (.int p4), .val (.int (2 : Int32)), .val (.int v41), .val (.int v42), .val (.int v43), .val (.int v42), .val (.int v44), .val (.ref b45), .unset, .unset, .unset, .unset, .unset] [(.int (2 : Int32)), (.ref b45)]))
    refine own_via (fun _ k => XS.iload X51.here hx rfl (hb hby at_165) rfl k) ?_
    show own_Go p e below s _ _ _ (T51.setTop (mkF m 167 #[.val (.int p0), .val (.int p1), .val (.int p2), .val (.int p3), .val (.int p4), .val (.int (2 : Int32)), .val (.int v41), .val (.int v42), .val (.int v43), .val (.int v42), .val (.int v44), .val (.ref b45), .unset, .unset, .unset, .unset, .unset] [(.int v44), (.int (2 : Int32)), (.ref b45)]))
    obtain ⟨_, _, ⟨T52, L52, k52, n52⟩, -, X52, ⟨Lc52, hQ52, l52, y52, z52⟩, st52⟩ := Jvm.LawKit.callS X51 hx (y := (⟨"com/example/unalike/unalike/engine/TSetsNextPinLaw", "rank", "([III)J"⟩ : MethodName)) hown (mvT hZ (hw _ (List.mem_of_getElem? (i := 2) rfl))) (mvT hZ (hw _ (List.mem_of_getElem? (i := 3) rfl))) (mvT hZ (hw _ (List.mem_of_getElem? (i := 4) rfl))) (mvT hZ (hw _ (List.mem_of_getElem? (i := 5) rfl))) (by decide) (backOf (W := 0) (rmr2 l Z a0 hw [] b45 (2 : Int32) v44 k45 (.int (0 : Int32)) (if (p4 &&& (1 : Int32)) = (0 : Int32) then v41 else (-v41)) (if (p4 &&& (2 : Int32)) = (0 : Int32) then v42 else (-v42)) h51 n0 Z51 V51 (by first | decide | (simp; done))) hZ (hw _ (List.mem_of_getElem? (i := 5) rfl)) (hw _ (List.mem_of_getElem? (i := 4) rfl)) (by decide) (by decide)) (g := (mkF m 167 #[.val (.int p0), .val (.int p1), .val (.int p2), .val (.int p3), .val (.int p4), .val (.int (2 : Int32)), .val (.int v41), .val (.int v42), .val (.int v43), .val (.int v42), .val (.int v44), .val (.ref b45), .unset, .unset, .unset, .unset, .unset] [(.int v44), (.int (2 : Int32)), (.ref b45)])) rfl (by rw [hml]; rfl) (argsL := [(.ref b45), (.int (2 : Int32)), (.int v44)]) (rest := []) (lenOf pd_3 rfl) rfl (by show 2 * 0 + _ ≤ _; exact Nat.le_of_eq rfl) (hb hby at_167) (fun _ _ => ⟨rfl, e51, (by decide : 1 + 0 ≤ _), (by decide : 2 + 0 ≤ _)⟩)
    dsimp only [Pt.U, Pt.locs, Pt.cells, Pt.slots] at X52 l52 y52 z52 st52 hQ52
    subst l52 y52 z52
    obtain ⟨rfl, N52q, e52⟩ := hQ52
    have N52 := Fr.app N51 N52q
    refine own_via st52 ?_
    show own_Go p e below s _ _ _ (T52.setTop (mkF m 170 #[.val (.int p0), .val (.int p1), .val (.int p2), .val (.int p3), .val (.int p4), .val (.int (2 : Int32)), .val (.int v41), .val (.int v42), .val (.int v43), .val (.int v42), .val (.int v44), .val (.ref b45), .unset, .unset, .unset, .unset, .unset] [(.long (own_rk2 (if (p4 &&& (1 : Int32)) = (0 : Int32) then v41 else (-v41)) (if (p4 &&& (2 : Int32)) = (0 : Int32) then v42 else (-v42)) v44))]))
    refine own_via (fun _ k => XS.lstore X52.here hx rfl (hb hby at_170) rfl (l' := #[.val (.int p0), .val (.int p1), .val (.int p2), .val (.int p3), .val (.int p4), .val (.int (2 : Int32)), .val (.int v41), .val (.int v42), .val (.int v43), .val (.int v42), .val (.int v44), .val (.ref b45), .val (.long (own_rk2 (if (p4 &&& (1 : Int32)) = (0 : Int32) then v41 else (-v41)) (if (p4 &&& (2 : Int32)) = (0 : Int32) then v42 else (-v42)) v44)), .second, .unset, .unset, .unset]) rfl k) ?_
    show own_Go p e below s _ _ _ (T52.setTop (mkF m 172 #[.val (.int p0), .val (.int p1), .val (.int p2), .val (.int p3), .val (.int p4), .val (.int (2 : Int32)), .val (.int v41), .val (.int v42), .val (.int v43), .val (.int v42), .val (.int v44), .val (.ref b45), .val (.long (own_rk2 (if (p4 &&& (1 : Int32)) = (0 : Int32) then v41 else (-v41)) (if (p4 &&& (2 : Int32)) = (0 : Int32) then v42 else (-v42)) v44)), .second, .unset, .unset, .unset] []))
    generalize hv53 : (own_rk2 (if (p4 &&& (1 : Int32)) = (0 : Int32) then v41 else (-v41)) (if (p4 &&& (2 : Int32)) = (0 : Int32) then v42 else (-v42)) v44) = v53
    show own_Go p e below s _ _ _ (T52.setTop (mkF m 172 #[.val (.int p0), .val (.int p1), .val (.int p2), .val (.int p3), .val (.int p4), .val (.int (2 : Int32)), .val (.int v41), .val (.int v42), .val (.int v43), .val (.int v42), .val (.int v44), .val (.ref b45), .val (.long v53), .second, .unset, .unset, .unset] []))
    refine own_via (fun _ k => XS.iload X52.here hx rfl (hb hby at_172) rfl k) ?_
    show own_Go p e below s _ _ _ (T52.setTop (mkF m 174 #[.val (.int p0), .val (.int p1), .val (.int p2), .val (.int p3), .val (.int p4), .val (.int (2 : Int32)), .val (.int v41), .val (.int v42), .val (.int v43), .val (.int v42), .val (.int v44), .val (.ref b45), .val (.long v53), .second, .unset, .unset, .unset] [(.int v44)]))
    refine own_via (fun _ k => XS.i2l X52.here hx rfl (hb hby at_174) rfl k) ?_
    show own_Go p e below s _ _ _ (T52.setTop (mkF m 175 #[.val (.int p0), .val (.int p1), .val (.int p2), .val (.int p3), .val (.int p4), .val (.int (2 : Int32)), .val (.int v41), .val (.int v42), .val (.int v43), .val (.int v42), .val (.int v44), .val (.ref b45), .val (.long v53), .second, .unset, .unset, .unset] [(.long (o_i2l v44))]))
    refine own_via (fun _ k => XS.iload X52.here hx rfl (hb hby at_175) rfl k) ?_
    show own_Go p e below s _ _ _ (T52.setTop (mkF m 177 #[.val (.int p0), .val (.int p1), .val (.int p2), .val (.int p3), .val (.int p4), .val (.int (2 : Int32)), .val (.int v41), .val (.int v42), .val (.int v43), .val (.int v42), .val (.int v44), .val (.ref b45), .val (.long v53), .second, .unset, .unset, .unset] [(.int (2 : Int32)), (.long (o_i2l v44))]))
    obtain ⟨_, _, ⟨T54, L54, k54, n54⟩, -, X54, ⟨Lc54, hQ54, l54, y54, z54⟩, st54⟩ := Jvm.LawKit.callS X52 hx (y := (⟨"com/example/unalike/unalike/engine/TSetsNextPinLaw", "choose", "(JI)J"⟩ : MethodName)) hown (mvT hZ (hw _ (List.mem_of_getElem? (i := 6) rfl))) (mvT hZ (hw _ (List.mem_of_getElem? (i := 7) rfl))) (mvT hZ (hw _ (List.mem_of_getElem? (i := 4) rfl))) (mvT hZ (hw _ (List.mem_of_getElem? (i := 8) rfl))) (by decide) (backOf (W := 0) (rm2 l Z a0 hw [] (o_i2l v44) (2 : Int32) h51 n0 Z51 ) hZ (hw _ (List.mem_of_getElem? (i := 8) rfl)) (hw _ (List.mem_of_getElem? (i := 4) rfl)) (by decide) (by decide)) (g := (mkF m 177 #[.val (.int p0), .val (.int p1), .val (.int p2), .val (.int p3), .val (.int p4), .val (.int (2 : Int32)), .val (.int v41), .val (.int v42), .val (.int v43), .val (.int v42), .val (.int v44), .val (.ref b45), .val (.long v53), .second, .unset, .unset, .unset] [(.int (2 : Int32)), (.long (o_i2l v44))])) rfl (by rw [hml]; rfl) (argsL := [(.long (o_i2l v44)), (.int (2 : Int32))]) (rest := []) (lenOf pd_1 rfl) rfl (by show 2 * 0 + _ ≤ _; exact Nat.le_of_eq rfl) (hb hby at_177) (fun _ _ => ⟨rfl, e52, (by decide : 1 + 0 ≤ _), (by decide : 2 + 0 ≤ _)⟩)
    dsimp only [Pt.U, Pt.locs, Pt.cells, Pt.slots] at X54 l54 y54 z54 st54 hQ54
    subst l54 y54 z54
    obtain ⟨rfl, N54q, e54⟩ := hQ54
    have N54 := Fr.app N52 N54q
    refine own_via st54 ?_
    show own_Go p e below s _ _ _ (T54.setTop (mkF m 180 #[.val (.int p0), .val (.int p1), .val (.int p2), .val (.int p3), .val (.int p4), .val (.int (2 : Int32)), .val (.int v41), .val (.int v42), .val (.int v43), .val (.int v42), .val (.int v44), .val (.ref b45), .val (.long v53), .second, .unset, .unset, .unset] [(.long (own_ch (o_i2l v44) (2 : Int32)))]))
    refine own_via (fun _ k => XS.iload X54.here hx rfl (hb hby at_180) rfl k) ?_
    show own_Go p e below s _ _ _ (T54.setTop (mkF m 182 #[.val (.int p0), .val (.int p1), .val (.int p2), .val (.int p3), .val (.int p4), .val (.int (2 : Int32)), .val (.int v41), .val (.int v42), .val (.int v43), .val (.int v42), .val (.int v44), .val (.ref b45), .val (.long v53), .second, .unset, .unset, .unset] [(.int (2 : Int32)), (.long (own_ch (o_i2l v44) (2 : Int32)))]))
    refine own_via (fun _ k => XS.lshl X54.here hx rfl (hb hby at_182) rfl k) ?_
    show own_Go p e below s _ _ _ (T54.setTop (mkF m 183 #[.val (.int p0), .val (.int p1), .val (.int p2), .val (.int p3), .val (.int p4), .val (.int (2 : Int32)), .val (.int v41), .val (.int v42), .val (.int v43), .val (.int v42), .val (.int v44), .val (.ref b45), .val (.long v53), .second, .unset, .unset, .unset] [(.long (o_lshl (own_ch (o_i2l v44) (2 : Int32)) (2 : Int32)))]))
    refine own_via (fun _ k => XS.lstore X54.here hx rfl (hb hby at_183) rfl (l' := #[.val (.int p0), .val (.int p1), .val (.int p2), .val (.int p3), .val (.int p4), .val (.int (2 : Int32)), .val (.int v41), .val (.int v42), .val (.int v43), .val (.int v42), .val (.int v44), .val (.ref b45), .val (.long v53), .second, .val (.long (o_lshl (own_ch (o_i2l v44) (2 : Int32)) (2 : Int32))), .second, .unset]) rfl k) ?_
    show own_Go p e below s _ _ _ (T54.setTop (mkF m 185 #[.val (.int p0), .val (.int p1), .val (.int p2), .val (.int p3), .val (.int p4), .val (.int (2 : Int32)), .val (.int v41), .val (.int v42), .val (.int v43), .val (.int v42), .val (.int v44), .val (.ref b45), .val (.long v53), .second, .val (.long (o_lshl (own_ch (o_i2l v44) (2 : Int32)) (2 : Int32))), .second, .unset] []))
    generalize hv55 : (o_lshl (own_ch (o_i2l v44) (2 : Int32)) (2 : Int32)) = v55
    show own_Go p e below s _ _ _ (T54.setTop (mkF m 185 #[.val (.int p0), .val (.int p1), .val (.int p2), .val (.int p3), .val (.int p4), .val (.int (2 : Int32)), .val (.int v41), .val (.int v42), .val (.int v43), .val (.int v42), .val (.int v44), .val (.ref b45), .val (.long v53), .second, .val (.long v55), .second, .unset] []))
    refine own_via (fun _ k => XS.aload X54.here hx rfl (hb hby at_185) rfl rfl k) ?_
    show own_Go p e below s _ _ _ (T54.setTop (mkF m 187 #[.val (.int p0), .val (.int p1), .val (.int p2), .val (.int p3), .val (.int p4), .val (.int (2 : Int32)), .val (.int v41), .val (.int v42), .val (.int v43), .val (.int v42), .val (.int v44), .val (.ref b45), .val (.long v53), .second, .val (.long v55), .second, .unset] [(.ref b45)]))
    refine own_via (fun _ k => XS.iload X54.here hx rfl (hb hby at_187) rfl k) ?_
    show own_Go p e below s _ _ _ (T54.setTop (mkF m 189 #[.val (.int p0), .val (.int p1), .val (.int p2), .val (.int p3), .val (.int p4), .val (.int (2 : Int32)), .val (.int v41), .val (.int v42), .val (.int v43), .val (.int v42), .val (.int v44), .val (.ref b45), .val (.long v53), .second, .val (.long v55), .second, .unset] [(.int v44), (.ref b45)]))
    obtain ⟨_, _, ⟨T56, L56, k56, n56⟩, -, X56, ⟨Lc56, hQ56, l56, y56, z56⟩, st56⟩ := Jvm.LawKit.callS X54 hx (y := (⟨"com/example/unalike/unalike/engine/TSets", "next", "([II)Z"⟩ : MethodName)) hown (mvT hZ (hw _ (List.mem_of_getElem? (i := 9) rfl))) (mvT hZ (hw _ (List.mem_of_getElem? (i := 10) rfl))) (mvT hZ (hw _ (List.mem_of_getElem? (i := 11) rfl))) (mvT hZ (hw _ (List.mem_of_getElem? (i := 12) rfl))) (by decide) (backOf (W := 0) (rmn2 l Z a0 hw [] b45 v44 k45 (.int (0 : Int32)) (if (p4 &&& (1 : Int32)) = (0 : Int32) then v41 else (-v41)) (if (p4 &&& (2 : Int32)) = (0 : Int32) then v42 else (-v42)) h51 n0 Z51 V51 g_b45) hZ (hw _ (List.mem_of_getElem? (i := 12) rfl)) (hw _ (List.mem_of_getElem? (i := 11) rfl)) (by decide) (by decide)) (g := (mkF m 189 #[.val (.int p0), .val (.int p1), .val (.int p2), .val (.int p3), .val (.int p4), .val (.int (2 : Int32)), .val (.int v41), .val (.int v42), .val (.int v43), .val (.int v42), .val (.int v44), .val (.ref b45), .val (.long v53), .second, .val (.long v55), .second, .unset] [(.int v44), (.ref b45)])) rfl (by rw [hml]; rfl) (argsL := [(.ref b45), (.int v44)]) (rest := []) (lenOf pd_4 rfl) rfl (by show 2 * 0 + _ ≤ _; exact Nat.le_of_eq rfl) (hb hby at_189) (fun _ _ => ⟨rfl, e54, (by decide : 1 + 0 ≤ _), (by decide : 2 + 0 ≤ _)⟩)
    dsimp only [Pt.U, Pt.locs, Pt.cells, Pt.slots] at X56 l56 y56 z56 st56 hQ56
    subst l56 y56 z56
    obtain ⟨h56, e56⟩ : ∃ h, T56.heap = h := ⟨_, rfl⟩
    rw [e56] at hQ56
    obtain ⟨rfl, N56q, Kq56, F57⟩ := hQ56
    have Z56 : n0 ≤ h56.size := Nat.le_trans Z51 Kq56.1
    have N56 := Fr.app N54 N56q
    refine own_via st56 ?_
    show own_Go p e below s _ _ _ (T56.setTop (mkF m 192 #[.val (.int p0), .val (.int p1), .val (.int p2), .val (.int p3), .val (.int p4), .val (.int (2 : Int32)), .val (.int v41), .val (.int v42), .val (.int v43), .val (.int v42), .val (.int v44), .val (.ref b45), .val (.long v53), .second, .val (.long v55), .second, .unset] [(.int (own_nr2 (if (p4 &&& (1 : Int32)) = (0 : Int32) then v41 else (-v41)) (if (p4 &&& (2 : Int32)) = (0 : Int32) then v42 else (-v42)) v44))]))
    refine own_via (fun _ k => XS.istore X56.here hx rfl (hb hby at_192) rfl (l' := #[.val (.int p0), .val (.int p1), .val (.int p2), .val (.int p3), .val (.int p4), .val (.int (2 : Int32)), .val (.int v41), .val (.int v42), .val (.int v43), .val (.int v42), .val (.int v44), .val (.ref b45), .val (.long v53), .second, .val (.long v55), .second, .val (.int (own_nr2 (if (p4 &&& (1 : Int32)) = (0 : Int32) then v41 else (-v41)) (if (p4 &&& (2 : Int32)) = (0 : Int32) then v42 else (-v42)) v44))]) rfl k) ?_
    show own_Go p e below s _ _ _ (T56.setTop (mkF m 194 #[.val (.int p0), .val (.int p1), .val (.int p2), .val (.int p3), .val (.int p4), .val (.int (2 : Int32)), .val (.int v41), .val (.int v42), .val (.int v43), .val (.int v42), .val (.int v44), .val (.ref b45), .val (.long v53), .second, .val (.long v55), .second, .val (.int (own_nr2 (if (p4 &&& (1 : Int32)) = (0 : Int32) then v41 else (-v41)) (if (p4 &&& (2 : Int32)) = (0 : Int32) then v42 else (-v42)) v44))] []))
    generalize hv58 : (own_nr2 (if (p4 &&& (1 : Int32)) = (0 : Int32) then v41 else (-v41)) (if (p4 &&& (2 : Int32)) = (0 : Int32) then v42 else (-v42)) v44) = v58
    show own_Go p e below s _ _ _ (T56.setTop (mkF m 194 #[.val (.int p0), .val (.int p1), .val (.int p2), .val (.int p3), .val (.int p4), .val (.int (2 : Int32)), .val (.int v41), .val (.int v42), .val (.int v43), .val (.int v42), .val (.int v44), .val (.ref b45), .val (.long v53), .second, .val (.long v55), .second, .val (.int v58)] []))
    refine own_via (fun _ k => XS.lload X56.here hx rfl (hb hby at_194) rfl k) ?_
    show own_Go p e below s _ _ _ (T56.setTop (mkF m 196 #[.val (.int p0), .val (.int p1), .val (.int p2), .val (.int p3), .val (.int p4), .val (.int (2 : Int32)), .val (.int v41), .val (.int v42), .val (.int v43), .val (.int v42), .val (.int v44), .val (.ref b45), .val (.long v53), .second, .val (.long v55), .second, .val (.int v58)] [(.long v53)]))
    refine own_via (fun _ k => XS.lconst X56.here hx rfl (hb hby at_196) k) ?_
    show own_Go p e below s _ _ _ (T56.setTop (mkF m 197 #[.val (.int p0), .val (.int p1), .val (.int p2), .val (.int p3), .val (.int p4), .val (.int (2 : Int32)), .val (.int v41), .val (.int v42), .val (.int v43), .val (.int v42), .val (.int v44), .val (.ref b45), .val (.long v53), .second, .val (.long v55), .second, .val (.int v58)] [(.long (1 : Int64)), (.long v53)]))
    refine own_via (fun _ k => XS.ladd X56.here hx rfl (hb hby at_197) rfl k) ?_
    show own_Go p e below s _ _ _ (T56.setTop (mkF m 198 #[.val (.int p0), .val (.int p1), .val (.int p2), .val (.int p3), .val (.int p4), .val (.int (2 : Int32)), .val (.int v41), .val (.int v42), .val (.int v43), .val (.int v42), .val (.int v44), .val (.ref b45), .val (.long v53), .second, .val (.long v55), .second, .val (.int v58)] [(.long (v53 + (1 : Int64)))]))
    refine own_via (fun _ k => XS.lload X56.here hx rfl (hb hby at_198) rfl k) ?_
    show own_Go p e below s _ _ _ (T56.setTop (mkF m 200 #[.val (.int p0), .val (.int p1), .val (.int p2), .val (.int p3), .val (.int p4), .val (.int (2 : Int32)), .val (.int v41), .val (.int v42), .val (.int v43), .val (.int v42), .val (.int v44), .val (.ref b45), .val (.long v53), .second, .val (.long v55), .second, .val (.int v58)] [(.long v55), (.long (v53 + (1 : Int64)))]))
    refine own_via (fun _ k => XS.lcmp X56.here hx rfl (hb hby at_200) rfl k) ?_
    show own_Go p e below s _ _ _ (T56.setTop (mkF m 201 #[.val (.int p0), .val (.int p1), .val (.int p2), .val (.int p3), .val (.int p4), .val (.int (2 : Int32)), .val (.int v41), .val (.int v42), .val (.int v43), .val (.int v42), .val (.int v44), .val (.ref b45), .val (.long v53), .second, .val (.long v55), .second, .val (.int v58)] [(.int (lcmpW (v53 + (1 : Int64)) v55))]))
    by_cases hc59 : (v53 + (1 : Int64)) < v55
    · refine own_via (fun _ k => XS.ifNo X56.here hx rfl (hb hby at_201) rfl (Jvm.Free.XT.ll_ge_f hc59) k) ?_
      show own_Go p e below s _ _ _ (T56.setTop (mkF m 204 #[.val (.int p0), .val (.int p1), .val (.int p2), .val (.int p3), .val (.int p4), .val (.int (2 : Int32)), .val (.int v41), .val (.int v42), .val (.int v43), .val (.int v42), .val (.int v44), .val (.ref b45), .val (.long v53), .second, .val (.long v55), .second, .val (.int v58)] []))
      refine own_via (fun _ k => XS.iload X56.here hx rfl (hb hby at_204) rfl k) ?_
      show own_Go p e below s _ _ _ (T56.setTop (mkF m 206 #[.val (.int p0), .val (.int p1), .val (.int p2), .val (.int p3), .val (.int p4), .val (.int (2 : Int32)), .val (.int v41), .val (.int v42), .val (.int v43), .val (.int v42), .val (.int v44), .val (.ref b45), .val (.long v53), .second, .val (.long v55), .second, .val (.int v58)] [(.int v58)]))
      have hc60 : ¬ (v58 = (0 : Int32)) := ((own_law2 (p2 := p2) hv41 hv42 hv44 hv53 hv55 hv58).1 hc59).1
      refine own_via (fun _ k => XS.ifNo X56.here hx rfl (hb hby at_206) rfl (Jvm.Free.XT.i0_eq_f hc60) k) ?_
      show own_Go p e below s _ _ _ (T56.setTop (mkF m 209 #[.val (.int p0), .val (.int p1), .val (.int p2), .val (.int p3), .val (.int p4), .val (.int (2 : Int32)), .val (.int v41), .val (.int v42), .val (.int v43), .val (.int v42), .val (.int v44), .val (.ref b45), .val (.long v53), .second, .val (.long v55), .second, .val (.int v58)] []))
      refine own_via (fun _ k => XS.aload X56.here hx rfl (hb hby at_209) rfl rfl k) ?_
      show own_Go p e below s _ _ _ (T56.setTop (mkF m 211 #[.val (.int p0), .val (.int p1), .val (.int p2), .val (.int p3), .val (.int p4), .val (.int (2 : Int32)), .val (.int v41), .val (.int v42), .val (.int v43), .val (.int v42), .val (.int v44), .val (.ref b45), .val (.long v53), .second, .val (.long v55), .second, .val (.int v58)] [(.ref b45)]))
      refine own_via (fun _ k => XS.iload X56.here hx rfl (hb hby at_211) rfl k) ?_
      show own_Go p e below s _ _ _ (T56.setTop (mkF m 213 #[.val (.int p0), .val (.int p1), .val (.int p2), .val (.int p3), .val (.int p4), .val (.int (2 : Int32)), .val (.int v41), .val (.int v42), .val (.int v43), .val (.int v42), .val (.int v44), .val (.ref b45), .val (.long v53), .second, .val (.long v55), .second, .val (.int v58)] [(.int (2 : Int32)), (.ref b45)]))
      refine own_via (fun _ k => XS.iload X56.here hx rfl (hb hby at_213) rfl k) ?_
      show own_Go p e below s _ _ _ (T56.setTop (mkF m 215 #[.val (.int p0), .val (.int p1), .val (.int p2), .val (.int p3), .val (.int p4), .val (.int (2 : Int32)), .val (.int v41), .val (.int v42), .val (.int v43), .val (.int v42), .val (.int v44), .val (.ref b45), .val (.long v53), .second, .val (.long v55), .second, .val (.int v58)] [(.int v44), (.int (2 : Int32)), (.ref b45)]))
      obtain ⟨_, _, ⟨T61, L61, k61, n61⟩, -, X61, ⟨Lc61, hQ61, l61, y61, z61⟩, st61⟩ := Jvm.LawKit.callS X56 hx (y := (⟨"com/example/unalike/unalike/engine/TSetsNextPinLaw", "valid", "([III)Z"⟩ : MethodName)) hown (mvT hZ (hw _ (List.mem_of_getElem? (i := 18) rfl))) (mvT hZ (hw _ (List.mem_of_getElem? (i := 19) rfl))) (mvT hZ (hw _ (List.mem_of_getElem? (i := 4) rfl))) (mvT hZ (hw _ (List.mem_of_getElem? (i := 20) rfl))) (by decide) (backOf (W := 0) (rmv2 l Z a0 hw [] b45 (2 : Int32) v44 k45 (.int (0 : Int32)) (own_nx2_0 (if (p4 &&& (1 : Int32)) = (0 : Int32) then v41 else (-v41)) (if (p4 &&& (2 : Int32)) = (0 : Int32) then v42 else (-v42)) v44) (own_nx2_1 (if (p4 &&& (1 : Int32)) = (0 : Int32) then v41 else (-v41)) (if (p4 &&& (2 : Int32)) = (0 : Int32) then v42 else (-v42)) v44) h56 n0 Z56 F57 (by first | decide | (simp; done))) hZ (hw _ (List.mem_of_getElem? (i := 20) rfl)) (hw _ (List.mem_of_getElem? (i := 4) rfl)) (by decide) (by decide)) (g := (mkF m 215 #[.val (.int p0), .val (.int p1), .val (.int p2), .val (.int p3), .val (.int p4), .val (.int (2 : Int32)), .val (.int v41), .val (.int v42), .val (.int v43), .val (.int v42), .val (.int v44), .val (.ref b45), .val (.long v53), .second, .val (.long v55), .second, .val (.int v58)] [(.int v44), (.int (2 : Int32)), (.ref b45)])) rfl (by rw [hml]; rfl) (argsL := [(.ref b45), (.int (2 : Int32)), (.int v44)]) (rest := []) (lenOf pd_5 rfl) rfl (by show 2 * 0 + _ ≤ _; exact Nat.le_of_eq rfl) (hb hby at_215) (fun _ _ => ⟨rfl, e56, (by decide : 1 + 0 ≤ _), (by decide : 2 + 0 ≤ _)⟩)
      dsimp only [Pt.U, Pt.locs, Pt.cells, Pt.slots] at X61 l61 y61 z61 st61 hQ61
      subst l61 y61 z61
      obtain ⟨rfl, N61q, e61⟩ := hQ61
      have N61 := Fr.app N56 N61q
      refine own_via st61 ?_
      show own_Go p e below s _ _ _ (T61.setTop (mkF m 218 #[.val (.int p0), .val (.int p1), .val (.int p2), .val (.int p3), .val (.int p4), .val (.int (2 : Int32)), .val (.int v41), .val (.int v42), .val (.int v43), .val (.int v42), .val (.int v44), .val (.ref b45), .val (.long v53), .second, .val (.long v55), .second, .val (.int v58)] [(.int (own_va2 (own_nx2_0 (if (p4 &&& (1 : Int32)) = (0 : Int32) then v41 else (-v41)) (if (p4 &&& (2 : Int32)) = (0 : Int32) then v42 else (-v42)) v44) (own_nx2_1 (if (p4 &&& (1 : Int32)) = (0 : Int32) then v41 else (-v41)) (if (p4 &&& (2 : Int32)) = (0 : Int32) then v42 else (-v42)) v44) v44))]))
      have hc62 : ¬ ((own_va2 (own_nx2_0 (if (p4 &&& (1 : Int32)) = (0 : Int32) then v41 else (-v41)) (if (p4 &&& (2 : Int32)) = (0 : Int32) then v42 else (-v42)) v44) (own_nx2_1 (if (p4 &&& (1 : Int32)) = (0 : Int32) then v41 else (-v41)) (if (p4 &&& (2 : Int32)) = (0 : Int32) then v42 else (-v42)) v44) v44) = (0 : Int32)) := ((own_law2 (p2 := p2) hv41 hv42 hv44 hv53 hv55 hv58).1 hc59).2.1
      refine own_via (fun _ k => XS.ifNo X61.here hx rfl (hb hby at_218) rfl (Jvm.Free.XT.i0_eq_f hc62) k) ?_
      show own_Go p e below s _ _ _ (T61.setTop (mkF m 221 #[.val (.int p0), .val (.int p1), .val (.int p2), .val (.int p3), .val (.int p4), .val (.int (2 : Int32)), .val (.int v41), .val (.int v42), .val (.int v43), .val (.int v42), .val (.int v44), .val (.ref b45), .val (.long v53), .second, .val (.long v55), .second, .val (.int v58)] []))
      refine own_via (fun _ k => XS.aload X61.here hx rfl (hb hby at_221) rfl rfl k) ?_
      show own_Go p e below s _ _ _ (T61.setTop (mkF m 223 #[.val (.int p0), .val (.int p1), .val (.int p2), .val (.int p3), .val (.int p4), .val (.int (2 : Int32)), .val (.int v41), .val (.int v42), .val (.int v43), .val (.int v42), .val (.int v44), .val (.ref b45), .val (.long v53), .second, .val (.long v55), .second, .val (.int v58)] [(.ref b45)]))
      refine own_via (fun _ k => XS.iload X61.here hx rfl (hb hby at_223) rfl k) ?_
      show own_Go p e below s _ _ _ (T61.setTop (mkF m 225 #[.val (.int p0), .val (.int p1), .val (.int p2), .val (.int p3), .val (.int p4), .val (.int (2 : Int32)), .val (.int v41), .val (.int v42), .val (.int v43), .val (.int v42), .val (.int v44), .val (.ref b45), .val (.long v53), .second, .val (.long v55), .second, .val (.int v58)] [(.int (2 : Int32)), (.ref b45)]))
      refine own_via (fun _ k => XS.iload X61.here hx rfl (hb hby at_225) rfl k) ?_
      show own_Go p e below s _ _ _ (T61.setTop (mkF m 227 #[.val (.int p0), .val (.int p1), .val (.int p2), .val (.int p3), .val (.int p4), .val (.int (2 : Int32)), .val (.int v41), .val (.int v42), .val (.int v43), .val (.int v42), .val (.int v44), .val (.ref b45), .val (.long v53), .second, .val (.long v55), .second, .val (.int v58)] [(.int v44), (.int (2 : Int32)), (.ref b45)]))
      obtain ⟨_, _, ⟨T63, L63, k63, n63⟩, -, X63, ⟨Lc63, hQ63, l63, y63, z63⟩, st63⟩ := Jvm.LawKit.callS X61 hx (y := (⟨"com/example/unalike/unalike/engine/TSetsNextPinLaw", "rank", "([III)J"⟩ : MethodName)) hown (mvT hZ (hw _ (List.mem_of_getElem? (i := 2) rfl))) (mvT hZ (hw _ (List.mem_of_getElem? (i := 3) rfl))) (mvT hZ (hw _ (List.mem_of_getElem? (i := 4) rfl))) (mvT hZ (hw _ (List.mem_of_getElem? (i := 5) rfl))) (by decide) (backOf (W := 0) (rmr2 l Z a0 hw [] b45 (2 : Int32) v44 k45 (.int (0 : Int32)) (own_nx2_0 (if (p4 &&& (1 : Int32)) = (0 : Int32) then v41 else (-v41)) (if (p4 &&& (2 : Int32)) = (0 : Int32) then v42 else (-v42)) v44) (own_nx2_1 (if (p4 &&& (1 : Int32)) = (0 : Int32) then v41 else (-v41)) (if (p4 &&& (2 : Int32)) = (0 : Int32) then v42 else (-v42)) v44) h56 n0 Z56 F57 (by first | decide | (simp; done))) hZ (hw _ (List.mem_of_getElem? (i := 5) rfl)) (hw _ (List.mem_of_getElem? (i := 4) rfl)) (by decide) (by decide)) (g := (mkF m 227 #[.val (.int p0), .val (.int p1), .val (.int p2), .val (.int p3), .val (.int p4), .val (.int (2 : Int32)), .val (.int v41), .val (.int v42), .val (.int v43), .val (.int v42), .val (.int v44), .val (.ref b45), .val (.long v53), .second, .val (.long v55), .second, .val (.int v58)] [(.int v44), (.int (2 : Int32)), (.ref b45)])) rfl (by rw [hml]; rfl) (argsL := [(.ref b45), (.int (2 : Int32)), (.int v44)]) (rest := []) (lenOf pd_3 rfl) rfl (by show 2 * 0 + _ ≤ _; exact Nat.le_of_eq rfl) (hb hby at_227) (fun _ _ => ⟨rfl, e61, (by decide : 1 + 0 ≤ _), (by decide : 2 + 0 ≤ _)⟩)
      dsimp only [Pt.U, Pt.locs, Pt.cells, Pt.slots] at X63 l63 y63 z63 st63 hQ63
      subst l63 y63 z63
      obtain ⟨rfl, N63q, e63⟩ := hQ63
      have N63 := Fr.app N61 N63q
      refine own_via st63 ?_
      show own_Go p e below s _ _ _ (T63.setTop (mkF m 230 #[.val (.int p0), .val (.int p1), .val (.int p2), .val (.int p3), .val (.int p4), .val (.int (2 : Int32)), .val (.int v41), .val (.int v42), .val (.int v43), .val (.int v42), .val (.int v44), .val (.ref b45), .val (.long v53), .second, .val (.long v55), .second, .val (.int v58)] [(.long (own_rk2 (own_nx2_0 (if (p4 &&& (1 : Int32)) = (0 : Int32) then v41 else (-v41)) (if (p4 &&& (2 : Int32)) = (0 : Int32) then v42 else (-v42)) v44) (own_nx2_1 (if (p4 &&& (1 : Int32)) = (0 : Int32) then v41 else (-v41)) (if (p4 &&& (2 : Int32)) = (0 : Int32) then v42 else (-v42)) v44) v44))]))
      refine own_via (fun _ k => XS.lload X63.here hx rfl (hb hby at_230) rfl k) ?_
      show own_Go p e below s _ _ _ (T63.setTop (mkF m 232 #[.val (.int p0), .val (.int p1), .val (.int p2), .val (.int p3), .val (.int p4), .val (.int (2 : Int32)), .val (.int v41), .val (.int v42), .val (.int v43), .val (.int v42), .val (.int v44), .val (.ref b45), .val (.long v53), .second, .val (.long v55), .second, .val (.int v58)] [(.long v53), (.long (own_rk2 (own_nx2_0 (if (p4 &&& (1 : Int32)) = (0 : Int32) then v41 else (-v41)) (if (p4 &&& (2 : Int32)) = (0 : Int32) then v42 else (-v42)) v44) (own_nx2_1 (if (p4 &&& (1 : Int32)) = (0 : Int32) then v41 else (-v41)) (if (p4 &&& (2 : Int32)) = (0 : Int32) then v42 else (-v42)) v44) v44))]))
      refine own_via (fun _ k => XS.lconst X63.here hx rfl (hb hby at_232) k) ?_
      show own_Go p e below s _ _ _ (T63.setTop (mkF m 233 #[.val (.int p0), .val (.int p1), .val (.int p2), .val (.int p3), .val (.int p4), .val (.int (2 : Int32)), .val (.int v41), .val (.int v42), .val (.int v43), .val (.int v42), .val (.int v44), .val (.ref b45), .val (.long v53), .second, .val (.long v55), .second, .val (.int v58)] [(.long (1 : Int64)), (.long v53), (.long (own_rk2 (own_nx2_0 (if (p4 &&& (1 : Int32)) = (0 : Int32) then v41 else (-v41)) (if (p4 &&& (2 : Int32)) = (0 : Int32) then v42 else (-v42)) v44) (own_nx2_1 (if (p4 &&& (1 : Int32)) = (0 : Int32) then v41 else (-v41)) (if (p4 &&& (2 : Int32)) = (0 : Int32) then v42 else (-v42)) v44) v44))]))
      refine own_via (fun _ k => XS.ladd X63.here hx rfl (hb hby at_233) rfl k) ?_
      show own_Go p e below s _ _ _ (T63.setTop (mkF m 234 #[.val (.int p0), .val (.int p1), .val (.int p2), .val (.int p3), .val (.int p4), .val (.int (2 : Int32)), .val (.int v41), .val (.int v42), .val (.int v43), .val (.int v42), .val (.int v44), .val (.ref b45), .val (.long v53), .second, .val (.long v55), .second, .val (.int v58)] [(.long (v53 + (1 : Int64))), (.long (own_rk2 (own_nx2_0 (if (p4 &&& (1 : Int32)) = (0 : Int32) then v41 else (-v41)) (if (p4 &&& (2 : Int32)) = (0 : Int32) then v42 else (-v42)) v44) (own_nx2_1 (if (p4 &&& (1 : Int32)) = (0 : Int32) then v41 else (-v41)) (if (p4 &&& (2 : Int32)) = (0 : Int32) then v42 else (-v42)) v44) v44))]))
      refine own_via (fun _ k => XS.lcmp X63.here hx rfl (hb hby at_234) rfl k) ?_
      show own_Go p e below s _ _ _ (T63.setTop (mkF m 235 #[.val (.int p0), .val (.int p1), .val (.int p2), .val (.int p3), .val (.int p4), .val (.int (2 : Int32)), .val (.int v41), .val (.int v42), .val (.int v43), .val (.int v42), .val (.int v44), .val (.ref b45), .val (.long v53), .second, .val (.long v55), .second, .val (.int v58)] [(.int (lcmpW (own_rk2 (own_nx2_0 (if (p4 &&& (1 : Int32)) = (0 : Int32) then v41 else (-v41)) (if (p4 &&& (2 : Int32)) = (0 : Int32) then v42 else (-v42)) v44) (own_nx2_1 (if (p4 &&& (1 : Int32)) = (0 : Int32) then v41 else (-v41)) (if (p4 &&& (2 : Int32)) = (0 : Int32) then v42 else (-v42)) v44) v44) (v53 + (1 : Int64))))]))
      have hc64 : (own_rk2 (own_nx2_0 (if (p4 &&& (1 : Int32)) = (0 : Int32) then v41 else (-v41)) (if (p4 &&& (2 : Int32)) = (0 : Int32) then v42 else (-v42)) v44) (own_nx2_1 (if (p4 &&& (1 : Int32)) = (0 : Int32) then v41 else (-v41)) (if (p4 &&& (2 : Int32)) = (0 : Int32) then v42 else (-v42)) v44) v44) = (v53 + (1 : Int64)) := ((own_law2 (p2 := p2) hv41 hv42 hv44 hv53 hv55 hv58).1 hc59).2.2
      refine own_via (fun _ k => XS.ifNo X63.here hx rfl (hb hby at_235) rfl (Jvm.Free.XT.ll_ne_f hc64) k) ?_
      show own_Go p e below s _ _ _ (T63.setTop (mkF m 238 #[.val (.int p0), .val (.int p1), .val (.int p2), .val (.int p3), .val (.int p4), .val (.int (2 : Int32)), .val (.int v41), .val (.int v42), .val (.int v43), .val (.int v42), .val (.int v44), .val (.ref b45), .val (.long v53), .second, .val (.long v55), .second, .val (.int v58)] []))
      refine own_via (fun _ k => XS.iconst X63.here hx rfl (hb hby at_238) k) ?_
      show own_Go p e below s _ _ _ (T63.setTop (mkF m 239 #[.val (.int p0), .val (.int p1), .val (.int p2), .val (.int p3), .val (.int p4), .val (.int (2 : Int32)), .val (.int v41), .val (.int v42), .val (.int v43), .val (.int v42), .val (.int v44), .val (.ref b45), .val (.long v53), .second, .val (.long v55), .second, .val (.int v58)] [(.int (1 : Int32))]))
      refine own_via (fun _ k => XS.goto X63.here hx rfl (pc0 := 239) (pc' := 243) rfl (hb hby at_239) (by decide) (by decide) k) ?_
      show own_Go p e below s _ _ _ (T63.setTop (mkF m 243 #[.val (.int p0), .val (.int p1), .val (.int p2), .val (.int p3), .val (.int p4), .val (.int (2 : Int32)), .val (.int v41), .val (.int v42), .val (.int v43), .val (.int v42), .val (.int v44), .val (.ref b45), .val (.long v53), .second, .val (.long v55), .second, .val (.int v58)] [(.int (1 : Int32))]))
      exact own_goN X63 hx (t := .boolean) Bd.returns (by simp) (hb hby at_243) Bd.notSynchronized (by decide) (by decide) (by rw [e63]; exact ⟨rfl, N63⟩)
    · refine own_via (fun _ k => XS.ifYes X56.here hx rfl (pc0 := 201) (pc' := 244) rfl (hb hby at_201) rfl (Jvm.Free.XT.ll_ge_t hc59) (by decide) (by decide) k) ?_
      show own_Go p e below s _ _ _ (T56.setTop (mkF m 244 #[.val (.int p0), .val (.int p1), .val (.int p2), .val (.int p3), .val (.int p4), .val (.int (2 : Int32)), .val (.int v41), .val (.int v42), .val (.int v43), .val (.int v42), .val (.int v44), .val (.ref b45), .val (.long v53), .second, .val (.long v55), .second, .val (.int v58)] []))
      refine own_via (fun _ k => XS.iload X56.here hx rfl (hb hby at_244) rfl k) ?_
      show own_Go p e below s _ _ _ (T56.setTop (mkF m 246 #[.val (.int p0), .val (.int p1), .val (.int p2), .val (.int p3), .val (.int p4), .val (.int (2 : Int32)), .val (.int v41), .val (.int v42), .val (.int v43), .val (.int v42), .val (.int v44), .val (.ref b45), .val (.long v53), .second, .val (.long v55), .second, .val (.int v58)] [(.int v58)]))
      have hc65 : v58 = (0 : Int32) := ((own_law2 (p2 := p2) hv41 hv42 hv44 hv53 hv55 hv58).2 hc59).1
      refine own_via (fun _ k => XS.ifNo X56.here hx rfl (hb hby at_246) rfl (Jvm.Free.XT.i0_ne_f hc65) k) ?_
      show own_Go p e below s _ _ _ (T56.setTop (mkF m 249 #[.val (.int p0), .val (.int p1), .val (.int p2), .val (.int p3), .val (.int p4), .val (.int (2 : Int32)), .val (.int v41), .val (.int v42), .val (.int v43), .val (.int v42), .val (.int v44), .val (.ref b45), .val (.long v53), .second, .val (.long v55), .second, .val (.int v58)] []))
      refine own_via (fun _ k => XS.iload X56.here hx rfl (hb hby at_249) rfl k) ?_
      show own_Go p e below s _ _ _ (T56.setTop (mkF m 251 #[.val (.int p0), .val (.int p1), .val (.int p2), .val (.int p3), .val (.int p4), .val (.int (2 : Int32)), .val (.int v41), .val (.int v42), .val (.int v43), .val (.int v42), .val (.int v44), .val (.ref b45), .val (.long v53), .second, .val (.long v55), .second, .val (.int v58)] [(.int (2 : Int32))]))
      refine own_via (fun _ k => XS.iconst X56.here hx rfl (hb hby at_251) k) ?_
      show own_Go p e below s _ _ _ (T56.setTop (mkF m 252 #[.val (.int p0), .val (.int p1), .val (.int p2), .val (.int p3), .val (.int p4), .val (.int (2 : Int32)), .val (.int v41), .val (.int v42), .val (.int v43), .val (.int v42), .val (.int v44), .val (.ref b45), .val (.long v53), .second, .val (.long v55), .second, .val (.int v58)] [(.int (1 : Int32)), (.int (2 : Int32))]))
      refine own_via (fun _ k => XS.icmpNo X56.here hx rfl (hb hby at_252) rfl (Jvm.Free.XT.ii_lt_f (by decide)) k) ?_
      show own_Go p e below s _ _ _ (T56.setTop (mkF m 255 #[.val (.int p0), .val (.int p1), .val (.int p2), .val (.int p3), .val (.int p4), .val (.int (2 : Int32)), .val (.int v41), .val (.int v42), .val (.int v43), .val (.int v42), .val (.int v44), .val (.ref b45), .val (.long v53), .second, .val (.long v55), .second, .val (.int v58)] []))
      refine own_via (fun _ k => XS.aload X56.here hx rfl (hb hby at_255) rfl rfl k) ?_
      show own_Go p e below s _ _ _ (T56.setTop (mkF m 257 #[.val (.int p0), .val (.int p1), .val (.int p2), .val (.int p3), .val (.int p4), .val (.int (2 : Int32)), .val (.int v41), .val (.int v42), .val (.int v43), .val (.int v42), .val (.int v44), .val (.ref b45), .val (.long v53), .second, .val (.long v55), .second, .val (.int v58)] [(.ref b45)]))
      refine own_via (fun _ k => XS.iconst X56.here hx rfl (hb hby at_257) k) ?_
      show own_Go p e below s _ _ _ (T56.setTop (mkF m 258 #[.val (.int p0), .val (.int p1), .val (.int p2), .val (.int p3), .val (.int p4), .val (.int (2 : Int32)), .val (.int v41), .val (.int v42), .val (.int v43), .val (.int v42), .val (.int v44), .val (.ref b45), .val (.long v53), .second, .val (.long v55), .second, .val (.int v58)] [(.int (0 : Int32)), (.ref b45)]))
      obtain ⟨cl66, Ar66, q66, S66, M66, H66, G66⟩ := (id F57)
      have hin66 : ¬ ((0 : Int32) < 0 ∨ cl66.slots.size ≤ ((0 : Int32)).toNatClampNeg) := inb_of S66 ⟨by decide, by decide⟩
      have hat66 : cl66.slots[((0 : Int32)).toNatClampNeg]? = some (.int (own_nx2_0 (if (p4 &&& (1 : Int32)) = (0 : Int32) then v41 else (-v41)) (if (p4 &&& (2 : Int32)) = (0 : Int32) then v42 else (-v42)) v44)) := Has.at H66 hin66 rfl
      refine own_via (fun _ k => X56.iaload hx (j := (0 : Int32)) (v := (.int (own_nx2_0 (if (p4 &&& (1 : Int32)) = (0 : Int32) then v41 else (-v41)) (if (p4 &&& (2 : Int32)) = (0 : Int32) then v42 else (-v42)) v44))) (by rw [e56]; exact Ar66.1) (State.isArrayOf_alike hZ.alike Ar66.2.1) Ar66.2.2 hin66 hat66 (g := (mkF m 258 #[.val (.int p0), .val (.int p1), .val (.int p2), .val (.int p3), .val (.int p4), .val (.int (2 : Int32)), .val (.int v41), .val (.int v42), .val (.int v43), .val (.int v42), .val (.int v44), .val (.ref b45), .val (.long v53), .second, .val (.long v55), .second, .val (.int v58)] [(.int (0 : Int32)), (.ref b45)])) rfl rfl (hb hby at_258) _ k) ?_
      show own_Go p e below s _ _ _ (T56.setTop (mkF m 259 #[.val (.int p0), .val (.int p1), .val (.int p2), .val (.int p3), .val (.int p4), .val (.int (2 : Int32)), .val (.int v41), .val (.int v42), .val (.int v43), .val (.int v42), .val (.int v44), .val (.ref b45), .val (.long v53), .second, .val (.long v55), .second, .val (.int v58)] [(.int (own_nx2_0 (if (p4 &&& (1 : Int32)) = (0 : Int32) then v41 else (-v41)) (if (p4 &&& (2 : Int32)) = (0 : Int32) then v42 else (-v42)) v44))]))
      refine own_via (fun _ k => XS.iload X56.here hx rfl (hb hby at_259) rfl k) ?_
      show own_Go p e below s _ _ _ (T56.setTop (mkF m 261 #[.val (.int p0), .val (.int p1), .val (.int p2), .val (.int p3), .val (.int p4), .val (.int (2 : Int32)), .val (.int v41), .val (.int v42), .val (.int v43), .val (.int v42), .val (.int v44), .val (.ref b45), .val (.long v53), .second, .val (.long v55), .second, .val (.int v58)] [(.int v41), (.int (own_nx2_0 (if (p4 &&& (1 : Int32)) = (0 : Int32) then v41 else (-v41)) (if (p4 &&& (2 : Int32)) = (0 : Int32) then v42 else (-v42)) v44))]))
      have hc67 : (own_nx2_0 (if (p4 &&& (1 : Int32)) = (0 : Int32) then v41 else (-v41)) (if (p4 &&& (2 : Int32)) = (0 : Int32) then v42 else (-v42)) v44) = v41 := ((own_law2 (p2 := p2) hv41 hv42 hv44 hv53 hv55 hv58).2 hc59).2.1
      refine own_via (fun _ k => XS.icmpNo X56.here hx rfl (hb hby at_261) rfl (Jvm.Free.XT.ii_ne_f hc67) k) ?_
      show own_Go p e below s _ _ _ (T56.setTop (mkF m 264 #[.val (.int p0), .val (.int p1), .val (.int p2), .val (.int p3), .val (.int p4), .val (.int (2 : Int32)), .val (.int v41), .val (.int v42), .val (.int v43), .val (.int v42), .val (.int v44), .val (.ref b45), .val (.long v53), .second, .val (.long v55), .second, .val (.int v58)] []))
      refine own_via (fun _ k => XS.iload X56.here hx rfl (hb hby at_264) rfl k) ?_
      show own_Go p e below s _ _ _ (T56.setTop (mkF m 266 #[.val (.int p0), .val (.int p1), .val (.int p2), .val (.int p3), .val (.int p4), .val (.int (2 : Int32)), .val (.int v41), .val (.int v42), .val (.int v43), .val (.int v42), .val (.int v44), .val (.ref b45), .val (.long v53), .second, .val (.long v55), .second, .val (.int v58)] [(.int (2 : Int32))]))
      refine own_via (fun _ k => XS.iconst X56.here hx rfl (hb hby at_266) k) ?_
      show own_Go p e below s _ _ _ (T56.setTop (mkF m 267 #[.val (.int p0), .val (.int p1), .val (.int p2), .val (.int p3), .val (.int p4), .val (.int (2 : Int32)), .val (.int v41), .val (.int v42), .val (.int v43), .val (.int v42), .val (.int v44), .val (.ref b45), .val (.long v53), .second, .val (.long v55), .second, .val (.int v58)] [(.int (2 : Int32)), (.int (2 : Int32))]))
      refine own_via (fun _ k => XS.icmpNo X56.here hx rfl (hb hby at_267) rfl (Jvm.Free.XT.ii_lt_f (by decide)) k) ?_
      show own_Go p e below s _ _ _ (T56.setTop (mkF m 270 #[.val (.int p0), .val (.int p1), .val (.int p2), .val (.int p3), .val (.int p4), .val (.int (2 : Int32)), .val (.int v41), .val (.int v42), .val (.int v43), .val (.int v42), .val (.int v44), .val (.ref b45), .val (.long v53), .second, .val (.long v55), .second, .val (.int v58)] []))
      refine own_via (fun _ k => XS.aload X56.here hx rfl (hb hby at_270) rfl rfl k) ?_
      show own_Go p e below s _ _ _ (T56.setTop (mkF m 272 #[.val (.int p0), .val (.int p1), .val (.int p2), .val (.int p3), .val (.int p4), .val (.int (2 : Int32)), .val (.int v41), .val (.int v42), .val (.int v43), .val (.int v42), .val (.int v44), .val (.ref b45), .val (.long v53), .second, .val (.long v55), .second, .val (.int v58)] [(.ref b45)]))
      refine own_via (fun _ k => XS.iconst X56.here hx rfl (hb hby at_272) k) ?_
      show own_Go p e below s _ _ _ (T56.setTop (mkF m 273 #[.val (.int p0), .val (.int p1), .val (.int p2), .val (.int p3), .val (.int p4), .val (.int (2 : Int32)), .val (.int v41), .val (.int v42), .val (.int v43), .val (.int v42), .val (.int v44), .val (.ref b45), .val (.long v53), .second, .val (.long v55), .second, .val (.int v58)] [(.int (1 : Int32)), (.ref b45)]))
      obtain ⟨cl68, Ar68, q68, S68, M68, H68, G68⟩ := (id F57)
      have hin68 : ¬ ((1 : Int32) < 0 ∨ cl68.slots.size ≤ ((1 : Int32)).toNatClampNeg) := inb_of S68 ⟨by decide, by decide⟩
      have hat68 : cl68.slots[((1 : Int32)).toNatClampNeg]? = some (.int (own_nx2_1 (if (p4 &&& (1 : Int32)) = (0 : Int32) then v41 else (-v41)) (if (p4 &&& (2 : Int32)) = (0 : Int32) then v42 else (-v42)) v44)) := Has.at H68 hin68 rfl
      refine own_via (fun _ k => X56.iaload hx (j := (1 : Int32)) (v := (.int (own_nx2_1 (if (p4 &&& (1 : Int32)) = (0 : Int32) then v41 else (-v41)) (if (p4 &&& (2 : Int32)) = (0 : Int32) then v42 else (-v42)) v44))) (by rw [e56]; exact Ar68.1) (State.isArrayOf_alike hZ.alike Ar68.2.1) Ar68.2.2 hin68 hat68 (g := (mkF m 273 #[.val (.int p0), .val (.int p1), .val (.int p2), .val (.int p3), .val (.int p4), .val (.int (2 : Int32)), .val (.int v41), .val (.int v42), .val (.int v43), .val (.int v42), .val (.int v44), .val (.ref b45), .val (.long v53), .second, .val (.long v55), .second, .val (.int v58)] [(.int (1 : Int32)), (.ref b45)])) rfl rfl (hb hby at_273) _ k) ?_
      show own_Go p e below s _ _ _ (T56.setTop (mkF m 274 #[.val (.int p0), .val (.int p1), .val (.int p2), .val (.int p3), .val (.int p4), .val (.int (2 : Int32)), .val (.int v41), .val (.int v42), .val (.int v43), .val (.int v42), .val (.int v44), .val (.ref b45), .val (.long v53), .second, .val (.long v55), .second, .val (.int v58)] [(.int (own_nx2_1 (if (p4 &&& (1 : Int32)) = (0 : Int32) then v41 else (-v41)) (if (p4 &&& (2 : Int32)) = (0 : Int32) then v42 else (-v42)) v44))]))
      refine own_via (fun _ k => XS.iload X56.here hx rfl (hb hby at_274) rfl k) ?_
      show own_Go p e below s _ _ _ (T56.setTop (mkF m 276 #[.val (.int p0), .val (.int p1), .val (.int p2), .val (.int p3), .val (.int p4), .val (.int (2 : Int32)), .val (.int v41), .val (.int v42), .val (.int v43), .val (.int v42), .val (.int v44), .val (.ref b45), .val (.long v53), .second, .val (.long v55), .second, .val (.int v58)] [(.int v42), (.int (own_nx2_1 (if (p4 &&& (1 : Int32)) = (0 : Int32) then v41 else (-v41)) (if (p4 &&& (2 : Int32)) = (0 : Int32) then v42 else (-v42)) v44))]))
      have hc69 : (own_nx2_1 (if (p4 &&& (1 : Int32)) = (0 : Int32) then v41 else (-v41)) (if (p4 &&& (2 : Int32)) = (0 : Int32) then v42 else (-v42)) v44) = v42 := ((own_law2 (p2 := p2) hv41 hv42 hv44 hv53 hv55 hv58).2 hc59).2.2
      refine own_via (fun _ k => XS.icmpNo X56.here hx rfl (hb hby at_276) rfl (Jvm.Free.XT.ii_ne_f hc69) k) ?_
      show own_Go p e below s _ _ _ (T56.setTop (mkF m 279 #[.val (.int p0), .val (.int p1), .val (.int p2), .val (.int p3), .val (.int p4), .val (.int (2 : Int32)), .val (.int v41), .val (.int v42), .val (.int v43), .val (.int v42), .val (.int v44), .val (.ref b45), .val (.long v53), .second, .val (.long v55), .second, .val (.int v58)] []))
      refine own_via (fun _ k => XS.iload X56.here hx rfl (hb hby at_279) rfl k) ?_
      show own_Go p e below s _ _ _ (T56.setTop (mkF m 281 #[.val (.int p0), .val (.int p1), .val (.int p2), .val (.int p3), .val (.int p4), .val (.int (2 : Int32)), .val (.int v41), .val (.int v42), .val (.int v43), .val (.int v42), .val (.int v44), .val (.ref b45), .val (.long v53), .second, .val (.long v55), .second, .val (.int v58)] [(.int (2 : Int32))]))
      refine own_via (fun _ k => XS.iconst X56.here hx rfl (hb hby at_281) k) ?_
      show own_Go p e below s _ _ _ (T56.setTop (mkF m 282 #[.val (.int p0), .val (.int p1), .val (.int p2), .val (.int p3), .val (.int p4), .val (.int (2 : Int32)), .val (.int v41), .val (.int v42), .val (.int v43), .val (.int v42), .val (.int v44), .val (.ref b45), .val (.long v53), .second, .val (.long v55), .second, .val (.int v58)] [(.int (3 : Int32)), (.int (2 : Int32))]))
      refine own_via (fun _ k => XS.icmpYes X56.here hx rfl (pc0 := 282) (pc' := 294) rfl (hb hby at_282) rfl (Jvm.Free.XT.ii_lt_t (by decide)) (by decide) (by decide) k) ?_
      show own_Go p e below s _ _ _ (T56.setTop (mkF m 294 #[.val (.int p0), .val (.int p1), .val (.int p2), .val (.int p3), .val (.int p4), .val (.int (2 : Int32)), .val (.int v41), .val (.int v42), .val (.int v43), .val (.int v42), .val (.int v44), .val (.ref b45), .val (.long v53), .second, .val (.long v55), .second, .val (.int v58)] []))
      refine own_via (fun _ k => XS.iconst X56.here hx rfl (hb hby at_294) k) ?_
      show own_Go p e below s _ _ _ (T56.setTop (mkF m 295 #[.val (.int p0), .val (.int p1), .val (.int p2), .val (.int p3), .val (.int p4), .val (.int (2 : Int32)), .val (.int v41), .val (.int v42), .val (.int v43), .val (.int v42), .val (.int v44), .val (.ref b45), .val (.long v53), .second, .val (.long v55), .second, .val (.int v58)] [(.int (1 : Int32))]))
      refine own_via (fun _ k => XS.goto X56.here hx rfl (pc0 := 295) (pc' := 299) rfl (hb hby at_295) (by decide) (by decide) k) ?_
      show own_Go p e below s _ _ _ (T56.setTop (mkF m 299 #[.val (.int p0), .val (.int p1), .val (.int p2), .val (.int p3), .val (.int p4), .val (.int (2 : Int32)), .val (.int v41), .val (.int v42), .val (.int v43), .val (.int v42), .val (.int v44), .val (.ref b45), .val (.long v53), .second, .val (.long v55), .second, .val (.int v58)] [(.int (1 : Int32))]))
      exact own_goN X56 hx (t := .boolean) Bd.returns (by simp) (hb hby at_299) Bd.notSynchronized (by decide) (by decide) (by rw [e56]; exact ⟨rfl, N56⟩)
  · show own_Go p e below s _ _ _ (s₁.setTop (mkF m 5 #[.val (.int p0), .val (.int p1), .val (.int p2), .val (.int p3), .val (.int p4), .val (.int (3 : Int32)), .unset, .unset, .unset, .unset, .unset, .unset, .unset, .unset, .unset, .unset, .unset] []))
    refine own_via (fun _ k => XS.iconst X0.here hx rfl (hb hby at_5) k) ?_
    show own_Go p e below s _ _ _ (s₁.setTop (mkF m 6 #[.val (.int p0), .val (.int p1), .val (.int p2), .val (.int p3), .val (.int p4), .val (.int (3 : Int32)), .unset, .unset, .unset, .unset, .unset, .unset, .unset, .unset, .unset, .unset, .unset] [(.int (1 : Int32))]))
    refine own_via (fun _ k => XS.iloadN X0.here hx rfl (hb hby at_6) rfl k) ?_
    show own_Go p e below s _ _ _ (s₁.setTop (mkF m 7 #[.val (.int p0), .val (.int p1), .val (.int p2), .val (.int p3), .val (.int p4), .val (.int (3 : Int32)), .unset, .unset, .unset, .unset, .unset, .unset, .unset, .unset, .unset, .unset, .unset] [(.int p1), (.int (1 : Int32))]))
    refine own_via (fun _ k => X0.ldcInt hx hown (mvT hZ (hw _ (List.mem_of_getElem? (i := 0) rfl))) (g := (mkF m 7 #[.val (.int p0), .val (.int p1), .val (.int p2), .val (.int p3), .val (.int p4), .val (.int (3 : Int32)), .unset, .unset, .unset, .unset, .unset, .unset, .unset, .unset, .unset, .unset, .unset] [(.int p1), (.int (1 : Int32))])) rfl (hb hby at_7) _ k) ?_
    show own_Go p e below s _ _ _ (s₁.setTop (mkF m 9 #[.val (.int p0), .val (.int p1), .val (.int p2), .val (.int p3), .val (.int p4), .val (.int (3 : Int32)), .unset, .unset, .unset, .unset, .unset, .unset, .unset, .unset, .unset, .unset, .unset] [(.int (1048575 : Int32)), (.int p1), (.int (1 : Int32))]))
    refine own_via (fun _ k => XS.iand X0.here hx rfl (hb hby at_9) rfl k) ?_
    show own_Go p e below s _ _ _ (s₁.setTop (mkF m 10 #[.val (.int p0), .val (.int p1), .val (.int p2), .val (.int p3), .val (.int p4), .val (.int (3 : Int32)), .unset, .unset, .unset, .unset, .unset, .unset, .unset, .unset, .unset, .unset, .unset] [(.int (p1 &&& (1048575 : Int32))), (.int (1 : Int32))]))
    refine own_via (fun _ k => XS.iadd X0.here hx rfl (hb hby at_10) rfl k) ?_
    show own_Go p e below s _ _ _ (s₁.setTop (mkF m 11 #[.val (.int p0), .val (.int p1), .val (.int p2), .val (.int p3), .val (.int p4), .val (.int (3 : Int32)), .unset, .unset, .unset, .unset, .unset, .unset, .unset, .unset, .unset, .unset, .unset] [(.int ((1 : Int32) + (p1 &&& (1048575 : Int32))))]))
    refine own_via (fun _ k => XS.istore X0.here hx rfl (hb hby at_11) rfl (l' := #[.val (.int p0), .val (.int p1), .val (.int p2), .val (.int p3), .val (.int p4), .val (.int (3 : Int32)), .val (.int ((1 : Int32) + (p1 &&& (1048575 : Int32)))), .unset, .unset, .unset, .unset, .unset, .unset, .unset, .unset, .unset, .unset]) rfl k) ?_
    show own_Go p e below s _ _ _ (s₁.setTop (mkF m 13 #[.val (.int p0), .val (.int p1), .val (.int p2), .val (.int p3), .val (.int p4), .val (.int (3 : Int32)), .val (.int ((1 : Int32) + (p1 &&& (1048575 : Int32)))), .unset, .unset, .unset, .unset, .unset, .unset, .unset, .unset, .unset, .unset] []))
    generalize hv70 : ((1 : Int32) + (p1 &&& (1048575 : Int32))) = v70
    show own_Go p e below s _ _ _ (s₁.setTop (mkF m 13 #[.val (.int p0), .val (.int p1), .val (.int p2), .val (.int p3), .val (.int p4), .val (.int (3 : Int32)), .val (.int v70), .unset, .unset, .unset, .unset, .unset, .unset, .unset, .unset, .unset, .unset] []))
    refine own_via (fun _ k => XS.iload X0.here hx rfl (hb hby at_13) rfl k) ?_
    show own_Go p e below s _ _ _ (s₁.setTop (mkF m 15 #[.val (.int p0), .val (.int p1), .val (.int p2), .val (.int p3), .val (.int p4), .val (.int (3 : Int32)), .val (.int v70), .unset, .unset, .unset, .unset, .unset, .unset, .unset, .unset, .unset, .unset] [(.int v70)]))
    refine own_via (fun _ k => XS.iconst X0.here hx rfl (hb hby at_15) k) ?_
    show own_Go p e below s _ _ _ (s₁.setTop (mkF m 16 #[.val (.int p0), .val (.int p1), .val (.int p2), .val (.int p3), .val (.int p4), .val (.int (3 : Int32)), .val (.int v70), .unset, .unset, .unset, .unset, .unset, .unset, .unset, .unset, .unset, .unset] [(.int (1 : Int32)), (.int v70)]))
    refine own_via (fun _ k => XS.iadd X0.here hx rfl (hb hby at_16) rfl k) ?_
    show own_Go p e below s _ _ _ (s₁.setTop (mkF m 17 #[.val (.int p0), .val (.int p1), .val (.int p2), .val (.int p3), .val (.int p4), .val (.int (3 : Int32)), .val (.int v70), .unset, .unset, .unset, .unset, .unset, .unset, .unset, .unset, .unset, .unset] [(.int (v70 + (1 : Int32)))]))
    refine own_via (fun _ k => XS.iloadN X0.here hx rfl (hb hby at_17) rfl k) ?_
    show own_Go p e below s _ _ _ (s₁.setTop (mkF m 18 #[.val (.int p0), .val (.int p1), .val (.int p2), .val (.int p3), .val (.int p4), .val (.int (3 : Int32)), .val (.int v70), .unset, .unset, .unset, .unset, .unset, .unset, .unset, .unset, .unset, .unset] [(.int p2), (.int (v70 + (1 : Int32)))]))
    refine own_via (fun _ k => XS.iconst X0.here hx rfl (hb hby at_18) k) ?_
    show own_Go p e below s _ _ _ (s₁.setTop (mkF m 19 #[.val (.int p0), .val (.int p1), .val (.int p2), .val (.int p3), .val (.int p4), .val (.int (3 : Int32)), .val (.int v70), .unset, .unset, .unset, .unset, .unset, .unset, .unset, .unset, .unset, .unset] [(.int (3 : Int32)), (.int p2), (.int (v70 + (1 : Int32)))]))
    refine own_via (fun _ k => XS.iand X0.here hx rfl (hb hby at_19) rfl k) ?_
    show own_Go p e below s _ _ _ (s₁.setTop (mkF m 20 #[.val (.int p0), .val (.int p1), .val (.int p2), .val (.int p3), .val (.int p4), .val (.int (3 : Int32)), .val (.int v70), .unset, .unset, .unset, .unset, .unset, .unset, .unset, .unset, .unset, .unset] [(.int (p2 &&& (3 : Int32))), (.int (v70 + (1 : Int32)))]))
    refine own_via (fun _ k => XS.iadd X0.here hx rfl (hb hby at_20) rfl k) ?_
    show own_Go p e below s _ _ _ (s₁.setTop (mkF m 21 #[.val (.int p0), .val (.int p1), .val (.int p2), .val (.int p3), .val (.int p4), .val (.int (3 : Int32)), .val (.int v70), .unset, .unset, .unset, .unset, .unset, .unset, .unset, .unset, .unset, .unset] [(.int ((v70 + (1 : Int32)) + (p2 &&& (3 : Int32))))]))
    refine own_via (fun _ k => XS.istore X0.here hx rfl (hb hby at_21) rfl (l' := #[.val (.int p0), .val (.int p1), .val (.int p2), .val (.int p3), .val (.int p4), .val (.int (3 : Int32)), .val (.int v70), .val (.int ((v70 + (1 : Int32)) + (p2 &&& (3 : Int32)))), .unset, .unset, .unset, .unset, .unset, .unset, .unset, .unset, .unset]) rfl k) ?_
    show own_Go p e below s _ _ _ (s₁.setTop (mkF m 23 #[.val (.int p0), .val (.int p1), .val (.int p2), .val (.int p3), .val (.int p4), .val (.int (3 : Int32)), .val (.int v70), .val (.int ((v70 + (1 : Int32)) + (p2 &&& (3 : Int32)))), .unset, .unset, .unset, .unset, .unset, .unset, .unset, .unset, .unset] []))
    generalize hv71 : ((v70 + (1 : Int32)) + (p2 &&& (3 : Int32))) = v71
    show own_Go p e below s _ _ _ (s₁.setTop (mkF m 23 #[.val (.int p0), .val (.int p1), .val (.int p2), .val (.int p3), .val (.int p4), .val (.int (3 : Int32)), .val (.int v70), .val (.int v71), .unset, .unset, .unset, .unset, .unset, .unset, .unset, .unset, .unset] []))
    refine own_via (fun _ k => XS.iload X0.here hx rfl (hb hby at_23) rfl k) ?_
    show own_Go p e below s _ _ _ (s₁.setTop (mkF m 25 #[.val (.int p0), .val (.int p1), .val (.int p2), .val (.int p3), .val (.int p4), .val (.int (3 : Int32)), .val (.int v70), .val (.int v71), .unset, .unset, .unset, .unset, .unset, .unset, .unset, .unset, .unset] [(.int v71)]))
    refine own_via (fun _ k => XS.iconst X0.here hx rfl (hb hby at_25) k) ?_
    show own_Go p e below s _ _ _ (s₁.setTop (mkF m 26 #[.val (.int p0), .val (.int p1), .val (.int p2), .val (.int p3), .val (.int p4), .val (.int (3 : Int32)), .val (.int v70), .val (.int v71), .unset, .unset, .unset, .unset, .unset, .unset, .unset, .unset, .unset] [(.int (1 : Int32)), (.int v71)]))
    refine own_via (fun _ k => XS.iadd X0.here hx rfl (hb hby at_26) rfl k) ?_
    show own_Go p e below s _ _ _ (s₁.setTop (mkF m 27 #[.val (.int p0), .val (.int p1), .val (.int p2), .val (.int p3), .val (.int p4), .val (.int (3 : Int32)), .val (.int v70), .val (.int v71), .unset, .unset, .unset, .unset, .unset, .unset, .unset, .unset, .unset] [(.int (v71 + (1 : Int32)))]))
    refine own_via (fun _ k => XS.iloadN X0.here hx rfl (hb hby at_27) rfl k) ?_
    show own_Go p e below s _ _ _ (s₁.setTop (mkF m 28 #[.val (.int p0), .val (.int p1), .val (.int p2), .val (.int p3), .val (.int p4), .val (.int (3 : Int32)), .val (.int v70), .val (.int v71), .unset, .unset, .unset, .unset, .unset, .unset, .unset, .unset, .unset] [(.int p2), (.int (v71 + (1 : Int32)))]))
    refine own_via (fun _ k => XS.iconst X0.here hx rfl (hb hby at_28) k) ?_
    show own_Go p e below s _ _ _ (s₁.setTop (mkF m 29 #[.val (.int p0), .val (.int p1), .val (.int p2), .val (.int p3), .val (.int p4), .val (.int (3 : Int32)), .val (.int v70), .val (.int v71), .unset, .unset, .unset, .unset, .unset, .unset, .unset, .unset, .unset] [(.int (2 : Int32)), (.int p2), (.int (v71 + (1 : Int32)))]))
    refine own_via (fun _ k => XS.iushr X0.here hx rfl (hb hby at_29) rfl k) ?_
    show own_Go p e below s _ _ _ (s₁.setTop (mkF m 30 #[.val (.int p0), .val (.int p1), .val (.int p2), .val (.int p3), .val (.int p4), .val (.int (3 : Int32)), .val (.int v70), .val (.int v71), .unset, .unset, .unset, .unset, .unset, .unset, .unset, .unset, .unset] [(.int (o_iushr p2 (2 : Int32))), (.int (v71 + (1 : Int32)))]))
    refine own_via (fun _ k => XS.iconst X0.here hx rfl (hb hby at_30) k) ?_
    show own_Go p e below s _ _ _ (s₁.setTop (mkF m 31 #[.val (.int p0), .val (.int p1), .val (.int p2), .val (.int p3), .val (.int p4), .val (.int (3 : Int32)), .val (.int v70), .val (.int v71), .unset, .unset, .unset, .unset, .unset, .unset, .unset, .unset, .unset] [(.int (3 : Int32)), (.int (o_iushr p2 (2 : Int32))), (.int (v71 + (1 : Int32)))]))
    refine own_via (fun _ k => XS.iand X0.here hx rfl (hb hby at_31) rfl k) ?_
    show own_Go p e below s _ _ _ (s₁.setTop (mkF m 32 #[.val (.int p0), .val (.int p1), .val (.int p2), .val (.int p3), .val (.int p4), .val (.int (3 : Int32)), .val (.int v70), .val (.int v71), .unset, .unset, .unset, .unset, .unset, .unset, .unset, .unset, .unset] [(.int ((o_iushr p2 (2 : Int32)) &&& (3 : Int32))), (.int (v71 + (1 : Int32)))]))
    refine own_via (fun _ k => XS.iadd X0.here hx rfl (hb hby at_32) rfl k) ?_
    show own_Go p e below s _ _ _ (s₁.setTop (mkF m 33 #[.val (.int p0), .val (.int p1), .val (.int p2), .val (.int p3), .val (.int p4), .val (.int (3 : Int32)), .val (.int v70), .val (.int v71), .unset, .unset, .unset, .unset, .unset, .unset, .unset, .unset, .unset] [(.int ((v71 + (1 : Int32)) + ((o_iushr p2 (2 : Int32)) &&& (3 : Int32))))]))
    refine own_via (fun _ k => XS.istore X0.here hx rfl (hb hby at_33) rfl (l' := #[.val (.int p0), .val (.int p1), .val (.int p2), .val (.int p3), .val (.int p4), .val (.int (3 : Int32)), .val (.int v70), .val (.int v71), .val (.int ((v71 + (1 : Int32)) + ((o_iushr p2 (2 : Int32)) &&& (3 : Int32)))), .unset, .unset, .unset, .unset, .unset, .unset, .unset, .unset]) rfl k) ?_
    show own_Go p e below s _ _ _ (s₁.setTop (mkF m 35 #[.val (.int p0), .val (.int p1), .val (.int p2), .val (.int p3), .val (.int p4), .val (.int (3 : Int32)), .val (.int v70), .val (.int v71), .val (.int ((v71 + (1 : Int32)) + ((o_iushr p2 (2 : Int32)) &&& (3 : Int32)))), .unset, .unset, .unset, .unset, .unset, .unset, .unset, .unset] []))
    generalize hv72 : ((v71 + (1 : Int32)) + ((o_iushr p2 (2 : Int32)) &&& (3 : Int32))) = v72
    show own_Go p e below s _ _ _ (s₁.setTop (mkF m 35 #[.val (.int p0), .val (.int p1), .val (.int p2), .val (.int p3), .val (.int p4), .val (.int (3 : Int32)), .val (.int v70), .val (.int v71), .val (.int v72), .unset, .unset, .unset, .unset, .unset, .unset, .unset, .unset] []))
    refine own_via (fun _ k => XS.iload X0.here hx rfl (hb hby at_35) rfl k) ?_
    show own_Go p e below s _ _ _ (s₁.setTop (mkF m 37 #[.val (.int p0), .val (.int p1), .val (.int p2), .val (.int p3), .val (.int p4), .val (.int (3 : Int32)), .val (.int v70), .val (.int v71), .val (.int v72), .unset, .unset, .unset, .unset, .unset, .unset, .unset, .unset] [(.int (3 : Int32))]))
    refine own_via (fun _ k => XS.ifYes X0.here hx rfl (pc0 := 37) (pc' := 47) rfl (hb hby at_37) rfl (Jvm.Free.XT.i0_ne_t (by decide)) (by decide) (by decide) k) ?_
    show own_Go p e below s _ _ _ (s₁.setTop (mkF m 47 #[.val (.int p0), .val (.int p1), .val (.int p2), .val (.int p3), .val (.int p4), .val (.int (3 : Int32)), .val (.int v70), .val (.int v71), .val (.int v72), .unset, .unset, .unset, .unset, .unset, .unset, .unset, .unset] []))
    refine own_via (fun _ k => XS.iload X0.here hx rfl (hb hby at_47) rfl k) ?_
    show own_Go p e below s _ _ _ (s₁.setTop (mkF m 49 #[.val (.int p0), .val (.int p1), .val (.int p2), .val (.int p3), .val (.int p4), .val (.int (3 : Int32)), .val (.int v70), .val (.int v71), .val (.int v72), .unset, .unset, .unset, .unset, .unset, .unset, .unset, .unset] [(.int (3 : Int32))]))
    refine own_via (fun _ k => XS.iconst X0.here hx rfl (hb hby at_49) k) ?_
    show own_Go p e below s _ _ _ (s₁.setTop (mkF m 50 #[.val (.int p0), .val (.int p1), .val (.int p2), .val (.int p3), .val (.int p4), .val (.int (3 : Int32)), .val (.int v70), .val (.int v71), .val (.int v72), .unset, .unset, .unset, .unset, .unset, .unset, .unset, .unset] [(.int (1 : Int32)), (.int (3 : Int32))]))
    refine own_via (fun _ k => XS.icmpYes X0.here hx rfl (pc0 := 50) (pc' := 58) rfl (hb hby at_50) rfl (Jvm.Free.XT.ii_ne_t (by decide)) (by decide) (by decide) k) ?_
    show own_Go p e below s _ _ _ (s₁.setTop (mkF m 58 #[.val (.int p0), .val (.int p1), .val (.int p2), .val (.int p3), .val (.int p4), .val (.int (3 : Int32)), .val (.int v70), .val (.int v71), .val (.int v72), .unset, .unset, .unset, .unset, .unset, .unset, .unset, .unset] []))
    refine own_via (fun _ k => XS.iload X0.here hx rfl (hb hby at_58) rfl k) ?_
    show own_Go p e below s _ _ _ (s₁.setTop (mkF m 60 #[.val (.int p0), .val (.int p1), .val (.int p2), .val (.int p3), .val (.int p4), .val (.int (3 : Int32)), .val (.int v70), .val (.int v71), .val (.int v72), .unset, .unset, .unset, .unset, .unset, .unset, .unset, .unset] [(.int (3 : Int32))]))
    refine own_via (fun _ k => XS.iconst X0.here hx rfl (hb hby at_60) k) ?_
    show own_Go p e below s _ _ _ (s₁.setTop (mkF m 61 #[.val (.int p0), .val (.int p1), .val (.int p2), .val (.int p3), .val (.int p4), .val (.int (3 : Int32)), .val (.int v70), .val (.int v71), .val (.int v72), .unset, .unset, .unset, .unset, .unset, .unset, .unset, .unset] [(.int (2 : Int32)), (.int (3 : Int32))]))
    refine own_via (fun _ k => XS.icmpYes X0.here hx rfl (pc0 := 61) (pc' := 69) rfl (hb hby at_61) rfl (Jvm.Free.XT.ii_ne_t (by decide)) (by decide) (by decide) k) ?_
    show own_Go p e below s _ _ _ (s₁.setTop (mkF m 69 #[.val (.int p0), .val (.int p1), .val (.int p2), .val (.int p3), .val (.int p4), .val (.int (3 : Int32)), .val (.int v70), .val (.int v71), .val (.int v72), .unset, .unset, .unset, .unset, .unset, .unset, .unset, .unset] []))
    refine own_via (fun _ k => XS.iload X0.here hx rfl (hb hby at_69) rfl k) ?_
    show own_Go p e below s _ _ _ (s₁.setTop (mkF m 71 #[.val (.int p0), .val (.int p1), .val (.int p2), .val (.int p3), .val (.int p4), .val (.int (3 : Int32)), .val (.int v70), .val (.int v71), .val (.int v72), .unset, .unset, .unset, .unset, .unset, .unset, .unset, .unset] [(.int v72)]))
    refine own_via (fun _ k => XS.istore X0.here hx rfl (hb hby at_71) rfl (l' := #[.val (.int p0), .val (.int p1), .val (.int p2), .val (.int p3), .val (.int p4), .val (.int (3 : Int32)), .val (.int v70), .val (.int v71), .val (.int v72), .val (.int v72), .unset, .unset, .unset, .unset, .unset, .unset, .unset]) rfl k) ?_
    show own_Go p e below s _ _ _ (s₁.setTop (mkF m 73 #[.val (.int p0), .val (.int p1), .val (.int p2), .val (.int p3), .val (.int p4), .val (.int (3 : Int32)), .val (.int v70), .val (.int v71), .val (.int v72), .val (.int v72), .unset, .unset, .unset, .unset, .unset, .unset, .unset] []))
    refine own_via (fun _ k => XS.iload X0.here hx rfl (hb hby at_73) rfl k) ?_
    show own_Go p e below s _ _ _ (s₁.setTop (mkF m 75 #[.val (.int p0), .val (.int p1), .val (.int p2), .val (.int p3), .val (.int p4), .val (.int (3 : Int32)), .val (.int v70), .val (.int v71), .val (.int v72), .val (.int v72), .unset, .unset, .unset, .unset, .unset, .unset, .unset] [(.int v72)]))
    refine own_via (fun _ k => XS.iloadN X0.here hx rfl (hb hby at_75) rfl k) ?_
    show own_Go p e below s _ _ _ (s₁.setTop (mkF m 76 #[.val (.int p0), .val (.int p1), .val (.int p2), .val (.int p3), .val (.int p4), .val (.int (3 : Int32)), .val (.int v70), .val (.int v71), .val (.int v72), .val (.int v72), .unset, .unset, .unset, .unset, .unset, .unset, .unset] [(.int p3), (.int v72)]))
    refine own_via (fun _ k => XS.iconst X0.here hx rfl (hb hby at_76) k) ?_
    show own_Go p e below s _ _ _ (s₁.setTop (mkF m 77 #[.val (.int p0), .val (.int p1), .val (.int p2), .val (.int p3), .val (.int p4), .val (.int (3 : Int32)), .val (.int v70), .val (.int v71), .val (.int v72), .val (.int v72), .unset, .unset, .unset, .unset, .unset, .unset, .unset] [(.int (3 : Int32)), (.int p3), (.int v72)]))
    refine own_via (fun _ k => XS.iand X0.here hx rfl (hb hby at_77) rfl k) ?_
    show own_Go p e below s _ _ _ (s₁.setTop (mkF m 78 #[.val (.int p0), .val (.int p1), .val (.int p2), .val (.int p3), .val (.int p4), .val (.int (3 : Int32)), .val (.int v70), .val (.int v71), .val (.int v72), .val (.int v72), .unset, .unset, .unset, .unset, .unset, .unset, .unset] [(.int (p3 &&& (3 : Int32))), (.int v72)]))
    refine own_via (fun _ k => XS.iadd X0.here hx rfl (hb hby at_78) rfl k) ?_
    show own_Go p e below s _ _ _ (s₁.setTop (mkF m 79 #[.val (.int p0), .val (.int p1), .val (.int p2), .val (.int p3), .val (.int p4), .val (.int (3 : Int32)), .val (.int v70), .val (.int v71), .val (.int v72), .val (.int v72), .unset, .unset, .unset, .unset, .unset, .unset, .unset] [(.int (v72 + (p3 &&& (3 : Int32))))]))
    refine own_via (fun _ k => XS.istore X0.here hx rfl (hb hby at_79) rfl (l' := #[.val (.int p0), .val (.int p1), .val (.int p2), .val (.int p3), .val (.int p4), .val (.int (3 : Int32)), .val (.int v70), .val (.int v71), .val (.int v72), .val (.int v72), .val (.int (v72 + (p3 &&& (3 : Int32)))), .unset, .unset, .unset, .unset, .unset, .unset]) rfl k) ?_
    show own_Go p e below s _ _ _ (s₁.setTop (mkF m 81 #[.val (.int p0), .val (.int p1), .val (.int p2), .val (.int p3), .val (.int p4), .val (.int (3 : Int32)), .val (.int v70), .val (.int v71), .val (.int v72), .val (.int v72), .val (.int (v72 + (p3 &&& (3 : Int32)))), .unset, .unset, .unset, .unset, .unset, .unset] []))
    generalize hv73 : (v72 + (p3 &&& (3 : Int32))) = v73
    show own_Go p e below s _ _ _ (s₁.setTop (mkF m 81 #[.val (.int p0), .val (.int p1), .val (.int p2), .val (.int p3), .val (.int p4), .val (.int (3 : Int32)), .val (.int v70), .val (.int v71), .val (.int v72), .val (.int v72), .val (.int v73), .unset, .unset, .unset, .unset, .unset, .unset] []))
    refine own_via (fun _ k => XS.iload X0.here hx rfl (hb hby at_81) rfl k) ?_
    show own_Go p e below s _ _ _ (s₁.setTop (mkF m 83 #[.val (.int p0), .val (.int p1), .val (.int p2), .val (.int p3), .val (.int p4), .val (.int (3 : Int32)), .val (.int v70), .val (.int v71), .val (.int v72), .val (.int v72), .val (.int v73), .unset, .unset, .unset, .unset, .unset, .unset] [(.int (3 : Int32))]))
    obtain ⟨T74, h74, k74, X74, e74, E74, A74, st74⟩ := newP X0 hx hZ (hw _ (List.mem_of_getElem? (i := 1) rfl)) e0 (g := (mkF m 83 #[.val (.int p0), .val (.int p1), .val (.int p2), .val (.int p3), .val (.int p4), .val (.int (3 : Int32)), .val (.int v70), .val (.int v71), .val (.int v72), .val (.int v72), .val (.int v73), .unset, .unset, .unset, .unset, .unset, .unset] [(.int (3 : Int32))])) rfl (hb hby at_83) rfl (by decide) (cap := 3) (by decide) (by decide) (by decide) (by decide)
    obtain ⟨b74, gg74⟩ : ∃ z, z = h0.size := ⟨_, rfl⟩
    rw [← gg74] at A74 st74
    have g_b74 : n0 ≤ b74 := Nat.le_trans Z0 (Nat.le_of_eq gg74.symm)
    have Z74 : n0 ≤ h74.size := Nat.le_trans Z0 E74.1
    have V74 : Arv Z h74 b74 k74 .int (3 : Int32) [(.int (0 : Int32)), (.int (0 : Int32)), (.int (0 : Int32))] (.int (0 : Int32)) := (Arv.new A74 (by decide)).pad (pad_rep [] (.int (0 : Int32)) 3)
    refine own_via st74 ?_
    show own_Go p e below s _ _ _ (T74.setTop (mkF m 85 #[.val (.int p0), .val (.int p1), .val (.int p2), .val (.int p3), .val (.int p4), .val (.int (3 : Int32)), .val (.int v70), .val (.int v71), .val (.int v72), .val (.int v72), .val (.int v73), .unset, .unset, .unset, .unset, .unset, .unset] [(.ref b74)]))
    refine own_via (fun _ k => XS.astore X74.here hx rfl (hb hby at_85) rfl rfl (l' := #[.val (.int p0), .val (.int p1), .val (.int p2), .val (.int p3), .val (.int p4), .val (.int (3 : Int32)), .val (.int v70), .val (.int v71), .val (.int v72), .val (.int v72), .val (.int v73), .val (.ref b74), .unset, .unset, .unset, .unset, .unset]) rfl k) ?_
    show own_Go p e below s _ _ _ (T74.setTop (mkF m 87 #[.val (.int p0), .val (.int p1), .val (.int p2), .val (.int p3), .val (.int p4), .val (.int (3 : Int32)), .val (.int v70), .val (.int v71), .val (.int v72), .val (.int v72), .val (.int v73), .val (.ref b74), .unset, .unset, .unset, .unset, .unset] []))
    refine own_via (fun _ k => XS.iload X74.here hx rfl (hb hby at_87) rfl k) ?_
    show own_Go p e below s _ _ _ (T74.setTop (mkF m 89 #[.val (.int p0), .val (.int p1), .val (.int p2), .val (.int p3), .val (.int p4), .val (.int (3 : Int32)), .val (.int v70), .val (.int v71), .val (.int v72), .val (.int v72), .val (.int v73), .val (.ref b74), .unset, .unset, .unset, .unset, .unset] [(.int (3 : Int32))]))
    refine own_via (fun _ k => XS.ifNo X74.here hx rfl (hb hby at_89) rfl (Jvm.Free.XT.i0_le_f (by decide)) k) ?_
    show own_Go p e below s _ _ _ (T74.setTop (mkF m 92 #[.val (.int p0), .val (.int p1), .val (.int p2), .val (.int p3), .val (.int p4), .val (.int (3 : Int32)), .val (.int v70), .val (.int v71), .val (.int v72), .val (.int v72), .val (.int v73), .val (.ref b74), .unset, .unset, .unset, .unset, .unset] []))
    refine own_via (fun _ k => XS.aload X74.here hx rfl (hb hby at_92) rfl rfl k) ?_
    show own_Go p e below s _ _ _ (T74.setTop (mkF m 94 #[.val (.int p0), .val (.int p1), .val (.int p2), .val (.int p3), .val (.int p4), .val (.int (3 : Int32)), .val (.int v70), .val (.int v71), .val (.int v72), .val (.int v72), .val (.int v73), .val (.ref b74), .unset, .unset, .unset, .unset, .unset] [(.ref b74)]))
    refine own_via (fun _ k => XS.iconst X74.here hx rfl (hb hby at_94) k) ?_
    show own_Go p e below s _ _ _ (T74.setTop (mkF m 95 #[.val (.int p0), .val (.int p1), .val (.int p2), .val (.int p3), .val (.int p4), .val (.int (3 : Int32)), .val (.int v70), .val (.int v71), .val (.int v72), .val (.int v72), .val (.int v73), .val (.ref b74), .unset, .unset, .unset, .unset, .unset] [(.int (0 : Int32)), (.ref b74)]))
    have st75 : ∀ t, Steps p.tables e below (T74.setTop (mkF m 110 #[.val (.int p0), .val (.int p1), .val (.int p2), .val (.int p3), .val (.int p4), .val (.int (3 : Int32)), .val (.int v70), .val (.int v71), .val (.int v72), .val (.int v72), .val (.int v73), .val (.ref b74), .unset, .unset, .unset, .unset, .unset] [(.int (if (p4 &&& (1 : Int32)) = (0 : Int32) then v70 else (-v70))), (.int (0 : Int32)), (.ref b74)])) t → Steps p.tables e below (T74.setTop (mkF m 95 #[.val (.int p0), .val (.int p1), .val (.int p2), .val (.int p3), .val (.int p4), .val (.int (3 : Int32)), .val (.int v70), .val (.int v71), .val (.int v72), .val (.int v72), .val (.int v73), .val (.ref b74), .unset, .unset, .unset, .unset, .unset] [(.int (0 : Int32)), (.ref b74)])) t := by
      intro t k
      refine XS.iload X74.here hx rfl (hb hby at_95) rfl ?_
      show Steps p.tables e below (T74.setTop (mkF m 97 #[.val (.int p0), .val (.int p1), .val (.int p2), .val (.int p3), .val (.int p4), .val (.int (3 : Int32)), .val (.int v70), .val (.int v71), .val (.int v72), .val (.int v72), .val (.int v73), .val (.ref b74), .unset, .unset, .unset, .unset, .unset] [(.int p4), (.int (0 : Int32)), (.ref b74)])) t
      refine XS.iconst X74.here hx rfl (hb hby at_97) ?_
      show Steps p.tables e below (T74.setTop (mkF m 98 #[.val (.int p0), .val (.int p1), .val (.int p2), .val (.int p3), .val (.int p4), .val (.int (3 : Int32)), .val (.int v70), .val (.int v71), .val (.int v72), .val (.int v72), .val (.int v73), .val (.ref b74), .unset, .unset, .unset, .unset, .unset] [(.int (1 : Int32)), (.int p4), (.int (0 : Int32)), (.ref b74)])) t
      refine XS.iand X74.here hx rfl (hb hby at_98) rfl ?_
      show Steps p.tables e below (T74.setTop (mkF m 99 #[.val (.int p0), .val (.int p1), .val (.int p2), .val (.int p3), .val (.int p4), .val (.int (3 : Int32)), .val (.int v70), .val (.int v71), .val (.int v72), .val (.int v72), .val (.int v73), .val (.ref b74), .unset, .unset, .unset, .unset, .unset] [(.int (p4 &&& (1 : Int32))), (.int (0 : Int32)), (.ref b74)])) t
      by_cases hq76 : (p4 &&& (1 : Int32)) = (0 : Int32)
      · refine XS.ifYes X74.here hx rfl (pc0 := 99) (pc' := 108) rfl (hb hby at_99) rfl (Jvm.Free.XT.i0_eq_t hq76) (by decide) (by decide) ?_
        show Steps p.tables e below (T74.setTop (mkF m 108 #[.val (.int p0), .val (.int p1), .val (.int p2), .val (.int p3), .val (.int p4), .val (.int (3 : Int32)), .val (.int v70), .val (.int v71), .val (.int v72), .val (.int v72), .val (.int v73), .val (.ref b74), .unset, .unset, .unset, .unset, .unset] [(.int (0 : Int32)), (.ref b74)])) t
        refine XS.iload X74.here hx rfl (hb hby at_108) rfl ?_
        show Steps p.tables e below (T74.setTop (mkF m 110 #[.val (.int p0), .val (.int p1), .val (.int p2), .val (.int p3), .val (.int p4), .val (.int (3 : Int32)), .val (.int v70), .val (.int v71), .val (.int v72), .val (.int v72), .val (.int v73), .val (.ref b74), .unset, .unset, .unset, .unset, .unset] [(.int v70), (.int (0 : Int32)), (.ref b74)])) t
        simp only [if_pos hq76] at k
        exact k
      · refine XS.ifNo X74.here hx rfl (hb hby at_99) rfl (Jvm.Free.XT.i0_eq_f hq76) ?_
        show Steps p.tables e below (T74.setTop (mkF m 102 #[.val (.int p0), .val (.int p1), .val (.int p2), .val (.int p3), .val (.int p4), .val (.int (3 : Int32)), .val (.int v70), .val (.int v71), .val (.int v72), .val (.int v72), .val (.int v73), .val (.ref b74), .unset, .unset, .unset, .unset, .unset] [(.int (0 : Int32)), (.ref b74)])) t
        refine XS.iload X74.here hx rfl (hb hby at_102) rfl ?_
        show Steps p.tables e below (T74.setTop (mkF m 104 #[.val (.int p0), .val (.int p1), .val (.int p2), .val (.int p3), .val (.int p4), .val (.int (3 : Int32)), .val (.int v70), .val (.int v71), .val (.int v72), .val (.int v72), .val (.int v73), .val (.ref b74), .unset, .unset, .unset, .unset, .unset] [(.int v70), (.int (0 : Int32)), (.ref b74)])) t
        refine XS.ineg X74.here hx rfl (hb hby at_104) rfl ?_
        show Steps p.tables e below (T74.setTop (mkF m 105 #[.val (.int p0), .val (.int p1), .val (.int p2), .val (.int p3), .val (.int p4), .val (.int (3 : Int32)), .val (.int v70), .val (.int v71), .val (.int v72), .val (.int v72), .val (.int v73), .val (.ref b74), .unset, .unset, .unset, .unset, .unset] [(.int (-v70)), (.int (0 : Int32)), (.ref b74)])) t
        refine XS.goto X74.here hx rfl (pc0 := 105) (pc' := 110) rfl (hb hby at_105) (by decide) (by decide) ?_
        show Steps p.tables e below (T74.setTop (mkF m 110 #[.val (.int p0), .val (.int p1), .val (.int p2), .val (.int p3), .val (.int p4), .val (.int (3 : Int32)), .val (.int v70), .val (.int v71), .val (.int v72), .val (.int v72), .val (.int v73), .val (.ref b74), .unset, .unset, .unset, .unset, .unset] [(.int (-v70)), (.int (0 : Int32)), (.ref b74)])) t
        simp only [if_neg hq76] at k
        exact k
    refine own_via st75 ?_
    show own_Go p e below s _ _ _ (T74.setTop (mkF m 110 #[.val (.int p0), .val (.int p1), .val (.int p2), .val (.int p3), .val (.int p4), .val (.int (3 : Int32)), .val (.int v70), .val (.int v71), .val (.int v72), .val (.int v72), .val (.int v73), .val (.ref b74), .unset, .unset, .unset, .unset, .unset] [(.int (if (p4 &&& (1 : Int32)) = (0 : Int32) then v70 else (-v70))), (.int (0 : Int32)), (.ref b74)]))
    obtain ⟨cl77, Ar77, q77, S77, M77, H77, G77⟩ := (id V74)
    have hin77 : ¬ ((0 : Int32) < 0 ∨ cl77.slots.size ≤ ((0 : Int32)).toNatClampNeg) := inb_of S77 ⟨by decide, by decide⟩
    obtain ⟨T77, h77, X77, e77, W77, st77⟩ := stI X74 hx hZ e74 Ar77 (j := (0 : Int32)) hin77 (g := (mkF m 110 #[.val (.int p0), .val (.int p1), .val (.int p2), .val (.int p3), .val (.int p4), .val (.int (3 : Int32)), .val (.int v70), .val (.int v71), .val (.int v72), .val (.int v72), .val (.int v73), .val (.ref b74), .unset, .unset, .unset, .unset, .unset] [(.int (if (p4 &&& (1 : Int32)) = (0 : Int32) then v70 else (-v70))), (.int (0 : Int32)), (.ref b74)])) rfl rfl (hb hby at_110)
    have V77 : Arv Z h77 b74 k74 .int (3 : Int32) [(.int (if (p4 &&& (1 : Int32)) = (0 : Int32) then v70 else (-v70))), (.int (0 : Int32)), (.int (0 : Int32))] (.int (0 : Int32)) := Arv.set Ar77 q77 S77 M77 H77 G77 rfl W77 0 rfl (Nat.le_of_ble_eq_true rfl)
    have N77 := Fr.snoc X77 N0 g_b74
    have Z77 : n0 ≤ h77.size := Nat.le_trans Z74 (Keep.of_wr W77).1
    refine own_via st77 ?_
    show own_Go p e below s _ _ _ (T77.setTop (mkF m 111 #[.val (.int p0), .val (.int p1), .val (.int p2), .val (.int p3), .val (.int p4), .val (.int (3 : Int32)), .val (.int v70), .val (.int v71), .val (.int v72), .val (.int v72), .val (.int v73), .val (.ref b74), .unset, .unset, .unset, .unset, .unset] []))
    refine own_via (fun _ k => XS.iload X77.here hx rfl (hb hby at_111) rfl k) ?_
    show own_Go p e below s _ _ _ (T77.setTop (mkF m 113 #[.val (.int p0), .val (.int p1), .val (.int p2), .val (.int p3), .val (.int p4), .val (.int (3 : Int32)), .val (.int v70), .val (.int v71), .val (.int v72), .val (.int v72), .val (.int v73), .val (.ref b74), .unset, .unset, .unset, .unset, .unset] [(.int (3 : Int32))]))
    refine own_via (fun _ k => XS.iconst X77.here hx rfl (hb hby at_113) k) ?_
    show own_Go p e below s _ _ _ (T77.setTop (mkF m 114 #[.val (.int p0), .val (.int p1), .val (.int p2), .val (.int p3), .val (.int p4), .val (.int (3 : Int32)), .val (.int v70), .val (.int v71), .val (.int v72), .val (.int v72), .val (.int v73), .val (.ref b74), .unset, .unset, .unset, .unset, .unset] [(.int (1 : Int32)), (.int (3 : Int32))]))
    refine own_via (fun _ k => XS.icmpNo X77.here hx rfl (hb hby at_114) rfl (Jvm.Free.XT.ii_le_f (by decide)) k) ?_
    show own_Go p e below s _ _ _ (T77.setTop (mkF m 117 #[.val (.int p0), .val (.int p1), .val (.int p2), .val (.int p3), .val (.int p4), .val (.int (3 : Int32)), .val (.int v70), .val (.int v71), .val (.int v72), .val (.int v72), .val (.int v73), .val (.ref b74), .unset, .unset, .unset, .unset, .unset] []))
    refine own_via (fun _ k => XS.aload X77.here hx rfl (hb hby at_117) rfl rfl k) ?_
    show own_Go p e below s _ _ _ (T77.setTop (mkF m 119 #[.val (.int p0), .val (.int p1), .val (.int p2), .val (.int p3), .val (.int p4), .val (.int (3 : Int32)), .val (.int v70), .val (.int v71), .val (.int v72), .val (.int v72), .val (.int v73), .val (.ref b74), .unset, .unset, .unset, .unset, .unset] [(.ref b74)]))
    refine own_via (fun _ k => XS.iconst X77.here hx rfl (hb hby at_119) k) ?_
    show own_Go p e below s _ _ _ (T77.setTop (mkF m 120 #[.val (.int p0), .val (.int p1), .val (.int p2), .val (.int p3), .val (.int p4), .val (.int (3 : Int32)), .val (.int v70), .val (.int v71), .val (.int v72), .val (.int v72), .val (.int v73), .val (.ref b74), .unset, .unset, .unset, .unset, .unset] [(.int (1 : Int32)), (.ref b74)]))
    have st78 : ∀ t, Steps p.tables e below (T77.setTop (mkF m 135 #[.val (.int p0), .val (.int p1), .val (.int p2), .val (.int p3), .val (.int p4), .val (.int (3 : Int32)), .val (.int v70), .val (.int v71), .val (.int v72), .val (.int v72), .val (.int v73), .val (.ref b74), .unset, .unset, .unset, .unset, .unset] [(.int (if (p4 &&& (2 : Int32)) = (0 : Int32) then v71 else (-v71))), (.int (1 : Int32)), (.ref b74)])) t → Steps p.tables e below (T77.setTop (mkF m 120 #[.val (.int p0), .val (.int p1), .val (.int p2), .val (.int p3), .val (.int p4), .val (.int (3 : Int32)), .val (.int v70), .val (.int v71), .val (.int v72), .val (.int v72), .val (.int v73), .val (.ref b74), .unset, .unset, .unset, .unset, .unset] [(.int (1 : Int32)), (.ref b74)])) t := by
      intro t k
      refine XS.iload X77.here hx rfl (hb hby at_120) rfl ?_
      show Steps p.tables e below (T77.setTop (mkF m 122 #[.val (.int p0), .val (.int p1), .val (.int p2), .val (.int p3), .val (.int p4), .val (.int (3 : Int32)), .val (.int v70), .val (.int v71), .val (.int v72), .val (.int v72), .val (.int v73), .val (.ref b74), .unset, .unset, .unset, .unset, .unset] [(.int p4), (.int (1 : Int32)), (.ref b74)])) t
      refine XS.iconst X77.here hx rfl (hb hby at_122) ?_
      show Steps p.tables e below (T77.setTop (mkF m 123 #[.val (.int p0), .val (.int p1), .val (.int p2), .val (.int p3), .val (.int p4), .val (.int (3 : Int32)), .val (.int v70), .val (.int v71), .val (.int v72), .val (.int v72), .val (.int v73), .val (.ref b74), .unset, .unset, .unset, .unset, .unset] [(.int (2 : Int32)), (.int p4), (.int (1 : Int32)), (.ref b74)])) t
      refine XS.iand X77.here hx rfl (hb hby at_123) rfl ?_
      show Steps p.tables e below (T77.setTop (mkF m 124 #[.val (.int p0), .val (.int p1), .val (.int p2), .val (.int p3), .val (.int p4), .val (.int (3 : Int32)), .val (.int v70), .val (.int v71), .val (.int v72), .val (.int v72), .val (.int v73), .val (.ref b74), .unset, .unset, .unset, .unset, .unset] [(.int (p4 &&& (2 : Int32))), (.int (1 : Int32)), (.ref b74)])) t
      by_cases hq79 : (p4 &&& (2 : Int32)) = (0 : Int32)
      · refine XS.ifYes X77.here hx rfl (pc0 := 124) (pc' := 133) rfl (hb hby at_124) rfl (Jvm.Free.XT.i0_eq_t hq79) (by decide) (by decide) ?_
        show Steps p.tables e below (T77.setTop (mkF m 133 #[.val (.int p0), .val (.int p1), .val (.int p2), .val (.int p3), .val (.int p4), .val (.int (3 : Int32)), .val (.int v70), .val (.int v71), .val (.int v72), .val (.int v72), .val (.int v73), .val (.ref b74), .unset, .unset, .unset, .unset, .unset] [(.int (1 : Int32)), (.ref b74)])) t
        refine XS.iload X77.here hx rfl (hb hby at_133) rfl ?_
        show Steps p.tables e below (T77.setTop (mkF m 135 #[.val (.int p0), .val (.int p1), .val (.int p2), .val (.int p3), .val (.int p4), .val (.int (3 : Int32)), .val (.int v70), .val (.int v71), .val (.int v72), .val (.int v72), .val (.int v73), .val (.ref b74), .unset, .unset, .unset, .unset, .unset] [(.int v71), (.int (1 : Int32)), (.ref b74)])) t
        simp only [if_pos hq79] at k
        exact k
      · refine XS.ifNo X77.here hx rfl (hb hby at_124) rfl (Jvm.Free.XT.i0_eq_f hq79) ?_
        show Steps p.tables e below (T77.setTop (mkF m 127 #[.val (.int p0), .val (.int p1), .val (.int p2), .val (.int p3), .val (.int p4), .val (.int (3 : Int32)), .val (.int v70), .val (.int v71), .val (.int v72), .val (.int v72), .val (.int v73), .val (.ref b74), .unset, .unset, .unset, .unset, .unset] [(.int (1 : Int32)), (.ref b74)])) t
        refine XS.iload X77.here hx rfl (hb hby at_127) rfl ?_
        show Steps p.tables e below (T77.setTop (mkF m 129 #[.val (.int p0), .val (.int p1), .val (.int p2), .val (.int p3), .val (.int p4), .val (.int (3 : Int32)), .val (.int v70), .val (.int v71), .val (.int v72), .val (.int v72), .val (.int v73), .val (.ref b74), .unset, .unset, .unset, .unset, .unset] [(.int v71), (.int (1 : Int32)), (.ref b74)])) t
        refine XS.ineg X77.here hx rfl (hb hby at_129) rfl ?_
        show Steps p.tables e below (T77.setTop (mkF m 130 #[.val (.int p0), .val (.int p1), .val (.int p2), .val (.int p3), .val (.int p4), .val (.int (3 : Int32)), .val (.int v70), .val (.int v71), .val (.int v72), .val (.int v72), .val (.int v73), .val (.ref b74), .unset, .unset, .unset, .unset, .unset] [(.int (-v71)), (.int (1 : Int32)), (.ref b74)])) t
        refine XS.goto X77.here hx rfl (pc0 := 130) (pc' := 135) rfl (hb hby at_130) (by decide) (by decide) ?_
        show Steps p.tables e below (T77.setTop (mkF m 135 #[.val (.int p0), .val (.int p1), .val (.int p2), .val (.int p3), .val (.int p4), .val (.int (3 : Int32)), .val (.int v70), .val (.int v71), .val (.int v72), .val (.int v72), .val (.int v73), .val (.ref b74), .unset, .unset, .unset, .unset, .unset] [(.int (-v71)), (.int (1 : Int32)), (.ref b74)])) t
        simp only [if_neg hq79] at k
        exact k
    refine own_via st78 ?_
    show own_Go p e below s _ _ _ (T77.setTop (mkF m 135 #[.val (.int p0), .val (.int p1), .val (.int p2), .val (.int p3), .val (.int p4), .val (.int (3 : Int32)), .val (.int v70), .val (.int v71), .val (.int v72), .val (.int v72), .val (.int v73), .val (.ref b74), .unset, .unset, .unset, .unset, .unset] [(.int (if (p4 &&& (2 : Int32)) = (0 : Int32) then v71 else (-v71))), (.int (1 : Int32)), (.ref b74)]))
    obtain ⟨cl80, Ar80, q80, S80, M80, H80, G80⟩ := (id V77)
    have hin80 : ¬ ((1 : Int32) < 0 ∨ cl80.slots.size ≤ ((1 : Int32)).toNatClampNeg) := inb_of S80 ⟨by decide, by decide⟩
    obtain ⟨T80, h80, X80, e80, W80, st80⟩ := stI X77 hx hZ e77 Ar80 (j := (1 : Int32)) hin80 (g := (mkF m 135 #[.val (.int p0), .val (.int p1), .val (.int p2), .val (.int p3), .val (.int p4), .val (.int (3 : Int32)), .val (.int v70), .val (.int v71), .val (.int v72), .val (.int v72), .val (.int v73), .val (.ref b74), .unset, .unset, .unset, .unset, .unset] [(.int (if (p4 &&& (2 : Int32)) = (0 : Int32) then v71 else (-v71))), (.int (1 : Int32)), (.ref b74)])) rfl rfl (hb hby at_135)
    have V80 : Arv Z h80 b74 k74 .int (3 : Int32) [(.int (if (p4 &&& (1 : Int32)) = (0 : Int32) then v70 else (-v70))), (.int (if (p4 &&& (2 : Int32)) = (0 : Int32) then v71 else (-v71))), (.int (0 : Int32))] (.int (0 : Int32)) := Arv.set Ar80 q80 S80 M80 H80 G80 rfl W80 1 rfl (Nat.le_of_ble_eq_true rfl)
    have N80 := Fr.snoc X80 N77 g_b74
    have Z80 : n0 ≤ h80.size := Nat.le_trans Z77 (Keep.of_wr W80).1
    refine own_via st80 ?_
    show own_Go p e below s _ _ _ (T80.setTop (mkF m 136 #[.val (.int p0), .val (.int p1), .val (.int p2), .val (.int p3), .val (.int p4), .val (.int (3 : Int32)), .val (.int v70), .val (.int v71), .val (.int v72), .val (.int v72), .val (.int v73), .val (.ref b74), .unset, .unset, .unset, .unset, .unset] []))
    refine own_via (fun _ k => XS.iload X80.here hx rfl (hb hby at_136) rfl k) ?_
    show own_Go p e below s _ _ _ (T80.setTop (mkF m 138 #[.val (.int p0), .val (.int p1), .val (.int p2), .val (.int p3), .val (.int p4), .val (.int (3 : Int32)), .val (.int v70), .val (.int v71), .val (.int v72), .val (.int v72), .val (.int v73), .val (.ref b74), .unset, .unset, .unset, .unset, .unset] [(.int (3 : Int32))]))
    refine own_via (fun _ k => XS.iconst X80.here hx rfl (hb hby at_138) k) ?_
    show own_Go p e below s _ _ _ (T80.setTop (mkF m 139 #[.val (.int p0), .val (.int p1), .val (.int p2), .val (.int p3), .val (.int p4), .val (.int (3 : Int32)), .val (.int v70), .val (.int v71), .val (.int v72), .val (.int v72), .val (.int v73), .val (.ref b74), .unset, .unset, .unset, .unset, .unset] [(.int (2 : Int32)), (.int (3 : Int32))]))
    refine own_via (fun _ k => XS.icmpNo X80.here hx rfl (hb hby at_139) rfl (Jvm.Free.XT.ii_le_f (by decide)) k) ?_
    show own_Go p e below s _ _ _ (T80.setTop (mkF m 142 #[.val (.int p0), .val (.int p1), .val (.int p2), .val (.int p3), .val (.int p4), .val (.int (3 : Int32)), .val (.int v70), .val (.int v71), .val (.int v72), .val (.int v72), .val (.int v73), .val (.ref b74), .unset, .unset, .unset, .unset, .unset] []))
    refine own_via (fun _ k => XS.aload X80.here hx rfl (hb hby at_142) rfl rfl k) ?_
    show own_Go p e below s _ _ _ (T80.setTop (mkF m 144 #[.val (.int p0), .val (.int p1), .val (.int p2), .val (.int p3), .val (.int p4), .val (.int (3 : Int32)), .val (.int v70), .val (.int v71), .val (.int v72), .val (.int v72), .val (.int v73), .val (.ref b74), .unset, .unset, .unset, .unset, .unset] [(.ref b74)]))
    refine own_via (fun _ k => XS.iconst X80.here hx rfl (hb hby at_144) k) ?_
    show own_Go p e below s _ _ _ (T80.setTop (mkF m 145 #[.val (.int p0), .val (.int p1), .val (.int p2), .val (.int p3), .val (.int p4), .val (.int (3 : Int32)), .val (.int v70), .val (.int v71), .val (.int v72), .val (.int v72), .val (.int v73), .val (.ref b74), .unset, .unset, .unset, .unset, .unset] [(.int (2 : Int32)), (.ref b74)]))
    have st81 : ∀ t, Steps p.tables e below (T80.setTop (mkF m 160 #[.val (.int p0), .val (.int p1), .val (.int p2), .val (.int p3), .val (.int p4), .val (.int (3 : Int32)), .val (.int v70), .val (.int v71), .val (.int v72), .val (.int v72), .val (.int v73), .val (.ref b74), .unset, .unset, .unset, .unset, .unset] [(.int (if (p4 &&& (4 : Int32)) = (0 : Int32) then v72 else (-v72))), (.int (2 : Int32)), (.ref b74)])) t → Steps p.tables e below (T80.setTop (mkF m 145 #[.val (.int p0), .val (.int p1), .val (.int p2), .val (.int p3), .val (.int p4), .val (.int (3 : Int32)), .val (.int v70), .val (.int v71), .val (.int v72), .val (.int v72), .val (.int v73), .val (.ref b74), .unset, .unset, .unset, .unset, .unset] [(.int (2 : Int32)), (.ref b74)])) t := by
      intro t k
      refine XS.iload X80.here hx rfl (hb hby at_145) rfl ?_
      show Steps p.tables e below (T80.setTop (mkF m 147 #[.val (.int p0), .val (.int p1), .val (.int p2), .val (.int p3), .val (.int p4), .val (.int (3 : Int32)), .val (.int v70), .val (.int v71), .val (.int v72), .val (.int v72), .val (.int v73), .val (.ref b74), .unset, .unset, .unset, .unset, .unset] [(.int p4), (.int (2 : Int32)), (.ref b74)])) t
      refine XS.iconst X80.here hx rfl (hb hby at_147) ?_
      show Steps p.tables e below (T80.setTop (mkF m 148 #[.val (.int p0), .val (.int p1), .val (.int p2), .val (.int p3), .val (.int p4), .val (.int (3 : Int32)), .val (.int v70), .val (.int v71), .val (.int v72), .val (.int v72), .val (.int v73), .val (.ref b74), .unset, .unset, .unset, .unset, .unset] [(.int (4 : Int32)), (.int p4), (.int (2 : Int32)), (.ref b74)])) t
      refine XS.iand X80.here hx rfl (hb hby at_148) rfl ?_
      show Steps p.tables e below (T80.setTop (mkF m 149 #[.val (.int p0), .val (.int p1), .val (.int p2), .val (.int p3), .val (.int p4), .val (.int (3 : Int32)), .val (.int v70), .val (.int v71), .val (.int v72), .val (.int v72), .val (.int v73), .val (.ref b74), .unset, .unset, .unset, .unset, .unset] [(.int (p4 &&& (4 : Int32))), (.int (2 : Int32)), (.ref b74)])) t
      by_cases hq82 : (p4 &&& (4 : Int32)) = (0 : Int32)
      · refine XS.ifYes X80.here hx rfl (pc0 := 149) (pc' := 158) rfl (hb hby at_149) rfl (Jvm.Free.XT.i0_eq_t hq82) (by decide) (by decide) ?_
        show Steps p.tables e below (T80.setTop (mkF m 158 #[.val (.int p0), .val (.int p1), .val (.int p2), .val (.int p3), .val (.int p4), .val (.int (3 : Int32)), .val (.int v70), .val (.int v71), .val (.int v72), .val (.int v72), .val (.int v73), .val (.ref b74), .unset, .unset, .unset, .unset, .unset] [(.int (2 : Int32)), (.ref b74)])) t
        refine XS.iload X80.here hx rfl (hb hby at_158) rfl ?_
        show Steps p.tables e below (T80.setTop (mkF m 160 #[.val (.int p0), .val (.int p1), .val (.int p2), .val (.int p3), .val (.int p4), .val (.int (3 : Int32)), .val (.int v70), .val (.int v71), .val (.int v72), .val (.int v72), .val (.int v73), .val (.ref b74), .unset, .unset, .unset, .unset, .unset] [(.int v72), (.int (2 : Int32)), (.ref b74)])) t
        simp only [if_pos hq82] at k
        exact k
      · refine XS.ifNo X80.here hx rfl (hb hby at_149) rfl (Jvm.Free.XT.i0_eq_f hq82) ?_
        show Steps p.tables e below (T80.setTop (mkF m 152 #[.val (.int p0), .val (.int p1), .val (.int p2), .val (.int p3), .val (.int p4), .val (.int (3 : Int32)), .val (.int v70), .val (.int v71), .val (.int v72), .val (.int v72), .val (.int v73), .val (.ref b74), .unset, .unset, .unset, .unset, .unset] [(.int (2 : Int32)), (.ref b74)])) t
        refine XS.iload X80.here hx rfl (hb hby at_152) rfl ?_
        show Steps p.tables e below (T80.setTop (mkF m 154 #[.val (.int p0), .val (.int p1), .val (.int p2), .val (.int p3), .val (.int p4), .val (.int (3 : Int32)), .val (.int v70), .val (.int v71), .val (.int v72), .val (.int v72), .val (.int v73), .val (.ref b74), .unset, .unset, .unset, .unset, .unset] [(.int v72), (.int (2 : Int32)), (.ref b74)])) t
        refine XS.ineg X80.here hx rfl (hb hby at_154) rfl ?_
        show Steps p.tables e below (T80.setTop (mkF m 155 #[.val (.int p0), .val (.int p1), .val (.int p2), .val (.int p3), .val (.int p4), .val (.int (3 : Int32)), .val (.int v70), .val (.int v71), .val (.int v72), .val (.int v72), .val (.int v73), .val (.ref b74), .unset, .unset, .unset, .unset, .unset] [(.int (-v72)), (.int (2 : Int32)), (.ref b74)])) t
        refine XS.goto X80.here hx rfl (pc0 := 155) (pc' := 160) rfl (hb hby at_155) (by decide) (by decide) ?_
        show Steps p.tables e below (T80.setTop (mkF m 160 #[.val (.int p0), .val (.int p1), .val (.int p2), .val (.int p3), .val (.int p4), .val (.int (3 : Int32)), .val (.int v70), .val (.int v71), .val (.int v72), .val (.int v72), .val (.int v73), .val (.ref b74), .unset, .unset, .unset, .unset, .unset] [(.int (-v72)), (.int (2 : Int32)), (.ref b74)])) t
        simp only [if_neg hq82] at k
        exact k
    refine own_via st81 ?_
    show own_Go p e below s _ _ _ (T80.setTop (mkF m 160 #[.val (.int p0), .val (.int p1), .val (.int p2), .val (.int p3), .val (.int p4), .val (.int (3 : Int32)), .val (.int v70), .val (.int v71), .val (.int v72), .val (.int v72), .val (.int v73), .val (.ref b74), .unset, .unset, .unset, .unset, .unset] [(.int (if (p4 &&& (4 : Int32)) = (0 : Int32) then v72 else (-v72))), (.int (2 : Int32)), (.ref b74)]))
    obtain ⟨cl83, Ar83, q83, S83, M83, H83, G83⟩ := (id V80)
    have hin83 : ¬ ((2 : Int32) < 0 ∨ cl83.slots.size ≤ ((2 : Int32)).toNatClampNeg) := inb_of S83 ⟨by decide, by decide⟩
    obtain ⟨T83, h83, X83, e83, W83, st83⟩ := stI X80 hx hZ e80 Ar83 (j := (2 : Int32)) hin83 (g := (mkF m 160 #[.val (.int p0), .val (.int p1), .val (.int p2), .val (.int p3), .val (.int p4), .val (.int (3 : Int32)), .val (.int v70), .val (.int v71), .val (.int v72), .val (.int v72), .val (.int v73), .val (.ref b74), .unset, .unset, .unset, .unset, .unset] [(.int (if (p4 &&& (4 : Int32)) = (0 : Int32) then v72 else (-v72))), (.int (2 : Int32)), (.ref b74)])) rfl rfl (hb hby at_160)
    have V83 : Arv Z h83 b74 k74 .int (3 : Int32) [(.int (if (p4 &&& (1 : Int32)) = (0 : Int32) then v70 else (-v70))), (.int (if (p4 &&& (2 : Int32)) = (0 : Int32) then v71 else (-v71))), (.int (if (p4 &&& (4 : Int32)) = (0 : Int32) then v72 else (-v72)))] (.int (0 : Int32)) := Arv.set Ar83 q83 S83 M83 H83 G83 rfl W83 2 rfl (Nat.le_of_ble_eq_true rfl)
    have N83 := Fr.snoc X83 N80 g_b74
    have Z83 : n0 ≤ h83.size := Nat.le_trans Z80 (Keep.of_wr W83).1
    refine own_via st83 ?_
    show own_Go p e below s _ _ _ (T83.setTop (mkF m 161 #[.val (.int p0), .val (.int p1), .val (.int p2), .val (.int p3), .val (.int p4), .val (.int (3 : Int32)), .val (.int v70), .val (.int v71), .val (.int v72), .val (.int v72), .val (.int v73), .val (.ref b74), .unset, .unset, .unset, .unset, .unset] []))
    refine own_via (fun _ k => XS.aload X83.here hx rfl (hb hby at_161) rfl rfl k) ?_
    show own_Go p e below s _ _ _ (T83.setTop (mkF m 163 #[.val (.int p0), .val (.int p1), .val (.int p2), .val (.int p3), .val (.int p4), .val (.int (3 : Int32)), .val (.int v70), .val (.int v71), .val (.int v72), .val (.int v72), .val (.int v73), .val (.ref b74), .unset, .unset, .unset, .unset, .unset] [(.ref b74)]))
    refine own_via (fun _ k => XS.iload X83.here hx rfl (hb hby at_163) rfl k) ?_
    show own_Go p e below s _ _ _ (T83.setTop (mkF m 165 #[.val (.int p0), .val (.int p1), .val (.int p2), .val (.int p3), .val (.int p4), .val (.int (3 : Int32)), .val (.int v70), .val (.int v71), .val (.int v72), .val (.int v72), .val (.int v73), .val (.ref b74), .unset, .unset, .unset, .unset, .unset] [(.int (3 : Int32)), (.ref b74)]))
    refine own_via (fun _ k => XS.iload X83.here hx rfl (hb hby at_165) rfl k) ?_
    show own_Go p e below s _ _ _ (T83.setTop (mkF m 167 #[.val (.int p0), .val (.int p1), .val (.int p2), .val (.int p3), .val (.int p4), .val (.int (3 : Int32)), .val (.int v70), .val (.int v71), .val (.int v72), .val (.int v72), .val (.int v73), .val (.ref b74), .unset, .unset, .unset, .unset, .unset] [(.int v73), (.int (3 : Int32)), (.ref b74)]))
    obtain ⟨_, _, ⟨T84, L84, k84, n84⟩, -, X84, ⟨Lc84, hQ84, l84, y84, z84⟩, st84⟩ := Jvm.LawKit.callS X83 hx (y := (⟨"com/example/unalike/unalike/engine/TSetsNextPinLaw", "rank", "([III)J"⟩ : MethodName)) hown (mvT hZ (hw _ (List.mem_of_getElem? (i := 2) rfl))) (mvT hZ (hw _ (List.mem_of_getElem? (i := 3) rfl))) (mvT hZ (hw _ (List.mem_of_getElem? (i := 4) rfl))) (mvT hZ (hw _ (List.mem_of_getElem? (i := 5) rfl))) (by decide) (backOf (W := 0) (rmr3 l Z a0 hw [] b74 (3 : Int32) v73 k74 (.int (0 : Int32)) (if (p4 &&& (1 : Int32)) = (0 : Int32) then v70 else (-v70)) (if (p4 &&& (2 : Int32)) = (0 : Int32) then v71 else (-v71)) (if (p4 &&& (4 : Int32)) = (0 : Int32) then v72 else (-v72)) h83 n0 Z83 V83 (by first | decide | (simp; done))) hZ (hw _ (List.mem_of_getElem? (i := 5) rfl)) (hw _ (List.mem_of_getElem? (i := 4) rfl)) (by decide) (by decide)) (g := (mkF m 167 #[.val (.int p0), .val (.int p1), .val (.int p2), .val (.int p3), .val (.int p4), .val (.int (3 : Int32)), .val (.int v70), .val (.int v71), .val (.int v72), .val (.int v72), .val (.int v73), .val (.ref b74), .unset, .unset, .unset, .unset, .unset] [(.int v73), (.int (3 : Int32)), (.ref b74)])) rfl (by rw [hml]; rfl) (argsL := [(.ref b74), (.int (3 : Int32)), (.int v73)]) (rest := []) (lenOf pd_3 rfl) rfl (by show 2 * 0 + _ ≤ _; exact Nat.le_of_eq rfl) (hb hby at_167) (fun _ _ => ⟨rfl, e83, (by decide : 1 + 0 ≤ _), (by decide : 3 + 0 ≤ _)⟩)
    dsimp only [Pt.U, Pt.locs, Pt.cells, Pt.slots] at X84 l84 y84 z84 st84 hQ84
    subst l84 y84 z84
    obtain ⟨rfl, N84q, e84⟩ := hQ84
    have N84 := Fr.app N83 N84q
    refine own_via st84 ?_
    show own_Go p e below s _ _ _ (T84.setTop (mkF m 170 #[.val (.int p0), .val (.int p1), .val (.int p2), .val (.int p3), .val (.int p4), .val (.int (3 : Int32)), .val (.int v70), .val (.int v71), .val (.int v72), .val (.int v72), .val (.int v73), .val (.ref b74), .unset, .unset, .unset, .unset, .unset] [(.long (own_rk3 (if (p4 &&& (1 : Int32)) = (0 : Int32) then v70 else (-v70)) (if (p4 &&& (2 : Int32)) = (0 : Int32) then v71 else (-v71)) (if (p4 &&& (4 : Int32)) = (0 : Int32) then v72 else (-v72)) v73))]))
    refine own_via (fun _ k => XS.lstore X84.here hx rfl (hb hby at_170) rfl (l' := #[.val (.int p0), .val (.int p1), .val (.int p2), .val (.int p3), .val (.int p4), .val (.int (3 : Int32)), .val (.int v70), .val (.int v71), .val (.int v72), .val (.int v72), .val (.int v73), .val (.ref b74), .val (.long (own_rk3 (if (p4 &&& (1 : Int32)) = (0 : Int32) then v70 else (-v70)) (if (p4 &&& (2 : Int32)) = (0 : Int32) then v71 else (-v71)) (if (p4 &&& (4 : Int32)) = (0 : Int32) then v72 else (-v72)) v73)), .second, .unset, .unset, .unset]) rfl k) ?_
    show own_Go p e below s _ _ _ (T84.setTop (mkF m 172 #[.val (.int p0), .val (.int p1), .val (.int p2), .val (.int p3), .val (.int p4), .val (.int (3 : Int32)), .val (.int v70), .val (.int v71), .val (.int v72), .val (.int v72), .val (.int v73), .val (.ref b74), .val (.long (own_rk3 (if (p4 &&& (1 : Int32)) = (0 : Int32) then v70 else (-v70)) (if (p4 &&& (2 : Int32)) = (0 : Int32) then v71 else (-v71)) (if (p4 &&& (4 : Int32)) = (0 : Int32) then v72 else (-v72)) v73)), .second, .unset, .unset, .unset] []))
    generalize hv85 : (own_rk3 (if (p4 &&& (1 : Int32)) = (0 : Int32) then v70 else (-v70)) (if (p4 &&& (2 : Int32)) = (0 : Int32) then v71 else (-v71)) (if (p4 &&& (4 : Int32)) = (0 : Int32) then v72 else (-v72)) v73) = v85
    show own_Go p e below s _ _ _ (T84.setTop (mkF m 172 #[.val (.int p0), .val (.int p1), .val (.int p2), .val (.int p3), .val (.int p4), .val (.int (3 : Int32)), .val (.int v70), .val (.int v71), .val (.int v72), .val (.int v72), .val (.int v73), .val (.ref b74), .val (.long v85), .second, .unset, .unset, .unset] []))
    refine own_via (fun _ k => XS.iload X84.here hx rfl (hb hby at_172) rfl k) ?_
    show own_Go p e below s _ _ _ (T84.setTop (mkF m 174 #[.val (.int p0), .val (.int p1), .val (.int p2), .val (.int p3), .val (.int p4), .val (.int (3 : Int32)), .val (.int v70), .val (.int v71), .val (.int v72), .val (.int v72), .val (.int v73), .val (.ref b74), .val (.long v85), .second, .unset, .unset, .unset] [(.int v73)]))
    refine own_via (fun _ k => XS.i2l X84.here hx rfl (hb hby at_174) rfl k) ?_
    show own_Go p e below s _ _ _ (T84.setTop (mkF m 175 #[.val (.int p0), .val (.int p1), .val (.int p2), .val (.int p3), .val (.int p4), .val (.int (3 : Int32)), .val (.int v70), .val (.int v71), .val (.int v72), .val (.int v72), .val (.int v73), .val (.ref b74), .val (.long v85), .second, .unset, .unset, .unset] [(.long (o_i2l v73))]))
    refine own_via (fun _ k => XS.iload X84.here hx rfl (hb hby at_175) rfl k) ?_
    show own_Go p e below s _ _ _ (T84.setTop (mkF m 177 #[.val (.int p0), .val (.int p1), .val (.int p2), .val (.int p3), .val (.int p4), .val (.int (3 : Int32)), .val (.int v70), .val (.int v71), .val (.int v72), .val (.int v72), .val (.int v73), .val (.ref b74), .val (.long v85), .second, .unset, .unset, .unset] [(.int (3 : Int32)), (.long (o_i2l v73))]))
    obtain ⟨_, _, ⟨T86, L86, k86, n86⟩, -, X86, ⟨Lc86, hQ86, l86, y86, z86⟩, st86⟩ := Jvm.LawKit.callS X84 hx (y := (⟨"com/example/unalike/unalike/engine/TSetsNextPinLaw", "choose", "(JI)J"⟩ : MethodName)) hown (mvT hZ (hw _ (List.mem_of_getElem? (i := 6) rfl))) (mvT hZ (hw _ (List.mem_of_getElem? (i := 7) rfl))) (mvT hZ (hw _ (List.mem_of_getElem? (i := 4) rfl))) (mvT hZ (hw _ (List.mem_of_getElem? (i := 8) rfl))) (by decide) (backOf (W := 0) (rm2 l Z a0 hw [] (o_i2l v73) (3 : Int32) h83 n0 Z83 ) hZ (hw _ (List.mem_of_getElem? (i := 8) rfl)) (hw _ (List.mem_of_getElem? (i := 4) rfl)) (by decide) (by decide)) (g := (mkF m 177 #[.val (.int p0), .val (.int p1), .val (.int p2), .val (.int p3), .val (.int p4), .val (.int (3 : Int32)), .val (.int v70), .val (.int v71), .val (.int v72), .val (.int v72), .val (.int v73), .val (.ref b74), .val (.long v85), .second, .unset, .unset, .unset] [(.int (3 : Int32)), (.long (o_i2l v73))])) rfl (by rw [hml]; rfl) (argsL := [(.long (o_i2l v73)), (.int (3 : Int32))]) (rest := []) (lenOf pd_1 rfl) rfl (by show 2 * 0 + _ ≤ _; exact Nat.le_of_eq rfl) (hb hby at_177) (fun _ _ => ⟨rfl, e84, (by decide : 1 + 0 ≤ _), (by decide : 3 + 0 ≤ _)⟩)
    dsimp only [Pt.U, Pt.locs, Pt.cells, Pt.slots] at X86 l86 y86 z86 st86 hQ86
    subst l86 y86 z86
    obtain ⟨rfl, N86q, e86⟩ := hQ86
    have N86 := Fr.app N84 N86q
    refine own_via st86 ?_
    show own_Go p e below s _ _ _ (T86.setTop (mkF m 180 #[.val (.int p0), .val (.int p1), .val (.int p2), .val (.int p3), .val (.int p4), .val (.int (3 : Int32)), .val (.int v70), .val (.int v71), .val (.int v72), .val (.int v72), .val (.int v73), .val (.ref b74), .val (.long v85), .second, .unset, .unset, .unset] [(.long (own_ch (o_i2l v73) (3 : Int32)))]))
    refine own_via (fun _ k => XS.iload X86.here hx rfl (hb hby at_180) rfl k) ?_
    show own_Go p e below s _ _ _ (T86.setTop (mkF m 182 #[.val (.int p0), .val (.int p1), .val (.int p2), .val (.int p3), .val (.int p4), .val (.int (3 : Int32)), .val (.int v70), .val (.int v71), .val (.int v72), .val (.int v72), .val (.int v73), .val (.ref b74), .val (.long v85), .second, .unset, .unset, .unset] [(.int (3 : Int32)), (.long (own_ch (o_i2l v73) (3 : Int32)))]))
    refine own_via (fun _ k => XS.lshl X86.here hx rfl (hb hby at_182) rfl k) ?_
    show own_Go p e below s _ _ _ (T86.setTop (mkF m 183 #[.val (.int p0), .val (.int p1), .val (.int p2), .val (.int p3), .val (.int p4), .val (.int (3 : Int32)), .val (.int v70), .val (.int v71), .val (.int v72), .val (.int v72), .val (.int v73), .val (.ref b74), .val (.long v85), .second, .unset, .unset, .unset] [(.long (o_lshl (own_ch (o_i2l v73) (3 : Int32)) (3 : Int32)))]))
    refine own_via (fun _ k => XS.lstore X86.here hx rfl (hb hby at_183) rfl (l' := #[.val (.int p0), .val (.int p1), .val (.int p2), .val (.int p3), .val (.int p4), .val (.int (3 : Int32)), .val (.int v70), .val (.int v71), .val (.int v72), .val (.int v72), .val (.int v73), .val (.ref b74), .val (.long v85), .second, .val (.long (o_lshl (own_ch (o_i2l v73) (3 : Int32)) (3 : Int32))), .second, .unset]) rfl k) ?_
    show own_Go p e below s _ _ _ (T86.setTop (mkF m 185 #[.val (.int p0), .val (.int p1), .val (.int p2), .val (.int p3), .val (.int p4), .val (.int (3 : Int32)), .val (.int v70), .val (.int v71), .val (.int v72), .val (.int v72), .val (.int v73), .val (.ref b74), .val (.long v85), .second, .val (.long (o_lshl (own_ch (o_i2l v73) (3 : Int32)) (3 : Int32))), .second, .unset] []))
    generalize hv87 : (o_lshl (own_ch (o_i2l v73) (3 : Int32)) (3 : Int32)) = v87
    show own_Go p e below s _ _ _ (T86.setTop (mkF m 185 #[.val (.int p0), .val (.int p1), .val (.int p2), .val (.int p3), .val (.int p4), .val (.int (3 : Int32)), .val (.int v70), .val (.int v71), .val (.int v72), .val (.int v72), .val (.int v73), .val (.ref b74), .val (.long v85), .second, .val (.long v87), .second, .unset] []))
    refine own_via (fun _ k => XS.aload X86.here hx rfl (hb hby at_185) rfl rfl k) ?_
    show own_Go p e below s _ _ _ (T86.setTop (mkF m 187 #[.val (.int p0), .val (.int p1), .val (.int p2), .val (.int p3), .val (.int p4), .val (.int (3 : Int32)), .val (.int v70), .val (.int v71), .val (.int v72), .val (.int v72), .val (.int v73), .val (.ref b74), .val (.long v85), .second, .val (.long v87), .second, .unset] [(.ref b74)]))
    refine own_via (fun _ k => XS.iload X86.here hx rfl (hb hby at_187) rfl k) ?_
    show own_Go p e below s _ _ _ (T86.setTop (mkF m 189 #[.val (.int p0), .val (.int p1), .val (.int p2), .val (.int p3), .val (.int p4), .val (.int (3 : Int32)), .val (.int v70), .val (.int v71), .val (.int v72), .val (.int v72), .val (.int v73), .val (.ref b74), .val (.long v85), .second, .val (.long v87), .second, .unset] [(.int v73), (.ref b74)]))
    obtain ⟨_, _, ⟨T88, L88, k88, n88⟩, -, X88, ⟨Lc88, hQ88, l88, y88, z88⟩, st88⟩ := Jvm.LawKit.callS X86 hx (y := (⟨"com/example/unalike/unalike/engine/TSets", "next", "([II)Z"⟩ : MethodName)) hown (mvT hZ (hw _ (List.mem_of_getElem? (i := 9) rfl))) (mvT hZ (hw _ (List.mem_of_getElem? (i := 10) rfl))) (mvT hZ (hw _ (List.mem_of_getElem? (i := 11) rfl))) (mvT hZ (hw _ (List.mem_of_getElem? (i := 12) rfl))) (by decide) (backOf (W := 0) (rmn3 l Z a0 hw [] b74 v73 k74 (.int (0 : Int32)) (if (p4 &&& (1 : Int32)) = (0 : Int32) then v70 else (-v70)) (if (p4 &&& (2 : Int32)) = (0 : Int32) then v71 else (-v71)) (if (p4 &&& (4 : Int32)) = (0 : Int32) then v72 else (-v72)) h83 n0 Z83 V83 g_b74) hZ (hw _ (List.mem_of_getElem? (i := 12) rfl)) (hw _ (List.mem_of_getElem? (i := 11) rfl)) (by decide) (by decide)) (g := (mkF m 189 #[.val (.int p0), .val (.int p1), .val (.int p2), .val (.int p3), .val (.int p4), .val (.int (3 : Int32)), .val (.int v70), .val (.int v71), .val (.int v72), .val (.int v72), .val (.int v73), .val (.ref b74), .val (.long v85), .second, .val (.long v87), .second, .unset] [(.int v73), (.ref b74)])) rfl (by rw [hml]; rfl) (argsL := [(.ref b74), (.int v73)]) (rest := []) (lenOf pd_4 rfl) rfl (by show 2 * 0 + _ ≤ _; exact Nat.le_of_eq rfl) (hb hby at_189) (fun _ _ => ⟨rfl, e86, (by decide : 1 + 0 ≤ _), (by decide : 3 + 0 ≤ _)⟩)
    dsimp only [Pt.U, Pt.locs, Pt.cells, Pt.slots] at X88 l88 y88 z88 st88 hQ88
    subst l88 y88 z88
    obtain ⟨h88, e88⟩ : ∃ h, T88.heap = h := ⟨_, rfl⟩
    rw [e88] at hQ88
    obtain ⟨rfl, N88q, Kq88, F89⟩ := hQ88
    have Z88 : n0 ≤ h88.size := Nat.le_trans Z83 Kq88.1
    have N88 := Fr.app N86 N88q
    refine own_via st88 ?_
    show own_Go p e below s _ _ _ (T88.setTop (mkF m 192 #[.val (.int p0), .val (.int p1), .val (.int p2), .val (.int p3), .val (.int p4), .val (.int (3 : Int32)), .val (.int v70), .val (.int v71), .val (.int v72), .val (.int v72), .val (.int v73), .val (.ref b74), .val (.long v85), .second, .val (.long v87), .second, .unset] [(.int (own_nr3 (if (p4 &&& (1 : Int32)) = (0 : Int32) then v70 else (-v70)) (if (p4 &&& (2 : Int32)) = (0 : Int32) then v71 else (-v71)) (if (p4 &&& (4 : Int32)) = (0 : Int32) then v72 else (-v72)) v73))]))
    refine own_via (fun _ k => XS.istore X88.here hx rfl (hb hby at_192) rfl (l' := #[.val (.int p0), .val (.int p1), .val (.int p2), .val (.int p3), .val (.int p4), .val (.int (3 : Int32)), .val (.int v70), .val (.int v71), .val (.int v72), .val (.int v72), .val (.int v73), .val (.ref b74), .val (.long v85), .second, .val (.long v87), .second, .val (.int (own_nr3 (if (p4 &&& (1 : Int32)) = (0 : Int32) then v70 else (-v70)) (if (p4 &&& (2 : Int32)) = (0 : Int32) then v71 else (-v71)) (if (p4 &&& (4 : Int32)) = (0 : Int32) then v72 else (-v72)) v73))]) rfl k) ?_
    show own_Go p e below s _ _ _ (T88.setTop (mkF m 194 #[.val (.int p0), .val (.int p1), .val (.int p2), .val (.int p3), .val (.int p4), .val (.int (3 : Int32)), .val (.int v70), .val (.int v71), .val (.int v72), .val (.int v72), .val (.int v73), .val (.ref b74), .val (.long v85), .second, .val (.long v87), .second, .val (.int (own_nr3 (if (p4 &&& (1 : Int32)) = (0 : Int32) then v70 else (-v70)) (if (p4 &&& (2 : Int32)) = (0 : Int32) then v71 else (-v71)) (if (p4 &&& (4 : Int32)) = (0 : Int32) then v72 else (-v72)) v73))] []))
    generalize hv90 : (own_nr3 (if (p4 &&& (1 : Int32)) = (0 : Int32) then v70 else (-v70)) (if (p4 &&& (2 : Int32)) = (0 : Int32) then v71 else (-v71)) (if (p4 &&& (4 : Int32)) = (0 : Int32) then v72 else (-v72)) v73) = v90
    show own_Go p e below s _ _ _ (T88.setTop (mkF m 194 #[.val (.int p0), .val (.int p1), .val (.int p2), .val (.int p3), .val (.int p4), .val (.int (3 : Int32)), .val (.int v70), .val (.int v71), .val (.int v72), .val (.int v72), .val (.int v73), .val (.ref b74), .val (.long v85), .second, .val (.long v87), .second, .val (.int v90)] []))
    refine own_via (fun _ k => XS.lload X88.here hx rfl (hb hby at_194) rfl k) ?_
    show own_Go p e below s _ _ _ (T88.setTop (mkF m 196 #[.val (.int p0), .val (.int p1), .val (.int p2), .val (.int p3), .val (.int p4), .val (.int (3 : Int32)), .val (.int v70), .val (.int v71), .val (.int v72), .val (.int v72), .val (.int v73), .val (.ref b74), .val (.long v85), .second, .val (.long v87), .second, .val (.int v90)] [(.long v85)]))
    refine own_via (fun _ k => XS.lconst X88.here hx rfl (hb hby at_196) k) ?_
    show own_Go p e below s _ _ _ (T88.setTop (mkF m 197 #[.val (.int p0), .val (.int p1), .val (.int p2), .val (.int p3), .val (.int p4), .val (.int (3 : Int32)), .val (.int v70), .val (.int v71), .val (.int v72), .val (.int v72), .val (.int v73), .val (.ref b74), .val (.long v85), .second, .val (.long v87), .second, .val (.int v90)] [(.long (1 : Int64)), (.long v85)]))
    refine own_via (fun _ k => XS.ladd X88.here hx rfl (hb hby at_197) rfl k) ?_
    show own_Go p e below s _ _ _ (T88.setTop (mkF m 198 #[.val (.int p0), .val (.int p1), .val (.int p2), .val (.int p3), .val (.int p4), .val (.int (3 : Int32)), .val (.int v70), .val (.int v71), .val (.int v72), .val (.int v72), .val (.int v73), .val (.ref b74), .val (.long v85), .second, .val (.long v87), .second, .val (.int v90)] [(.long (v85 + (1 : Int64)))]))
    refine own_via (fun _ k => XS.lload X88.here hx rfl (hb hby at_198) rfl k) ?_
    show own_Go p e below s _ _ _ (T88.setTop (mkF m 200 #[.val (.int p0), .val (.int p1), .val (.int p2), .val (.int p3), .val (.int p4), .val (.int (3 : Int32)), .val (.int v70), .val (.int v71), .val (.int v72), .val (.int v72), .val (.int v73), .val (.ref b74), .val (.long v85), .second, .val (.long v87), .second, .val (.int v90)] [(.long v87), (.long (v85 + (1 : Int64)))]))
    refine own_via (fun _ k => XS.lcmp X88.here hx rfl (hb hby at_200) rfl k) ?_
    show own_Go p e below s _ _ _ (T88.setTop (mkF m 201 #[.val (.int p0), .val (.int p1), .val (.int p2), .val (.int p3), .val (.int p4), .val (.int (3 : Int32)), .val (.int v70), .val (.int v71), .val (.int v72), .val (.int v72), .val (.int v73), .val (.ref b74), .val (.long v85), .second, .val (.long v87), .second, .val (.int v90)] [(.int (lcmpW (v85 + (1 : Int64)) v87))]))
    by_cases hc91 : (v85 + (1 : Int64)) < v87
    · refine own_via (fun _ k => XS.ifNo X88.here hx rfl (hb hby at_201) rfl (Jvm.Free.XT.ll_ge_f hc91) k) ?_
      show own_Go p e below s _ _ _ (T88.setTop (mkF m 204 #[.val (.int p0), .val (.int p1), .val (.int p2), .val (.int p3), .val (.int p4), .val (.int (3 : Int32)), .val (.int v70), .val (.int v71), .val (.int v72), .val (.int v72), .val (.int v73), .val (.ref b74), .val (.long v85), .second, .val (.long v87), .second, .val (.int v90)] []))
      refine own_via (fun _ k => XS.iload X88.here hx rfl (hb hby at_204) rfl k) ?_
      show own_Go p e below s _ _ _ (T88.setTop (mkF m 206 #[.val (.int p0), .val (.int p1), .val (.int p2), .val (.int p3), .val (.int p4), .val (.int (3 : Int32)), .val (.int v70), .val (.int v71), .val (.int v72), .val (.int v72), .val (.int v73), .val (.ref b74), .val (.long v85), .second, .val (.long v87), .second, .val (.int v90)] [(.int v90)]))
      have hc92 : ¬ (v90 = (0 : Int32)) := ((own_law3 (p2 := p2) hv70 hv71 hv72 hv73 hv85 hv87 hv90).1 hc91).1
      refine own_via (fun _ k => XS.ifNo X88.here hx rfl (hb hby at_206) rfl (Jvm.Free.XT.i0_eq_f hc92) k) ?_
      show own_Go p e below s _ _ _ (T88.setTop (mkF m 209 #[.val (.int p0), .val (.int p1), .val (.int p2), .val (.int p3), .val (.int p4), .val (.int (3 : Int32)), .val (.int v70), .val (.int v71), .val (.int v72), .val (.int v72), .val (.int v73), .val (.ref b74), .val (.long v85), .second, .val (.long v87), .second, .val (.int v90)] []))
      refine own_via (fun _ k => XS.aload X88.here hx rfl (hb hby at_209) rfl rfl k) ?_
      show own_Go p e below s _ _ _ (T88.setTop (mkF m 211 #[.val (.int p0), .val (.int p1), .val (.int p2), .val (.int p3), .val (.int p4), .val (.int (3 : Int32)), .val (.int v70), .val (.int v71), .val (.int v72), .val (.int v72), .val (.int v73), .val (.ref b74), .val (.long v85), .second, .val (.long v87), .second, .val (.int v90)] [(.ref b74)]))
      refine own_via (fun _ k => XS.iload X88.here hx rfl (hb hby at_211) rfl k) ?_
      show own_Go p e below s _ _ _ (T88.setTop (mkF m 213 #[.val (.int p0), .val (.int p1), .val (.int p2), .val (.int p3), .val (.int p4), .val (.int (3 : Int32)), .val (.int v70), .val (.int v71), .val (.int v72), .val (.int v72), .val (.int v73), .val (.ref b74), .val (.long v85), .second, .val (.long v87), .second, .val (.int v90)] [(.int (3 : Int32)), (.ref b74)]))
      refine own_via (fun _ k => XS.iload X88.here hx rfl (hb hby at_213) rfl k) ?_
      show own_Go p e below s _ _ _ (T88.setTop (mkF m 215 #[.val (.int p0), .val (.int p1), .val (.int p2), .val (.int p3), .val (.int p4), .val (.int (3 : Int32)), .val (.int v70), .val (.int v71), .val (.int v72), .val (.int v72), .val (.int v73), .val (.ref b74), .val (.long v85), .second, .val (.long v87), .second, .val (.int v90)] [(.int v73), (.int (3 : Int32)), (.ref b74)]))
      obtain ⟨_, _, ⟨T93, L93, k93, n93⟩, -, X93, ⟨Lc93, hQ93, l93, y93, z93⟩, st93⟩ := Jvm.LawKit.callS X88 hx (y := (⟨"com/example/unalike/unalike/engine/TSetsNextPinLaw", "valid", "([III)Z"⟩ : MethodName)) hown (mvT hZ (hw _ (List.mem_of_getElem? (i := 18) rfl))) (mvT hZ (hw _ (List.mem_of_getElem? (i := 19) rfl))) (mvT hZ (hw _ (List.mem_of_getElem? (i := 4) rfl))) (mvT hZ (hw _ (List.mem_of_getElem? (i := 20) rfl))) (by decide) (backOf (W := 0) (rmv3 l Z a0 hw [] b74 (3 : Int32) v73 k74 (.int (0 : Int32)) (own_nx3_0 (if (p4 &&& (1 : Int32)) = (0 : Int32) then v70 else (-v70)) (if (p4 &&& (2 : Int32)) = (0 : Int32) then v71 else (-v71)) (if (p4 &&& (4 : Int32)) = (0 : Int32) then v72 else (-v72)) v73) (own_nx3_1 (if (p4 &&& (1 : Int32)) = (0 : Int32) then v70 else (-v70)) (if (p4 &&& (2 : Int32)) = (0 : Int32) then v71 else (-v71)) (if (p4 &&& (4 : Int32)) = (0 : Int32) then v72 else (-v72)) v73) (own_nx3_2 (if (p4 &&& (1 : Int32)) = (0 : Int32) then v70 else (-v70)) (if (p4 &&& (2 : Int32)) = (0 : Int32) then v71 else (-v71)) (if (p4 &&& (4 : Int32)) = (0 : Int32) then v72 else (-v72)) v73) h88 n0 Z88 F89 (by first | decide | (simp; done))) hZ (hw _ (List.mem_of_getElem? (i := 20) rfl)) (hw _ (List.mem_of_getElem? (i := 4) rfl)) (by decide) (by decide)) (g := (mkF m 215 #[.val (.int p0), .val (.int p1), .val (.int p2), .val (.int p3), .val (.int p4), .val (.int (3 : Int32)), .val (.int v70), .val (.int v71), .val (.int v72), .val (.int v72), .val (.int v73), .val (.ref b74), .val (.long v85), .second, .val (.long v87), .second, .val (.int v90)] [(.int v73), (.int (3 : Int32)), (.ref b74)])) rfl (by rw [hml]; rfl) (argsL := [(.ref b74), (.int (3 : Int32)), (.int v73)]) (rest := []) (lenOf pd_5 rfl) rfl (by show 2 * 0 + _ ≤ _; exact Nat.le_of_eq rfl) (hb hby at_215) (fun _ _ => ⟨rfl, e88, (by decide : 1 + 0 ≤ _), (by decide : 3 + 0 ≤ _)⟩)
      dsimp only [Pt.U, Pt.locs, Pt.cells, Pt.slots] at X93 l93 y93 z93 st93 hQ93
      subst l93 y93 z93
      obtain ⟨rfl, N93q, e93⟩ := hQ93
      have N93 := Fr.app N88 N93q
      refine own_via st93 ?_
      show own_Go p e below s _ _ _ (T93.setTop (mkF m 218 #[.val (.int p0), .val (.int p1), .val (.int p2), .val (.int p3), .val (.int p4), .val (.int (3 : Int32)), .val (.int v70), .val (.int v71), .val (.int v72), .val (.int v72), .val (.int v73), .val (.ref b74), .val (.long v85), .second, .val (.long v87), .second, .val (.int v90)] [(.int (own_va3 (own_nx3_0 (if (p4 &&& (1 : Int32)) = (0 : Int32) then v70 else (-v70)) (if (p4 &&& (2 : Int32)) = (0 : Int32) then v71 else (-v71)) (if (p4 &&& (4 : Int32)) = (0 : Int32) then v72 else (-v72)) v73) (own_nx3_1 (if (p4 &&& (1 : Int32)) = (0 : Int32) then v70 else (-v70)) (if (p4 &&& (2 : Int32)) = (0 : Int32) then v71 else (-v71)) (if (p4 &&& (4 : Int32)) = (0 : Int32) then v72 else (-v72)) v73) (own_nx3_2 (if (p4 &&& (1 : Int32)) = (0 : Int32) then v70 else (-v70)) (if (p4 &&& (2 : Int32)) = (0 : Int32) then v71 else (-v71)) (if (p4 &&& (4 : Int32)) = (0 : Int32) then v72 else (-v72)) v73) v73))]))
      have hc94 : ¬ ((own_va3 (own_nx3_0 (if (p4 &&& (1 : Int32)) = (0 : Int32) then v70 else (-v70)) (if (p4 &&& (2 : Int32)) = (0 : Int32) then v71 else (-v71)) (if (p4 &&& (4 : Int32)) = (0 : Int32) then v72 else (-v72)) v73) (own_nx3_1 (if (p4 &&& (1 : Int32)) = (0 : Int32) then v70 else (-v70)) (if (p4 &&& (2 : Int32)) = (0 : Int32) then v71 else (-v71)) (if (p4 &&& (4 : Int32)) = (0 : Int32) then v72 else (-v72)) v73) (own_nx3_2 (if (p4 &&& (1 : Int32)) = (0 : Int32) then v70 else (-v70)) (if (p4 &&& (2 : Int32)) = (0 : Int32) then v71 else (-v71)) (if (p4 &&& (4 : Int32)) = (0 : Int32) then v72 else (-v72)) v73) v73) = (0 : Int32)) := ((own_law3 (p2 := p2) hv70 hv71 hv72 hv73 hv85 hv87 hv90).1 hc91).2.1
      refine own_via (fun _ k => XS.ifNo X93.here hx rfl (hb hby at_218) rfl (Jvm.Free.XT.i0_eq_f hc94) k) ?_
      show own_Go p e below s _ _ _ (T93.setTop (mkF m 221 #[.val (.int p0), .val (.int p1), .val (.int p2), .val (.int p3), .val (.int p4), .val (.int (3 : Int32)), .val (.int v70), .val (.int v71), .val (.int v72), .val (.int v72), .val (.int v73), .val (.ref b74), .val (.long v85), .second, .val (.long v87), .second, .val (.int v90)] []))
      refine own_via (fun _ k => XS.aload X93.here hx rfl (hb hby at_221) rfl rfl k) ?_
      show own_Go p e below s _ _ _ (T93.setTop (mkF m 223 #[.val (.int p0), .val (.int p1), .val (.int p2), .val (.int p3), .val (.int p4), .val (.int (3 : Int32)), .val (.int v70), .val (.int v71), .val (.int v72), .val (.int v72), .val (.int v73), .val (.ref b74), .val (.long v85), .second, .val (.long v87), .second, .val (.int v90)] [(.ref b74)]))
      refine own_via (fun _ k => XS.iload X93.here hx rfl (hb hby at_223) rfl k) ?_
      show own_Go p e below s _ _ _ (T93.setTop (mkF m 225 #[.val (.int p0), .val (.int p1), .val (.int p2), .val (.int p3), .val (.int p4), .val (.int (3 : Int32)), .val (.int v70), .val (.int v71), .val (.int v72), .val (.int v72), .val (.int v73), .val (.ref b74), .val (.long v85), .second, .val (.long v87), .second, .val (.int v90)] [(.int (3 : Int32)), (.ref b74)]))
      refine own_via (fun _ k => XS.iload X93.here hx rfl (hb hby at_225) rfl k) ?_
      show own_Go p e below s _ _ _ (T93.setTop (mkF m 227 #[.val (.int p0), .val (.int p1), .val (.int p2), .val (.int p3), .val (.int p4), .val (.int (3 : Int32)), .val (.int v70), .val (.int v71), .val (.int v72), .val (.int v72), .val (.int v73), .val (.ref b74), .val (.long v85), .second, .val (.long v87), .second, .val (.int v90)] [(.int v73), (.int (3 : Int32)), (.ref b74)]))
      obtain ⟨_, _, ⟨T95, L95, k95, n95⟩, -, X95, ⟨Lc95, hQ95, l95, y95, z95⟩, st95⟩ := Jvm.LawKit.callS X93 hx (y := (⟨"com/example/unalike/unalike/engine/TSetsNextPinLaw", "rank", "([III)J"⟩ : MethodName)) hown (mvT hZ (hw _ (List.mem_of_getElem? (i := 2) rfl))) (mvT hZ (hw _ (List.mem_of_getElem? (i := 3) rfl))) (mvT hZ (hw _ (List.mem_of_getElem? (i := 4) rfl))) (mvT hZ (hw _ (List.mem_of_getElem? (i := 5) rfl))) (by decide) (backOf (W := 0) (rmr3 l Z a0 hw [] b74 (3 : Int32) v73 k74 (.int (0 : Int32)) (own_nx3_0 (if (p4 &&& (1 : Int32)) = (0 : Int32) then v70 else (-v70)) (if (p4 &&& (2 : Int32)) = (0 : Int32) then v71 else (-v71)) (if (p4 &&& (4 : Int32)) = (0 : Int32) then v72 else (-v72)) v73) (own_nx3_1 (if (p4 &&& (1 : Int32)) = (0 : Int32) then v70 else (-v70)) (if (p4 &&& (2 : Int32)) = (0 : Int32) then v71 else (-v71)) (if (p4 &&& (4 : Int32)) = (0 : Int32) then v72 else (-v72)) v73) (own_nx3_2 (if (p4 &&& (1 : Int32)) = (0 : Int32) then v70 else (-v70)) (if (p4 &&& (2 : Int32)) = (0 : Int32) then v71 else (-v71)) (if (p4 &&& (4 : Int32)) = (0 : Int32) then v72 else (-v72)) v73) h88 n0 Z88 F89 (by first | decide | (simp; done))) hZ (hw _ (List.mem_of_getElem? (i := 5) rfl)) (hw _ (List.mem_of_getElem? (i := 4) rfl)) (by decide) (by decide)) (g := (mkF m 227 #[.val (.int p0), .val (.int p1), .val (.int p2), .val (.int p3), .val (.int p4), .val (.int (3 : Int32)), .val (.int v70), .val (.int v71), .val (.int v72), .val (.int v72), .val (.int v73), .val (.ref b74), .val (.long v85), .second, .val (.long v87), .second, .val (.int v90)] [(.int v73), (.int (3 : Int32)), (.ref b74)])) rfl (by rw [hml]; rfl) (argsL := [(.ref b74), (.int (3 : Int32)), (.int v73)]) (rest := []) (lenOf pd_3 rfl) rfl (by show 2 * 0 + _ ≤ _; exact Nat.le_of_eq rfl) (hb hby at_227) (fun _ _ => ⟨rfl, e93, (by decide : 1 + 0 ≤ _), (by decide : 3 + 0 ≤ _)⟩)
      dsimp only [Pt.U, Pt.locs, Pt.cells, Pt.slots] at X95 l95 y95 z95 st95 hQ95
      subst l95 y95 z95
      obtain ⟨rfl, N95q, e95⟩ := hQ95
      have N95 := Fr.app N93 N95q
      refine own_via st95 ?_
      show own_Go p e below s _ _ _ (T95.setTop (mkF m 230 #[.val (.int p0), .val (.int p1), .val (.int p2), .val (.int p3), .val (.int p4), .val (.int (3 : Int32)), .val (.int v70), .val (.int v71), .val (.int v72), .val (.int v72), .val (.int v73), .val (.ref b74), .val (.long v85), .second, .val (.long v87), .second, .val (.int v90)] [(.long (own_rk3 (own_nx3_0 (if (p4 &&& (1 : Int32)) = (0 : Int32) then v70 else (-v70)) (if (p4 &&& (2 : Int32)) = (0 : Int32) then v71 else (-v71)) (if (p4 &&& (4 : Int32)) = (0 : Int32) then v72 else (-v72)) v73) (own_nx3_1 (if (p4 &&& (1 : Int32)) = (0 : Int32) then v70 else (-v70)) (if (p4 &&& (2 : Int32)) = (0 : Int32) then v71 else (-v71)) (if (p4 &&& (4 : Int32)) = (0 : Int32) then v72 else (-v72)) v73) (own_nx3_2 (if (p4 &&& (1 : Int32)) = (0 : Int32) then v70 else (-v70)) (if (p4 &&& (2 : Int32)) = (0 : Int32) then v71 else (-v71)) (if (p4 &&& (4 : Int32)) = (0 : Int32) then v72 else (-v72)) v73) v73))]))
      refine own_via (fun _ k => XS.lload X95.here hx rfl (hb hby at_230) rfl k) ?_
      show own_Go p e below s _ _ _ (T95.setTop (mkF m 232 #[.val (.int p0), .val (.int p1), .val (.int p2), .val (.int p3), .val (.int p4), .val (.int (3 : Int32)), .val (.int v70), .val (.int v71), .val (.int v72), .val (.int v72), .val (.int v73), .val (.ref b74), .val (.long v85), .second, .val (.long v87), .second, .val (.int v90)] [(.long v85), (.long (own_rk3 (own_nx3_0 (if (p4 &&& (1 : Int32)) = (0 : Int32) then v70 else (-v70)) (if (p4 &&& (2 : Int32)) = (0 : Int32) then v71 else (-v71)) (if (p4 &&& (4 : Int32)) = (0 : Int32) then v72 else (-v72)) v73) (own_nx3_1 (if (p4 &&& (1 : Int32)) = (0 : Int32) then v70 else (-v70)) (if (p4 &&& (2 : Int32)) = (0 : Int32) then v71 else (-v71)) (if (p4 &&& (4 : Int32)) = (0 : Int32) then v72 else (-v72)) v73) (own_nx3_2 (if (p4 &&& (1 : Int32)) = (0 : Int32) then v70 else (-v70)) (if (p4 &&& (2 : Int32)) = (0 : Int32) then v71 else (-v71)) (if (p4 &&& (4 : Int32)) = (0 : Int32) then v72 else (-v72)) v73) v73))]))
      refine own_via (fun _ k => XS.lconst X95.here hx rfl (hb hby at_232) k) ?_
      show own_Go p e below s _ _ _ (T95.setTop (mkF m 233 #[.val (.int p0), .val (.int p1), .val (.int p2), .val (.int p3), .val (.int p4), .val (.int (3 : Int32)), .val (.int v70), .val (.int v71), .val (.int v72), .val (.int v72), .val (.int v73), .val (.ref b74), .val (.long v85), .second, .val (.long v87), .second, .val (.int v90)] [(.long (1 : Int64)), (.long v85), (.long (own_rk3 (own_nx3_0 (if (p4 &&& (1 : Int32)) = (0 : Int32) then v70 else (-v70)) (if (p4 &&& (2 : Int32)) = (0 : Int32) then v71 else (-v71)) (if (p4 &&& (4 : Int32)) = (0 : Int32) then v72 else (-v72)) v73) (own_nx3_1 (if (p4 &&& (1 : Int32)) = (0 : Int32) then v70 else (-v70)) (if (p4 &&& (2 : Int32)) = (0 : Int32) then v71 else (-v71)) (if (p4 &&& (4 : Int32)) = (0 : Int32) then v72 else (-v72)) v73) (own_nx3_2 (if (p4 &&& (1 : Int32)) = (0 : Int32) then v70 else (-v70)) (if (p4 &&& (2 : Int32)) = (0 : Int32) then v71 else (-v71)) (if (p4 &&& (4 : Int32)) = (0 : Int32) then v72 else (-v72)) v73) v73))]))
      refine own_via (fun _ k => XS.ladd X95.here hx rfl (hb hby at_233) rfl k) ?_
      show own_Go p e below s _ _ _ (T95.setTop (mkF m 234 #[.val (.int p0), .val (.int p1), .val (.int p2), .val (.int p3), .val (.int p4), .val (.int (3 : Int32)), .val (.int v70), .val (.int v71), .val (.int v72), .val (.int v72), .val (.int v73), .val (.ref b74), .val (.long v85), .second, .val (.long v87), .second, .val (.int v90)] [(.long (v85 + (1 : Int64))), (.long (own_rk3 (own_nx3_0 (if (p4 &&& (1 : Int32)) = (0 : Int32) then v70 else (-v70)) (if (p4 &&& (2 : Int32)) = (0 : Int32) then v71 else (-v71)) (if (p4 &&& (4 : Int32)) = (0 : Int32) then v72 else (-v72)) v73) (own_nx3_1 (if (p4 &&& (1 : Int32)) = (0 : Int32) then v70 else (-v70)) (if (p4 &&& (2 : Int32)) = (0 : Int32) then v71 else (-v71)) (if (p4 &&& (4 : Int32)) = (0 : Int32) then v72 else (-v72)) v73) (own_nx3_2 (if (p4 &&& (1 : Int32)) = (0 : Int32) then v70 else (-v70)) (if (p4 &&& (2 : Int32)) = (0 : Int32) then v71 else (-v71)) (if (p4 &&& (4 : Int32)) = (0 : Int32) then v72 else (-v72)) v73) v73))]))
      refine own_via (fun _ k => XS.lcmp X95.here hx rfl (hb hby at_234) rfl k) ?_
      show own_Go p e below s _ _ _ (T95.setTop (mkF m 235 #[.val (.int p0), .val (.int p1), .val (.int p2), .val (.int p3), .val (.int p4), .val (.int (3 : Int32)), .val (.int v70), .val (.int v71), .val (.int v72), .val (.int v72), .val (.int v73), .val (.ref b74), .val (.long v85), .second, .val (.long v87), .second, .val (.int v90)] [(.int (lcmpW (own_rk3 (own_nx3_0 (if (p4 &&& (1 : Int32)) = (0 : Int32) then v70 else (-v70)) (if (p4 &&& (2 : Int32)) = (0 : Int32) then v71 else (-v71)) (if (p4 &&& (4 : Int32)) = (0 : Int32) then v72 else (-v72)) v73) (own_nx3_1 (if (p4 &&& (1 : Int32)) = (0 : Int32) then v70 else (-v70)) (if (p4 &&& (2 : Int32)) = (0 : Int32) then v71 else (-v71)) (if (p4 &&& (4 : Int32)) = (0 : Int32) then v72 else (-v72)) v73) (own_nx3_2 (if (p4 &&& (1 : Int32)) = (0 : Int32) then v70 else (-v70)) (if (p4 &&& (2 : Int32)) = (0 : Int32) then v71 else (-v71)) (if (p4 &&& (4 : Int32)) = (0 : Int32) then v72 else (-v72)) v73) v73) (v85 + (1 : Int64))))]))
      have hc96 : (own_rk3 (own_nx3_0 (if (p4 &&& (1 : Int32)) = (0 : Int32) then v70 else (-v70)) (if (p4 &&& (2 : Int32)) = (0 : Int32) then v71 else (-v71)) (if (p4 &&& (4 : Int32)) = (0 : Int32) then v72 else (-v72)) v73) (own_nx3_1 (if (p4 &&& (1 : Int32)) = (0 : Int32) then v70 else (-v70)) (if (p4 &&& (2 : Int32)) = (0 : Int32) then v71 else (-v71)) (if (p4 &&& (4 : Int32)) = (0 : Int32) then v72 else (-v72)) v73) (own_nx3_2 (if (p4 &&& (1 : Int32)) = (0 : Int32) then v70 else (-v70)) (if (p4 &&& (2 : Int32)) = (0 : Int32) then v71 else (-v71)) (if (p4 &&& (4 : Int32)) = (0 : Int32) then v72 else (-v72)) v73) v73) = (v85 + (1 : Int64)) := ((own_law3 (p2 := p2) hv70 hv71 hv72 hv73 hv85 hv87 hv90).1 hc91).2.2
      refine own_via (fun _ k => XS.ifNo X95.here hx rfl (hb hby at_235) rfl (Jvm.Free.XT.ll_ne_f hc96) k) ?_
      show own_Go p e below s _ _ _ (T95.setTop (mkF m 238 #[.val (.int p0), .val (.int p1), .val (.int p2), .val (.int p3), .val (.int p4), .val (.int (3 : Int32)), .val (.int v70), .val (.int v71), .val (.int v72), .val (.int v72), .val (.int v73), .val (.ref b74), .val (.long v85), .second, .val (.long v87), .second, .val (.int v90)] []))
      refine own_via (fun _ k => XS.iconst X95.here hx rfl (hb hby at_238) k) ?_
      show own_Go p e below s _ _ _ (T95.setTop (mkF m 239 #[.val (.int p0), .val (.int p1), .val (.int p2), .val (.int p3), .val (.int p4), .val (.int (3 : Int32)), .val (.int v70), .val (.int v71), .val (.int v72), .val (.int v72), .val (.int v73), .val (.ref b74), .val (.long v85), .second, .val (.long v87), .second, .val (.int v90)] [(.int (1 : Int32))]))
      refine own_via (fun _ k => XS.goto X95.here hx rfl (pc0 := 239) (pc' := 243) rfl (hb hby at_239) (by decide) (by decide) k) ?_
      show own_Go p e below s _ _ _ (T95.setTop (mkF m 243 #[.val (.int p0), .val (.int p1), .val (.int p2), .val (.int p3), .val (.int p4), .val (.int (3 : Int32)), .val (.int v70), .val (.int v71), .val (.int v72), .val (.int v72), .val (.int v73), .val (.ref b74), .val (.long v85), .second, .val (.long v87), .second, .val (.int v90)] [(.int (1 : Int32))]))
      exact own_goN X95 hx (t := .boolean) Bd.returns (by simp) (hb hby at_243) Bd.notSynchronized (by decide) (by decide) (by rw [e95]; exact ⟨rfl, N95⟩)
    · refine own_via (fun _ k => XS.ifYes X88.here hx rfl (pc0 := 201) (pc' := 244) rfl (hb hby at_201) rfl (Jvm.Free.XT.ll_ge_t hc91) (by decide) (by decide) k) ?_
      show own_Go p e below s _ _ _ (T88.setTop (mkF m 244 #[.val (.int p0), .val (.int p1), .val (.int p2), .val (.int p3), .val (.int p4), .val (.int (3 : Int32)), .val (.int v70), .val (.int v71), .val (.int v72), .val (.int v72), .val (.int v73), .val (.ref b74), .val (.long v85), .second, .val (.long v87), .second, .val (.int v90)] []))
      refine own_via (fun _ k => XS.iload X88.here hx rfl (hb hby at_244) rfl k) ?_
      show own_Go p e below s _ _ _ (T88.setTop (mkF m 246 #[.val (.int p0), .val (.int p1), .val (.int p2), .val (.int p3), .val (.int p4), .val (.int (3 : Int32)), .val (.int v70), .val (.int v71), .val (.int v72), .val (.int v72), .val (.int v73), .val (.ref b74), .val (.long v85), .second, .val (.long v87), .second, .val (.int v90)] [(.int v90)]))
      have hc97 : v90 = (0 : Int32) := ((own_law3 (p2 := p2) hv70 hv71 hv72 hv73 hv85 hv87 hv90).2 hc91).1
      refine own_via (fun _ k => XS.ifNo X88.here hx rfl (hb hby at_246) rfl (Jvm.Free.XT.i0_ne_f hc97) k) ?_
      show own_Go p e below s _ _ _ (T88.setTop (mkF m 249 #[.val (.int p0), .val (.int p1), .val (.int p2), .val (.int p3), .val (.int p4), .val (.int (3 : Int32)), .val (.int v70), .val (.int v71), .val (.int v72), .val (.int v72), .val (.int v73), .val (.ref b74), .val (.long v85), .second, .val (.long v87), .second, .val (.int v90)] []))
      refine own_via (fun _ k => XS.iload X88.here hx rfl (hb hby at_249) rfl k) ?_
      show own_Go p e below s _ _ _ (T88.setTop (mkF m 251 #[.val (.int p0), .val (.int p1), .val (.int p2), .val (.int p3), .val (.int p4), .val (.int (3 : Int32)), .val (.int v70), .val (.int v71), .val (.int v72), .val (.int v72), .val (.int v73), .val (.ref b74), .val (.long v85), .second, .val (.long v87), .second, .val (.int v90)] [(.int (3 : Int32))]))
      refine own_via (fun _ k => XS.iconst X88.here hx rfl (hb hby at_251) k) ?_
      show own_Go p e below s _ _ _ (T88.setTop (mkF m 252 #[.val (.int p0), .val (.int p1), .val (.int p2), .val (.int p3), .val (.int p4), .val (.int (3 : Int32)), .val (.int v70), .val (.int v71), .val (.int v72), .val (.int v72), .val (.int v73), .val (.ref b74), .val (.long v85), .second, .val (.long v87), .second, .val (.int v90)] [(.int (1 : Int32)), (.int (3 : Int32))]))
      refine own_via (fun _ k => XS.icmpNo X88.here hx rfl (hb hby at_252) rfl (Jvm.Free.XT.ii_lt_f (by decide)) k) ?_
      show own_Go p e below s _ _ _ (T88.setTop (mkF m 255 #[.val (.int p0), .val (.int p1), .val (.int p2), .val (.int p3), .val (.int p4), .val (.int (3 : Int32)), .val (.int v70), .val (.int v71), .val (.int v72), .val (.int v72), .val (.int v73), .val (.ref b74), .val (.long v85), .second, .val (.long v87), .second, .val (.int v90)] []))
      refine own_via (fun _ k => XS.aload X88.here hx rfl (hb hby at_255) rfl rfl k) ?_
      show own_Go p e below s _ _ _ (T88.setTop (mkF m 257 #[.val (.int p0), .val (.int p1), .val (.int p2), .val (.int p3), .val (.int p4), .val (.int (3 : Int32)), .val (.int v70), .val (.int v71), .val (.int v72), .val (.int v72), .val (.int v73), .val (.ref b74), .val (.long v85), .second, .val (.long v87), .second, .val (.int v90)] [(.ref b74)]))
      refine own_via (fun _ k => XS.iconst X88.here hx rfl (hb hby at_257) k) ?_
      show own_Go p e below s _ _ _ (T88.setTop (mkF m 258 #[.val (.int p0), .val (.int p1), .val (.int p2), .val (.int p3), .val (.int p4), .val (.int (3 : Int32)), .val (.int v70), .val (.int v71), .val (.int v72), .val (.int v72), .val (.int v73), .val (.ref b74), .val (.long v85), .second, .val (.long v87), .second, .val (.int v90)] [(.int (0 : Int32)), (.ref b74)]))
      obtain ⟨cl98, Ar98, q98, S98, M98, H98, G98⟩ := (id F89)
      have hin98 : ¬ ((0 : Int32) < 0 ∨ cl98.slots.size ≤ ((0 : Int32)).toNatClampNeg) := inb_of S98 ⟨by decide, by decide⟩
      have hat98 : cl98.slots[((0 : Int32)).toNatClampNeg]? = some (.int (own_nx3_0 (if (p4 &&& (1 : Int32)) = (0 : Int32) then v70 else (-v70)) (if (p4 &&& (2 : Int32)) = (0 : Int32) then v71 else (-v71)) (if (p4 &&& (4 : Int32)) = (0 : Int32) then v72 else (-v72)) v73)) := Has.at H98 hin98 rfl
      refine own_via (fun _ k => X88.iaload hx (j := (0 : Int32)) (v := (.int (own_nx3_0 (if (p4 &&& (1 : Int32)) = (0 : Int32) then v70 else (-v70)) (if (p4 &&& (2 : Int32)) = (0 : Int32) then v71 else (-v71)) (if (p4 &&& (4 : Int32)) = (0 : Int32) then v72 else (-v72)) v73))) (by rw [e88]; exact Ar98.1) (State.isArrayOf_alike hZ.alike Ar98.2.1) Ar98.2.2 hin98 hat98 (g := (mkF m 258 #[.val (.int p0), .val (.int p1), .val (.int p2), .val (.int p3), .val (.int p4), .val (.int (3 : Int32)), .val (.int v70), .val (.int v71), .val (.int v72), .val (.int v72), .val (.int v73), .val (.ref b74), .val (.long v85), .second, .val (.long v87), .second, .val (.int v90)] [(.int (0 : Int32)), (.ref b74)])) rfl rfl (hb hby at_258) _ k) ?_
      show own_Go p e below s _ _ _ (T88.setTop (mkF m 259 #[.val (.int p0), .val (.int p1), .val (.int p2), .val (.int p3), .val (.int p4), .val (.int (3 : Int32)), .val (.int v70), .val (.int v71), .val (.int v72), .val (.int v72), .val (.int v73), .val (.ref b74), .val (.long v85), .second, .val (.long v87), .second, .val (.int v90)] [(.int (own_nx3_0 (if (p4 &&& (1 : Int32)) = (0 : Int32) then v70 else (-v70)) (if (p4 &&& (2 : Int32)) = (0 : Int32) then v71 else (-v71)) (if (p4 &&& (4 : Int32)) = (0 : Int32) then v72 else (-v72)) v73))]))
      refine own_via (fun _ k => XS.iload X88.here hx rfl (hb hby at_259) rfl k) ?_
      show own_Go p e below s _ _ _ (T88.setTop (mkF m 261 #[.val (.int p0), .val (.int p1), .val (.int p2), .val (.int p3), .val (.int p4), .val (.int (3 : Int32)), .val (.int v70), .val (.int v71), .val (.int v72), .val (.int v72), .val (.int v73), .val (.ref b74), .val (.long v85), .second, .val (.long v87), .second, .val (.int v90)] [(.int v70), (.int (own_nx3_0 (if (p4 &&& (1 : Int32)) = (0 : Int32) then v70 else (-v70)) (if (p4 &&& (2 : Int32)) = (0 : Int32) then v71 else (-v71)) (if (p4 &&& (4 : Int32)) = (0 : Int32) then v72 else (-v72)) v73))]))
      have hc99 : (own_nx3_0 (if (p4 &&& (1 : Int32)) = (0 : Int32) then v70 else (-v70)) (if (p4 &&& (2 : Int32)) = (0 : Int32) then v71 else (-v71)) (if (p4 &&& (4 : Int32)) = (0 : Int32) then v72 else (-v72)) v73) = v70 := ((own_law3 (p2 := p2) hv70 hv71 hv72 hv73 hv85 hv87 hv90).2 hc91).2.1
      refine own_via (fun _ k => XS.icmpNo X88.here hx rfl (hb hby at_261) rfl (Jvm.Free.XT.ii_ne_f hc99) k) ?_
      show own_Go p e below s _ _ _ (T88.setTop (mkF m 264 #[.val (.int p0), .val (.int p1), .val (.int p2), .val (.int p3), .val (.int p4), .val (.int (3 : Int32)), .val (.int v70), .val (.int v71), .val (.int v72), .val (.int v72), .val (.int v73), .val (.ref b74), .val (.long v85), .second, .val (.long v87), .second, .val (.int v90)] []))
      refine own_via (fun _ k => XS.iload X88.here hx rfl (hb hby at_264) rfl k) ?_
      show own_Go p e below s _ _ _ (T88.setTop (mkF m 266 #[.val (.int p0), .val (.int p1), .val (.int p2), .val (.int p3), .val (.int p4), .val (.int (3 : Int32)), .val (.int v70), .val (.int v71), .val (.int v72), .val (.int v72), .val (.int v73), .val (.ref b74), .val (.long v85), .second, .val (.long v87), .second, .val (.int v90)] [(.int (3 : Int32))]))
      refine own_via (fun _ k => XS.iconst X88.here hx rfl (hb hby at_266) k) ?_
      show own_Go p e below s _ _ _ (T88.setTop (mkF m 267 #[.val (.int p0), .val (.int p1), .val (.int p2), .val (.int p3), .val (.int p4), .val (.int (3 : Int32)), .val (.int v70), .val (.int v71), .val (.int v72), .val (.int v72), .val (.int v73), .val (.ref b74), .val (.long v85), .second, .val (.long v87), .second, .val (.int v90)] [(.int (2 : Int32)), (.int (3 : Int32))]))
      refine own_via (fun _ k => XS.icmpNo X88.here hx rfl (hb hby at_267) rfl (Jvm.Free.XT.ii_lt_f (by decide)) k) ?_
      show own_Go p e below s _ _ _ (T88.setTop (mkF m 270 #[.val (.int p0), .val (.int p1), .val (.int p2), .val (.int p3), .val (.int p4), .val (.int (3 : Int32)), .val (.int v70), .val (.int v71), .val (.int v72), .val (.int v72), .val (.int v73), .val (.ref b74), .val (.long v85), .second, .val (.long v87), .second, .val (.int v90)] []))
      refine own_via (fun _ k => XS.aload X88.here hx rfl (hb hby at_270) rfl rfl k) ?_
      show own_Go p e below s _ _ _ (T88.setTop (mkF m 272 #[.val (.int p0), .val (.int p1), .val (.int p2), .val (.int p3), .val (.int p4), .val (.int (3 : Int32)), .val (.int v70), .val (.int v71), .val (.int v72), .val (.int v72), .val (.int v73), .val (.ref b74), .val (.long v85), .second, .val (.long v87), .second, .val (.int v90)] [(.ref b74)]))
      refine own_via (fun _ k => XS.iconst X88.here hx rfl (hb hby at_272) k) ?_
      show own_Go p e below s _ _ _ (T88.setTop (mkF m 273 #[.val (.int p0), .val (.int p1), .val (.int p2), .val (.int p3), .val (.int p4), .val (.int (3 : Int32)), .val (.int v70), .val (.int v71), .val (.int v72), .val (.int v72), .val (.int v73), .val (.ref b74), .val (.long v85), .second, .val (.long v87), .second, .val (.int v90)] [(.int (1 : Int32)), (.ref b74)]))
      obtain ⟨cl100, Ar100, q100, S100, M100, H100, G100⟩ := (id F89)
      have hin100 : ¬ ((1 : Int32) < 0 ∨ cl100.slots.size ≤ ((1 : Int32)).toNatClampNeg) := inb_of S100 ⟨by decide, by decide⟩
      have hat100 : cl100.slots[((1 : Int32)).toNatClampNeg]? = some (.int (own_nx3_1 (if (p4 &&& (1 : Int32)) = (0 : Int32) then v70 else (-v70)) (if (p4 &&& (2 : Int32)) = (0 : Int32) then v71 else (-v71)) (if (p4 &&& (4 : Int32)) = (0 : Int32) then v72 else (-v72)) v73)) := Has.at H100 hin100 rfl
      refine own_via (fun _ k => X88.iaload hx (j := (1 : Int32)) (v := (.int (own_nx3_1 (if (p4 &&& (1 : Int32)) = (0 : Int32) then v70 else (-v70)) (if (p4 &&& (2 : Int32)) = (0 : Int32) then v71 else (-v71)) (if (p4 &&& (4 : Int32)) = (0 : Int32) then v72 else (-v72)) v73))) (by rw [e88]; exact Ar100.1) (State.isArrayOf_alike hZ.alike Ar100.2.1) Ar100.2.2 hin100 hat100 (g := (mkF m 273 #[.val (.int p0), .val (.int p1), .val (.int p2), .val (.int p3), .val (.int p4), .val (.int (3 : Int32)), .val (.int v70), .val (.int v71), .val (.int v72), .val (.int v72), .val (.int v73), .val (.ref b74), .val (.long v85), .second, .val (.long v87), .second, .val (.int v90)] [(.int (1 : Int32)), (.ref b74)])) rfl rfl (hb hby at_273) _ k) ?_
      show own_Go p e below s _ _ _ (T88.setTop (mkF m 274 #[.val (.int p0), .val (.int p1), .val (.int p2), .val (.int p3), .val (.int p4), .val (.int (3 : Int32)), .val (.int v70), .val (.int v71), .val (.int v72), .val (.int v72), .val (.int v73), .val (.ref b74), .val (.long v85), .second, .val (.long v87), .second, .val (.int v90)] [(.int (own_nx3_1 (if (p4 &&& (1 : Int32)) = (0 : Int32) then v70 else (-v70)) (if (p4 &&& (2 : Int32)) = (0 : Int32) then v71 else (-v71)) (if (p4 &&& (4 : Int32)) = (0 : Int32) then v72 else (-v72)) v73))]))
      refine own_via (fun _ k => XS.iload X88.here hx rfl (hb hby at_274) rfl k) ?_
      show own_Go p e below s _ _ _ (T88.setTop (mkF m 276 #[.val (.int p0), .val (.int p1), .val (.int p2), .val (.int p3), .val (.int p4), .val (.int (3 : Int32)), .val (.int v70), .val (.int v71), .val (.int v72), .val (.int v72), .val (.int v73), .val (.ref b74), .val (.long v85), .second, .val (.long v87), .second, .val (.int v90)] [(.int v71), (.int (own_nx3_1 (if (p4 &&& (1 : Int32)) = (0 : Int32) then v70 else (-v70)) (if (p4 &&& (2 : Int32)) = (0 : Int32) then v71 else (-v71)) (if (p4 &&& (4 : Int32)) = (0 : Int32) then v72 else (-v72)) v73))]))
      have hc101 : (own_nx3_1 (if (p4 &&& (1 : Int32)) = (0 : Int32) then v70 else (-v70)) (if (p4 &&& (2 : Int32)) = (0 : Int32) then v71 else (-v71)) (if (p4 &&& (4 : Int32)) = (0 : Int32) then v72 else (-v72)) v73) = v71 := ((own_law3 (p2 := p2) hv70 hv71 hv72 hv73 hv85 hv87 hv90).2 hc91).2.2.1
      refine own_via (fun _ k => XS.icmpNo X88.here hx rfl (hb hby at_276) rfl (Jvm.Free.XT.ii_ne_f hc101) k) ?_
      show own_Go p e below s _ _ _ (T88.setTop (mkF m 279 #[.val (.int p0), .val (.int p1), .val (.int p2), .val (.int p3), .val (.int p4), .val (.int (3 : Int32)), .val (.int v70), .val (.int v71), .val (.int v72), .val (.int v72), .val (.int v73), .val (.ref b74), .val (.long v85), .second, .val (.long v87), .second, .val (.int v90)] []))
      refine own_via (fun _ k => XS.iload X88.here hx rfl (hb hby at_279) rfl k) ?_
      show own_Go p e below s _ _ _ (T88.setTop (mkF m 281 #[.val (.int p0), .val (.int p1), .val (.int p2), .val (.int p3), .val (.int p4), .val (.int (3 : Int32)), .val (.int v70), .val (.int v71), .val (.int v72), .val (.int v72), .val (.int v73), .val (.ref b74), .val (.long v85), .second, .val (.long v87), .second, .val (.int v90)] [(.int (3 : Int32))]))
      refine own_via (fun _ k => XS.iconst X88.here hx rfl (hb hby at_281) k) ?_
      show own_Go p e below s _ _ _ (T88.setTop (mkF m 282 #[.val (.int p0), .val (.int p1), .val (.int p2), .val (.int p3), .val (.int p4), .val (.int (3 : Int32)), .val (.int v70), .val (.int v71), .val (.int v72), .val (.int v72), .val (.int v73), .val (.ref b74), .val (.long v85), .second, .val (.long v87), .second, .val (.int v90)] [(.int (3 : Int32)), (.int (3 : Int32))]))
      refine own_via (fun _ k => XS.icmpNo X88.here hx rfl (hb hby at_282) rfl (Jvm.Free.XT.ii_lt_f (by decide)) k) ?_
      show own_Go p e below s _ _ _ (T88.setTop (mkF m 285 #[.val (.int p0), .val (.int p1), .val (.int p2), .val (.int p3), .val (.int p4), .val (.int (3 : Int32)), .val (.int v70), .val (.int v71), .val (.int v72), .val (.int v72), .val (.int v73), .val (.ref b74), .val (.long v85), .second, .val (.long v87), .second, .val (.int v90)] []))
      refine own_via (fun _ k => XS.aload X88.here hx rfl (hb hby at_285) rfl rfl k) ?_
      show own_Go p e below s _ _ _ (T88.setTop (mkF m 287 #[.val (.int p0), .val (.int p1), .val (.int p2), .val (.int p3), .val (.int p4), .val (.int (3 : Int32)), .val (.int v70), .val (.int v71), .val (.int v72), .val (.int v72), .val (.int v73), .val (.ref b74), .val (.long v85), .second, .val (.long v87), .second, .val (.int v90)] [(.ref b74)]))
      refine own_via (fun _ k => XS.iconst X88.here hx rfl (hb hby at_287) k) ?_
      show own_Go p e below s _ _ _ (T88.setTop (mkF m 288 #[.val (.int p0), .val (.int p1), .val (.int p2), .val (.int p3), .val (.int p4), .val (.int (3 : Int32)), .val (.int v70), .val (.int v71), .val (.int v72), .val (.int v72), .val (.int v73), .val (.ref b74), .val (.long v85), .second, .val (.long v87), .second, .val (.int v90)] [(.int (2 : Int32)), (.ref b74)]))
      obtain ⟨cl102, Ar102, q102, S102, M102, H102, G102⟩ := (id F89)
      have hin102 : ¬ ((2 : Int32) < 0 ∨ cl102.slots.size ≤ ((2 : Int32)).toNatClampNeg) := inb_of S102 ⟨by decide, by decide⟩
      have hat102 : cl102.slots[((2 : Int32)).toNatClampNeg]? = some (.int (own_nx3_2 (if (p4 &&& (1 : Int32)) = (0 : Int32) then v70 else (-v70)) (if (p4 &&& (2 : Int32)) = (0 : Int32) then v71 else (-v71)) (if (p4 &&& (4 : Int32)) = (0 : Int32) then v72 else (-v72)) v73)) := Has.at H102 hin102 rfl
      refine own_via (fun _ k => X88.iaload hx (j := (2 : Int32)) (v := (.int (own_nx3_2 (if (p4 &&& (1 : Int32)) = (0 : Int32) then v70 else (-v70)) (if (p4 &&& (2 : Int32)) = (0 : Int32) then v71 else (-v71)) (if (p4 &&& (4 : Int32)) = (0 : Int32) then v72 else (-v72)) v73))) (by rw [e88]; exact Ar102.1) (State.isArrayOf_alike hZ.alike Ar102.2.1) Ar102.2.2 hin102 hat102 (g := (mkF m 288 #[.val (.int p0), .val (.int p1), .val (.int p2), .val (.int p3), .val (.int p4), .val (.int (3 : Int32)), .val (.int v70), .val (.int v71), .val (.int v72), .val (.int v72), .val (.int v73), .val (.ref b74), .val (.long v85), .second, .val (.long v87), .second, .val (.int v90)] [(.int (2 : Int32)), (.ref b74)])) rfl rfl (hb hby at_288) _ k) ?_
      show own_Go p e below s _ _ _ (T88.setTop (mkF m 289 #[.val (.int p0), .val (.int p1), .val (.int p2), .val (.int p3), .val (.int p4), .val (.int (3 : Int32)), .val (.int v70), .val (.int v71), .val (.int v72), .val (.int v72), .val (.int v73), .val (.ref b74), .val (.long v85), .second, .val (.long v87), .second, .val (.int v90)] [(.int (own_nx3_2 (if (p4 &&& (1 : Int32)) = (0 : Int32) then v70 else (-v70)) (if (p4 &&& (2 : Int32)) = (0 : Int32) then v71 else (-v71)) (if (p4 &&& (4 : Int32)) = (0 : Int32) then v72 else (-v72)) v73))]))
      refine own_via (fun _ k => XS.iload X88.here hx rfl (hb hby at_289) rfl k) ?_
      show own_Go p e below s _ _ _ (T88.setTop (mkF m 291 #[.val (.int p0), .val (.int p1), .val (.int p2), .val (.int p3), .val (.int p4), .val (.int (3 : Int32)), .val (.int v70), .val (.int v71), .val (.int v72), .val (.int v72), .val (.int v73), .val (.ref b74), .val (.long v85), .second, .val (.long v87), .second, .val (.int v90)] [(.int v72), (.int (own_nx3_2 (if (p4 &&& (1 : Int32)) = (0 : Int32) then v70 else (-v70)) (if (p4 &&& (2 : Int32)) = (0 : Int32) then v71 else (-v71)) (if (p4 &&& (4 : Int32)) = (0 : Int32) then v72 else (-v72)) v73))]))
      have hc103 : (own_nx3_2 (if (p4 &&& (1 : Int32)) = (0 : Int32) then v70 else (-v70)) (if (p4 &&& (2 : Int32)) = (0 : Int32) then v71 else (-v71)) (if (p4 &&& (4 : Int32)) = (0 : Int32) then v72 else (-v72)) v73) = v72 := ((own_law3 (p2 := p2) hv70 hv71 hv72 hv73 hv85 hv87 hv90).2 hc91).2.2.2
      refine own_via (fun _ k => XS.icmpNo X88.here hx rfl (hb hby at_291) rfl (Jvm.Free.XT.ii_ne_f hc103) k) ?_
      show own_Go p e below s _ _ _ (T88.setTop (mkF m 294 #[.val (.int p0), .val (.int p1), .val (.int p2), .val (.int p3), .val (.int p4), .val (.int (3 : Int32)), .val (.int v70), .val (.int v71), .val (.int v72), .val (.int v72), .val (.int v73), .val (.ref b74), .val (.long v85), .second, .val (.long v87), .second, .val (.int v90)] []))
      refine own_via (fun _ k => XS.iconst X88.here hx rfl (hb hby at_294) k) ?_
      show own_Go p e below s _ _ _ (T88.setTop (mkF m 295 #[.val (.int p0), .val (.int p1), .val (.int p2), .val (.int p3), .val (.int p4), .val (.int (3 : Int32)), .val (.int v70), .val (.int v71), .val (.int v72), .val (.int v72), .val (.int v73), .val (.ref b74), .val (.long v85), .second, .val (.long v87), .second, .val (.int v90)] [(.int (1 : Int32))]))
      refine own_via (fun _ k => XS.goto X88.here hx rfl (pc0 := 295) (pc' := 299) rfl (hb hby at_295) (by decide) (by decide) k) ?_
      show own_Go p e below s _ _ _ (T88.setTop (mkF m 299 #[.val (.int p0), .val (.int p1), .val (.int p2), .val (.int p3), .val (.int p4), .val (.int (3 : Int32)), .val (.int v70), .val (.int v71), .val (.int v72), .val (.int v72), .val (.int v73), .val (.ref b74), .val (.long v85), .second, .val (.long v87), .second, .val (.int v90)] [(.int (1 : Int32))]))
      exact own_goN X88 hx (t := .boolean) Bd.returns (by simp) (hb hby at_299) Bd.notSynchronized (by decide) (by decide) (by rw [e88]; exact ⟨rfl, N88⟩)
set_option maxRecDepth 65536 in
set_option maxHeartbeats 40000000 in
theorem comes_1 {Post : Tables → Env → Array Value → State → Outcome → State → Prop} (hpost : ∀ tb e args s v u, (limb_1_1.after args s (.returned v) u = true ∧ limb_1_2.after args s (.returned v) u = true ∧ True) → FrameEnd s (.returned v) u (Jvm.fieldLocs frame_1_writes args s ++ Jvm.arrayLocs frame_1_arrays args s ++ Jvm.staticLocs frame_1_statics s) 16 128 → Post tb e args s (.returned v) u) :
    ArmFor flags0 classFile x code maxLocals ret World_1 tables_1 room_1 Calls_1 rest_1 Pre_1 Post := by
  intro l hfl _ _ p e ha hc hk s m args below hf hA hF happ hP
  obtain ⟨hcalls, hrest, hpre⟩ := hP
  obtain ⟨-, -, -, hnamed, -, -, -, hat⟩ := (Spec.applies_iff hf).mp happ
  obtain ⟨hg, hn⟩ := and_e (Cond.before_iff.mp (show (Jvm.Cond.and given_1 narrow_1).before args s = true from hpre))
  obtain ⟨g1, g2⟩ := and_e hg
  obtain ⟨g3, g4⟩ := and_e g2
  obtain ⟨g5, g6⟩ := and_e g4
  obtain ⟨g7, g8⟩ := and_e g6
  obtain ⟨g9, g10⟩ := and_e g8
  obtain ⟨w0, w1, w2, w3, w4, rfl⟩ : ∃ w0 w1 w2 w3 w4 : Value, args = #[w0, w1, w2, w3, w4] := by
    have hs : args.size = 5 := by simpa [Cond.value, given_1] using g1
    obtain ⟨L⟩ := args
    match L, hs with
    | [w0, w1, w2, w3, w4], _ => exact ⟨w0, w1, w2, w3, w4, rfl⟩
  have hw := fun d (hd : d ∈ tables_1) => atoms_spec (ws := Jvm.Cond.code x code maxLocals ret :: tables_1) hat d (List.mem_cons_of_mem _ hd)
  have hfit : Fit s := fun {y c} hc i hi => by
    obtain ⟨ha, rfl⟩ := Array.getElem?_eq_some_iff.mp hc
    have q := List.all_eq_true.mp ((Array.all_eq_true_iff_forall_mem.mp hF) _ (Array.getElem_mem ha)) i (List.mem_range.mpr hi)
    simpa [Array.getElem?_eq_getElem hi] using q
  obtain ⟨i0, ei0⟩ := is_v g3
  obtain rfl : w0 = (.int i0) := Option.some.inj ei0
  obtain ⟨i1, ei1⟩ := is_v g5
  obtain rfl : w1 = (.int i1) := Option.some.inj ei1
  obtain ⟨i2, ei2⟩ := is_v g7
  obtain rfl : w2 = (.int i2) := Option.some.inj ei2
  obtain ⟨i3, ei3⟩ := is_v g9
  obtain rfl : w3 = (.int i3) := Option.some.inj ei3
  obtain ⟨i4, ei4⟩ := is_v g10
  obtain rfl : w4 = (.int i4) := Option.some.inj ei4
  obtain ⟨n, o, h1, h2, h3, _, L, rfl, ⟨rfl, N⟩, hq⟩ := rm0 l s _ hw tables_1 i0 i1 i2 i3 i4 s.heap s.heap.size (Nat.le_refl _)  p e ha hc hk s m _ below hf ((Spec.applies_iff_loose hf).mp happ).1 ⟨rfl, State.Warmed39.refl s, rfl⟩ trivial
  refine ⟨n, _, h1, h2, h3, hpost _ _ _ _ _ _ ⟨Cond.after_iff.mpr rfl, Cond.after_iff.mpr (eq_i res_at (Term.int_eval (1)) rfl), trivial⟩ ⟨hq.1, hq.2.1, (hq.2.2.sift fun y hy => Or.inr (N y hy)).mono (by decide) (by decide)⟩⟩
theorem main_1_1 : Claimed_1_1 := comes_1 fun _ _ _ _ _ _ h hF => ⟨h.1, hF⟩
theorem main_1_2 : Claimed_1_2 := comes_1 fun _ _ _ _ _ _ h hF => ⟨h.2.1, hF⟩
end Jvm.Pilot.@@N@@
namespace Jvm.Pilot.@@N@@
open Jvm Jvm.ClassFile Sem Op Lib Jvm.Free Jvm.Stand Jvm.Pilot.@@N@@.Jvm.D
/-! MADE BY PROGRAM (witnessworld.py) out of the Statement's table words and the real class files: 9 classes; the members and pool entries that the words name. The judged class is class 1, her method 1. -/
namespace start1
open Jvm.ClassFile
def u (s : String) : CpInfo := .utf8 (stringToUtf16 s)
/-- a pool by its gaps: so many unusable entries, then the entry; so many at the end -/
def gap : Nat → List CpInfo → List CpInfo
  | 0, r => r
  | n + 1, r => .unusable :: gap n r
def poolList (es : List (Nat × CpInfo)) (last : Nat) : List CpInfo := es.foldr (fun e r => gap e.1 (e.2 :: r)) (gap last [])
def pool (es : List (Nat × CpInfo)) (last : Nat) : Array CpInfo := ⟨poolList es last⟩
def fileOf (pool : Array CpInfo) (this : Nat) (attrs : Array Attribute := #[]) (ms : Array MethodInfo := #[]) (fl : Nat := 33) (sup : Nat := 0) (ifs : Array Nat := #[]) (fds : Array FieldInfo := #[]) : ClassFile where
  minorVersion := 0
  majorVersion := 65
  constantPool := pool
  accessFlags := fl
  thisClass := this
  superClass := sup
  interfaces := ifs
  fields := fds
  methods := ms
  attributes := attrs
def plain (name : String) (sup : Option ClassId) : Class where
  name := name
  kind := .ordinary
  loader := none
  accessFlags := 33
  super := sup
  interfaces := #[]
  cf := none
  fields := #[]
  methods := #[]
  instanceTypes := #[]
  staticTypes := #[]
  resolved := #[]
  callSites := []
  init := .initialized
  statics := none
  mirror := none

def pool0 : Array CpInfo := pool [(5, u "<init>"), (0, u "()V"), (1, .class_ 10), (1, u "java/lang/Object")] 113

def k0m0 : Method := { name := "<init>", desc := "()V", sig := { parameters := [], returnType := none }, accessFlags := 1, code := none }
/-- java/lang/Object -/
def k0 : Class := { plain "java/lang/Object" none with
  accessFlags := 33
  interfaces := #[]
  cf := some (fileOf pool0 8 #[] #[{ accessFlags := 1, nameIndex := 5, descriptorIndex := 6, attributes := #[] }] 33 0 #[] #[])
  fields := #[]
  methods := #[k0m0]
  instanceTypes := #[]
  staticTypes := #[]
  resolved := Array.replicate 124 none
  statics := none }

def pool1 : Array CpInfo := pool [(2, .class_ 4), (1, u "java/lang/Object"), (0, u "<init>"), (0, u "()V"), (0, .integer 1048575), (0, .methodref 9 10), (0, .class_ 11), (0, .nameAndType 12 13), (0, u "com/example/unalike/unalike/engine/TSetsNextPinLaw"), (0, u "rank"), (0, u "([III)J"), (0, .methodref 9 15), (0, .nameAndType 16 17), (0, u "choose"), (0, u "(JI)J"), (0, .methodref 19 20), (0, .class_ 21), (0, .nameAndType 22 23), (0, u "com/example/unalike/unalike/engine/TSets"), (0, u "next"), (0, u "([II)Z"), (0, .methodref 9 25), (0, .nameAndType 26 27), (0, u "valid"), (0, u "([III)Z"), (0, .methodref 9 29), (0, .nameAndType 30 31), (0, u "feat"), (0, u "(I)J"), (0, .methodref 9 33), (0, .nameAndType 34 35), (0, u "inRange"), (0, u "(II)Z"), (0, .long 2), (1, .long 6), (3, u "law"), (0, u "(IIIII)Z")] 5

def k1m0 : Method := { name := "<init>", desc := "()V", sig := { parameters := [], returnType := none }, accessFlags := 2, code := none }
def k1c1 : Code := { maxStack := 6, maxLocals := 17, code := code, exceptionTable := #[], attributes := #[] }
def k1m1 : Method := { name := "law", desc := "(IIIII)Z", sig := { parameters := [.int, .int, .int, .int, .int], returnType := some .boolean }, accessFlags := 9, code := some k1c1 }
def k1c2 : Code := { maxStack := 2, maxLocals := 1, code := method_3_code, exceptionTable := #[], attributes := #[] }
def k1m2 : Method := { name := "feat", desc := "(I)J", sig := { parameters := [.int], returnType := some .long }, accessFlags := 10, code := some k1c2 }
def k1c3 : Code := { maxStack := 4, maxLocals := 4, code := method_4_code, exceptionTable := #[], attributes := #[] }
def k1m3 : Method := { name := "inRange", desc := "(II)Z", sig := { parameters := [.int, .int], returnType := some .boolean }, accessFlags := 10, code := some k1c3 }
def k1c4 : Code := { maxStack := 4, maxLocals := 4, code := method_5_code, exceptionTable := #[], attributes := #[] }
def k1m4 : Method := { name := "valid", desc := "([III)Z", sig := { parameters := [(.array .int), .int, .int], returnType := some .boolean }, accessFlags := 10, code := some k1c4 }
def k1c5 : Code := { maxStack := 6, maxLocals := 3, code := method_6_code, exceptionTable := #[], attributes := #[] }
def k1m5 : Method := { name := "choose", desc := "(JI)J", sig := { parameters := [.long, .int], returnType := some .long }, accessFlags := 10, code := some k1c5 }
def k1c6 : Code := { maxStack := 6, maxLocals := 9, code := method_7_code, exceptionTable := #[], attributes := #[] }
def k1m6 : Method := { name := "rank", desc := "([III)J", sig := { parameters := [(.array .int), .int, .int], returnType := some .long }, accessFlags := 10, code := some k1c6 }
/-- com/example/unalike/unalike/engine/TSetsNextPinLaw -/
def k1 : Class := { plain "com/example/unalike/unalike/engine/TSetsNextPinLaw" (some 0) with
  accessFlags := 49
  interfaces := #[]
  cf := some (fileOf pool1 9 #[] #[{ accessFlags := 2, nameIndex := 5, descriptorIndex := 6, attributes := #[] }, { accessFlags := 9, nameIndex := 42, descriptorIndex := 43, attributes := #[] }, { accessFlags := 10, nameIndex := 30, descriptorIndex := 31, attributes := #[] }, { accessFlags := 10, nameIndex := 34, descriptorIndex := 35, attributes := #[] }, { accessFlags := 10, nameIndex := 26, descriptorIndex := 27, attributes := #[] }, { accessFlags := 10, nameIndex := 16, descriptorIndex := 17, attributes := #[] }, { accessFlags := 10, nameIndex := 12, descriptorIndex := 13, attributes := #[] }] 49 2 #[] #[])
  fields := #[]
  methods := #[k1m0, k1m1, k1m2, k1m3, k1m4, k1m5, k1m6]
  instanceTypes := #[]
  staticTypes := #[]
  resolved := Array.replicate 49 none
  statics := none }

def pool2 : Array CpInfo := pool [(2, .class_ 4), (1, u "java/lang/Object"), (0, u "<init>"), (0, u "()V"), (31, .class_ 39), (0, u "com/example/unalike/unalike/engine/TSets"), (9, u "next"), (0, u "([II)Z")] 4

def k2m0 : Method := { name := "<init>", desc := "()V", sig := { parameters := [], returnType := none }, accessFlags := 2, code := none }
def k2c1 : Code := { maxStack := 5, maxLocals := 5, code := prog_20_method_4_code, exceptionTable := #[], attributes := #[] }
def k2m1 : Method := { name := "next", desc := "([II)Z", sig := { parameters := [(.array .int), .int], returnType := some .boolean }, accessFlags := 8, code := some k2c1 }
/-- com/example/unalike/unalike/engine/TSets -/
def k2 : Class := { plain "com/example/unalike/unalike/engine/TSets" (some 0) with
  accessFlags := 48
  interfaces := #[]
  cf := some (fileOf pool2 38 #[] #[{ accessFlags := 2, nameIndex := 5, descriptorIndex := 6, attributes := #[] }, { accessFlags := 8, nameIndex := 49, descriptorIndex := 50, attributes := #[] }] 48 2 #[] #[])
  fields := #[]
  methods := #[k2m0, k2m1]
  instanceTypes := #[]
  staticTypes := #[]
  resolved := Array.replicate 55 none
  statics := none }

def pool3 : Array CpInfo := pool [(1, u "java/lang/Cloneable"), (0, .class_ 1), (0, u "java/lang/Object"), (0, .class_ 3)] 3

/-- java/lang/Cloneable -/
def k3 : Class := { plain "java/lang/Cloneable" (some 0) with
  accessFlags := 1537
  interfaces := #[]
  cf := some (fileOf pool3 2 #[] #[] 1537 4 #[] #[])
  fields := #[]
  methods := #[]
  instanceTypes := #[]
  staticTypes := #[]
  resolved := Array.replicate 8 none
  statics := none }

def pool4 : Array CpInfo := pool [(1, u "java/io/Serializable"), (0, .class_ 1), (0, u "java/lang/Object"), (0, .class_ 3)] 3

/-- java/io/Serializable -/
def k4 : Class := { plain "java/io/Serializable" (some 0) with
  accessFlags := 1537
  interfaces := #[]
  cf := some (fileOf pool4 2 #[] #[] 1537 4 #[] #[])
  fields := #[]
  methods := #[]
  instanceTypes := #[]
  staticTypes := #[]
  resolved := Array.replicate 8 none
  statics := none }

/-- the primitive byte -/
def k5 : Class := { plain "byte" none with kind := .primitive 'B', accessFlags := 0x411 }
/-- [B -/
def k6 : Class := { plain "[B" (some 0) with kind := .array 5 .byte, interfaces := #[3, 4], accessFlags := 1041 }

/-- the primitive int -/
def k7 : Class := { plain "int" none with kind := .primitive 'I', accessFlags := 0x411 }
/-- [I -/
def k8 : Class := { plain "[I" (some 0) with kind := .array 7 .int, interfaces := #[3, 4], accessFlags := 1041 }

def heap : Heap := #[]
def classes : Array Class := #[k0, k1, k2, k3, k4, k5, k6, k7, k8]
def interned : List (Array UInt16 × Addr) := []
def slotsUsed : Nat := 0
def theMethod : MethodId := ⟨1, 1⟩
def args0 : Array Value := #[.int 3, .int 5, .int 6, .int 1, .int 7]
def aboutOver (below : List Frame) : State where
  vm := { classes := classes, interned := interned.toArray }
  heap := heap
  slotsUsed := slotsUsed
  threads := #[{ frames := .invoking theMethod args0 :: below }]
def below0 : List Frame := [.native { method := ⟨0, 0⟩, args := #[] }]
def about1 : State := aboutOver below0
def p0 : Program := .bare "" "" ""
def e0 : Env := launch0.env 0 0 0
theorem w_frames : about1.frames = Frame.invoking theMethod args0 :: below0 := rfl
set_option maxRecDepth 65536 in
theorem w_args : argsFit about1.vm theMethod args0 = true := by decide +kernel
set_option maxRecDepth 65536 in
theorem w_heap : heapFits about1 = true := by decide +kernel
set_option maxRecDepth 65536 in
theorem w_runnable : about1.curStatus? = some .runnable := by decide +kernel
set_option maxRecDepth 65536 in
theorem w_alone : about1.alone = true := by decide +kernel
set_option maxRecDepth 65536 in
theorem w_named : about1.methodNamed? x = some theMethod := by decide +kernel
set_option maxRecDepth 65536 in
theorem w_hears : about1.hears theMethod below0 = true := by decide +kernel
set_option maxRecDepth 65536 in
theorem w_ripe : about1.ripe theMethod args0 below0 = true := by decide +kernel
theorem w_running : about1.status = .running := rfl
set_option maxRecDepth 65536 in
theorem w_room : about1.hasRoom e0.platform room_1 = true :=
  launch0.hasRoom_least _ room_1 (by decide +kernel) (by decide +kernel) (by decide +kernel) (by decide +kernel) (by decide +kernel) (by decide +kernel)
theorem allAtoms_all (ts : List Jvm.Cond) (a : Array Jvm.Value) (st : Jvm.State) : (allAtoms ts).before a st = ts.all (fun c => c.before a st) := by
  induction ts with
  | nil => rfl
  | cons c t ih =>
    show (Jvm.Cond.and c (allAtoms t)).before a st = _
    rw [Jvm.Cond.before_and, ih, List.all_cons]
def words1 : List Jvm.Cond := Jvm.Cond.code x code maxLocals ret :: tables_1
/-- a 'code' word, met by the world's own term for the bytes: nothing is compared byte by byte -/
theorem code_word {y : MethodName} {bytes : ByteArray} {mx : Nat} {rt : Option FieldType} {a : Array Value} {s : State} {m : MethodId} {meth : Method} {c : Code} (h1 : s.methodNamed? y = some m) (h2 : s.vm.method? m = some meth) (h3 : meth.code = some c) (h4 : c.code = bytes)
    (h5 : (c.maxLocals == mx && c.exceptionTable.isEmpty && decide (c.maxStack ≤ mostOperands) && decide (meth.sig.returnType = rt) && !meth.locks && decide (parseMethodDescriptor y.desc = some meth.sig)) = true) : (Jvm.Cond.code y bytes mx rt).before a s = true := by
  simp only [Bool.and_eq_true, beq_iff_eq, Bool.not_eq_true', decide_eq_true_eq] at h5
  obtain ⟨⟨⟨⟨⟨g1, g2⟩, g3⟩, g4⟩, g5⟩, g6⟩ := h5
  simp [Cond.before, Cond.holds, Cond.value, h1, h2, h3, h4, g1, g2, g3, g4, g5, g6]
def isCode : Jvm.Cond → Bool
  | .code _ _ _ _ => true
  | _ => false
theorem all_split {L : List Jvm.Cond} {P : Jvm.Cond → Bool} (h1 : L.all (fun c => isCode c || P c) = true) (h2 : ∀ c ∈ L.filter isCode, P c = true) : L.all P = true := by
  refine List.all_eq_true.mpr fun c hc => ?_
  have h := List.all_eq_true.mp h1 c hc
  rcases Bool.eq_false_or_eq_true (isCode c) with hi | hi
  · exact h2 c (List.mem_filter.mpr ⟨hc, hi⟩)
  · simpa [hi] using h
set_option maxRecDepth 65536 in
theorem w_c0 : (Jvm.Cond.code x code maxLocals ret).before args0 about1 = true := code_word (m := ⟨1, 1⟩) (meth := k1m1) (c := k1c1) (by decide +kernel) rfl rfl rfl (by decide +kernel)
set_option maxRecDepth 65536 in
theorem w_c1 : (Jvm.Cond.code ({ cls := "com/example/unalike/unalike/engine/TSetsNextPinLaw", name := "rank", desc := "([III)J" } : Jvm.MethodName) method_7_code (9 : Nat) (Option.some Jvm.ClassFile.FieldType.long)).before args0 about1 = true := code_word (m := ⟨1, 6⟩) (meth := k1m6) (c := k1c6) (by decide +kernel) rfl rfl rfl (by decide +kernel)
set_option maxRecDepth 65536 in
theorem w_c2 : (Jvm.Cond.code ({ cls := "com/example/unalike/unalike/engine/TSetsNextPinLaw", name := "choose", desc := "(JI)J" } : Jvm.MethodName) method_6_code (3 : Nat) (Option.some Jvm.ClassFile.FieldType.long)).before args0 about1 = true := code_word (m := ⟨1, 5⟩) (meth := k1m5) (c := k1c5) (by decide +kernel) rfl rfl rfl (by decide +kernel)
set_option maxRecDepth 65536 in
theorem w_c3 : (Jvm.Cond.code ({ cls := "com/example/unalike/unalike/engine/TSets", name := "next", desc := "([II)Z" } : Jvm.MethodName) prog_20_method_4_code (5 : Nat) (Option.some Jvm.ClassFile.FieldType.boolean)).before args0 about1 = true := code_word (m := ⟨2, 1⟩) (meth := k2m1) (c := k2c1) (by decide +kernel) rfl rfl rfl (by decide +kernel)
set_option maxRecDepth 65536 in
theorem w_c4 : (Jvm.Cond.code ({ cls := "com/example/unalike/unalike/engine/TSetsNextPinLaw", name := "feat", desc := "(I)J" } : Jvm.MethodName) method_3_code (1 : Nat) (Option.some Jvm.ClassFile.FieldType.long)).before args0 about1 = true := code_word (m := ⟨1, 2⟩) (meth := k1m2) (c := k1c2) (by decide +kernel) rfl rfl rfl (by decide +kernel)
set_option maxRecDepth 65536 in
theorem w_c5 : (Jvm.Cond.code ({ cls := "com/example/unalike/unalike/engine/TSetsNextPinLaw", name := "valid", desc := "([III)Z" } : Jvm.MethodName) method_5_code (4 : Nat) (Option.some Jvm.ClassFile.FieldType.boolean)).before args0 about1 = true := code_word (m := ⟨1, 4⟩) (meth := k1m4) (c := k1c4) (by decide +kernel) rfl rfl rfl (by decide +kernel)
set_option maxRecDepth 65536 in
theorem w_c6 : (Jvm.Cond.code ({ cls := "com/example/unalike/unalike/engine/TSetsNextPinLaw", name := "inRange", desc := "(II)Z" } : Jvm.MethodName) method_4_code (4 : Nat) (Option.some Jvm.ClassFile.FieldType.boolean)).before args0 about1 = true := code_word (m := ⟨1, 3⟩) (meth := k1m3) (c := k1c3) (by decide +kernel) rfl rfl rfl (by decide +kernel)
def codes1 : List Jvm.Cond := [Jvm.Cond.code x code maxLocals ret, Jvm.Cond.code ({ cls := "com/example/unalike/unalike/engine/TSetsNextPinLaw", name := "rank", desc := "([III)J" } : Jvm.MethodName) method_7_code (9 : Nat) (Option.some Jvm.ClassFile.FieldType.long), Jvm.Cond.code ({ cls := "com/example/unalike/unalike/engine/TSetsNextPinLaw", name := "choose", desc := "(JI)J" } : Jvm.MethodName) method_6_code (3 : Nat) (Option.some Jvm.ClassFile.FieldType.long), Jvm.Cond.code ({ cls := "com/example/unalike/unalike/engine/TSets", name := "next", desc := "([II)Z" } : Jvm.MethodName) prog_20_method_4_code (5 : Nat) (Option.some Jvm.ClassFile.FieldType.boolean), Jvm.Cond.code ({ cls := "com/example/unalike/unalike/engine/TSetsNextPinLaw", name := "feat", desc := "(I)J" } : Jvm.MethodName) method_3_code (1 : Nat) (Option.some Jvm.ClassFile.FieldType.long), Jvm.Cond.code ({ cls := "com/example/unalike/unalike/engine/TSetsNextPinLaw", name := "valid", desc := "([III)Z" } : Jvm.MethodName) method_5_code (4 : Nat) (Option.some Jvm.ClassFile.FieldType.boolean), Jvm.Cond.code ({ cls := "com/example/unalike/unalike/engine/TSetsNextPinLaw", name := "inRange", desc := "(II)Z" } : Jvm.MethodName) method_4_code (4 : Nat) (Option.some Jvm.ClassFile.FieldType.boolean)]
set_option maxRecDepth 65536 in
theorem codes_eq : words1.filter isCode = codes1 := rfl
theorem w_codes : ∀ c ∈ words1.filter isCode, c.before args0 about1 = true := by
  rw [codes_eq]
  intro c hc
  simp only [codes1, List.mem_cons, List.not_mem_nil, or_false] at hc
  rcases hc with rfl | rfl | rfl | rfl | rfl | rfl | rfl
  · exact w_c0
  · exact w_c1
  · exact w_c2
  · exact w_c3
  · exact w_c4
  · exact w_c5
  · exact w_c6
set_option maxRecDepth 65536 in
theorem w_t1 : (words1.take 24).all (fun c => isCode c || c.before args0 about1) = true := by decide +kernel
set_option maxRecDepth 65536 in
theorem w_t2 : (words1.drop 24).all (fun c => isCode c || c.before args0 about1) = true := by decide +kernel
theorem w_tables : (allAtoms (Jvm.Cond.code x code maxLocals ret :: tables_1)).before args0 about1 = true := by
  rw [allAtoms_all]
  show words1.all (fun c => c.before args0 about1) = true
  refine all_split ?_ w_codes
  rw [← List.take_append_drop 24 words1, List.all_append, w_t1, w_t2]
  rfl
set_option maxRecDepth 65536 in
theorem w_case : (Jvm.Cond.and given_1 narrow_1).before args0 about1 = true := by decide +kernel
theorem w_applies : (headSpec (Jvm.Cond.code x code maxLocals ret :: tables_1) room_1).applies x e0.platform about1 = true :=
  (Spec.applies_iff w_frames).mpr ⟨w_running, w_runnable, w_alone, w_named, w_hears, w_ripe, w_room, w_tables⟩
theorem atStart : AtStart classFile x code maxLocals ret World_1 tables_1 room_1 Calls_1 rest_1 Pre_1 launch0 p0 e0 about1 theMethod args0 below0 :=
  ⟨lists_1, trivial, launch0.admits_env _ _ _, launch0.least_env, fairChoices_fair.cas, fairChoices_fair.clock, w_frames, w_args, w_heap, w_applies, trivial, trivial, w_case⟩
end start1
theorem witness_1 : WitnessClaimed_1 := ⟨start1.p0, start1.e0, start1.about1, start1.theMethod, start1.args0, start1.below0, start1.atStart⟩
end Jvm.Pilot.@@N@@
