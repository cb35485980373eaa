import JvmDerived
import JvmDerived.Pilot.@@N@@Statement
import JvmDerived.Pilot.@@N@@Code
set_option linter.unusedVariables false
set_option linter.unusedSimpArgs false
namespace Jvm.Pilot.@@N@@
open Jvm Jvm.ClassFile Sem Op Lib Jvm.Free Jvm.Stand Jvm.LawKit Jvm.RoadKit Bundle Jvm.Pilot.@@N@@.Jvm.D
section OwnGo
variable {p : Program} {l : Launch} {e : Env} {R : Room} {s : State} {m : MethodId} {args : Array Value} {below : List Frame} {meth : Method} {c : Code} {T : State} {locs : List Loc} {cells slots : Nat}
/-- from S the run ends, returned, with Q -/
def own_Go (p : Program) (e : Env) (below : List Frame) (s : State) (Q : Option Value → Heap → List Loc → Prop) (cs ss : Nat) (S : State) : Prop :=
  ∃ (U : State) (o : Outcome), Steps p.tables e below S U ∧ U.status = .running ∧ Ended U below o ∧ ∃ v L, o = .returned v ∧ Q v U.heap L ∧ FrameEnd s o U L cs ss
variable {Q : Option Value → Heap → List Loc → Prop} {cs ss : Nat} {S S' : State}
theorem own_via (st : ∀ t, Steps p.tables e below S' t → Steps p.tables e below S t) (k : own_Go p e below s Q cs ss S') : own_Go p e below s Q cs ss S := by
  obtain ⟨U, o, h, r⟩ := k; exact ⟨U, o, st U h, r⟩
theorem own_viaT (st : Steps p.tables e below S S') (k : own_Go p e below s Q cs ss S') : own_Go p e below s Q cs ss S := own_via (fun _ h => st.trans h) k
theorem own_goV (X : Stand p l e R s m args below meth c T locs cells slots) (hx : p.tables.exec = Jvm.exec) {pc : Nat} {Ls : Array Slot} (hret : meth.sig.returnType = none) (hd : decode c.code pc = .ok (.return_, 1)) (hk : meth.locks = false) (hc : cells ≤ cs) (hs : slots ≤ ss) (hQ : Q none T.heap locs) :
    own_Go p e below s Q cs ss (T.setTop (mkF m pc Ls [])) := by
  obtain ⟨fs, hr, hrun, hended, hW, hsame⟩ := X.leave (v := none) (fun _ => rfl) hk
  exact ⟨_, _, X.returnOut hx hret hd hr, hrun, hended, _, _, rfl, hQ, ⟨_, rfl⟩, hW, hsame.mono hc hs⟩
theorem own_goN (X : Stand p l e R s m args below meth c T locs cells slots) (hx : p.tables.exec = Jvm.exec) {pc : Nat} {Ls : Array Slot} {z : Int32} {t : FieldType} {rest : List Value} (hret : meth.sig.returnType = some t) (ht : t = .boolean ∨ t = .byte ∨ t = .char ∨ t = .short) (hd : decode c.code pc = .ok (.ireturn, 1)) (hk : meth.locks = false) (hc : cells ≤ cs) (hs : slots ≤ ss) (hQ : Q (some (.int (nar t z))) T.heap locs) :
    own_Go p e below s Q cs ss (T.setTop (mkF m pc Ls (.int z :: rest))) := by
  obtain ⟨fs, hr, hrun, hended, hW, hsame⟩ := X.leave (v := some (.int (nar t z))) (fun h => by rw [hret] at h; cases h) hk
  exact ⟨_, _, retN X hx hret ht hd hr, hrun, hended, _, _, rfl, hQ, ⟨_, rfl⟩, hW, hsame.mono hc hs⟩
theorem own_goI (X : Stand p l e R s m args below meth c T locs cells slots) (hx : p.tables.exec = Jvm.exec) {pc : Nat} {Ls : Array Slot} {z : Int32} (hret : meth.sig.returnType = some .int) (hd : decode c.code pc = .ok (.ireturn, 1)) (hk : meth.locks = false) (hc : cells ≤ cs) (hs : slots ≤ ss) (hQ : Q (some (.int z)) T.heap locs) :
    own_Go p e below s Q cs ss (T.setTop (mkF m pc Ls [.int z])) := by
  obtain ⟨fs, hr, hrun, hended, hW, hsame⟩ := X.leave (v := some (.int z)) (fun h => by rw [hret] at h; cases h) hk
  exact ⟨_, _, X.ireturnOut hx hret rfl (Or.inl rfl) hd hr, hrun, hended, _, _, rfl, hQ, ⟨_, rfl⟩, hW, hsame.mono hc hs⟩
theorem own_goJ (X : Stand p l e R s m args below meth c T locs cells slots) (hx : p.tables.exec = Jvm.exec) {pc : Nat} {Ls : Array Slot} {z : Int64} (hret : meth.sig.returnType = some .long) (hd : decode c.code pc = .ok (.lreturn, 1)) (hk : meth.locks = false) (hc : cells ≤ cs) (hs : slots ≤ ss) (hQ : Q (some (.long z)) T.heap locs) :
    own_Go p e below s Q cs ss (T.setTop (mkF m pc Ls [.long z])) := by
  obtain ⟨fs, hr, hrun, hended, hW, hsame⟩ := X.leave (v := some (.long z)) (fun h => by rw [hret] at h; cases h) hk
  exact ⟨_, _, X.lreturnOut hx hret hd hr, hrun, hended, _, _, rfl, hQ, ⟨_, rfl⟩, hW, hsame.mono hc hs⟩
theorem own_goA (X : Stand p l e R s m args below meth c T locs cells slots) (hx : p.tables.exec = Jvm.exec) {pc : Nat} {Ls : Array Slot} {w : Value} {t : FieldType} (hw : w.isRef = true) (hret : meth.sig.returnType = some t) (ht : t.isReference = true) (hd : decode c.code pc = .ok (.areturn, 1)) (hk : meth.locks = false) (hc : cells ≤ cs) (hs : slots ≤ ss) (hQ : Q (some w) T.heap locs) :
    own_Go p e below s Q cs ss (T.setTop (mkF m pc Ls [w])) := by
  obtain ⟨fs, hr, hrun, hended, hW, hsame⟩ := X.leave (v := some w) (fun h => by rw [hret] at h; cases h) hk
  exact ⟨_, _, X.areturnOut hx hw hret ht hd hr, hrun, hended, _, _, rfl, hQ, ⟨_, rfl⟩, hW, hsame.mono hc hs⟩
theorem own_selP {s : State} {args : Array Value} {y y' : MethodName} (hs : (Cond.selects y'.cls y' y').before args s = true) (hc : y'.cls = y.cls) (hpriv : s.PrivateAt y) (hinst : (Cond.instanceMethod y).before args s = true) (hy : y.cls ≠ "java/lang/invoke/MethodHandle" ∧ y.cls ≠ "java/lang/invoke/VarHandle") : (Cond.selects y.cls y y).before args s = true := by
  obtain ⟨c2, r2, m2, -, -, q3, -, kP, hkP, hkPi⟩ := Cond.selects_spec hs
  exact selects_self_of_private (hc ▸ findClass_of_methodNamed q3) hkP hkPi hpriv hinst hy
end OwnGo
def o_i2l (x : Int32) : Int64 := x.toInt64
def o_l2i (x : Int64) : Int32 := x.toInt32
def o_i2b (x : Int32) : Int32 := x.toInt8.toInt32
def o_i2s (x : Int32) : Int32 := x.toInt16.toInt32
def o_i2c (x : Int32) : Int32 := x.toUInt32.toUInt16.toUInt32.toInt32
def o_ishl (x y : Int32) : Int32 := x <<< (y &&& 31)
def o_ishr (x y : Int32) : Int32 := x >>> (y &&& 31)
def o_iushr (x y : Int32) : Int32 := (x.toUInt32 >>> (y &&& 31).toUInt32).toInt32
def o_lshl (x : Int64) (y : Int32) : Int64 := x <<< (y &&& 0x3f).toInt64
def o_lshr (x : Int64) (y : Int32) : Int64 := x >>> (y &&& 0x3f).toInt64
def o_lushr (x : Int64) (y : Int32) : Int64 := (x.toUInt64 >>> (y &&& 0x3f).toInt64.toUInt64).toInt64
def o_irem (x y : Int32) : Int32 := x - (x / y) * y
def o_lrem (x y : Int64) : Int64 := x - (x / y) * y
def o_d0 : UInt64 := FP.dconst0
def o_d1 : UInt64 := FP.dconst1
section OwnNums
/-- the unsigned number behind an int, a long -/
abbrev own_n (x : Int32) : Nat := x.toBitVec.toNat
abbrev own_N (x : Int64) : Nat := x.toBitVec.toNat
theorem own_n_lt (x : Int32) : own_n x < 4294967296 := x.toBitVec.isLt
theorem own_N_lt (x : Int64) : own_N x < 18446744073709551616 := x.toBitVec.isLt
theorem own_n_inj {x y : Int32} : x = y ↔ own_n x = own_n y := ⟨fun h => by rw [h], fun h => Int32.toBitVec_inj.mp (BitVec.eq_of_toNat_eq h)⟩
theorem own_N_inj {x y : Int64} : x = y ↔ own_N x = own_N y := ⟨fun h => by rw [h], fun h => Int64.toBitVec_inj.mp (BitVec.eq_of_toNat_eq h)⟩
theorem own_n_int (x : Int32) : x.toInt = if own_n x < 2147483648 then (own_n x : Int) else (own_n x : Int) - 4294967296 := by
  have h := BitVec.toInt_eq_toNat_cond x.toBitVec
  have h2 : x.toBitVec.toInt = x.toInt := rfl
  rw [← h2, h]; simp only [own_n]; split <;> split <;> omega
theorem own_N_int (x : Int64) : x.toInt = if own_N x < 9223372036854775808 then (own_N x : Int) else (own_N x : Int) - 18446744073709551616 := by
  have h := BitVec.toInt_eq_toNat_cond x.toBitVec
  have h2 : x.toBitVec.toInt = x.toInt := rfl
  rw [← h2, h]; simp only [own_N]; split <;> split <;> omega
theorem own_n_add (x y : Int32) : own_n (x + y) = (own_n x + own_n y) % 4294967296 := by simp only [own_n, Int32.toBitVec_add, BitVec.toNat_add]
theorem own_N_add (x y : Int64) : own_N (x + y) = (own_N x + own_N y) % 18446744073709551616 := by simp only [own_N, Int64.toBitVec_add, BitVec.toNat_add]
theorem own_n_sub (x y : Int32) : own_n (x - y) = (4294967296 - own_n y + own_n x) % 4294967296 := by simp only [own_n, Int32.toBitVec_sub, BitVec.toNat_sub]
theorem own_N_sub (x y : Int64) : own_N (x - y) = (18446744073709551616 - own_N y + own_N x) % 18446744073709551616 := by simp only [own_N, Int64.toBitVec_sub, BitVec.toNat_sub]
theorem own_n_mul (x y : Int32) : own_n (x * y) = (own_n x * own_n y) % 4294967296 := by simp only [own_n, Int32.toBitVec_mul, BitVec.toNat_mul]
theorem own_N_mul (x y : Int64) : own_N (x * y) = (own_N x * own_N y) % 18446744073709551616 := by simp only [own_N, Int64.toBitVec_mul, BitVec.toNat_mul]
theorem own_n_and (x y : Int32) : own_n (x &&& y) = own_n x &&& own_n y := by simp only [own_n, Int32.toBitVec_and, BitVec.toNat_and]
theorem own_N_and (x y : Int64) : own_N (x &&& y) = own_N x &&& own_N y := by simp only [own_N, Int64.toBitVec_and, BitVec.toNat_and]
theorem own_n_or (x y : Int32) : own_n (x ||| y) = own_n x ||| own_n y := by simp only [own_n, Int32.toBitVec_or, BitVec.toNat_or]
theorem own_N_or (x y : Int64) : own_N (x ||| y) = own_N x ||| own_N y := by simp only [own_N, Int64.toBitVec_or, BitVec.toNat_or]
theorem own_n_xor (x y : Int32) : own_n (x ^^^ y) = own_n x ^^^ own_n y := by simp only [own_n, Int32.toBitVec_xor, BitVec.toNat_xor]
theorem own_N_xor (x y : Int64) : own_N (x ^^^ y) = own_N x ^^^ own_N y := by simp only [own_N, Int64.toBitVec_xor, BitVec.toNat_xor]
theorem own_N_lushr (x : Int64) (q : Int32) (k : Nat) (hk : own_n q % 64 = k) : own_N (o_lushr x q) = own_N x / 2 ^ k := by
  have h1 := (sm64 q k hk).1
  have h2 := (sm64 q k hk).2
  show (x.toBitVec >>> ((q &&& 0x3f).toInt64.toBitVec % 64)).toNat = _
  rw [h1]
  have h3 : (BitVec.ofNat 64 k % 64).toNat = k := by
    rw [BitVec.toNat_umod, BitVec.toNat_ofNat]; simp; omega
  rw [BitVec.ushiftRight_eq', BitVec.toNat_ushiftRight, h3, Nat.shiftRight_eq_div_pow]
theorem own_N_lshl (x : Int64) (q : Int32) (k : Nat) (hk : own_n q % 64 = k) : own_N (o_lshl x q) = own_N x * 2 ^ k % 18446744073709551616 := by
  have h1 := (sm64 q k hk).1
  have h2 := (sm64 q k hk).2
  show (x.toBitVec <<< ((q &&& 0x3f).toInt64.toBitVec.smod 64)).toNat = _
  rw [h1, BitVec.shiftLeft_eq', smod64 k h2, BitVec.toNat_shiftLeft, Nat.shiftLeft_eq]
theorem own_n_iushr (x : Int32) (q : Int32) (k : Nat) (hk : own_n q % 32 = k) : own_n (o_iushr x q) = own_n x / 2 ^ k := by
  have h1 : (q &&& 31).toBitVec.toNat = k := by
    show (q.toBitVec &&& (31 : Int32).toBitVec).toNat = _
    rw [BitVec.toNat_and]
    show q.toBitVec.toNat &&& (2 ^ 5 - 1) = k
    rw [Nat.and_two_pow_sub_one_eq_mod]; exact hk
  have h2 : k < 32 := by omega
  show (x.toBitVec >>> ((q &&& 31).toBitVec % 32)).toNat = _
  have h3 : ((q &&& 31).toBitVec % 32).toNat = k := by
    rw [BitVec.toNat_umod, h1]; simp; omega
  rw [BitVec.ushiftRight_eq', BitVec.toNat_ushiftRight, h3, Nat.shiftRight_eq_div_pow]
theorem own_n_ishl (x : Int32) (q : Int32) (k : Nat) (hk : own_n q % 32 = k) : own_n (o_ishl x q) = own_n x * 2 ^ k % 4294967296 := by
  have h1 : (q &&& 31).toBitVec.toNat = k := by
    show (q.toBitVec &&& (31 : Int32).toBitVec).toNat = _
    rw [BitVec.toNat_and]
    show q.toBitVec.toNat &&& (2 ^ 5 - 1) = k
    rw [Nat.and_two_pow_sub_one_eq_mod]; exact hk
  have h2 : k < 32 := by omega
  show (x.toBitVec <<< ((q &&& 31).toBitVec.smod 32)).toNat = _
  have h4 : (q &&& 31).toBitVec = BitVec.ofNat 32 k := by apply BitVec.eq_of_toNat_eq; rw [h1, BitVec.toNat_ofNat]; omega
  have h5 : ∀ k : Fin 32, ((BitVec.ofNat 32 k.val).smod 32).toNat = k.val := by decide +kernel
  rw [h4, BitVec.shiftLeft_eq', h5 ⟨k, h2⟩, BitVec.toNat_shiftLeft, Nat.shiftLeft_eq]
theorem own_n_mod (x y : Int32) (h : (x.toInt - y.toInt) % 256 = 0) : own_n x % 256 = own_n y % 256 := by
  have h1 := own_n_int x; have h2 := own_n_int y; have h3 := own_n_lt x; have h4 := own_n_lt y
  split at h1 <;> split at h2 <;> omega
theorem own_i2b_n (x : Int32) : own_n (o_i2b x) % 256 = own_n x % 256 := own_n_mod _ _ (c_i2b x).1
theorem own_nb (x : Int32) : nar .byte (o_i2b x) = o_i2b x := by simp [nar, o_i2b]
theorem own_n_ff (x : Int32) : own_n (x &&& 255) = own_n x % 256 := by
  rw [own_n_and]; show own_n x &&& (2 ^ 8 - 1) = _; rw [Nat.and_two_pow_sub_one_eq_mod]
theorem own_i2l (x : Int32) : (o_i2l x).toInt = x.toInt := Int32.toInt_toInt64 x
theorem own_N_i2l (x : Int32) (h : 0 ≤ x.toInt) : own_N (o_i2l x) = own_n x := by
  have h1 := own_i2l x
  rw [own_N_int, own_n_int] at h1
  have h2 := own_n_lt x
  have h3 := own_N_lt (o_i2l x)
  have h4 := own_n_int x
  split at h1 <;> split at h1 <;> omega
theorem own_mask (x : Nat) (k : Nat) : x &&& (2 ^ k - 1) = x % 2 ^ k := Nat.and_two_pow_sub_one_eq_mod x k
theorem own_and_split {k a A m M : Nat} (ha : a < 2 ^ k) (hm : m < 2 ^ k) : (a + 2 ^ k * A) &&& (m + 2 ^ k * M) = (a &&& m) + 2 ^ k * (A &&& M) := by
  have hp : 0 < 2 ^ k := Nat.two_pow_pos k
  have h1 : ((a + 2 ^ k * A) &&& (m + 2 ^ k * M)) / 2 ^ k = A &&& M := by
    rw [Nat.and_div_two_pow, Nat.add_mul_div_left _ _ hp, Nat.add_mul_div_left _ _ hp, Nat.div_eq_of_lt ha, Nat.div_eq_of_lt hm]; simp
  have h2 : ((a + 2 ^ k * A) &&& (m + 2 ^ k * M)) % 2 ^ k = a &&& m := by
    rw [Nat.and_mod_two_pow, Nat.add_mul_mod_self_left, Nat.add_mul_mod_self_left, Nat.mod_eq_of_lt ha, Nat.mod_eq_of_lt hm]
  have h3 := Nat.div_add_mod ((a + 2 ^ k * A) &&& (m + 2 ^ k * M)) (2 ^ k)
  rw [h1, h2] at h3; omega
theorem own_or_add {k a A : Nat} (ha : a < 2 ^ k) : a ||| (A * 2 ^ k) = a + A * 2 ^ k := by
  rw [Nat.or_comm, ← Nat.shiftLeft_eq, ← Nat.shiftLeft_add_eq_or_of_lt ha]; omega
end OwnNums
theorem d1_0 : decode method_2_code 0 = .ok (.iload_n 0, 1) := by decide +kernel
theorem d1_1 : decode method_2_code 1 = .ok (.iload_n 1, 1) := by decide +kernel
theorem d1_2 : decode method_2_code 2 = .ok (.idiv, 1) := by decide +kernel
theorem d1_3 : decode method_2_code 3 = .ok (.bipush 10, 2) := by decide +kernel
theorem d1_5 : decode method_2_code 5 = .ok (.irem, 1) := by decide +kernel
theorem d1_6 : decode method_2_code 6 = .ok (.i2l, 1) := by decide +kernel
theorem d1_7 : decode method_2_code 7 = .ok (.lstore_n 3, 1) := by decide +kernel
theorem d1_8 : decode method_2_code 8 = .ok (.ldc2_w 7, 3) := by decide +kernel
theorem d1_11 : decode method_2_code 11 = .ok (.lload_n 3, 1) := by decide +kernel
theorem d1_12 : decode method_2_code 12 = .ok (.ladd, 1) := by decide +kernel
theorem d1_13 : decode method_2_code 13 = .ok (.iload_n 2, 1) := by decide +kernel
theorem d1_14 : decode method_2_code 14 = .ok (.lshl, 1) := by decide +kernel
theorem d1_15 : decode method_2_code 15 = .ok (.lreturn, 1) := by decide +kernel
def own_db (p0 : Int32) (p1 : Int32) (p2 : Int32) : Int64 := (o_lshl ((48 : Int64) + (o_i2l (o_irem (p0 / p1) (10 : Int32)))) p2)
theorem pn_0 : plainName "si/sklic/ByteWordsDigitsValuePinLaw" = true := by first | (simp [plainName, overriddenIn]; done) | decide +kernel
theorem ef_1 (m : MethodId) (x0 : Int32) (x1 : Int32) (x2 : Int32) : entryFrame m #[(.int x0), (.int x1), (.int x2)] 5 = mkF m 0 #[.val (.int x0), .val (.int x1), .val (.int x2), .unset, .unset] [] := by first | (simp [entryFrame, mkF, argsToLocals, Value.category]; done) | rfl
def Q1 (Z : State) (p0 : Int32) (p1 : Int32) (p2 : Int32) (h0 : Heap) (n0 : Nat) (v : Option Value) (h : Heap) (L : List Loc) : Prop := v = some (.long (own_db p0 p1 p2)) ∧ Fr n0 L ∧ h = h0
set_option maxRecDepth 65536 in
set_option maxHeartbeats 40000000 in
theorem rm1 (l : Launch) (Z : State) (a0 : Array Value) (hw : ∀ d ∈ tables_1, d.before a0 Z = true) (ws : List Jvm.Cond) (p0 : Int32) (p1 : Int32) (p2 : Int32) (h0 : Heap) (n0 : Nat) (Z0 : n0 ≤ h0.size) (hnz2 : p1 ≠ 0) :
    MetFree l (⟨"si/sklic/ByteWordsDigitsValuePinLaw", "digitByte", "(III)J"⟩ : MethodName) (head1 (Jvm.Cond.code (⟨"si/sklic/ByteWordsDigitsValuePinLaw", "digitByte", "(III)J"⟩ : MethodName) method_2_code 5 (some .long) :: ws) ({ frames := 0, cells := 0, slots := 0, locals := 0 } : Room)) (fun q_ U => q_ = #[(.int p0), (.int p1), (.int p2)] ∧ Z.Warmed39 U.vm ∧ U.heap = h0) (fun _ _ _ _ _ => True) (fun _ U o U' => ∃ v L, o = .returned v ∧ Q1 Z p0 p1 p2 h0 n0 v U'.heap L ∧ FrameEnd U o U' L ({ frames := 0, cells := 0, slots := 0, locals := 0 } : Room).cells ({ frames := 0, cells := 0, slots := 0, locals := 0 } : Room).slots) := by
  refine MetFree.of_bodySF (plainFor_of_name pn_0) hisR ?_
  intro p e s m args below meth c s₁ Bd hml0 hP hK
  obtain ⟨rfl, hZ, hh⟩ := hP
  have hx := Bd.exec
  have hby := Bd.bytes
  have hml : c.maxLocals = 5 := hml0
  have hown : s.vm.findClass "si/sklic/ByteWordsDigitsValuePinLaw" = some m.cls := findClass_of_methodNamed Bd.named
  have hnm := (name_of_methodNamed Bd.named Bd.method).1
  have X0 : Stand p l e ({ frames := 0, cells := 0, slots := 0, locals := 0 } : Room) s m #[(.int p0), (.int p1), (.int p2)] below meth c s₁ [] 0 0 := Stand.of_body Bd
  have e0 : s₁.heap = h0 := by rw [← hh, Bd.state]; rfl
  have N0 := Fr.nil n0
  show own_Go p e below s (Q1 Z p0 p1 p2 h0 n0) ({ frames := 0, cells := 0, slots := 0, locals := 0 } : Room).cells ({ frames := 0, cells := 0, slots := 0, locals := 0 } : Room).slots (s₁.setTop (entryFrame m #[(.int p0), (.int p1), (.int p2)] 5))
  refine own_via (fun t k => castTop (ef_1 m p0 p1 p2) k) ?_
  show own_Go p e below s _ _ _ (s₁.setTop (mkF m 0 #[.val (.int p0), .val (.int p1), .val (.int p2), .unset, .unset] []))
  refine own_via (fun _ k => XS.iloadN X0.here hx rfl (hb hby d1_0) rfl k) ?_
  show own_Go p e below s _ _ _ (s₁.setTop (mkF m 1 #[.val (.int p0), .val (.int p1), .val (.int p2), .unset, .unset] [(.int p0)]))
  refine own_via (fun _ k => XS.iloadN X0.here hx rfl (hb hby d1_1) rfl k) ?_
  show own_Go p e below s _ _ _ (s₁.setTop (mkF m 2 #[.val (.int p0), .val (.int p1), .val (.int p2), .unset, .unset] [(.int p1), (.int p0)]))
  refine own_via (fun _ k => XS.idiv X0.here hx rfl (hb hby d1_2) rfl hnz2 k) ?_
  show own_Go p e below s _ _ _ (s₁.setTop (mkF m 3 #[.val (.int p0), .val (.int p1), .val (.int p2), .unset, .unset] [(.int (p0 / p1))]))
  refine own_via (fun _ k => XS.bipush X0.here hx rfl (hb hby d1_3) k) ?_
  show own_Go p e below s _ _ _ (s₁.setTop (mkF m 5 #[.val (.int p0), .val (.int p1), .val (.int p2), .unset, .unset] [(.int (10 : Int32)), (.int (p0 / p1))]))
  refine own_via (fun _ k => XS.irem X0.here hx rfl (hb hby d1_5) rfl (by decide) k) ?_
  show own_Go p e below s _ _ _ (s₁.setTop (mkF m 6 #[.val (.int p0), .val (.int p1), .val (.int p2), .unset, .unset] [(.int (o_irem (p0 / p1) (10 : Int32)))]))
  refine own_via (fun _ k => XS.i2l X0.here hx rfl (hb hby d1_6) rfl k) ?_
  show own_Go p e below s _ _ _ (s₁.setTop (mkF m 7 #[.val (.int p0), .val (.int p1), .val (.int p2), .unset, .unset] [(.long (o_i2l (o_irem (p0 / p1) (10 : Int32))))]))
  refine own_via (fun _ k => XS.lstoreN X0.here hx rfl (hb hby d1_7) rfl (l' := #[.val (.int p0), .val (.int p1), .val (.int p2), .val (.long (o_i2l (o_irem (p0 / p1) (10 : Int32)))), .second]) rfl k) ?_
  show own_Go p e below s _ _ _ (s₁.setTop (mkF m 8 #[.val (.int p0), .val (.int p1), .val (.int p2), .val (.long (o_i2l (o_irem (p0 / p1) (10 : Int32)))), .second] []))
  refine own_via (fun _ k => X0.ldc2Long hx hown (mvT hZ (hw _ (List.mem_of_getElem? (i := 7) rfl))) (g := (mkF m 8 #[.val (.int p0), .val (.int p1), .val (.int p2), .val (.long (o_i2l (o_irem (p0 / p1) (10 : Int32)))), .second] [])) rfl (hb hby d1_8) _ k) ?_
  show own_Go p e below s _ _ _ (s₁.setTop (mkF m 11 #[.val (.int p0), .val (.int p1), .val (.int p2), .val (.long (o_i2l (o_irem (p0 / p1) (10 : Int32)))), .second] [(.long (48 : Int64))]))
  refine own_via (fun _ k => XS.lloadN X0.here hx rfl (hb hby d1_11) rfl k) ?_
  show own_Go p e below s _ _ _ (s₁.setTop (mkF m 12 #[.val (.int p0), .val (.int p1), .val (.int p2), .val (.long (o_i2l (o_irem (p0 / p1) (10 : Int32)))), .second] [(.long (o_i2l (o_irem (p0 / p1) (10 : Int32)))), (.long (48 : Int64))]))
  refine own_via (fun _ k => XS.ladd X0.here hx rfl (hb hby d1_12) rfl k) ?_
  show own_Go p e below s _ _ _ (s₁.setTop (mkF m 13 #[.val (.int p0), .val (.int p1), .val (.int p2), .val (.long (o_i2l (o_irem (p0 / p1) (10 : Int32)))), .second] [(.long ((48 : Int64) + (o_i2l (o_irem (p0 / p1) (10 : Int32)))))]))
  refine own_via (fun _ k => XS.iloadN X0.here hx rfl (hb hby d1_13) rfl k) ?_
  show own_Go p e below s _ _ _ (s₁.setTop (mkF m 14 #[.val (.int p0), .val (.int p1), .val (.int p2), .val (.long (o_i2l (o_irem (p0 / p1) (10 : Int32)))), .second] [(.int p2), (.long ((48 : Int64) + (o_i2l (o_irem (p0 / p1) (10 : Int32)))))]))
  refine own_via (fun _ k => XS.lshl X0.here hx rfl (hb hby d1_14) rfl k) ?_
  show own_Go p e below s _ _ _ (s₁.setTop (mkF m 15 #[.val (.int p0), .val (.int p1), .val (.int p2), .val (.long (o_i2l (o_irem (p0 / p1) (10 : Int32)))), .second] [(.long (o_lshl ((48 : Int64) + (o_i2l (o_irem (p0 / p1) (10 : Int32)))) p2))]))
  exact own_goJ X0 hx Bd.returns (hb hby d1_15) Bd.notSynchronized (by decide) (by decide) (by rw [e0]; exact ⟨by rw [own_db] <;> rfl, N0, rfl⟩)
theorem d2_0 : decode prog_7_method_9_code 0 = .ok (.lload_n 0, 1) := by decide +kernel
theorem d2_1 : decode prog_7_method_9_code 1 = .ok (.ldc2_w 39, 3) := by decide +kernel
theorem d2_4 : decode prog_7_method_9_code 4 = .ok (.lsub, 1) := by decide +kernel
theorem d2_5 : decode prog_7_method_9_code 5 = .ok (.lstore_n 2, 1) := by decide +kernel
theorem d2_6 : decode prog_7_method_9_code 6 = .ok (.ldc2_w 51, 3) := by decide +kernel
theorem d2_9 : decode prog_7_method_9_code 9 = .ok (.lload_n 2, 1) := by decide +kernel
theorem d2_10 : decode prog_7_method_9_code 10 = .ok (.lmul, 1) := by decide +kernel
theorem d2_11 : decode prog_7_method_9_code 11 = .ok (.lload_n 2, 1) := by decide +kernel
theorem d2_12 : decode prog_7_method_9_code 12 = .ok (.bipush 8, 2) := by decide +kernel
theorem d2_14 : decode prog_7_method_9_code 14 = .ok (.lushr, 1) := by decide +kernel
theorem d2_15 : decode prog_7_method_9_code 15 = .ok (.ladd, 1) := by decide +kernel
theorem d2_16 : decode prog_7_method_9_code 16 = .ok (.ldc2_w 53, 3) := by decide +kernel
theorem d2_19 : decode prog_7_method_9_code 19 = .ok (.land, 1) := by decide +kernel
theorem d2_20 : decode prog_7_method_9_code 20 = .ok (.lstore 4, 2) := by decide +kernel
theorem d2_22 : decode prog_7_method_9_code 22 = .ok (.ldc2_w 55, 3) := by decide +kernel
theorem d2_25 : decode prog_7_method_9_code 25 = .ok (.lload 4, 2) := by decide +kernel
theorem d2_27 : decode prog_7_method_9_code 27 = .ok (.lmul, 1) := by decide +kernel
theorem d2_28 : decode prog_7_method_9_code 28 = .ok (.lload 4, 2) := by decide +kernel
theorem d2_30 : decode prog_7_method_9_code 30 = .ok (.bipush 16, 2) := by decide +kernel
theorem d2_32 : decode prog_7_method_9_code 32 = .ok (.lushr, 1) := by decide +kernel
theorem d2_33 : decode prog_7_method_9_code 33 = .ok (.ladd, 1) := by decide +kernel
theorem d2_34 : decode prog_7_method_9_code 34 = .ok (.ldc2_w 57, 3) := by decide +kernel
theorem d2_37 : decode prog_7_method_9_code 37 = .ok (.land, 1) := by decide +kernel
theorem d2_38 : decode prog_7_method_9_code 38 = .ok (.lstore 6, 2) := by decide +kernel
theorem d2_40 : decode prog_7_method_9_code 40 = .ok (.ldc2_w 59, 3) := by decide +kernel
theorem d2_43 : decode prog_7_method_9_code 43 = .ok (.lload 6, 2) := by decide +kernel
theorem d2_45 : decode prog_7_method_9_code 45 = .ok (.lmul, 1) := by decide +kernel
theorem d2_46 : decode prog_7_method_9_code 46 = .ok (.lload 6, 2) := by decide +kernel
theorem d2_48 : decode prog_7_method_9_code 48 = .ok (.bipush 32, 2) := by decide +kernel
theorem d2_50 : decode prog_7_method_9_code 50 = .ok (.lushr, 1) := by decide +kernel
theorem d2_51 : decode prog_7_method_9_code 51 = .ok (.ladd, 1) := by decide +kernel
theorem d2_52 : decode prog_7_method_9_code 52 = .ok (.ldc2_w 61, 3) := by decide +kernel
theorem d2_55 : decode prog_7_method_9_code 55 = .ok (.land, 1) := by decide +kernel
theorem d2_56 : decode prog_7_method_9_code 56 = .ok (.lreturn, 1) := by decide +kernel
def own_dv (p0 : Int64) : Int64 := ((((10000 : Int64) * ((((100 : Int64) * ((((10 : Int64) * (p0 - (3472328296227680304 : Int64))) + (o_lushr (p0 - (3472328296227680304 : Int64)) (8 : Int32))) &&& (71777214294589695 : Int64))) + (o_lushr ((((10 : Int64) * (p0 - (3472328296227680304 : Int64))) + (o_lushr (p0 - (3472328296227680304 : Int64)) (8 : Int32))) &&& (71777214294589695 : Int64)) (16 : Int32))) &&& (281470681808895 : Int64))) + (o_lushr ((((100 : Int64) * ((((10 : Int64) * (p0 - (3472328296227680304 : Int64))) + (o_lushr (p0 - (3472328296227680304 : Int64)) (8 : Int32))) &&& (71777214294589695 : Int64))) + (o_lushr ((((10 : Int64) * (p0 - (3472328296227680304 : Int64))) + (o_lushr (p0 - (3472328296227680304 : Int64)) (8 : Int32))) &&& (71777214294589695 : Int64)) (16 : Int32))) &&& (281470681808895 : Int64)) (32 : Int32))) &&& (4294967295 : Int64))
theorem pn_1 : plainName "si/sklic/ByteWords" = true := by first | (simp [plainName, overriddenIn]; done) | decide +kernel
theorem ef_2 (m : MethodId) (x0 : Int64) : entryFrame m #[(.long x0)] 8 = mkF m 0 #[.val (.long x0), .second, .unset, .unset, .unset, .unset, .unset, .unset] [] := by first | (simp [entryFrame, mkF, argsToLocals, Value.category]; done) | rfl
def Q2 (Z : State) (p0 : Int64) (h0 : Heap) (n0 : Nat) (v : Option Value) (h : Heap) (L : List Loc) : Prop := v = some (.long (own_dv p0)) ∧ Fr n0 L ∧ h = h0
set_option maxRecDepth 65536 in
set_option maxHeartbeats 40000000 in
theorem rm2 (l : Launch) (Z : State) (a0 : Array Value) (hw : ∀ d ∈ tables_1, d.before a0 Z = true) (ws : List Jvm.Cond) (p0 : Int64) (h0 : Heap) (n0 : Nat) (Z0 : n0 ≤ h0.size) :
    MetFree l (⟨"si/sklic/ByteWords", "digitsValue", "(J)J"⟩ : MethodName) (head1 (Jvm.Cond.code (⟨"si/sklic/ByteWords", "digitsValue", "(J)J"⟩ : MethodName) prog_7_method_9_code 8 (some .long) :: ws) ({ frames := 0, cells := 0, slots := 0, locals := 0 } : Room)) (fun q_ U => q_ = #[(.long p0)] ∧ Z.Warmed39 U.vm ∧ U.heap = h0) (fun _ _ _ _ _ => True) (fun _ U o U' => ∃ v L, o = .returned v ∧ Q2 Z p0 h0 n0 v U'.heap L ∧ FrameEnd U o U' L ({ frames := 0, cells := 0, slots := 0, locals := 0 } : Room).cells ({ frames := 0, cells := 0, slots := 0, locals := 0 } : Room).slots) := by
  refine MetFree.of_bodySF (plainFor_of_name pn_1) hisR ?_
  intro p e s m args below meth c s₁ Bd hml0 hP hK
  obtain ⟨rfl, hZ, hh⟩ := hP
  have hx := Bd.exec
  have hby := Bd.bytes
  have hml : c.maxLocals = 8 := hml0
  have hown : s.vm.findClass "si/sklic/ByteWords" = some m.cls := findClass_of_methodNamed Bd.named
  have hnm := (name_of_methodNamed Bd.named Bd.method).1
  have X0 : Stand p l e ({ frames := 0, cells := 0, slots := 0, locals := 0 } : Room) s m #[(.long p0)] below meth c s₁ [] 0 0 := Stand.of_body Bd
  have e0 : s₁.heap = h0 := by rw [← hh, Bd.state]; rfl
  have N0 := Fr.nil n0
  show own_Go p e below s (Q2 Z p0 h0 n0) ({ frames := 0, cells := 0, slots := 0, locals := 0 } : Room).cells ({ frames := 0, cells := 0, slots := 0, locals := 0 } : Room).slots (s₁.setTop (entryFrame m #[(.long p0)] 8))
  refine own_via (fun t k => castTop (ef_2 m p0) k) ?_
  show own_Go p e below s _ _ _ (s₁.setTop (mkF m 0 #[.val (.long p0), .second, .unset, .unset, .unset, .unset, .unset, .unset] []))
  refine own_via (fun _ k => XS.lloadN X0.here hx rfl (hb hby d2_0) rfl k) ?_
  show own_Go p e below s _ _ _ (s₁.setTop (mkF m 1 #[.val (.long p0), .second, .unset, .unset, .unset, .unset, .unset, .unset] [(.long p0)]))
  refine own_via (fun _ k => X0.ldc2Long hx hown (mvT hZ (hw _ (List.mem_of_getElem? (i := 14) rfl))) (g := (mkF m 1 #[.val (.long p0), .second, .unset, .unset, .unset, .unset, .unset, .unset] [(.long p0)])) rfl (hb hby d2_1) _ k) ?_
  show own_Go p e below s _ _ _ (s₁.setTop (mkF m 4 #[.val (.long p0), .second, .unset, .unset, .unset, .unset, .unset, .unset] [(.long (3472328296227680304 : Int64)), (.long p0)]))
  refine own_via (fun _ k => XS.lsub X0.here hx rfl (hb hby d2_4) rfl k) ?_
  show own_Go p e below s _ _ _ (s₁.setTop (mkF m 5 #[.val (.long p0), .second, .unset, .unset, .unset, .unset, .unset, .unset] [(.long (p0 - (3472328296227680304 : Int64)))]))
  refine own_via (fun _ k => XS.lstoreN X0.here hx rfl (hb hby d2_5) rfl (l' := #[.val (.long p0), .second, .val (.long (p0 - (3472328296227680304 : Int64))), .second, .unset, .unset, .unset, .unset]) rfl k) ?_
  show own_Go p e below s _ _ _ (s₁.setTop (mkF m 6 #[.val (.long p0), .second, .val (.long (p0 - (3472328296227680304 : Int64))), .second, .unset, .unset, .unset, .unset] []))
  refine own_via (fun _ k => X0.ldc2Long hx hown (mvT hZ (hw _ (List.mem_of_getElem? (i := 15) rfl))) (g := (mkF m 6 #[.val (.long p0), .second, .val (.long (p0 - (3472328296227680304 : Int64))), .second, .unset, .unset, .unset, .unset] [])) rfl (hb hby d2_6) _ k) ?_
  show own_Go p e below s _ _ _ (s₁.setTop (mkF m 9 #[.val (.long p0), .second, .val (.long (p0 - (3472328296227680304 : Int64))), .second, .unset, .unset, .unset, .unset] [(.long (10 : Int64))]))
  refine own_via (fun _ k => XS.lloadN X0.here hx rfl (hb hby d2_9) rfl k) ?_
  show own_Go p e below s _ _ _ (s₁.setTop (mkF m 10 #[.val (.long p0), .second, .val (.long (p0 - (3472328296227680304 : Int64))), .second, .unset, .unset, .unset, .unset] [(.long (p0 - (3472328296227680304 : Int64))), (.long (10 : Int64))]))
  refine own_via (fun _ k => XS.lmul X0.here hx rfl (hb hby d2_10) rfl k) ?_
  show own_Go p e below s _ _ _ (s₁.setTop (mkF m 11 #[.val (.long p0), .second, .val (.long (p0 - (3472328296227680304 : Int64))), .second, .unset, .unset, .unset, .unset] [(.long ((10 : Int64) * (p0 - (3472328296227680304 : Int64))))]))
  refine own_via (fun _ k => XS.lloadN X0.here hx rfl (hb hby d2_11) rfl k) ?_
  show own_Go p e below s _ _ _ (s₁.setTop (mkF m 12 #[.val (.long p0), .second, .val (.long (p0 - (3472328296227680304 : Int64))), .second, .unset, .unset, .unset, .unset] [(.long (p0 - (3472328296227680304 : Int64))), (.long ((10 : Int64) * (p0 - (3472328296227680304 : Int64))))]))
  refine own_via (fun _ k => XS.bipush X0.here hx rfl (hb hby d2_12) k) ?_
  show own_Go p e below s _ _ _ (s₁.setTop (mkF m 14 #[.val (.long p0), .second, .val (.long (p0 - (3472328296227680304 : Int64))), .second, .unset, .unset, .unset, .unset] [(.int (8 : Int32)), (.long (p0 - (3472328296227680304 : Int64))), (.long ((10 : Int64) * (p0 - (3472328296227680304 : Int64))))]))
  refine own_via (fun _ k => XS.lushr X0.here hx rfl (hb hby d2_14) rfl k) ?_
  show own_Go p e below s _ _ _ (s₁.setTop (mkF m 15 #[.val (.long p0), .second, .val (.long (p0 - (3472328296227680304 : Int64))), .second, .unset, .unset, .unset, .unset] [(.long (o_lushr (p0 - (3472328296227680304 : Int64)) (8 : Int32))), (.long ((10 : Int64) * (p0 - (3472328296227680304 : Int64))))]))
  refine own_via (fun _ k => XS.ladd X0.here hx rfl (hb hby d2_15) rfl k) ?_
  show own_Go p e below s _ _ _ (s₁.setTop (mkF m 16 #[.val (.long p0), .second, .val (.long (p0 - (3472328296227680304 : Int64))), .second, .unset, .unset, .unset, .unset] [(.long (((10 : Int64) * (p0 - (3472328296227680304 : Int64))) + (o_lushr (p0 - (3472328296227680304 : Int64)) (8 : Int32))))]))
  refine own_via (fun _ k => X0.ldc2Long hx hown (mvT hZ (hw _ (List.mem_of_getElem? (i := 16) rfl))) (g := (mkF m 16 #[.val (.long p0), .second, .val (.long (p0 - (3472328296227680304 : Int64))), .second, .unset, .unset, .unset, .unset] [(.long (((10 : Int64) * (p0 - (3472328296227680304 : Int64))) + (o_lushr (p0 - (3472328296227680304 : Int64)) (8 : Int32))))])) rfl (hb hby d2_16) _ k) ?_
  show own_Go p e below s _ _ _ (s₁.setTop (mkF m 19 #[.val (.long p0), .second, .val (.long (p0 - (3472328296227680304 : Int64))), .second, .unset, .unset, .unset, .unset] [(.long (71777214294589695 : Int64)), (.long (((10 : Int64) * (p0 - (3472328296227680304 : Int64))) + (o_lushr (p0 - (3472328296227680304 : Int64)) (8 : Int32))))]))
  refine own_via (fun _ k => XS.land X0.here hx rfl (hb hby d2_19) rfl k) ?_
  show own_Go p e below s _ _ _ (s₁.setTop (mkF m 20 #[.val (.long p0), .second, .val (.long (p0 - (3472328296227680304 : Int64))), .second, .unset, .unset, .unset, .unset] [(.long ((((10 : Int64) * (p0 - (3472328296227680304 : Int64))) + (o_lushr (p0 - (3472328296227680304 : Int64)) (8 : Int32))) &&& (71777214294589695 : Int64)))]))
  refine own_via (fun _ k => XS.lstore X0.here hx rfl (hb hby d2_20) rfl (l' := #[.val (.long p0), .second, .val (.long (p0 - (3472328296227680304 : Int64))), .second, .val (.long ((((10 : Int64) * (p0 - (3472328296227680304 : Int64))) + (o_lushr (p0 - (3472328296227680304 : Int64)) (8 : Int32))) &&& (71777214294589695 : Int64))), .second, .unset, .unset]) rfl k) ?_
  show own_Go p e below s _ _ _ (s₁.setTop (mkF m 22 #[.val (.long p0), .second, .val (.long (p0 - (3472328296227680304 : Int64))), .second, .val (.long ((((10 : Int64) * (p0 - (3472328296227680304 : Int64))) + (o_lushr (p0 - (3472328296227680304 : Int64)) (8 : Int32))) &&& (71777214294589695 : Int64))), .second, .unset, .unset] []))
  refine own_via (fun _ k => X0.ldc2Long hx hown (mvT hZ (hw _ (List.mem_of_getElem? (i := 17) rfl))) (g := (mkF m 22 #[.val (.long p0), .second, .val (.long (p0 - (3472328296227680304 : Int64))), .second, .val (.long ((((10 : Int64) * (p0 - (3472328296227680304 : Int64))) + (o_lushr (p0 - (3472328296227680304 : Int64)) (8 : Int32))) &&& (71777214294589695 : Int64))), .second, .unset, .unset] [])) rfl (hb hby d2_22) _ k) ?_
  show own_Go p e below s _ _ _ (s₁.setTop (mkF m 25 #[.val (.long p0), .second, .val (.long (p0 - (3472328296227680304 : Int64))), .second, .val (.long ((((10 : Int64) * (p0 - (3472328296227680304 : Int64))) + (o_lushr (p0 - (3472328296227680304 : Int64)) (8 : Int32))) &&& (71777214294589695 : Int64))), .second, .unset, .unset] [(.long (100 : Int64))]))
  refine own_via (fun _ k => XS.lload X0.here hx rfl (hb hby d2_25) rfl k) ?_
  show own_Go p e below s _ _ _ (s₁.setTop (mkF m 27 #[.val (.long p0), .second, .val (.long (p0 - (3472328296227680304 : Int64))), .second, .val (.long ((((10 : Int64) * (p0 - (3472328296227680304 : Int64))) + (o_lushr (p0 - (3472328296227680304 : Int64)) (8 : Int32))) &&& (71777214294589695 : Int64))), .second, .unset, .unset] [(.long ((((10 : Int64) * (p0 - (3472328296227680304 : Int64))) + (o_lushr (p0 - (3472328296227680304 : Int64)) (8 : Int32))) &&& (71777214294589695 : Int64))), (.long (100 : Int64))]))
  refine own_via (fun _ k => XS.lmul X0.here hx rfl (hb hby d2_27) rfl k) ?_
  show own_Go p e below s _ _ _ (s₁.setTop (mkF m 28 #[.val (.long p0), .second, .val (.long (p0 - (3472328296227680304 : Int64))), .second, .val (.long ((((10 : Int64) * (p0 - (3472328296227680304 : Int64))) + (o_lushr (p0 - (3472328296227680304 : Int64)) (8 : Int32))) &&& (71777214294589695 : Int64))), .second, .unset, .unset] [(.long ((100 : Int64) * ((((10 : Int64) * (p0 - (3472328296227680304 : Int64))) + (o_lushr (p0 - (3472328296227680304 : Int64)) (8 : Int32))) &&& (71777214294589695 : Int64))))]))
  refine own_via (fun _ k => XS.lload X0.here hx rfl (hb hby d2_28) rfl k) ?_
  show own_Go p e below s _ _ _ (s₁.setTop (mkF m 30 #[.val (.long p0), .second, .val (.long (p0 - (3472328296227680304 : Int64))), .second, .val (.long ((((10 : Int64) * (p0 - (3472328296227680304 : Int64))) + (o_lushr (p0 - (3472328296227680304 : Int64)) (8 : Int32))) &&& (71777214294589695 : Int64))), .second, .unset, .unset] [(.long ((((10 : Int64) * (p0 - (3472328296227680304 : Int64))) + (o_lushr (p0 - (3472328296227680304 : Int64)) (8 : Int32))) &&& (71777214294589695 : Int64))), (.long ((100 : Int64) * ((((10 : Int64) * (p0 - (3472328296227680304 : Int64))) + (o_lushr (p0 - (3472328296227680304 : Int64)) (8 : Int32))) &&& (71777214294589695 : Int64))))]))
  refine own_via (fun _ k => XS.bipush X0.here hx rfl (hb hby d2_30) k) ?_
  show own_Go p e below s _ _ _ (s₁.setTop (mkF m 32 #[.val (.long p0), .second, .val (.long (p0 - (3472328296227680304 : Int64))), .second, .val (.long ((((10 : Int64) * (p0 - (3472328296227680304 : Int64))) + (o_lushr (p0 - (3472328296227680304 : Int64)) (8 : Int32))) &&& (71777214294589695 : Int64))), .second, .unset, .unset] [(.int (16 : Int32)), (.long ((((10 : Int64) * (p0 - (3472328296227680304 : Int64))) + (o_lushr (p0 - (3472328296227680304 : Int64)) (8 : Int32))) &&& (71777214294589695 : Int64))), (.long ((100 : Int64) * ((((10 : Int64) * (p0 - (3472328296227680304 : Int64))) + (o_lushr (p0 - (3472328296227680304 : Int64)) (8 : Int32))) &&& (71777214294589695 : Int64))))]))
  refine own_via (fun _ k => XS.lushr X0.here hx rfl (hb hby d2_32) rfl k) ?_
  show own_Go p e below s _ _ _ (s₁.setTop (mkF m 33 #[.val (.long p0), .second, .val (.long (p0 - (3472328296227680304 : Int64))), .second, .val (.long ((((10 : Int64) * (p0 - (3472328296227680304 : Int64))) + (o_lushr (p0 - (3472328296227680304 : Int64)) (8 : Int32))) &&& (71777214294589695 : Int64))), .second, .unset, .unset] [(.long (o_lushr ((((10 : Int64) * (p0 - (3472328296227680304 : Int64))) + (o_lushr (p0 - (3472328296227680304 : Int64)) (8 : Int32))) &&& (71777214294589695 : Int64)) (16 : Int32))), (.long ((100 : Int64) * ((((10 : Int64) * (p0 - (3472328296227680304 : Int64))) + (o_lushr (p0 - (3472328296227680304 : Int64)) (8 : Int32))) &&& (71777214294589695 : Int64))))]))
  refine own_via (fun _ k => XS.ladd X0.here hx rfl (hb hby d2_33) rfl k) ?_
  show own_Go p e below s _ _ _ (s₁.setTop (mkF m 34 #[.val (.long p0), .second, .val (.long (p0 - (3472328296227680304 : Int64))), .second, .val (.long ((((10 : Int64) * (p0 - (3472328296227680304 : Int64))) + (o_lushr (p0 - (3472328296227680304 : Int64)) (8 : Int32))) &&& (71777214294589695 : Int64))), .second, .unset, .unset] [(.long (((100 : Int64) * ((((10 : Int64) * (p0 - (3472328296227680304 : Int64))) + (o_lushr (p0 - (3472328296227680304 : Int64)) (8 : Int32))) &&& (71777214294589695 : Int64))) + (o_lushr ((((10 : Int64) * (p0 - (3472328296227680304 : Int64))) + (o_lushr (p0 - (3472328296227680304 : Int64)) (8 : Int32))) &&& (71777214294589695 : Int64)) (16 : Int32))))]))
  refine own_via (fun _ k => X0.ldc2Long hx hown (mvT hZ (hw _ (List.mem_of_getElem? (i := 18) rfl))) (g := (mkF m 34 #[.val (.long p0), .second, .val (.long (p0 - (3472328296227680304 : Int64))), .second, .val (.long ((((10 : Int64) * (p0 - (3472328296227680304 : Int64))) + (o_lushr (p0 - (3472328296227680304 : Int64)) (8 : Int32))) &&& (71777214294589695 : Int64))), .second, .unset, .unset] [(.long (((100 : Int64) * ((((10 : Int64) * (p0 - (3472328296227680304 : Int64))) + (o_lushr (p0 - (3472328296227680304 : Int64)) (8 : Int32))) &&& (71777214294589695 : Int64))) + (o_lushr ((((10 : Int64) * (p0 - (3472328296227680304 : Int64))) + (o_lushr (p0 - (3472328296227680304 : Int64)) (8 : Int32))) &&& (71777214294589695 : Int64)) (16 : Int32))))])) rfl (hb hby d2_34) _ k) ?_
  show own_Go p e below s _ _ _ (s₁.setTop (mkF m 37 #[.val (.long p0), .second, .val (.long (p0 - (3472328296227680304 : Int64))), .second, .val (.long ((((10 : Int64) * (p0 - (3472328296227680304 : Int64))) + (o_lushr (p0 - (3472328296227680304 : Int64)) (8 : Int32))) &&& (71777214294589695 : Int64))), .second, .unset, .unset] [(.long (281470681808895 : Int64)), (.long (((100 : Int64) * ((((10 : Int64) * (p0 - (3472328296227680304 : Int64))) + (o_lushr (p0 - (3472328296227680304 : Int64)) (8 : Int32))) &&& (71777214294589695 : Int64))) + (o_lushr ((((10 : Int64) * (p0 - (3472328296227680304 : Int64))) + (o_lushr (p0 - (3472328296227680304 : Int64)) (8 : Int32))) &&& (71777214294589695 : Int64)) (16 : Int32))))]))
  refine own_via (fun _ k => XS.land X0.here hx rfl (hb hby d2_37) rfl k) ?_
  show own_Go p e below s _ _ _ (s₁.setTop (mkF m 38 #[.val (.long p0), .second, .val (.long (p0 - (3472328296227680304 : Int64))), .second, .val (.long ((((10 : Int64) * (p0 - (3472328296227680304 : Int64))) + (o_lushr (p0 - (3472328296227680304 : Int64)) (8 : Int32))) &&& (71777214294589695 : Int64))), .second, .unset, .unset] [(.long ((((100 : Int64) * ((((10 : Int64) * (p0 - (3472328296227680304 : Int64))) + (o_lushr (p0 - (3472328296227680304 : Int64)) (8 : Int32))) &&& (71777214294589695 : Int64))) + (o_lushr ((((10 : Int64) * (p0 - (3472328296227680304 : Int64))) + (o_lushr (p0 - (3472328296227680304 : Int64)) (8 : Int32))) &&& (71777214294589695 : Int64)) (16 : Int32))) &&& (281470681808895 : Int64)))]))
  refine own_via (fun _ k => XS.lstore X0.here hx rfl (hb hby d2_38) rfl (l' := #[.val (.long p0), .second, .val (.long (p0 - (3472328296227680304 : Int64))), .second, .val (.long ((((10 : Int64) * (p0 - (3472328296227680304 : Int64))) + (o_lushr (p0 - (3472328296227680304 : Int64)) (8 : Int32))) &&& (71777214294589695 : Int64))), .second, .val (.long ((((100 : Int64) * ((((10 : Int64) * (p0 - (3472328296227680304 : Int64))) + (o_lushr (p0 - (3472328296227680304 : Int64)) (8 : Int32))) &&& (71777214294589695 : Int64))) + (o_lushr ((((10 : Int64) * (p0 - (3472328296227680304 : Int64))) + (o_lushr (p0 - (3472328296227680304 : Int64)) (8 : Int32))) &&& (71777214294589695 : Int64)) (16 : Int32))) &&& (281470681808895 : Int64))), .second]) rfl k) ?_
  show own_Go p e below s _ _ _ (s₁.setTop (mkF m 40 #[.val (.long p0), .second, .val (.long (p0 - (3472328296227680304 : Int64))), .second, .val (.long ((((10 : Int64) * (p0 - (3472328296227680304 : Int64))) + (o_lushr (p0 - (3472328296227680304 : Int64)) (8 : Int32))) &&& (71777214294589695 : Int64))), .second, .val (.long ((((100 : Int64) * ((((10 : Int64) * (p0 - (3472328296227680304 : Int64))) + (o_lushr (p0 - (3472328296227680304 : Int64)) (8 : Int32))) &&& (71777214294589695 : Int64))) + (o_lushr ((((10 : Int64) * (p0 - (3472328296227680304 : Int64))) + (o_lushr (p0 - (3472328296227680304 : Int64)) (8 : Int32))) &&& (71777214294589695 : Int64)) (16 : Int32))) &&& (281470681808895 : Int64))), .second] []))
  refine own_via (fun _ k => X0.ldc2Long hx hown (mvT hZ (hw _ (List.mem_of_getElem? (i := 19) rfl))) (g := (mkF m 40 #[.val (.long p0), .second, .val (.long (p0 - (3472328296227680304 : Int64))), .second, .val (.long ((((10 : Int64) * (p0 - (3472328296227680304 : Int64))) + (o_lushr (p0 - (3472328296227680304 : Int64)) (8 : Int32))) &&& (71777214294589695 : Int64))), .second, .val (.long ((((100 : Int64) * ((((10 : Int64) * (p0 - (3472328296227680304 : Int64))) + (o_lushr (p0 - (3472328296227680304 : Int64)) (8 : Int32))) &&& (71777214294589695 : Int64))) + (o_lushr ((((10 : Int64) * (p0 - (3472328296227680304 : Int64))) + (o_lushr (p0 - (3472328296227680304 : Int64)) (8 : Int32))) &&& (71777214294589695 : Int64)) (16 : Int32))) &&& (281470681808895 : Int64))), .second] [])) rfl (hb hby d2_40) _ k) ?_
  show own_Go p e below s _ _ _ (s₁.setTop (mkF m 43 #[.val (.long p0), .second, .val (.long (p0 - (3472328296227680304 : Int64))), .second, .val (.long ((((10 : Int64) * (p0 - (3472328296227680304 : Int64))) + (o_lushr (p0 - (3472328296227680304 : Int64)) (8 : Int32))) &&& (71777214294589695 : Int64))), .second, .val (.long ((((100 : Int64) * ((((10 : Int64) * (p0 - (3472328296227680304 : Int64))) + (o_lushr (p0 - (3472328296227680304 : Int64)) (8 : Int32))) &&& (71777214294589695 : Int64))) + (o_lushr ((((10 : Int64) * (p0 - (3472328296227680304 : Int64))) + (o_lushr (p0 - (3472328296227680304 : Int64)) (8 : Int32))) &&& (71777214294589695 : Int64)) (16 : Int32))) &&& (281470681808895 : Int64))), .second] [(.long (10000 : Int64))]))
  refine own_via (fun _ k => XS.lload X0.here hx rfl (hb hby d2_43) rfl k) ?_
  show own_Go p e below s _ _ _ (s₁.setTop (mkF m 45 #[.val (.long p0), .second, .val (.long (p0 - (3472328296227680304 : Int64))), .second, .val (.long ((((10 : Int64) * (p0 - (3472328296227680304 : Int64))) + (o_lushr (p0 - (3472328296227680304 : Int64)) (8 : Int32))) &&& (71777214294589695 : Int64))), .second, .val (.long ((((100 : Int64) * ((((10 : Int64) * (p0 - (3472328296227680304 : Int64))) + (o_lushr (p0 - (3472328296227680304 : Int64)) (8 : Int32))) &&& (71777214294589695 : Int64))) + (o_lushr ((((10 : Int64) * (p0 - (3472328296227680304 : Int64))) + (o_lushr (p0 - (3472328296227680304 : Int64)) (8 : Int32))) &&& (71777214294589695 : Int64)) (16 : Int32))) &&& (281470681808895 : Int64))), .second] [(.long ((((100 : Int64) * ((((10 : Int64) * (p0 - (3472328296227680304 : Int64))) + (o_lushr (p0 - (3472328296227680304 : Int64)) (8 : Int32))) &&& (71777214294589695 : Int64))) + (o_lushr ((((10 : Int64) * (p0 - (3472328296227680304 : Int64))) + (o_lushr (p0 - (3472328296227680304 : Int64)) (8 : Int32))) &&& (71777214294589695 : Int64)) (16 : Int32))) &&& (281470681808895 : Int64))), (.long (10000 : Int64))]))
  refine own_via (fun _ k => XS.lmul X0.here hx rfl (hb hby d2_45) rfl k) ?_
  show own_Go p e below s _ _ _ (s₁.setTop (mkF m 46 #[.val (.long p0), .second, .val (.long (p0 - (3472328296227680304 : Int64))), .second, .val (.long ((((10 : Int64) * (p0 - (3472328296227680304 : Int64))) + (o_lushr (p0 - (3472328296227680304 : Int64)) (8 : Int32))) &&& (71777214294589695 : Int64))), .second, .val (.long ((((100 : Int64) * ((((10 : Int64) * (p0 - (3472328296227680304 : Int64))) + (o_lushr (p0 - (3472328296227680304 : Int64)) (8 : Int32))) &&& (71777214294589695 : Int64))) + (o_lushr ((((10 : Int64) * (p0 - (3472328296227680304 : Int64))) + (o_lushr (p0 - (3472328296227680304 : Int64)) (8 : Int32))) &&& (71777214294589695 : Int64)) (16 : Int32))) &&& (281470681808895 : Int64))), .second] [(.long ((10000 : Int64) * ((((100 : Int64) * ((((10 : Int64) * (p0 - (3472328296227680304 : Int64))) + (o_lushr (p0 - (3472328296227680304 : Int64)) (8 : Int32))) &&& (71777214294589695 : Int64))) + (o_lushr ((((10 : Int64) * (p0 - (3472328296227680304 : Int64))) + (o_lushr (p0 - (3472328296227680304 : Int64)) (8 : Int32))) &&& (71777214294589695 : Int64)) (16 : Int32))) &&& (281470681808895 : Int64))))]))
  refine own_via (fun _ k => XS.lload X0.here hx rfl (hb hby d2_46) rfl k) ?_
  show own_Go p e below s _ _ _ (s₁.setTop (mkF m 48 #[.val (.long p0), .second, .val (.long (p0 - (3472328296227680304 : Int64))), .second, .val (.long ((((10 : Int64) * (p0 - (3472328296227680304 : Int64))) + (o_lushr (p0 - (3472328296227680304 : Int64)) (8 : Int32))) &&& (71777214294589695 : Int64))), .second, .val (.long ((((100 : Int64) * ((((10 : Int64) * (p0 - (3472328296227680304 : Int64))) + (o_lushr (p0 - (3472328296227680304 : Int64)) (8 : Int32))) &&& (71777214294589695 : Int64))) + (o_lushr ((((10 : Int64) * (p0 - (3472328296227680304 : Int64))) + (o_lushr (p0 - (3472328296227680304 : Int64)) (8 : Int32))) &&& (71777214294589695 : Int64)) (16 : Int32))) &&& (281470681808895 : Int64))), .second] [(.long ((((100 : Int64) * ((((10 : Int64) * (p0 - (3472328296227680304 : Int64))) + (o_lushr (p0 - (3472328296227680304 : Int64)) (8 : Int32))) &&& (71777214294589695 : Int64))) + (o_lushr ((((10 : Int64) * (p0 - (3472328296227680304 : Int64))) + (o_lushr (p0 - (3472328296227680304 : Int64)) (8 : Int32))) &&& (71777214294589695 : Int64)) (16 : Int32))) &&& (281470681808895 : Int64))), (.long ((10000 : Int64) * ((((100 : Int64) * ((((10 : Int64) * (p0 - (3472328296227680304 : Int64))) + (o_lushr (p0 - (3472328296227680304 : Int64)) (8 : Int32))) &&& (71777214294589695 : Int64))) + (o_lushr ((((10 : Int64) * (p0 - (3472328296227680304 : Int64))) + (o_lushr (p0 - (3472328296227680304 : Int64)) (8 : Int32))) &&& (71777214294589695 : Int64)) (16 : Int32))) &&& (281470681808895 : Int64))))]))
  refine own_via (fun _ k => XS.bipush X0.here hx rfl (hb hby d2_48) k) ?_
  show own_Go p e below s _ _ _ (s₁.setTop (mkF m 50 #[.val (.long p0), .second, .val (.long (p0 - (3472328296227680304 : Int64))), .second, .val (.long ((((10 : Int64) * (p0 - (3472328296227680304 : Int64))) + (o_lushr (p0 - (3472328296227680304 : Int64)) (8 : Int32))) &&& (71777214294589695 : Int64))), .second, .val (.long ((((100 : Int64) * ((((10 : Int64) * (p0 - (3472328296227680304 : Int64))) + (o_lushr (p0 - (3472328296227680304 : Int64)) (8 : Int32))) &&& (71777214294589695 : Int64))) + (o_lushr ((((10 : Int64) * (p0 - (3472328296227680304 : Int64))) + (o_lushr (p0 - (3472328296227680304 : Int64)) (8 : Int32))) &&& (71777214294589695 : Int64)) (16 : Int32))) &&& (281470681808895 : Int64))), .second] [(.int (32 : Int32)), (.long ((((100 : Int64) * ((((10 : Int64) * (p0 - (3472328296227680304 : Int64))) + (o_lushr (p0 - (3472328296227680304 : Int64)) (8 : Int32))) &&& (71777214294589695 : Int64))) + (o_lushr ((((10 : Int64) * (p0 - (3472328296227680304 : Int64))) + (o_lushr (p0 - (3472328296227680304 : Int64)) (8 : Int32))) &&& (71777214294589695 : Int64)) (16 : Int32))) &&& (281470681808895 : Int64))), (.long ((10000 : Int64) * ((((100 : Int64) * ((((10 : Int64) * (p0 - (3472328296227680304 : Int64))) + (o_lushr (p0 - (3472328296227680304 : Int64)) (8 : Int32))) &&& (71777214294589695 : Int64))) + (o_lushr ((((10 : Int64) * (p0 - (3472328296227680304 : Int64))) + (o_lushr (p0 - (3472328296227680304 : Int64)) (8 : Int32))) &&& (71777214294589695 : Int64)) (16 : Int32))) &&& (281470681808895 : Int64))))]))
  refine own_via (fun _ k => XS.lushr X0.here hx rfl (hb hby d2_50) rfl k) ?_
  show own_Go p e below s _ _ _ (s₁.setTop (mkF m 51 #[.val (.long p0), .second, .val (.long (p0 - (3472328296227680304 : Int64))), .second, .val (.long ((((10 : Int64) * (p0 - (3472328296227680304 : Int64))) + (o_lushr (p0 - (3472328296227680304 : Int64)) (8 : Int32))) &&& (71777214294589695 : Int64))), .second, .val (.long ((((100 : Int64) * ((((10 : Int64) * (p0 - (3472328296227680304 : Int64))) + (o_lushr (p0 - (3472328296227680304 : Int64)) (8 : Int32))) &&& (71777214294589695 : Int64))) + (o_lushr ((((10 : Int64) * (p0 - (3472328296227680304 : Int64))) + (o_lushr (p0 - (3472328296227680304 : Int64)) (8 : Int32))) &&& (71777214294589695 : Int64)) (16 : Int32))) &&& (281470681808895 : Int64))), .second] [(.long (o_lushr ((((100 : Int64) * ((((10 : Int64) * (p0 - (3472328296227680304 : Int64))) + (o_lushr (p0 - (3472328296227680304 : Int64)) (8 : Int32))) &&& (71777214294589695 : Int64))) + (o_lushr ((((10 : Int64) * (p0 - (3472328296227680304 : Int64))) + (o_lushr (p0 - (3472328296227680304 : Int64)) (8 : Int32))) &&& (71777214294589695 : Int64)) (16 : Int32))) &&& (281470681808895 : Int64)) (32 : Int32))), (.long ((10000 : Int64) * ((((100 : Int64) * ((((10 : Int64) * (p0 - (3472328296227680304 : Int64))) + (o_lushr (p0 - (3472328296227680304 : Int64)) (8 : Int32))) &&& (71777214294589695 : Int64))) + (o_lushr ((((10 : Int64) * (p0 - (3472328296227680304 : Int64))) + (o_lushr (p0 - (3472328296227680304 : Int64)) (8 : Int32))) &&& (71777214294589695 : Int64)) (16 : Int32))) &&& (281470681808895 : Int64))))]))
  refine own_via (fun _ k => XS.ladd X0.here hx rfl (hb hby d2_51) rfl k) ?_
  show own_Go p e below s _ _ _ (s₁.setTop (mkF m 52 #[.val (.long p0), .second, .val (.long (p0 - (3472328296227680304 : Int64))), .second, .val (.long ((((10 : Int64) * (p0 - (3472328296227680304 : Int64))) + (o_lushr (p0 - (3472328296227680304 : Int64)) (8 : Int32))) &&& (71777214294589695 : Int64))), .second, .val (.long ((((100 : Int64) * ((((10 : Int64) * (p0 - (3472328296227680304 : Int64))) + (o_lushr (p0 - (3472328296227680304 : Int64)) (8 : Int32))) &&& (71777214294589695 : Int64))) + (o_lushr ((((10 : Int64) * (p0 - (3472328296227680304 : Int64))) + (o_lushr (p0 - (3472328296227680304 : Int64)) (8 : Int32))) &&& (71777214294589695 : Int64)) (16 : Int32))) &&& (281470681808895 : Int64))), .second] [(.long (((10000 : Int64) * ((((100 : Int64) * ((((10 : Int64) * (p0 - (3472328296227680304 : Int64))) + (o_lushr (p0 - (3472328296227680304 : Int64)) (8 : Int32))) &&& (71777214294589695 : Int64))) + (o_lushr ((((10 : Int64) * (p0 - (3472328296227680304 : Int64))) + (o_lushr (p0 - (3472328296227680304 : Int64)) (8 : Int32))) &&& (71777214294589695 : Int64)) (16 : Int32))) &&& (281470681808895 : Int64))) + (o_lushr ((((100 : Int64) * ((((10 : Int64) * (p0 - (3472328296227680304 : Int64))) + (o_lushr (p0 - (3472328296227680304 : Int64)) (8 : Int32))) &&& (71777214294589695 : Int64))) + (o_lushr ((((10 : Int64) * (p0 - (3472328296227680304 : Int64))) + (o_lushr (p0 - (3472328296227680304 : Int64)) (8 : Int32))) &&& (71777214294589695 : Int64)) (16 : Int32))) &&& (281470681808895 : Int64)) (32 : Int32))))]))
  refine own_via (fun _ k => X0.ldc2Long hx hown (mvT hZ (hw _ (List.mem_of_getElem? (i := 20) rfl))) (g := (mkF m 52 #[.val (.long p0), .second, .val (.long (p0 - (3472328296227680304 : Int64))), .second, .val (.long ((((10 : Int64) * (p0 - (3472328296227680304 : Int64))) + (o_lushr (p0 - (3472328296227680304 : Int64)) (8 : Int32))) &&& (71777214294589695 : Int64))), .second, .val (.long ((((100 : Int64) * ((((10 : Int64) * (p0 - (3472328296227680304 : Int64))) + (o_lushr (p0 - (3472328296227680304 : Int64)) (8 : Int32))) &&& (71777214294589695 : Int64))) + (o_lushr ((((10 : Int64) * (p0 - (3472328296227680304 : Int64))) + (o_lushr (p0 - (3472328296227680304 : Int64)) (8 : Int32))) &&& (71777214294589695 : Int64)) (16 : Int32))) &&& (281470681808895 : Int64))), .second] [(.long (((10000 : Int64) * ((((100 : Int64) * ((((10 : Int64) * (p0 - (3472328296227680304 : Int64))) + (o_lushr (p0 - (3472328296227680304 : Int64)) (8 : Int32))) &&& (71777214294589695 : Int64))) + (o_lushr ((((10 : Int64) * (p0 - (3472328296227680304 : Int64))) + (o_lushr (p0 - (3472328296227680304 : Int64)) (8 : Int32))) &&& (71777214294589695 : Int64)) (16 : Int32))) &&& (281470681808895 : Int64))) + (o_lushr ((((100 : Int64) * ((((10 : Int64) * (p0 - (3472328296227680304 : Int64))) + (o_lushr (p0 - (3472328296227680304 : Int64)) (8 : Int32))) &&& (71777214294589695 : Int64))) + (o_lushr ((((10 : Int64) * (p0 - (3472328296227680304 : Int64))) + (o_lushr (p0 - (3472328296227680304 : Int64)) (8 : Int32))) &&& (71777214294589695 : Int64)) (16 : Int32))) &&& (281470681808895 : Int64)) (32 : Int32))))])) rfl (hb hby d2_52) _ k) ?_
  show own_Go p e below s _ _ _ (s₁.setTop (mkF m 55 #[.val (.long p0), .second, .val (.long (p0 - (3472328296227680304 : Int64))), .second, .val (.long ((((10 : Int64) * (p0 - (3472328296227680304 : Int64))) + (o_lushr (p0 - (3472328296227680304 : Int64)) (8 : Int32))) &&& (71777214294589695 : Int64))), .second, .val (.long ((((100 : Int64) * ((((10 : Int64) * (p0 - (3472328296227680304 : Int64))) + (o_lushr (p0 - (3472328296227680304 : Int64)) (8 : Int32))) &&& (71777214294589695 : Int64))) + (o_lushr ((((10 : Int64) * (p0 - (3472328296227680304 : Int64))) + (o_lushr (p0 - (3472328296227680304 : Int64)) (8 : Int32))) &&& (71777214294589695 : Int64)) (16 : Int32))) &&& (281470681808895 : Int64))), .second] [(.long (4294967295 : Int64)), (.long (((10000 : Int64) * ((((100 : Int64) * ((((10 : Int64) * (p0 - (3472328296227680304 : Int64))) + (o_lushr (p0 - (3472328296227680304 : Int64)) (8 : Int32))) &&& (71777214294589695 : Int64))) + (o_lushr ((((10 : Int64) * (p0 - (3472328296227680304 : Int64))) + (o_lushr (p0 - (3472328296227680304 : Int64)) (8 : Int32))) &&& (71777214294589695 : Int64)) (16 : Int32))) &&& (281470681808895 : Int64))) + (o_lushr ((((100 : Int64) * ((((10 : Int64) * (p0 - (3472328296227680304 : Int64))) + (o_lushr (p0 - (3472328296227680304 : Int64)) (8 : Int32))) &&& (71777214294589695 : Int64))) + (o_lushr ((((10 : Int64) * (p0 - (3472328296227680304 : Int64))) + (o_lushr (p0 - (3472328296227680304 : Int64)) (8 : Int32))) &&& (71777214294589695 : Int64)) (16 : Int32))) &&& (281470681808895 : Int64)) (32 : Int32))))]))
  refine own_via (fun _ k => XS.land X0.here hx rfl (hb hby d2_55) rfl k) ?_
  show own_Go p e below s _ _ _ (s₁.setTop (mkF m 56 #[.val (.long p0), .second, .val (.long (p0 - (3472328296227680304 : Int64))), .second, .val (.long ((((10 : Int64) * (p0 - (3472328296227680304 : Int64))) + (o_lushr (p0 - (3472328296227680304 : Int64)) (8 : Int32))) &&& (71777214294589695 : Int64))), .second, .val (.long ((((100 : Int64) * ((((10 : Int64) * (p0 - (3472328296227680304 : Int64))) + (o_lushr (p0 - (3472328296227680304 : Int64)) (8 : Int32))) &&& (71777214294589695 : Int64))) + (o_lushr ((((10 : Int64) * (p0 - (3472328296227680304 : Int64))) + (o_lushr (p0 - (3472328296227680304 : Int64)) (8 : Int32))) &&& (71777214294589695 : Int64)) (16 : Int32))) &&& (281470681808895 : Int64))), .second] [(.long ((((10000 : Int64) * ((((100 : Int64) * ((((10 : Int64) * (p0 - (3472328296227680304 : Int64))) + (o_lushr (p0 - (3472328296227680304 : Int64)) (8 : Int32))) &&& (71777214294589695 : Int64))) + (o_lushr ((((10 : Int64) * (p0 - (3472328296227680304 : Int64))) + (o_lushr (p0 - (3472328296227680304 : Int64)) (8 : Int32))) &&& (71777214294589695 : Int64)) (16 : Int32))) &&& (281470681808895 : Int64))) + (o_lushr ((((100 : Int64) * ((((10 : Int64) * (p0 - (3472328296227680304 : Int64))) + (o_lushr (p0 - (3472328296227680304 : Int64)) (8 : Int32))) &&& (71777214294589695 : Int64))) + (o_lushr ((((10 : Int64) * (p0 - (3472328296227680304 : Int64))) + (o_lushr (p0 - (3472328296227680304 : Int64)) (8 : Int32))) &&& (71777214294589695 : Int64)) (16 : Int32))) &&& (281470681808895 : Int64)) (32 : Int32))) &&& (4294967295 : Int64)))]))
  exact own_goJ X0 hx Bd.returns (hb hby d2_56) Bd.notSynchronized (by decide) (by decide) (by rw [e0]; exact ⟨by rw [own_dv] <;> rfl, N0, rfl⟩)
theorem own_db_n (n d q : Int32) (k D : Nat) (hd : d.toInt = D) (hD : 0 < D) (h0 : 0 ≤ n.toInt) (hk : own_n q % 64 = k) (hk2 : k ≤ 56) : own_N (own_db n d q) = (48 + n.toInt.toNat / D % 10) * 2 ^ k := by
  have hne : d ≠ -1 := fun h => by rw [h] at hd; simp at hd
  have h1 := (c_idiv n d D hd hne).1 h0
  have h2 : 0 ≤ (n / d).toInt := by rw [h1]; exact Int.ediv_nonneg h0 (by omega)
  have h3 := (c_irem (n / d) 10 10 rfl).1 h2
  have e1 : o_irem (n / d) 10 = (n / d) % 10 := irem_eq_mod _ _
  have h4 : (o_irem (n / d) 10).toInt = n.toInt / D % 10 := by rw [e1, h3, h1]
  have h5 : (o_i2l (o_irem (n / d) 10)).toInt = n.toInt / D % 10 := by rw [own_i2l, h4]
  have h6 : own_N (o_i2l (o_irem (n / d) 10)) = n.toInt.toNat / D % 10 := by
    have h7 : ((n.toInt.toNat / D % 10 : Nat) : Int) = n.toInt / D % 10 := by
      rw [Int.natCast_emod, Int.natCast_ediv, Int.toNat_of_nonneg h0]; rfl
    rw [← h7] at h5
    rw [own_N_int] at h5
    have := own_N_lt (o_i2l (o_irem (n / d) 10))
    split at h5 <;> omega
  unfold own_db
  rw [own_N_lshl _ _ k hk, own_N_add, h6]
  have h8 : own_N (48 : Int64) = 48 := rfl
  have h9 : n.toInt.toNat / D % 10 < 10 := Nat.mod_lt _ (by decide)
  rw [h8, Nat.mod_eq_of_lt (show 48 + n.toInt.toNat / D % 10 < 18446744073709551616 by omega)]
  apply Nat.mod_eq_of_lt
  have : 2 ^ k ≤ 2 ^ 56 := Nat.pow_le_pow_right (by decide) hk2
  calc (48 + n.toInt.toNat / D % 10) * 2 ^ k ≤ 57 * 2 ^ 56 := Nat.mul_le_mul (by omega) this
    _ < _ := by decide
theorem own_or8 (A w : Int64) (k a d : Nat) (hA : own_N A = a) (ha : a < 2 ^ k) (hd : d < 10) (hw : own_N w = (48 + d) * 2 ^ k) : own_N (A ||| w) = a + (48 + d) * 2 ^ k ∧ a + (48 + d) * 2 ^ k < 2 ^ (k + 8) := by
  constructor
  · rw [own_N_or, hA, hw, own_or_add ha]
  · have h1 : (48 + d) * 2 ^ k ≤ 57 * 2 ^ k := Nat.mul_le_mul_right _ (by omega)
    rw [Nat.pow_add]
    generalize (48 + d) * 2 ^ k = u at *
    generalize 2 ^ k = v at *
    omega
theorem own_dig (M : Nat) (h : M < 100000000) : M / 10000000 % 10 * 10000000 + M / 1000000 % 10 * 1000000 + M / 100000 % 10 * 100000 + M / 10000 % 10 * 10000 + M / 1000 % 10 * 1000 + M / 100 % 10 * 100 + M / 10 % 10 * 10 + M / 1 % 10 = M := by
  have e2 : M / 100 = M / 10 / 10 := by rw [Nat.div_div_eq_div_mul]
  have e3 : M / 1000 = M / 10 / 10 / 10 := by rw [Nat.div_div_eq_div_mul, Nat.div_div_eq_div_mul]
  have e4 : M / 10000 = M / 10 / 10 / 10 / 10 := by rw [← e3, Nat.div_div_eq_div_mul]
  have e5 : M / 100000 = M / 10 / 10 / 10 / 10 / 10 := by rw [← e4, Nat.div_div_eq_div_mul]
  have e6 : M / 1000000 = M / 10 / 10 / 10 / 10 / 10 / 10 := by rw [← e5, Nat.div_div_eq_div_mul]
  have e7 : M / 10000000 = M / 10 / 10 / 10 / 10 / 10 / 10 / 10 := by rw [← e6, Nat.div_div_eq_div_mul]
  rw [e7, e6, e5, e4, e3, e2, Nat.div_one]
  have k0 := Nat.div_add_mod M 10
  have k1 := Nat.div_add_mod (M / 10) 10
  have k2 := Nat.div_add_mod (M / 10 / 10) 10
  have k3 := Nat.div_add_mod (M / 10 / 10 / 10) 10
  have k4 := Nat.div_add_mod (M / 10 / 10 / 10 / 10) 10
  have k5 := Nat.div_add_mod (M / 10 / 10 / 10 / 10 / 10) 10
  have k6 := Nat.div_add_mod (M / 10 / 10 / 10 / 10 / 10 / 10) 10
  have k7 : M / 10 / 10 / 10 / 10 / 10 / 10 / 10 % 10 = M / 10 / 10 / 10 / 10 / 10 / 10 / 10 := by
    rw [← e7]; apply Nat.mod_eq_of_lt; exact Nat.div_lt_of_lt_mul h
  rw [k7]
  clear e2 e3 e4 e5 e6 e7 k7 h
  generalize M / 10 / 10 / 10 / 10 / 10 / 10 / 10 = q7 at *
  generalize M / 10 / 10 / 10 / 10 / 10 / 10 % 10 = r6 at *
  generalize M / 10 / 10 / 10 / 10 / 10 / 10 = q6 at *
  generalize M / 10 / 10 / 10 / 10 / 10 % 10 = r5 at *
  generalize M / 10 / 10 / 10 / 10 / 10 = q5 at *
  generalize M / 10 / 10 / 10 / 10 % 10 = r4 at *
  generalize M / 10 / 10 / 10 / 10 = q4 at *
  generalize M / 10 / 10 / 10 % 10 = r3 at *
  generalize M / 10 / 10 / 10 = q3 at *
  generalize M / 10 / 10 % 10 = r2 at *
  generalize M / 10 / 10 = q2 at *
  generalize M / 10 % 10 = r1 at *
  generalize M / 10 = q1 at *
  generalize M % 10 = r0 at *
  omega
theorem own_q8 (a X : Nat) (h : a < 256) : (a + 256 * X) / 256 = X := by omega
theorem own_q16 (a X : Nat) (h : a < 65536) : (a + 65536 * X) / 65536 = X := by omega
theorem own_m8 (e0 e1 e2 e3 e4 e5 e6 e7 : Nat) (h0 : e0 < 2 ^ 8) (h1 : e1 < 2 ^ 8) (h2 : e2 < 2 ^ 8) (h3 : e3 < 2 ^ 8) (h4 : e4 < 2 ^ 8) (h5 : e5 < 2 ^ 8) (h6 : e6 < 2 ^ 8) :
    (e0 + 2 ^ 8 * (e1 + 2 ^ 8 * (e2 + 2 ^ 8 * (e3 + 2 ^ 8 * (e4 + 2 ^ 8 * (e5 + 2 ^ 8 * (e6 + 2 ^ 8 * e7))))))) &&& 71777214294589695 = e0 + 65536 * (e2 + 65536 * (e4 + 65536 * e6)) := by
  rw [show (71777214294589695 : Nat) = (2 ^ 8 - 1) + 2 ^ 8 * (0 + 2 ^ 8 * ((2 ^ 8 - 1) + 2 ^ 8 * (0 + 2 ^ 8 * ((2 ^ 8 - 1) + 2 ^ 8 * (0 + 2 ^ 8 * ((2 ^ 8 - 1) + 2 ^ 8 * 0)))))) from rfl]
  rw [own_and_split (k := 8) h0 (by decide), own_and_split (k := 8) h1 (by decide), own_and_split (k := 8) h2 (by decide), own_and_split (k := 8) h3 (by decide), own_and_split (k := 8) h4 (by decide), own_and_split (k := 8) h5 (by decide), own_and_split (k := 8) h6 (by decide)]
  rw [own_mask, own_mask, own_mask, own_mask, Nat.mod_eq_of_lt h0, Nat.mod_eq_of_lt h2, Nat.mod_eq_of_lt h4, Nat.mod_eq_of_lt h6]
  simp only [Nat.and_zero]
  omega
theorem own_m16 (e0 e1 e2 e3 : Nat) (h0 : e0 < 2 ^ 16) (h1 : e1 < 2 ^ 16) (h2 : e2 < 2 ^ 16) :
    (e0 + 2 ^ 16 * (e1 + 2 ^ 16 * (e2 + 2 ^ 16 * e3))) &&& 281470681808895 = e0 + 4294967296 * e2 := by
  rw [show (281470681808895 : Nat) = (2 ^ 16 - 1) + 2 ^ 16 * (0 + 2 ^ 16 * ((2 ^ 16 - 1) + 2 ^ 16 * 0)) from rfl]
  rw [own_and_split (k := 16) h0 (by decide), own_and_split (k := 16) h1 (by decide), own_and_split (k := 16) h2 (by decide)]
  rw [own_mask, own_mask, Nat.mod_eq_of_lt h0, Nat.mod_eq_of_lt h2]
  simp only [Nat.and_zero]
  omega
theorem own_m32 (A B : Nat) (hA : A ≤ 9999) (hB : B ≤ 9999) : (10000 * (A + 4294967296 * B) % 18446744073709551616 + (A + 4294967296 * B) / 4294967296) % 18446744073709551616 % 4294967296 = 10000 * A + B := by
  have e1 : (A + 4294967296 * B) / 4294967296 = B := by omega
  rw [e1, Nat.mod_eq_of_lt (a := 10000 * (A + 4294967296 * B)) (by omega), Nat.mod_eq_of_lt (b := 18446744073709551616) (by omega)]
  have e2 : 10000 * (A + 4294967296 * B) + B = (10000 * A + B) + 4294967296 * (10000 * B) := by omega
  rw [e2, Nat.add_mul_mod_self_left]
  exact Nat.mod_eq_of_lt (by omega)
theorem own_s1 (w : Int64) (d0 d1 d2 d3 d4 d5 d6 d7 : Nat) (h0 : d0 < 10) (h1 : d1 < 10) (h2 : d2 < 10) (h3 : d3 < 10) (h4 : d4 < 10) (h5 : d5 < 10) (h6 : d6 < 10) (h7 : d7 < 10)
    (hw : own_N w = (48 + d0) + (48 + d1) * 2 ^ 8 + (48 + d2) * 2 ^ 16 + (48 + d3) * 2 ^ 24 + (48 + d4) * 2 ^ 32 + (48 + d5) * 2 ^ 40 + (48 + d6) * 2 ^ 48 + (48 + d7) * 2 ^ 56) :
    own_N (w - 3472328296227680304) = d0 + 256 * (d1 + 256 * (d2 + 256 * (d3 + 256 * (d4 + 256 * (d5 + 256 * (d6 + 256 * d7)))))) := by
  have c1 : own_N (3472328296227680304 : Int64) = 3472328296227680304 := rfl
  rw [own_N_sub, hw, c1]
  rw [show 18446744073709551616 - 3472328296227680304 + ((48 + d0) + (48 + d1) * 2 ^ 8 + (48 + d2) * 2 ^ 16 + (48 + d3) * 2 ^ 24 + (48 + d4) * 2 ^ 32 + (48 + d5) * 2 ^ 40 + (48 + d6) * 2 ^ 48 + (48 + d7) * 2 ^ 56) = (d0 + 256 * (d1 + 256 * (d2 + 256 * (d3 + 256 * (d4 + 256 * (d5 + 256 * (d6 + 256 * d7))))))) + 18446744073709551616 by clear hw h0 h1 h2 h3 h4 h5 h6 h7; omega, Nat.add_mod_right]
  clear hw
  apply Nat.mod_eq_of_lt; omega
theorem own_s2 (x : Int64) (d0 d1 d2 d3 d4 d5 d6 d7 : Nat) (h0 : d0 < 10) (h1 : d1 < 10) (h2 : d2 < 10) (h3 : d3 < 10) (h4 : d4 < 10) (h5 : d5 < 10) (h6 : d6 < 10) (h7 : d7 < 10)
    (a1 : own_N x = d0 + 256 * (d1 + 256 * (d2 + 256 * (d3 + 256 * (d4 + 256 * (d5 + 256 * (d6 + 256 * d7))))))) :
    own_N (((10 : Int64) * x) + (o_lushr x 8)) = (10 * d0 + d1) + 2 ^ 8 * ((10 * d1 + d2) + 2 ^ 8 * ((10 * d2 + d3) + 2 ^ 8 * ((10 * d3 + d4) + 2 ^ 8 * ((10 * d4 + d5) + 2 ^ 8 * ((10 * d5 + d6) + 2 ^ 8 * ((10 * d6 + d7) + 2 ^ 8 * (10 * d7))))))) := by
  have c2 : own_N (10 : Int64) = 10 := rfl
  rw [own_N_add, own_N_mul, own_N_lushr x 8 8 rfl, a1, c2, show (2 : Nat) ^ 8 = 256 from rfl, own_q8 _ _ (by omega)]
  clear a1
  rw [Nat.mod_eq_of_lt (a := 10 * _) (by omega), Nat.mod_eq_of_lt (by omega)]
  clear h0 h1 h2 h3 h4 h5 h6 h7
  omega
theorem own_s3 (y : Int64) (A B C D : Nat) (hA : A < 100) (hB : B < 100) (hC : C < 100) (hD : D < 100) (a3 : own_N y = A + 65536 * (B + 65536 * (C + 65536 * D))) :
    own_N (((100 : Int64) * y) + (o_lushr y 16)) = (100 * A + B) + 2 ^ 16 * ((100 * B + C) + 2 ^ 16 * ((100 * C + D) + 2 ^ 16 * (100 * D))) := by
  have c4 : own_N (100 : Int64) = 100 := rfl
  rw [own_N_add, own_N_mul, own_N_lushr y 16 16 rfl, a3, c4, show (2 : Nat) ^ 16 = 65536 from rfl, own_q16 _ _ (by omega)]
  clear a3
  rw [Nat.mod_eq_of_lt (a := 100 * _) (by omega), Nat.mod_eq_of_lt (by omega)]
  clear hA hB hC hD
  omega
theorem own_dv_n (w : Int64) (d0 d1 d2 d3 d4 d5 d6 d7 : Nat) (h0 : d0 < 10) (h1 : d1 < 10) (h2 : d2 < 10) (h3 : d3 < 10) (h4 : d4 < 10) (h5 : d5 < 10) (h6 : d6 < 10) (h7 : d7 < 10)
    (hw : own_N w = (48 + d0) + (48 + d1) * 2 ^ 8 + (48 + d2) * 2 ^ 16 + (48 + d3) * 2 ^ 24 + (48 + d4) * 2 ^ 32 + (48 + d5) * 2 ^ 40 + (48 + d6) * 2 ^ 48 + (48 + d7) * 2 ^ 56) :
    own_N (own_dv w) = d0 * 10000000 + d1 * 1000000 + d2 * 100000 + d3 * 10000 + d4 * 1000 + d5 * 100 + d6 * 10 + d7 := by
  unfold own_dv
  have a1 := own_s1 w d0 d1 d2 d3 d4 d5 d6 d7 h0 h1 h2 h3 h4 h5 h6 h7 hw
  clear hw
  generalize w - 3472328296227680304 = x at *
  have a2 := own_s2 x d0 d1 d2 d3 d4 d5 d6 d7 h0 h1 h2 h3 h4 h5 h6 h7 a1
  clear a1
  have a3 : own_N ((((10 : Int64) * x) + (o_lushr x 8)) &&& 71777214294589695) = (10 * d0 + d1) + 65536 * ((10 * d2 + d3) + 65536 * ((10 * d4 + d5) + 65536 * (10 * d6 + d7))) := by
    have c3 : own_N (71777214294589695 : Int64) = 71777214294589695 := rfl
    rw [own_N_and, a2, c3]
    clear a2
    exact own_m8 _ _ _ _ _ _ _ _ (by omega) (by omega) (by omega) (by omega) (by omega) (by omega) (by omega)
  clear a2
  generalize (((10 : Int64) * x) + (o_lushr x 8)) &&& 71777214294589695 = y at *
  have b2 := own_s3 y _ _ _ _ (by omega) (by omega) (by omega) (by omega) a3
  clear a3
  have b3 : own_N ((((100 : Int64) * y) + (o_lushr y 16)) &&& 281470681808895) = (100 * (10 * d0 + d1) + (10 * d2 + d3)) + 4294967296 * (100 * (10 * d4 + d5) + (10 * d6 + d7)) := by
    have c5 : own_N (281470681808895 : Int64) = 281470681808895 := rfl
    rw [own_N_and, b2, c5]
    clear b2
    exact own_m16 _ _ _ _ (by omega) (by omega) (by omega)
  clear b2
  generalize (((100 : Int64) * y) + (o_lushr y 16)) &&& 281470681808895 = z at *
  have c6 : own_N (10000 : Int64) = 10000 := rfl
  have c7 : own_N (4294967295 : Int64) = 2 ^ 32 - 1 := rfl
  rw [own_N_and, own_N_add, own_N_mul, own_N_lushr z 32 32 rfl, b3, c6, c7, own_mask, show (2 : Nat) ^ 32 = 4294967296 from rfl]
  clear b3 c6 c7
  rw [own_m32 _ _ (by omega) (by omega)]
  clear h0 h1 h2 h3 h4 h5 h6 h7
  omega
set_option maxHeartbeats 8000000 in
theorem own_plain (x : Int32) : own_dv ((((((((own_db (o_irem (x &&& (2147483647 : Int32)) (100000000 : Int32)) (10000000 : Int32) (0 : Int32)) ||| (own_db (o_irem (x &&& (2147483647 : Int32)) (100000000 : Int32)) (1000000 : Int32) (8 : Int32))) ||| (own_db (o_irem (x &&& (2147483647 : Int32)) (100000000 : Int32)) (100000 : Int32) (16 : Int32))) ||| (own_db (o_irem (x &&& (2147483647 : Int32)) (100000000 : Int32)) (10000 : Int32) (24 : Int32))) ||| (own_db (o_irem (x &&& (2147483647 : Int32)) (100000000 : Int32)) (1000 : Int32) (32 : Int32))) ||| (own_db (o_irem (x &&& (2147483647 : Int32)) (100000000 : Int32)) (100 : Int32) (40 : Int32))) ||| (own_db (o_irem (x &&& (2147483647 : Int32)) (100000000 : Int32)) (10 : Int32) (48 : Int32))) ||| (own_db (o_irem (x &&& (2147483647 : Int32)) (100000000 : Int32)) (1 : Int32) (56 : Int32))) = o_i2l (o_irem (x &&& (2147483647 : Int32)) (100000000 : Int32)) := by
  have m0 : 0 ≤ (x &&& (2147483647 : Int32)).toInt := (c_and x 2147483647 (by decide)).1
  have m1 : o_irem (x &&& (2147483647 : Int32)) (100000000 : Int32) = (x &&& (2147483647 : Int32)) % 100000000 := irem_eq_mod _ _
  have m2 := (c_irem (x &&& (2147483647 : Int32)) 100000000 100000000 rfl).1 m0
  rw [← m1] at m2
  have m3 : 0 ≤ (o_irem (x &&& (2147483647 : Int32)) (100000000 : Int32)).toInt := by rw [m2]; omega
  have m4 : (o_irem (x &&& (2147483647 : Int32)) (100000000 : Int32)).toInt < 100000000 := by rw [m2]; omega
  clear m2 m1
  generalize o_irem (x &&& (2147483647 : Int32)) (100000000 : Int32) = n at *
  have e0 := own_db_n n 10000000 0 0 10000000 rfl (by decide) m3 rfl (by decide)
  have e1 := own_db_n n 1000000 8 8 1000000 rfl (by decide) m3 rfl (by decide)
  have e2 := own_db_n n 100000 16 16 100000 rfl (by decide) m3 rfl (by decide)
  have e3 := own_db_n n 10000 24 24 10000 rfl (by decide) m3 rfl (by decide)
  have e4 := own_db_n n 1000 32 32 1000 rfl (by decide) m3 rfl (by decide)
  have e5 := own_db_n n 100 40 40 100 rfl (by decide) m3 rfl (by decide)
  have e6 := own_db_n n 10 48 48 10 rfl (by decide) m3 rfl (by decide)
  have e7 := own_db_n n 1 56 56 1 rfl (by decide) m3 rfl (by decide)
  generalize own_db n 10000000 0 = w0 at *
  generalize own_db n 1000000 8 = w1 at *
  generalize own_db n 100000 16 = w2 at *
  generalize own_db n 10000 24 = w3 at *
  generalize own_db n 1000 32 = w4 at *
  generalize own_db n 100 40 = w5 at *
  generalize own_db n 10 48 = w6 at *
  generalize own_db n 1 56 = w7 at *
  have hN : own_N (o_i2l n) = n.toInt.toNat := by
    rw [own_N_i2l n m3]; have := own_n_int n; have := own_n_lt n; split at * <;> omega
  have hb : n.toInt.toNat < 100000000 := by omega
  generalize n.toInt.toNat = M at *
  rw [own_N_inj, hN]
  have D0 : M / 10000000 % 10 < 10 := Nat.mod_lt _ (by decide)
  have D1 : M / 1000000 % 10 < 10 := Nat.mod_lt _ (by decide)
  have D2 : M / 100000 % 10 < 10 := Nat.mod_lt _ (by decide)
  have D3 : M / 10000 % 10 < 10 := Nat.mod_lt _ (by decide)
  have D4 : M / 1000 % 10 < 10 := Nat.mod_lt _ (by decide)
  have D5 : M / 100 % 10 < 10 := Nat.mod_lt _ (by decide)
  have D6 : M / 10 % 10 < 10 := Nat.mod_lt _ (by decide)
  have D7 : M / 1 % 10 < 10 := Nat.mod_lt _ (by decide)
  have key := own_dig M hb
  generalize M / 10000000 % 10 = d0 at *
  generalize M / 1000000 % 10 = d1 at *
  generalize M / 100000 % 10 = d2 at *
  generalize M / 10000 % 10 = d3 at *
  generalize M / 1000 % 10 = d4 at *
  generalize M / 100 % 10 = d5 at *
  generalize M / 10 % 10 = d6 at *
  generalize M / 1 % 10 = d7 at *
  rw [Nat.pow_zero, Nat.mul_one] at e0
  obtain ⟨g1, b1⟩ := own_or8 w0 w1 8 _ d1 e0 (by clear e1 e2 e3 e4 e5 e6 e7 key; omega) D1 e1
  obtain ⟨g2, b2⟩ := own_or8 _ w2 16 _ d2 g1 b1 D2 e2
  obtain ⟨g3, b3⟩ := own_or8 _ w3 24 _ d3 g2 b2 D3 e3
  obtain ⟨g4, b4⟩ := own_or8 _ w4 32 _ d4 g3 b3 D4 e4
  obtain ⟨g5, b5⟩ := own_or8 _ w5 40 _ d5 g4 b4 D5 e5
  obtain ⟨g6, b6⟩ := own_or8 _ w6 48 _ d6 g5 b5 D6 e6
  obtain ⟨g7, b7⟩ := own_or8 _ w7 56 _ d7 g6 b6 D7 e7
  rw [own_dv_n _ d0 d1 d2 d3 d4 d5 d6 d7 D0 D1 D2 D3 D4 D5 D6 D7 g7]
  exact key

theorem pd_0 : parseMethodDescriptor "(III)J" = some ⟨[.int, .int, .int], some .long⟩ := by decide +kernel
theorem pd_1 : parseMethodDescriptor "(J)J" = some ⟨[.long], some .long⟩ := by decide +kernel
theorem ef_0 (m : MethodId) (x0 : Int32) : entryFrame m #[(.int x0)] maxLocals = mkF m 0 #[.val (.int x0), .unset, .unset, .unset] [] := by first | (simp [entryFrame, mkF, argsToLocals, Value.category, maxLocals]; done) | rfl
def Q0 (Z : State) (p0 : Int32) (h0 : Heap) (n0 : Nat) (v : Option Value) (h : Heap) (L : List Loc) : Prop := v = some (.int 1) ∧ Fr n0 L
set_option maxRecDepth 65536 in
set_option maxHeartbeats 40000000 in
theorem rm0 (l : Launch) (Z : State) (a0 : Array Value) (hw : ∀ d ∈ tables_1, d.before a0 Z = true) (ws : List Jvm.Cond) (p0 : Int32) (h0 : Heap) (n0 : Nat) (Z0 : n0 ≤ h0.size) :
    MetFree l x (head1 (Jvm.Cond.code x code maxLocals ret :: ws) room_1) (fun q_ U => q_ = #[(.int p0)] ∧ Z.Warmed39 U.vm ∧ U.heap = h0) (fun _ _ _ _ _ => True) (fun _ U o U' => ∃ v L, o = .returned v ∧ Q0 Z p0 h0 n0 v U'.heap L ∧ FrameEnd U o U' L room_1.cells room_1.slots) := by
  refine MetFree.of_bodySF (plainFor_of_name pn_0) hisR ?_
  intro p e s m args below meth c s₁ Bd hml0 hP hK
  obtain ⟨rfl, hZ, hh⟩ := hP
  have hx := Bd.exec
  have hby := Bd.bytes
  have hml : c.maxLocals = 4 := hml0
  have hown : s.vm.findClass "si/sklic/ByteWordsDigitsValuePinLaw" = some m.cls := findClass_of_methodNamed Bd.named
  have hnm := (name_of_methodNamed Bd.named Bd.method).1
  have X0 : Stand p l e room_1 s m #[(.int p0)] below meth c s₁ [] 0 0 := Stand.of_body Bd
  have e0 : s₁.heap = h0 := by rw [← hh, Bd.state]; rfl
  have N0 := Fr.nil n0
  show own_Go p e below s (Q0 Z p0 h0 n0) room_1.cells room_1.slots (s₁.setTop (entryFrame m #[(.int p0)] maxLocals))
  refine own_via (fun t k => castTop (ef_0 m p0) k) ?_
  show own_Go p e below s _ _ _ (s₁.setTop (mkF m 0 #[.val (.int p0), .unset, .unset, .unset] []))
  refine own_via (fun _ k => XS.iloadN X0.here hx rfl (hb hby at_0) rfl k) ?_
  show own_Go p e below s _ _ _ (s₁.setTop (mkF m 1 #[.val (.int p0), .unset, .unset, .unset] [(.int p0)]))
  refine own_via (fun _ k => X0.ldcInt hx hown (mvT hZ (hw _ (List.mem_of_getElem? (i := 0) rfl))) (g := (mkF m 1 #[.val (.int p0), .unset, .unset, .unset] [(.int p0)])) rfl (hb hby at_1) _ k) ?_
  show own_Go p e below s _ _ _ (s₁.setTop (mkF m 3 #[.val (.int p0), .unset, .unset, .unset] [(.int (2147483647 : Int32)), (.int p0)]))
  refine own_via (fun _ k => XS.iand X0.here hx rfl (hb hby at_3) rfl k) ?_
  show own_Go p e below s _ _ _ (s₁.setTop (mkF m 4 #[.val (.int p0), .unset, .unset, .unset] [(.int (p0 &&& (2147483647 : Int32)))]))
  refine own_via (fun _ k => X0.ldcInt hx hown (mvT hZ (hw _ (List.mem_of_getElem? (i := 1) rfl))) (g := (mkF m 4 #[.val (.int p0), .unset, .unset, .unset] [(.int (p0 &&& (2147483647 : Int32)))])) rfl (hb hby at_4) _ k) ?_
  show own_Go p e below s _ _ _ (s₁.setTop (mkF m 6 #[.val (.int p0), .unset, .unset, .unset] [(.int (100000000 : Int32)), (.int (p0 &&& (2147483647 : Int32)))]))
  refine own_via (fun _ k => XS.irem X0.here hx rfl (hb hby at_6) rfl (by decide) k) ?_
  show own_Go p e below s _ _ _ (s₁.setTop (mkF m 7 #[.val (.int p0), .unset, .unset, .unset] [(.int (o_irem (p0 &&& (2147483647 : Int32)) (100000000 : Int32)))]))
  refine own_via (fun _ k => XS.istoreN X0.here hx rfl (hb hby at_7) rfl (l' := #[.val (.int p0), .val (.int (o_irem (p0 &&& (2147483647 : Int32)) (100000000 : Int32))), .unset, .unset]) rfl k) ?_
  show own_Go p e below s _ _ _ (s₁.setTop (mkF m 8 #[.val (.int p0), .val (.int (o_irem (p0 &&& (2147483647 : Int32)) (100000000 : Int32))), .unset, .unset] []))
  generalize hv1 : (o_irem (p0 &&& (2147483647 : Int32)) (100000000 : Int32)) = v1
  show own_Go p e below s _ _ _ (s₁.setTop (mkF m 8 #[.val (.int p0), .val (.int v1), .unset, .unset] []))
  refine own_via (fun _ k => XS.iloadN X0.here hx rfl (hb hby at_8) rfl k) ?_
  show own_Go p e below s _ _ _ (s₁.setTop (mkF m 9 #[.val (.int p0), .val (.int v1), .unset, .unset] [(.int v1)]))
  refine own_via (fun _ k => X0.ldcInt hx hown (mvT hZ (hw _ (List.mem_of_getElem? (i := 2) rfl))) (g := (mkF m 9 #[.val (.int p0), .val (.int v1), .unset, .unset] [(.int v1)])) rfl (hb hby at_9) _ k) ?_
  show own_Go p e below s _ _ _ (s₁.setTop (mkF m 11 #[.val (.int p0), .val (.int v1), .unset, .unset] [(.int (10000000 : Int32)), (.int v1)]))
  refine own_via (fun _ k => XS.iconst X0.here hx rfl (hb hby at_11) k) ?_
  show own_Go p e below s _ _ _ (s₁.setTop (mkF m 12 #[.val (.int p0), .val (.int v1), .unset, .unset] [(.int (0 : Int32)), (.int (10000000 : Int32)), (.int v1)]))
  obtain ⟨_, _, ⟨T2, L2, k2, n2⟩, -, X2, ⟨Lc2, hQ2, l2, y2, z2⟩, st2⟩ := Jvm.LawKit.callS X0 hx (y := (⟨"si/sklic/ByteWordsDigitsValuePinLaw", "digitByte", "(III)J"⟩ : MethodName)) hown (mvT hZ (hw _ (List.mem_of_getElem? (i := 3) rfl))) (mvT hZ (hw _ (List.mem_of_getElem? (i := 4) rfl))) (mvT hZ (hw _ (List.mem_of_getElem? (i := 5) rfl))) (mvT hZ (hw _ (List.mem_of_getElem? (i := 6) rfl))) (by decide) (backOf (W := 0) (rm1 l Z a0 hw [] v1 (10000000 : Int32) (0 : Int32) h0 n0 Z0 (by decide)) hZ (hw _ (List.mem_of_getElem? (i := 6) rfl)) (hw _ (List.mem_of_getElem? (i := 5) rfl)) (by decide) (by decide)) (g := (mkF m 12 #[.val (.int p0), .val (.int v1), .unset, .unset] [(.int (0 : Int32)), (.int (10000000 : Int32)), (.int v1)])) rfl (by rw [hml]; rfl) (argsL := [(.int v1), (.int (10000000 : Int32)), (.int (0 : Int32))]) (rest := []) (lenOf pd_0 rfl) rfl (by show 2 * 0 + _ ≤ _; exact Nat.le_of_eq rfl) (hb hby at_12) (fun _ _ => ⟨rfl, e0, (by decide : 0 + 0 ≤ _), (by decide : 0 + 0 ≤ _)⟩)
  dsimp only [Pt.U, Pt.locs, Pt.cells, Pt.slots] at X2 l2 y2 z2 st2 hQ2
  subst l2 y2 z2
  obtain ⟨rfl, N2q, e2⟩ := hQ2
  have N2 := Fr.app N0 N2q
  refine own_via st2 ?_
  show own_Go p e below s _ _ _ (T2.setTop (mkF m 15 #[.val (.int p0), .val (.int v1), .unset, .unset] [(.long (own_db v1 (10000000 : Int32) (0 : Int32)))]))
  refine own_via (fun _ k => XS.iloadN X2.here hx rfl (hb hby at_15) rfl k) ?_
  show own_Go p e below s _ _ _ (T2.setTop (mkF m 16 #[.val (.int p0), .val (.int v1), .unset, .unset] [(.int v1), (.long (own_db v1 (10000000 : Int32) (0 : Int32)))]))
  refine own_via (fun _ k => X2.ldcInt hx hown (mvT hZ (hw _ (List.mem_of_getElem? (i := 8) rfl))) (g := (mkF m 16 #[.val (.int p0), .val (.int v1), .unset, .unset] [(.int v1), (.long (own_db v1 (10000000 : Int32) (0 : Int32)))])) rfl (hb hby at_16) _ k) ?_
  show own_Go p e below s _ _ _ (T2.setTop (mkF m 18 #[.val (.int p0), .val (.int v1), .unset, .unset] [(.int (1000000 : Int32)), (.int v1), (.long (own_db v1 (10000000 : Int32) (0 : Int32)))]))
  refine own_via (fun _ k => XS.bipush X2.here hx rfl (hb hby at_18) k) ?_
  show own_Go p e below s _ _ _ (T2.setTop (mkF m 20 #[.val (.int p0), .val (.int v1), .unset, .unset] [(.int (8 : Int32)), (.int (1000000 : Int32)), (.int v1), (.long (own_db v1 (10000000 : Int32) (0 : Int32)))]))
  obtain ⟨_, _, ⟨T3, L3, k3, n3⟩, -, X3, ⟨Lc3, hQ3, l3, y3, z3⟩, st3⟩ := Jvm.LawKit.callS X2 hx (y := (⟨"si/sklic/ByteWordsDigitsValuePinLaw", "digitByte", "(III)J"⟩ : MethodName)) hown (mvT hZ (hw _ (List.mem_of_getElem? (i := 3) rfl))) (mvT hZ (hw _ (List.mem_of_getElem? (i := 4) rfl))) (mvT hZ (hw _ (List.mem_of_getElem? (i := 5) rfl))) (mvT hZ (hw _ (List.mem_of_getElem? (i := 6) rfl))) (by decide) (backOf (W := 2) (rm1 l Z a0 hw [] v1 (1000000 : Int32) (8 : Int32) h0 n0 Z0 (by decide)) hZ (hw _ (List.mem_of_getElem? (i := 6) rfl)) (hw _ (List.mem_of_getElem? (i := 5) rfl)) (by decide) (by decide)) (g := (mkF m 20 #[.val (.int p0), .val (.int v1), .unset, .unset] [(.int (8 : Int32)), (.int (1000000 : Int32)), (.int v1), (.long (own_db v1 (10000000 : Int32) (0 : Int32)))])) rfl (by rw [hml]; rfl) (argsL := [(.int v1), (.int (1000000 : Int32)), (.int (8 : Int32))]) (rest := [(.long (own_db v1 (10000000 : Int32) (0 : Int32)))]) (lenOf pd_0 rfl) rfl (by show 2 * 0 + _ ≤ _; exact Nat.le_of_eq rfl) (hb hby at_20) (fun _ _ => ⟨rfl, e2, (by decide : 0 + 0 ≤ _), (by decide : 0 + 0 ≤ _)⟩)
  dsimp only [Pt.U, Pt.locs, Pt.cells, Pt.slots] at X3 l3 y3 z3 st3 hQ3
  subst l3 y3 z3
  obtain ⟨rfl, N3q, e3⟩ := hQ3
  have N3 := Fr.app N2 N3q
  refine own_via st3 ?_
  show own_Go p e below s _ _ _ (T3.setTop (mkF m 23 #[.val (.int p0), .val (.int v1), .unset, .unset] [(.long (own_db v1 (1000000 : Int32) (8 : Int32))), (.long (own_db v1 (10000000 : Int32) (0 : Int32)))]))
  refine own_via (fun _ k => XS.lor X3.here hx rfl (hb hby at_23) rfl k) ?_
  show own_Go p e below s _ _ _ (T3.setTop (mkF m 24 #[.val (.int p0), .val (.int v1), .unset, .unset] [(.long ((own_db v1 (10000000 : Int32) (0 : Int32)) ||| (own_db v1 (1000000 : Int32) (8 : Int32))))]))
  refine own_via (fun _ k => XS.iloadN X3.here hx rfl (hb hby at_24) rfl k) ?_
  show own_Go p e below s _ _ _ (T3.setTop (mkF m 25 #[.val (.int p0), .val (.int v1), .unset, .unset] [(.int v1), (.long ((own_db v1 (10000000 : Int32) (0 : Int32)) ||| (own_db v1 (1000000 : Int32) (8 : Int32))))]))
  refine own_via (fun _ k => X3.ldcInt hx hown (mvT hZ (hw _ (List.mem_of_getElem? (i := 9) rfl))) (g := (mkF m 25 #[.val (.int p0), .val (.int v1), .unset, .unset] [(.int v1), (.long ((own_db v1 (10000000 : Int32) (0 : Int32)) ||| (own_db v1 (1000000 : Int32) (8 : Int32))))])) rfl (hb hby at_25) _ k) ?_
  show own_Go p e below s _ _ _ (T3.setTop (mkF m 27 #[.val (.int p0), .val (.int v1), .unset, .unset] [(.int (100000 : Int32)), (.int v1), (.long ((own_db v1 (10000000 : Int32) (0 : Int32)) ||| (own_db v1 (1000000 : Int32) (8 : Int32))))]))
  refine own_via (fun _ k => XS.bipush X3.here hx rfl (hb hby at_27) k) ?_
  show own_Go p e below s _ _ _ (T3.setTop (mkF m 29 #[.val (.int p0), .val (.int v1), .unset, .unset] [(.int (16 : Int32)), (.int (100000 : Int32)), (.int v1), (.long ((own_db v1 (10000000 : Int32) (0 : Int32)) ||| (own_db v1 (1000000 : Int32) (8 : Int32))))]))
  obtain ⟨_, _, ⟨T4, L4, k4, n4⟩, -, X4, ⟨Lc4, hQ4, l4, y4, z4⟩, st4⟩ := Jvm.LawKit.callS X3 hx (y := (⟨"si/sklic/ByteWordsDigitsValuePinLaw", "digitByte", "(III)J"⟩ : MethodName)) hown (mvT hZ (hw _ (List.mem_of_getElem? (i := 3) rfl))) (mvT hZ (hw _ (List.mem_of_getElem? (i := 4) rfl))) (mvT hZ (hw _ (List.mem_of_getElem? (i := 5) rfl))) (mvT hZ (hw _ (List.mem_of_getElem? (i := 6) rfl))) (by decide) (backOf (W := 2) (rm1 l Z a0 hw [] v1 (100000 : Int32) (16 : Int32) h0 n0 Z0 (by decide)) hZ (hw _ (List.mem_of_getElem? (i := 6) rfl)) (hw _ (List.mem_of_getElem? (i := 5) rfl)) (by decide) (by decide)) (g := (mkF m 29 #[.val (.int p0), .val (.int v1), .unset, .unset] [(.int (16 : Int32)), (.int (100000 : Int32)), (.int v1), (.long ((own_db v1 (10000000 : Int32) (0 : Int32)) ||| (own_db v1 (1000000 : Int32) (8 : Int32))))])) rfl (by rw [hml]; rfl) (argsL := [(.int v1), (.int (100000 : Int32)), (.int (16 : Int32))]) (rest := [(.long ((own_db v1 (10000000 : Int32) (0 : Int32)) ||| (own_db v1 (1000000 : Int32) (8 : Int32))))]) (lenOf pd_0 rfl) rfl (by show 2 * 0 + _ ≤ _; exact Nat.le_of_eq rfl) (hb hby at_29) (fun _ _ => ⟨rfl, e3, (by decide : 0 + 0 ≤ _), (by decide : 0 + 0 ≤ _)⟩)
  dsimp only [Pt.U, Pt.locs, Pt.cells, Pt.slots] at X4 l4 y4 z4 st4 hQ4
  subst l4 y4 z4
  obtain ⟨rfl, N4q, e4⟩ := hQ4
  have N4 := Fr.app N3 N4q
  refine own_via st4 ?_
  show own_Go p e below s _ _ _ (T4.setTop (mkF m 32 #[.val (.int p0), .val (.int v1), .unset, .unset] [(.long (own_db v1 (100000 : Int32) (16 : Int32))), (.long ((own_db v1 (10000000 : Int32) (0 : Int32)) ||| (own_db v1 (1000000 : Int32) (8 : Int32))))]))
  refine own_via (fun _ k => XS.lor X4.here hx rfl (hb hby at_32) rfl k) ?_
  show own_Go p e below s _ _ _ (T4.setTop (mkF m 33 #[.val (.int p0), .val (.int v1), .unset, .unset] [(.long (((own_db v1 (10000000 : Int32) (0 : Int32)) ||| (own_db v1 (1000000 : Int32) (8 : Int32))) ||| (own_db v1 (100000 : Int32) (16 : Int32))))]))
  refine own_via (fun _ k => XS.iloadN X4.here hx rfl (hb hby at_33) rfl k) ?_
  show own_Go p e below s _ _ _ (T4.setTop (mkF m 34 #[.val (.int p0), .val (.int v1), .unset, .unset] [(.int v1), (.long (((own_db v1 (10000000 : Int32) (0 : Int32)) ||| (own_db v1 (1000000 : Int32) (8 : Int32))) ||| (own_db v1 (100000 : Int32) (16 : Int32))))]))
  refine own_via (fun _ k => XS.sipush X4.here hx rfl (hb hby at_34) k) ?_
  show own_Go p e below s _ _ _ (T4.setTop (mkF m 37 #[.val (.int p0), .val (.int v1), .unset, .unset] [(.int (10000 : Int32)), (.int v1), (.long (((own_db v1 (10000000 : Int32) (0 : Int32)) ||| (own_db v1 (1000000 : Int32) (8 : Int32))) ||| (own_db v1 (100000 : Int32) (16 : Int32))))]))
  refine own_via (fun _ k => XS.bipush X4.here hx rfl (hb hby at_37) k) ?_
  show own_Go p e below s _ _ _ (T4.setTop (mkF m 39 #[.val (.int p0), .val (.int v1), .unset, .unset] [(.int (24 : Int32)), (.int (10000 : Int32)), (.int v1), (.long (((own_db v1 (10000000 : Int32) (0 : Int32)) ||| (own_db v1 (1000000 : Int32) (8 : Int32))) ||| (own_db v1 (100000 : Int32) (16 : Int32))))]))
  obtain ⟨_, _, ⟨T5, L5, k5, n5⟩, -, X5, ⟨Lc5, hQ5, l5, y5, z5⟩, st5⟩ := Jvm.LawKit.callS X4 hx (y := (⟨"si/sklic/ByteWordsDigitsValuePinLaw", "digitByte", "(III)J"⟩ : MethodName)) hown (mvT hZ (hw _ (List.mem_of_getElem? (i := 3) rfl))) (mvT hZ (hw _ (List.mem_of_getElem? (i := 4) rfl))) (mvT hZ (hw _ (List.mem_of_getElem? (i := 5) rfl))) (mvT hZ (hw _ (List.mem_of_getElem? (i := 6) rfl))) (by decide) (backOf (W := 2) (rm1 l Z a0 hw [] v1 (10000 : Int32) (24 : Int32) h0 n0 Z0 (by decide)) hZ (hw _ (List.mem_of_getElem? (i := 6) rfl)) (hw _ (List.mem_of_getElem? (i := 5) rfl)) (by decide) (by decide)) (g := (mkF m 39 #[.val (.int p0), .val (.int v1), .unset, .unset] [(.int (24 : Int32)), (.int (10000 : Int32)), (.int v1), (.long (((own_db v1 (10000000 : Int32) (0 : Int32)) ||| (own_db v1 (1000000 : Int32) (8 : Int32))) ||| (own_db v1 (100000 : Int32) (16 : Int32))))])) rfl (by rw [hml]; rfl) (argsL := [(.int v1), (.int (10000 : Int32)), (.int (24 : Int32))]) (rest := [(.long (((own_db v1 (10000000 : Int32) (0 : Int32)) ||| (own_db v1 (1000000 : Int32) (8 : Int32))) ||| (own_db v1 (100000 : Int32) (16 : Int32))))]) (lenOf pd_0 rfl) rfl (by show 2 * 0 + _ ≤ _; exact Nat.le_of_eq rfl) (hb hby at_39) (fun _ _ => ⟨rfl, e4, (by decide : 0 + 0 ≤ _), (by decide : 0 + 0 ≤ _)⟩)
  dsimp only [Pt.U, Pt.locs, Pt.cells, Pt.slots] at X5 l5 y5 z5 st5 hQ5
  subst l5 y5 z5
  obtain ⟨rfl, N5q, e5⟩ := hQ5
  have N5 := Fr.app N4 N5q
  refine own_via st5 ?_
  show own_Go p e below s _ _ _ (T5.setTop (mkF m 42 #[.val (.int p0), .val (.int v1), .unset, .unset] [(.long (own_db v1 (10000 : Int32) (24 : Int32))), (.long (((own_db v1 (10000000 : Int32) (0 : Int32)) ||| (own_db v1 (1000000 : Int32) (8 : Int32))) ||| (own_db v1 (100000 : Int32) (16 : Int32))))]))
  refine own_via (fun _ k => XS.lor X5.here hx rfl (hb hby at_42) rfl k) ?_
  show own_Go p e below s _ _ _ (T5.setTop (mkF m 43 #[.val (.int p0), .val (.int v1), .unset, .unset] [(.long ((((own_db v1 (10000000 : Int32) (0 : Int32)) ||| (own_db v1 (1000000 : Int32) (8 : Int32))) ||| (own_db v1 (100000 : Int32) (16 : Int32))) ||| (own_db v1 (10000 : Int32) (24 : Int32))))]))
  refine own_via (fun _ k => XS.iloadN X5.here hx rfl (hb hby at_43) rfl k) ?_
  show own_Go p e below s _ _ _ (T5.setTop (mkF m 44 #[.val (.int p0), .val (.int v1), .unset, .unset] [(.int v1), (.long ((((own_db v1 (10000000 : Int32) (0 : Int32)) ||| (own_db v1 (1000000 : Int32) (8 : Int32))) ||| (own_db v1 (100000 : Int32) (16 : Int32))) ||| (own_db v1 (10000 : Int32) (24 : Int32))))]))
  refine own_via (fun _ k => XS.sipush X5.here hx rfl (hb hby at_44) k) ?_
  show own_Go p e below s _ _ _ (T5.setTop (mkF m 47 #[.val (.int p0), .val (.int v1), .unset, .unset] [(.int (1000 : Int32)), (.int v1), (.long ((((own_db v1 (10000000 : Int32) (0 : Int32)) ||| (own_db v1 (1000000 : Int32) (8 : Int32))) ||| (own_db v1 (100000 : Int32) (16 : Int32))) ||| (own_db v1 (10000 : Int32) (24 : Int32))))]))
  refine own_via (fun _ k => XS.bipush X5.here hx rfl (hb hby at_47) k) ?_
  show own_Go p e below s _ _ _ (T5.setTop (mkF m 49 #[.val (.int p0), .val (.int v1), .unset, .unset] [(.int (32 : Int32)), (.int (1000 : Int32)), (.int v1), (.long ((((own_db v1 (10000000 : Int32) (0 : Int32)) ||| (own_db v1 (1000000 : Int32) (8 : Int32))) ||| (own_db v1 (100000 : Int32) (16 : Int32))) ||| (own_db v1 (10000 : Int32) (24 : Int32))))]))
  obtain ⟨_, _, ⟨T6, L6, k6, n6⟩, -, X6, ⟨Lc6, hQ6, l6, y6, z6⟩, st6⟩ := Jvm.LawKit.callS X5 hx (y := (⟨"si/sklic/ByteWordsDigitsValuePinLaw", "digitByte", "(III)J"⟩ : MethodName)) hown (mvT hZ (hw _ (List.mem_of_getElem? (i := 3) rfl))) (mvT hZ (hw _ (List.mem_of_getElem? (i := 4) rfl))) (mvT hZ (hw _ (List.mem_of_getElem? (i := 5) rfl))) (mvT hZ (hw _ (List.mem_of_getElem? (i := 6) rfl))) (by decide) (backOf (W := 2) (rm1 l Z a0 hw [] v1 (1000 : Int32) (32 : Int32) h0 n0 Z0 (by decide)) hZ (hw _ (List.mem_of_getElem? (i := 6) rfl)) (hw _ (List.mem_of_getElem? (i := 5) rfl)) (by decide) (by decide)) (g := (mkF m 49 #[.val (.int p0), .val (.int v1), .unset, .unset] [(.int (32 : Int32)), (.int (1000 : Int32)), (.int v1), (.long ((((own_db v1 (10000000 : Int32) (0 : Int32)) ||| (own_db v1 (1000000 : Int32) (8 : Int32))) ||| (own_db v1 (100000 : Int32) (16 : Int32))) ||| (own_db v1 (10000 : Int32) (24 : Int32))))])) rfl (by rw [hml]; rfl) (argsL := [(.int v1), (.int (1000 : Int32)), (.int (32 : Int32))]) (rest := [(.long ((((own_db v1 (10000000 : Int32) (0 : Int32)) ||| (own_db v1 (1000000 : Int32) (8 : Int32))) ||| (own_db v1 (100000 : Int32) (16 : Int32))) ||| (own_db v1 (10000 : Int32) (24 : Int32))))]) (lenOf pd_0 rfl) rfl (by show 2 * 0 + _ ≤ _; exact Nat.le_of_eq rfl) (hb hby at_49) (fun _ _ => ⟨rfl, e5, (by decide : 0 + 0 ≤ _), (by decide : 0 + 0 ≤ _)⟩)
  dsimp only [Pt.U, Pt.locs, Pt.cells, Pt.slots] at X6 l6 y6 z6 st6 hQ6
  subst l6 y6 z6
  obtain ⟨rfl, N6q, e6⟩ := hQ6
  have N6 := Fr.app N5 N6q
  refine own_via st6 ?_
  show own_Go p e below s _ _ _ (T6.setTop (mkF m 52 #[.val (.int p0), .val (.int v1), .unset, .unset] [(.long (own_db v1 (1000 : Int32) (32 : Int32))), (.long ((((own_db v1 (10000000 : Int32) (0 : Int32)) ||| (own_db v1 (1000000 : Int32) (8 : Int32))) ||| (own_db v1 (100000 : Int32) (16 : Int32))) ||| (own_db v1 (10000 : Int32) (24 : Int32))))]))
  refine own_via (fun _ k => XS.lor X6.here hx rfl (hb hby at_52) rfl k) ?_
  show own_Go p e below s _ _ _ (T6.setTop (mkF m 53 #[.val (.int p0), .val (.int v1), .unset, .unset] [(.long (((((own_db v1 (10000000 : Int32) (0 : Int32)) ||| (own_db v1 (1000000 : Int32) (8 : Int32))) ||| (own_db v1 (100000 : Int32) (16 : Int32))) ||| (own_db v1 (10000 : Int32) (24 : Int32))) ||| (own_db v1 (1000 : Int32) (32 : Int32))))]))
  refine own_via (fun _ k => XS.iloadN X6.here hx rfl (hb hby at_53) rfl k) ?_
  show own_Go p e below s _ _ _ (T6.setTop (mkF m 54 #[.val (.int p0), .val (.int v1), .unset, .unset] [(.int v1), (.long (((((own_db v1 (10000000 : Int32) (0 : Int32)) ||| (own_db v1 (1000000 : Int32) (8 : Int32))) ||| (own_db v1 (100000 : Int32) (16 : Int32))) ||| (own_db v1 (10000 : Int32) (24 : Int32))) ||| (own_db v1 (1000 : Int32) (32 : Int32))))]))
  refine own_via (fun _ k => XS.bipush X6.here hx rfl (hb hby at_54) k) ?_
  show own_Go p e below s _ _ _ (T6.setTop (mkF m 56 #[.val (.int p0), .val (.int v1), .unset, .unset] [(.int (100 : Int32)), (.int v1), (.long (((((own_db v1 (10000000 : Int32) (0 : Int32)) ||| (own_db v1 (1000000 : Int32) (8 : Int32))) ||| (own_db v1 (100000 : Int32) (16 : Int32))) ||| (own_db v1 (10000 : Int32) (24 : Int32))) ||| (own_db v1 (1000 : Int32) (32 : Int32))))]))
  refine own_via (fun _ k => XS.bipush X6.here hx rfl (hb hby at_56) k) ?_
  show own_Go p e below s _ _ _ (T6.setTop (mkF m 58 #[.val (.int p0), .val (.int v1), .unset, .unset] [(.int (40 : Int32)), (.int (100 : Int32)), (.int v1), (.long (((((own_db v1 (10000000 : Int32) (0 : Int32)) ||| (own_db v1 (1000000 : Int32) (8 : Int32))) ||| (own_db v1 (100000 : Int32) (16 : Int32))) ||| (own_db v1 (10000 : Int32) (24 : Int32))) ||| (own_db v1 (1000 : Int32) (32 : Int32))))]))
  obtain ⟨_, _, ⟨T7, L7, k7, n7⟩, -, X7, ⟨Lc7, hQ7, l7, y7, z7⟩, st7⟩ := Jvm.LawKit.callS X6 hx (y := (⟨"si/sklic/ByteWordsDigitsValuePinLaw", "digitByte", "(III)J"⟩ : MethodName)) hown (mvT hZ (hw _ (List.mem_of_getElem? (i := 3) rfl))) (mvT hZ (hw _ (List.mem_of_getElem? (i := 4) rfl))) (mvT hZ (hw _ (List.mem_of_getElem? (i := 5) rfl))) (mvT hZ (hw _ (List.mem_of_getElem? (i := 6) rfl))) (by decide) (backOf (W := 2) (rm1 l Z a0 hw [] v1 (100 : Int32) (40 : Int32) h0 n0 Z0 (by decide)) hZ (hw _ (List.mem_of_getElem? (i := 6) rfl)) (hw _ (List.mem_of_getElem? (i := 5) rfl)) (by decide) (by decide)) (g := (mkF m 58 #[.val (.int p0), .val (.int v1), .unset, .unset] [(.int (40 : Int32)), (.int (100 : Int32)), (.int v1), (.long (((((own_db v1 (10000000 : Int32) (0 : Int32)) ||| (own_db v1 (1000000 : Int32) (8 : Int32))) ||| (own_db v1 (100000 : Int32) (16 : Int32))) ||| (own_db v1 (10000 : Int32) (24 : Int32))) ||| (own_db v1 (1000 : Int32) (32 : Int32))))])) rfl (by rw [hml]; rfl) (argsL := [(.int v1), (.int (100 : Int32)), (.int (40 : Int32))]) (rest := [(.long (((((own_db v1 (10000000 : Int32) (0 : Int32)) ||| (own_db v1 (1000000 : Int32) (8 : Int32))) ||| (own_db v1 (100000 : Int32) (16 : Int32))) ||| (own_db v1 (10000 : Int32) (24 : Int32))) ||| (own_db v1 (1000 : Int32) (32 : Int32))))]) (lenOf pd_0 rfl) rfl (by show 2 * 0 + _ ≤ _; exact Nat.le_of_eq rfl) (hb hby at_58) (fun _ _ => ⟨rfl, e6, (by decide : 0 + 0 ≤ _), (by decide : 0 + 0 ≤ _)⟩)
  dsimp only [Pt.U, Pt.locs, Pt.cells, Pt.slots] at X7 l7 y7 z7 st7 hQ7
  subst l7 y7 z7
  obtain ⟨rfl, N7q, e7⟩ := hQ7
  have N7 := Fr.app N6 N7q
  refine own_via st7 ?_
  show own_Go p e below s _ _ _ (T7.setTop (mkF m 61 #[.val (.int p0), .val (.int v1), .unset, .unset] [(.long (own_db v1 (100 : Int32) (40 : Int32))), (.long (((((own_db v1 (10000000 : Int32) (0 : Int32)) ||| (own_db v1 (1000000 : Int32) (8 : Int32))) ||| (own_db v1 (100000 : Int32) (16 : Int32))) ||| (own_db v1 (10000 : Int32) (24 : Int32))) ||| (own_db v1 (1000 : Int32) (32 : Int32))))]))
  refine own_via (fun _ k => XS.lor X7.here hx rfl (hb hby at_61) rfl k) ?_
  show own_Go p e below s _ _ _ (T7.setTop (mkF m 62 #[.val (.int p0), .val (.int v1), .unset, .unset] [(.long ((((((own_db v1 (10000000 : Int32) (0 : Int32)) ||| (own_db v1 (1000000 : Int32) (8 : Int32))) ||| (own_db v1 (100000 : Int32) (16 : Int32))) ||| (own_db v1 (10000 : Int32) (24 : Int32))) ||| (own_db v1 (1000 : Int32) (32 : Int32))) ||| (own_db v1 (100 : Int32) (40 : Int32))))]))
  refine own_via (fun _ k => XS.iloadN X7.here hx rfl (hb hby at_62) rfl k) ?_
  show own_Go p e below s _ _ _ (T7.setTop (mkF m 63 #[.val (.int p0), .val (.int v1), .unset, .unset] [(.int v1), (.long ((((((own_db v1 (10000000 : Int32) (0 : Int32)) ||| (own_db v1 (1000000 : Int32) (8 : Int32))) ||| (own_db v1 (100000 : Int32) (16 : Int32))) ||| (own_db v1 (10000 : Int32) (24 : Int32))) ||| (own_db v1 (1000 : Int32) (32 : Int32))) ||| (own_db v1 (100 : Int32) (40 : Int32))))]))
  refine own_via (fun _ k => XS.bipush X7.here hx rfl (hb hby at_63) k) ?_
  show own_Go p e below s _ _ _ (T7.setTop (mkF m 65 #[.val (.int p0), .val (.int v1), .unset, .unset] [(.int (10 : Int32)), (.int v1), (.long ((((((own_db v1 (10000000 : Int32) (0 : Int32)) ||| (own_db v1 (1000000 : Int32) (8 : Int32))) ||| (own_db v1 (100000 : Int32) (16 : Int32))) ||| (own_db v1 (10000 : Int32) (24 : Int32))) ||| (own_db v1 (1000 : Int32) (32 : Int32))) ||| (own_db v1 (100 : Int32) (40 : Int32))))]))
  refine own_via (fun _ k => XS.bipush X7.here hx rfl (hb hby at_65) k) ?_
  show own_Go p e below s _ _ _ (T7.setTop (mkF m 67 #[.val (.int p0), .val (.int v1), .unset, .unset] [(.int (48 : Int32)), (.int (10 : Int32)), (.int v1), (.long ((((((own_db v1 (10000000 : Int32) (0 : Int32)) ||| (own_db v1 (1000000 : Int32) (8 : Int32))) ||| (own_db v1 (100000 : Int32) (16 : Int32))) ||| (own_db v1 (10000 : Int32) (24 : Int32))) ||| (own_db v1 (1000 : Int32) (32 : Int32))) ||| (own_db v1 (100 : Int32) (40 : Int32))))]))
  obtain ⟨_, _, ⟨T8, L8, k8, n8⟩, -, X8, ⟨Lc8, hQ8, l8, y8, z8⟩, st8⟩ := Jvm.LawKit.callS X7 hx (y := (⟨"si/sklic/ByteWordsDigitsValuePinLaw", "digitByte", "(III)J"⟩ : MethodName)) hown (mvT hZ (hw _ (List.mem_of_getElem? (i := 3) rfl))) (mvT hZ (hw _ (List.mem_of_getElem? (i := 4) rfl))) (mvT hZ (hw _ (List.mem_of_getElem? (i := 5) rfl))) (mvT hZ (hw _ (List.mem_of_getElem? (i := 6) rfl))) (by decide) (backOf (W := 2) (rm1 l Z a0 hw [] v1 (10 : Int32) (48 : Int32) h0 n0 Z0 (by decide)) hZ (hw _ (List.mem_of_getElem? (i := 6) rfl)) (hw _ (List.mem_of_getElem? (i := 5) rfl)) (by decide) (by decide)) (g := (mkF m 67 #[.val (.int p0), .val (.int v1), .unset, .unset] [(.int (48 : Int32)), (.int (10 : Int32)), (.int v1), (.long ((((((own_db v1 (10000000 : Int32) (0 : Int32)) ||| (own_db v1 (1000000 : Int32) (8 : Int32))) ||| (own_db v1 (100000 : Int32) (16 : Int32))) ||| (own_db v1 (10000 : Int32) (24 : Int32))) ||| (own_db v1 (1000 : Int32) (32 : Int32))) ||| (own_db v1 (100 : Int32) (40 : Int32))))])) rfl (by rw [hml]; rfl) (argsL := [(.int v1), (.int (10 : Int32)), (.int (48 : Int32))]) (rest := [(.long ((((((own_db v1 (10000000 : Int32) (0 : Int32)) ||| (own_db v1 (1000000 : Int32) (8 : Int32))) ||| (own_db v1 (100000 : Int32) (16 : Int32))) ||| (own_db v1 (10000 : Int32) (24 : Int32))) ||| (own_db v1 (1000 : Int32) (32 : Int32))) ||| (own_db v1 (100 : Int32) (40 : Int32))))]) (lenOf pd_0 rfl) rfl (by show 2 * 0 + _ ≤ _; exact Nat.le_of_eq rfl) (hb hby at_67) (fun _ _ => ⟨rfl, e7, (by decide : 0 + 0 ≤ _), (by decide : 0 + 0 ≤ _)⟩)
  dsimp only [Pt.U, Pt.locs, Pt.cells, Pt.slots] at X8 l8 y8 z8 st8 hQ8
  subst l8 y8 z8
  obtain ⟨rfl, N8q, e8⟩ := hQ8
  have N8 := Fr.app N7 N8q
  refine own_via st8 ?_
  show own_Go p e below s _ _ _ (T8.setTop (mkF m 70 #[.val (.int p0), .val (.int v1), .unset, .unset] [(.long (own_db v1 (10 : Int32) (48 : Int32))), (.long ((((((own_db v1 (10000000 : Int32) (0 : Int32)) ||| (own_db v1 (1000000 : Int32) (8 : Int32))) ||| (own_db v1 (100000 : Int32) (16 : Int32))) ||| (own_db v1 (10000 : Int32) (24 : Int32))) ||| (own_db v1 (1000 : Int32) (32 : Int32))) ||| (own_db v1 (100 : Int32) (40 : Int32))))]))
  refine own_via (fun _ k => XS.lor X8.here hx rfl (hb hby at_70) rfl k) ?_
  show own_Go p e below s _ _ _ (T8.setTop (mkF m 71 #[.val (.int p0), .val (.int v1), .unset, .unset] [(.long (((((((own_db v1 (10000000 : Int32) (0 : Int32)) ||| (own_db v1 (1000000 : Int32) (8 : Int32))) ||| (own_db v1 (100000 : Int32) (16 : Int32))) ||| (own_db v1 (10000 : Int32) (24 : Int32))) ||| (own_db v1 (1000 : Int32) (32 : Int32))) ||| (own_db v1 (100 : Int32) (40 : Int32))) ||| (own_db v1 (10 : Int32) (48 : Int32))))]))
  refine own_via (fun _ k => XS.iloadN X8.here hx rfl (hb hby at_71) rfl k) ?_
  show own_Go p e below s _ _ _ (T8.setTop (mkF m 72 #[.val (.int p0), .val (.int v1), .unset, .unset] [(.int v1), (.long (((((((own_db v1 (10000000 : Int32) (0 : Int32)) ||| (own_db v1 (1000000 : Int32) (8 : Int32))) ||| (own_db v1 (100000 : Int32) (16 : Int32))) ||| (own_db v1 (10000 : Int32) (24 : Int32))) ||| (own_db v1 (1000 : Int32) (32 : Int32))) ||| (own_db v1 (100 : Int32) (40 : Int32))) ||| (own_db v1 (10 : Int32) (48 : Int32))))]))
  refine own_via (fun _ k => XS.iconst X8.here hx rfl (hb hby at_72) k) ?_
  show own_Go p e below s _ _ _ (T8.setTop (mkF m 73 #[.val (.int p0), .val (.int v1), .unset, .unset] [(.int (1 : Int32)), (.int v1), (.long (((((((own_db v1 (10000000 : Int32) (0 : Int32)) ||| (own_db v1 (1000000 : Int32) (8 : Int32))) ||| (own_db v1 (100000 : Int32) (16 : Int32))) ||| (own_db v1 (10000 : Int32) (24 : Int32))) ||| (own_db v1 (1000 : Int32) (32 : Int32))) ||| (own_db v1 (100 : Int32) (40 : Int32))) ||| (own_db v1 (10 : Int32) (48 : Int32))))]))
  refine own_via (fun _ k => XS.bipush X8.here hx rfl (hb hby at_73) k) ?_
  show own_Go p e below s _ _ _ (T8.setTop (mkF m 75 #[.val (.int p0), .val (.int v1), .unset, .unset] [(.int (56 : Int32)), (.int (1 : Int32)), (.int v1), (.long (((((((own_db v1 (10000000 : Int32) (0 : Int32)) ||| (own_db v1 (1000000 : Int32) (8 : Int32))) ||| (own_db v1 (100000 : Int32) (16 : Int32))) ||| (own_db v1 (10000 : Int32) (24 : Int32))) ||| (own_db v1 (1000 : Int32) (32 : Int32))) ||| (own_db v1 (100 : Int32) (40 : Int32))) ||| (own_db v1 (10 : Int32) (48 : Int32))))]))
  obtain ⟨_, _, ⟨T9, L9, k9, n9⟩, -, X9, ⟨Lc9, hQ9, l9, y9, z9⟩, st9⟩ := Jvm.LawKit.callS X8 hx (y := (⟨"si/sklic/ByteWordsDigitsValuePinLaw", "digitByte", "(III)J"⟩ : MethodName)) hown (mvT hZ (hw _ (List.mem_of_getElem? (i := 3) rfl))) (mvT hZ (hw _ (List.mem_of_getElem? (i := 4) rfl))) (mvT hZ (hw _ (List.mem_of_getElem? (i := 5) rfl))) (mvT hZ (hw _ (List.mem_of_getElem? (i := 6) rfl))) (by decide) (backOf (W := 2) (rm1 l Z a0 hw [] v1 (1 : Int32) (56 : Int32) h0 n0 Z0 (by decide)) hZ (hw _ (List.mem_of_getElem? (i := 6) rfl)) (hw _ (List.mem_of_getElem? (i := 5) rfl)) (by decide) (by decide)) (g := (mkF m 75 #[.val (.int p0), .val (.int v1), .unset, .unset] [(.int (56 : Int32)), (.int (1 : Int32)), (.int v1), (.long (((((((own_db v1 (10000000 : Int32) (0 : Int32)) ||| (own_db v1 (1000000 : Int32) (8 : Int32))) ||| (own_db v1 (100000 : Int32) (16 : Int32))) ||| (own_db v1 (10000 : Int32) (24 : Int32))) ||| (own_db v1 (1000 : Int32) (32 : Int32))) ||| (own_db v1 (100 : Int32) (40 : Int32))) ||| (own_db v1 (10 : Int32) (48 : Int32))))])) rfl (by rw [hml]; rfl) (argsL := [(.int v1), (.int (1 : Int32)), (.int (56 : Int32))]) (rest := [(.long (((((((own_db v1 (10000000 : Int32) (0 : Int32)) ||| (own_db v1 (1000000 : Int32) (8 : Int32))) ||| (own_db v1 (100000 : Int32) (16 : Int32))) ||| (own_db v1 (10000 : Int32) (24 : Int32))) ||| (own_db v1 (1000 : Int32) (32 : Int32))) ||| (own_db v1 (100 : Int32) (40 : Int32))) ||| (own_db v1 (10 : Int32) (48 : Int32))))]) (lenOf pd_0 rfl) rfl (by show 2 * 0 + _ ≤ _; exact Nat.le_of_eq rfl) (hb hby at_75) (fun _ _ => ⟨rfl, e8, (by decide : 0 + 0 ≤ _), (by decide : 0 + 0 ≤ _)⟩)
  dsimp only [Pt.U, Pt.locs, Pt.cells, Pt.slots] at X9 l9 y9 z9 st9 hQ9
  subst l9 y9 z9
  obtain ⟨rfl, N9q, e9⟩ := hQ9
  have N9 := Fr.app N8 N9q
  refine own_via st9 ?_
  show own_Go p e below s _ _ _ (T9.setTop (mkF m 78 #[.val (.int p0), .val (.int v1), .unset, .unset] [(.long (own_db v1 (1 : Int32) (56 : Int32))), (.long (((((((own_db v1 (10000000 : Int32) (0 : Int32)) ||| (own_db v1 (1000000 : Int32) (8 : Int32))) ||| (own_db v1 (100000 : Int32) (16 : Int32))) ||| (own_db v1 (10000 : Int32) (24 : Int32))) ||| (own_db v1 (1000 : Int32) (32 : Int32))) ||| (own_db v1 (100 : Int32) (40 : Int32))) ||| (own_db v1 (10 : Int32) (48 : Int32))))]))
  refine own_via (fun _ k => XS.lor X9.here hx rfl (hb hby at_78) rfl k) ?_
  show own_Go p e below s _ _ _ (T9.setTop (mkF m 79 #[.val (.int p0), .val (.int v1), .unset, .unset] [(.long ((((((((own_db v1 (10000000 : Int32) (0 : Int32)) ||| (own_db v1 (1000000 : Int32) (8 : Int32))) ||| (own_db v1 (100000 : Int32) (16 : Int32))) ||| (own_db v1 (10000 : Int32) (24 : Int32))) ||| (own_db v1 (1000 : Int32) (32 : Int32))) ||| (own_db v1 (100 : Int32) (40 : Int32))) ||| (own_db v1 (10 : Int32) (48 : Int32))) ||| (own_db v1 (1 : Int32) (56 : Int32))))]))
  refine own_via (fun _ k => XS.lstoreN X9.here hx rfl (hb hby at_79) rfl (l' := #[.val (.int p0), .val (.int v1), .val (.long ((((((((own_db v1 (10000000 : Int32) (0 : Int32)) ||| (own_db v1 (1000000 : Int32) (8 : Int32))) ||| (own_db v1 (100000 : Int32) (16 : Int32))) ||| (own_db v1 (10000 : Int32) (24 : Int32))) ||| (own_db v1 (1000 : Int32) (32 : Int32))) ||| (own_db v1 (100 : Int32) (40 : Int32))) ||| (own_db v1 (10 : Int32) (48 : Int32))) ||| (own_db v1 (1 : Int32) (56 : Int32)))), .second]) rfl k) ?_
  show own_Go p e below s _ _ _ (T9.setTop (mkF m 80 #[.val (.int p0), .val (.int v1), .val (.long ((((((((own_db v1 (10000000 : Int32) (0 : Int32)) ||| (own_db v1 (1000000 : Int32) (8 : Int32))) ||| (own_db v1 (100000 : Int32) (16 : Int32))) ||| (own_db v1 (10000 : Int32) (24 : Int32))) ||| (own_db v1 (1000 : Int32) (32 : Int32))) ||| (own_db v1 (100 : Int32) (40 : Int32))) ||| (own_db v1 (10 : Int32) (48 : Int32))) ||| (own_db v1 (1 : Int32) (56 : Int32)))), .second] []))
  generalize hv10 : ((((((((own_db v1 (10000000 : Int32) (0 : Int32)) ||| (own_db v1 (1000000 : Int32) (8 : Int32))) ||| (own_db v1 (100000 : Int32) (16 : Int32))) ||| (own_db v1 (10000 : Int32) (24 : Int32))) ||| (own_db v1 (1000 : Int32) (32 : Int32))) ||| (own_db v1 (100 : Int32) (40 : Int32))) ||| (own_db v1 (10 : Int32) (48 : Int32))) ||| (own_db v1 (1 : Int32) (56 : Int32))) = v10
  show own_Go p e below s _ _ _ (T9.setTop (mkF m 80 #[.val (.int p0), .val (.int v1), .val (.long v10), .second] []))
  refine own_via (fun _ k => XS.lloadN X9.here hx rfl (hb hby at_80) rfl k) ?_
  show own_Go p e below s _ _ _ (T9.setTop (mkF m 81 #[.val (.int p0), .val (.int v1), .val (.long v10), .second] [(.long v10)]))
  obtain ⟨_, _, ⟨T11, L11, k11, n11⟩, -, X11, ⟨Lc11, hQ11, l11, y11, z11⟩, st11⟩ := Jvm.LawKit.callS X9 hx (y := (⟨"si/sklic/ByteWords", "digitsValue", "(J)J"⟩ : MethodName)) hown (mvT hZ (hw _ (List.mem_of_getElem? (i := 10) rfl))) (mvT hZ (hw _ (List.mem_of_getElem? (i := 11) rfl))) (mvT hZ (hw _ (List.mem_of_getElem? (i := 12) rfl))) (mvT hZ (hw _ (List.mem_of_getElem? (i := 13) rfl))) (by decide) (backOf (W := 0) (rm2 l Z a0 hw [] v10 h0 n0 Z0 ) hZ (hw _ (List.mem_of_getElem? (i := 13) rfl)) (hw _ (List.mem_of_getElem? (i := 12) rfl)) (by decide) (by decide)) (g := (mkF m 81 #[.val (.int p0), .val (.int v1), .val (.long v10), .second] [(.long v10)])) rfl (by rw [hml]; rfl) (argsL := [(.long v10)]) (rest := []) (lenOf pd_1 rfl) rfl (by show 2 * 0 + _ ≤ _; exact Nat.le_of_eq rfl) (hb hby at_81) (fun _ _ => ⟨rfl, e9, (by decide : 0 + 0 ≤ _), (by decide : 0 + 0 ≤ _)⟩)
  dsimp only [Pt.U, Pt.locs, Pt.cells, Pt.slots] at X11 l11 y11 z11 st11 hQ11
  subst l11 y11 z11
  obtain ⟨rfl, N11q, e11⟩ := hQ11
  have N11 := Fr.app N9 N11q
  refine own_via st11 ?_
  show own_Go p e below s _ _ _ (T11.setTop (mkF m 84 #[.val (.int p0), .val (.int v1), .val (.long v10), .second] [(.long (own_dv v10))]))
  refine own_via (fun _ k => XS.iloadN X11.here hx rfl (hb hby at_84) rfl k) ?_
  show own_Go p e below s _ _ _ (T11.setTop (mkF m 85 #[.val (.int p0), .val (.int v1), .val (.long v10), .second] [(.int v1), (.long (own_dv v10))]))
  refine own_via (fun _ k => XS.i2l X11.here hx rfl (hb hby at_85) rfl k) ?_
  show own_Go p e below s _ _ _ (T11.setTop (mkF m 86 #[.val (.int p0), .val (.int v1), .val (.long v10), .second] [(.long (o_i2l v1)), (.long (own_dv v10))]))
  refine own_via (fun _ k => XS.lcmp X11.here hx rfl (hb hby at_86) rfl k) ?_
  show own_Go p e below s _ _ _ (T11.setTop (mkF m 87 #[.val (.int p0), .val (.int v1), .val (.long v10), .second] [(.int (lcmpW (own_dv v10) (o_i2l v1)))]))
  have hc12 : (own_dv v10) = (o_i2l v1) := by subst_vars; exact own_plain p0
  refine own_via (fun _ k => XS.ifNo X11.here hx rfl (hb hby at_87) rfl (Jvm.Free.XT.ll_ne_f hc12) k) ?_
  show own_Go p e below s _ _ _ (T11.setTop (mkF m 90 #[.val (.int p0), .val (.int v1), .val (.long v10), .second] []))
  refine own_via (fun _ k => XS.iconst X11.here hx rfl (hb hby at_90) k) ?_
  show own_Go p e below s _ _ _ (T11.setTop (mkF m 91 #[.val (.int p0), .val (.int v1), .val (.long v10), .second] [(.int (1 : Int32))]))
  refine own_via (fun _ k => XS.goto X11.here hx rfl (pc0 := 91) (pc' := 95) rfl (hb hby at_91) (by decide) (by decide) k) ?_
  show own_Go p e below s _ _ _ (T11.setTop (mkF m 95 #[.val (.int p0), .val (.int v1), .val (.long v10), .second] [(.int (1 : Int32))]))
  exact own_goN X11 hx (t := .boolean) Bd.returns (by simp) (hb hby at_95) Bd.notSynchronized (by decide) (by decide) (by rw [e11]; exact ⟨rfl, N11⟩)
set_option maxRecDepth 65536 in
set_option maxHeartbeats 40000000 in
theorem comes_1 {Post : Tables → Env → Array Value → State → Outcome → State → Prop} (hpost : ∀ tb e args s v u, (limb_1_1.after args s (.returned v) u = true ∧ limb_1_2.after args s (.returned v) u = true ∧ True) → FrameEnd s (.returned v) u (Jvm.fieldLocs frame_1_writes args s ++ Jvm.arrayLocs frame_1_arrays args s ++ Jvm.staticLocs frame_1_statics s) 0 0 → Post tb e args s (.returned v) u) :
    ArmFor flags0 classFile x code maxLocals ret World_1 tables_1 room_1 Calls_1 rest_1 Pre_1 Post := by
  intro l hfl _ _ p e ha hc hk s m args below hf hA hF happ hP
  obtain ⟨hcalls, hrest, hpre⟩ := hP
  obtain ⟨-, -, -, hnamed, -, -, -, hat⟩ := (Spec.applies_iff hf).mp happ
  obtain ⟨hg, hn⟩ := and_e (Cond.before_iff.mp (show (Jvm.Cond.and given_1 narrow_1).before args s = true from hpre))
  obtain ⟨g1, g2⟩ := and_e hg
  obtain ⟨w0, rfl⟩ : ∃ w0 : Value, args = #[w0] := by
    have hs : args.size = 1 := by simpa [Cond.value, given_1] using g1
    obtain ⟨L⟩ := args
    match L, hs with
    | [w0], _ => exact ⟨w0, rfl⟩
  have hw := fun d (hd : d ∈ tables_1) => atoms_spec (ws := Jvm.Cond.code x code maxLocals ret :: tables_1) hat d (List.mem_cons_of_mem _ hd)
  have hfit : Fit s := fun {y c} hc i hi => by
    obtain ⟨ha, rfl⟩ := Array.getElem?_eq_some_iff.mp hc
    have q := List.all_eq_true.mp ((Array.all_eq_true_iff_forall_mem.mp hF) _ (Array.getElem_mem ha)) i (List.mem_range.mpr hi)
    simpa [Array.getElem?_eq_getElem hi] using q
  obtain ⟨i0, ei0⟩ := is_v g2
  obtain rfl : w0 = (.int i0) := Option.some.inj ei0
  obtain ⟨n, o, h1, h2, h3, _, L, rfl, ⟨rfl, N⟩, hq⟩ := rm0 l s _ hw tables_1 i0 s.heap s.heap.size (Nat.le_refl _)  p e ha hc hk s m _ below hf ((Spec.applies_iff_loose hf).mp happ).1 ⟨rfl, State.Warmed39.refl s, rfl⟩ trivial
  refine ⟨n, _, h1, h2, h3, hpost _ _ _ _ _ _ ⟨Cond.after_iff.mpr rfl, Cond.after_iff.mpr (eq_i res_at (Term.int_eval (1)) rfl), trivial⟩ ⟨hq.1, hq.2.1, (hq.2.2.sift fun y hy => Or.inr (N y hy)).mono (by decide) (by decide)⟩⟩
theorem main_1_1 : Claimed_1_1 := comes_1 fun _ _ _ _ _ _ h hF => ⟨h.1, hF⟩
theorem main_1_2 : Claimed_1_2 := comes_1 fun _ _ _ _ _ _ h hF => ⟨h.2.1, hF⟩
end Jvm.Pilot.@@N@@
namespace Jvm.Pilot.@@N@@
open Jvm Jvm.ClassFile Sem Op Lib Jvm.Free Jvm.Stand Jvm.Pilot.@@N@@.Jvm.D
/-! MADE BY PROGRAM (witnessworld.py) out of the Statement's table words and the real class files: 9 classes; the members and pool entries that the words name. The judged class is class 1, her method 2. -/
namespace start1
open Jvm.ClassFile
def u (s : String) : CpInfo := .utf8 (stringToUtf16 s)
/-- a pool by its gaps: so many unusable entries, then the entry; so many at the end -/
def gap : Nat → List CpInfo → List CpInfo
  | 0, r => r
  | n + 1, r => .unusable :: gap n r
def poolList (es : List (Nat × CpInfo)) (last : Nat) : List CpInfo := es.foldr (fun e r => gap e.1 (e.2 :: r)) (gap last [])
def pool (es : List (Nat × CpInfo)) (last : Nat) : Array CpInfo := ⟨poolList es last⟩
def fileOf (pool : Array CpInfo) (this : Nat) (attrs : Array Attribute := #[]) (ms : Array MethodInfo := #[]) (fl : Nat := 33) (sup : Nat := 0) (ifs : Array Nat := #[]) (fds : Array FieldInfo := #[]) : ClassFile where
  minorVersion := 0
  majorVersion := 65
  constantPool := pool
  accessFlags := fl
  thisClass := this
  superClass := sup
  interfaces := ifs
  fields := fds
  methods := ms
  attributes := attrs
def plain (name : String) (sup : Option ClassId) : Class where
  name := name
  kind := .ordinary
  loader := none
  accessFlags := 33
  super := sup
  interfaces := #[]
  cf := none
  fields := #[]
  methods := #[]
  instanceTypes := #[]
  staticTypes := #[]
  resolved := #[]
  callSites := []
  init := .initialized
  statics := none
  mirror := none

def pool0 : Array CpInfo := pool [(5, u "<init>"), (0, u "()V"), (1, .class_ 10), (1, u "java/lang/Object")] 113

def k0m0 : Method := { name := "<init>", desc := "()V", sig := { parameters := [], returnType := none }, accessFlags := 1, code := none }
/-- java/lang/Object -/
def k0 : Class := { plain "java/lang/Object" none with
  accessFlags := 33
  interfaces := #[]
  cf := some (fileOf pool0 8 #[] #[{ accessFlags := 1, nameIndex := 5, descriptorIndex := 6, attributes := #[] }] 33 0 #[] #[])
  fields := #[]
  methods := #[k0m0]
  instanceTypes := #[]
  staticTypes := #[]
  resolved := Array.replicate 124 none
  statics := none }

def pool1 : Array CpInfo := pool [(2, .class_ 4), (1, u "java/lang/Object"), (0, u "<init>"), (0, u "()V"), (0, .long 48), (1, .integer 2147483647), (0, .integer 100000000), (0, .integer 10000000), (0, .methodref 13 14), (0, .class_ 15), (0, .nameAndType 16 17), (0, u "si/sklic/ByteWordsDigitsValuePinLaw"), (0, u "digitByte"), (0, u "(III)J"), (0, .integer 1000000), (0, .integer 100000), (0, .methodref 21 22), (0, .class_ 23), (0, .nameAndType 24 25), (0, u "si/sklic/ByteWords"), (0, u "digitsValue"), (0, u "(J)J"), (2, u "law"), (0, u "(I)Z")] 3

def k1m0 : Method := { name := "<init>", desc := "()V", sig := { parameters := [], returnType := none }, accessFlags := 2, code := none }
def k1c1 : Code := { maxStack := 4, maxLocals := 5, code := method_2_code, exceptionTable := #[], attributes := #[] }
def k1m1 : Method := { name := "digitByte", desc := "(III)J", sig := { parameters := [.int, .int, .int], returnType := some .long }, accessFlags := 10, code := some k1c1 }
def k1c2 : Code := { maxStack := 5, maxLocals := 4, code := code, exceptionTable := #[], attributes := #[] }
def k1m2 : Method := { name := "law", desc := "(I)Z", sig := { parameters := [.int], returnType := some .boolean }, accessFlags := 9, code := some k1c2 }
/-- si/sklic/ByteWordsDigitsValuePinLaw -/
def k1 : Class := { plain "si/sklic/ByteWordsDigitsValuePinLaw" (some 0) with
  accessFlags := 49
  interfaces := #[]
  cf := some (fileOf pool1 13 #[] #[{ accessFlags := 2, nameIndex := 5, descriptorIndex := 6, attributes := #[] }, { accessFlags := 10, nameIndex := 16, descriptorIndex := 17, attributes := #[] }, { accessFlags := 9, nameIndex := 28, descriptorIndex := 29, attributes := #[] }] 49 2 #[] #[])
  fields := #[]
  methods := #[k1m0, k1m1, k1m2]
  instanceTypes := #[]
  staticTypes := #[]
  resolved := Array.replicate 33 none
  statics := none }

def pool2 : Array CpInfo := pool [(4, .class_ 6), (1, u "java/lang/Object"), (0, u "<init>"), (0, u "()V"), (1, .class_ 12), (1, u "si/sklic/ByteWords"), (0, u "WORDS"), (0, u "Ljava/lang/invoke/VarHandle;"), (24, .long 3472328296227680304), (11, .long 10), (1, .long 71777214294589695), (1, .long 100), (1, .long 281470681808895), (1, .long 10000), (1, .long 4294967295), (19, u "BYTES"), (0, u "I"), (2, u "ONES"), (0, u "J"), (0, u "HIGHS"), (9, u "digitsValue"), (0, u "(J)J")] 4

def k2m0 : Method := { name := "<init>", desc := "()V", sig := { parameters := [], returnType := none }, accessFlags := 2, code := none }
def k2c1 : Code := { maxStack := 5, maxLocals := 8, code := prog_7_method_9_code, exceptionTable := #[], attributes := #[] }
def k2m1 : Method := { name := "digitsValue", desc := "(J)J", sig := { parameters := [.long], returnType := some .long }, accessFlags := 8, code := some k2c1 }
/-- si/sklic/ByteWords -/
def k2 : Class := { plain "si/sklic/ByteWords" (some 0) with
  accessFlags := 48
  interfaces := #[]
  cf := some (fileOf pool2 10 #[] #[{ accessFlags := 2, nameIndex := 7, descriptorIndex := 8, attributes := #[] }, { accessFlags := 8, nameIndex := 97, descriptorIndex := 98, attributes := #[] }] 48 4 #[] #[{ accessFlags := 24, nameIndex := 81, descriptorIndex := 82, attributes := #[] }, { accessFlags := 26, nameIndex := 13, descriptorIndex := 14, attributes := #[] }, { accessFlags := 26, nameIndex := 85, descriptorIndex := 86, attributes := #[] }, { accessFlags := 26, nameIndex := 87, descriptorIndex := 86, attributes := #[] }])
  fields := #[{ name := "BYTES", type := .int, accessFlags := 24, slot := 0, constantValue := 0 }, { name := "WORDS", type := (.object "java/lang/invoke/VarHandle"), accessFlags := 26, slot := 1, constantValue := 0 }, { name := "ONES", type := .long, accessFlags := 26, slot := 2, constantValue := 0 }, { name := "HIGHS", type := .long, accessFlags := 26, slot := 3, constantValue := 0 }]
  methods := #[k2m0, k2m1]
  instanceTypes := #[]
  staticTypes := #[.int, (.object "java/lang/invoke/VarHandle"), .long, .long]
  resolved := Array.replicate 103 none
  statics := none }

def pool3 : Array CpInfo := pool [(1, u "java/lang/Cloneable"), (0, .class_ 1), (0, u "java/lang/Object"), (0, .class_ 3)] 3

/-- java/lang/Cloneable -/
def k3 : Class := { plain "java/lang/Cloneable" (some 0) with
  accessFlags := 1537
  interfaces := #[]
  cf := some (fileOf pool3 2 #[] #[] 1537 4 #[] #[])
  fields := #[]
  methods := #[]
  instanceTypes := #[]
  staticTypes := #[]
  resolved := Array.replicate 8 none
  statics := none }

def pool4 : Array CpInfo := pool [(1, u "java/io/Serializable"), (0, .class_ 1), (0, u "java/lang/Object"), (0, .class_ 3)] 3

/-- java/io/Serializable -/
def k4 : Class := { plain "java/io/Serializable" (some 0) with
  accessFlags := 1537
  interfaces := #[]
  cf := some (fileOf pool4 2 #[] #[] 1537 4 #[] #[])
  fields := #[]
  methods := #[]
  instanceTypes := #[]
  staticTypes := #[]
  resolved := Array.replicate 8 none
  statics := none }

/-- the primitive byte -/
def k5 : Class := { plain "byte" none with kind := .primitive 'B', accessFlags := 0x411 }
/-- [B -/
def k6 : Class := { plain "[B" (some 0) with kind := .array 5 .byte, interfaces := #[3, 4], accessFlags := 1041 }

/-- the primitive int -/
def k7 : Class := { plain "int" none with kind := .primitive 'I', accessFlags := 0x411 }
/-- [I -/
def k8 : Class := { plain "[I" (some 0) with kind := .array 7 .int, interfaces := #[3, 4], accessFlags := 1041 }

def heap : Heap := #[]
def classes : Array Class := #[k0, k1, k2, k3, k4, k5, k6, k7, k8]
def interned : List (Array UInt16 × Addr) := []
def slotsUsed : Nat := 0
def theMethod : MethodId := ⟨1, 2⟩
def args0 : Array Value := #[.int 12345678]
def aboutOver (below : List Frame) : State where
  vm := { classes := classes, interned := interned.toArray }
  heap := heap
  slotsUsed := slotsUsed
  threads := #[{ frames := .invoking theMethod args0 :: below }]
def below0 : List Frame := [.native { method := ⟨0, 0⟩, args := #[] }]
def about1 : State := aboutOver below0
def p0 : Program := .bare "" "" ""
def e0 : Env := launch0.env 0 0 0
theorem w_frames : about1.frames = Frame.invoking theMethod args0 :: below0 := rfl
set_option maxRecDepth 65536 in
theorem w_args : argsFit about1.vm theMethod args0 = true := by decide +kernel
set_option maxRecDepth 65536 in
theorem w_heap : heapFits about1 = true := by decide +kernel
set_option maxRecDepth 65536 in
theorem w_runnable : about1.curStatus? = some .runnable := by decide +kernel
set_option maxRecDepth 65536 in
theorem w_alone : about1.alone = true := by decide +kernel
set_option maxRecDepth 65536 in
theorem w_named : about1.methodNamed? x = some theMethod := by decide +kernel
set_option maxRecDepth 65536 in
theorem w_hears : about1.hears theMethod below0 = true := by decide +kernel
set_option maxRecDepth 65536 in
theorem w_ripe : about1.ripe theMethod args0 below0 = true := by decide +kernel
theorem w_running : about1.status = .running := rfl
set_option maxRecDepth 65536 in
theorem w_room : about1.hasRoom e0.platform room_1 = true :=
  launch0.hasRoom_least _ room_1 (by decide +kernel) (by decide +kernel) (by decide +kernel) (by decide +kernel) (by decide +kernel) (by decide +kernel)
theorem allAtoms_all (ts : List Jvm.Cond) (a : Array Jvm.Value) (st : Jvm.State) : (allAtoms ts).before a st = ts.all (fun c => c.before a st) := by
  induction ts with
  | nil => rfl
  | cons c t ih =>
    show (Jvm.Cond.and c (allAtoms t)).before a st = _
    rw [Jvm.Cond.before_and, ih, List.all_cons]
def words1 : List Jvm.Cond := Jvm.Cond.code x code maxLocals ret :: tables_1
/-- a 'code' word, met by the world's own term for the bytes: nothing is compared byte by byte -/
theorem code_word {y : MethodName} {bytes : ByteArray} {mx : Nat} {rt : Option FieldType} {a : Array Value} {s : State} {m : MethodId} {meth : Method} {c : Code} (h1 : s.methodNamed? y = some m) (h2 : s.vm.method? m = some meth) (h3 : meth.code = some c) (h4 : c.code = bytes)
    (h5 : (c.maxLocals == mx && c.exceptionTable.isEmpty && decide (c.maxStack ≤ mostOperands) && decide (meth.sig.returnType = rt) && !meth.locks && decide (parseMethodDescriptor y.desc = some meth.sig)) = true) : (Jvm.Cond.code y bytes mx rt).before a s = true := by
  simp only [Bool.and_eq_true, beq_iff_eq, Bool.not_eq_true', decide_eq_true_eq] at h5
  obtain ⟨⟨⟨⟨⟨g1, g2⟩, g3⟩, g4⟩, g5⟩, g6⟩ := h5
  simp [Cond.before, Cond.holds, Cond.value, h1, h2, h3, h4, g1, g2, g3, g4, g5, g6]
def isCode : Jvm.Cond → Bool
  | .code _ _ _ _ => true
  | _ => false
theorem all_split {L : List Jvm.Cond} {P : Jvm.Cond → Bool} (h1 : L.all (fun c => isCode c || P c) = true) (h2 : ∀ c ∈ L.filter isCode, P c = true) : L.all P = true := by
  refine List.all_eq_true.mpr fun c hc => ?_
  have h := List.all_eq_true.mp h1 c hc
  rcases Bool.eq_false_or_eq_true (isCode c) with hi | hi
  · exact h2 c (List.mem_filter.mpr ⟨hc, hi⟩)
  · simpa [hi] using h
set_option maxRecDepth 65536 in
theorem w_c0 : (Jvm.Cond.code x code maxLocals ret).before args0 about1 = true := code_word (m := ⟨1, 2⟩) (meth := k1m2) (c := k1c2) (by decide +kernel) rfl rfl rfl (by decide +kernel)
set_option maxRecDepth 65536 in
theorem w_c1 : (Jvm.Cond.code ({ cls := "si/sklic/ByteWordsDigitsValuePinLaw", name := "digitByte", desc := "(III)J" } : Jvm.MethodName) method_2_code (5 : Nat) (Option.some Jvm.ClassFile.FieldType.long)).before args0 about1 = true := code_word (m := ⟨1, 1⟩) (meth := k1m1) (c := k1c1) (by decide +kernel) rfl rfl rfl (by decide +kernel)
set_option maxRecDepth 65536 in
theorem w_c2 : (Jvm.Cond.code ({ cls := "si/sklic/ByteWords", name := "digitsValue", desc := "(J)J" } : Jvm.MethodName) prog_7_method_9_code (8 : Nat) (Option.some Jvm.ClassFile.FieldType.long)).before args0 about1 = true := code_word (m := ⟨2, 1⟩) (meth := k2m1) (c := k2c1) (by decide +kernel) rfl rfl rfl (by decide +kernel)
def codes1 : List Jvm.Cond := [Jvm.Cond.code x code maxLocals ret, Jvm.Cond.code ({ cls := "si/sklic/ByteWordsDigitsValuePinLaw", name := "digitByte", desc := "(III)J" } : Jvm.MethodName) method_2_code (5 : Nat) (Option.some Jvm.ClassFile.FieldType.long), Jvm.Cond.code ({ cls := "si/sklic/ByteWords", name := "digitsValue", desc := "(J)J" } : Jvm.MethodName) prog_7_method_9_code (8 : Nat) (Option.some Jvm.ClassFile.FieldType.long)]
set_option maxRecDepth 65536 in
theorem codes_eq : words1.filter isCode = codes1 := rfl
theorem w_codes : ∀ c ∈ words1.filter isCode, c.before args0 about1 = true := by
  rw [codes_eq]
  intro c hc
  simp only [codes1, List.mem_cons, List.not_mem_nil, or_false] at hc
  rcases hc with rfl | rfl | rfl
  · exact w_c0
  · exact w_c1
  · exact w_c2
set_option maxRecDepth 65536 in
theorem w_t1 : words1.all (fun c => isCode c || c.before args0 about1) = true := by decide +kernel
theorem w_tables : (allAtoms (Jvm.Cond.code x code maxLocals ret :: tables_1)).before args0 about1 = true := by
  rw [allAtoms_all]
  show words1.all (fun c => c.before args0 about1) = true
  refine all_split ?_ w_codes
  rw [w_t1]
set_option maxRecDepth 65536 in
theorem w_case : (Jvm.Cond.and given_1 narrow_1).before args0 about1 = true := by decide +kernel
theorem w_applies : (headSpec (Jvm.Cond.code x code maxLocals ret :: tables_1) room_1).applies x e0.platform about1 = true :=
  (Spec.applies_iff w_frames).mpr ⟨w_running, w_runnable, w_alone, w_named, w_hears, w_ripe, w_room, w_tables⟩
theorem atStart : AtStart classFile x code maxLocals ret World_1 tables_1 room_1 Calls_1 rest_1 Pre_1 launch0 p0 e0 about1 theMethod args0 below0 :=
  ⟨lists_1, trivial, launch0.admits_env _ _ _, launch0.least_env, fairChoices_fair.cas, fairChoices_fair.clock, w_frames, w_args, w_heap, w_applies, trivial, trivial, w_case⟩
end start1
theorem witness_1 : WitnessClaimed_1 := ⟨start1.p0, start1.e0, start1.about1, start1.theMethod, start1.args0, start1.below0, start1.atStart⟩
end Jvm.Pilot.@@N@@
