import JvmDerived
import JvmDerived.Pilot.@@N@@Statement
import JvmDerived.Pilot.@@N@@Code
set_option linter.unusedVariables false
set_option linter.unusedSimpArgs false
namespace Jvm.Pilot.@@N@@
open Jvm Jvm.ClassFile Sem Op Lib Jvm.Free Jvm.Stand Jvm.LawKit Jvm.RoadKit Bundle Jvm.Pilot.@@N@@.Jvm.D
section OwnGo
variable {p : Program} {l : Launch} {e : Env} {R : Room} {s : State} {m : MethodId} {args : Array Value} {below : List Frame} {meth : Method} {c : Code} {T : State} {locs : List Loc} {cells slots : Nat}
/-- from S the run ends, returned, with Q -/
def own_Go (p : Program) (e : Env) (below : List Frame) (s : State) (Q : Option Value → Heap → List Loc → Prop) (cs ss : Nat) (S : State) : Prop :=
  ∃ (U : State) (o : Outcome), Steps p.tables e below S U ∧ U.status = .running ∧ Ended U below o ∧ ∃ v L, o = .returned v ∧ Q v U.heap L ∧ FrameEnd s o U L cs ss
variable {Q : Option Value → Heap → List Loc → Prop} {cs ss : Nat} {S S' : State}
theorem own_via (st : ∀ t, Steps p.tables e below S' t → Steps p.tables e below S t) (k : own_Go p e below s Q cs ss S') : own_Go p e below s Q cs ss S := by
  obtain ⟨U, o, h, r⟩ := k; exact ⟨U, o, st U h, r⟩
theorem own_viaT (st : Steps p.tables e below S S') (k : own_Go p e below s Q cs ss S') : own_Go p e below s Q cs ss S := own_via (fun _ h => st.trans h) k
theorem own_goV (X : Stand p l e R s m args below meth c T locs cells slots) (hx : p.tables.exec = Jvm.exec) {pc : Nat} {Ls : Array Slot} (hret : meth.sig.returnType = none) (hd : decode c.code pc = .ok (.return_, 1)) (hk : meth.locks = false) (hc : cells ≤ cs) (hs : slots ≤ ss) (hQ : Q none T.heap locs) :
    own_Go p e below s Q cs ss (T.setTop (mkF m pc Ls [])) := by
  obtain ⟨fs, hr, hrun, hended, hW, hsame⟩ := X.leave (v := none) (fun _ => rfl) hk
  exact ⟨_, _, X.returnOut hx hret hd hr, hrun, hended, _, _, rfl, hQ, ⟨_, rfl⟩, hW, hsame.mono hc hs⟩
theorem own_goN (X : Stand p l e R s m args below meth c T locs cells slots) (hx : p.tables.exec = Jvm.exec) {pc : Nat} {Ls : Array Slot} {z : Int32} {t : FieldType} {rest : List Value} (hret : meth.sig.returnType = some t) (ht : t = .boolean ∨ t = .byte ∨ t = .char ∨ t = .short) (hd : decode c.code pc = .ok (.ireturn, 1)) (hk : meth.locks = false) (hc : cells ≤ cs) (hs : slots ≤ ss) (hQ : Q (some (.int (nar t z))) T.heap locs) :
    own_Go p e below s Q cs ss (T.setTop (mkF m pc Ls (.int z :: rest))) := by
  obtain ⟨fs, hr, hrun, hended, hW, hsame⟩ := X.leave (v := some (.int (nar t z))) (fun h => by rw [hret] at h; cases h) hk
  exact ⟨_, _, retN X hx hret ht hd hr, hrun, hended, _, _, rfl, hQ, ⟨_, rfl⟩, hW, hsame.mono hc hs⟩
theorem own_goI (X : Stand p l e R s m args below meth c T locs cells slots) (hx : p.tables.exec = Jvm.exec) {pc : Nat} {Ls : Array Slot} {z : Int32} (hret : meth.sig.returnType = some .int) (hd : decode c.code pc = .ok (.ireturn, 1)) (hk : meth.locks = false) (hc : cells ≤ cs) (hs : slots ≤ ss) (hQ : Q (some (.int z)) T.heap locs) :
    own_Go p e below s Q cs ss (T.setTop (mkF m pc Ls [.int z])) := by
  obtain ⟨fs, hr, hrun, hended, hW, hsame⟩ := X.leave (v := some (.int z)) (fun h => by rw [hret] at h; cases h) hk
  exact ⟨_, _, X.ireturnOut hx hret rfl (Or.inl rfl) hd hr, hrun, hended, _, _, rfl, hQ, ⟨_, rfl⟩, hW, hsame.mono hc hs⟩
theorem own_goJ (X : Stand p l e R s m args below meth c T locs cells slots) (hx : p.tables.exec = Jvm.exec) {pc : Nat} {Ls : Array Slot} {z : Int64} (hret : meth.sig.returnType = some .long) (hd : decode c.code pc = .ok (.lreturn, 1)) (hk : meth.locks = false) (hc : cells ≤ cs) (hs : slots ≤ ss) (hQ : Q (some (.long z)) T.heap locs) :
    own_Go p e below s Q cs ss (T.setTop (mkF m pc Ls [.long z])) := by
  obtain ⟨fs, hr, hrun, hended, hW, hsame⟩ := X.leave (v := some (.long z)) (fun h => by rw [hret] at h; cases h) hk
  exact ⟨_, _, X.lreturnOut hx hret hd hr, hrun, hended, _, _, rfl, hQ, ⟨_, rfl⟩, hW, hsame.mono hc hs⟩
theorem own_goA (X : Stand p l e R s m args below meth c T locs cells slots) (hx : p.tables.exec = Jvm.exec) {pc : Nat} {Ls : Array Slot} {w : Value} {t : FieldType} (hw : w.isRef = true) (hret : meth.sig.returnType = some t) (ht : t.isReference = true) (hd : decode c.code pc = .ok (.areturn, 1)) (hk : meth.locks = false) (hc : cells ≤ cs) (hs : slots ≤ ss) (hQ : Q (some w) T.heap locs) :
    own_Go p e below s Q cs ss (T.setTop (mkF m pc Ls [w])) := by
  obtain ⟨fs, hr, hrun, hended, hW, hsame⟩ := X.leave (v := some w) (fun h => by rw [hret] at h; cases h) hk
  exact ⟨_, _, X.areturnOut hx hw hret ht hd hr, hrun, hended, _, _, rfl, hQ, ⟨_, rfl⟩, hW, hsame.mono hc hs⟩
theorem own_selP {s : State} {args : Array Value} {y y' : MethodName} (hs : (Cond.selects y'.cls y' y').before args s = true) (hc : y'.cls = y.cls) (hpriv : s.PrivateAt y) (hinst : (Cond.instanceMethod y).before args s = true) (hy : y.cls ≠ "java/lang/invoke/MethodHandle" ∧ y.cls ≠ "java/lang/invoke/VarHandle") : (Cond.selects y.cls y y).before args s = true := by
  obtain ⟨c2, r2, m2, -, -, q3, -, kP, hkP, hkPi⟩ := Cond.selects_spec hs
  exact selects_self_of_private (hc ▸ findClass_of_methodNamed q3) hkP hkPi hpriv hinst hy
end OwnGo
def o_i2l (x : Int32) : Int64 := x.toInt64
def o_l2i (x : Int64) : Int32 := x.toInt32
def o_i2b (x : Int32) : Int32 := x.toInt8.toInt32
def o_i2s (x : Int32) : Int32 := x.toInt16.toInt32
def o_i2c (x : Int32) : Int32 := x.toUInt32.toUInt16.toUInt32.toInt32
def o_ishl (x y : Int32) : Int32 := x <<< (y &&& 31)
def o_ishr (x y : Int32) : Int32 := x >>> (y &&& 31)
def o_iushr (x y : Int32) : Int32 := (x.toUInt32 >>> (y &&& 31).toUInt32).toInt32
def o_lshl (x : Int64) (y : Int32) : Int64 := x <<< (y &&& 0x3f).toInt64
def o_lshr (x : Int64) (y : Int32) : Int64 := x >>> (y &&& 0x3f).toInt64
def o_lushr (x : Int64) (y : Int32) : Int64 := (x.toUInt64 >>> (y &&& 0x3f).toInt64.toUInt64).toInt64
def o_irem (x y : Int32) : Int32 := x - (x / y) * y
def o_lrem (x y : Int64) : Int64 := x - (x / y) * y
def o_d0 : UInt64 := FP.dconst0
def o_d1 : UInt64 := FP.dconst1
section OwnNums
/-- the unsigned number behind an int, a long -/
abbrev own_n (x : Int32) : Nat := x.toBitVec.toNat
abbrev own_N (x : Int64) : Nat := x.toBitVec.toNat
theorem own_n_lt (x : Int32) : own_n x < 4294967296 := x.toBitVec.isLt
theorem own_N_lt (x : Int64) : own_N x < 18446744073709551616 := x.toBitVec.isLt
theorem own_n_inj {x y : Int32} : x = y ↔ own_n x = own_n y := ⟨fun h => by rw [h], fun h => Int32.toBitVec_inj.mp (BitVec.eq_of_toNat_eq h)⟩
theorem own_N_inj {x y : Int64} : x = y ↔ own_N x = own_N y := ⟨fun h => by rw [h], fun h => Int64.toBitVec_inj.mp (BitVec.eq_of_toNat_eq h)⟩
theorem own_n_int (x : Int32) : x.toInt = if own_n x < 2147483648 then (own_n x : Int) else (own_n x : Int) - 4294967296 := by
  have h := BitVec.toInt_eq_toNat_cond x.toBitVec
  have h2 : x.toBitVec.toInt = x.toInt := rfl
  rw [← h2, h]; simp only [own_n]; split <;> split <;> omega
theorem own_N_int (x : Int64) : x.toInt = if own_N x < 9223372036854775808 then (own_N x : Int) else (own_N x : Int) - 18446744073709551616 := by
  have h := BitVec.toInt_eq_toNat_cond x.toBitVec
  have h2 : x.toBitVec.toInt = x.toInt := rfl
  rw [← h2, h]; simp only [own_N]; split <;> split <;> omega
theorem own_n_add (x y : Int32) : own_n (x + y) = (own_n x + own_n y) % 4294967296 := by simp only [own_n, Int32.toBitVec_add, BitVec.toNat_add]
theorem own_N_add (x y : Int64) : own_N (x + y) = (own_N x + own_N y) % 18446744073709551616 := by simp only [own_N, Int64.toBitVec_add, BitVec.toNat_add]
theorem own_n_sub (x y : Int32) : own_n (x - y) = (4294967296 - own_n y + own_n x) % 4294967296 := by simp only [own_n, Int32.toBitVec_sub, BitVec.toNat_sub]
theorem own_N_sub (x y : Int64) : own_N (x - y) = (18446744073709551616 - own_N y + own_N x) % 18446744073709551616 := by simp only [own_N, Int64.toBitVec_sub, BitVec.toNat_sub]
theorem own_n_mul (x y : Int32) : own_n (x * y) = (own_n x * own_n y) % 4294967296 := by simp only [own_n, Int32.toBitVec_mul, BitVec.toNat_mul]
theorem own_N_mul (x y : Int64) : own_N (x * y) = (own_N x * own_N y) % 18446744073709551616 := by simp only [own_N, Int64.toBitVec_mul, BitVec.toNat_mul]
theorem own_n_and (x y : Int32) : own_n (x &&& y) = own_n x &&& own_n y := by simp only [own_n, Int32.toBitVec_and, BitVec.toNat_and]
theorem own_N_and (x y : Int64) : own_N (x &&& y) = own_N x &&& own_N y := by simp only [own_N, Int64.toBitVec_and, BitVec.toNat_and]
theorem own_n_or (x y : Int32) : own_n (x ||| y) = own_n x ||| own_n y := by simp only [own_n, Int32.toBitVec_or, BitVec.toNat_or]
theorem own_N_or (x y : Int64) : own_N (x ||| y) = own_N x ||| own_N y := by simp only [own_N, Int64.toBitVec_or, BitVec.toNat_or]
theorem own_n_xor (x y : Int32) : own_n (x ^^^ y) = own_n x ^^^ own_n y := by simp only [own_n, Int32.toBitVec_xor, BitVec.toNat_xor]
theorem own_N_xor (x y : Int64) : own_N (x ^^^ y) = own_N x ^^^ own_N y := by simp only [own_N, Int64.toBitVec_xor, BitVec.toNat_xor]
theorem own_N_lushr (x : Int64) (q : Int32) (k : Nat) (hk : own_n q % 64 = k) : own_N (o_lushr x q) = own_N x / 2 ^ k := by
  have h1 := (sm64 q k hk).1
  have h2 := (sm64 q k hk).2
  show (x.toBitVec >>> ((q &&& 0x3f).toInt64.toBitVec % 64)).toNat = _
  rw [h1]
  have h3 : (BitVec.ofNat 64 k % 64).toNat = k := by
    rw [BitVec.toNat_umod, BitVec.toNat_ofNat]; simp; omega
  rw [BitVec.ushiftRight_eq', BitVec.toNat_ushiftRight, h3, Nat.shiftRight_eq_div_pow]
theorem own_N_lshl (x : Int64) (q : Int32) (k : Nat) (hk : own_n q % 64 = k) : own_N (o_lshl x q) = own_N x * 2 ^ k % 18446744073709551616 := by
  have h1 := (sm64 q k hk).1
  have h2 := (sm64 q k hk).2
  show (x.toBitVec <<< ((q &&& 0x3f).toInt64.toBitVec.smod 64)).toNat = _
  rw [h1, BitVec.shiftLeft_eq', smod64 k h2, BitVec.toNat_shiftLeft, Nat.shiftLeft_eq]
theorem own_n_iushr (x : Int32) (q : Int32) (k : Nat) (hk : own_n q % 32 = k) : own_n (o_iushr x q) = own_n x / 2 ^ k := by
  have h1 : (q &&& 31).toBitVec.toNat = k := by
    show (q.toBitVec &&& (31 : Int32).toBitVec).toNat = _
    rw [BitVec.toNat_and]
    show q.toBitVec.toNat &&& (2 ^ 5 - 1) = k
    rw [Nat.and_two_pow_sub_one_eq_mod]; exact hk
  have h2 : k < 32 := by omega
  show (x.toBitVec >>> ((q &&& 31).toBitVec % 32)).toNat = _
  have h3 : ((q &&& 31).toBitVec % 32).toNat = k := by
    rw [BitVec.toNat_umod, h1]; simp; omega
  rw [BitVec.ushiftRight_eq', BitVec.toNat_ushiftRight, h3, Nat.shiftRight_eq_div_pow]
theorem own_n_ishl (x : Int32) (q : Int32) (k : Nat) (hk : own_n q % 32 = k) : own_n (o_ishl x q) = own_n x * 2 ^ k % 4294967296 := by
  have h1 : (q &&& 31).toBitVec.toNat = k := by
    show (q.toBitVec &&& (31 : Int32).toBitVec).toNat = _
    rw [BitVec.toNat_and]
    show q.toBitVec.toNat &&& (2 ^ 5 - 1) = k
    rw [Nat.and_two_pow_sub_one_eq_mod]; exact hk
  have h2 : k < 32 := by omega
  show (x.toBitVec <<< ((q &&& 31).toBitVec.smod 32)).toNat = _
  have h4 : (q &&& 31).toBitVec = BitVec.ofNat 32 k := by apply BitVec.eq_of_toNat_eq; rw [h1, BitVec.toNat_ofNat]; omega
  have h5 : ∀ k : Fin 32, ((BitVec.ofNat 32 k.val).smod 32).toNat = k.val := by decide +kernel
  rw [h4, BitVec.shiftLeft_eq', h5 ⟨k, h2⟩, BitVec.toNat_shiftLeft, Nat.shiftLeft_eq]
theorem own_n_mod (x y : Int32) (h : (x.toInt - y.toInt) % 256 = 0) : own_n x % 256 = own_n y % 256 := by
  have h1 := own_n_int x; have h2 := own_n_int y; have h3 := own_n_lt x; have h4 := own_n_lt y
  split at h1 <;> split at h2 <;> omega
theorem own_i2b_n (x : Int32) : own_n (o_i2b x) % 256 = own_n x % 256 := own_n_mod _ _ (c_i2b x).1
theorem own_nb (x : Int32) : nar .byte (o_i2b x) = o_i2b x := by simp [nar, o_i2b]
theorem own_n_ff (x : Int32) : own_n (x &&& 255) = own_n x % 256 := by
  rw [own_n_and]; show own_n x &&& (2 ^ 8 - 1) = _; rw [Nat.and_two_pow_sub_one_eq_mod]
theorem own_i2l (x : Int32) : (o_i2l x).toInt = x.toInt := Int32.toInt_toInt64 x
theorem own_N_i2l (x : Int32) (h : 0 ≤ x.toInt) : own_N (o_i2l x) = own_n x := by
  have h1 := own_i2l x
  rw [own_N_int, own_n_int] at h1
  have h2 := own_n_lt x
  have h3 := own_N_lt (o_i2l x)
  have h4 := own_n_int x
  split at h1 <;> split at h1 <;> omega
theorem own_mask (x : Nat) (k : Nat) : x &&& (2 ^ k - 1) = x % 2 ^ k := Nat.and_two_pow_sub_one_eq_mod x k
theorem own_and_split {k a A m M : Nat} (ha : a < 2 ^ k) (hm : m < 2 ^ k) : (a + 2 ^ k * A) &&& (m + 2 ^ k * M) = (a &&& m) + 2 ^ k * (A &&& M) := by
  have hp : 0 < 2 ^ k := Nat.two_pow_pos k
  have h1 : ((a + 2 ^ k * A) &&& (m + 2 ^ k * M)) / 2 ^ k = A &&& M := by
    rw [Nat.and_div_two_pow, Nat.add_mul_div_left _ _ hp, Nat.add_mul_div_left _ _ hp, Nat.div_eq_of_lt ha, Nat.div_eq_of_lt hm]; simp
  have h2 : ((a + 2 ^ k * A) &&& (m + 2 ^ k * M)) % 2 ^ k = a &&& m := by
    rw [Nat.and_mod_two_pow, Nat.add_mul_mod_self_left, Nat.add_mul_mod_self_left, Nat.mod_eq_of_lt ha, Nat.mod_eq_of_lt hm]
  have h3 := Nat.div_add_mod ((a + 2 ^ k * A) &&& (m + 2 ^ k * M)) (2 ^ k)
  rw [h1, h2] at h3; omega
theorem own_or_add {k a A : Nat} (ha : a < 2 ^ k) : a ||| (A * 2 ^ k) = a + A * 2 ^ k := by
  rw [Nat.or_comm, ← Nat.shiftLeft_eq, ← Nat.shiftLeft_add_eq_or_of_lt ha]; omega
end OwnNums

theorem own_t (n : Nat) (h : n ≤ 16) : (Nat.toInt32 n).toInt = n := len_toInt (by omega)
theorem own_nn {i : Nat} (hi : i ≤ 16) : ¬ (Nat.toInt32 i) < 0 := by
  rw [Int32.lt_iff_toInt_lt, own_t i hi]; simp only [Int32.reduceToInt]; omega
theorem own_nc {i : Nat} (hi : i ≤ 16) : (Nat.toInt32 i).toNatClampNeg = i := by simp only [Int32.toNatClampNeg, own_t i hi]; omega
theorem own_inb {i : Nat} {z : Int32} (hi : i ≤ 16) (hz : (i : Int) < z.toInt) : ¬ (Nat.toInt32 i) < 0 ∧ (Nat.toInt32 i) < z := by
  refine ⟨own_nn hi, ?_⟩
  rw [Int32.lt_iff_toInt_lt, own_t i hi]; exact hz
def own_m (a b c : Int32) : Nat → Int32
  | 0 => a
  | 1 => b
  | _ => c
abbrev own_z3 : List Value := [.int (0 : Int32), .int (0 : Int32), .int (0 : Int32)]
abbrev own_one : Value := .int (1 : Int32)
theorem own_lt1 {a b : Int32} (h : ¬ a < (1 : Int32)) (h2 : a < b) : ¬ b < (1 : Int32) := by
  rw [Int32.lt_iff_toInt_lt] at *; omega

theorem d5_0 : decode jdk_65_method_59_code 0 = .ok (.iload_n 1, 1) := by decide +kernel
theorem d5_1 : decode jdk_65_method_59_code 1 = .ok (.istore 4, 2) := by decide +kernel
theorem d5_3 : decode jdk_65_method_59_code 3 = .ok (.iload_n 2, 1) := by decide +kernel
theorem d5_4 : decode jdk_65_method_59_code 4 = .ok (.iconst 1, 1) := by decide +kernel
theorem d5_5 : decode jdk_65_method_59_code 5 = .ok (.isub, 1) := by decide +kernel
theorem d5_6 : decode jdk_65_method_59_code 6 = .ok (.istore 5, 2) := by decide +kernel
theorem d5_8 : decode jdk_65_method_59_code 8 = .ok (.iload 4, 2) := by decide +kernel
theorem d5_10 : decode jdk_65_method_59_code 10 = .ok (.iload 5, 2) := by decide +kernel
theorem d5_12 : decode jdk_65_method_59_code 12 = .ok (.if_icmp .gt 54, 3) := by decide +kernel
theorem d5_15 : decode jdk_65_method_59_code 15 = .ok (.iload 4, 2) := by decide +kernel
theorem d5_17 : decode jdk_65_method_59_code 17 = .ok (.iload 5, 2) := by decide +kernel
theorem d5_19 : decode jdk_65_method_59_code 19 = .ok (.iadd, 1) := by decide +kernel
theorem d5_20 : decode jdk_65_method_59_code 20 = .ok (.iconst 1, 1) := by decide +kernel
theorem d5_21 : decode jdk_65_method_59_code 21 = .ok (.iushr, 1) := by decide +kernel
theorem d5_22 : decode jdk_65_method_59_code 22 = .ok (.istore 6, 2) := by decide +kernel
theorem d5_24 : decode jdk_65_method_59_code 24 = .ok (.aload_n 0, 1) := by decide +kernel
theorem d5_25 : decode jdk_65_method_59_code 25 = .ok (.iload 6, 2) := by decide +kernel
theorem d5_27 : decode jdk_65_method_59_code 27 = .ok (.iaload, 1) := by decide +kernel
theorem d5_28 : decode jdk_65_method_59_code 28 = .ok (.istore 7, 2) := by decide +kernel
theorem d5_30 : decode jdk_65_method_59_code 30 = .ok (.iload 7, 2) := by decide +kernel
theorem d5_32 : decode jdk_65_method_59_code 32 = .ok (.iload_n 3, 1) := by decide +kernel
theorem d5_33 : decode jdk_65_method_59_code 33 = .ok (.if_icmp .ge 12, 3) := by decide +kernel
theorem d5_36 : decode jdk_65_method_59_code 36 = .ok (.iload 6, 2) := by decide +kernel
theorem d5_38 : decode jdk_65_method_59_code 38 = .ok (.iconst 1, 1) := by decide +kernel
theorem d5_39 : decode jdk_65_method_59_code 39 = .ok (.iadd, 1) := by decide +kernel
theorem d5_40 : decode jdk_65_method_59_code 40 = .ok (.istore 4, 2) := by decide +kernel
theorem d5_42 : decode jdk_65_method_59_code 42 = .ok (.goto 21, 3) := by decide +kernel
theorem d5_63 : decode jdk_65_method_59_code 63 = .ok (.goto (-55), 3) := by decide +kernel
theorem d5_66 : decode jdk_65_method_59_code 66 = .ok (.iload 4, 2) := by decide +kernel
theorem d5_68 : decode jdk_65_method_59_code 68 = .ok (.iconst 1, 1) := by decide +kernel
theorem d5_69 : decode jdk_65_method_59_code 69 = .ok (.iadd, 1) := by decide +kernel
theorem d5_70 : decode jdk_65_method_59_code 70 = .ok (.ineg, 1) := by decide +kernel
theorem d5_71 : decode jdk_65_method_59_code 71 = .ok (.ireturn, 1) := by decide +kernel
theorem d5_45 : decode jdk_65_method_59_code 45 = .ok (.iload 7, 2) := by decide +kernel
theorem d5_47 : decode jdk_65_method_59_code 47 = .ok (.iload_n 3, 1) := by decide +kernel
theorem d5_48 : decode jdk_65_method_59_code 48 = .ok (.if_icmp .le 12, 3) := by decide +kernel
theorem d5_51 : decode jdk_65_method_59_code 51 = .ok (.iload 6, 2) := by decide +kernel
theorem d5_53 : decode jdk_65_method_59_code 53 = .ok (.iconst 1, 1) := by decide +kernel
theorem d5_54 : decode jdk_65_method_59_code 54 = .ok (.isub, 1) := by decide +kernel
theorem d5_55 : decode jdk_65_method_59_code 55 = .ok (.istore 5, 2) := by decide +kernel
theorem d5_57 : decode jdk_65_method_59_code 57 = .ok (.goto 6, 3) := by decide +kernel
theorem d5_60 : decode jdk_65_method_59_code 60 = .ok (.iload 6, 2) := by decide +kernel
theorem d5_62 : decode jdk_65_method_59_code 62 = .ok (.ireturn, 1) := by decide +kernel
def own_bs (m0 : Int32) (m1 : Int32) (m2 : Int32) (pw_ : Int32) : Int32 := (if m1 < pw_ then (if m2 < pw_ then (-(4 : Int32)) else (if pw_ < m2 then (-(3 : Int32)) else (2 : Int32))) else (if pw_ < m1 then (if m0 < pw_ then (-(2 : Int32)) else (if pw_ < m0 then (-(1 : Int32)) else (0 : Int32))) else (1 : Int32)))
theorem pn_0 : plainName "java/util/Arrays" = true := by first | (simp [plainName, overriddenIn]; done) | decide +kernel
theorem ef_5 (m : MethodId) (x0 : Addr) (x1 : Int32) (x2 : Int32) (x3 : Int32) : entryFrame m #[(.ref x0), (.int x1), (.int x2), (.int x3)] 8 = mkF m 0 #[.val (.ref x0), .val (.int x1), .val (.int x2), .val (.int x3), .unset, .unset, .unset, .unset] [] := by first | (simp [entryFrame, mkF, argsToLocals, Value.category]; done) | rfl
def Q5 (Z : State) (b_ : Addr) (pf_ : Int32) (pt_ : Int32) (pw_ : Int32) (k_ : ClassId) (m0 : Int32) (m1 : Int32) (m2 : Int32) (h0 : Heap) (n0 : Nat) (v : Option Value) (h : Heap) (L : List Loc) : Prop := v = some (.int (own_bs m0 m1 m2 pw_)) ∧ Fr n0 L ∧ h = h0
set_option maxRecDepth 65536 in
set_option maxHeartbeats 40000000 in
theorem rm5 (l : Launch) (Z : State) (a0 : Array Value) (hw : ∀ d ∈ tables_1, d.before a0 Z = true) (ws : List Jvm.Cond) (b_ : Addr) (pf_ : Int32) (pt_ : Int32) (pw_ : Int32) (k_ : ClassId) (m0 : Int32) (m1 : Int32) (m2 : Int32) (h0 : Heap) (n0 : Nat) (Z0 : n0 ≤ h0.size) (V_b_ : Arv Z h0 b_ k_ .int (3 : Int32) [(.int m0), (.int m1), (.int m2)] (.int (0 : Int32))) (hp1 : pf_ = (0 : Int32)) (hp2 : pt_ = (3 : Int32)) :
    MetFree l (⟨"java/util/Arrays", "binarySearch0", "([IIII)I"⟩ : MethodName) (head1 (Jvm.Cond.code (⟨"java/util/Arrays", "binarySearch0", "([IIII)I"⟩ : MethodName) jdk_65_method_59_code 8 (some .int) :: ws) ({ frames := 0, cells := 0, slots := 0, locals := 0 } : Room)) (fun q_ U => q_ = #[(.ref b_), (.int pf_), (.int pt_), (.int pw_)] ∧ Z.Warmed39 U.vm ∧ U.heap = h0) (fun _ _ _ _ _ => True) (fun _ U o U' => ∃ v L, o = .returned v ∧ Q5 Z b_ pf_ pt_ pw_ k_ m0 m1 m2 h0 n0 v U'.heap L ∧ FrameEnd U o U' L ({ frames := 0, cells := 0, slots := 0, locals := 0 } : Room).cells ({ frames := 0, cells := 0, slots := 0, locals := 0 } : Room).slots) := by
  refine MetFree.of_bodySF (plainFor_of_name pn_0) hisR ?_
  intro p e s m args below meth c s₁ Bd hml0 hP hK
  obtain ⟨rfl, hZ, hh⟩ := hP
  have hx := Bd.exec
  have hby := Bd.bytes
  have hml : c.maxLocals = 8 := hml0
  have hown : s.vm.findClass "java/util/Arrays" = some m.cls := findClass_of_methodNamed Bd.named
  have hnm := (name_of_methodNamed Bd.named Bd.method).1
  have X0 : Stand p l e ({ frames := 0, cells := 0, slots := 0, locals := 0 } : Room) s m #[(.ref b_), (.int pf_), (.int pt_), (.int pw_)] below meth c s₁ [] 0 0 := Stand.of_body Bd
  have e0 : s₁.heap = h0 := by rw [← hh, Bd.state]; rfl
  have N0 := Fr.nil n0
  show own_Go p e below s (Q5 Z b_ pf_ pt_ pw_ k_ m0 m1 m2 h0 n0) ({ frames := 0, cells := 0, slots := 0, locals := 0 } : Room).cells ({ frames := 0, cells := 0, slots := 0, locals := 0 } : Room).slots (s₁.setTop (entryFrame m #[(.ref b_), (.int pf_), (.int pt_), (.int pw_)] 8))
  refine own_via (fun t k => castTop (ef_5 m b_ pf_ pt_ pw_) k) ?_
  show own_Go p e below s _ _ _ (s₁.setTop (mkF m 0 #[.val (.ref b_), .val (.int pf_), .val (.int pt_), .val (.int pw_), .unset, .unset, .unset, .unset] []))
  subst hp1 hp2
  show own_Go p e below s _ _ _ (s₁.setTop (mkF m 0 #[.val (.ref b_), .val (.int (0 : Int32)), .val (.int (3 : Int32)), .val (.int pw_), .unset, .unset, .unset, .unset] []))
  refine own_via (fun _ k => XS.iloadN X0.here hx rfl (hb hby d5_0) rfl k) ?_
  show own_Go p e below s _ _ _ (s₁.setTop (mkF m 1 #[.val (.ref b_), .val (.int (0 : Int32)), .val (.int (3 : Int32)), .val (.int pw_), .unset, .unset, .unset, .unset] [(.int (0 : Int32))]))
  refine own_via (fun _ k => XS.istore X0.here hx rfl (hb hby d5_1) rfl (l' := #[.val (.ref b_), .val (.int (0 : Int32)), .val (.int (3 : Int32)), .val (.int pw_), .val (.int (0 : Int32)), .unset, .unset, .unset]) rfl k) ?_
  show own_Go p e below s _ _ _ (s₁.setTop (mkF m 3 #[.val (.ref b_), .val (.int (0 : Int32)), .val (.int (3 : Int32)), .val (.int pw_), .val (.int (0 : Int32)), .unset, .unset, .unset] []))
  refine own_via (fun _ k => XS.iloadN X0.here hx rfl (hb hby d5_3) rfl k) ?_
  show own_Go p e below s _ _ _ (s₁.setTop (mkF m 4 #[.val (.ref b_), .val (.int (0 : Int32)), .val (.int (3 : Int32)), .val (.int pw_), .val (.int (0 : Int32)), .unset, .unset, .unset] [(.int (3 : Int32))]))
  refine own_via (fun _ k => XS.iconst X0.here hx rfl (hb hby d5_4) k) ?_
  show own_Go p e below s _ _ _ (s₁.setTop (mkF m 5 #[.val (.ref b_), .val (.int (0 : Int32)), .val (.int (3 : Int32)), .val (.int pw_), .val (.int (0 : Int32)), .unset, .unset, .unset] [(.int (1 : Int32)), (.int (3 : Int32))]))
  refine own_via (fun _ k => XS.isub X0.here hx rfl (hb hby d5_5) rfl k) ?_
  show own_Go p e below s _ _ _ (s₁.setTop (mkF m 6 #[.val (.ref b_), .val (.int (0 : Int32)), .val (.int (3 : Int32)), .val (.int pw_), .val (.int (0 : Int32)), .unset, .unset, .unset] [(.int (2 : Int32))]))
  refine own_via (fun _ k => XS.istore X0.here hx rfl (hb hby d5_6) rfl (l' := #[.val (.ref b_), .val (.int (0 : Int32)), .val (.int (3 : Int32)), .val (.int pw_), .val (.int (0 : Int32)), .val (.int (2 : Int32)), .unset, .unset]) rfl k) ?_
  show own_Go p e below s _ _ _ (s₁.setTop (mkF m 8 #[.val (.ref b_), .val (.int (0 : Int32)), .val (.int (3 : Int32)), .val (.int pw_), .val (.int (0 : Int32)), .val (.int (2 : Int32)), .unset, .unset] []))
  refine own_via (fun _ k => XS.iload X0.here hx rfl (hb hby d5_8) rfl k) ?_
  show own_Go p e below s _ _ _ (s₁.setTop (mkF m 10 #[.val (.ref b_), .val (.int (0 : Int32)), .val (.int (3 : Int32)), .val (.int pw_), .val (.int (0 : Int32)), .val (.int (2 : Int32)), .unset, .unset] [(.int (0 : Int32))]))
  refine own_via (fun _ k => XS.iload X0.here hx rfl (hb hby d5_10) rfl k) ?_
  show own_Go p e below s _ _ _ (s₁.setTop (mkF m 12 #[.val (.ref b_), .val (.int (0 : Int32)), .val (.int (3 : Int32)), .val (.int pw_), .val (.int (0 : Int32)), .val (.int (2 : Int32)), .unset, .unset] [(.int (2 : Int32)), (.int (0 : Int32))]))
  refine own_via (fun _ k => XS.icmpNo X0.here hx rfl (hb hby d5_12) rfl (Jvm.Free.XT.ii_gt_f (by decide)) k) ?_
  show own_Go p e below s _ _ _ (s₁.setTop (mkF m 15 #[.val (.ref b_), .val (.int (0 : Int32)), .val (.int (3 : Int32)), .val (.int pw_), .val (.int (0 : Int32)), .val (.int (2 : Int32)), .unset, .unset] []))
  refine own_via (fun _ k => XS.iload X0.here hx rfl (hb hby d5_15) rfl k) ?_
  show own_Go p e below s _ _ _ (s₁.setTop (mkF m 17 #[.val (.ref b_), .val (.int (0 : Int32)), .val (.int (3 : Int32)), .val (.int pw_), .val (.int (0 : Int32)), .val (.int (2 : Int32)), .unset, .unset] [(.int (0 : Int32))]))
  refine own_via (fun _ k => XS.iload X0.here hx rfl (hb hby d5_17) rfl k) ?_
  show own_Go p e below s _ _ _ (s₁.setTop (mkF m 19 #[.val (.ref b_), .val (.int (0 : Int32)), .val (.int (3 : Int32)), .val (.int pw_), .val (.int (0 : Int32)), .val (.int (2 : Int32)), .unset, .unset] [(.int (2 : Int32)), (.int (0 : Int32))]))
  refine own_via (fun _ k => XS.iadd X0.here hx rfl (hb hby d5_19) rfl k) ?_
  show own_Go p e below s _ _ _ (s₁.setTop (mkF m 20 #[.val (.ref b_), .val (.int (0 : Int32)), .val (.int (3 : Int32)), .val (.int pw_), .val (.int (0 : Int32)), .val (.int (2 : Int32)), .unset, .unset] [(.int (2 : Int32))]))
  refine own_via (fun _ k => XS.iconst X0.here hx rfl (hb hby d5_20) k) ?_
  show own_Go p e below s _ _ _ (s₁.setTop (mkF m 21 #[.val (.ref b_), .val (.int (0 : Int32)), .val (.int (3 : Int32)), .val (.int pw_), .val (.int (0 : Int32)), .val (.int (2 : Int32)), .unset, .unset] [(.int (1 : Int32)), (.int (2 : Int32))]))
  refine own_via (fun _ k => XS.iushr X0.here hx rfl (hb hby d5_21) rfl k) ?_
  show own_Go p e below s _ _ _ (s₁.setTop (mkF m 22 #[.val (.ref b_), .val (.int (0 : Int32)), .val (.int (3 : Int32)), .val (.int pw_), .val (.int (0 : Int32)), .val (.int (2 : Int32)), .unset, .unset] [(.int (o_iushr (2 : Int32) (1 : Int32)))]))
  rw [show (o_iushr (2 : Int32) (1 : Int32)) = (1 : Int32) from (by decide)]
  show own_Go p e below s _ _ _ (s₁.setTop (mkF m 22 #[.val (.ref b_), .val (.int (0 : Int32)), .val (.int (3 : Int32)), .val (.int pw_), .val (.int (0 : Int32)), .val (.int (2 : Int32)), .unset, .unset] [(.int (1 : Int32))]))
  refine own_via (fun _ k => XS.istore X0.here hx rfl (hb hby d5_22) rfl (l' := #[.val (.ref b_), .val (.int (0 : Int32)), .val (.int (3 : Int32)), .val (.int pw_), .val (.int (0 : Int32)), .val (.int (2 : Int32)), .val (.int (1 : Int32)), .unset]) rfl k) ?_
  show own_Go p e below s _ _ _ (s₁.setTop (mkF m 24 #[.val (.ref b_), .val (.int (0 : Int32)), .val (.int (3 : Int32)), .val (.int pw_), .val (.int (0 : Int32)), .val (.int (2 : Int32)), .val (.int (1 : Int32)), .unset] []))
  refine own_via (fun _ k => XS.aloadN X0.here hx rfl (hb hby d5_24) rfl rfl k) ?_
  show own_Go p e below s _ _ _ (s₁.setTop (mkF m 25 #[.val (.ref b_), .val (.int (0 : Int32)), .val (.int (3 : Int32)), .val (.int pw_), .val (.int (0 : Int32)), .val (.int (2 : Int32)), .val (.int (1 : Int32)), .unset] [(.ref b_)]))
  refine own_via (fun _ k => XS.iload X0.here hx rfl (hb hby d5_25) rfl k) ?_
  show own_Go p e below s _ _ _ (s₁.setTop (mkF m 27 #[.val (.ref b_), .val (.int (0 : Int32)), .val (.int (3 : Int32)), .val (.int pw_), .val (.int (0 : Int32)), .val (.int (2 : Int32)), .val (.int (1 : Int32)), .unset] [(.int (1 : Int32)), (.ref b_)]))
  obtain ⟨cl1, Ar1, q1, S1, M1, H1, G1⟩ := (id V_b_)
  have hin1 : ¬ ((1 : Int32) < 0 ∨ cl1.slots.size ≤ ((1 : Int32)).toNatClampNeg) := inb_of S1 ⟨by decide, by decide⟩
  have hat1 : cl1.slots[((1 : Int32)).toNatClampNeg]? = some (.int m1) := Has.at H1 hin1 rfl
  refine own_via (fun _ k => X0.iaload hx (j := (1 : Int32)) (v := (.int m1)) (by rw [e0]; exact Ar1.1) (State.isArrayOf_alike hZ.alike Ar1.2.1) Ar1.2.2 hin1 hat1 (g := (mkF m 27 #[.val (.ref b_), .val (.int (0 : Int32)), .val (.int (3 : Int32)), .val (.int pw_), .val (.int (0 : Int32)), .val (.int (2 : Int32)), .val (.int (1 : Int32)), .unset] [(.int (1 : Int32)), (.ref b_)])) rfl rfl (hb hby d5_27) _ k) ?_
  show own_Go p e below s _ _ _ (s₁.setTop (mkF m 28 #[.val (.ref b_), .val (.int (0 : Int32)), .val (.int (3 : Int32)), .val (.int pw_), .val (.int (0 : Int32)), .val (.int (2 : Int32)), .val (.int (1 : Int32)), .unset] [(.int m1)]))
  refine own_via (fun _ k => XS.istore X0.here hx rfl (hb hby d5_28) rfl (l' := #[.val (.ref b_), .val (.int (0 : Int32)), .val (.int (3 : Int32)), .val (.int pw_), .val (.int (0 : Int32)), .val (.int (2 : Int32)), .val (.int (1 : Int32)), .val (.int m1)]) rfl k) ?_
  show own_Go p e below s _ _ _ (s₁.setTop (mkF m 30 #[.val (.ref b_), .val (.int (0 : Int32)), .val (.int (3 : Int32)), .val (.int pw_), .val (.int (0 : Int32)), .val (.int (2 : Int32)), .val (.int (1 : Int32)), .val (.int m1)] []))
  refine own_via (fun _ k => XS.iload X0.here hx rfl (hb hby d5_30) rfl k) ?_
  show own_Go p e below s _ _ _ (s₁.setTop (mkF m 32 #[.val (.ref b_), .val (.int (0 : Int32)), .val (.int (3 : Int32)), .val (.int pw_), .val (.int (0 : Int32)), .val (.int (2 : Int32)), .val (.int (1 : Int32)), .val (.int m1)] [(.int m1)]))
  refine own_via (fun _ k => XS.iloadN X0.here hx rfl (hb hby d5_32) rfl k) ?_
  show own_Go p e below s _ _ _ (s₁.setTop (mkF m 33 #[.val (.ref b_), .val (.int (0 : Int32)), .val (.int (3 : Int32)), .val (.int pw_), .val (.int (0 : Int32)), .val (.int (2 : Int32)), .val (.int (1 : Int32)), .val (.int m1)] [(.int pw_), (.int m1)]))
  by_cases hc2 : m1 < pw_
  · refine own_via (fun _ k => XS.icmpNo X0.here hx rfl (hb hby d5_33) rfl (Jvm.Free.XT.ii_ge_f hc2) k) ?_
    show own_Go p e below s _ _ _ (s₁.setTop (mkF m 36 #[.val (.ref b_), .val (.int (0 : Int32)), .val (.int (3 : Int32)), .val (.int pw_), .val (.int (0 : Int32)), .val (.int (2 : Int32)), .val (.int (1 : Int32)), .val (.int m1)] []))
    refine own_via (fun _ k => XS.iload X0.here hx rfl (hb hby d5_36) rfl k) ?_
    show own_Go p e below s _ _ _ (s₁.setTop (mkF m 38 #[.val (.ref b_), .val (.int (0 : Int32)), .val (.int (3 : Int32)), .val (.int pw_), .val (.int (0 : Int32)), .val (.int (2 : Int32)), .val (.int (1 : Int32)), .val (.int m1)] [(.int (1 : Int32))]))
    refine own_via (fun _ k => XS.iconst X0.here hx rfl (hb hby d5_38) k) ?_
    show own_Go p e below s _ _ _ (s₁.setTop (mkF m 39 #[.val (.ref b_), .val (.int (0 : Int32)), .val (.int (3 : Int32)), .val (.int pw_), .val (.int (0 : Int32)), .val (.int (2 : Int32)), .val (.int (1 : Int32)), .val (.int m1)] [(.int (1 : Int32)), (.int (1 : Int32))]))
    refine own_via (fun _ k => XS.iadd X0.here hx rfl (hb hby d5_39) rfl k) ?_
    show own_Go p e below s _ _ _ (s₁.setTop (mkF m 40 #[.val (.ref b_), .val (.int (0 : Int32)), .val (.int (3 : Int32)), .val (.int pw_), .val (.int (0 : Int32)), .val (.int (2 : Int32)), .val (.int (1 : Int32)), .val (.int m1)] [(.int (2 : Int32))]))
    refine own_via (fun _ k => XS.istore X0.here hx rfl (hb hby d5_40) rfl (l' := #[.val (.ref b_), .val (.int (0 : Int32)), .val (.int (3 : Int32)), .val (.int pw_), .val (.int (2 : Int32)), .val (.int (2 : Int32)), .val (.int (1 : Int32)), .val (.int m1)]) rfl k) ?_
    show own_Go p e below s _ _ _ (s₁.setTop (mkF m 42 #[.val (.ref b_), .val (.int (0 : Int32)), .val (.int (3 : Int32)), .val (.int pw_), .val (.int (2 : Int32)), .val (.int (2 : Int32)), .val (.int (1 : Int32)), .val (.int m1)] []))
    refine own_via (fun _ k => XS.goto X0.here hx rfl (pc0 := 42) (pc' := 63) rfl (hb hby d5_42) (by decide) (by decide) k) ?_
    show own_Go p e below s _ _ _ (s₁.setTop (mkF m 63 #[.val (.ref b_), .val (.int (0 : Int32)), .val (.int (3 : Int32)), .val (.int pw_), .val (.int (2 : Int32)), .val (.int (2 : Int32)), .val (.int (1 : Int32)), .val (.int m1)] []))
    refine own_via (fun _ k => XS.goto X0.here hx rfl (pc0 := 63) (pc' := 8) rfl (hb hby d5_63) (by decide) (by decide) k) ?_
    show own_Go p e below s _ _ _ (s₁.setTop (mkF m 8 #[.val (.ref b_), .val (.int (0 : Int32)), .val (.int (3 : Int32)), .val (.int pw_), .val (.int (2 : Int32)), .val (.int (2 : Int32)), .val (.int (1 : Int32)), .val (.int m1)] []))
    refine own_via (fun _ k => XS.iload X0.here hx rfl (hb hby d5_8) rfl k) ?_
    show own_Go p e below s _ _ _ (s₁.setTop (mkF m 10 #[.val (.ref b_), .val (.int (0 : Int32)), .val (.int (3 : Int32)), .val (.int pw_), .val (.int (2 : Int32)), .val (.int (2 : Int32)), .val (.int (1 : Int32)), .val (.int m1)] [(.int (2 : Int32))]))
    refine own_via (fun _ k => XS.iload X0.here hx rfl (hb hby d5_10) rfl k) ?_
    show own_Go p e below s _ _ _ (s₁.setTop (mkF m 12 #[.val (.ref b_), .val (.int (0 : Int32)), .val (.int (3 : Int32)), .val (.int pw_), .val (.int (2 : Int32)), .val (.int (2 : Int32)), .val (.int (1 : Int32)), .val (.int m1)] [(.int (2 : Int32)), (.int (2 : Int32))]))
    refine own_via (fun _ k => XS.icmpNo X0.here hx rfl (hb hby d5_12) rfl (Jvm.Free.XT.ii_gt_f (by decide)) k) ?_
    show own_Go p e below s _ _ _ (s₁.setTop (mkF m 15 #[.val (.ref b_), .val (.int (0 : Int32)), .val (.int (3 : Int32)), .val (.int pw_), .val (.int (2 : Int32)), .val (.int (2 : Int32)), .val (.int (1 : Int32)), .val (.int m1)] []))
    refine own_via (fun _ k => XS.iload X0.here hx rfl (hb hby d5_15) rfl k) ?_
    show own_Go p e below s _ _ _ (s₁.setTop (mkF m 17 #[.val (.ref b_), .val (.int (0 : Int32)), .val (.int (3 : Int32)), .val (.int pw_), .val (.int (2 : Int32)), .val (.int (2 : Int32)), .val (.int (1 : Int32)), .val (.int m1)] [(.int (2 : Int32))]))
    refine own_via (fun _ k => XS.iload X0.here hx rfl (hb hby d5_17) rfl k) ?_
    show own_Go p e below s _ _ _ (s₁.setTop (mkF m 19 #[.val (.ref b_), .val (.int (0 : Int32)), .val (.int (3 : Int32)), .val (.int pw_), .val (.int (2 : Int32)), .val (.int (2 : Int32)), .val (.int (1 : Int32)), .val (.int m1)] [(.int (2 : Int32)), (.int (2 : Int32))]))
    refine own_via (fun _ k => XS.iadd X0.here hx rfl (hb hby d5_19) rfl k) ?_
    show own_Go p e below s _ _ _ (s₁.setTop (mkF m 20 #[.val (.ref b_), .val (.int (0 : Int32)), .val (.int (3 : Int32)), .val (.int pw_), .val (.int (2 : Int32)), .val (.int (2 : Int32)), .val (.int (1 : Int32)), .val (.int m1)] [(.int (4 : Int32))]))
    refine own_via (fun _ k => XS.iconst X0.here hx rfl (hb hby d5_20) k) ?_
    show own_Go p e below s _ _ _ (s₁.setTop (mkF m 21 #[.val (.ref b_), .val (.int (0 : Int32)), .val (.int (3 : Int32)), .val (.int pw_), .val (.int (2 : Int32)), .val (.int (2 : Int32)), .val (.int (1 : Int32)), .val (.int m1)] [(.int (1 : Int32)), (.int (4 : Int32))]))
    refine own_via (fun _ k => XS.iushr X0.here hx rfl (hb hby d5_21) rfl k) ?_
    show own_Go p e below s _ _ _ (s₁.setTop (mkF m 22 #[.val (.ref b_), .val (.int (0 : Int32)), .val (.int (3 : Int32)), .val (.int pw_), .val (.int (2 : Int32)), .val (.int (2 : Int32)), .val (.int (1 : Int32)), .val (.int m1)] [(.int (o_iushr (4 : Int32) (1 : Int32)))]))
    rw [show (o_iushr (4 : Int32) (1 : Int32)) = (2 : Int32) from (by decide)]
    show own_Go p e below s _ _ _ (s₁.setTop (mkF m 22 #[.val (.ref b_), .val (.int (0 : Int32)), .val (.int (3 : Int32)), .val (.int pw_), .val (.int (2 : Int32)), .val (.int (2 : Int32)), .val (.int (1 : Int32)), .val (.int m1)] [(.int (2 : Int32))]))
    refine own_via (fun _ k => XS.istore X0.here hx rfl (hb hby d5_22) rfl (l' := #[.val (.ref b_), .val (.int (0 : Int32)), .val (.int (3 : Int32)), .val (.int pw_), .val (.int (2 : Int32)), .val (.int (2 : Int32)), .val (.int (2 : Int32)), .val (.int m1)]) rfl k) ?_
    show own_Go p e below s _ _ _ (s₁.setTop (mkF m 24 #[.val (.ref b_), .val (.int (0 : Int32)), .val (.int (3 : Int32)), .val (.int pw_), .val (.int (2 : Int32)), .val (.int (2 : Int32)), .val (.int (2 : Int32)), .val (.int m1)] []))
    refine own_via (fun _ k => XS.aloadN X0.here hx rfl (hb hby d5_24) rfl rfl k) ?_
    show own_Go p e below s _ _ _ (s₁.setTop (mkF m 25 #[.val (.ref b_), .val (.int (0 : Int32)), .val (.int (3 : Int32)), .val (.int pw_), .val (.int (2 : Int32)), .val (.int (2 : Int32)), .val (.int (2 : Int32)), .val (.int m1)] [(.ref b_)]))
    refine own_via (fun _ k => XS.iload X0.here hx rfl (hb hby d5_25) rfl k) ?_
    show own_Go p e below s _ _ _ (s₁.setTop (mkF m 27 #[.val (.ref b_), .val (.int (0 : Int32)), .val (.int (3 : Int32)), .val (.int pw_), .val (.int (2 : Int32)), .val (.int (2 : Int32)), .val (.int (2 : Int32)), .val (.int m1)] [(.int (2 : Int32)), (.ref b_)]))
    obtain ⟨cl3, Ar3, q3, S3, M3, H3, G3⟩ := (id V_b_)
    have hin3 : ¬ ((2 : Int32) < 0 ∨ cl3.slots.size ≤ ((2 : Int32)).toNatClampNeg) := inb_of S3 ⟨by decide, by decide⟩
    have hat3 : cl3.slots[((2 : Int32)).toNatClampNeg]? = some (.int m2) := Has.at H3 hin3 rfl
    refine own_via (fun _ k => X0.iaload hx (j := (2 : Int32)) (v := (.int m2)) (by rw [e0]; exact Ar3.1) (State.isArrayOf_alike hZ.alike Ar3.2.1) Ar3.2.2 hin3 hat3 (g := (mkF m 27 #[.val (.ref b_), .val (.int (0 : Int32)), .val (.int (3 : Int32)), .val (.int pw_), .val (.int (2 : Int32)), .val (.int (2 : Int32)), .val (.int (2 : Int32)), .val (.int m1)] [(.int (2 : Int32)), (.ref b_)])) rfl rfl (hb hby d5_27) _ k) ?_
    show own_Go p e below s _ _ _ (s₁.setTop (mkF m 28 #[.val (.ref b_), .val (.int (0 : Int32)), .val (.int (3 : Int32)), .val (.int pw_), .val (.int (2 : Int32)), .val (.int (2 : Int32)), .val (.int (2 : Int32)), .val (.int m1)] [(.int m2)]))
    refine own_via (fun _ k => XS.istore X0.here hx rfl (hb hby d5_28) rfl (l' := #[.val (.ref b_), .val (.int (0 : Int32)), .val (.int (3 : Int32)), .val (.int pw_), .val (.int (2 : Int32)), .val (.int (2 : Int32)), .val (.int (2 : Int32)), .val (.int m2)]) rfl k) ?_
    show own_Go p e below s _ _ _ (s₁.setTop (mkF m 30 #[.val (.ref b_), .val (.int (0 : Int32)), .val (.int (3 : Int32)), .val (.int pw_), .val (.int (2 : Int32)), .val (.int (2 : Int32)), .val (.int (2 : Int32)), .val (.int m2)] []))
    refine own_via (fun _ k => XS.iload X0.here hx rfl (hb hby d5_30) rfl k) ?_
    show own_Go p e below s _ _ _ (s₁.setTop (mkF m 32 #[.val (.ref b_), .val (.int (0 : Int32)), .val (.int (3 : Int32)), .val (.int pw_), .val (.int (2 : Int32)), .val (.int (2 : Int32)), .val (.int (2 : Int32)), .val (.int m2)] [(.int m2)]))
    refine own_via (fun _ k => XS.iloadN X0.here hx rfl (hb hby d5_32) rfl k) ?_
    show own_Go p e below s _ _ _ (s₁.setTop (mkF m 33 #[.val (.ref b_), .val (.int (0 : Int32)), .val (.int (3 : Int32)), .val (.int pw_), .val (.int (2 : Int32)), .val (.int (2 : Int32)), .val (.int (2 : Int32)), .val (.int m2)] [(.int pw_), (.int m2)]))
    by_cases hc4 : m2 < pw_
    · refine own_via (fun _ k => XS.icmpNo X0.here hx rfl (hb hby d5_33) rfl (Jvm.Free.XT.ii_ge_f hc4) k) ?_
      show own_Go p e below s _ _ _ (s₁.setTop (mkF m 36 #[.val (.ref b_), .val (.int (0 : Int32)), .val (.int (3 : Int32)), .val (.int pw_), .val (.int (2 : Int32)), .val (.int (2 : Int32)), .val (.int (2 : Int32)), .val (.int m2)] []))
      refine own_via (fun _ k => XS.iload X0.here hx rfl (hb hby d5_36) rfl k) ?_
      show own_Go p e below s _ _ _ (s₁.setTop (mkF m 38 #[.val (.ref b_), .val (.int (0 : Int32)), .val (.int (3 : Int32)), .val (.int pw_), .val (.int (2 : Int32)), .val (.int (2 : Int32)), .val (.int (2 : Int32)), .val (.int m2)] [(.int (2 : Int32))]))
      refine own_via (fun _ k => XS.iconst X0.here hx rfl (hb hby d5_38) k) ?_
      show own_Go p e below s _ _ _ (s₁.setTop (mkF m 39 #[.val (.ref b_), .val (.int (0 : Int32)), .val (.int (3 : Int32)), .val (.int pw_), .val (.int (2 : Int32)), .val (.int (2 : Int32)), .val (.int (2 : Int32)), .val (.int m2)] [(.int (1 : Int32)), (.int (2 : Int32))]))
      refine own_via (fun _ k => XS.iadd X0.here hx rfl (hb hby d5_39) rfl k) ?_
      show own_Go p e below s _ _ _ (s₁.setTop (mkF m 40 #[.val (.ref b_), .val (.int (0 : Int32)), .val (.int (3 : Int32)), .val (.int pw_), .val (.int (2 : Int32)), .val (.int (2 : Int32)), .val (.int (2 : Int32)), .val (.int m2)] [(.int (3 : Int32))]))
      refine own_via (fun _ k => XS.istore X0.here hx rfl (hb hby d5_40) rfl (l' := #[.val (.ref b_), .val (.int (0 : Int32)), .val (.int (3 : Int32)), .val (.int pw_), .val (.int (3 : Int32)), .val (.int (2 : Int32)), .val (.int (2 : Int32)), .val (.int m2)]) rfl k) ?_
      show own_Go p e below s _ _ _ (s₁.setTop (mkF m 42 #[.val (.ref b_), .val (.int (0 : Int32)), .val (.int (3 : Int32)), .val (.int pw_), .val (.int (3 : Int32)), .val (.int (2 : Int32)), .val (.int (2 : Int32)), .val (.int m2)] []))
      refine own_via (fun _ k => XS.goto X0.here hx rfl (pc0 := 42) (pc' := 63) rfl (hb hby d5_42) (by decide) (by decide) k) ?_
      show own_Go p e below s _ _ _ (s₁.setTop (mkF m 63 #[.val (.ref b_), .val (.int (0 : Int32)), .val (.int (3 : Int32)), .val (.int pw_), .val (.int (3 : Int32)), .val (.int (2 : Int32)), .val (.int (2 : Int32)), .val (.int m2)] []))
      refine own_via (fun _ k => XS.goto X0.here hx rfl (pc0 := 63) (pc' := 8) rfl (hb hby d5_63) (by decide) (by decide) k) ?_
      show own_Go p e below s _ _ _ (s₁.setTop (mkF m 8 #[.val (.ref b_), .val (.int (0 : Int32)), .val (.int (3 : Int32)), .val (.int pw_), .val (.int (3 : Int32)), .val (.int (2 : Int32)), .val (.int (2 : Int32)), .val (.int m2)] []))
      refine own_via (fun _ k => XS.iload X0.here hx rfl (hb hby d5_8) rfl k) ?_
      show own_Go p e below s _ _ _ (s₁.setTop (mkF m 10 #[.val (.ref b_), .val (.int (0 : Int32)), .val (.int (3 : Int32)), .val (.int pw_), .val (.int (3 : Int32)), .val (.int (2 : Int32)), .val (.int (2 : Int32)), .val (.int m2)] [(.int (3 : Int32))]))
      refine own_via (fun _ k => XS.iload X0.here hx rfl (hb hby d5_10) rfl k) ?_
      show own_Go p e below s _ _ _ (s₁.setTop (mkF m 12 #[.val (.ref b_), .val (.int (0 : Int32)), .val (.int (3 : Int32)), .val (.int pw_), .val (.int (3 : Int32)), .val (.int (2 : Int32)), .val (.int (2 : Int32)), .val (.int m2)] [(.int (2 : Int32)), (.int (3 : Int32))]))
      refine own_via (fun _ k => XS.icmpYes X0.here hx rfl (pc0 := 12) (pc' := 66) rfl (hb hby d5_12) rfl (Jvm.Free.XT.ii_gt_t (by decide)) (by decide) (by decide) k) ?_
      show own_Go p e below s _ _ _ (s₁.setTop (mkF m 66 #[.val (.ref b_), .val (.int (0 : Int32)), .val (.int (3 : Int32)), .val (.int pw_), .val (.int (3 : Int32)), .val (.int (2 : Int32)), .val (.int (2 : Int32)), .val (.int m2)] []))
      refine own_via (fun _ k => XS.iload X0.here hx rfl (hb hby d5_66) rfl k) ?_
      show own_Go p e below s _ _ _ (s₁.setTop (mkF m 68 #[.val (.ref b_), .val (.int (0 : Int32)), .val (.int (3 : Int32)), .val (.int pw_), .val (.int (3 : Int32)), .val (.int (2 : Int32)), .val (.int (2 : Int32)), .val (.int m2)] [(.int (3 : Int32))]))
      refine own_via (fun _ k => XS.iconst X0.here hx rfl (hb hby d5_68) k) ?_
      show own_Go p e below s _ _ _ (s₁.setTop (mkF m 69 #[.val (.ref b_), .val (.int (0 : Int32)), .val (.int (3 : Int32)), .val (.int pw_), .val (.int (3 : Int32)), .val (.int (2 : Int32)), .val (.int (2 : Int32)), .val (.int m2)] [(.int (1 : Int32)), (.int (3 : Int32))]))
      refine own_via (fun _ k => XS.iadd X0.here hx rfl (hb hby d5_69) rfl k) ?_
      show own_Go p e below s _ _ _ (s₁.setTop (mkF m 70 #[.val (.ref b_), .val (.int (0 : Int32)), .val (.int (3 : Int32)), .val (.int pw_), .val (.int (3 : Int32)), .val (.int (2 : Int32)), .val (.int (2 : Int32)), .val (.int m2)] [(.int (4 : Int32))]))
      refine own_via (fun _ k => XS.ineg X0.here hx rfl (hb hby d5_70) rfl k) ?_
      show own_Go p e below s _ _ _ (s₁.setTop (mkF m 71 #[.val (.ref b_), .val (.int (0 : Int32)), .val (.int (3 : Int32)), .val (.int pw_), .val (.int (3 : Int32)), .val (.int (2 : Int32)), .val (.int (2 : Int32)), .val (.int m2)] [(.int (-(4 : Int32)))]))
      exact own_goI X0 hx Bd.returns (hb hby d5_71) Bd.notSynchronized (by decide) (by decide) (by rw [e0]; exact ⟨by rw [own_bs, if_pos hc2, if_pos hc4] <;> rfl, N0, rfl⟩)
    · refine own_via (fun _ k => XS.icmpYes X0.here hx rfl (pc0 := 33) (pc' := 45) rfl (hb hby d5_33) rfl (Jvm.Free.XT.ii_ge_t hc4) (by decide) (by decide) k) ?_
      show own_Go p e below s _ _ _ (s₁.setTop (mkF m 45 #[.val (.ref b_), .val (.int (0 : Int32)), .val (.int (3 : Int32)), .val (.int pw_), .val (.int (2 : Int32)), .val (.int (2 : Int32)), .val (.int (2 : Int32)), .val (.int m2)] []))
      refine own_via (fun _ k => XS.iload X0.here hx rfl (hb hby d5_45) rfl k) ?_
      show own_Go p e below s _ _ _ (s₁.setTop (mkF m 47 #[.val (.ref b_), .val (.int (0 : Int32)), .val (.int (3 : Int32)), .val (.int pw_), .val (.int (2 : Int32)), .val (.int (2 : Int32)), .val (.int (2 : Int32)), .val (.int m2)] [(.int m2)]))
      refine own_via (fun _ k => XS.iloadN X0.here hx rfl (hb hby d5_47) rfl k) ?_
      show own_Go p e below s _ _ _ (s₁.setTop (mkF m 48 #[.val (.ref b_), .val (.int (0 : Int32)), .val (.int (3 : Int32)), .val (.int pw_), .val (.int (2 : Int32)), .val (.int (2 : Int32)), .val (.int (2 : Int32)), .val (.int m2)] [(.int pw_), (.int m2)]))
      by_cases hc5 : pw_ < m2
      · refine own_via (fun _ k => XS.icmpNo X0.here hx rfl (hb hby d5_48) rfl (Jvm.Free.XT.ii_le_f hc5) k) ?_
        show own_Go p e below s _ _ _ (s₁.setTop (mkF m 51 #[.val (.ref b_), .val (.int (0 : Int32)), .val (.int (3 : Int32)), .val (.int pw_), .val (.int (2 : Int32)), .val (.int (2 : Int32)), .val (.int (2 : Int32)), .val (.int m2)] []))
        refine own_via (fun _ k => XS.iload X0.here hx rfl (hb hby d5_51) rfl k) ?_
        show own_Go p e below s _ _ _ (s₁.setTop (mkF m 53 #[.val (.ref b_), .val (.int (0 : Int32)), .val (.int (3 : Int32)), .val (.int pw_), .val (.int (2 : Int32)), .val (.int (2 : Int32)), .val (.int (2 : Int32)), .val (.int m2)] [(.int (2 : Int32))]))
        refine own_via (fun _ k => XS.iconst X0.here hx rfl (hb hby d5_53) k) ?_
        show own_Go p e below s _ _ _ (s₁.setTop (mkF m 54 #[.val (.ref b_), .val (.int (0 : Int32)), .val (.int (3 : Int32)), .val (.int pw_), .val (.int (2 : Int32)), .val (.int (2 : Int32)), .val (.int (2 : Int32)), .val (.int m2)] [(.int (1 : Int32)), (.int (2 : Int32))]))
        refine own_via (fun _ k => XS.isub X0.here hx rfl (hb hby d5_54) rfl k) ?_
        show own_Go p e below s _ _ _ (s₁.setTop (mkF m 55 #[.val (.ref b_), .val (.int (0 : Int32)), .val (.int (3 : Int32)), .val (.int pw_), .val (.int (2 : Int32)), .val (.int (2 : Int32)), .val (.int (2 : Int32)), .val (.int m2)] [(.int (1 : Int32))]))
        refine own_via (fun _ k => XS.istore X0.here hx rfl (hb hby d5_55) rfl (l' := #[.val (.ref b_), .val (.int (0 : Int32)), .val (.int (3 : Int32)), .val (.int pw_), .val (.int (2 : Int32)), .val (.int (1 : Int32)), .val (.int (2 : Int32)), .val (.int m2)]) rfl k) ?_
        show own_Go p e below s _ _ _ (s₁.setTop (mkF m 57 #[.val (.ref b_), .val (.int (0 : Int32)), .val (.int (3 : Int32)), .val (.int pw_), .val (.int (2 : Int32)), .val (.int (1 : Int32)), .val (.int (2 : Int32)), .val (.int m2)] []))
        refine own_via (fun _ k => XS.goto X0.here hx rfl (pc0 := 57) (pc' := 63) rfl (hb hby d5_57) (by decide) (by decide) k) ?_
        show own_Go p e below s _ _ _ (s₁.setTop (mkF m 63 #[.val (.ref b_), .val (.int (0 : Int32)), .val (.int (3 : Int32)), .val (.int pw_), .val (.int (2 : Int32)), .val (.int (1 : Int32)), .val (.int (2 : Int32)), .val (.int m2)] []))
        refine own_via (fun _ k => XS.goto X0.here hx rfl (pc0 := 63) (pc' := 8) rfl (hb hby d5_63) (by decide) (by decide) k) ?_
        show own_Go p e below s _ _ _ (s₁.setTop (mkF m 8 #[.val (.ref b_), .val (.int (0 : Int32)), .val (.int (3 : Int32)), .val (.int pw_), .val (.int (2 : Int32)), .val (.int (1 : Int32)), .val (.int (2 : Int32)), .val (.int m2)] []))
        refine own_via (fun _ k => XS.iload X0.here hx rfl (hb hby d5_8) rfl k) ?_
        show own_Go p e below s _ _ _ (s₁.setTop (mkF m 10 #[.val (.ref b_), .val (.int (0 : Int32)), .val (.int (3 : Int32)), .val (.int pw_), .val (.int (2 : Int32)), .val (.int (1 : Int32)), .val (.int (2 : Int32)), .val (.int m2)] [(.int (2 : Int32))]))
        refine own_via (fun _ k => XS.iload X0.here hx rfl (hb hby d5_10) rfl k) ?_
        show own_Go p e below s _ _ _ (s₁.setTop (mkF m 12 #[.val (.ref b_), .val (.int (0 : Int32)), .val (.int (3 : Int32)), .val (.int pw_), .val (.int (2 : Int32)), .val (.int (1 : Int32)), .val (.int (2 : Int32)), .val (.int m2)] [(.int (1 : Int32)), (.int (2 : Int32))]))
        refine own_via (fun _ k => XS.icmpYes X0.here hx rfl (pc0 := 12) (pc' := 66) rfl (hb hby d5_12) rfl (Jvm.Free.XT.ii_gt_t (by decide)) (by decide) (by decide) k) ?_
        show own_Go p e below s _ _ _ (s₁.setTop (mkF m 66 #[.val (.ref b_), .val (.int (0 : Int32)), .val (.int (3 : Int32)), .val (.int pw_), .val (.int (2 : Int32)), .val (.int (1 : Int32)), .val (.int (2 : Int32)), .val (.int m2)] []))
        refine own_via (fun _ k => XS.iload X0.here hx rfl (hb hby d5_66) rfl k) ?_
        show own_Go p e below s _ _ _ (s₁.setTop (mkF m 68 #[.val (.ref b_), .val (.int (0 : Int32)), .val (.int (3 : Int32)), .val (.int pw_), .val (.int (2 : Int32)), .val (.int (1 : Int32)), .val (.int (2 : Int32)), .val (.int m2)] [(.int (2 : Int32))]))
        refine own_via (fun _ k => XS.iconst X0.here hx rfl (hb hby d5_68) k) ?_
        show own_Go p e below s _ _ _ (s₁.setTop (mkF m 69 #[.val (.ref b_), .val (.int (0 : Int32)), .val (.int (3 : Int32)), .val (.int pw_), .val (.int (2 : Int32)), .val (.int (1 : Int32)), .val (.int (2 : Int32)), .val (.int m2)] [(.int (1 : Int32)), (.int (2 : Int32))]))
        refine own_via (fun _ k => XS.iadd X0.here hx rfl (hb hby d5_69) rfl k) ?_
        show own_Go p e below s _ _ _ (s₁.setTop (mkF m 70 #[.val (.ref b_), .val (.int (0 : Int32)), .val (.int (3 : Int32)), .val (.int pw_), .val (.int (2 : Int32)), .val (.int (1 : Int32)), .val (.int (2 : Int32)), .val (.int m2)] [(.int (3 : Int32))]))
        refine own_via (fun _ k => XS.ineg X0.here hx rfl (hb hby d5_70) rfl k) ?_
        show own_Go p e below s _ _ _ (s₁.setTop (mkF m 71 #[.val (.ref b_), .val (.int (0 : Int32)), .val (.int (3 : Int32)), .val (.int pw_), .val (.int (2 : Int32)), .val (.int (1 : Int32)), .val (.int (2 : Int32)), .val (.int m2)] [(.int (-(3 : Int32)))]))
        exact own_goI X0 hx Bd.returns (hb hby d5_71) Bd.notSynchronized (by decide) (by decide) (by rw [e0]; exact ⟨by rw [own_bs, if_pos hc2, if_neg hc4, if_pos hc5] <;> rfl, N0, rfl⟩)
      · refine own_via (fun _ k => XS.icmpYes X0.here hx rfl (pc0 := 48) (pc' := 60) rfl (hb hby d5_48) rfl (Jvm.Free.XT.ii_le_t hc5) (by decide) (by decide) k) ?_
        show own_Go p e below s _ _ _ (s₁.setTop (mkF m 60 #[.val (.ref b_), .val (.int (0 : Int32)), .val (.int (3 : Int32)), .val (.int pw_), .val (.int (2 : Int32)), .val (.int (2 : Int32)), .val (.int (2 : Int32)), .val (.int m2)] []))
        refine own_via (fun _ k => XS.iload X0.here hx rfl (hb hby d5_60) rfl k) ?_
        show own_Go p e below s _ _ _ (s₁.setTop (mkF m 62 #[.val (.ref b_), .val (.int (0 : Int32)), .val (.int (3 : Int32)), .val (.int pw_), .val (.int (2 : Int32)), .val (.int (2 : Int32)), .val (.int (2 : Int32)), .val (.int m2)] [(.int (2 : Int32))]))
        exact own_goI X0 hx Bd.returns (hb hby d5_62) Bd.notSynchronized (by decide) (by decide) (by rw [e0]; exact ⟨by rw [own_bs, if_pos hc2, if_neg hc4, if_neg hc5] <;> rfl, N0, rfl⟩)
  · refine own_via (fun _ k => XS.icmpYes X0.here hx rfl (pc0 := 33) (pc' := 45) rfl (hb hby d5_33) rfl (Jvm.Free.XT.ii_ge_t hc2) (by decide) (by decide) k) ?_
    show own_Go p e below s _ _ _ (s₁.setTop (mkF m 45 #[.val (.ref b_), .val (.int (0 : Int32)), .val (.int (3 : Int32)), .val (.int pw_), .val (.int (0 : Int32)), .val (.int (2 : Int32)), .val (.int (1 : Int32)), .val (.int m1)] []))
    refine own_via (fun _ k => XS.iload X0.here hx rfl (hb hby d5_45) rfl k) ?_
    show own_Go p e below s _ _ _ (s₁.setTop (mkF m 47 #[.val (.ref b_), .val (.int (0 : Int32)), .val (.int (3 : Int32)), .val (.int pw_), .val (.int (0 : Int32)), .val (.int (2 : Int32)), .val (.int (1 : Int32)), .val (.int m1)] [(.int m1)]))
    refine own_via (fun _ k => XS.iloadN X0.here hx rfl (hb hby d5_47) rfl k) ?_
    show own_Go p e below s _ _ _ (s₁.setTop (mkF m 48 #[.val (.ref b_), .val (.int (0 : Int32)), .val (.int (3 : Int32)), .val (.int pw_), .val (.int (0 : Int32)), .val (.int (2 : Int32)), .val (.int (1 : Int32)), .val (.int m1)] [(.int pw_), (.int m1)]))
    by_cases hc6 : pw_ < m1
    · refine own_via (fun _ k => XS.icmpNo X0.here hx rfl (hb hby d5_48) rfl (Jvm.Free.XT.ii_le_f hc6) k) ?_
      show own_Go p e below s _ _ _ (s₁.setTop (mkF m 51 #[.val (.ref b_), .val (.int (0 : Int32)), .val (.int (3 : Int32)), .val (.int pw_), .val (.int (0 : Int32)), .val (.int (2 : Int32)), .val (.int (1 : Int32)), .val (.int m1)] []))
      refine own_via (fun _ k => XS.iload X0.here hx rfl (hb hby d5_51) rfl k) ?_
      show own_Go p e below s _ _ _ (s₁.setTop (mkF m 53 #[.val (.ref b_), .val (.int (0 : Int32)), .val (.int (3 : Int32)), .val (.int pw_), .val (.int (0 : Int32)), .val (.int (2 : Int32)), .val (.int (1 : Int32)), .val (.int m1)] [(.int (1 : Int32))]))
      refine own_via (fun _ k => XS.iconst X0.here hx rfl (hb hby d5_53) k) ?_
      show own_Go p e below s _ _ _ (s₁.setTop (mkF m 54 #[.val (.ref b_), .val (.int (0 : Int32)), .val (.int (3 : Int32)), .val (.int pw_), .val (.int (0 : Int32)), .val (.int (2 : Int32)), .val (.int (1 : Int32)), .val (.int m1)] [(.int (1 : Int32)), (.int (1 : Int32))]))
      refine own_via (fun _ k => XS.isub X0.here hx rfl (hb hby d5_54) rfl k) ?_
      show own_Go p e below s _ _ _ (s₁.setTop (mkF m 55 #[.val (.ref b_), .val (.int (0 : Int32)), .val (.int (3 : Int32)), .val (.int pw_), .val (.int (0 : Int32)), .val (.int (2 : Int32)), .val (.int (1 : Int32)), .val (.int m1)] [(.int (0 : Int32))]))
      refine own_via (fun _ k => XS.istore X0.here hx rfl (hb hby d5_55) rfl (l' := #[.val (.ref b_), .val (.int (0 : Int32)), .val (.int (3 : Int32)), .val (.int pw_), .val (.int (0 : Int32)), .val (.int (0 : Int32)), .val (.int (1 : Int32)), .val (.int m1)]) rfl k) ?_
      show own_Go p e below s _ _ _ (s₁.setTop (mkF m 57 #[.val (.ref b_), .val (.int (0 : Int32)), .val (.int (3 : Int32)), .val (.int pw_), .val (.int (0 : Int32)), .val (.int (0 : Int32)), .val (.int (1 : Int32)), .val (.int m1)] []))
      refine own_via (fun _ k => XS.goto X0.here hx rfl (pc0 := 57) (pc' := 63) rfl (hb hby d5_57) (by decide) (by decide) k) ?_
      show own_Go p e below s _ _ _ (s₁.setTop (mkF m 63 #[.val (.ref b_), .val (.int (0 : Int32)), .val (.int (3 : Int32)), .val (.int pw_), .val (.int (0 : Int32)), .val (.int (0 : Int32)), .val (.int (1 : Int32)), .val (.int m1)] []))
      refine own_via (fun _ k => XS.goto X0.here hx rfl (pc0 := 63) (pc' := 8) rfl (hb hby d5_63) (by decide) (by decide) k) ?_
      show own_Go p e below s _ _ _ (s₁.setTop (mkF m 8 #[.val (.ref b_), .val (.int (0 : Int32)), .val (.int (3 : Int32)), .val (.int pw_), .val (.int (0 : Int32)), .val (.int (0 : Int32)), .val (.int (1 : Int32)), .val (.int m1)] []))
      refine own_via (fun _ k => XS.iload X0.here hx rfl (hb hby d5_8) rfl k) ?_
      show own_Go p e below s _ _ _ (s₁.setTop (mkF m 10 #[.val (.ref b_), .val (.int (0 : Int32)), .val (.int (3 : Int32)), .val (.int pw_), .val (.int (0 : Int32)), .val (.int (0 : Int32)), .val (.int (1 : Int32)), .val (.int m1)] [(.int (0 : Int32))]))
      refine own_via (fun _ k => XS.iload X0.here hx rfl (hb hby d5_10) rfl k) ?_
      show own_Go p e below s _ _ _ (s₁.setTop (mkF m 12 #[.val (.ref b_), .val (.int (0 : Int32)), .val (.int (3 : Int32)), .val (.int pw_), .val (.int (0 : Int32)), .val (.int (0 : Int32)), .val (.int (1 : Int32)), .val (.int m1)] [(.int (0 : Int32)), (.int (0 : Int32))]))
      refine own_via (fun _ k => XS.icmpNo X0.here hx rfl (hb hby d5_12) rfl (Jvm.Free.XT.ii_gt_f (by decide)) k) ?_
      show own_Go p e below s _ _ _ (s₁.setTop (mkF m 15 #[.val (.ref b_), .val (.int (0 : Int32)), .val (.int (3 : Int32)), .val (.int pw_), .val (.int (0 : Int32)), .val (.int (0 : Int32)), .val (.int (1 : Int32)), .val (.int m1)] []))
      refine own_via (fun _ k => XS.iload X0.here hx rfl (hb hby d5_15) rfl k) ?_
      show own_Go p e below s _ _ _ (s₁.setTop (mkF m 17 #[.val (.ref b_), .val (.int (0 : Int32)), .val (.int (3 : Int32)), .val (.int pw_), .val (.int (0 : Int32)), .val (.int (0 : Int32)), .val (.int (1 : Int32)), .val (.int m1)] [(.int (0 : Int32))]))
      refine own_via (fun _ k => XS.iload X0.here hx rfl (hb hby d5_17) rfl k) ?_
      show own_Go p e below s _ _ _ (s₁.setTop (mkF m 19 #[.val (.ref b_), .val (.int (0 : Int32)), .val (.int (3 : Int32)), .val (.int pw_), .val (.int (0 : Int32)), .val (.int (0 : Int32)), .val (.int (1 : Int32)), .val (.int m1)] [(.int (0 : Int32)), (.int (0 : Int32))]))
      refine own_via (fun _ k => XS.iadd X0.here hx rfl (hb hby d5_19) rfl k) ?_
      show own_Go p e below s _ _ _ (s₁.setTop (mkF m 20 #[.val (.ref b_), .val (.int (0 : Int32)), .val (.int (3 : Int32)), .val (.int pw_), .val (.int (0 : Int32)), .val (.int (0 : Int32)), .val (.int (1 : Int32)), .val (.int m1)] [(.int (0 : Int32))]))
      refine own_via (fun _ k => XS.iconst X0.here hx rfl (hb hby d5_20) k) ?_
      show own_Go p e below s _ _ _ (s₁.setTop (mkF m 21 #[.val (.ref b_), .val (.int (0 : Int32)), .val (.int (3 : Int32)), .val (.int pw_), .val (.int (0 : Int32)), .val (.int (0 : Int32)), .val (.int (1 : Int32)), .val (.int m1)] [(.int (1 : Int32)), (.int (0 : Int32))]))
      refine own_via (fun _ k => XS.iushr X0.here hx rfl (hb hby d5_21) rfl k) ?_
      show own_Go p e below s _ _ _ (s₁.setTop (mkF m 22 #[.val (.ref b_), .val (.int (0 : Int32)), .val (.int (3 : Int32)), .val (.int pw_), .val (.int (0 : Int32)), .val (.int (0 : Int32)), .val (.int (1 : Int32)), .val (.int m1)] [(.int (o_iushr (0 : Int32) (1 : Int32)))]))
      rw [show (o_iushr (0 : Int32) (1 : Int32)) = (0 : Int32) from (by decide)]
      show own_Go p e below s _ _ _ (s₁.setTop (mkF m 22 #[.val (.ref b_), .val (.int (0 : Int32)), .val (.int (3 : Int32)), .val (.int pw_), .val (.int (0 : Int32)), .val (.int (0 : Int32)), .val (.int (1 : Int32)), .val (.int m1)] [(.int (0 : Int32))]))
      refine own_via (fun _ k => XS.istore X0.here hx rfl (hb hby d5_22) rfl (l' := #[.val (.ref b_), .val (.int (0 : Int32)), .val (.int (3 : Int32)), .val (.int pw_), .val (.int (0 : Int32)), .val (.int (0 : Int32)), .val (.int (0 : Int32)), .val (.int m1)]) rfl k) ?_
      show own_Go p e below s _ _ _ (s₁.setTop (mkF m 24 #[.val (.ref b_), .val (.int (0 : Int32)), .val (.int (3 : Int32)), .val (.int pw_), .val (.int (0 : Int32)), .val (.int (0 : Int32)), .val (.int (0 : Int32)), .val (.int m1)] []))
      refine own_via (fun _ k => XS.aloadN X0.here hx rfl (hb hby d5_24) rfl rfl k) ?_
      show own_Go p e below s _ _ _ (s₁.setTop (mkF m 25 #[.val (.ref b_), .val (.int (0 : Int32)), .val (.int (3 : Int32)), .val (.int pw_), .val (.int (0 : Int32)), .val (.int (0 : Int32)), .val (.int (0 : Int32)), .val (.int m1)] [(.ref b_)]))
      refine own_via (fun _ k => XS.iload X0.here hx rfl (hb hby d5_25) rfl k) ?_
      show own_Go p e below s _ _ _ (s₁.setTop (mkF m 27 #[.val (.ref b_), .val (.int (0 : Int32)), .val (.int (3 : Int32)), .val (.int pw_), .val (.int (0 : Int32)), .val (.int (0 : Int32)), .val (.int (0 : Int32)), .val (.int m1)] [(.int (0 : Int32)), (.ref b_)]))
      obtain ⟨cl7, Ar7, q7, S7, M7, H7, G7⟩ := (id V_b_)
      have hin7 : ¬ ((0 : Int32) < 0 ∨ cl7.slots.size ≤ ((0 : Int32)).toNatClampNeg) := inb_of S7 ⟨by decide, by decide⟩
      have hat7 : cl7.slots[((0 : Int32)).toNatClampNeg]? = some (.int m0) := Has.at H7 hin7 rfl
      refine own_via (fun _ k => X0.iaload hx (j := (0 : Int32)) (v := (.int m0)) (by rw [e0]; exact Ar7.1) (State.isArrayOf_alike hZ.alike Ar7.2.1) Ar7.2.2 hin7 hat7 (g := (mkF m 27 #[.val (.ref b_), .val (.int (0 : Int32)), .val (.int (3 : Int32)), .val (.int pw_), .val (.int (0 : Int32)), .val (.int (0 : Int32)), .val (.int (0 : Int32)), .val (.int m1)] [(.int (0 : Int32)), (.ref b_)])) rfl rfl (hb hby d5_27) _ k) ?_
      show own_Go p e below s _ _ _ (s₁.setTop (mkF m 28 #[.val (.ref b_), .val (.int (0 : Int32)), .val (.int (3 : Int32)), .val (.int pw_), .val (.int (0 : Int32)), .val (.int (0 : Int32)), .val (.int (0 : Int32)), .val (.int m1)] [(.int m0)]))
      refine own_via (fun _ k => XS.istore X0.here hx rfl (hb hby d5_28) rfl (l' := #[.val (.ref b_), .val (.int (0 : Int32)), .val (.int (3 : Int32)), .val (.int pw_), .val (.int (0 : Int32)), .val (.int (0 : Int32)), .val (.int (0 : Int32)), .val (.int m0)]) rfl k) ?_
      show own_Go p e below s _ _ _ (s₁.setTop (mkF m 30 #[.val (.ref b_), .val (.int (0 : Int32)), .val (.int (3 : Int32)), .val (.int pw_), .val (.int (0 : Int32)), .val (.int (0 : Int32)), .val (.int (0 : Int32)), .val (.int m0)] []))
      refine own_via (fun _ k => XS.iload X0.here hx rfl (hb hby d5_30) rfl k) ?_
      show own_Go p e below s _ _ _ (s₁.setTop (mkF m 32 #[.val (.ref b_), .val (.int (0 : Int32)), .val (.int (3 : Int32)), .val (.int pw_), .val (.int (0 : Int32)), .val (.int (0 : Int32)), .val (.int (0 : Int32)), .val (.int m0)] [(.int m0)]))
      refine own_via (fun _ k => XS.iloadN X0.here hx rfl (hb hby d5_32) rfl k) ?_
      show own_Go p e below s _ _ _ (s₁.setTop (mkF m 33 #[.val (.ref b_), .val (.int (0 : Int32)), .val (.int (3 : Int32)), .val (.int pw_), .val (.int (0 : Int32)), .val (.int (0 : Int32)), .val (.int (0 : Int32)), .val (.int m0)] [(.int pw_), (.int m0)]))
      by_cases hc8 : m0 < pw_
      · refine own_via (fun _ k => XS.icmpNo X0.here hx rfl (hb hby d5_33) rfl (Jvm.Free.XT.ii_ge_f hc8) k) ?_
        show own_Go p e below s _ _ _ (s₁.setTop (mkF m 36 #[.val (.ref b_), .val (.int (0 : Int32)), .val (.int (3 : Int32)), .val (.int pw_), .val (.int (0 : Int32)), .val (.int (0 : Int32)), .val (.int (0 : Int32)), .val (.int m0)] []))
        refine own_via (fun _ k => XS.iload X0.here hx rfl (hb hby d5_36) rfl k) ?_
        show own_Go p e below s _ _ _ (s₁.setTop (mkF m 38 #[.val (.ref b_), .val (.int (0 : Int32)), .val (.int (3 : Int32)), .val (.int pw_), .val (.int (0 : Int32)), .val (.int (0 : Int32)), .val (.int (0 : Int32)), .val (.int m0)] [(.int (0 : Int32))]))
        refine own_via (fun _ k => XS.iconst X0.here hx rfl (hb hby d5_38) k) ?_
        show own_Go p e below s _ _ _ (s₁.setTop (mkF m 39 #[.val (.ref b_), .val (.int (0 : Int32)), .val (.int (3 : Int32)), .val (.int pw_), .val (.int (0 : Int32)), .val (.int (0 : Int32)), .val (.int (0 : Int32)), .val (.int m0)] [(.int (1 : Int32)), (.int (0 : Int32))]))
        refine own_via (fun _ k => XS.iadd X0.here hx rfl (hb hby d5_39) rfl k) ?_
        show own_Go p e below s _ _ _ (s₁.setTop (mkF m 40 #[.val (.ref b_), .val (.int (0 : Int32)), .val (.int (3 : Int32)), .val (.int pw_), .val (.int (0 : Int32)), .val (.int (0 : Int32)), .val (.int (0 : Int32)), .val (.int m0)] [(.int (1 : Int32))]))
        refine own_via (fun _ k => XS.istore X0.here hx rfl (hb hby d5_40) rfl (l' := #[.val (.ref b_), .val (.int (0 : Int32)), .val (.int (3 : Int32)), .val (.int pw_), .val (.int (1 : Int32)), .val (.int (0 : Int32)), .val (.int (0 : Int32)), .val (.int m0)]) rfl k) ?_
        show own_Go p e below s _ _ _ (s₁.setTop (mkF m 42 #[.val (.ref b_), .val (.int (0 : Int32)), .val (.int (3 : Int32)), .val (.int pw_), .val (.int (1 : Int32)), .val (.int (0 : Int32)), .val (.int (0 : Int32)), .val (.int m0)] []))
        refine own_via (fun _ k => XS.goto X0.here hx rfl (pc0 := 42) (pc' := 63) rfl (hb hby d5_42) (by decide) (by decide) k) ?_
        show own_Go p e below s _ _ _ (s₁.setTop (mkF m 63 #[.val (.ref b_), .val (.int (0 : Int32)), .val (.int (3 : Int32)), .val (.int pw_), .val (.int (1 : Int32)), .val (.int (0 : Int32)), .val (.int (0 : Int32)), .val (.int m0)] []))
        refine own_via (fun _ k => XS.goto X0.here hx rfl (pc0 := 63) (pc' := 8) rfl (hb hby d5_63) (by decide) (by decide) k) ?_
        show own_Go p e below s _ _ _ (s₁.setTop (mkF m 8 #[.val (.ref b_), .val (.int (0 : Int32)), .val (.int (3 : Int32)), .val (.int pw_), .val (.int (1 : Int32)), .val (.int (0 : Int32)), .val (.int (0 : Int32)), .val (.int m0)] []))
        refine own_via (fun _ k => XS.iload X0.here hx rfl (hb hby d5_8) rfl k) ?_
        show own_Go p e below s _ _ _ (s₁.setTop (mkF m 10 #[.val (.ref b_), .val (.int (0 : Int32)), .val (.int (3 : Int32)), .val (.int pw_), .val (.int (1 : Int32)), .val (.int (0 : Int32)), .val (.int (0 : Int32)), .val (.int m0)] [(.int (1 : Int32))]))
        refine own_via (fun _ k => XS.iload X0.here hx rfl (hb hby d5_10) rfl k) ?_
        show own_Go p e below s _ _ _ (s₁.setTop (mkF m 12 #[.val (.ref b_), .val (.int (0 : Int32)), .val (.int (3 : Int32)), .val (.int pw_), .val (.int (1 : Int32)), .val (.int (0 : Int32)), .val (.int (0 : Int32)), .val (.int m0)] [(.int (0 : Int32)), (.int (1 : Int32))]))
        refine own_via (fun _ k => XS.icmpYes X0.here hx rfl (pc0 := 12) (pc' := 66) rfl (hb hby d5_12) rfl (Jvm.Free.XT.ii_gt_t (by decide)) (by decide) (by decide) k) ?_
        show own_Go p e below s _ _ _ (s₁.setTop (mkF m 66 #[.val (.ref b_), .val (.int (0 : Int32)), .val (.int (3 : Int32)), .val (.int pw_), .val (.int (1 : Int32)), .val (.int (0 : Int32)), .val (.int (0 : Int32)), .val (.int m0)] []))
        refine own_via (fun _ k => XS.iload X0.here hx rfl (hb hby d5_66) rfl k) ?_
        show own_Go p e below s _ _ _ (s₁.setTop (mkF m 68 #[.val (.ref b_), .val (.int (0 : Int32)), .val (.int (3 : Int32)), .val (.int pw_), .val (.int (1 : Int32)), .val (.int (0 : Int32)), .val (.int (0 : Int32)), .val (.int m0)] [(.int (1 : Int32))]))
        refine own_via (fun _ k => XS.iconst X0.here hx rfl (hb hby d5_68) k) ?_
        show own_Go p e below s _ _ _ (s₁.setTop (mkF m 69 #[.val (.ref b_), .val (.int (0 : Int32)), .val (.int (3 : Int32)), .val (.int pw_), .val (.int (1 : Int32)), .val (.int (0 : Int32)), .val (.int (0 : Int32)), .val (.int m0)] [(.int (1 : Int32)), (.int (1 : Int32))]))
        refine own_via (fun _ k => XS.iadd X0.here hx rfl (hb hby d5_69) rfl k) ?_
        show own_Go p e below s _ _ _ (s₁.setTop (mkF m 70 #[.val (.ref b_), .val (.int (0 : Int32)), .val (.int (3 : Int32)), .val (.int pw_), .val (.int (1 : Int32)), .val (.int (0 : Int32)), .val (.int (0 : Int32)), .val (.int m0)] [(.int (2 : Int32))]))
        refine own_via (fun _ k => XS.ineg X0.here hx rfl (hb hby d5_70) rfl k) ?_
        show own_Go p e below s _ _ _ (s₁.setTop (mkF m 71 #[.val (.ref b_), .val (.int (0 : Int32)), .val (.int (3 : Int32)), .val (.int pw_), .val (.int (1 : Int32)), .val (.int (0 : Int32)), .val (.int (0 : Int32)), .val (.int m0)] [(.int (-(2 : Int32)))]))
        exact own_goI X0 hx Bd.returns (hb hby d5_71) Bd.notSynchronized (by decide) (by decide) (by rw [e0]; exact ⟨by rw [own_bs, if_neg hc2, if_pos hc6, if_pos hc8] <;> rfl, N0, rfl⟩)
      · refine own_via (fun _ k => XS.icmpYes X0.here hx rfl (pc0 := 33) (pc' := 45) rfl (hb hby d5_33) rfl (Jvm.Free.XT.ii_ge_t hc8) (by decide) (by decide) k) ?_
        show own_Go p e below s _ _ _ (s₁.setTop (mkF m 45 #[.val (.ref b_), .val (.int (0 : Int32)), .val (.int (3 : Int32)), .val (.int pw_), .val (.int (0 : Int32)), .val (.int (0 : Int32)), .val (.int (0 : Int32)), .val (.int m0)] []))
        refine own_via (fun _ k => XS.iload X0.here hx rfl (hb hby d5_45) rfl k) ?_
        show own_Go p e below s _ _ _ (s₁.setTop (mkF m 47 #[.val (.ref b_), .val (.int (0 : Int32)), .val (.int (3 : Int32)), .val (.int pw_), .val (.int (0 : Int32)), .val (.int (0 : Int32)), .val (.int (0 : Int32)), .val (.int m0)] [(.int m0)]))
        refine own_via (fun _ k => XS.iloadN X0.here hx rfl (hb hby d5_47) rfl k) ?_
        show own_Go p e below s _ _ _ (s₁.setTop (mkF m 48 #[.val (.ref b_), .val (.int (0 : Int32)), .val (.int (3 : Int32)), .val (.int pw_), .val (.int (0 : Int32)), .val (.int (0 : Int32)), .val (.int (0 : Int32)), .val (.int m0)] [(.int pw_), (.int m0)]))
        by_cases hc9 : pw_ < m0
        · refine own_via (fun _ k => XS.icmpNo X0.here hx rfl (hb hby d5_48) rfl (Jvm.Free.XT.ii_le_f hc9) k) ?_
          show own_Go p e below s _ _ _ (s₁.setTop (mkF m 51 #[.val (.ref b_), .val (.int (0 : Int32)), .val (.int (3 : Int32)), .val (.int pw_), .val (.int (0 : Int32)), .val (.int (0 : Int32)), .val (.int (0 : Int32)), .val (.int m0)] []))
          refine own_via (fun _ k => XS.iload X0.here hx rfl (hb hby d5_51) rfl k) ?_
          show own_Go p e below s _ _ _ (s₁.setTop (mkF m 53 #[.val (.ref b_), .val (.int (0 : Int32)), .val (.int (3 : Int32)), .val (.int pw_), .val (.int (0 : Int32)), .val (.int (0 : Int32)), .val (.int (0 : Int32)), .val (.int m0)] [(.int (0 : Int32))]))
          refine own_via (fun _ k => XS.iconst X0.here hx rfl (hb hby d5_53) k) ?_
          show own_Go p e below s _ _ _ (s₁.setTop (mkF m 54 #[.val (.ref b_), .val (.int (0 : Int32)), .val (.int (3 : Int32)), .val (.int pw_), .val (.int (0 : Int32)), .val (.int (0 : Int32)), .val (.int (0 : Int32)), .val (.int m0)] [(.int (1 : Int32)), (.int (0 : Int32))]))
          refine own_via (fun _ k => XS.isub X0.here hx rfl (hb hby d5_54) rfl k) ?_
          show own_Go p e below s _ _ _ (s₁.setTop (mkF m 55 #[.val (.ref b_), .val (.int (0 : Int32)), .val (.int (3 : Int32)), .val (.int pw_), .val (.int (0 : Int32)), .val (.int (0 : Int32)), .val (.int (0 : Int32)), .val (.int m0)] [(.int (-1 : Int32))]))
          refine own_via (fun _ k => XS.istore X0.here hx rfl (hb hby d5_55) rfl (l' := #[.val (.ref b_), .val (.int (0 : Int32)), .val (.int (3 : Int32)), .val (.int pw_), .val (.int (0 : Int32)), .val (.int (-1 : Int32)), .val (.int (0 : Int32)), .val (.int m0)]) rfl k) ?_
          show own_Go p e below s _ _ _ (s₁.setTop (mkF m 57 #[.val (.ref b_), .val (.int (0 : Int32)), .val (.int (3 : Int32)), .val (.int pw_), .val (.int (0 : Int32)), .val (.int (-1 : Int32)), .val (.int (0 : Int32)), .val (.int m0)] []))
          refine own_via (fun _ k => XS.goto X0.here hx rfl (pc0 := 57) (pc' := 63) rfl (hb hby d5_57) (by decide) (by decide) k) ?_
          show own_Go p e below s _ _ _ (s₁.setTop (mkF m 63 #[.val (.ref b_), .val (.int (0 : Int32)), .val (.int (3 : Int32)), .val (.int pw_), .val (.int (0 : Int32)), .val (.int (-1 : Int32)), .val (.int (0 : Int32)), .val (.int m0)] []))
          refine own_via (fun _ k => XS.goto X0.here hx rfl (pc0 := 63) (pc' := 8) rfl (hb hby d5_63) (by decide) (by decide) k) ?_
          show own_Go p e below s _ _ _ (s₁.setTop (mkF m 8 #[.val (.ref b_), .val (.int (0 : Int32)), .val (.int (3 : Int32)), .val (.int pw_), .val (.int (0 : Int32)), .val (.int (-1 : Int32)), .val (.int (0 : Int32)), .val (.int m0)] []))
          refine own_via (fun _ k => XS.iload X0.here hx rfl (hb hby d5_8) rfl k) ?_
          show own_Go p e below s _ _ _ (s₁.setTop (mkF m 10 #[.val (.ref b_), .val (.int (0 : Int32)), .val (.int (3 : Int32)), .val (.int pw_), .val (.int (0 : Int32)), .val (.int (-1 : Int32)), .val (.int (0 : Int32)), .val (.int m0)] [(.int (0 : Int32))]))
          refine own_via (fun _ k => XS.iload X0.here hx rfl (hb hby d5_10) rfl k) ?_
          show own_Go p e below s _ _ _ (s₁.setTop (mkF m 12 #[.val (.ref b_), .val (.int (0 : Int32)), .val (.int (3 : Int32)), .val (.int pw_), .val (.int (0 : Int32)), .val (.int (-1 : Int32)), .val (.int (0 : Int32)), .val (.int m0)] [(.int (-1 : Int32)), (.int (0 : Int32))]))
          refine own_via (fun _ k => XS.icmpYes X0.here hx rfl (pc0 := 12) (pc' := 66) rfl (hb hby d5_12) rfl (Jvm.Free.XT.ii_gt_t (by decide)) (by decide) (by decide) k) ?_
          show own_Go p e below s _ _ _ (s₁.setTop (mkF m 66 #[.val (.ref b_), .val (.int (0 : Int32)), .val (.int (3 : Int32)), .val (.int pw_), .val (.int (0 : Int32)), .val (.int (-1 : Int32)), .val (.int (0 : Int32)), .val (.int m0)] []))
          refine own_via (fun _ k => XS.iload X0.here hx rfl (hb hby d5_66) rfl k) ?_
          show own_Go p e below s _ _ _ (s₁.setTop (mkF m 68 #[.val (.ref b_), .val (.int (0 : Int32)), .val (.int (3 : Int32)), .val (.int pw_), .val (.int (0 : Int32)), .val (.int (-1 : Int32)), .val (.int (0 : Int32)), .val (.int m0)] [(.int (0 : Int32))]))
          refine own_via (fun _ k => XS.iconst X0.here hx rfl (hb hby d5_68) k) ?_
          show own_Go p e below s _ _ _ (s₁.setTop (mkF m 69 #[.val (.ref b_), .val (.int (0 : Int32)), .val (.int (3 : Int32)), .val (.int pw_), .val (.int (0 : Int32)), .val (.int (-1 : Int32)), .val (.int (0 : Int32)), .val (.int m0)] [(.int (1 : Int32)), (.int (0 : Int32))]))
          refine own_via (fun _ k => XS.iadd X0.here hx rfl (hb hby d5_69) rfl k) ?_
          show own_Go p e below s _ _ _ (s₁.setTop (mkF m 70 #[.val (.ref b_), .val (.int (0 : Int32)), .val (.int (3 : Int32)), .val (.int pw_), .val (.int (0 : Int32)), .val (.int (-1 : Int32)), .val (.int (0 : Int32)), .val (.int m0)] [(.int (1 : Int32))]))
          refine own_via (fun _ k => XS.ineg X0.here hx rfl (hb hby d5_70) rfl k) ?_
          show own_Go p e below s _ _ _ (s₁.setTop (mkF m 71 #[.val (.ref b_), .val (.int (0 : Int32)), .val (.int (3 : Int32)), .val (.int pw_), .val (.int (0 : Int32)), .val (.int (-1 : Int32)), .val (.int (0 : Int32)), .val (.int m0)] [(.int (-(1 : Int32)))]))
          exact own_goI X0 hx Bd.returns (hb hby d5_71) Bd.notSynchronized (by decide) (by decide) (by rw [e0]; exact ⟨by rw [own_bs, if_neg hc2, if_pos hc6, if_neg hc8, if_pos hc9] <;> rfl, N0, rfl⟩)
        · refine own_via (fun _ k => XS.icmpYes X0.here hx rfl (pc0 := 48) (pc' := 60) rfl (hb hby d5_48) rfl (Jvm.Free.XT.ii_le_t hc9) (by decide) (by decide) k) ?_
          show own_Go p e below s _ _ _ (s₁.setTop (mkF m 60 #[.val (.ref b_), .val (.int (0 : Int32)), .val (.int (3 : Int32)), .val (.int pw_), .val (.int (0 : Int32)), .val (.int (0 : Int32)), .val (.int (0 : Int32)), .val (.int m0)] []))
          refine own_via (fun _ k => XS.iload X0.here hx rfl (hb hby d5_60) rfl k) ?_
          show own_Go p e below s _ _ _ (s₁.setTop (mkF m 62 #[.val (.ref b_), .val (.int (0 : Int32)), .val (.int (3 : Int32)), .val (.int pw_), .val (.int (0 : Int32)), .val (.int (0 : Int32)), .val (.int (0 : Int32)), .val (.int m0)] [(.int (0 : Int32))]))
          exact own_goI X0 hx Bd.returns (hb hby d5_62) Bd.notSynchronized (by decide) (by decide) (by rw [e0]; exact ⟨by rw [own_bs, if_neg hc2, if_pos hc6, if_neg hc8, if_neg hc9] <;> rfl, N0, rfl⟩)
    · refine own_via (fun _ k => XS.icmpYes X0.here hx rfl (pc0 := 48) (pc' := 60) rfl (hb hby d5_48) rfl (Jvm.Free.XT.ii_le_t hc6) (by decide) (by decide) k) ?_
      show own_Go p e below s _ _ _ (s₁.setTop (mkF m 60 #[.val (.ref b_), .val (.int (0 : Int32)), .val (.int (3 : Int32)), .val (.int pw_), .val (.int (0 : Int32)), .val (.int (2 : Int32)), .val (.int (1 : Int32)), .val (.int m1)] []))
      refine own_via (fun _ k => XS.iload X0.here hx rfl (hb hby d5_60) rfl k) ?_
      show own_Go p e below s _ _ _ (s₁.setTop (mkF m 62 #[.val (.ref b_), .val (.int (0 : Int32)), .val (.int (3 : Int32)), .val (.int pw_), .val (.int (0 : Int32)), .val (.int (2 : Int32)), .val (.int (1 : Int32)), .val (.int m1)] [(.int (1 : Int32))]))
      exact own_goI X0 hx Bd.returns (hb hby d5_62) Bd.notSynchronized (by decide) (by decide) (by rw [e0]; exact ⟨by rw [own_bs, if_neg hc2, if_neg hc6] <;> rfl, N0, rfl⟩)
theorem d4_0 : decode jdk_65_method_57_code 0 = .ok (.aload_n 0, 1) := by decide +kernel
theorem d4_1 : decode jdk_65_method_57_code 1 = .ok (.iconst 0, 1) := by decide +kernel
theorem d4_2 : decode jdk_65_method_57_code 2 = .ok (.aload_n 0, 1) := by decide +kernel
theorem d4_3 : decode jdk_65_method_57_code 3 = .ok (.arraylength, 1) := by decide +kernel
theorem d4_4 : decode jdk_65_method_57_code 4 = .ok (.iload_n 1, 1) := by decide +kernel
theorem pd_0 : parseMethodDescriptor "([IIII)I" = some ⟨[(.array .int), .int, .int, .int], some .int⟩ := by decide +kernel
theorem d4_5 : decode jdk_65_method_57_code 5 = .ok (.invokestatic 209, 3) := by decide +kernel
theorem d4_8 : decode jdk_65_method_57_code 8 = .ok (.ireturn, 1) := by decide +kernel
theorem ef_4 (m : MethodId) (x0 : Addr) (x1 : Int32) : entryFrame m #[(.ref x0), (.int x1)] 2 = mkF m 0 #[.val (.ref x0), .val (.int x1)] [] := by first | (simp [entryFrame, mkF, argsToLocals, Value.category]; done) | rfl
def Q4 (Z : State) (b_ : Addr) (pw_ : Int32) (k_ : ClassId) (m0 : Int32) (m1 : Int32) (m2 : Int32) (h0 : Heap) (n0 : Nat) (v : Option Value) (h : Heap) (L : List Loc) : Prop := v = some (.int (own_bs m0 m1 m2 pw_)) ∧ Fr n0 L ∧ h = h0
set_option maxRecDepth 65536 in
set_option maxHeartbeats 40000000 in
theorem rm4 (l : Launch) (Z : State) (a0 : Array Value) (hw : ∀ d ∈ tables_1, d.before a0 Z = true) (ws : List Jvm.Cond) (b_ : Addr) (pw_ : Int32) (k_ : ClassId) (m0 : Int32) (m1 : Int32) (m2 : Int32) (h0 : Heap) (n0 : Nat) (Z0 : n0 ≤ h0.size) (V_b_ : Arv Z h0 b_ k_ .int (3 : Int32) [(.int m0), (.int m1), (.int m2)] (.int (0 : Int32))) :
    MetFree l (⟨"java/util/Arrays", "binarySearch", "([II)I"⟩ : MethodName) (head1 (Jvm.Cond.code (⟨"java/util/Arrays", "binarySearch", "([II)I"⟩ : MethodName) jdk_65_method_57_code 2 (some .int) :: ws) ({ frames := 1, cells := 0, slots := 0, locals := 19 } : Room)) (fun q_ U => q_ = #[(.ref b_), (.int pw_)] ∧ Z.Warmed39 U.vm ∧ U.heap = h0) (fun _ _ _ _ _ => True) (fun _ U o U' => ∃ v L, o = .returned v ∧ Q4 Z b_ pw_ k_ m0 m1 m2 h0 n0 v U'.heap L ∧ FrameEnd U o U' L ({ frames := 1, cells := 0, slots := 0, locals := 19 } : Room).cells ({ frames := 1, cells := 0, slots := 0, locals := 19 } : Room).slots) := by
  refine MetFree.of_bodySF (plainFor_of_name pn_0) hisR ?_
  intro p e s m args below meth c s₁ Bd hml0 hP hK
  obtain ⟨rfl, hZ, hh⟩ := hP
  have hx := Bd.exec
  have hby := Bd.bytes
  have hml : c.maxLocals = 2 := hml0
  have hown : s.vm.findClass "java/util/Arrays" = some m.cls := findClass_of_methodNamed Bd.named
  have hnm := (name_of_methodNamed Bd.named Bd.method).1
  have X0 : Stand p l e ({ frames := 1, cells := 0, slots := 0, locals := 19 } : Room) s m #[(.ref b_), (.int pw_)] below meth c s₁ [] 0 0 := Stand.of_body Bd
  have e0 : s₁.heap = h0 := by rw [← hh, Bd.state]; rfl
  have N0 := Fr.nil n0
  show own_Go p e below s (Q4 Z b_ pw_ k_ m0 m1 m2 h0 n0) ({ frames := 1, cells := 0, slots := 0, locals := 19 } : Room).cells ({ frames := 1, cells := 0, slots := 0, locals := 19 } : Room).slots (s₁.setTop (entryFrame m #[(.ref b_), (.int pw_)] 2))
  refine own_via (fun t k => castTop (ef_4 m b_ pw_) k) ?_
  show own_Go p e below s _ _ _ (s₁.setTop (mkF m 0 #[.val (.ref b_), .val (.int pw_)] []))
  refine own_via (fun _ k => XS.aloadN X0.here hx rfl (hb hby d4_0) rfl rfl k) ?_
  show own_Go p e below s _ _ _ (s₁.setTop (mkF m 1 #[.val (.ref b_), .val (.int pw_)] [(.ref b_)]))
  refine own_via (fun _ k => XS.iconst X0.here hx rfl (hb hby d4_1) k) ?_
  show own_Go p e below s _ _ _ (s₁.setTop (mkF m 2 #[.val (.ref b_), .val (.int pw_)] [(.int (0 : Int32)), (.ref b_)]))
  refine own_via (fun _ k => XS.aloadN X0.here hx rfl (hb hby d4_2) rfl rfl k) ?_
  show own_Go p e below s _ _ _ (s₁.setTop (mkF m 3 #[.val (.ref b_), .val (.int pw_)] [(.ref b_), (.int (0 : Int32)), (.ref b_)]))
  obtain ⟨cl1, Ar1, q1, S1, M1, H1, G1⟩ := (id V_b_)
  refine own_via (fun _ k => X0.arraylength hx (by rw [e0]; exact Ar1.1) (State.isArrayOf_alike hZ.alike Ar1.2.1) (g := (mkF m 3 #[.val (.ref b_), .val (.int pw_)] [(.ref b_), (.int (0 : Int32)), (.ref b_)])) rfl rfl (hb hby d4_3) _ (by rw [len_of S1 M1]; exact k)) ?_
  show own_Go p e below s _ _ _ (s₁.setTop (mkF m 4 #[.val (.ref b_), .val (.int pw_)] [(.int (3 : Int32)), (.int (0 : Int32)), (.ref b_)]))
  refine own_via (fun _ k => XS.iloadN X0.here hx rfl (hb hby d4_4) rfl k) ?_
  show own_Go p e below s _ _ _ (s₁.setTop (mkF m 5 #[.val (.ref b_), .val (.int pw_)] [(.int pw_), (.int (3 : Int32)), (.int (0 : Int32)), (.ref b_)]))
  obtain ⟨_, _, ⟨T2, L2, k2, n2⟩, -, X2, ⟨Lc2, hQ2, l2, y2, z2⟩, st2⟩ := Jvm.LawKit.callS X0 hx (y := (⟨"java/util/Arrays", "binarySearch0", "([IIII)I"⟩ : MethodName)) hown (mvT hZ (hw _ (List.mem_of_getElem? (i := 37) rfl))) (mvT hZ (hw _ (List.mem_of_getElem? (i := 38) rfl))) (mvT hZ (hw _ (List.mem_of_getElem? (i := 35) rfl))) (mvT hZ (hw _ (List.mem_of_getElem? (i := 39) rfl))) (by decide) (backOf (W := 0) (rm5 l Z a0 hw [] b_ (0 : Int32) (3 : Int32) pw_ k_ m0 m1 m2 h0 n0 Z0 V_b_ rfl rfl) hZ (hw _ (List.mem_of_getElem? (i := 39) rfl)) (hw _ (List.mem_of_getElem? (i := 35) rfl)) (by decide) (by decide)) (g := (mkF m 5 #[.val (.ref b_), .val (.int pw_)] [(.int pw_), (.int (3 : Int32)), (.int (0 : Int32)), (.ref b_)])) rfl (by rw [hml]; rfl) (argsL := [(.ref b_), (.int (0 : Int32)), (.int (3 : Int32)), (.int pw_)]) (rest := []) (lenOf pd_0 rfl) rfl (by show 2 * 0 + _ ≤ _; exact Nat.le_of_eq rfl) (hb hby d4_5) (fun _ _ => ⟨rfl, e0, (by decide : 0 + 0 ≤ _), (by decide : 0 + 0 ≤ _)⟩)
  dsimp only [Pt.U, Pt.locs, Pt.cells, Pt.slots] at X2 l2 y2 z2 st2 hQ2
  subst l2 y2 z2
  obtain ⟨rfl, N2q, e2⟩ := hQ2
  have N2 := Fr.app N0 N2q
  refine own_via st2 ?_
  show own_Go p e below s _ _ _ (T2.setTop (mkF m 8 #[.val (.ref b_), .val (.int pw_)] [(.int (own_bs m0 m1 m2 pw_))]))
  exact own_goI X2 hx Bd.returns (hb hby d4_8) Bd.notSynchronized (by decide) (by decide) (by rw [e2]; exact ⟨rfl, N2, rfl⟩)
theorem d2_0 : decode jdk_30_method_1_code 0 = .ok (.aload_n 0, 1) := by decide +kernel
theorem d2_1 : decode jdk_30_method_1_code 1 = .ok (.invokespecial 1, 3) := by decide +kernel
theorem d2_4 : decode jdk_30_method_1_code 4 = .ok (.return_, 1) := by decide +kernel
theorem pn_1 : plainName "java/lang/Record" = true := by first | (simp [plainName, overriddenIn]; done) | decide +kernel
theorem ef_2 (m : MethodId) (x0 : Addr) : entryFrame m #[(.ref x0)] 1 = mkF m 0 #[.val (.ref x0)] [] := by first | (simp [entryFrame, mkF, argsToLocals, Value.category]; done) | rfl
def Q2 (Z : State) (a : Addr) (h0 : Heap) (n0 : Nat) (v : Option Value) (h : Heap) (L : List Loc) : Prop := v = none ∧ Fr n0 L ∧ h = h0
set_option maxRecDepth 65536 in
set_option maxHeartbeats 40000000 in
theorem rm2 (l : Launch) (Z : State) (a0 : Array Value) (hw : ∀ d ∈ tables_1, d.before a0 Z = true) (ws : List Jvm.Cond) (a : Addr) (h0 : Heap) (n0 : Nat) (Z0 : n0 ≤ h0.size) :
    MetFree l (⟨"java/lang/Record", "<init>", "()V"⟩ : MethodName) (head1 (Jvm.Cond.code (⟨"java/lang/Record", "<init>", "()V"⟩ : MethodName) jdk_30_method_1_code 1 none :: ws) ({ frames := 1, cells := 0, slots := 0, locals := 12 } : Room)) (fun q_ U => q_ = #[(.ref a)] ∧ Z.Warmed39 U.vm ∧ U.heap = h0) (fun _ _ _ _ _ => True) (fun _ U o U' => ∃ v L, o = .returned v ∧ Q2 Z a h0 n0 v U'.heap L ∧ FrameEnd U o U' L ({ frames := 1, cells := 0, slots := 0, locals := 12 } : Room).cells ({ frames := 1, cells := 0, slots := 0, locals := 12 } : Room).slots) := by
  refine MetFree.of_bodySF (plainFor_of_name pn_1) hisR ?_
  intro p e s m args below meth c s₁ Bd hml0 hP hK
  obtain ⟨rfl, hZ, hh⟩ := hP
  have hx := Bd.exec
  have hby := Bd.bytes
  have hml : c.maxLocals = 1 := hml0
  have hown : s.vm.findClass "java/lang/Record" = some m.cls := findClass_of_methodNamed Bd.named
  have hnm := (name_of_methodNamed Bd.named Bd.method).1
  have X0 : Stand p l e ({ frames := 1, cells := 0, slots := 0, locals := 12 } : Room) s m #[(.ref a)] below meth c s₁ [] 0 0 := Stand.of_body Bd
  have e0 : s₁.heap = h0 := by rw [← hh, Bd.state]; rfl
  have N0 := Fr.nil n0
  show own_Go p e below s (Q2 Z a h0 n0) ({ frames := 1, cells := 0, slots := 0, locals := 12 } : Room).cells ({ frames := 1, cells := 0, slots := 0, locals := 12 } : Room).slots (s₁.setTop (entryFrame m #[(.ref a)] 1))
  refine own_via (fun t k => castTop (ef_2 m a) k) ?_
  show own_Go p e below s _ _ _ (s₁.setTop (mkF m 0 #[.val (.ref a)] []))
  refine own_via (fun _ k => XS.aloadN X0.here hx rfl (hb hby d2_0) rfl rfl k) ?_
  show own_Go p e below s _ _ _ (s₁.setTop (mkF m 1 #[.val (.ref a)] [(.ref a)]))
  obtain ⟨T1, X1, e1, st1⟩ := initO X0 hx hZ hown (hw _ (List.mem_of_getElem? (i := 14) rfl)) (hw _ (List.mem_of_getElem? (i := 15) rfl)) (hw _ (List.mem_of_getElem? (i := 16) rfl)) e0 (g := (mkF m 1 #[.val (.ref a)] [(.ref a)])) rfl (by rw [hml]; rfl) rfl (hb hby d2_1) (by decide) (W := 0) (by show 2 * 0 + _ ≤ _; exact Nat.le_of_eq rfl) (by decide)
  refine own_via st1 ?_
  show own_Go p e below s _ _ _ (T1.setTop (mkF m 4 #[.val (.ref a)] []))
  exact own_goV X1 hx Bd.returns (hb hby d2_4) Bd.notSynchronized (by decide) (by decide) (by rw [e1]; exact ⟨rfl, N0, rfl⟩)

theorem own_bsE {a b c : Int32} {e : Nat} (h1 : a < b) (h2 : b < c) (he : e < 3) : own_bs a b c (own_m a b c e) = Nat.toInt32 e := by
  rw [Int32.lt_iff_toInt_lt] at h1 h2
  match e, he with
  | 0, _ => unfold own_bs own_m; simp only [Int32.lt_iff_toInt_lt]; (repeat' split) <;> first | rfl | (exfalso; omega)
  | 1, _ => unfold own_bs own_m; simp only [Int32.lt_iff_toInt_lt]; (repeat' split) <;> first | rfl | (exfalso; omega)
  | 2, _ => unfold own_bs own_m; simp only [Int32.lt_iff_toInt_lt]; (repeat' split) <;> first | rfl | (exfalso; omega)


def own_qs (us : List Int32) (x : Int32) : Nat → Nat → Int32
  | 0, _ => 0
  | n + 1, i => if us.getD i 0 = x then (1 : Int32) else own_qs us x n (i + 1)
theorem own_ltn {i j : Nat} (hj : j ≤ 16) (hi : i ≤ 16) : (Nat.toInt32 i) < (Nat.toInt32 j) ↔ i < j := by
  rw [Int32.lt_iff_toInt_lt, own_t i hi, own_t j hj]; omega
theorem own_succ (i : Nat) : (Nat.toInt32 i) + (1 : Int32) = Nat.toInt32 (i + 1) := by
  apply Int32.toBitVec_inj.mp
  show BitVec.ofNat 32 i + 1#32 = BitVec.ofNat 32 (i + 1)
  apply BitVec.eq_of_toNat_eq; simp [BitVec.toNat_add]
theorem own_gm (us : List Int32) {i : Nat} (hi : i ≤ 16) : (us.map Value.int).getD (Nat.toInt32 i).toNatClampNeg (.int (0 : Int32)) = .int (us.getD i 0) := by
  rw [own_nc hi]
  simp only [List.getD_eq_getElem?_getD, List.getElem?_map]
  cases us[i]? <;> rfl
theorem own_me (a b c : Int32) (es : List Nat) {i : Nat} (hi : i < es.length) : (es.map (own_m a b c)).getD i 0 = own_m a b c (es.getD i 0) := by
  simp only [List.getD_eq_getElem?_getD, List.getElem?_map]
  rw [List.getElem?_eq_getElem hi]; rfl
theorem own_sd {ss : List Value} {e f : Nat} {x d : Value} (h : f ≠ e) : (ss.set e x).getD f d = ss.getD f d := by
  simp only [List.getD_eq_getElem?_getD, List.getElem?_set]
  rw [if_neg (fun z => h z.symm)]


theorem own_z3D {e : Nat} (h : e < 3) : own_z3.getD e (.int (0 : Int32)) = .int (0 : Int32) := by
  match e, h with
  | 0, _ => rfl
  | 1, _ => rfl
  | 2, _ => rfl

theorem d1_0 : decode prog_78_method_1_code 0 = .ok (.aload_n 0, 1) := by decide +kernel
theorem pd_1 : parseMethodDescriptor "()V" = some ⟨[], none⟩ := by decide +kernel
theorem d1_1 : decode prog_78_method_1_code 1 = .ok (.invokespecial 1, 3) := by decide +kernel
theorem d1_4 : decode prog_78_method_1_code 4 = .ok (.aload_n 1, 1) := by decide +kernel
theorem d1_5 : decode prog_78_method_1_code 5 = .ok (.invokevirtual 7, 3) := by decide +kernel
theorem d1_8 : decode prog_78_method_1_code 8 = .ok (.checkcast 8, 3) := by decide +kernel
theorem d1_11 : decode prog_78_method_1_code 11 = .ok (.astore_n 1, 1) := by decide +kernel
theorem d1_12 : decode prog_78_method_1_code 12 = .ok (.aload_n 2, 1) := by decide +kernel
theorem d1_13 : decode prog_78_method_1_code 13 = .ok (.invokevirtual 13, 3) := by decide +kernel
theorem d1_16 : decode prog_78_method_1_code 16 = .ok (.checkcast 14, 3) := by decide +kernel
theorem d1_19 : decode prog_78_method_1_code 19 = .ok (.astore_n 2, 1) := by decide +kernel
theorem d1_20 : decode prog_78_method_1_code 20 = .ok (.aload_n 3, 1) := by decide +kernel
theorem d1_21 : decode prog_78_method_1_code 21 = .ok (.invokevirtual 7, 3) := by decide +kernel
theorem d1_24 : decode prog_78_method_1_code 24 = .ok (.checkcast 8, 3) := by decide +kernel
theorem d1_27 : decode prog_78_method_1_code 27 = .ok (.astore_n 3, 1) := by decide +kernel
theorem d1_28 : decode prog_78_method_1_code 28 = .ok (.aload_n 2, 1) := by decide +kernel
theorem d1_29 : decode prog_78_method_1_code 29 = .ok (.arraylength, 1) := by decide +kernel
theorem d1_30 : decode prog_78_method_1_code 30 = .ok (.aload_n 1, 1) := by decide +kernel
theorem d1_31 : decode prog_78_method_1_code 31 = .ok (.arraylength, 1) := by decide +kernel
theorem d1_32 : decode prog_78_method_1_code 32 = .ok (.if_icmp .eq 20, 3) := by decide +kernel
theorem d1_52 : decode prog_78_method_1_code 52 = .ok (.iconst 0, 1) := by decide +kernel
theorem d1_53 : decode prog_78_method_1_code 53 = .ok (.istore 4, 2) := by decide +kernel
theorem d1_55 : decode prog_78_method_1_code 55 = .ok (.iload 4, 2) := by decide +kernel
theorem d1_57 : decode prog_78_method_1_code 57 = .ok (.aload_n 1, 1) := by decide +kernel
theorem d1_58 : decode prog_78_method_1_code 58 = .ok (.arraylength, 1) := by decide +kernel
theorem d1_59 : decode prog_78_method_1_code 59 = .ok (.if_icmp .ge 69, 3) := by decide +kernel
theorem d1_62 : decode prog_78_method_1_code 62 = .ok (.aload_n 1, 1) := by decide +kernel
theorem d1_63 : decode prog_78_method_1_code 63 = .ok (.iload 4, 2) := by decide +kernel
theorem d1_65 : decode prog_78_method_1_code 65 = .ok (.iaload, 1) := by decide +kernel
theorem d1_66 : decode prog_78_method_1_code 66 = .ok (.iconst 1, 1) := by decide +kernel
theorem d1_67 : decode prog_78_method_1_code 67 = .ok (.if_icmp .lt 30, 3) := by decide +kernel
theorem d1_70 : decode prog_78_method_1_code 70 = .ok (.aload_n 2, 1) := by decide +kernel
theorem d1_71 : decode prog_78_method_1_code 71 = .ok (.iload 4, 2) := by decide +kernel
theorem d1_73 : decode prog_78_method_1_code 73 = .ok (.laload, 1) := by decide +kernel
theorem d1_74 : decode prog_78_method_1_code 74 = .ok (.lconst 0, 1) := by decide +kernel
theorem d1_75 : decode prog_78_method_1_code 75 = .ok (.lcmp, 1) := by decide +kernel
theorem d1_76 : decode prog_78_method_1_code 76 = .ok (.ifCond .lt 21, 3) := by decide +kernel
theorem d1_79 : decode prog_78_method_1_code 79 = .ok (.iload 4, 2) := by decide +kernel
theorem d1_81 : decode prog_78_method_1_code 81 = .ok (.ifCond .le 41, 3) := by decide +kernel
theorem d1_122 : decode prog_78_method_1_code 122 = .ok (.iinc 4 1, 3) := by decide +kernel
theorem d1_125 : decode prog_78_method_1_code 125 = .ok (.goto (-70), 3) := by decide +kernel
theorem d1_84 : decode prog_78_method_1_code 84 = .ok (.aload_n 1, 1) := by decide +kernel
theorem d1_85 : decode prog_78_method_1_code 85 = .ok (.iload 4, 2) := by decide +kernel
theorem d1_87 : decode prog_78_method_1_code 87 = .ok (.iaload, 1) := by decide +kernel
theorem d1_88 : decode prog_78_method_1_code 88 = .ok (.aload_n 1, 1) := by decide +kernel
theorem d1_89 : decode prog_78_method_1_code 89 = .ok (.iload 4, 2) := by decide +kernel
theorem d1_91 : decode prog_78_method_1_code 91 = .ok (.iconst 1, 1) := by decide +kernel
theorem d1_92 : decode prog_78_method_1_code 92 = .ok (.isub, 1) := by decide +kernel
theorem d1_93 : decode prog_78_method_1_code 93 = .ok (.iaload, 1) := by decide +kernel
theorem d1_94 : decode prog_78_method_1_code 94 = .ok (.if_icmp .gt 28, 3) := by decide +kernel
theorem d1_128 : decode prog_78_method_1_code 128 = .ok (.aload_n 1, 1) := by decide +kernel
theorem d1_129 : decode prog_78_method_1_code 129 = .ok (.arraylength, 1) := by decide +kernel
theorem d1_130 : decode prog_78_method_1_code 130 = .ok (.newarray .boolean, 2) := by decide +kernel
theorem d1_132 : decode prog_78_method_1_code 132 = .ok (.astore 4, 2) := by decide +kernel
theorem d1_134 : decode prog_78_method_1_code 134 = .ok (.aload_n 3, 1) := by decide +kernel
theorem d1_135 : decode prog_78_method_1_code 135 = .ok (.astore 5, 2) := by decide +kernel
theorem d1_137 : decode prog_78_method_1_code 137 = .ok (.aload 5, 2) := by decide +kernel
theorem d1_139 : decode prog_78_method_1_code 139 = .ok (.arraylength, 1) := by decide +kernel
theorem d1_140 : decode prog_78_method_1_code 140 = .ok (.istore 6, 2) := by decide +kernel
theorem d1_142 : decode prog_78_method_1_code 142 = .ok (.iconst 0, 1) := by decide +kernel
theorem d1_143 : decode prog_78_method_1_code 143 = .ok (.istore 7, 2) := by decide +kernel
theorem d1_145 : decode prog_78_method_1_code 145 = .ok (.iload 7, 2) := by decide +kernel
theorem d1_147 : decode prog_78_method_1_code 147 = .ok (.iload 6, 2) := by decide +kernel
theorem d1_149 : decode prog_78_method_1_code 149 = .ok (.if_icmp .ge 66, 3) := by decide +kernel
theorem d1_215 : decode prog_78_method_1_code 215 = .ok (.aload_n 0, 1) := by decide +kernel
theorem d1_216 : decode prog_78_method_1_code 216 = .ok (.aload_n 1, 1) := by decide +kernel
theorem d1_217 : decode prog_78_method_1_code 217 = .ok (.putfield 41, 3) := by decide +kernel
theorem d1_220 : decode prog_78_method_1_code 220 = .ok (.aload_n 0, 1) := by decide +kernel
theorem d1_221 : decode prog_78_method_1_code 221 = .ok (.aload_n 2, 1) := by decide +kernel
theorem d1_222 : decode prog_78_method_1_code 222 = .ok (.putfield 46, 3) := by decide +kernel
theorem d1_225 : decode prog_78_method_1_code 225 = .ok (.aload_n 0, 1) := by decide +kernel
theorem d1_226 : decode prog_78_method_1_code 226 = .ok (.aload_n 3, 1) := by decide +kernel
theorem d1_227 : decode prog_78_method_1_code 227 = .ok (.putfield 49, 3) := by decide +kernel
theorem d1_230 : decode prog_78_method_1_code 230 = .ok (.return_, 1) := by decide +kernel
theorem d1_152 : decode prog_78_method_1_code 152 = .ok (.aload 5, 2) := by decide +kernel
theorem d1_154 : decode prog_78_method_1_code 154 = .ok (.iload 7, 2) := by decide +kernel
theorem d1_156 : decode prog_78_method_1_code 156 = .ok (.iaload, 1) := by decide +kernel
theorem d1_157 : decode prog_78_method_1_code 157 = .ok (.istore 8, 2) := by decide +kernel
theorem d1_159 : decode prog_78_method_1_code 159 = .ok (.aload_n 1, 1) := by decide +kernel
theorem d1_160 : decode prog_78_method_1_code 160 = .ok (.iload 8, 2) := by decide +kernel
theorem pd_2 : parseMethodDescriptor "([II)I" = some ⟨[(.array .int), .int], some .int⟩ := by decide +kernel
theorem d1_162 : decode prog_78_method_1_code 162 = .ok (.invokestatic 34, 3) := by decide +kernel
theorem d1_165 : decode prog_78_method_1_code 165 = .ok (.istore 9, 2) := by decide +kernel
theorem d1_167 : decode prog_78_method_1_code 167 = .ok (.iload 9, 2) := by decide +kernel
theorem d1_169 : decode prog_78_method_1_code 169 = .ok (.ifCond .lt 11, 3) := by decide +kernel
theorem d1_172 : decode prog_78_method_1_code 172 = .ok (.aload 4, 2) := by decide +kernel
theorem d1_174 : decode prog_78_method_1_code 174 = .ok (.iload 9, 2) := by decide +kernel
theorem d1_176 : decode prog_78_method_1_code 176 = .ok (.baload, 1) := by decide +kernel
theorem d1_177 : decode prog_78_method_1_code 177 = .ok (.ifCond .eq 26, 3) := by decide +kernel
theorem d1_203 : decode prog_78_method_1_code 203 = .ok (.aload 4, 2) := by decide +kernel
theorem d1_205 : decode prog_78_method_1_code 205 = .ok (.iload 9, 2) := by decide +kernel
theorem d1_207 : decode prog_78_method_1_code 207 = .ok (.iconst 1, 1) := by decide +kernel
theorem d1_208 : decode prog_78_method_1_code 208 = .ok (.bastore, 1) := by decide +kernel
theorem d1_209 : decode prog_78_method_1_code 209 = .ok (.iinc 7 1, 3) := by decide +kernel
theorem d1_212 : decode prog_78_method_1_code 212 = .ok (.goto (-67), 3) := by decide +kernel
theorem pn_2 : plainName "com/example/greenbelt/greenbelt/model/Token" = true := by first | (simp [plainName, overriddenIn]; done) | decide +kernel
theorem ef_1 (m : MethodId) (x0 : Addr) (x1 : Addr) (x2 : Addr) (x3 : Addr) : entryFrame m #[(.ref x0), (.ref x1), (.ref x2), (.ref x3)] 10 = mkF m 0 #[.val (.ref x0), .val (.ref x1), .val (.ref x2), .val (.ref x3), .unset, .unset, .unset, .unset, .unset, .unset] [] := by first | (simp [entryFrame, mkF, argsToLocals, Value.category]; done) | rfl
def Q1 (Z : State) (a : Addr) (bm_ : Addr) (bg_ : Addr) (bq_ : Addr) (km_ : ClassId) (kg_ : ClassId) (kq_ : ClassId) (m0 : Int32) (m1 : Int32) (m2 : Int32) (kn_ : Nat) (es_ : List Nat) (h0 : Heap) (n0 : Nat) (v : Option Value) (h : Heap) (L : List Loc) : Prop := ∃ cq_ : Addr, v = none ∧ Fr n0 L ∧ Keep h0 h [a] ∧ h0.size ≤ cq_ ∧ Exa Z h a "com/example/greenbelt/greenbelt/model/Token" ∧ Fld Z h a "com/example/greenbelt/greenbelt/model/Token" "queue" "[I" (.ref cq_) ∧ Arv Z h cq_ kq_ .int (Nat.toInt32 kn_) ((es_.map (own_m m0 m1 m2)).map Value.int) (.int (0 : Int32))
set_option maxRecDepth 65536 in
set_option maxHeartbeats 40000000 in
theorem rm1 (l : Launch) (Z : State) (a0 : Array Value) (hw : ∀ d ∈ tables_1, d.before a0 Z = true) (ws : List Jvm.Cond) (a : Addr) (bm_ : Addr) (bg_ : Addr) (bq_ : Addr) (km_ : ClassId) (kg_ : ClassId) (kq_ : ClassId) (m0 : Int32) (m1 : Int32) (m2 : Int32) (kn_ : Nat) (es_ : List Nat) (h0 : Heap) (n0 : Nat) (Z0 : n0 ≤ h0.size) (E_a : Exa Z h0 a "com/example/greenbelt/greenbelt/model/Token") (F_members_a : Fld Z h0 a "com/example/greenbelt/greenbelt/model/Token" "members" "[I" .null) (F_granted_a : Fld Z h0 a "com/example/greenbelt/greenbelt/model/Token" "granted" "[J" .null) (F_queue_a : Fld Z h0 a "com/example/greenbelt/greenbelt/model/Token" "queue" "[I" .null) (V_bm_ : Arv Z h0 bm_ km_ .int (3 : Int32) [(.int m0), (.int m1), (.int m2)] (.int (0 : Int32))) (E_bm_ : Exa Z h0 bm_ "[I") (V_bg_ : Arv Z h0 bg_ kg_ .long (3 : Int32) [(.long (0 : Int64)), (.long (0 : Int64)), (.long (0 : Int64))] (.long (0 : Int64))) (E_bg_ : Exa Z h0 bg_ "[J") (V_bq_ : Arv Z h0 bq_ kq_ .int (Nat.toInt32 kn_) ((es_.map (own_m m0 m1 m2)).map Value.int) (.int (0 : Int32))) (E_bq_ : Exa Z h0 bq_ "[I") (g_a : n0 ≤ a) (hp11 : ¬ m0 < (1 : Int32)) (hp12 : m0 < m1) (hp13 : m1 < m2) (hp14 : es_.length = kn_) (hp15 : kn_ ≤ 3) (hp16 : ∀ j, es_.getD j 0 < 3) (hp17 : ∀ i j, i < j → j < kn_ → es_.getD j 0 ≠ es_.getD i 0) :
    MetFree l (⟨"com/example/greenbelt/greenbelt/model/Token", "<init>", "([I[J[I)V"⟩ : MethodName) (head1 (Jvm.Cond.code (⟨"com/example/greenbelt/greenbelt/model/Token", "<init>", "([I[J[I)V"⟩ : MethodName) prog_78_method_1_code 10 none :: ws) ({ frames := 2, cells := 4, slots := 12, locals := 32 } : Room)) (fun q_ U => q_ = #[(.ref a), (.ref bm_), (.ref bg_), (.ref bq_)] ∧ Z.Warmed39 U.vm ∧ U.heap = h0) (fun _ _ _ _ _ => True) (fun _ U o U' => ∃ v L, o = .returned v ∧ Q1 Z a bm_ bg_ bq_ km_ kg_ kq_ m0 m1 m2 kn_ es_ h0 n0 v U'.heap L ∧ FrameEnd U o U' L ({ frames := 2, cells := 4, slots := 12, locals := 32 } : Room).cells ({ frames := 2, cells := 4, slots := 12, locals := 32 } : Room).slots) := by
  refine MetFree.of_bodySF (plainFor_of_name pn_2) hisR ?_
  intro p e s m args below meth c s₁ Bd hml0 hP hK
  obtain ⟨rfl, hZ, hh⟩ := hP
  have hx := Bd.exec
  have hby := Bd.bytes
  have hml : c.maxLocals = 10 := hml0
  have hown : s.vm.findClass "com/example/greenbelt/greenbelt/model/Token" = some m.cls := findClass_of_methodNamed Bd.named
  have hnm := (name_of_methodNamed Bd.named Bd.method).1
  have X0 : Stand p l e ({ frames := 2, cells := 4, slots := 12, locals := 32 } : Room) s m #[(.ref a), (.ref bm_), (.ref bg_), (.ref bq_)] below meth c s₁ [] 0 0 := Stand.of_body Bd
  have e0 : s₁.heap = h0 := by rw [← hh, Bd.state]; rfl
  have N0 := Fr.nil n0
  show own_Go p e below s (Q1 Z a bm_ bg_ bq_ km_ kg_ kq_ m0 m1 m2 kn_ es_ h0 n0) ({ frames := 2, cells := 4, slots := 12, locals := 32 } : Room).cells ({ frames := 2, cells := 4, slots := 12, locals := 32 } : Room).slots (s₁.setTop (entryFrame m #[(.ref a), (.ref bm_), (.ref bg_), (.ref bq_)] 10))
  refine own_via (fun t k => castTop (ef_1 m a bm_ bg_ bq_) k) ?_
  have K0 : Keep h0 h0 [a] := Keep.refl _ _
  show own_Go p e below s _ _ _ (s₁.setTop (mkF m 0 #[.val (.ref a), .val (.ref bm_), .val (.ref bg_), .val (.ref bq_), .unset, .unset, .unset, .unset, .unset, .unset] []))
  refine own_via (fun _ k => XS.aloadN X0.here hx rfl (hb hby d1_0) rfl rfl k) ?_
  show own_Go p e below s _ _ _ (s₁.setTop (mkF m 1 #[.val (.ref a), .val (.ref bm_), .val (.ref bg_), .val (.ref bq_), .unset, .unset, .unset, .unset, .unset, .unset] [(.ref a)]))
  obtain ⟨_, _, ⟨T1, L1, k1, n1⟩, -, X1, ⟨Lc1, hQ1, l1, y1, z1⟩, st1⟩ := X0.specialBack hx (y := (⟨"java/lang/Record", "<init>", "()V"⟩ : MethodName)) rfl hown (mvT hZ (hw _ (List.mem_of_getElem? (i := 9) rfl))) (mvT hZ (hw _ (List.mem_of_getElem? (i := 10) rfl))) (mvT hZ (hw _ (List.mem_of_getElem? (i := 13) rfl))) (by decide) (backOf (W := 0) (rm2 l Z a0 hw [] a h0 n0 Z0 ) hZ (hw _ (List.mem_of_getElem? (i := 13) rfl)) (hw _ (List.mem_of_getElem? (i := 12) rfl)) (by decide) (by decide)) (g := (mkF m 1 #[.val (.ref a), .val (.ref bm_), .val (.ref bg_), .val (.ref bq_), .unset, .unset, .unset, .unset, .unset, .unset] [(.ref a)])) rfl (by rw [hml]; rfl) (Steps.refl _) (a := a) (argsL := []) (rest := []) (lenOf pd_1 rfl) rfl (by show 2 * 0 + _ ≤ _; exact Nat.le_of_eq rfl) (hb hby d1_1) (fun _ _ => ⟨rfl, e0, (by decide : 0 + 0 ≤ _), (by decide : 0 + 0 ≤ _)⟩)
  dsimp only [Pt.U, Pt.locs, Pt.cells, Pt.slots] at X1 l1 y1 z1 st1 hQ1
  subst l1 y1 z1
  obtain ⟨rfl, N1q, e1⟩ := hQ1
  have N1 := Fr.app N0 N1q
  refine own_viaT st1 ?_
  show own_Go p e below s _ _ _ (T1.setTop (mkF m 4 #[.val (.ref a), .val (.ref bm_), .val (.ref bg_), .val (.ref bq_), .unset, .unset, .unset, .unset, .unset, .unset] []))
  refine own_via (fun _ k => XS.aloadN X1.here hx rfl (hb hby d1_4) rfl rfl k) ?_
  show own_Go p e below s _ _ _ (T1.setTop (mkF m 5 #[.val (.ref a), .val (.ref bm_), .val (.ref bg_), .val (.ref bq_), .unset, .unset, .unset, .unset, .unset, .unset] [(.ref bm_)]))
  obtain ⟨T2, h2, X2, e2, E2, A2, AE2, st2⟩ := cloneH X1 hx hZ hown (hw _ (List.mem_of_getElem? (i := 17) rfl)) (hw _ (List.mem_of_getElem? (i := 18) rfl)) (hw _ (List.mem_of_getElem? (i := 22) rfl)) (hw _ (List.mem_of_getElem? (i := 20) rfl)) (hw _ (List.mem_of_getElem? (i := 21) rfl)) (hw _ (List.mem_of_getElem? (i := 23) rfl)) e1 V_bm_.arh E_bm_ (g := (mkF m 5 #[.val (.ref a), .val (.ref bm_), .val (.ref bg_), .val (.ref bq_), .unset, .unset, .unset, .unset, .unset, .unset] [(.ref bm_)])) rfl (by rw [hml]; rfl) rfl (hb hby d1_5) (by decide) (W := 0) (cap := 3) (by show 2 * 0 + _ ≤ _; exact Nat.le_of_eq rfl) (by decide) (by decide) (by decide) (by decide)
  obtain ⟨b2, gg2⟩ : ∃ z, z = h0.size := ⟨_, rfl⟩
  rw [← gg2] at A2 AE2 st2
  have ne_a_b2 : a ≠ b2 := Nat.ne_of_lt (Nat.lt_of_lt_of_le E_a.lt (Nat.le_of_eq gg2.symm))
  have ne_bg__b2 : bg_ ≠ b2 := Nat.ne_of_lt (Nat.lt_of_lt_of_le E_bg_.lt (Nat.le_of_eq gg2.symm))
  have ne_bm__b2 : bm_ ≠ b2 := Nat.ne_of_lt (Nat.lt_of_lt_of_le E_bm_.lt (Nat.le_of_eq gg2.symm))
  have ne_bq__b2 : bq_ ≠ b2 := Nat.ne_of_lt (Nat.lt_of_lt_of_le E_bq_.lt (Nat.le_of_eq gg2.symm))
  have g_b2 : n0 ≤ b2 := Nat.le_trans Z0 (Nat.le_of_eq gg2.symm)
  have sz_b2 : h0.size ≤ b2 := Nat.le_trans K0.1 (Nat.le_of_eq gg2.symm)
  have Z2 : n0 ≤ h2.size := Nat.le_trans Z0 E2.1
  have K2 : Keep h0 h2 [a] := K0.ext E2
  have V2 : Arv Z h2 b2 km_ .int (3 : Int32) [(.int m0), (.int m1), (.int m2)] (.int (0 : Int32)) := A2
  refine own_via st2 ?_
  show own_Go p e below s _ _ _ (T2.setTop (mkF m 8 #[.val (.ref a), .val (.ref bm_), .val (.ref bg_), .val (.ref bq_), .unset, .unset, .unset, .unset, .unset, .unset] [(.ref b2)]))
  obtain ⟨T3, X3, e3, st3⟩ := castY X2 hx hZ hown (hw _ (List.mem_of_getElem? (i := 24) rfl)) e2 (Ins.self AE2) (g := (mkF m 8 #[.val (.ref a), .val (.ref bm_), .val (.ref bg_), .val (.ref bq_), .unset, .unset, .unset, .unset, .unset, .unset] [(.ref b2)])) rfl rfl (hb hby d1_8)
  refine own_via st3 ?_
  show own_Go p e below s _ _ _ (T3.setTop (mkF m 11 #[.val (.ref a), .val (.ref bm_), .val (.ref bg_), .val (.ref bq_), .unset, .unset, .unset, .unset, .unset, .unset] [(.ref b2)]))
  refine own_via (fun _ k => XS.astoreN X3.here hx rfl (hb hby d1_11) rfl rfl (l' := #[.val (.ref a), .val (.ref b2), .val (.ref bg_), .val (.ref bq_), .unset, .unset, .unset, .unset, .unset, .unset]) rfl k) ?_
  show own_Go p e below s _ _ _ (T3.setTop (mkF m 12 #[.val (.ref a), .val (.ref b2), .val (.ref bg_), .val (.ref bq_), .unset, .unset, .unset, .unset, .unset, .unset] []))
  refine own_via (fun _ k => XS.aloadN X3.here hx rfl (hb hby d1_12) rfl rfl k) ?_
  show own_Go p e below s _ _ _ (T3.setTop (mkF m 13 #[.val (.ref a), .val (.ref b2), .val (.ref bg_), .val (.ref bq_), .unset, .unset, .unset, .unset, .unset, .unset] [(.ref bg_)]))
  have F5 := (V_bg_.ext E2)
  have F6 := (E_bg_.ext E2)
  obtain ⟨T4, h4, X4, e4, E4, A4, AE4, st4⟩ := cloneH X3 hx hZ hown (hw _ (List.mem_of_getElem? (i := 26) rfl)) (hw _ (List.mem_of_getElem? (i := 27) rfl)) (hw _ (List.mem_of_getElem? (i := 22) rfl)) (hw _ (List.mem_of_getElem? (i := 20) rfl)) (hw _ (List.mem_of_getElem? (i := 28) rfl)) (hw _ (List.mem_of_getElem? (i := 29) rfl)) e3 F5.arh F6 (g := (mkF m 13 #[.val (.ref a), .val (.ref b2), .val (.ref bg_), .val (.ref bq_), .unset, .unset, .unset, .unset, .unset, .unset] [(.ref bg_)])) rfl (by rw [hml]; rfl) rfl (hb hby d1_13) (by decide) (W := 0) (cap := 3) (by show 2 * 0 + _ ≤ _; exact Nat.le_of_eq rfl) (by decide) (by decide) (by decide) (by decide)
  obtain ⟨b4, gg4⟩ : ∃ z, z = h2.size := ⟨_, rfl⟩
  rw [← gg4] at A4 AE4 st4
  have ne_a_b4 : a ≠ b4 := Nat.ne_of_lt (Nat.lt_of_lt_of_le (E_a.ext E2).lt (Nat.le_of_eq gg4.symm))
  have ne_b2_b4 : b2 ≠ b4 := Nat.ne_of_lt (Nat.lt_of_lt_of_le AE2.lt (Nat.le_of_eq gg4.symm))
  have ne_bg__b4 : bg_ ≠ b4 := Nat.ne_of_lt (Nat.lt_of_lt_of_le F6.lt (Nat.le_of_eq gg4.symm))
  have ne_bm__b4 : bm_ ≠ b4 := Nat.ne_of_lt (Nat.lt_of_lt_of_le (E_bm_.ext E2).lt (Nat.le_of_eq gg4.symm))
  have ne_bq__b4 : bq_ ≠ b4 := Nat.ne_of_lt (Nat.lt_of_lt_of_le (E_bq_.ext E2).lt (Nat.le_of_eq gg4.symm))
  have g_b4 : n0 ≤ b4 := Nat.le_trans Z2 (Nat.le_of_eq gg4.symm)
  have sz_b4 : h0.size ≤ b4 := Nat.le_trans K2.1 (Nat.le_of_eq gg4.symm)
  have Z4 : n0 ≤ h4.size := Nat.le_trans Z2 E4.1
  have K4 : Keep h0 h4 [a] := K2.ext E4
  have V4 : Arv Z h4 b4 kg_ .long (3 : Int32) [(.long (0 : Int64)), (.long (0 : Int64)), (.long (0 : Int64))] (.long (0 : Int64)) := A4
  refine own_via st4 ?_
  show own_Go p e below s _ _ _ (T4.setTop (mkF m 16 #[.val (.ref a), .val (.ref b2), .val (.ref bg_), .val (.ref bq_), .unset, .unset, .unset, .unset, .unset, .unset] [(.ref b4)]))
  obtain ⟨T7, X7, e7, st7⟩ := castY X4 hx hZ hown (hw _ (List.mem_of_getElem? (i := 30) rfl)) e4 (Ins.self AE4) (g := (mkF m 16 #[.val (.ref a), .val (.ref b2), .val (.ref bg_), .val (.ref bq_), .unset, .unset, .unset, .unset, .unset, .unset] [(.ref b4)])) rfl rfl (hb hby d1_16)
  refine own_via st7 ?_
  show own_Go p e below s _ _ _ (T7.setTop (mkF m 19 #[.val (.ref a), .val (.ref b2), .val (.ref bg_), .val (.ref bq_), .unset, .unset, .unset, .unset, .unset, .unset] [(.ref b4)]))
  refine own_via (fun _ k => XS.astoreN X7.here hx rfl (hb hby d1_19) rfl rfl (l' := #[.val (.ref a), .val (.ref b2), .val (.ref b4), .val (.ref bq_), .unset, .unset, .unset, .unset, .unset, .unset]) rfl k) ?_
  show own_Go p e below s _ _ _ (T7.setTop (mkF m 20 #[.val (.ref a), .val (.ref b2), .val (.ref b4), .val (.ref bq_), .unset, .unset, .unset, .unset, .unset, .unset] []))
  refine own_via (fun _ k => XS.aloadN X7.here hx rfl (hb hby d1_20) rfl rfl k) ?_
  show own_Go p e below s _ _ _ (T7.setTop (mkF m 21 #[.val (.ref a), .val (.ref b2), .val (.ref b4), .val (.ref bq_), .unset, .unset, .unset, .unset, .unset, .unset] [(.ref bq_)]))
  have F9 := ((V_bq_.ext E2).ext E4)
  have F10 := ((E_bq_.ext E2).ext E4)
  obtain ⟨T8, h8, X8, e8, E8, A8, AE8, st8⟩ := cloneH X7 hx hZ hown (hw _ (List.mem_of_getElem? (i := 17) rfl)) (hw _ (List.mem_of_getElem? (i := 18) rfl)) (hw _ (List.mem_of_getElem? (i := 22) rfl)) (hw _ (List.mem_of_getElem? (i := 20) rfl)) (hw _ (List.mem_of_getElem? (i := 21) rfl)) (hw _ (List.mem_of_getElem? (i := 23) rfl)) e7 F9.arh F10 (g := (mkF m 21 #[.val (.ref a), .val (.ref b2), .val (.ref b4), .val (.ref bq_), .unset, .unset, .unset, .unset, .unset, .unset] [(.ref bq_)])) rfl (by rw [hml]; rfl) rfl (hb hby d1_21) (by decide) (W := 0) (cap := 3) (by show 2 * 0 + _ ≤ _; exact Nat.le_of_eq rfl) (by decide) (by rw [own_nc (by omega)]; omega) (by decide) (by decide)
  obtain ⟨b8, gg8⟩ : ∃ z, z = h4.size := ⟨_, rfl⟩
  rw [← gg8] at A8 AE8 st8
  have ne_a_b8 : a ≠ b8 := Nat.ne_of_lt (Nat.lt_of_lt_of_le ((E_a.ext E2).ext E4).lt (Nat.le_of_eq gg8.symm))
  have ne_b2_b8 : b2 ≠ b8 := Nat.ne_of_lt (Nat.lt_of_lt_of_le (AE2.ext E4).lt (Nat.le_of_eq gg8.symm))
  have ne_b4_b8 : b4 ≠ b8 := Nat.ne_of_lt (Nat.lt_of_lt_of_le AE4.lt (Nat.le_of_eq gg8.symm))
  have ne_bg__b8 : bg_ ≠ b8 := Nat.ne_of_lt (Nat.lt_of_lt_of_le (F6.ext E4).lt (Nat.le_of_eq gg8.symm))
  have ne_bm__b8 : bm_ ≠ b8 := Nat.ne_of_lt (Nat.lt_of_lt_of_le ((E_bm_.ext E2).ext E4).lt (Nat.le_of_eq gg8.symm))
  have ne_bq__b8 : bq_ ≠ b8 := Nat.ne_of_lt (Nat.lt_of_lt_of_le F10.lt (Nat.le_of_eq gg8.symm))
  have g_b8 : n0 ≤ b8 := Nat.le_trans Z4 (Nat.le_of_eq gg8.symm)
  have sz_b8 : h0.size ≤ b8 := Nat.le_trans K4.1 (Nat.le_of_eq gg8.symm)
  have Z8 : n0 ≤ h8.size := Nat.le_trans Z4 E8.1
  have K8 : Keep h0 h8 [a] := K4.ext E8
  have V8 : Arv Z h8 b8 kq_ .int (Nat.toInt32 kn_) ((es_.map (own_m m0 m1 m2)).map Value.int) (.int (0 : Int32)) := A8
  refine own_via st8 ?_
  show own_Go p e below s _ _ _ (T8.setTop (mkF m 24 #[.val (.ref a), .val (.ref b2), .val (.ref b4), .val (.ref bq_), .unset, .unset, .unset, .unset, .unset, .unset] [(.ref b8)]))
  obtain ⟨T11, X11, e11, st11⟩ := castY X8 hx hZ hown (hw _ (List.mem_of_getElem? (i := 24) rfl)) e8 (Ins.self AE8) (g := (mkF m 24 #[.val (.ref a), .val (.ref b2), .val (.ref b4), .val (.ref bq_), .unset, .unset, .unset, .unset, .unset, .unset] [(.ref b8)])) rfl rfl (hb hby d1_24)
  refine own_via st11 ?_
  show own_Go p e below s _ _ _ (T11.setTop (mkF m 27 #[.val (.ref a), .val (.ref b2), .val (.ref b4), .val (.ref bq_), .unset, .unset, .unset, .unset, .unset, .unset] [(.ref b8)]))
  refine own_via (fun _ k => XS.astoreN X11.here hx rfl (hb hby d1_27) rfl rfl (l' := #[.val (.ref a), .val (.ref b2), .val (.ref b4), .val (.ref b8), .unset, .unset, .unset, .unset, .unset, .unset]) rfl k) ?_
  show own_Go p e below s _ _ _ (T11.setTop (mkF m 28 #[.val (.ref a), .val (.ref b2), .val (.ref b4), .val (.ref b8), .unset, .unset, .unset, .unset, .unset, .unset] []))
  refine own_via (fun _ k => XS.aloadN X11.here hx rfl (hb hby d1_28) rfl rfl k) ?_
  show own_Go p e below s _ _ _ (T11.setTop (mkF m 29 #[.val (.ref a), .val (.ref b2), .val (.ref b4), .val (.ref b8), .unset, .unset, .unset, .unset, .unset, .unset] [(.ref b4)]))
  have F13 := (V4.ext E8)
  obtain ⟨cl12, Ar12, q12, S12, M12, H12, G12⟩ := (id F13)
  refine own_via (fun _ k => X11.arraylength hx (by rw [e11]; exact Ar12.1) (State.isArrayOf_alike hZ.alike Ar12.2.1) (g := (mkF m 29 #[.val (.ref a), .val (.ref b2), .val (.ref b4), .val (.ref b8), .unset, .unset, .unset, .unset, .unset, .unset] [(.ref b4)])) rfl rfl (hb hby d1_29) _ (by rw [len_of S12 M12]; exact k)) ?_
  show own_Go p e below s _ _ _ (T11.setTop (mkF m 30 #[.val (.ref a), .val (.ref b2), .val (.ref b4), .val (.ref b8), .unset, .unset, .unset, .unset, .unset, .unset] [(.int (3 : Int32))]))
  refine own_via (fun _ k => XS.aloadN X11.here hx rfl (hb hby d1_30) rfl rfl k) ?_
  show own_Go p e below s _ _ _ (T11.setTop (mkF m 31 #[.val (.ref a), .val (.ref b2), .val (.ref b4), .val (.ref b8), .unset, .unset, .unset, .unset, .unset, .unset] [(.ref b2), (.int (3 : Int32))]))
  have F15 := ((V2.ext E4).ext E8)
  obtain ⟨cl14, Ar14, q14, S14, M14, H14, G14⟩ := (id F15)
  refine own_via (fun _ k => X11.arraylength hx (by rw [e11]; exact Ar14.1) (State.isArrayOf_alike hZ.alike Ar14.2.1) (g := (mkF m 31 #[.val (.ref a), .val (.ref b2), .val (.ref b4), .val (.ref b8), .unset, .unset, .unset, .unset, .unset, .unset] [(.ref b2), (.int (3 : Int32))])) rfl rfl (hb hby d1_31) _ (by rw [len_of S14 M14]; exact k)) ?_
  show own_Go p e below s _ _ _ (T11.setTop (mkF m 32 #[.val (.ref a), .val (.ref b2), .val (.ref b4), .val (.ref b8), .unset, .unset, .unset, .unset, .unset, .unset] [(.int (3 : Int32)), (.int (3 : Int32))]))
  refine own_via (fun _ k => XS.icmpYes X11.here hx rfl (pc0 := 32) (pc' := 52) rfl (hb hby d1_32) rfl (Jvm.Free.XT.ii_eq_t (by decide)) (by decide) (by decide) k) ?_
  show own_Go p e below s _ _ _ (T11.setTop (mkF m 52 #[.val (.ref a), .val (.ref b2), .val (.ref b4), .val (.ref b8), .unset, .unset, .unset, .unset, .unset, .unset] []))
  refine own_via (fun _ k => XS.iconst X11.here hx rfl (hb hby d1_52) k) ?_
  show own_Go p e below s _ _ _ (T11.setTop (mkF m 53 #[.val (.ref a), .val (.ref b2), .val (.ref b4), .val (.ref b8), .unset, .unset, .unset, .unset, .unset, .unset] [(.int (0 : Int32))]))
  refine own_via (fun _ k => XS.istore X11.here hx rfl (hb hby d1_53) rfl (l' := #[.val (.ref a), .val (.ref b2), .val (.ref b4), .val (.ref b8), .val (.int (0 : Int32)), .unset, .unset, .unset, .unset, .unset]) rfl k) ?_
  show own_Go p e below s _ _ _ (T11.setTop (mkF m 55 #[.val (.ref a), .val (.ref b2), .val (.ref b4), .val (.ref b8), .val (.int (0 : Int32)), .unset, .unset, .unset, .unset, .unset] []))
  refine own_via (fun _ k => XS.iload X11.here hx rfl (hb hby d1_55) rfl k) ?_
  show own_Go p e below s _ _ _ (T11.setTop (mkF m 57 #[.val (.ref a), .val (.ref b2), .val (.ref b4), .val (.ref b8), .val (.int (0 : Int32)), .unset, .unset, .unset, .unset, .unset] [(.int (0 : Int32))]))
  refine own_via (fun _ k => XS.aloadN X11.here hx rfl (hb hby d1_57) rfl rfl k) ?_
  show own_Go p e below s _ _ _ (T11.setTop (mkF m 58 #[.val (.ref a), .val (.ref b2), .val (.ref b4), .val (.ref b8), .val (.int (0 : Int32)), .unset, .unset, .unset, .unset, .unset] [(.ref b2), (.int (0 : Int32))]))
  obtain ⟨cl16, Ar16, q16, S16, M16, H16, G16⟩ := (id F15)
  refine own_via (fun _ k => X11.arraylength hx (by rw [e11]; exact Ar16.1) (State.isArrayOf_alike hZ.alike Ar16.2.1) (g := (mkF m 58 #[.val (.ref a), .val (.ref b2), .val (.ref b4), .val (.ref b8), .val (.int (0 : Int32)), .unset, .unset, .unset, .unset, .unset] [(.ref b2), (.int (0 : Int32))])) rfl rfl (hb hby d1_58) _ (by rw [len_of S16 M16]; exact k)) ?_
  show own_Go p e below s _ _ _ (T11.setTop (mkF m 59 #[.val (.ref a), .val (.ref b2), .val (.ref b4), .val (.ref b8), .val (.int (0 : Int32)), .unset, .unset, .unset, .unset, .unset] [(.int (3 : Int32)), (.int (0 : Int32))]))
  refine own_via (fun _ k => XS.icmpNo X11.here hx rfl (hb hby d1_59) rfl (Jvm.Free.XT.ii_ge_f (by decide)) k) ?_
  show own_Go p e below s _ _ _ (T11.setTop (mkF m 62 #[.val (.ref a), .val (.ref b2), .val (.ref b4), .val (.ref b8), .val (.int (0 : Int32)), .unset, .unset, .unset, .unset, .unset] []))
  refine own_via (fun _ k => XS.aloadN X11.here hx rfl (hb hby d1_62) rfl rfl k) ?_
  show own_Go p e below s _ _ _ (T11.setTop (mkF m 63 #[.val (.ref a), .val (.ref b2), .val (.ref b4), .val (.ref b8), .val (.int (0 : Int32)), .unset, .unset, .unset, .unset, .unset] [(.ref b2)]))
  refine own_via (fun _ k => XS.iload X11.here hx rfl (hb hby d1_63) rfl k) ?_
  show own_Go p e below s _ _ _ (T11.setTop (mkF m 65 #[.val (.ref a), .val (.ref b2), .val (.ref b4), .val (.ref b8), .val (.int (0 : Int32)), .unset, .unset, .unset, .unset, .unset] [(.int (0 : Int32)), (.ref b2)]))
  obtain ⟨cl17, Ar17, q17, S17, M17, H17, G17⟩ := (id F15)
  have hin17 : ¬ ((0 : Int32) < 0 ∨ cl17.slots.size ≤ ((0 : Int32)).toNatClampNeg) := inb_of S17 ⟨by decide, by decide⟩
  have hat17 : cl17.slots[((0 : Int32)).toNatClampNeg]? = some (.int m0) := Has.at H17 hin17 rfl
  refine own_via (fun _ k => X11.iaload hx (j := (0 : Int32)) (v := (.int m0)) (by rw [e11]; exact Ar17.1) (State.isArrayOf_alike hZ.alike Ar17.2.1) Ar17.2.2 hin17 hat17 (g := (mkF m 65 #[.val (.ref a), .val (.ref b2), .val (.ref b4), .val (.ref b8), .val (.int (0 : Int32)), .unset, .unset, .unset, .unset, .unset] [(.int (0 : Int32)), (.ref b2)])) rfl rfl (hb hby d1_65) _ k) ?_
  show own_Go p e below s _ _ _ (T11.setTop (mkF m 66 #[.val (.ref a), .val (.ref b2), .val (.ref b4), .val (.ref b8), .val (.int (0 : Int32)), .unset, .unset, .unset, .unset, .unset] [(.int m0)]))
  refine own_via (fun _ k => XS.iconst X11.here hx rfl (hb hby d1_66) k) ?_
  show own_Go p e below s _ _ _ (T11.setTop (mkF m 67 #[.val (.ref a), .val (.ref b2), .val (.ref b4), .val (.ref b8), .val (.int (0 : Int32)), .unset, .unset, .unset, .unset, .unset] [(.int (1 : Int32)), (.int m0)]))
  have hc18 : ¬ (m0 < (1 : Int32)) := hp11
  refine own_via (fun _ k => XS.icmpNo X11.here hx rfl (hb hby d1_67) rfl (Jvm.Free.XT.ii_lt_f hc18) k) ?_
  show own_Go p e below s _ _ _ (T11.setTop (mkF m 70 #[.val (.ref a), .val (.ref b2), .val (.ref b4), .val (.ref b8), .val (.int (0 : Int32)), .unset, .unset, .unset, .unset, .unset] []))
  refine own_via (fun _ k => XS.aloadN X11.here hx rfl (hb hby d1_70) rfl rfl k) ?_
  show own_Go p e below s _ _ _ (T11.setTop (mkF m 71 #[.val (.ref a), .val (.ref b2), .val (.ref b4), .val (.ref b8), .val (.int (0 : Int32)), .unset, .unset, .unset, .unset, .unset] [(.ref b4)]))
  refine own_via (fun _ k => XS.iload X11.here hx rfl (hb hby d1_71) rfl k) ?_
  show own_Go p e below s _ _ _ (T11.setTop (mkF m 73 #[.val (.ref a), .val (.ref b2), .val (.ref b4), .val (.ref b8), .val (.int (0 : Int32)), .unset, .unset, .unset, .unset, .unset] [(.int (0 : Int32)), (.ref b4)]))
  obtain ⟨cl19, Ar19, q19, S19, M19, H19, G19⟩ := (id F13)
  have hin19 : ¬ ((0 : Int32) < 0 ∨ cl19.slots.size ≤ ((0 : Int32)).toNatClampNeg) := inb_of S19 ⟨by decide, by decide⟩
  have hat19 : cl19.slots[((0 : Int32)).toNatClampNeg]? = some (.long (0 : Int64)) := Has.at H19 hin19 rfl
  refine own_via (fun _ k => X11.laload hx (j := (0 : Int32)) (v := (.long (0 : Int64))) (by rw [e11]; exact Ar19.1) (State.isArrayOf_alike hZ.alike Ar19.2.1) Ar19.2.2 hin19 hat19 (g := (mkF m 73 #[.val (.ref a), .val (.ref b2), .val (.ref b4), .val (.ref b8), .val (.int (0 : Int32)), .unset, .unset, .unset, .unset, .unset] [(.int (0 : Int32)), (.ref b4)])) rfl rfl (hb hby d1_73) _ k) ?_
  show own_Go p e below s _ _ _ (T11.setTop (mkF m 74 #[.val (.ref a), .val (.ref b2), .val (.ref b4), .val (.ref b8), .val (.int (0 : Int32)), .unset, .unset, .unset, .unset, .unset] [(.long (0 : Int64))]))
  refine own_via (fun _ k => XS.lconst X11.here hx rfl (hb hby d1_74) k) ?_
  show own_Go p e below s _ _ _ (T11.setTop (mkF m 75 #[.val (.ref a), .val (.ref b2), .val (.ref b4), .val (.ref b8), .val (.int (0 : Int32)), .unset, .unset, .unset, .unset, .unset] [(.long (0 : Int64)), (.long (0 : Int64))]))
  refine own_via (fun _ k => XS.lcmp X11.here hx rfl (hb hby d1_75) rfl k) ?_
  show own_Go p e below s _ _ _ (T11.setTop (mkF m 76 #[.val (.ref a), .val (.ref b2), .val (.ref b4), .val (.ref b8), .val (.int (0 : Int32)), .unset, .unset, .unset, .unset, .unset] [(.int (lcmpW (0 : Int64) (0 : Int64)))]))
  refine own_via (fun _ k => XS.ifNo X11.here hx rfl (hb hby d1_76) rfl (Jvm.Free.XT.ll_lt_f (by decide)) k) ?_
  show own_Go p e below s _ _ _ (T11.setTop (mkF m 79 #[.val (.ref a), .val (.ref b2), .val (.ref b4), .val (.ref b8), .val (.int (0 : Int32)), .unset, .unset, .unset, .unset, .unset] []))
  refine own_via (fun _ k => XS.iload X11.here hx rfl (hb hby d1_79) rfl k) ?_
  show own_Go p e below s _ _ _ (T11.setTop (mkF m 81 #[.val (.ref a), .val (.ref b2), .val (.ref b4), .val (.ref b8), .val (.int (0 : Int32)), .unset, .unset, .unset, .unset, .unset] [(.int (0 : Int32))]))
  refine own_via (fun _ k => XS.ifYes X11.here hx rfl (pc0 := 81) (pc' := 122) rfl (hb hby d1_81) rfl (Jvm.Free.XT.i0_le_t (by decide)) (by decide) (by decide) k) ?_
  show own_Go p e below s _ _ _ (T11.setTop (mkF m 122 #[.val (.ref a), .val (.ref b2), .val (.ref b4), .val (.ref b8), .val (.int (0 : Int32)), .unset, .unset, .unset, .unset, .unset] []))
  refine own_via (fun _ k => XS.iinc X11.here hx rfl (hb hby d1_122) rfl (l' := #[.val (.ref a), .val (.ref b2), .val (.ref b4), .val (.ref b8), .val (.int (1 : Int32)), .unset, .unset, .unset, .unset, .unset]) rfl k) ?_
  show own_Go p e below s _ _ _ (T11.setTop (mkF m 125 #[.val (.ref a), .val (.ref b2), .val (.ref b4), .val (.ref b8), .val (.int (1 : Int32)), .unset, .unset, .unset, .unset, .unset] []))
  refine own_via (fun _ k => XS.goto X11.here hx rfl (pc0 := 125) (pc' := 55) rfl (hb hby d1_125) (by decide) (by decide) k) ?_
  show own_Go p e below s _ _ _ (T11.setTop (mkF m 55 #[.val (.ref a), .val (.ref b2), .val (.ref b4), .val (.ref b8), .val (.int (1 : Int32)), .unset, .unset, .unset, .unset, .unset] []))
  refine own_via (fun _ k => XS.iload X11.here hx rfl (hb hby d1_55) rfl k) ?_
  show own_Go p e below s _ _ _ (T11.setTop (mkF m 57 #[.val (.ref a), .val (.ref b2), .val (.ref b4), .val (.ref b8), .val (.int (1 : Int32)), .unset, .unset, .unset, .unset, .unset] [(.int (1 : Int32))]))
  refine own_via (fun _ k => XS.aloadN X11.here hx rfl (hb hby d1_57) rfl rfl k) ?_
  show own_Go p e below s _ _ _ (T11.setTop (mkF m 58 #[.val (.ref a), .val (.ref b2), .val (.ref b4), .val (.ref b8), .val (.int (1 : Int32)), .unset, .unset, .unset, .unset, .unset] [(.ref b2), (.int (1 : Int32))]))
  obtain ⟨cl20, Ar20, q20, S20, M20, H20, G20⟩ := (id F15)
  refine own_via (fun _ k => X11.arraylength hx (by rw [e11]; exact Ar20.1) (State.isArrayOf_alike hZ.alike Ar20.2.1) (g := (mkF m 58 #[.val (.ref a), .val (.ref b2), .val (.ref b4), .val (.ref b8), .val (.int (1 : Int32)), .unset, .unset, .unset, .unset, .unset] [(.ref b2), (.int (1 : Int32))])) rfl rfl (hb hby d1_58) _ (by rw [len_of S20 M20]; exact k)) ?_
  show own_Go p e below s _ _ _ (T11.setTop (mkF m 59 #[.val (.ref a), .val (.ref b2), .val (.ref b4), .val (.ref b8), .val (.int (1 : Int32)), .unset, .unset, .unset, .unset, .unset] [(.int (3 : Int32)), (.int (1 : Int32))]))
  refine own_via (fun _ k => XS.icmpNo X11.here hx rfl (hb hby d1_59) rfl (Jvm.Free.XT.ii_ge_f (by decide)) k) ?_
  show own_Go p e below s _ _ _ (T11.setTop (mkF m 62 #[.val (.ref a), .val (.ref b2), .val (.ref b4), .val (.ref b8), .val (.int (1 : Int32)), .unset, .unset, .unset, .unset, .unset] []))
  refine own_via (fun _ k => XS.aloadN X11.here hx rfl (hb hby d1_62) rfl rfl k) ?_
  show own_Go p e below s _ _ _ (T11.setTop (mkF m 63 #[.val (.ref a), .val (.ref b2), .val (.ref b4), .val (.ref b8), .val (.int (1 : Int32)), .unset, .unset, .unset, .unset, .unset] [(.ref b2)]))
  refine own_via (fun _ k => XS.iload X11.here hx rfl (hb hby d1_63) rfl k) ?_
  show own_Go p e below s _ _ _ (T11.setTop (mkF m 65 #[.val (.ref a), .val (.ref b2), .val (.ref b4), .val (.ref b8), .val (.int (1 : Int32)), .unset, .unset, .unset, .unset, .unset] [(.int (1 : Int32)), (.ref b2)]))
  obtain ⟨cl21, Ar21, q21, S21, M21, H21, G21⟩ := (id F15)
  have hin21 : ¬ ((1 : Int32) < 0 ∨ cl21.slots.size ≤ ((1 : Int32)).toNatClampNeg) := inb_of S21 ⟨by decide, by decide⟩
  have hat21 : cl21.slots[((1 : Int32)).toNatClampNeg]? = some (.int m1) := Has.at H21 hin21 rfl
  refine own_via (fun _ k => X11.iaload hx (j := (1 : Int32)) (v := (.int m1)) (by rw [e11]; exact Ar21.1) (State.isArrayOf_alike hZ.alike Ar21.2.1) Ar21.2.2 hin21 hat21 (g := (mkF m 65 #[.val (.ref a), .val (.ref b2), .val (.ref b4), .val (.ref b8), .val (.int (1 : Int32)), .unset, .unset, .unset, .unset, .unset] [(.int (1 : Int32)), (.ref b2)])) rfl rfl (hb hby d1_65) _ k) ?_
  show own_Go p e below s _ _ _ (T11.setTop (mkF m 66 #[.val (.ref a), .val (.ref b2), .val (.ref b4), .val (.ref b8), .val (.int (1 : Int32)), .unset, .unset, .unset, .unset, .unset] [(.int m1)]))
  refine own_via (fun _ k => XS.iconst X11.here hx rfl (hb hby d1_66) k) ?_
  show own_Go p e below s _ _ _ (T11.setTop (mkF m 67 #[.val (.ref a), .val (.ref b2), .val (.ref b4), .val (.ref b8), .val (.int (1 : Int32)), .unset, .unset, .unset, .unset, .unset] [(.int (1 : Int32)), (.int m1)]))
  have hc22 : ¬ (m1 < (1 : Int32)) := own_lt1 hp11 hp12
  refine own_via (fun _ k => XS.icmpNo X11.here hx rfl (hb hby d1_67) rfl (Jvm.Free.XT.ii_lt_f hc22) k) ?_
  show own_Go p e below s _ _ _ (T11.setTop (mkF m 70 #[.val (.ref a), .val (.ref b2), .val (.ref b4), .val (.ref b8), .val (.int (1 : Int32)), .unset, .unset, .unset, .unset, .unset] []))
  refine own_via (fun _ k => XS.aloadN X11.here hx rfl (hb hby d1_70) rfl rfl k) ?_
  show own_Go p e below s _ _ _ (T11.setTop (mkF m 71 #[.val (.ref a), .val (.ref b2), .val (.ref b4), .val (.ref b8), .val (.int (1 : Int32)), .unset, .unset, .unset, .unset, .unset] [(.ref b4)]))
  refine own_via (fun _ k => XS.iload X11.here hx rfl (hb hby d1_71) rfl k) ?_
  show own_Go p e below s _ _ _ (T11.setTop (mkF m 73 #[.val (.ref a), .val (.ref b2), .val (.ref b4), .val (.ref b8), .val (.int (1 : Int32)), .unset, .unset, .unset, .unset, .unset] [(.int (1 : Int32)), (.ref b4)]))
  obtain ⟨cl23, Ar23, q23, S23, M23, H23, G23⟩ := (id F13)
  have hin23 : ¬ ((1 : Int32) < 0 ∨ cl23.slots.size ≤ ((1 : Int32)).toNatClampNeg) := inb_of S23 ⟨by decide, by decide⟩
  have hat23 : cl23.slots[((1 : Int32)).toNatClampNeg]? = some (.long (0 : Int64)) := Has.at H23 hin23 rfl
  refine own_via (fun _ k => X11.laload hx (j := (1 : Int32)) (v := (.long (0 : Int64))) (by rw [e11]; exact Ar23.1) (State.isArrayOf_alike hZ.alike Ar23.2.1) Ar23.2.2 hin23 hat23 (g := (mkF m 73 #[.val (.ref a), .val (.ref b2), .val (.ref b4), .val (.ref b8), .val (.int (1 : Int32)), .unset, .unset, .unset, .unset, .unset] [(.int (1 : Int32)), (.ref b4)])) rfl rfl (hb hby d1_73) _ k) ?_
  show own_Go p e below s _ _ _ (T11.setTop (mkF m 74 #[.val (.ref a), .val (.ref b2), .val (.ref b4), .val (.ref b8), .val (.int (1 : Int32)), .unset, .unset, .unset, .unset, .unset] [(.long (0 : Int64))]))
  refine own_via (fun _ k => XS.lconst X11.here hx rfl (hb hby d1_74) k) ?_
  show own_Go p e below s _ _ _ (T11.setTop (mkF m 75 #[.val (.ref a), .val (.ref b2), .val (.ref b4), .val (.ref b8), .val (.int (1 : Int32)), .unset, .unset, .unset, .unset, .unset] [(.long (0 : Int64)), (.long (0 : Int64))]))
  refine own_via (fun _ k => XS.lcmp X11.here hx rfl (hb hby d1_75) rfl k) ?_
  show own_Go p e below s _ _ _ (T11.setTop (mkF m 76 #[.val (.ref a), .val (.ref b2), .val (.ref b4), .val (.ref b8), .val (.int (1 : Int32)), .unset, .unset, .unset, .unset, .unset] [(.int (lcmpW (0 : Int64) (0 : Int64)))]))
  refine own_via (fun _ k => XS.ifNo X11.here hx rfl (hb hby d1_76) rfl (Jvm.Free.XT.ll_lt_f (by decide)) k) ?_
  show own_Go p e below s _ _ _ (T11.setTop (mkF m 79 #[.val (.ref a), .val (.ref b2), .val (.ref b4), .val (.ref b8), .val (.int (1 : Int32)), .unset, .unset, .unset, .unset, .unset] []))
  refine own_via (fun _ k => XS.iload X11.here hx rfl (hb hby d1_79) rfl k) ?_
  show own_Go p e below s _ _ _ (T11.setTop (mkF m 81 #[.val (.ref a), .val (.ref b2), .val (.ref b4), .val (.ref b8), .val (.int (1 : Int32)), .unset, .unset, .unset, .unset, .unset] [(.int (1 : Int32))]))
  refine own_via (fun _ k => XS.ifNo X11.here hx rfl (hb hby d1_81) rfl (Jvm.Free.XT.i0_le_f (by decide)) k) ?_
  show own_Go p e below s _ _ _ (T11.setTop (mkF m 84 #[.val (.ref a), .val (.ref b2), .val (.ref b4), .val (.ref b8), .val (.int (1 : Int32)), .unset, .unset, .unset, .unset, .unset] []))
  refine own_via (fun _ k => XS.aloadN X11.here hx rfl (hb hby d1_84) rfl rfl k) ?_
  show own_Go p e below s _ _ _ (T11.setTop (mkF m 85 #[.val (.ref a), .val (.ref b2), .val (.ref b4), .val (.ref b8), .val (.int (1 : Int32)), .unset, .unset, .unset, .unset, .unset] [(.ref b2)]))
  refine own_via (fun _ k => XS.iload X11.here hx rfl (hb hby d1_85) rfl k) ?_
  show own_Go p e below s _ _ _ (T11.setTop (mkF m 87 #[.val (.ref a), .val (.ref b2), .val (.ref b4), .val (.ref b8), .val (.int (1 : Int32)), .unset, .unset, .unset, .unset, .unset] [(.int (1 : Int32)), (.ref b2)]))
  obtain ⟨cl24, Ar24, q24, S24, M24, H24, G24⟩ := (id F15)
  have hin24 : ¬ ((1 : Int32) < 0 ∨ cl24.slots.size ≤ ((1 : Int32)).toNatClampNeg) := inb_of S24 ⟨by decide, by decide⟩
  have hat24 : cl24.slots[((1 : Int32)).toNatClampNeg]? = some (.int m1) := Has.at H24 hin24 rfl
  refine own_via (fun _ k => X11.iaload hx (j := (1 : Int32)) (v := (.int m1)) (by rw [e11]; exact Ar24.1) (State.isArrayOf_alike hZ.alike Ar24.2.1) Ar24.2.2 hin24 hat24 (g := (mkF m 87 #[.val (.ref a), .val (.ref b2), .val (.ref b4), .val (.ref b8), .val (.int (1 : Int32)), .unset, .unset, .unset, .unset, .unset] [(.int (1 : Int32)), (.ref b2)])) rfl rfl (hb hby d1_87) _ k) ?_
  show own_Go p e below s _ _ _ (T11.setTop (mkF m 88 #[.val (.ref a), .val (.ref b2), .val (.ref b4), .val (.ref b8), .val (.int (1 : Int32)), .unset, .unset, .unset, .unset, .unset] [(.int m1)]))
  refine own_via (fun _ k => XS.aloadN X11.here hx rfl (hb hby d1_88) rfl rfl k) ?_
  show own_Go p e below s _ _ _ (T11.setTop (mkF m 89 #[.val (.ref a), .val (.ref b2), .val (.ref b4), .val (.ref b8), .val (.int (1 : Int32)), .unset, .unset, .unset, .unset, .unset] [(.ref b2), (.int m1)]))
  refine own_via (fun _ k => XS.iload X11.here hx rfl (hb hby d1_89) rfl k) ?_
  show own_Go p e below s _ _ _ (T11.setTop (mkF m 91 #[.val (.ref a), .val (.ref b2), .val (.ref b4), .val (.ref b8), .val (.int (1 : Int32)), .unset, .unset, .unset, .unset, .unset] [(.int (1 : Int32)), (.ref b2), (.int m1)]))
  refine own_via (fun _ k => XS.iconst X11.here hx rfl (hb hby d1_91) k) ?_
  show own_Go p e below s _ _ _ (T11.setTop (mkF m 92 #[.val (.ref a), .val (.ref b2), .val (.ref b4), .val (.ref b8), .val (.int (1 : Int32)), .unset, .unset, .unset, .unset, .unset] [(.int (1 : Int32)), (.int (1 : Int32)), (.ref b2), (.int m1)]))
  refine own_via (fun _ k => XS.isub X11.here hx rfl (hb hby d1_92) rfl k) ?_
  show own_Go p e below s _ _ _ (T11.setTop (mkF m 93 #[.val (.ref a), .val (.ref b2), .val (.ref b4), .val (.ref b8), .val (.int (1 : Int32)), .unset, .unset, .unset, .unset, .unset] [(.int (0 : Int32)), (.ref b2), (.int m1)]))
  obtain ⟨cl25, Ar25, q25, S25, M25, H25, G25⟩ := (id F15)
  have hin25 : ¬ ((0 : Int32) < 0 ∨ cl25.slots.size ≤ ((0 : Int32)).toNatClampNeg) := inb_of S25 ⟨by decide, by decide⟩
  have hat25 : cl25.slots[((0 : Int32)).toNatClampNeg]? = some (.int m0) := Has.at H25 hin25 rfl
  refine own_via (fun _ k => X11.iaload hx (j := (0 : Int32)) (v := (.int m0)) (by rw [e11]; exact Ar25.1) (State.isArrayOf_alike hZ.alike Ar25.2.1) Ar25.2.2 hin25 hat25 (g := (mkF m 93 #[.val (.ref a), .val (.ref b2), .val (.ref b4), .val (.ref b8), .val (.int (1 : Int32)), .unset, .unset, .unset, .unset, .unset] [(.int (0 : Int32)), (.ref b2), (.int m1)])) rfl rfl (hb hby d1_93) _ k) ?_
  show own_Go p e below s _ _ _ (T11.setTop (mkF m 94 #[.val (.ref a), .val (.ref b2), .val (.ref b4), .val (.ref b8), .val (.int (1 : Int32)), .unset, .unset, .unset, .unset, .unset] [(.int m0), (.int m1)]))
  have hc26 : m0 < m1 := hp12
  refine own_via (fun _ k => XS.icmpYes X11.here hx rfl (pc0 := 94) (pc' := 122) rfl (hb hby d1_94) rfl (Jvm.Free.XT.ii_gt_t hc26) (by decide) (by decide) k) ?_
  show own_Go p e below s _ _ _ (T11.setTop (mkF m 122 #[.val (.ref a), .val (.ref b2), .val (.ref b4), .val (.ref b8), .val (.int (1 : Int32)), .unset, .unset, .unset, .unset, .unset] []))
  refine own_via (fun _ k => XS.iinc X11.here hx rfl (hb hby d1_122) rfl (l' := #[.val (.ref a), .val (.ref b2), .val (.ref b4), .val (.ref b8), .val (.int (2 : Int32)), .unset, .unset, .unset, .unset, .unset]) rfl k) ?_
  show own_Go p e below s _ _ _ (T11.setTop (mkF m 125 #[.val (.ref a), .val (.ref b2), .val (.ref b4), .val (.ref b8), .val (.int (2 : Int32)), .unset, .unset, .unset, .unset, .unset] []))
  refine own_via (fun _ k => XS.goto X11.here hx rfl (pc0 := 125) (pc' := 55) rfl (hb hby d1_125) (by decide) (by decide) k) ?_
  show own_Go p e below s _ _ _ (T11.setTop (mkF m 55 #[.val (.ref a), .val (.ref b2), .val (.ref b4), .val (.ref b8), .val (.int (2 : Int32)), .unset, .unset, .unset, .unset, .unset] []))
  refine own_via (fun _ k => XS.iload X11.here hx rfl (hb hby d1_55) rfl k) ?_
  show own_Go p e below s _ _ _ (T11.setTop (mkF m 57 #[.val (.ref a), .val (.ref b2), .val (.ref b4), .val (.ref b8), .val (.int (2 : Int32)), .unset, .unset, .unset, .unset, .unset] [(.int (2 : Int32))]))
  refine own_via (fun _ k => XS.aloadN X11.here hx rfl (hb hby d1_57) rfl rfl k) ?_
  show own_Go p e below s _ _ _ (T11.setTop (mkF m 58 #[.val (.ref a), .val (.ref b2), .val (.ref b4), .val (.ref b8), .val (.int (2 : Int32)), .unset, .unset, .unset, .unset, .unset] [(.ref b2), (.int (2 : Int32))]))
  obtain ⟨cl27, Ar27, q27, S27, M27, H27, G27⟩ := (id F15)
  refine own_via (fun _ k => X11.arraylength hx (by rw [e11]; exact Ar27.1) (State.isArrayOf_alike hZ.alike Ar27.2.1) (g := (mkF m 58 #[.val (.ref a), .val (.ref b2), .val (.ref b4), .val (.ref b8), .val (.int (2 : Int32)), .unset, .unset, .unset, .unset, .unset] [(.ref b2), (.int (2 : Int32))])) rfl rfl (hb hby d1_58) _ (by rw [len_of S27 M27]; exact k)) ?_
  show own_Go p e below s _ _ _ (T11.setTop (mkF m 59 #[.val (.ref a), .val (.ref b2), .val (.ref b4), .val (.ref b8), .val (.int (2 : Int32)), .unset, .unset, .unset, .unset, .unset] [(.int (3 : Int32)), (.int (2 : Int32))]))
  refine own_via (fun _ k => XS.icmpNo X11.here hx rfl (hb hby d1_59) rfl (Jvm.Free.XT.ii_ge_f (by decide)) k) ?_
  show own_Go p e below s _ _ _ (T11.setTop (mkF m 62 #[.val (.ref a), .val (.ref b2), .val (.ref b4), .val (.ref b8), .val (.int (2 : Int32)), .unset, .unset, .unset, .unset, .unset] []))
  refine own_via (fun _ k => XS.aloadN X11.here hx rfl (hb hby d1_62) rfl rfl k) ?_
  show own_Go p e below s _ _ _ (T11.setTop (mkF m 63 #[.val (.ref a), .val (.ref b2), .val (.ref b4), .val (.ref b8), .val (.int (2 : Int32)), .unset, .unset, .unset, .unset, .unset] [(.ref b2)]))
  refine own_via (fun _ k => XS.iload X11.here hx rfl (hb hby d1_63) rfl k) ?_
  show own_Go p e below s _ _ _ (T11.setTop (mkF m 65 #[.val (.ref a), .val (.ref b2), .val (.ref b4), .val (.ref b8), .val (.int (2 : Int32)), .unset, .unset, .unset, .unset, .unset] [(.int (2 : Int32)), (.ref b2)]))
  obtain ⟨cl28, Ar28, q28, S28, M28, H28, G28⟩ := (id F15)
  have hin28 : ¬ ((2 : Int32) < 0 ∨ cl28.slots.size ≤ ((2 : Int32)).toNatClampNeg) := inb_of S28 ⟨by decide, by decide⟩
  have hat28 : cl28.slots[((2 : Int32)).toNatClampNeg]? = some (.int m2) := Has.at H28 hin28 rfl
  refine own_via (fun _ k => X11.iaload hx (j := (2 : Int32)) (v := (.int m2)) (by rw [e11]; exact Ar28.1) (State.isArrayOf_alike hZ.alike Ar28.2.1) Ar28.2.2 hin28 hat28 (g := (mkF m 65 #[.val (.ref a), .val (.ref b2), .val (.ref b4), .val (.ref b8), .val (.int (2 : Int32)), .unset, .unset, .unset, .unset, .unset] [(.int (2 : Int32)), (.ref b2)])) rfl rfl (hb hby d1_65) _ k) ?_
  show own_Go p e below s _ _ _ (T11.setTop (mkF m 66 #[.val (.ref a), .val (.ref b2), .val (.ref b4), .val (.ref b8), .val (.int (2 : Int32)), .unset, .unset, .unset, .unset, .unset] [(.int m2)]))
  refine own_via (fun _ k => XS.iconst X11.here hx rfl (hb hby d1_66) k) ?_
  show own_Go p e below s _ _ _ (T11.setTop (mkF m 67 #[.val (.ref a), .val (.ref b2), .val (.ref b4), .val (.ref b8), .val (.int (2 : Int32)), .unset, .unset, .unset, .unset, .unset] [(.int (1 : Int32)), (.int m2)]))
  have hc29 : ¬ (m2 < (1 : Int32)) := own_lt1 (own_lt1 hp11 hp12) hp13
  refine own_via (fun _ k => XS.icmpNo X11.here hx rfl (hb hby d1_67) rfl (Jvm.Free.XT.ii_lt_f hc29) k) ?_
  show own_Go p e below s _ _ _ (T11.setTop (mkF m 70 #[.val (.ref a), .val (.ref b2), .val (.ref b4), .val (.ref b8), .val (.int (2 : Int32)), .unset, .unset, .unset, .unset, .unset] []))
  refine own_via (fun _ k => XS.aloadN X11.here hx rfl (hb hby d1_70) rfl rfl k) ?_
  show own_Go p e below s _ _ _ (T11.setTop (mkF m 71 #[.val (.ref a), .val (.ref b2), .val (.ref b4), .val (.ref b8), .val (.int (2 : Int32)), .unset, .unset, .unset, .unset, .unset] [(.ref b4)]))
  refine own_via (fun _ k => XS.iload X11.here hx rfl (hb hby d1_71) rfl k) ?_
  show own_Go p e below s _ _ _ (T11.setTop (mkF m 73 #[.val (.ref a), .val (.ref b2), .val (.ref b4), .val (.ref b8), .val (.int (2 : Int32)), .unset, .unset, .unset, .unset, .unset] [(.int (2 : Int32)), (.ref b4)]))
  obtain ⟨cl30, Ar30, q30, S30, M30, H30, G30⟩ := (id F13)
  have hin30 : ¬ ((2 : Int32) < 0 ∨ cl30.slots.size ≤ ((2 : Int32)).toNatClampNeg) := inb_of S30 ⟨by decide, by decide⟩
  have hat30 : cl30.slots[((2 : Int32)).toNatClampNeg]? = some (.long (0 : Int64)) := Has.at H30 hin30 rfl
  refine own_via (fun _ k => X11.laload hx (j := (2 : Int32)) (v := (.long (0 : Int64))) (by rw [e11]; exact Ar30.1) (State.isArrayOf_alike hZ.alike Ar30.2.1) Ar30.2.2 hin30 hat30 (g := (mkF m 73 #[.val (.ref a), .val (.ref b2), .val (.ref b4), .val (.ref b8), .val (.int (2 : Int32)), .unset, .unset, .unset, .unset, .unset] [(.int (2 : Int32)), (.ref b4)])) rfl rfl (hb hby d1_73) _ k) ?_
  show own_Go p e below s _ _ _ (T11.setTop (mkF m 74 #[.val (.ref a), .val (.ref b2), .val (.ref b4), .val (.ref b8), .val (.int (2 : Int32)), .unset, .unset, .unset, .unset, .unset] [(.long (0 : Int64))]))
  refine own_via (fun _ k => XS.lconst X11.here hx rfl (hb hby d1_74) k) ?_
  show own_Go p e below s _ _ _ (T11.setTop (mkF m 75 #[.val (.ref a), .val (.ref b2), .val (.ref b4), .val (.ref b8), .val (.int (2 : Int32)), .unset, .unset, .unset, .unset, .unset] [(.long (0 : Int64)), (.long (0 : Int64))]))
  refine own_via (fun _ k => XS.lcmp X11.here hx rfl (hb hby d1_75) rfl k) ?_
  show own_Go p e below s _ _ _ (T11.setTop (mkF m 76 #[.val (.ref a), .val (.ref b2), .val (.ref b4), .val (.ref b8), .val (.int (2 : Int32)), .unset, .unset, .unset, .unset, .unset] [(.int (lcmpW (0 : Int64) (0 : Int64)))]))
  refine own_via (fun _ k => XS.ifNo X11.here hx rfl (hb hby d1_76) rfl (Jvm.Free.XT.ll_lt_f (by decide)) k) ?_
  show own_Go p e below s _ _ _ (T11.setTop (mkF m 79 #[.val (.ref a), .val (.ref b2), .val (.ref b4), .val (.ref b8), .val (.int (2 : Int32)), .unset, .unset, .unset, .unset, .unset] []))
  refine own_via (fun _ k => XS.iload X11.here hx rfl (hb hby d1_79) rfl k) ?_
  show own_Go p e below s _ _ _ (T11.setTop (mkF m 81 #[.val (.ref a), .val (.ref b2), .val (.ref b4), .val (.ref b8), .val (.int (2 : Int32)), .unset, .unset, .unset, .unset, .unset] [(.int (2 : Int32))]))
  refine own_via (fun _ k => XS.ifNo X11.here hx rfl (hb hby d1_81) rfl (Jvm.Free.XT.i0_le_f (by decide)) k) ?_
  show own_Go p e below s _ _ _ (T11.setTop (mkF m 84 #[.val (.ref a), .val (.ref b2), .val (.ref b4), .val (.ref b8), .val (.int (2 : Int32)), .unset, .unset, .unset, .unset, .unset] []))
  refine own_via (fun _ k => XS.aloadN X11.here hx rfl (hb hby d1_84) rfl rfl k) ?_
  show own_Go p e below s _ _ _ (T11.setTop (mkF m 85 #[.val (.ref a), .val (.ref b2), .val (.ref b4), .val (.ref b8), .val (.int (2 : Int32)), .unset, .unset, .unset, .unset, .unset] [(.ref b2)]))
  refine own_via (fun _ k => XS.iload X11.here hx rfl (hb hby d1_85) rfl k) ?_
  show own_Go p e below s _ _ _ (T11.setTop (mkF m 87 #[.val (.ref a), .val (.ref b2), .val (.ref b4), .val (.ref b8), .val (.int (2 : Int32)), .unset, .unset, .unset, .unset, .unset] [(.int (2 : Int32)), (.ref b2)]))
  obtain ⟨cl31, Ar31, q31, S31, M31, H31, G31⟩ := (id F15)
  have hin31 : ¬ ((2 : Int32) < 0 ∨ cl31.slots.size ≤ ((2 : Int32)).toNatClampNeg) := inb_of S31 ⟨by decide, by decide⟩
  have hat31 : cl31.slots[((2 : Int32)).toNatClampNeg]? = some (.int m2) := Has.at H31 hin31 rfl
  refine own_via (fun _ k => X11.iaload hx (j := (2 : Int32)) (v := (.int m2)) (by rw [e11]; exact Ar31.1) (State.isArrayOf_alike hZ.alike Ar31.2.1) Ar31.2.2 hin31 hat31 (g := (mkF m 87 #[.val (.ref a), .val (.ref b2), .val (.ref b4), .val (.ref b8), .val (.int (2 : Int32)), .unset, .unset, .unset, .unset, .unset] [(.int (2 : Int32)), (.ref b2)])) rfl rfl (hb hby d1_87) _ k) ?_
  show own_Go p e below s _ _ _ (T11.setTop (mkF m 88 #[.val (.ref a), .val (.ref b2), .val (.ref b4), .val (.ref b8), .val (.int (2 : Int32)), .unset, .unset, .unset, .unset, .unset] [(.int m2)]))
  refine own_via (fun _ k => XS.aloadN X11.here hx rfl (hb hby d1_88) rfl rfl k) ?_
  show own_Go p e below s _ _ _ (T11.setTop (mkF m 89 #[.val (.ref a), .val (.ref b2), .val (.ref b4), .val (.ref b8), .val (.int (2 : Int32)), .unset, .unset, .unset, .unset, .unset] [(.ref b2), (.int m2)]))
  refine own_via (fun _ k => XS.iload X11.here hx rfl (hb hby d1_89) rfl k) ?_
  show own_Go p e below s _ _ _ (T11.setTop (mkF m 91 #[.val (.ref a), .val (.ref b2), .val (.ref b4), .val (.ref b8), .val (.int (2 : Int32)), .unset, .unset, .unset, .unset, .unset] [(.int (2 : Int32)), (.ref b2), (.int m2)]))
  refine own_via (fun _ k => XS.iconst X11.here hx rfl (hb hby d1_91) k) ?_
  show own_Go p e below s _ _ _ (T11.setTop (mkF m 92 #[.val (.ref a), .val (.ref b2), .val (.ref b4), .val (.ref b8), .val (.int (2 : Int32)), .unset, .unset, .unset, .unset, .unset] [(.int (1 : Int32)), (.int (2 : Int32)), (.ref b2), (.int m2)]))
  refine own_via (fun _ k => XS.isub X11.here hx rfl (hb hby d1_92) rfl k) ?_
  show own_Go p e below s _ _ _ (T11.setTop (mkF m 93 #[.val (.ref a), .val (.ref b2), .val (.ref b4), .val (.ref b8), .val (.int (2 : Int32)), .unset, .unset, .unset, .unset, .unset] [(.int (1 : Int32)), (.ref b2), (.int m2)]))
  obtain ⟨cl32, Ar32, q32, S32, M32, H32, G32⟩ := (id F15)
  have hin32 : ¬ ((1 : Int32) < 0 ∨ cl32.slots.size ≤ ((1 : Int32)).toNatClampNeg) := inb_of S32 ⟨by decide, by decide⟩
  have hat32 : cl32.slots[((1 : Int32)).toNatClampNeg]? = some (.int m1) := Has.at H32 hin32 rfl
  refine own_via (fun _ k => X11.iaload hx (j := (1 : Int32)) (v := (.int m1)) (by rw [e11]; exact Ar32.1) (State.isArrayOf_alike hZ.alike Ar32.2.1) Ar32.2.2 hin32 hat32 (g := (mkF m 93 #[.val (.ref a), .val (.ref b2), .val (.ref b4), .val (.ref b8), .val (.int (2 : Int32)), .unset, .unset, .unset, .unset, .unset] [(.int (1 : Int32)), (.ref b2), (.int m2)])) rfl rfl (hb hby d1_93) _ k) ?_
  show own_Go p e below s _ _ _ (T11.setTop (mkF m 94 #[.val (.ref a), .val (.ref b2), .val (.ref b4), .val (.ref b8), .val (.int (2 : Int32)), .unset, .unset, .unset, .unset, .unset] [(.int m1), (.int m2)]))
  have hc33 : m1 < m2 := hp13
  refine own_via (fun _ k => XS.icmpYes X11.here hx rfl (pc0 := 94) (pc' := 122) rfl (hb hby d1_94) rfl (Jvm.Free.XT.ii_gt_t hc33) (by decide) (by decide) k) ?_
  show own_Go p e below s _ _ _ (T11.setTop (mkF m 122 #[.val (.ref a), .val (.ref b2), .val (.ref b4), .val (.ref b8), .val (.int (2 : Int32)), .unset, .unset, .unset, .unset, .unset] []))
  refine own_via (fun _ k => XS.iinc X11.here hx rfl (hb hby d1_122) rfl (l' := #[.val (.ref a), .val (.ref b2), .val (.ref b4), .val (.ref b8), .val (.int (3 : Int32)), .unset, .unset, .unset, .unset, .unset]) rfl k) ?_
  show own_Go p e below s _ _ _ (T11.setTop (mkF m 125 #[.val (.ref a), .val (.ref b2), .val (.ref b4), .val (.ref b8), .val (.int (3 : Int32)), .unset, .unset, .unset, .unset, .unset] []))
  refine own_via (fun _ k => XS.goto X11.here hx rfl (pc0 := 125) (pc' := 55) rfl (hb hby d1_125) (by decide) (by decide) k) ?_
  show own_Go p e below s _ _ _ (T11.setTop (mkF m 55 #[.val (.ref a), .val (.ref b2), .val (.ref b4), .val (.ref b8), .val (.int (3 : Int32)), .unset, .unset, .unset, .unset, .unset] []))
  refine own_via (fun _ k => XS.iload X11.here hx rfl (hb hby d1_55) rfl k) ?_
  show own_Go p e below s _ _ _ (T11.setTop (mkF m 57 #[.val (.ref a), .val (.ref b2), .val (.ref b4), .val (.ref b8), .val (.int (3 : Int32)), .unset, .unset, .unset, .unset, .unset] [(.int (3 : Int32))]))
  refine own_via (fun _ k => XS.aloadN X11.here hx rfl (hb hby d1_57) rfl rfl k) ?_
  show own_Go p e below s _ _ _ (T11.setTop (mkF m 58 #[.val (.ref a), .val (.ref b2), .val (.ref b4), .val (.ref b8), .val (.int (3 : Int32)), .unset, .unset, .unset, .unset, .unset] [(.ref b2), (.int (3 : Int32))]))
  obtain ⟨cl34, Ar34, q34, S34, M34, H34, G34⟩ := (id F15)
  refine own_via (fun _ k => X11.arraylength hx (by rw [e11]; exact Ar34.1) (State.isArrayOf_alike hZ.alike Ar34.2.1) (g := (mkF m 58 #[.val (.ref a), .val (.ref b2), .val (.ref b4), .val (.ref b8), .val (.int (3 : Int32)), .unset, .unset, .unset, .unset, .unset] [(.ref b2), (.int (3 : Int32))])) rfl rfl (hb hby d1_58) _ (by rw [len_of S34 M34]; exact k)) ?_
  show own_Go p e below s _ _ _ (T11.setTop (mkF m 59 #[.val (.ref a), .val (.ref b2), .val (.ref b4), .val (.ref b8), .val (.int (3 : Int32)), .unset, .unset, .unset, .unset, .unset] [(.int (3 : Int32)), (.int (3 : Int32))]))
  refine own_via (fun _ k => XS.icmpYes X11.here hx rfl (pc0 := 59) (pc' := 128) rfl (hb hby d1_59) rfl (Jvm.Free.XT.ii_ge_t (by decide)) (by decide) (by decide) k) ?_
  show own_Go p e below s _ _ _ (T11.setTop (mkF m 128 #[.val (.ref a), .val (.ref b2), .val (.ref b4), .val (.ref b8), .val (.int (3 : Int32)), .unset, .unset, .unset, .unset, .unset] []))
  refine own_via (fun _ k => XS.aloadN X11.here hx rfl (hb hby d1_128) rfl rfl k) ?_
  show own_Go p e below s _ _ _ (T11.setTop (mkF m 129 #[.val (.ref a), .val (.ref b2), .val (.ref b4), .val (.ref b8), .val (.int (3 : Int32)), .unset, .unset, .unset, .unset, .unset] [(.ref b2)]))
  obtain ⟨cl35, Ar35, q35, S35, M35, H35, G35⟩ := (id F15)
  refine own_via (fun _ k => X11.arraylength hx (by rw [e11]; exact Ar35.1) (State.isArrayOf_alike hZ.alike Ar35.2.1) (g := (mkF m 129 #[.val (.ref a), .val (.ref b2), .val (.ref b4), .val (.ref b8), .val (.int (3 : Int32)), .unset, .unset, .unset, .unset, .unset] [(.ref b2)])) rfl rfl (hb hby d1_129) _ (by rw [len_of S35 M35]; exact k)) ?_
  show own_Go p e below s _ _ _ (T11.setTop (mkF m 130 #[.val (.ref a), .val (.ref b2), .val (.ref b4), .val (.ref b8), .val (.int (3 : Int32)), .unset, .unset, .unset, .unset, .unset] [(.int (3 : Int32))]))
  obtain ⟨T36, h36, k36, X36, e36, E36, A36, st36⟩ := newP X11 hx hZ (hw _ (List.mem_of_getElem? (i := 32) rfl)) e11 (g := (mkF m 130 #[.val (.ref a), .val (.ref b2), .val (.ref b4), .val (.ref b8), .val (.int (3 : Int32)), .unset, .unset, .unset, .unset, .unset] [(.int (3 : Int32))])) rfl (hb hby d1_130) rfl (by decide) (cap := 3) (by decide) (by decide) (by decide) (by decide)
  obtain ⟨b36, gg36⟩ : ∃ z, z = h8.size := ⟨_, rfl⟩
  rw [← gg36] at A36 st36
  have ne_a_b36 : a ≠ b36 := Nat.ne_of_lt (Nat.lt_of_lt_of_le (((E_a.ext E2).ext E4).ext E8).lt (Nat.le_of_eq gg36.symm))
  have ne_b2_b36 : b2 ≠ b36 := Nat.ne_of_lt (Nat.lt_of_lt_of_le ((AE2.ext E4).ext E8).lt (Nat.le_of_eq gg36.symm))
  have ne_b4_b36 : b4 ≠ b36 := Nat.ne_of_lt (Nat.lt_of_lt_of_le (AE4.ext E8).lt (Nat.le_of_eq gg36.symm))
  have ne_b8_b36 : b8 ≠ b36 := Nat.ne_of_lt (Nat.lt_of_lt_of_le AE8.lt (Nat.le_of_eq gg36.symm))
  have ne_bg__b36 : bg_ ≠ b36 := Nat.ne_of_lt (Nat.lt_of_lt_of_le ((F6.ext E4).ext E8).lt (Nat.le_of_eq gg36.symm))
  have ne_bm__b36 : bm_ ≠ b36 := Nat.ne_of_lt (Nat.lt_of_lt_of_le (((E_bm_.ext E2).ext E4).ext E8).lt (Nat.le_of_eq gg36.symm))
  have ne_bq__b36 : bq_ ≠ b36 := Nat.ne_of_lt (Nat.lt_of_lt_of_le (F10.ext E8).lt (Nat.le_of_eq gg36.symm))
  have g_b36 : n0 ≤ b36 := Nat.le_trans Z8 (Nat.le_of_eq gg36.symm)
  have sz_b36 : h0.size ≤ b36 := Nat.le_trans K8.1 (Nat.le_of_eq gg36.symm)
  have Z36 : n0 ≤ h36.size := Nat.le_trans Z8 E36.1
  have K36 : Keep h0 h36 [a] := K8.ext E36
  have V36 : Arv Z h36 b36 k36 .boolean (3 : Int32) [(.int (0 : Int32)), (.int (0 : Int32)), (.int (0 : Int32))] (.int (0 : Int32)) := (Arv.new A36 (by decide)).pad (pad_rep [] (.int (0 : Int32)) 3)
  refine own_via st36 ?_
  show own_Go p e below s _ _ _ (T36.setTop (mkF m 132 #[.val (.ref a), .val (.ref b2), .val (.ref b4), .val (.ref b8), .val (.int (3 : Int32)), .unset, .unset, .unset, .unset, .unset] [(.ref b36)]))
  refine own_via (fun _ k => XS.astore X36.here hx rfl (hb hby d1_132) rfl rfl (l' := #[.val (.ref a), .val (.ref b2), .val (.ref b4), .val (.ref b8), .val (.ref b36), .unset, .unset, .unset, .unset, .unset]) rfl k) ?_
  show own_Go p e below s _ _ _ (T36.setTop (mkF m 134 #[.val (.ref a), .val (.ref b2), .val (.ref b4), .val (.ref b8), .val (.ref b36), .unset, .unset, .unset, .unset, .unset] []))
  refine own_via (fun _ k => XS.aloadN X36.here hx rfl (hb hby d1_134) rfl rfl k) ?_
  show own_Go p e below s _ _ _ (T36.setTop (mkF m 135 #[.val (.ref a), .val (.ref b2), .val (.ref b4), .val (.ref b8), .val (.ref b36), .unset, .unset, .unset, .unset, .unset] [(.ref b8)]))
  refine own_via (fun _ k => XS.astore X36.here hx rfl (hb hby d1_135) rfl rfl (l' := #[.val (.ref a), .val (.ref b2), .val (.ref b4), .val (.ref b8), .val (.ref b36), .val (.ref b8), .unset, .unset, .unset, .unset]) rfl k) ?_
  show own_Go p e below s _ _ _ (T36.setTop (mkF m 137 #[.val (.ref a), .val (.ref b2), .val (.ref b4), .val (.ref b8), .val (.ref b36), .val (.ref b8), .unset, .unset, .unset, .unset] []))
  refine own_via (fun _ k => XS.aload X36.here hx rfl (hb hby d1_137) rfl rfl k) ?_
  show own_Go p e below s _ _ _ (T36.setTop (mkF m 139 #[.val (.ref a), .val (.ref b2), .val (.ref b4), .val (.ref b8), .val (.ref b36), .val (.ref b8), .unset, .unset, .unset, .unset] [(.ref b8)]))
  have F38 := (V8.ext E36)
  obtain ⟨cl37, Ar37, q37, S37, M37, H37, G37⟩ := (id F38)
  refine own_via (fun _ k => X36.arraylength hx (by rw [e36]; exact Ar37.1) (State.isArrayOf_alike hZ.alike Ar37.2.1) (g := (mkF m 139 #[.val (.ref a), .val (.ref b2), .val (.ref b4), .val (.ref b8), .val (.ref b36), .val (.ref b8), .unset, .unset, .unset, .unset] [(.ref b8)])) rfl rfl (hb hby d1_139) _ (by rw [len_of S37 M37]; exact k)) ?_
  show own_Go p e below s _ _ _ (T36.setTop (mkF m 140 #[.val (.ref a), .val (.ref b2), .val (.ref b4), .val (.ref b8), .val (.ref b36), .val (.ref b8), .unset, .unset, .unset, .unset] [(.int (Nat.toInt32 kn_))]))
  refine own_via (fun _ k => XS.istore X36.here hx rfl (hb hby d1_140) rfl (l' := #[.val (.ref a), .val (.ref b2), .val (.ref b4), .val (.ref b8), .val (.ref b36), .val (.ref b8), .val (.int (Nat.toInt32 kn_)), .unset, .unset, .unset]) rfl k) ?_
  show own_Go p e below s _ _ _ (T36.setTop (mkF m 142 #[.val (.ref a), .val (.ref b2), .val (.ref b4), .val (.ref b8), .val (.ref b36), .val (.ref b8), .val (.int (Nat.toInt32 kn_)), .unset, .unset, .unset] []))
  refine own_via (fun _ k => XS.iconst X36.here hx rfl (hb hby d1_142) k) ?_
  show own_Go p e below s _ _ _ (T36.setTop (mkF m 143 #[.val (.ref a), .val (.ref b2), .val (.ref b4), .val (.ref b8), .val (.ref b36), .val (.ref b8), .val (.int (Nat.toInt32 kn_)), .unset, .unset, .unset] [(.int (0 : Int32))]))
  refine own_via (fun _ k => XS.istore X36.here hx rfl (hb hby d1_143) rfl (l' := #[.val (.ref a), .val (.ref b2), .val (.ref b4), .val (.ref b8), .val (.ref b36), .val (.ref b8), .val (.int (Nat.toInt32 kn_)), .val (.int (0 : Int32)), .unset, .unset]) rfl k) ?_
  show own_Go p e below s _ _ _ (T36.setTop (mkF m 145 #[.val (.ref a), .val (.ref b2), .val (.ref b4), .val (.ref b8), .val (.ref b36), .val (.ref b8), .val (.int (Nat.toInt32 kn_)), .val (.int (0 : Int32)), .unset, .unset] []))
  show own_Go p e below s _ _ _ (T36.setTop (mkF m 145 #[.val (.ref a), .val (.ref b2), .val (.ref b4), .val (.ref b8), .val (.ref b36), .val (.ref b8), .val (.int (Nat.toInt32 kn_)), .val (.int (Nat.toInt32 0)), .unset, .unset] []))
  have lp : ∀ (n_ : Nat) (i_ : Nat) (ss_ : List Value) (y8_ : Slot) (y9_ : Slot) (T39 : State) (lo39 : List Loc) (h39 : Heap), Stand p l e ({ frames := 2, cells := 4, slots := 12, locals := 32 } : Room) s m #[(.ref a), (.ref bm_), (.ref bg_), (.ref bq_)] below meth c T39 lo39 4 12 → T39.heap = h39 → Fr n0 lo39 → n0 ≤ h39.size → Keep h0 h39 [a] → Exa Z h39 a "com/example/greenbelt/greenbelt/model/Token" → Fld Z h39 a "com/example/greenbelt/greenbelt/model/Token" "members" "[I" .null → Fld Z h39 a "com/example/greenbelt/greenbelt/model/Token" "granted" "[J" .null → Fld Z h39 a "com/example/greenbelt/greenbelt/model/Token" "queue" "[I" .null → Arv Z h39 b2 km_ .int (3 : Int32) [(.int m0), (.int m1), (.int m2)] (.int (0 : Int32)) → Arv Z h39 b8 kq_ .int (Nat.toInt32 kn_) ((es_.map (own_m m0 m1 m2)).map Value.int) (.int (0 : Int32)) → Arv Z h39 b36 k36 .boolean (3 : Int32) ss_ (.int (0 : Int32)) → i_ + n_ = kn_ → (∀ j, i_ ≤ j → j < kn_ → ss_.getD (es_.getD j 0) (.int (0 : Int32)) = .int (0 : Int32)) → ss_.length = 3 → ((y8_ = .unset ∧ y9_ = .unset) ∨ (∃ u v, y8_ = .val (.int u) ∧ y9_ = .val (.int v))) → own_Go p e below s (Q1 Z a bm_ bg_ bq_ km_ kg_ kq_ m0 m1 m2 kn_ es_ h0 n0) ({ frames := 2, cells := 4, slots := 12, locals := 32 } : Room).cells ({ frames := 2, cells := 4, slots := 12, locals := 32 } : Room).slots (T39.setTop (mkF m 145 #[.val (.ref a), .val (.ref b2), .val (.ref b4), .val (.ref b8), .val (.ref b36), .val (.ref b8), .val (.int (Nat.toInt32 kn_)), .val (.int (Nat.toInt32 i_)), y8_, y9_] [])) := by
    intro n_
    induction n_ with
    | zero =>
      intro i_ ss_ y8_ y9_ T39 lo39 h39 X39 e39 N39 Z39 K39 F40 F41 F42 F43 F44 F45 F46 hE hS hL hY
      show own_Go p e below s _ _ _ (T39.setTop (mkF m 145 #[.val (.ref a), .val (.ref b2), .val (.ref b4), .val (.ref b8), .val (.ref b36), .val (.ref b8), .val (.int (Nat.toInt32 kn_)), .val (.int (Nat.toInt32 i_)), y8_, y9_] []))
      refine own_via (fun _ k => XS.iload X39.here hx rfl (hb hby d1_145) rfl k) ?_
      show own_Go p e below s _ _ _ (T39.setTop (mkF m 147 #[.val (.ref a), .val (.ref b2), .val (.ref b4), .val (.ref b8), .val (.ref b36), .val (.ref b8), .val (.int (Nat.toInt32 kn_)), .val (.int (Nat.toInt32 i_)), y8_, y9_] [(.int (Nat.toInt32 i_))]))
      refine own_via (fun _ k => XS.iload X39.here hx rfl (hb hby d1_147) rfl k) ?_
      show own_Go p e below s _ _ _ (T39.setTop (mkF m 149 #[.val (.ref a), .val (.ref b2), .val (.ref b4), .val (.ref b8), .val (.ref b36), .val (.ref b8), .val (.int (Nat.toInt32 kn_)), .val (.int (Nat.toInt32 i_)), y8_, y9_] [(.int (Nat.toInt32 kn_)), (.int (Nat.toInt32 i_))]))
      have hc47 : ¬ ((Nat.toInt32 i_) < (Nat.toInt32 kn_)) := fun q => absurd ((own_ltn (by omega) (by omega)).mp q) (by omega)
      refine own_via (fun _ k => XS.icmpYes X39.here hx rfl (pc0 := 149) (pc' := 215) rfl (hb hby d1_149) rfl (Jvm.Free.XT.ii_ge_t hc47) (by decide) (by decide) k) ?_
      show own_Go p e below s _ _ _ (T39.setTop (mkF m 215 #[.val (.ref a), .val (.ref b2), .val (.ref b4), .val (.ref b8), .val (.ref b36), .val (.ref b8), .val (.int (Nat.toInt32 kn_)), .val (.int (Nat.toInt32 i_)), y8_, y9_] []))
      refine own_via (fun _ k => XS.aloadN X39.here hx rfl (hb hby d1_215) rfl rfl k) ?_
      show own_Go p e below s _ _ _ (T39.setTop (mkF m 216 #[.val (.ref a), .val (.ref b2), .val (.ref b4), .val (.ref b8), .val (.ref b36), .val (.ref b8), .val (.int (Nat.toInt32 kn_)), .val (.int (Nat.toInt32 i_)), y8_, y9_] [(.ref a)]))
      refine own_via (fun _ k => XS.aloadN X39.here hx rfl (hb hby d1_216) rfl rfl k) ?_
      show own_Go p e below s _ _ _ (T39.setTop (mkF m 217 #[.val (.ref a), .val (.ref b2), .val (.ref b4), .val (.ref b8), .val (.ref b36), .val (.ref b8), .val (.int (Nat.toInt32 kn_)), .val (.int (Nat.toInt32 i_)), y8_, y9_] [(.ref b2), (.ref a)]))
      obtain ⟨T48, h48, X48, e48, W48, st48⟩ := putF X39 hx hZ hown (host := "") (Or.inl (hw _ (List.mem_of_getElem? (i := 40) rfl))) Via.refl e39 F41 F40 (Or.inr ⟨(hw _ (List.mem_of_getElem? (i := 41) rfl)), rfl, hnm⟩) (hw _ (List.mem_of_getElem? (i := 3) rfl)) (ty := (.array .int)) (by decide) rfl rfl (g := (mkF m 217 #[.val (.ref a), .val (.ref b2), .val (.ref b4), .val (.ref b8), .val (.ref b36), .val (.ref b8), .val (.int (Nat.toInt32 kn_)), .val (.int (Nat.toInt32 i_)), y8_, y9_] [(.ref b2), (.ref a)])) rfl rfl (hb hby d1_217)
      have N48 := Fr.snoc X48 N39 g_a
      have Fw48 := F41.same W48
      have Z48 : n0 ≤ h48.size := Nat.le_trans Z39 (Keep.of_wr W48).1
      have K48 : Keep h0 h48 [a] := K39.wr W48 (Or.inl (List.mem_of_getElem? (i := 0) rfl))
      refine own_via st48 ?_
      show own_Go p e below s _ _ _ (T48.setTop (mkF m 220 #[.val (.ref a), .val (.ref b2), .val (.ref b4), .val (.ref b8), .val (.ref b36), .val (.ref b8), .val (.int (Nat.toInt32 kn_)), .val (.int (Nat.toInt32 i_)), y8_, y9_] []))
      refine own_via (fun _ k => XS.aloadN X48.here hx rfl (hb hby d1_220) rfl rfl k) ?_
      show own_Go p e below s _ _ _ (T48.setTop (mkF m 221 #[.val (.ref a), .val (.ref b2), .val (.ref b4), .val (.ref b8), .val (.ref b36), .val (.ref b8), .val (.int (Nat.toInt32 kn_)), .val (.int (Nat.toInt32 i_)), y8_, y9_] [(.ref a)]))
      refine own_via (fun _ k => XS.aloadN X48.here hx rfl (hb hby d1_221) rfl rfl k) ?_
      show own_Go p e below s _ _ _ (T48.setTop (mkF m 222 #[.val (.ref a), .val (.ref b2), .val (.ref b4), .val (.ref b8), .val (.ref b36), .val (.ref b8), .val (.int (Nat.toInt32 kn_)), .val (.int (Nat.toInt32 i_)), y8_, y9_] [(.ref b4), (.ref a)]))
      have F49 := (F40.wr W48)
      have F50 := (F42.other W48 (Or.inr (slot_ne (Or.inr (hw _ (List.mem_of_getElem? (i := 43) rfl))) (Or.inr (hw _ (List.mem_of_getElem? (i := 41) rfl))) (by decide) (t := (.array .long)) (t' := (.array .int)) (by decide) (by decide))))
      obtain ⟨T51, h51, X51, e51, W51, st51⟩ := putF X48 hx hZ hown (host := "") (Or.inl (hw _ (List.mem_of_getElem? (i := 42) rfl))) Via.refl e48 F50 F49 (Or.inr ⟨(hw _ (List.mem_of_getElem? (i := 43) rfl)), rfl, hnm⟩) (hw _ (List.mem_of_getElem? (i := 3) rfl)) (ty := (.array .long)) (by decide) rfl rfl (g := (mkF m 222 #[.val (.ref a), .val (.ref b2), .val (.ref b4), .val (.ref b8), .val (.ref b36), .val (.ref b8), .val (.int (Nat.toInt32 kn_)), .val (.int (Nat.toInt32 i_)), y8_, y9_] [(.ref b4), (.ref a)])) rfl rfl (hb hby d1_222)
      have N51 := Fr.snoc X51 N48 g_a
      have Fw51 := F50.same W51
      have Z51 : n0 ≤ h51.size := Nat.le_trans Z48 (Keep.of_wr W51).1
      have K51 : Keep h0 h51 [a] := K48.wr W51 (Or.inl (List.mem_of_getElem? (i := 0) rfl))
      refine own_via st51 ?_
      show own_Go p e below s _ _ _ (T51.setTop (mkF m 225 #[.val (.ref a), .val (.ref b2), .val (.ref b4), .val (.ref b8), .val (.ref b36), .val (.ref b8), .val (.int (Nat.toInt32 kn_)), .val (.int (Nat.toInt32 i_)), y8_, y9_] []))
      refine own_via (fun _ k => XS.aloadN X51.here hx rfl (hb hby d1_225) rfl rfl k) ?_
      show own_Go p e below s _ _ _ (T51.setTop (mkF m 226 #[.val (.ref a), .val (.ref b2), .val (.ref b4), .val (.ref b8), .val (.ref b36), .val (.ref b8), .val (.int (Nat.toInt32 kn_)), .val (.int (Nat.toInt32 i_)), y8_, y9_] [(.ref a)]))
      refine own_via (fun _ k => XS.aloadN X51.here hx rfl (hb hby d1_226) rfl rfl k) ?_
      show own_Go p e below s _ _ _ (T51.setTop (mkF m 227 #[.val (.ref a), .val (.ref b2), .val (.ref b4), .val (.ref b8), .val (.ref b36), .val (.ref b8), .val (.int (Nat.toInt32 kn_)), .val (.int (Nat.toInt32 i_)), y8_, y9_] [(.ref b8), (.ref a)]))
      have F52 := (F49.wr W51)
      have F53 := ((F43.other W48 (Or.inr (slot_ne (Or.inr (hw _ (List.mem_of_getElem? (i := 45) rfl))) (Or.inr (hw _ (List.mem_of_getElem? (i := 41) rfl))) (by decide) (t := (.array .int)) (t' := (.array .int)) (by decide) (by decide)))).other W51 (Or.inr (slot_ne (Or.inr (hw _ (List.mem_of_getElem? (i := 45) rfl))) (Or.inr (hw _ (List.mem_of_getElem? (i := 43) rfl))) (by decide) (t := (.array .int)) (t' := (.array .long)) (by decide) (by decide))))
      obtain ⟨T54, h54, X54, e54, W54, st54⟩ := putF X51 hx hZ hown (host := "") (Or.inl (hw _ (List.mem_of_getElem? (i := 44) rfl))) Via.refl e51 F53 F52 (Or.inr ⟨(hw _ (List.mem_of_getElem? (i := 45) rfl)), rfl, hnm⟩) (hw _ (List.mem_of_getElem? (i := 3) rfl)) (ty := (.array .int)) (by decide) rfl rfl (g := (mkF m 227 #[.val (.ref a), .val (.ref b2), .val (.ref b4), .val (.ref b8), .val (.ref b36), .val (.ref b8), .val (.int (Nat.toInt32 kn_)), .val (.int (Nat.toInt32 i_)), y8_, y9_] [(.ref b8), (.ref a)])) rfl rfl (hb hby d1_227)
      have N54 := Fr.snoc X54 N51 g_a
      have Fw54 := F53.same W54
      have Z54 : n0 ≤ h54.size := Nat.le_trans Z51 (Keep.of_wr W54).1
      have K54 : Keep h0 h54 [a] := K51.wr W54 (Or.inl (List.mem_of_getElem? (i := 0) rfl))
      refine own_via st54 ?_
      show own_Go p e below s _ _ _ (T54.setTop (mkF m 230 #[.val (.ref a), .val (.ref b2), .val (.ref b4), .val (.ref b8), .val (.ref b36), .val (.ref b8), .val (.int (Nat.toInt32 kn_)), .val (.int (Nat.toInt32 i_)), y8_, y9_] []))
      have F55 := (F52.wr W54)
      have F56 := (((F45.other W48 (Ne.symm ne_a_b8)).other W51 (Ne.symm ne_a_b8)).other W54 (Ne.symm ne_a_b8))
      exact own_goV X54 hx Bd.returns (hb hby d1_230) Bd.notSynchronized (by decide) (by decide) (by rw [e54]; exact ⟨b8, rfl, N54, K54, sz_b8, F55, Fw54, F56⟩)
    | succ n_ ih =>
      intro i_ ss_ y8_ y9_ T39 lo39 h39 X39 e39 N39 Z39 K39 F40 F41 F42 F43 F44 F45 F46 hE hS hL hY
      show own_Go p e below s _ _ _ (T39.setTop (mkF m 145 #[.val (.ref a), .val (.ref b2), .val (.ref b4), .val (.ref b8), .val (.ref b36), .val (.ref b8), .val (.int (Nat.toInt32 kn_)), .val (.int (Nat.toInt32 i_)), y8_, y9_] []))
      refine own_via (fun _ k => XS.iload X39.here hx rfl (hb hby d1_145) rfl k) ?_
      show own_Go p e below s _ _ _ (T39.setTop (mkF m 147 #[.val (.ref a), .val (.ref b2), .val (.ref b4), .val (.ref b8), .val (.ref b36), .val (.ref b8), .val (.int (Nat.toInt32 kn_)), .val (.int (Nat.toInt32 i_)), y8_, y9_] [(.int (Nat.toInt32 i_))]))
      refine own_via (fun _ k => XS.iload X39.here hx rfl (hb hby d1_147) rfl k) ?_
      show own_Go p e below s _ _ _ (T39.setTop (mkF m 149 #[.val (.ref a), .val (.ref b2), .val (.ref b4), .val (.ref b8), .val (.ref b36), .val (.ref b8), .val (.int (Nat.toInt32 kn_)), .val (.int (Nat.toInt32 i_)), y8_, y9_] [(.int (Nat.toInt32 kn_)), (.int (Nat.toInt32 i_))]))
      have hc57 : (Nat.toInt32 i_) < (Nat.toInt32 kn_) := (own_ltn (by omega) (by omega)).mpr (by omega)
      refine own_via (fun _ k => XS.icmpNo X39.here hx rfl (hb hby d1_149) rfl (Jvm.Free.XT.ii_ge_f hc57) k) ?_
      show own_Go p e below s _ _ _ (T39.setTop (mkF m 152 #[.val (.ref a), .val (.ref b2), .val (.ref b4), .val (.ref b8), .val (.ref b36), .val (.ref b8), .val (.int (Nat.toInt32 kn_)), .val (.int (Nat.toInt32 i_)), y8_, y9_] []))
      refine own_via (fun _ k => XS.aload X39.here hx rfl (hb hby d1_152) rfl rfl k) ?_
      show own_Go p e below s _ _ _ (T39.setTop (mkF m 154 #[.val (.ref a), .val (.ref b2), .val (.ref b4), .val (.ref b8), .val (.ref b36), .val (.ref b8), .val (.int (Nat.toInt32 kn_)), .val (.int (Nat.toInt32 i_)), y8_, y9_] [(.ref b8)]))
      refine own_via (fun _ k => XS.iload X39.here hx rfl (hb hby d1_154) rfl k) ?_
      show own_Go p e below s _ _ _ (T39.setTop (mkF m 156 #[.val (.ref a), .val (.ref b2), .val (.ref b4), .val (.ref b8), .val (.ref b36), .val (.ref b8), .val (.int (Nat.toInt32 kn_)), .val (.int (Nat.toInt32 i_)), y8_, y9_] [(.int (Nat.toInt32 i_)), (.ref b8)]))
      obtain ⟨cl58, Ar58, q58, S58, M58, H58, G58⟩ := (id F45)
      have hin58 : ¬ ((Nat.toInt32 i_) < 0 ∨ cl58.slots.size ≤ ((Nat.toInt32 i_)).toNatClampNeg) := inb_of S58 (own_inb (by omega) (by rw [own_t kn_ (by omega)]; omega))
      have hat58 : cl58.slots[((Nat.toInt32 i_)).toNatClampNeg]? = some (.int ((es_.map (own_m m0 m1 m2)).getD i_ 0)) := Has.at H58 hin58 (own_gm _ (by omega))
      refine own_via (fun _ k => X39.iaload hx (j := (Nat.toInt32 i_)) (v := (.int ((es_.map (own_m m0 m1 m2)).getD i_ 0))) (by rw [e39]; exact Ar58.1) (State.isArrayOf_alike hZ.alike Ar58.2.1) Ar58.2.2 hin58 hat58 (g := (mkF m 156 #[.val (.ref a), .val (.ref b2), .val (.ref b4), .val (.ref b8), .val (.ref b36), .val (.ref b8), .val (.int (Nat.toInt32 kn_)), .val (.int (Nat.toInt32 i_)), y8_, y9_] [(.int (Nat.toInt32 i_)), (.ref b8)])) rfl rfl (hb hby d1_156) _ k) ?_
      show own_Go p e below s _ _ _ (T39.setTop (mkF m 157 #[.val (.ref a), .val (.ref b2), .val (.ref b4), .val (.ref b8), .val (.ref b36), .val (.ref b8), .val (.int (Nat.toInt32 kn_)), .val (.int (Nat.toInt32 i_)), y8_, y9_] [(.int ((es_.map (own_m m0 m1 m2)).getD i_ 0))]))
      rw [show ((es_.map (own_m m0 m1 m2)).getD i_ 0) = (own_m m0 m1 m2 (es_.getD i_ 0)) from (own_me m0 m1 m2 es_ (by rw [hp14]; omega))]
      show own_Go p e below s _ _ _ (T39.setTop (mkF m 157 #[.val (.ref a), .val (.ref b2), .val (.ref b4), .val (.ref b8), .val (.ref b36), .val (.ref b8), .val (.int (Nat.toInt32 kn_)), .val (.int (Nat.toInt32 i_)), y8_, y9_] [(.int (own_m m0 m1 m2 (es_.getD i_ 0)))]))
      refine own_via (fun _ k => XS.istore X39.here hx rfl (hb hby d1_157) rfl (l' := #[.val (.ref a), .val (.ref b2), .val (.ref b4), .val (.ref b8), .val (.ref b36), .val (.ref b8), .val (.int (Nat.toInt32 kn_)), .val (.int (Nat.toInt32 i_)), .val (.int (own_m m0 m1 m2 (es_.getD i_ 0))), y9_]) (by rcases hY with ⟨rfl, rfl⟩ | ⟨u, v, rfl, rfl⟩ <;> rfl) k) ?_
      show own_Go p e below s _ _ _ (T39.setTop (mkF m 159 #[.val (.ref a), .val (.ref b2), .val (.ref b4), .val (.ref b8), .val (.ref b36), .val (.ref b8), .val (.int (Nat.toInt32 kn_)), .val (.int (Nat.toInt32 i_)), .val (.int (own_m m0 m1 m2 (es_.getD i_ 0))), y9_] []))
      refine own_via (fun _ k => XS.aloadN X39.here hx rfl (hb hby d1_159) rfl rfl k) ?_
      show own_Go p e below s _ _ _ (T39.setTop (mkF m 160 #[.val (.ref a), .val (.ref b2), .val (.ref b4), .val (.ref b8), .val (.ref b36), .val (.ref b8), .val (.int (Nat.toInt32 kn_)), .val (.int (Nat.toInt32 i_)), .val (.int (own_m m0 m1 m2 (es_.getD i_ 0))), y9_] [(.ref b2)]))
      refine own_via (fun _ k => XS.iload X39.here hx rfl (hb hby d1_160) rfl k) ?_
      show own_Go p e below s _ _ _ (T39.setTop (mkF m 162 #[.val (.ref a), .val (.ref b2), .val (.ref b4), .val (.ref b8), .val (.ref b36), .val (.ref b8), .val (.int (Nat.toInt32 kn_)), .val (.int (Nat.toInt32 i_)), .val (.int (own_m m0 m1 m2 (es_.getD i_ 0))), y9_] [(.int (own_m m0 m1 m2 (es_.getD i_ 0))), (.ref b2)]))
      obtain ⟨_, _, ⟨T59, L59, k59, n59⟩, -, X59, ⟨Lc59, hQ59, l59, y59, z59⟩, st59⟩ := Jvm.LawKit.callS X39 hx (y := (⟨"java/util/Arrays", "binarySearch", "([II)I"⟩ : MethodName)) hown (mvT hZ (hw _ (List.mem_of_getElem? (i := 33) rfl))) (mvT hZ (hw _ (List.mem_of_getElem? (i := 34) rfl))) (mvT hZ (hw _ (List.mem_of_getElem? (i := 35) rfl))) (mvT hZ (hw _ (List.mem_of_getElem? (i := 36) rfl))) (by decide) (backOf (W := 0) (rm4 l Z a0 hw [] b2 (own_m m0 m1 m2 (es_.getD i_ 0)) km_ m0 m1 m2 h39 n0 Z39 F44) hZ (hw _ (List.mem_of_getElem? (i := 36) rfl)) (hw _ (List.mem_of_getElem? (i := 35) rfl)) (by decide) (by decide)) (g := (mkF m 162 #[.val (.ref a), .val (.ref b2), .val (.ref b4), .val (.ref b8), .val (.ref b36), .val (.ref b8), .val (.int (Nat.toInt32 kn_)), .val (.int (Nat.toInt32 i_)), .val (.int (own_m m0 m1 m2 (es_.getD i_ 0))), y9_] [(.int (own_m m0 m1 m2 (es_.getD i_ 0))), (.ref b2)])) rfl (by rw [hml]; rfl) (argsL := [(.ref b2), (.int (own_m m0 m1 m2 (es_.getD i_ 0)))]) (rest := []) (lenOf pd_2 rfl) rfl (by show 2 * 0 + _ ≤ _; exact Nat.le_of_eq rfl) (hb hby d1_162) (fun _ _ => ⟨rfl, e39, (by decide : 4 + 0 ≤ _), (by decide : 12 + 0 ≤ _)⟩)
      dsimp only [Pt.U, Pt.locs, Pt.cells, Pt.slots] at X59 l59 y59 z59 st59 hQ59
      subst l59 y59 z59
      obtain ⟨rfl, N59q, e59⟩ := hQ59
      have N59 := Fr.app N39 N59q
      refine own_via st59 ?_
      show own_Go p e below s _ _ _ (T59.setTop (mkF m 165 #[.val (.ref a), .val (.ref b2), .val (.ref b4), .val (.ref b8), .val (.ref b36), .val (.ref b8), .val (.int (Nat.toInt32 kn_)), .val (.int (Nat.toInt32 i_)), .val (.int (own_m m0 m1 m2 (es_.getD i_ 0))), y9_] [(.int (own_bs m0 m1 m2 (own_m m0 m1 m2 (es_.getD i_ 0))))]))
      rw [show (own_bs m0 m1 m2 (own_m m0 m1 m2 (es_.getD i_ 0))) = (Nat.toInt32 (es_.getD i_ 0)) from (own_bsE hp12 hp13 (hp16 i_))]
      show own_Go p e below s _ _ _ (T59.setTop (mkF m 165 #[.val (.ref a), .val (.ref b2), .val (.ref b4), .val (.ref b8), .val (.ref b36), .val (.ref b8), .val (.int (Nat.toInt32 kn_)), .val (.int (Nat.toInt32 i_)), .val (.int (own_m m0 m1 m2 (es_.getD i_ 0))), y9_] [(.int (Nat.toInt32 (es_.getD i_ 0)))]))
      refine own_via (fun _ k => XS.istore X59.here hx rfl (hb hby d1_165) rfl (l' := #[.val (.ref a), .val (.ref b2), .val (.ref b4), .val (.ref b8), .val (.ref b36), .val (.ref b8), .val (.int (Nat.toInt32 kn_)), .val (.int (Nat.toInt32 i_)), .val (.int (own_m m0 m1 m2 (es_.getD i_ 0))), .val (.int (Nat.toInt32 (es_.getD i_ 0)))]) (by rcases hY with ⟨rfl, rfl⟩ | ⟨u, v, rfl, rfl⟩ <;> rfl) k) ?_
      show own_Go p e below s _ _ _ (T59.setTop (mkF m 167 #[.val (.ref a), .val (.ref b2), .val (.ref b4), .val (.ref b8), .val (.ref b36), .val (.ref b8), .val (.int (Nat.toInt32 kn_)), .val (.int (Nat.toInt32 i_)), .val (.int (own_m m0 m1 m2 (es_.getD i_ 0))), .val (.int (Nat.toInt32 (es_.getD i_ 0)))] []))
      refine own_via (fun _ k => XS.iload X59.here hx rfl (hb hby d1_167) rfl k) ?_
      show own_Go p e below s _ _ _ (T59.setTop (mkF m 169 #[.val (.ref a), .val (.ref b2), .val (.ref b4), .val (.ref b8), .val (.ref b36), .val (.ref b8), .val (.int (Nat.toInt32 kn_)), .val (.int (Nat.toInt32 i_)), .val (.int (own_m m0 m1 m2 (es_.getD i_ 0))), .val (.int (Nat.toInt32 (es_.getD i_ 0)))] [(.int (Nat.toInt32 (es_.getD i_ 0)))]))
      have hc60 : ¬ ((Nat.toInt32 (es_.getD i_ 0)) < (0 : Int32)) := own_nn (by have := hp16 i_; omega)
      refine own_via (fun _ k => XS.ifNo X59.here hx rfl (hb hby d1_169) rfl (Jvm.Free.XT.i0_lt_f hc60) k) ?_
      show own_Go p e below s _ _ _ (T59.setTop (mkF m 172 #[.val (.ref a), .val (.ref b2), .val (.ref b4), .val (.ref b8), .val (.ref b36), .val (.ref b8), .val (.int (Nat.toInt32 kn_)), .val (.int (Nat.toInt32 i_)), .val (.int (own_m m0 m1 m2 (es_.getD i_ 0))), .val (.int (Nat.toInt32 (es_.getD i_ 0)))] []))
      refine own_via (fun _ k => XS.aload X59.here hx rfl (hb hby d1_172) rfl rfl k) ?_
      show own_Go p e below s _ _ _ (T59.setTop (mkF m 174 #[.val (.ref a), .val (.ref b2), .val (.ref b4), .val (.ref b8), .val (.ref b36), .val (.ref b8), .val (.int (Nat.toInt32 kn_)), .val (.int (Nat.toInt32 i_)), .val (.int (own_m m0 m1 m2 (es_.getD i_ 0))), .val (.int (Nat.toInt32 (es_.getD i_ 0)))] [(.ref b36)]))
      refine own_via (fun _ k => XS.iload X59.here hx rfl (hb hby d1_174) rfl k) ?_
      show own_Go p e below s _ _ _ (T59.setTop (mkF m 176 #[.val (.ref a), .val (.ref b2), .val (.ref b4), .val (.ref b8), .val (.ref b36), .val (.ref b8), .val (.int (Nat.toInt32 kn_)), .val (.int (Nat.toInt32 i_)), .val (.int (own_m m0 m1 m2 (es_.getD i_ 0))), .val (.int (Nat.toInt32 (es_.getD i_ 0)))] [(.int (Nat.toInt32 (es_.getD i_ 0))), (.ref b36)]))
      obtain ⟨cl61, Ar61, q61, S61, M61, H61, G61⟩ := (id F46)
      have hin61 : ¬ ((Nat.toInt32 (es_.getD i_ 0)) < 0 ∨ cl61.slots.size ≤ ((Nat.toInt32 (es_.getD i_ 0))).toNatClampNeg) := inb_of S61 (own_inb (by have := hp16 i_; omega) (by show (((es_.getD i_ 0) : Nat) : Int) < 3; have := hp16 i_; omega))
      have hat61 : cl61.slots[((Nat.toInt32 (es_.getD i_ 0))).toNatClampNeg]? = some (.int (0 : Int32)) := Has.at H61 hin61 (by rw [own_nc (by have := hp16 i_; omega)]; exact hS i_ (Nat.le_refl _) (by omega))
      refine own_via (fun _ k => X59.baloadBooleans hx (j := (Nat.toInt32 (es_.getD i_ 0))) (v := (.int (0 : Int32))) (by rw [e59]; exact Ar61.1) (State.isArrayOf_alike hZ.alike Ar61.2.1) Ar61.2.2 hin61 hat61 (g := (mkF m 176 #[.val (.ref a), .val (.ref b2), .val (.ref b4), .val (.ref b8), .val (.ref b36), .val (.ref b8), .val (.int (Nat.toInt32 kn_)), .val (.int (Nat.toInt32 i_)), .val (.int (own_m m0 m1 m2 (es_.getD i_ 0))), .val (.int (Nat.toInt32 (es_.getD i_ 0)))] [(.int (Nat.toInt32 (es_.getD i_ 0))), (.ref b36)])) rfl rfl (hb hby d1_176) _ k) ?_
      show own_Go p e below s _ _ _ (T59.setTop (mkF m 177 #[.val (.ref a), .val (.ref b2), .val (.ref b4), .val (.ref b8), .val (.ref b36), .val (.ref b8), .val (.int (Nat.toInt32 kn_)), .val (.int (Nat.toInt32 i_)), .val (.int (own_m m0 m1 m2 (es_.getD i_ 0))), .val (.int (Nat.toInt32 (es_.getD i_ 0)))] [(.int (0 : Int32))]))
      refine own_via (fun _ k => XS.ifYes X59.here hx rfl (pc0 := 177) (pc' := 203) rfl (hb hby d1_177) rfl (Jvm.Free.XT.i0_eq_t (by decide)) (by decide) (by decide) k) ?_
      show own_Go p e below s _ _ _ (T59.setTop (mkF m 203 #[.val (.ref a), .val (.ref b2), .val (.ref b4), .val (.ref b8), .val (.ref b36), .val (.ref b8), .val (.int (Nat.toInt32 kn_)), .val (.int (Nat.toInt32 i_)), .val (.int (own_m m0 m1 m2 (es_.getD i_ 0))), .val (.int (Nat.toInt32 (es_.getD i_ 0)))] []))
      refine own_via (fun _ k => XS.aload X59.here hx rfl (hb hby d1_203) rfl rfl k) ?_
      show own_Go p e below s _ _ _ (T59.setTop (mkF m 205 #[.val (.ref a), .val (.ref b2), .val (.ref b4), .val (.ref b8), .val (.ref b36), .val (.ref b8), .val (.int (Nat.toInt32 kn_)), .val (.int (Nat.toInt32 i_)), .val (.int (own_m m0 m1 m2 (es_.getD i_ 0))), .val (.int (Nat.toInt32 (es_.getD i_ 0)))] [(.ref b36)]))
      refine own_via (fun _ k => XS.iload X59.here hx rfl (hb hby d1_205) rfl k) ?_
      show own_Go p e below s _ _ _ (T59.setTop (mkF m 207 #[.val (.ref a), .val (.ref b2), .val (.ref b4), .val (.ref b8), .val (.ref b36), .val (.ref b8), .val (.int (Nat.toInt32 kn_)), .val (.int (Nat.toInt32 i_)), .val (.int (own_m m0 m1 m2 (es_.getD i_ 0))), .val (.int (Nat.toInt32 (es_.getD i_ 0)))] [(.int (Nat.toInt32 (es_.getD i_ 0))), (.ref b36)]))
      refine own_via (fun _ k => XS.iconst X59.here hx rfl (hb hby d1_207) k) ?_
      show own_Go p e below s _ _ _ (T59.setTop (mkF m 208 #[.val (.ref a), .val (.ref b2), .val (.ref b4), .val (.ref b8), .val (.ref b36), .val (.ref b8), .val (.int (Nat.toInt32 kn_)), .val (.int (Nat.toInt32 i_)), .val (.int (own_m m0 m1 m2 (es_.getD i_ 0))), .val (.int (Nat.toInt32 (es_.getD i_ 0)))] [(.int (1 : Int32)), (.int (Nat.toInt32 (es_.getD i_ 0))), (.ref b36)]))
      obtain ⟨cl62, Ar62, q62, S62, M62, H62, G62⟩ := (id F46)
      have hin62 : ¬ ((Nat.toInt32 (es_.getD i_ 0)) < 0 ∨ cl62.slots.size ≤ ((Nat.toInt32 (es_.getD i_ 0))).toNatClampNeg) := inb_of S62 (own_inb (by have := hp16 i_; omega) (by show (((es_.getD i_ 0) : Nat) : Int) < 3; have := hp16 i_; omega))
      obtain ⟨T62, h62, X62, e62, W62, st62⟩ := stZ X59 hx hZ e59 Ar62 (j := (Nat.toInt32 (es_.getD i_ 0))) hin62 (g := (mkF m 208 #[.val (.ref a), .val (.ref b2), .val (.ref b4), .val (.ref b8), .val (.ref b36), .val (.ref b8), .val (.int (Nat.toInt32 kn_)), .val (.int (Nat.toInt32 i_)), .val (.int (own_m m0 m1 m2 (es_.getD i_ 0))), .val (.int (Nat.toInt32 (es_.getD i_ 0)))] [(.int (1 : Int32)), (.int (Nat.toInt32 (es_.getD i_ 0))), (.ref b36)])) rfl rfl (hb hby d1_208)
      have V62 : Arv Z h62 b36 k36 .boolean (3 : Int32) (ss_.set (es_.getD i_ 0) own_one) (.int (0 : Int32)) := Arv.set Ar62 q62 S62 M62 H62 G62 (fits_nar_bool _) W62 (es_.getD i_ 0) (own_nc (by have := hp16 i_; omega)) (by rw [hL]; exact hp16 i_)
      have N62 := Fr.snoc X62 N59 g_b36
      have Z62 : n0 ≤ h62.size := Nat.le_trans Z39 (Keep.of_wr W62).1
      have K62 : Keep h0 h62 [a] := K39.wr W62 (Or.inr sz_b36)
      refine own_via st62 ?_
      show own_Go p e below s _ _ _ (T62.setTop (mkF m 209 #[.val (.ref a), .val (.ref b2), .val (.ref b4), .val (.ref b8), .val (.ref b36), .val (.ref b8), .val (.int (Nat.toInt32 kn_)), .val (.int (Nat.toInt32 i_)), .val (.int (own_m m0 m1 m2 (es_.getD i_ 0))), .val (.int (Nat.toInt32 (es_.getD i_ 0)))] []))
      refine own_via (fun _ k => XS.iinc X62.here hx rfl (hb hby d1_209) rfl (l' := #[.val (.ref a), .val (.ref b2), .val (.ref b4), .val (.ref b8), .val (.ref b36), .val (.ref b8), .val (.int (Nat.toInt32 kn_)), .val (.int ((Nat.toInt32 i_) + (1 : Int32))), .val (.int (own_m m0 m1 m2 (es_.getD i_ 0))), .val (.int (Nat.toInt32 (es_.getD i_ 0)))]) rfl k) ?_
      show own_Go p e below s _ _ _ (T62.setTop (mkF m 212 #[.val (.ref a), .val (.ref b2), .val (.ref b4), .val (.ref b8), .val (.ref b36), .val (.ref b8), .val (.int (Nat.toInt32 kn_)), .val (.int ((Nat.toInt32 i_) + (1 : Int32))), .val (.int (own_m m0 m1 m2 (es_.getD i_ 0))), .val (.int (Nat.toInt32 (es_.getD i_ 0)))] []))
      refine own_via (fun _ k => XS.goto X62.here hx rfl (pc0 := 212) (pc' := 145) rfl (hb hby d1_212) (by decide) (by decide) k) ?_
      show own_Go p e below s _ _ _ (T62.setTop (mkF m 145 #[.val (.ref a), .val (.ref b2), .val (.ref b4), .val (.ref b8), .val (.ref b36), .val (.ref b8), .val (.int (Nat.toInt32 kn_)), .val (.int ((Nat.toInt32 i_) + (1 : Int32))), .val (.int (own_m m0 m1 m2 (es_.getD i_ 0))), .val (.int (Nat.toInt32 (es_.getD i_ 0)))] []))
      rw [own_succ]
      show own_Go p e below s _ _ _ (T62.setTop (mkF m 145 #[.val (.ref a), .val (.ref b2), .val (.ref b4), .val (.ref b8), .val (.ref b36), .val (.ref b8), .val (.int (Nat.toInt32 kn_)), .val (.int (Nat.toInt32 (i_ + 1))), .val (.int (own_m m0 m1 m2 (es_.getD i_ 0))), .val (.int (Nat.toInt32 (es_.getD i_ 0)))] []))
      have F63 := (F40.wr W62)
      have F64 := (F41.other W62 (Or.inl ne_a_b36))
      have F65 := (F42.other W62 (Or.inl ne_a_b36))
      have F66 := (F43.other W62 (Or.inl ne_a_b36))
      have F67 := (F44.other W62 ne_b2_b36)
      have F68 := (F45.other W62 ne_b8_b36)
      exact ih (i_ + 1) (ss_.set (es_.getD i_ 0) own_one) (.val (.int (own_m m0 m1 m2 (es_.getD i_ 0)))) (.val (.int (Nat.toInt32 (es_.getD i_ 0)))) _ _ _ X62 e62 N62 Z62 K62 F63 F64 F65 F66 F67 F68 V62 (by omega) (fun j a b => (own_sd (hp17 i_ j (by omega) b)).trans (hS j (by omega) b)) (by rw [List.length_set]; exact hL) (Or.inr ⟨_, _, rfl, rfl⟩)
  show own_Go p e below s _ _ _ (T36.setTop (mkF m 145 #[.val (.ref a), .val (.ref b2), .val (.ref b4), .val (.ref b8), .val (.ref b36), .val (.ref b8), .val (.int (Nat.toInt32 kn_)), .val (.int (Nat.toInt32 0)), .unset, .unset] []))
  have F69 := ((((E_a.ext E2).ext E4).ext E8).ext E36)
  have F70 := ((((F_members_a.ext E2).ext E4).ext E8).ext E36)
  have F71 := ((((F_granted_a.ext E2).ext E4).ext E8).ext E36)
  have F72 := ((((F_queue_a.ext E2).ext E4).ext E8).ext E36)
  have F73 := (F15.ext E36)
  exact lp kn_ 0 own_z3 .unset .unset _ _ _ X36 e36 N1 Z36 K36 F69 F70 F71 F72 F73 F38 V36 (by omega) (fun j _ _ => own_z3D (hp16 j)) (rfl) (Or.inl ⟨rfl, rfl⟩)
theorem d6_0 : decode prog_78_method_7_code 0 = .ok (.aload_n 0, 1) := by decide +kernel
theorem d6_1 : decode prog_78_method_7_code 1 = .ok (.getfield 49, 3) := by decide +kernel
theorem d6_4 : decode prog_78_method_7_code 4 = .ok (.astore_n 2, 1) := by decide +kernel
theorem d6_5 : decode prog_78_method_7_code 5 = .ok (.aload_n 2, 1) := by decide +kernel
theorem d6_6 : decode prog_78_method_7_code 6 = .ok (.arraylength, 1) := by decide +kernel
theorem d6_7 : decode prog_78_method_7_code 7 = .ok (.istore_n 3, 1) := by decide +kernel
theorem d6_8 : decode prog_78_method_7_code 8 = .ok (.iconst 0, 1) := by decide +kernel
theorem d6_9 : decode prog_78_method_7_code 9 = .ok (.istore 4, 2) := by decide +kernel
theorem d6_11 : decode prog_78_method_7_code 11 = .ok (.iload 4, 2) := by decide +kernel
theorem d6_13 : decode prog_78_method_7_code 13 = .ok (.iload_n 3, 1) := by decide +kernel
theorem d6_14 : decode prog_78_method_7_code 14 = .ok (.if_icmp .ge 23, 3) := by decide +kernel
theorem d6_37 : decode prog_78_method_7_code 37 = .ok (.iconst 0, 1) := by decide +kernel
theorem d6_38 : decode prog_78_method_7_code 38 = .ok (.ireturn, 1) := by decide +kernel
theorem d6_17 : decode prog_78_method_7_code 17 = .ok (.aload_n 2, 1) := by decide +kernel
theorem d6_18 : decode prog_78_method_7_code 18 = .ok (.iload 4, 2) := by decide +kernel
theorem d6_20 : decode prog_78_method_7_code 20 = .ok (.iaload, 1) := by decide +kernel
theorem d6_21 : decode prog_78_method_7_code 21 = .ok (.istore 5, 2) := by decide +kernel
theorem d6_23 : decode prog_78_method_7_code 23 = .ok (.iload 5, 2) := by decide +kernel
theorem d6_25 : decode prog_78_method_7_code 25 = .ok (.iload_n 1, 1) := by decide +kernel
theorem d6_26 : decode prog_78_method_7_code 26 = .ok (.if_icmp .ne 5, 3) := by decide +kernel
theorem d6_29 : decode prog_78_method_7_code 29 = .ok (.iconst 1, 1) := by decide +kernel
theorem d6_30 : decode prog_78_method_7_code 30 = .ok (.ireturn, 1) := by decide +kernel
theorem d6_31 : decode prog_78_method_7_code 31 = .ok (.iinc 4 1, 3) := by decide +kernel
theorem d6_34 : decode prog_78_method_7_code 34 = .ok (.goto (-23), 3) := by decide +kernel
theorem ef_6 (m : MethodId) (x0 : Addr) (x1 : Int32) : entryFrame m #[(.ref x0), (.int x1)] 6 = mkF m 0 #[.val (.ref x0), .val (.int x1), .unset, .unset, .unset, .unset] [] := by first | (simp [entryFrame, mkF, argsToLocals, Value.category]; done) | rfl
def Q6 (Z : State) (a : Addr) (px_ : Int32) (cq_ : Addr) (kq_ : ClassId) (kn_ : Nat) (us_ : List Int32) (h0 : Heap) (n0 : Nat) (v : Option Value) (h : Heap) (L : List Loc) : Prop := v = some (.int (own_qs us_ px_ kn_ 0)) ∧ Fr n0 L ∧ h = h0
set_option maxRecDepth 65536 in
set_option maxHeartbeats 40000000 in
theorem rm6 (l : Launch) (Z : State) (a0 : Array Value) (hw : ∀ d ∈ tables_1, d.before a0 Z = true) (ws : List Jvm.Cond) (a : Addr) (px_ : Int32) (cq_ : Addr) (kq_ : ClassId) (kn_ : Nat) (us_ : List Int32) (h0 : Heap) (n0 : Nat) (Z0 : n0 ≤ h0.size) (F_queue_a : Fld Z h0 a "com/example/greenbelt/greenbelt/model/Token" "queue" "[I" (.ref cq_)) (V_cq_ : Arv Z h0 cq_ kq_ .int (Nat.toInt32 kn_) (us_.map Value.int) (.int (0 : Int32))) (hp2 : kn_ ≤ 3) :
    MetFree l (⟨"com/example/greenbelt/greenbelt/model/Token", "queues", "(I)Z"⟩ : MethodName) (head1 (Jvm.Cond.code (⟨"com/example/greenbelt/greenbelt/model/Token", "queues", "(I)Z"⟩ : MethodName) prog_78_method_7_code 6 (some .boolean) :: ws) ({ frames := 0, cells := 0, slots := 0, locals := 0 } : Room)) (fun q_ U => q_ = #[(.ref a), (.int px_)] ∧ Z.Warmed39 U.vm ∧ U.heap = h0) (fun _ _ _ _ _ => True) (fun _ U o U' => ∃ v L, o = .returned v ∧ Q6 Z a px_ cq_ kq_ kn_ us_ h0 n0 v U'.heap L ∧ FrameEnd U o U' L ({ frames := 0, cells := 0, slots := 0, locals := 0 } : Room).cells ({ frames := 0, cells := 0, slots := 0, locals := 0 } : Room).slots) := by
  refine MetFree.of_bodySF (plainFor_of_name pn_2) hisR ?_
  intro p e s m args below meth c s₁ Bd hml0 hP hK
  obtain ⟨rfl, hZ, hh⟩ := hP
  have hx := Bd.exec
  have hby := Bd.bytes
  have hml : c.maxLocals = 6 := hml0
  have hown : s.vm.findClass "com/example/greenbelt/greenbelt/model/Token" = some m.cls := findClass_of_methodNamed Bd.named
  have hnm := (name_of_methodNamed Bd.named Bd.method).1
  have X0 : Stand p l e ({ frames := 0, cells := 0, slots := 0, locals := 0 } : Room) s m #[(.ref a), (.int px_)] below meth c s₁ [] 0 0 := Stand.of_body Bd
  have e0 : s₁.heap = h0 := by rw [← hh, Bd.state]; rfl
  have N0 := Fr.nil n0
  show own_Go p e below s (Q6 Z a px_ cq_ kq_ kn_ us_ h0 n0) ({ frames := 0, cells := 0, slots := 0, locals := 0 } : Room).cells ({ frames := 0, cells := 0, slots := 0, locals := 0 } : Room).slots (s₁.setTop (entryFrame m #[(.ref a), (.int px_)] 6))
  refine own_via (fun t k => castTop (ef_6 m a px_) k) ?_
  show own_Go p e below s _ _ _ (s₁.setTop (mkF m 0 #[.val (.ref a), .val (.int px_), .unset, .unset, .unset, .unset] []))
  refine own_via (fun _ k => XS.aloadN X0.here hx rfl (hb hby d6_0) rfl rfl k) ?_
  show own_Go p e below s _ _ _ (s₁.setTop (mkF m 1 #[.val (.ref a), .val (.int px_), .unset, .unset, .unset, .unset] [(.ref a)]))
  obtain ⟨T1, X1, e1, st1⟩ := getF X0 hx hZ hown (host := "") (Or.inl (hw _ (List.mem_of_getElem? (i := 44) rfl))) Via.refl e0 F_queue_a (g := (mkF m 1 #[.val (.ref a), .val (.int px_), .unset, .unset, .unset, .unset] [(.ref a)])) rfl rfl (hb hby d6_1)
  refine own_via st1 ?_
  show own_Go p e below s _ _ _ (T1.setTop (mkF m 4 #[.val (.ref a), .val (.int px_), .unset, .unset, .unset, .unset] [(.ref cq_)]))
  refine own_via (fun _ k => XS.astoreN X1.here hx rfl (hb hby d6_4) rfl rfl (l' := #[.val (.ref a), .val (.int px_), .val (.ref cq_), .unset, .unset, .unset]) rfl k) ?_
  show own_Go p e below s _ _ _ (T1.setTop (mkF m 5 #[.val (.ref a), .val (.int px_), .val (.ref cq_), .unset, .unset, .unset] []))
  refine own_via (fun _ k => XS.aloadN X1.here hx rfl (hb hby d6_5) rfl rfl k) ?_
  show own_Go p e below s _ _ _ (T1.setTop (mkF m 6 #[.val (.ref a), .val (.int px_), .val (.ref cq_), .unset, .unset, .unset] [(.ref cq_)]))
  obtain ⟨cl2, Ar2, q2, S2, M2, H2, G2⟩ := (id V_cq_)
  refine own_via (fun _ k => X1.arraylength hx (by rw [e1]; exact Ar2.1) (State.isArrayOf_alike hZ.alike Ar2.2.1) (g := (mkF m 6 #[.val (.ref a), .val (.int px_), .val (.ref cq_), .unset, .unset, .unset] [(.ref cq_)])) rfl rfl (hb hby d6_6) _ (by rw [len_of S2 M2]; exact k)) ?_
  show own_Go p e below s _ _ _ (T1.setTop (mkF m 7 #[.val (.ref a), .val (.int px_), .val (.ref cq_), .unset, .unset, .unset] [(.int (Nat.toInt32 kn_))]))
  refine own_via (fun _ k => XS.istoreN X1.here hx rfl (hb hby d6_7) rfl (l' := #[.val (.ref a), .val (.int px_), .val (.ref cq_), .val (.int (Nat.toInt32 kn_)), .unset, .unset]) rfl k) ?_
  show own_Go p e below s _ _ _ (T1.setTop (mkF m 8 #[.val (.ref a), .val (.int px_), .val (.ref cq_), .val (.int (Nat.toInt32 kn_)), .unset, .unset] []))
  refine own_via (fun _ k => XS.iconst X1.here hx rfl (hb hby d6_8) k) ?_
  show own_Go p e below s _ _ _ (T1.setTop (mkF m 9 #[.val (.ref a), .val (.int px_), .val (.ref cq_), .val (.int (Nat.toInt32 kn_)), .unset, .unset] [(.int (0 : Int32))]))
  refine own_via (fun _ k => XS.istore X1.here hx rfl (hb hby d6_9) rfl (l' := #[.val (.ref a), .val (.int px_), .val (.ref cq_), .val (.int (Nat.toInt32 kn_)), .val (.int (0 : Int32)), .unset]) rfl k) ?_
  show own_Go p e below s _ _ _ (T1.setTop (mkF m 11 #[.val (.ref a), .val (.int px_), .val (.ref cq_), .val (.int (Nat.toInt32 kn_)), .val (.int (0 : Int32)), .unset] []))
  show own_Go p e below s _ _ _ (T1.setTop (mkF m 11 #[.val (.ref a), .val (.int px_), .val (.ref cq_), .val (.int (Nat.toInt32 kn_)), .val (.int (Nat.toInt32 0)), .unset] []))
  have lp : ∀ (n_ : Nat) (i_ : Nat) (y5_ : Slot) (T3 : State) (lo3 : List Loc) (h3 : Heap), Stand p l e ({ frames := 0, cells := 0, slots := 0, locals := 0 } : Room) s m #[(.ref a), (.int px_)] below meth c T3 lo3 0 0 → T3.heap = h3 → Fr n0 lo3 → n0 ≤ h3.size → h3 = h0 → Fld Z h3 a "com/example/greenbelt/greenbelt/model/Token" "queue" "[I" (.ref cq_) → Arv Z h3 cq_ kq_ .int (Nat.toInt32 kn_) (us_.map Value.int) (.int (0 : Int32)) → i_ + n_ = kn_ → own_qs us_ px_ n_ i_ = own_qs us_ px_ kn_ 0 → (y5_ = .unset ∨ (∃ u, y5_ = .val (.int u))) → own_Go p e below s (Q6 Z a px_ cq_ kq_ kn_ us_ h0 n0) ({ frames := 0, cells := 0, slots := 0, locals := 0 } : Room).cells ({ frames := 0, cells := 0, slots := 0, locals := 0 } : Room).slots (T3.setTop (mkF m 11 #[.val (.ref a), .val (.int px_), .val (.ref cq_), .val (.int (Nat.toInt32 kn_)), .val (.int (Nat.toInt32 i_)), y5_] [])) := by
    intro n_
    induction n_ with
    | zero =>
      intro i_ y5_ T3 lo3 h3 X3 e3 N3 Z3 hh3 F4 F5 hE hr hY
      show own_Go p e below s _ _ _ (T3.setTop (mkF m 11 #[.val (.ref a), .val (.int px_), .val (.ref cq_), .val (.int (Nat.toInt32 kn_)), .val (.int (Nat.toInt32 i_)), y5_] []))
      refine own_via (fun _ k => XS.iload X3.here hx rfl (hb hby d6_11) rfl k) ?_
      show own_Go p e below s _ _ _ (T3.setTop (mkF m 13 #[.val (.ref a), .val (.int px_), .val (.ref cq_), .val (.int (Nat.toInt32 kn_)), .val (.int (Nat.toInt32 i_)), y5_] [(.int (Nat.toInt32 i_))]))
      refine own_via (fun _ k => XS.iloadN X3.here hx rfl (hb hby d6_13) rfl k) ?_
      show own_Go p e below s _ _ _ (T3.setTop (mkF m 14 #[.val (.ref a), .val (.int px_), .val (.ref cq_), .val (.int (Nat.toInt32 kn_)), .val (.int (Nat.toInt32 i_)), y5_] [(.int (Nat.toInt32 kn_)), (.int (Nat.toInt32 i_))]))
      have hc6 : ¬ ((Nat.toInt32 i_) < (Nat.toInt32 kn_)) := fun q => absurd ((own_ltn (by omega) (by omega)).mp q) (by omega)
      refine own_via (fun _ k => XS.icmpYes X3.here hx rfl (pc0 := 14) (pc' := 37) rfl (hb hby d6_14) rfl (Jvm.Free.XT.ii_ge_t hc6) (by decide) (by decide) k) ?_
      show own_Go p e below s _ _ _ (T3.setTop (mkF m 37 #[.val (.ref a), .val (.int px_), .val (.ref cq_), .val (.int (Nat.toInt32 kn_)), .val (.int (Nat.toInt32 i_)), y5_] []))
      refine own_via (fun _ k => XS.iconst X3.here hx rfl (hb hby d6_37) k) ?_
      show own_Go p e below s _ _ _ (T3.setTop (mkF m 38 #[.val (.ref a), .val (.int px_), .val (.ref cq_), .val (.int (Nat.toInt32 kn_)), .val (.int (Nat.toInt32 i_)), y5_] [(.int (0 : Int32))]))
      exact own_goN X3 hx (t := .boolean) Bd.returns (by simp) (hb hby d6_38) Bd.notSynchronized (by decide) (by decide) (by rw [e3]; exact ⟨(by rw [← hr, own_qs]; rfl), N3, hh3⟩)
    | succ n_ ih =>
      intro i_ y5_ T3 lo3 h3 X3 e3 N3 Z3 hh3 F4 F5 hE hr hY
      show own_Go p e below s _ _ _ (T3.setTop (mkF m 11 #[.val (.ref a), .val (.int px_), .val (.ref cq_), .val (.int (Nat.toInt32 kn_)), .val (.int (Nat.toInt32 i_)), y5_] []))
      refine own_via (fun _ k => XS.iload X3.here hx rfl (hb hby d6_11) rfl k) ?_
      show own_Go p e below s _ _ _ (T3.setTop (mkF m 13 #[.val (.ref a), .val (.int px_), .val (.ref cq_), .val (.int (Nat.toInt32 kn_)), .val (.int (Nat.toInt32 i_)), y5_] [(.int (Nat.toInt32 i_))]))
      refine own_via (fun _ k => XS.iloadN X3.here hx rfl (hb hby d6_13) rfl k) ?_
      show own_Go p e below s _ _ _ (T3.setTop (mkF m 14 #[.val (.ref a), .val (.int px_), .val (.ref cq_), .val (.int (Nat.toInt32 kn_)), .val (.int (Nat.toInt32 i_)), y5_] [(.int (Nat.toInt32 kn_)), (.int (Nat.toInt32 i_))]))
      have hc7 : (Nat.toInt32 i_) < (Nat.toInt32 kn_) := (own_ltn (by omega) (by omega)).mpr (by omega)
      refine own_via (fun _ k => XS.icmpNo X3.here hx rfl (hb hby d6_14) rfl (Jvm.Free.XT.ii_ge_f hc7) k) ?_
      show own_Go p e below s _ _ _ (T3.setTop (mkF m 17 #[.val (.ref a), .val (.int px_), .val (.ref cq_), .val (.int (Nat.toInt32 kn_)), .val (.int (Nat.toInt32 i_)), y5_] []))
      refine own_via (fun _ k => XS.aloadN X3.here hx rfl (hb hby d6_17) rfl rfl k) ?_
      show own_Go p e below s _ _ _ (T3.setTop (mkF m 18 #[.val (.ref a), .val (.int px_), .val (.ref cq_), .val (.int (Nat.toInt32 kn_)), .val (.int (Nat.toInt32 i_)), y5_] [(.ref cq_)]))
      refine own_via (fun _ k => XS.iload X3.here hx rfl (hb hby d6_18) rfl k) ?_
      show own_Go p e below s _ _ _ (T3.setTop (mkF m 20 #[.val (.ref a), .val (.int px_), .val (.ref cq_), .val (.int (Nat.toInt32 kn_)), .val (.int (Nat.toInt32 i_)), y5_] [(.int (Nat.toInt32 i_)), (.ref cq_)]))
      obtain ⟨cl8, Ar8, q8, S8, M8, H8, G8⟩ := (id F5)
      have hin8 : ¬ ((Nat.toInt32 i_) < 0 ∨ cl8.slots.size ≤ ((Nat.toInt32 i_)).toNatClampNeg) := inb_of S8 (own_inb (by omega) (by rw [own_t kn_ (by omega)]; omega))
      have hat8 : cl8.slots[((Nat.toInt32 i_)).toNatClampNeg]? = some (.int (us_.getD i_ 0)) := Has.at H8 hin8 (own_gm _ (by omega))
      refine own_via (fun _ k => X3.iaload hx (j := (Nat.toInt32 i_)) (v := (.int (us_.getD i_ 0))) (by rw [e3]; exact Ar8.1) (State.isArrayOf_alike hZ.alike Ar8.2.1) Ar8.2.2 hin8 hat8 (g := (mkF m 20 #[.val (.ref a), .val (.int px_), .val (.ref cq_), .val (.int (Nat.toInt32 kn_)), .val (.int (Nat.toInt32 i_)), y5_] [(.int (Nat.toInt32 i_)), (.ref cq_)])) rfl rfl (hb hby d6_20) _ k) ?_
      show own_Go p e below s _ _ _ (T3.setTop (mkF m 21 #[.val (.ref a), .val (.int px_), .val (.ref cq_), .val (.int (Nat.toInt32 kn_)), .val (.int (Nat.toInt32 i_)), y5_] [(.int (us_.getD i_ 0))]))
      refine own_via (fun _ k => XS.istore X3.here hx rfl (hb hby d6_21) rfl (l' := #[.val (.ref a), .val (.int px_), .val (.ref cq_), .val (.int (Nat.toInt32 kn_)), .val (.int (Nat.toInt32 i_)), .val (.int (us_.getD i_ 0))]) (by rcases hY with rfl | ⟨u, rfl⟩ <;> rfl) k) ?_
      show own_Go p e below s _ _ _ (T3.setTop (mkF m 23 #[.val (.ref a), .val (.int px_), .val (.ref cq_), .val (.int (Nat.toInt32 kn_)), .val (.int (Nat.toInt32 i_)), .val (.int (us_.getD i_ 0))] []))
      refine own_via (fun _ k => XS.iload X3.here hx rfl (hb hby d6_23) rfl k) ?_
      show own_Go p e below s _ _ _ (T3.setTop (mkF m 25 #[.val (.ref a), .val (.int px_), .val (.ref cq_), .val (.int (Nat.toInt32 kn_)), .val (.int (Nat.toInt32 i_)), .val (.int (us_.getD i_ 0))] [(.int (us_.getD i_ 0))]))
      refine own_via (fun _ k => XS.iloadN X3.here hx rfl (hb hby d6_25) rfl k) ?_
      show own_Go p e below s _ _ _ (T3.setTop (mkF m 26 #[.val (.ref a), .val (.int px_), .val (.ref cq_), .val (.int (Nat.toInt32 kn_)), .val (.int (Nat.toInt32 i_)), .val (.int (us_.getD i_ 0))] [(.int px_), (.int (us_.getD i_ 0))]))
      by_cases hc9 : (us_.getD i_ 0) = px_
      · refine own_via (fun _ k => XS.icmpNo X3.here hx rfl (hb hby d6_26) rfl (Jvm.Free.XT.ii_ne_f hc9) k) ?_
        show own_Go p e below s _ _ _ (T3.setTop (mkF m 29 #[.val (.ref a), .val (.int px_), .val (.ref cq_), .val (.int (Nat.toInt32 kn_)), .val (.int (Nat.toInt32 i_)), .val (.int (us_.getD i_ 0))] []))
        refine own_via (fun _ k => XS.iconst X3.here hx rfl (hb hby d6_29) k) ?_
        show own_Go p e below s _ _ _ (T3.setTop (mkF m 30 #[.val (.ref a), .val (.int px_), .val (.ref cq_), .val (.int (Nat.toInt32 kn_)), .val (.int (Nat.toInt32 i_)), .val (.int (us_.getD i_ 0))] [(.int (1 : Int32))]))
        exact own_goN X3 hx (t := .boolean) Bd.returns (by simp) (hb hby d6_30) Bd.notSynchronized (by decide) (by decide) (by rw [e3]; exact ⟨(by rw [← hr, own_qs, if_pos hc9]; rfl), N3, hh3⟩)
      · refine own_via (fun _ k => XS.icmpYes X3.here hx rfl (pc0 := 26) (pc' := 31) rfl (hb hby d6_26) rfl (Jvm.Free.XT.ii_ne_t hc9) (by decide) (by decide) k) ?_
        show own_Go p e below s _ _ _ (T3.setTop (mkF m 31 #[.val (.ref a), .val (.int px_), .val (.ref cq_), .val (.int (Nat.toInt32 kn_)), .val (.int (Nat.toInt32 i_)), .val (.int (us_.getD i_ 0))] []))
        refine own_via (fun _ k => XS.iinc X3.here hx rfl (hb hby d6_31) rfl (l' := #[.val (.ref a), .val (.int px_), .val (.ref cq_), .val (.int (Nat.toInt32 kn_)), .val (.int ((Nat.toInt32 i_) + (1 : Int32))), .val (.int (us_.getD i_ 0))]) rfl k) ?_
        show own_Go p e below s _ _ _ (T3.setTop (mkF m 34 #[.val (.ref a), .val (.int px_), .val (.ref cq_), .val (.int (Nat.toInt32 kn_)), .val (.int ((Nat.toInt32 i_) + (1 : Int32))), .val (.int (us_.getD i_ 0))] []))
        refine own_via (fun _ k => XS.goto X3.here hx rfl (pc0 := 34) (pc' := 11) rfl (hb hby d6_34) (by decide) (by decide) k) ?_
        show own_Go p e below s _ _ _ (T3.setTop (mkF m 11 #[.val (.ref a), .val (.int px_), .val (.ref cq_), .val (.int (Nat.toInt32 kn_)), .val (.int ((Nat.toInt32 i_) + (1 : Int32))), .val (.int (us_.getD i_ 0))] []))
        rw [own_succ]
        show own_Go p e below s _ _ _ (T3.setTop (mkF m 11 #[.val (.ref a), .val (.int px_), .val (.ref cq_), .val (.int (Nat.toInt32 kn_)), .val (.int (Nat.toInt32 (i_ + 1))), .val (.int (us_.getD i_ 0))] []))
        exact ih (i_ + 1) (.val (.int (us_.getD i_ 0))) _ _ _ X3 e3 N3 Z3 hh3 F4 F5 (by omega) (by rw [← hr, own_qs, if_neg hc9]) (Or.inr ⟨_, rfl⟩)
  show own_Go p e below s _ _ _ (T1.setTop (mkF m 11 #[.val (.ref a), .val (.int px_), .val (.ref cq_), .val (.int (Nat.toInt32 kn_)), .val (.int (Nat.toInt32 0)), .unset] []))
  exact lp kn_ 0 .unset _ _ _ X1 e1 N0 Z0 rfl F_queue_a V_cq_ (by omega) (rfl) (Or.inl rfl)

abbrev own_LA : List Value := [(.int (0 : Int32)), (.int (1 : Int32)), (.int (2 : Int32)), (.int (0 : Int32)), (.int (2 : Int32)), (.int (1 : Int32)), (.int (1 : Int32)), (.int (0 : Int32)), (.int (2 : Int32)), (.int (1 : Int32)), (.int (2 : Int32)), (.int (0 : Int32)), (.int (2 : Int32)), (.int (0 : Int32)), (.int (1 : Int32)), (.int (2 : Int32)), (.int (1 : Int32)), (.int (0 : Int32))]
abbrev own_LB : List Value := [(.int (0 : Int32)), (.int (1 : Int32)), (.int (2 : Int32)), (.int (0 : Int32)), (.int (2 : Int32)), (.int (1 : Int32)), (.int (1 : Int32)), (.int (0 : Int32)), (.int (2 : Int32)), (.int (2 : Int32)), (.int (0 : Int32)), (.int (1 : Int32)), (.int (1 : Int32)), (.int (2 : Int32)), (.int (0 : Int32)), (.int (2 : Int32)), (.int (1 : Int32)), (.int (0 : Int32))]
def own_perm (e0 e1 e2 : Nat) (t0 t1 t2 : Int32) : Prop := (e0 = 0 ∧ e1 = 1 ∧ e2 = 2 ∧ t0 = (0 : Int32) ∧ t1 = (1 : Int32) ∧ t2 = (2 : Int32)) ∨ (e0 = 0 ∧ e1 = 2 ∧ e2 = 1 ∧ t0 = (0 : Int32) ∧ t1 = (2 : Int32) ∧ t2 = (1 : Int32)) ∨ (e0 = 1 ∧ e1 = 0 ∧ e2 = 2 ∧ t0 = (1 : Int32) ∧ t1 = (0 : Int32) ∧ t2 = (2 : Int32)) ∨ (e0 = 1 ∧ e1 = 2 ∧ e2 = 0 ∧ t0 = (2 : Int32) ∧ t1 = (0 : Int32) ∧ t2 = (1 : Int32)) ∨ (e0 = 2 ∧ e1 = 0 ∧ e2 = 1 ∧ t0 = (1 : Int32) ∧ t1 = (2 : Int32) ∧ t2 = (0 : Int32)) ∨ (e0 = 2 ∧ e1 = 1 ∧ e2 = 0 ∧ t0 = (2 : Int32) ∧ t1 = (1 : Int32) ∧ t2 = (0 : Int32))
def own_kn (e0 e1 e2 kn : Nat) (es : List Nat) : Prop := (kn = 0 ∧ es = []) ∨ (kn = 1 ∧ es = [e0]) ∨ (kn = 2 ∧ es = [e0, e1]) ∨ (kn = 3 ∧ es = [e0, e1, e2])
theorem own_pe {e0 e1 e2 : Nat} {t0 t1 t2 : Int32} (h : own_perm e0 e1 e2 t0 t1 t2) : e0 < 3 ∧ e1 < 3 ∧ e2 < 3 ∧ e1 ≠ e0 ∧ e2 ≠ e0 ∧ e2 ≠ e1 := by
  unfold own_perm at h; omega
theorem own_and3 (x : Int32) {v : Int32} (h : (x &&& (3 : Int32)) = v) : v = (0 : Int32) ∨ v = (1 : Int32) ∨ v = (2 : Int32) ∨ v = (3 : Int32) := by
  obtain ⟨h0, h1⟩ := c_and x 3 (by decide)
  rw [h] at h0 h1
  simp only [Int32.reduceToInt] at h1
  simp only [← Int32.toInt_inj, Int32.reduceToInt]
  omega
theorem own_q6 (x : Int32) {v : Int32} (h : (o_irem (o_iushr x (2 : Int32)) (6 : Int32)) = v) : v = (0 : Int32) ∨ v = (1 : Int32) ∨ v = (2 : Int32) ∨ v = (3 : Int32) ∨ v = (4 : Int32) ∨ v = (5 : Int32) := by
  have m0 : 0 ≤ (o_iushr x (2 : Int32)).toInt := by
    have a := own_n_iushr x 2 2 rfl
    have b := own_n_lt x
    have c := own_n_int (o_iushr x 2)
    split at c <;> omega
  have m1 : o_irem (o_iushr x (2 : Int32)) (6 : Int32) = (o_iushr x (2 : Int32)) % 6 := irem_eq_mod _ _
  have m2 := (c_irem (o_iushr x (2 : Int32)) 6 6 rfl).1 m0
  rw [← m1, h] at m2
  simp only [← Int32.toInt_inj, Int32.reduceToInt]
  omega
theorem own_asc {p0 p1 p2 a b c : Int32} (h0 : ((1 : Int32) + (p0 &&& (536870911 : Int32))) = a) (h1 : ((a + (1 : Int32)) + (p1 &&& (536870911 : Int32))) = b) (h2 : ((b + (1 : Int32)) + (p2 &&& (536870911 : Int32))) = c) : ¬ a < (1 : Int32) ∧ a < b ∧ b < c := by
  have o1 : (1 : Int32).toInt = 1 := rfl
  have o5 : (536870911 : Int32).toInt = 536870911 := rfl
  have a0 := c_and p0 536870911 (by decide)
  have a1 := c_and p1 536870911 (by decide)
  have a2 := c_and p2 536870911 (by decide)
  have i0 := c_iadd 1 (p0 &&& 536870911); rw [h0] at i0
  have j0 := rng32 a
  have t0 : 1 ≤ a.toInt ∧ a.toInt ≤ 536870912 := by omega
  have s1 := c_iadd a 1; have s1' := rng32 (a + 1)
  have i1 := c_iadd (a + 1) (p1 &&& 536870911); rw [h1] at i1
  have j1 := rng32 b
  have t1 : a.toInt < b.toInt ∧ b.toInt ≤ 1073741824 := by omega
  have s2 := c_iadd b 1; have s2' := rng32 (b + 1)
  have i2 := c_iadd (b + 1) (p2 &&& 536870911); rw [h2] at i2
  have j2 := rng32 c
  have t2 : b.toInt < c.toInt := by omega
  simp only [Int32.lt_iff_toInt_lt, o1]
  omega
theorem own_ne {a b : Int32} (h : a < b) : a ≠ b := fun z => by rw [z] at h; exact Int32.lt_irrefl h

theorem own_f {e0 e1 e2 kn : Nat} {es : List Nat} {t0 t1 t2 a b c x : Int32} (h : own_perm e0 e1 e2 t0 t1 t2) (h1 : a < b) (h2 : b < c) (hk : own_kn e0 e1 e2 kn es) :
    (a = x → own_qs (es.map (own_m a b c)) x kn 0 = if t0 < (Nat.toInt32 kn) then (1 : Int32) else (0 : Int32)) ∧ (b = x → own_qs (es.map (own_m a b c)) x kn 0 = if t1 < (Nat.toInt32 kn) then (1 : Int32) else (0 : Int32)) ∧ (c = x → own_qs (es.map (own_m a b c)) x kn 0 = if t2 < (Nat.toInt32 kn) then (1 : Int32) else (0 : Int32)) ∧ (¬ a = x → ¬ b = x → ¬ c = x → own_qs (es.map (own_m a b c)) x kn 0 = (0 : Int32)) := by
  have n1 := own_ne h1
  have n2 := own_ne h2
  have n3 : a ≠ c := own_ne (Int32.lt_trans h1 h2)
  have k0 : Nat.toInt32 0 = (0 : Int32) := rfl
  have k1 : Nat.toInt32 1 = (1 : Int32) := rfl
  have k2 : Nat.toInt32 2 = (2 : Int32) := rfl
  have k3 : Nat.toInt32 3 = (3 : Int32) := rfl
  unfold own_perm at h
  unfold own_kn at hk
  rcases hk with ⟨rfl, rfl⟩ | ⟨rfl, rfl⟩ | ⟨rfl, rfl⟩ | ⟨rfl, rfl⟩ <;> rcases h with ⟨rfl, rfl, rfl, rfl, rfl, rfl⟩ | ⟨rfl, rfl, rfl, rfl, rfl, rfl⟩ | ⟨rfl, rfl, rfl, rfl, rfl, rfl⟩ | ⟨rfl, rfl, rfl, rfl, rfl, rfl⟩ | ⟨rfl, rfl, rfl, rfl, rfl, rfl⟩ | ⟨rfl, rfl, rfl, rfl, rfl, rfl⟩
  all_goals
    refine ⟨?_, ?_, ?_, ?_⟩
    · rintro rfl; simp [own_qs, own_m, k0, k1, k2, k3, n1, n2, n3, n1.symm, n2.symm, n3.symm]
    · rintro rfl; simp [own_qs, own_m, k0, k1, k2, k3, n1, n2, n3, n1.symm, n2.symm, n3.symm]
    · rintro rfl; simp [own_qs, own_m, k0, k1, k2, k3, n1, n2, n3, n1.symm, n2.symm, n3.symm]
    · intro z1 z2 z3; simp [own_qs, own_m, z1, z2, z3]
theorem own_kn_e {e0 e1 e2 kn : Nat} {es : List Nat} {t0 t1 t2 : Int32} (h : own_perm e0 e1 e2 t0 t1 t2) (hk : own_kn e0 e1 e2 kn es) : es.length = kn ∧ kn ≤ 3 ∧ (∀ j, es.getD j 0 < 3) ∧ (∀ i j, i < j → j < kn → es.getD j 0 ≠ es.getD i 0) := by
  obtain ⟨q0, q1, q2, q3, q4, q5⟩ := own_pe h
  unfold own_kn at hk
  rcases hk with ⟨rfl, rfl⟩ | ⟨rfl, rfl⟩ | ⟨rfl, rfl⟩ | ⟨rfl, rfl⟩
  · exact ⟨rfl, by decide, fun j => by simp, fun i j a b => by omega⟩
  · refine ⟨rfl, by decide, fun j => ?_, fun i j a b => by omega⟩
    match j with
    | 0 => exact q0
    | n + 1 => simp
  · refine ⟨rfl, by decide, fun j => ?_, fun i j a b => ?_⟩
    · match j with
      | 0 => exact q0
      | 1 => exact q1
      | n + 2 => simp
    · match i, j, a, b with
      | 0, 1, _, _ => exact q3
      | i, n + 2, _, b => omega
      | i + 1, 1, a, _ => omega
  · refine ⟨rfl, by decide, fun j => ?_, fun i j a b => ?_⟩
    · match j with
      | 0 => exact q0
      | 1 => exact q1
      | 2 => exact q2
      | n + 3 => simp
    · match i, j, a, b with
      | 0, 1, _, _ => exact q3
      | 0, 2, _, _ => exact q4
      | 1, 2, _, _ => exact q5
      | i, n + 3, _, b => omega
      | i + 1, 1, a, _ => omega
      | i + 2, 2, a, _ => omega

theorem pd_3 : parseMethodDescriptor "([I[J[I)V" = some ⟨[(.array .int), (.array .long), (.array .int)], none⟩ := by decide +kernel
theorem pd_4 : parseMethodDescriptor "(I)Z" = some ⟨[.int], some .boolean⟩ := by decide +kernel
theorem pn_3 : plainName "com/example/greenbelt/greenbelt/model/TokenQueuesPinLaw" = true := by first | (simp [plainName, overriddenIn]; done) | decide +kernel
theorem ef_0 (m : MethodId) (x0 : Int32) (x1 : Int32) (x2 : Int32) (x3 : Int32) (x4 : Int32) (x5 : Int32) : entryFrame m #[(.int x0), (.int x1), (.int x2), (.int x3), (.int x4), (.int x5)] maxLocals = mkF m 0 #[.val (.int x0), .val (.int x1), .val (.int x2), .val (.int x3), .val (.int x4), .val (.int x5), .unset, .unset, .unset, .unset, .unset, .unset, .unset, .unset, .unset, .unset, .unset, .unset, .unset, .unset, .unset, .unset, .unset] [] := by first | (simp [entryFrame, mkF, argsToLocals, Value.category, maxLocals]; done) | rfl
def Q0 (Z : State) (p0 : Int32) (p1 : Int32) (p2 : Int32) (p3 : Int32) (p4 : Int32) (p5 : Int32) (h0 : Heap) (n0 : Nat) (v : Option Value) (h : Heap) (L : List Loc) : Prop := v = some (.int 1) ∧ Fr n0 L
set_option maxRecDepth 65536 in
set_option maxHeartbeats 40000000 in
theorem rm0 (l : Launch) (Z : State) (a0 : Array Value) (hw : ∀ d ∈ tables_1, d.before a0 Z = true) (ws : List Jvm.Cond) (p0 : Int32) (p1 : Int32) (p2 : Int32) (p3 : Int32) (p4 : Int32) (p5 : Int32) (h0 : Heap) (n0 : Nat) (Z0 : n0 ≤ h0.size) :
    MetFree l x (head1 (Jvm.Cond.code x code maxLocals ret :: ws) room_1) (fun q_ U => q_ = #[(.int p0), (.int p1), (.int p2), (.int p3), (.int p4), (.int p5)] ∧ Z.Warmed39 U.vm ∧ U.heap = h0) (fun _ _ _ _ _ => True) (fun _ U o U' => ∃ v L, o = .returned v ∧ Q0 Z p0 p1 p2 p3 p4 p5 h0 n0 v U'.heap L ∧ FrameEnd U o U' L room_1.cells room_1.slots) := by
  refine MetFree.of_bodySF (plainFor_of_name pn_3) hisR ?_
  intro p e s m args below meth c s₁ Bd hml0 hP hK
  obtain ⟨rfl, hZ, hh⟩ := hP
  have hx := Bd.exec
  have hby := Bd.bytes
  have hml : c.maxLocals = 23 := hml0
  have hown : s.vm.findClass "com/example/greenbelt/greenbelt/model/TokenQueuesPinLaw" = some m.cls := findClass_of_methodNamed Bd.named
  have hnm := (name_of_methodNamed Bd.named Bd.method).1
  have X0 : Stand p l e room_1 s m #[(.int p0), (.int p1), (.int p2), (.int p3), (.int p4), (.int p5)] below meth c s₁ [] 0 0 := Stand.of_body Bd
  have e0 : s₁.heap = h0 := by rw [← hh, Bd.state]; rfl
  have N0 := Fr.nil n0
  show own_Go p e below s (Q0 Z p0 p1 p2 p3 p4 p5 h0 n0) room_1.cells room_1.slots (s₁.setTop (entryFrame m #[(.int p0), (.int p1), (.int p2), (.int p3), (.int p4), (.int p5)] maxLocals))
  refine own_via (fun t k => castTop (ef_0 m p0 p1 p2 p3 p4 p5) k) ?_
  show own_Go p e below s _ _ _ (s₁.setTop (mkF m 0 #[.val (.int p0), .val (.int p1), .val (.int p2), .val (.int p3), .val (.int p4), .val (.int p5), .unset, .unset, .unset, .unset, .unset, .unset, .unset, .unset, .unset, .unset, .unset, .unset, .unset, .unset, .unset, .unset, .unset] []))
  refine own_via (fun _ k => XS.iconst X0.here hx rfl (hb hby at_0) k) ?_
  show own_Go p e below s _ _ _ (s₁.setTop (mkF m 1 #[.val (.int p0), .val (.int p1), .val (.int p2), .val (.int p3), .val (.int p4), .val (.int p5), .unset, .unset, .unset, .unset, .unset, .unset, .unset, .unset, .unset, .unset, .unset, .unset, .unset, .unset, .unset, .unset, .unset] [(.int (1 : Int32))]))
  refine own_via (fun _ k => XS.iloadN X0.here hx rfl (hb hby at_1) rfl k) ?_
  show own_Go p e below s _ _ _ (s₁.setTop (mkF m 2 #[.val (.int p0), .val (.int p1), .val (.int p2), .val (.int p3), .val (.int p4), .val (.int p5), .unset, .unset, .unset, .unset, .unset, .unset, .unset, .unset, .unset, .unset, .unset, .unset, .unset, .unset, .unset, .unset, .unset] [(.int p0), (.int (1 : Int32))]))
  refine own_via (fun _ k => X0.ldcInt hx hown (mvT hZ (hw _ (List.mem_of_getElem? (i := 0) rfl))) (g := (mkF m 2 #[.val (.int p0), .val (.int p1), .val (.int p2), .val (.int p3), .val (.int p4), .val (.int p5), .unset, .unset, .unset, .unset, .unset, .unset, .unset, .unset, .unset, .unset, .unset, .unset, .unset, .unset, .unset, .unset, .unset] [(.int p0), (.int (1 : Int32))])) rfl (hb hby at_2) _ k) ?_
  show own_Go p e below s _ _ _ (s₁.setTop (mkF m 4 #[.val (.int p0), .val (.int p1), .val (.int p2), .val (.int p3), .val (.int p4), .val (.int p5), .unset, .unset, .unset, .unset, .unset, .unset, .unset, .unset, .unset, .unset, .unset, .unset, .unset, .unset, .unset, .unset, .unset] [(.int (536870911 : Int32)), (.int p0), (.int (1 : Int32))]))
  refine own_via (fun _ k => XS.iand X0.here hx rfl (hb hby at_4) rfl k) ?_
  show own_Go p e below s _ _ _ (s₁.setTop (mkF m 5 #[.val (.int p0), .val (.int p1), .val (.int p2), .val (.int p3), .val (.int p4), .val (.int p5), .unset, .unset, .unset, .unset, .unset, .unset, .unset, .unset, .unset, .unset, .unset, .unset, .unset, .unset, .unset, .unset, .unset] [(.int (p0 &&& (536870911 : Int32))), (.int (1 : Int32))]))
  refine own_via (fun _ k => XS.iadd X0.here hx rfl (hb hby at_5) rfl k) ?_
  show own_Go p e below s _ _ _ (s₁.setTop (mkF m 6 #[.val (.int p0), .val (.int p1), .val (.int p2), .val (.int p3), .val (.int p4), .val (.int p5), .unset, .unset, .unset, .unset, .unset, .unset, .unset, .unset, .unset, .unset, .unset, .unset, .unset, .unset, .unset, .unset, .unset] [(.int ((1 : Int32) + (p0 &&& (536870911 : Int32))))]))
  refine own_via (fun _ k => XS.istore X0.here hx rfl (hb hby at_6) rfl (l' := #[.val (.int p0), .val (.int p1), .val (.int p2), .val (.int p3), .val (.int p4), .val (.int p5), .val (.int ((1 : Int32) + (p0 &&& (536870911 : Int32)))), .unset, .unset, .unset, .unset, .unset, .unset, .unset, .unset, .unset, .unset, .unset, .unset, .unset, .unset, .unset, .unset]) rfl k) ?_
  show own_Go p e below s _ _ _ (s₁.setTop (mkF m 8 #[.val (.int p0), .val (.int p1), .val (.int p2), .val (.int p3), .val (.int p4), .val (.int p5), .val (.int ((1 : Int32) + (p0 &&& (536870911 : Int32)))), .unset, .unset, .unset, .unset, .unset, .unset, .unset, .unset, .unset, .unset, .unset, .unset, .unset, .unset, .unset, .unset] []))
  generalize hv1 : ((1 : Int32) + (p0 &&& (536870911 : Int32))) = v1
  show own_Go p e below s _ _ _ (s₁.setTop (mkF m 8 #[.val (.int p0), .val (.int p1), .val (.int p2), .val (.int p3), .val (.int p4), .val (.int p5), .val (.int v1), .unset, .unset, .unset, .unset, .unset, .unset, .unset, .unset, .unset, .unset, .unset, .unset, .unset, .unset, .unset, .unset] []))
  refine own_via (fun _ k => XS.iload X0.here hx rfl (hb hby at_8) rfl k) ?_
  show own_Go p e below s _ _ _ (s₁.setTop (mkF m 10 #[.val (.int p0), .val (.int p1), .val (.int p2), .val (.int p3), .val (.int p4), .val (.int p5), .val (.int v1), .unset, .unset, .unset, .unset, .unset, .unset, .unset, .unset, .unset, .unset, .unset, .unset, .unset, .unset, .unset, .unset] [(.int v1)]))
  refine own_via (fun _ k => XS.iconst X0.here hx rfl (hb hby at_10) k) ?_
  show own_Go p e below s _ _ _ (s₁.setTop (mkF m 11 #[.val (.int p0), .val (.int p1), .val (.int p2), .val (.int p3), .val (.int p4), .val (.int p5), .val (.int v1), .unset, .unset, .unset, .unset, .unset, .unset, .unset, .unset, .unset, .unset, .unset, .unset, .unset, .unset, .unset, .unset] [(.int (1 : Int32)), (.int v1)]))
  refine own_via (fun _ k => XS.iadd X0.here hx rfl (hb hby at_11) rfl k) ?_
  show own_Go p e below s _ _ _ (s₁.setTop (mkF m 12 #[.val (.int p0), .val (.int p1), .val (.int p2), .val (.int p3), .val (.int p4), .val (.int p5), .val (.int v1), .unset, .unset, .unset, .unset, .unset, .unset, .unset, .unset, .unset, .unset, .unset, .unset, .unset, .unset, .unset, .unset] [(.int (v1 + (1 : Int32)))]))
  refine own_via (fun _ k => XS.iloadN X0.here hx rfl (hb hby at_12) rfl k) ?_
  show own_Go p e below s _ _ _ (s₁.setTop (mkF m 13 #[.val (.int p0), .val (.int p1), .val (.int p2), .val (.int p3), .val (.int p4), .val (.int p5), .val (.int v1), .unset, .unset, .unset, .unset, .unset, .unset, .unset, .unset, .unset, .unset, .unset, .unset, .unset, .unset, .unset, .unset] [(.int p1), (.int (v1 + (1 : Int32)))]))
  refine own_via (fun _ k => X0.ldcInt hx hown (mvT hZ (hw _ (List.mem_of_getElem? (i := 0) rfl))) (g := (mkF m 13 #[.val (.int p0), .val (.int p1), .val (.int p2), .val (.int p3), .val (.int p4), .val (.int p5), .val (.int v1), .unset, .unset, .unset, .unset, .unset, .unset, .unset, .unset, .unset, .unset, .unset, .unset, .unset, .unset, .unset, .unset] [(.int p1), (.int (v1 + (1 : Int32)))])) rfl (hb hby at_13) _ k) ?_
  show own_Go p e below s _ _ _ (s₁.setTop (mkF m 15 #[.val (.int p0), .val (.int p1), .val (.int p2), .val (.int p3), .val (.int p4), .val (.int p5), .val (.int v1), .unset, .unset, .unset, .unset, .unset, .unset, .unset, .unset, .unset, .unset, .unset, .unset, .unset, .unset, .unset, .unset] [(.int (536870911 : Int32)), (.int p1), (.int (v1 + (1 : Int32)))]))
  refine own_via (fun _ k => XS.iand X0.here hx rfl (hb hby at_15) rfl k) ?_
  show own_Go p e below s _ _ _ (s₁.setTop (mkF m 16 #[.val (.int p0), .val (.int p1), .val (.int p2), .val (.int p3), .val (.int p4), .val (.int p5), .val (.int v1), .unset, .unset, .unset, .unset, .unset, .unset, .unset, .unset, .unset, .unset, .unset, .unset, .unset, .unset, .unset, .unset] [(.int (p1 &&& (536870911 : Int32))), (.int (v1 + (1 : Int32)))]))
  refine own_via (fun _ k => XS.iadd X0.here hx rfl (hb hby at_16) rfl k) ?_
  show own_Go p e below s _ _ _ (s₁.setTop (mkF m 17 #[.val (.int p0), .val (.int p1), .val (.int p2), .val (.int p3), .val (.int p4), .val (.int p5), .val (.int v1), .unset, .unset, .unset, .unset, .unset, .unset, .unset, .unset, .unset, .unset, .unset, .unset, .unset, .unset, .unset, .unset] [(.int ((v1 + (1 : Int32)) + (p1 &&& (536870911 : Int32))))]))
  refine own_via (fun _ k => XS.istore X0.here hx rfl (hb hby at_17) rfl (l' := #[.val (.int p0), .val (.int p1), .val (.int p2), .val (.int p3), .val (.int p4), .val (.int p5), .val (.int v1), .val (.int ((v1 + (1 : Int32)) + (p1 &&& (536870911 : Int32)))), .unset, .unset, .unset, .unset, .unset, .unset, .unset, .unset, .unset, .unset, .unset, .unset, .unset, .unset, .unset]) rfl k) ?_
  show own_Go p e below s _ _ _ (s₁.setTop (mkF m 19 #[.val (.int p0), .val (.int p1), .val (.int p2), .val (.int p3), .val (.int p4), .val (.int p5), .val (.int v1), .val (.int ((v1 + (1 : Int32)) + (p1 &&& (536870911 : Int32)))), .unset, .unset, .unset, .unset, .unset, .unset, .unset, .unset, .unset, .unset, .unset, .unset, .unset, .unset, .unset] []))
  generalize hv2 : ((v1 + (1 : Int32)) + (p1 &&& (536870911 : Int32))) = v2
  show own_Go p e below s _ _ _ (s₁.setTop (mkF m 19 #[.val (.int p0), .val (.int p1), .val (.int p2), .val (.int p3), .val (.int p4), .val (.int p5), .val (.int v1), .val (.int v2), .unset, .unset, .unset, .unset, .unset, .unset, .unset, .unset, .unset, .unset, .unset, .unset, .unset, .unset, .unset] []))
  refine own_via (fun _ k => XS.iload X0.here hx rfl (hb hby at_19) rfl k) ?_
  show own_Go p e below s _ _ _ (s₁.setTop (mkF m 21 #[.val (.int p0), .val (.int p1), .val (.int p2), .val (.int p3), .val (.int p4), .val (.int p5), .val (.int v1), .val (.int v2), .unset, .unset, .unset, .unset, .unset, .unset, .unset, .unset, .unset, .unset, .unset, .unset, .unset, .unset, .unset] [(.int v2)]))
  refine own_via (fun _ k => XS.iconst X0.here hx rfl (hb hby at_21) k) ?_
  show own_Go p e below s _ _ _ (s₁.setTop (mkF m 22 #[.val (.int p0), .val (.int p1), .val (.int p2), .val (.int p3), .val (.int p4), .val (.int p5), .val (.int v1), .val (.int v2), .unset, .unset, .unset, .unset, .unset, .unset, .unset, .unset, .unset, .unset, .unset, .unset, .unset, .unset, .unset] [(.int (1 : Int32)), (.int v2)]))
  refine own_via (fun _ k => XS.iadd X0.here hx rfl (hb hby at_22) rfl k) ?_
  show own_Go p e below s _ _ _ (s₁.setTop (mkF m 23 #[.val (.int p0), .val (.int p1), .val (.int p2), .val (.int p3), .val (.int p4), .val (.int p5), .val (.int v1), .val (.int v2), .unset, .unset, .unset, .unset, .unset, .unset, .unset, .unset, .unset, .unset, .unset, .unset, .unset, .unset, .unset] [(.int (v2 + (1 : Int32)))]))
  refine own_via (fun _ k => XS.iloadN X0.here hx rfl (hb hby at_23) rfl k) ?_
  show own_Go p e below s _ _ _ (s₁.setTop (mkF m 24 #[.val (.int p0), .val (.int p1), .val (.int p2), .val (.int p3), .val (.int p4), .val (.int p5), .val (.int v1), .val (.int v2), .unset, .unset, .unset, .unset, .unset, .unset, .unset, .unset, .unset, .unset, .unset, .unset, .unset, .unset, .unset] [(.int p2), (.int (v2 + (1 : Int32)))]))
  refine own_via (fun _ k => X0.ldcInt hx hown (mvT hZ (hw _ (List.mem_of_getElem? (i := 0) rfl))) (g := (mkF m 24 #[.val (.int p0), .val (.int p1), .val (.int p2), .val (.int p3), .val (.int p4), .val (.int p5), .val (.int v1), .val (.int v2), .unset, .unset, .unset, .unset, .unset, .unset, .unset, .unset, .unset, .unset, .unset, .unset, .unset, .unset, .unset] [(.int p2), (.int (v2 + (1 : Int32)))])) rfl (hb hby at_24) _ k) ?_
  show own_Go p e below s _ _ _ (s₁.setTop (mkF m 26 #[.val (.int p0), .val (.int p1), .val (.int p2), .val (.int p3), .val (.int p4), .val (.int p5), .val (.int v1), .val (.int v2), .unset, .unset, .unset, .unset, .unset, .unset, .unset, .unset, .unset, .unset, .unset, .unset, .unset, .unset, .unset] [(.int (536870911 : Int32)), (.int p2), (.int (v2 + (1 : Int32)))]))
  refine own_via (fun _ k => XS.iand X0.here hx rfl (hb hby at_26) rfl k) ?_
  show own_Go p e below s _ _ _ (s₁.setTop (mkF m 27 #[.val (.int p0), .val (.int p1), .val (.int p2), .val (.int p3), .val (.int p4), .val (.int p5), .val (.int v1), .val (.int v2), .unset, .unset, .unset, .unset, .unset, .unset, .unset, .unset, .unset, .unset, .unset, .unset, .unset, .unset, .unset] [(.int (p2 &&& (536870911 : Int32))), (.int (v2 + (1 : Int32)))]))
  refine own_via (fun _ k => XS.iadd X0.here hx rfl (hb hby at_27) rfl k) ?_
  show own_Go p e below s _ _ _ (s₁.setTop (mkF m 28 #[.val (.int p0), .val (.int p1), .val (.int p2), .val (.int p3), .val (.int p4), .val (.int p5), .val (.int v1), .val (.int v2), .unset, .unset, .unset, .unset, .unset, .unset, .unset, .unset, .unset, .unset, .unset, .unset, .unset, .unset, .unset] [(.int ((v2 + (1 : Int32)) + (p2 &&& (536870911 : Int32))))]))
  refine own_via (fun _ k => XS.istore X0.here hx rfl (hb hby at_28) rfl (l' := #[.val (.int p0), .val (.int p1), .val (.int p2), .val (.int p3), .val (.int p4), .val (.int p5), .val (.int v1), .val (.int v2), .val (.int ((v2 + (1 : Int32)) + (p2 &&& (536870911 : Int32)))), .unset, .unset, .unset, .unset, .unset, .unset, .unset, .unset, .unset, .unset, .unset, .unset, .unset, .unset]) rfl k) ?_
  show own_Go p e below s _ _ _ (s₁.setTop (mkF m 30 #[.val (.int p0), .val (.int p1), .val (.int p2), .val (.int p3), .val (.int p4), .val (.int p5), .val (.int v1), .val (.int v2), .val (.int ((v2 + (1 : Int32)) + (p2 &&& (536870911 : Int32)))), .unset, .unset, .unset, .unset, .unset, .unset, .unset, .unset, .unset, .unset, .unset, .unset, .unset, .unset] []))
  generalize hv3 : ((v2 + (1 : Int32)) + (p2 &&& (536870911 : Int32))) = v3
  show own_Go p e below s _ _ _ (s₁.setTop (mkF m 30 #[.val (.int p0), .val (.int p1), .val (.int p2), .val (.int p3), .val (.int p4), .val (.int p5), .val (.int v1), .val (.int v2), .val (.int v3), .unset, .unset, .unset, .unset, .unset, .unset, .unset, .unset, .unset, .unset, .unset, .unset, .unset, .unset] []))
  refine own_via (fun _ k => XS.iconst X0.here hx rfl (hb hby at_30) k) ?_
  show own_Go p e below s _ _ _ (s₁.setTop (mkF m 31 #[.val (.int p0), .val (.int p1), .val (.int p2), .val (.int p3), .val (.int p4), .val (.int p5), .val (.int v1), .val (.int v2), .val (.int v3), .unset, .unset, .unset, .unset, .unset, .unset, .unset, .unset, .unset, .unset, .unset, .unset, .unset, .unset] [(.int (3 : Int32))]))
  obtain ⟨T4, h4, k4, X4, e4, E4, A4, AE4, st4⟩ := newPE X0 hx hZ (hw _ (List.mem_of_getElem? (i := 1) rfl)) e0 (g := (mkF m 31 #[.val (.int p0), .val (.int p1), .val (.int p2), .val (.int p3), .val (.int p4), .val (.int p5), .val (.int v1), .val (.int v2), .val (.int v3), .unset, .unset, .unset, .unset, .unset, .unset, .unset, .unset, .unset, .unset, .unset, .unset, .unset, .unset] [(.int (3 : Int32))])) rfl (hb hby at_31) rfl (by decide) (cap := 3) (by decide) (by decide) (by decide) (by decide) (ad := "[I") (by decide)
  obtain ⟨b4, gg4⟩ : ∃ z, z = h0.size := ⟨_, rfl⟩
  rw [← gg4] at A4 AE4 st4
  have g_b4 : n0 ≤ b4 := Nat.le_trans Z0 (Nat.le_of_eq gg4.symm)
  have Z4 : n0 ≤ h4.size := Nat.le_trans Z0 E4.1
  have V4 : Arv Z h4 b4 k4 .int (3 : Int32) [(.int (0 : Int32)), (.int (0 : Int32)), (.int (0 : Int32))] (.int (0 : Int32)) := (Arv.new A4 (by decide)).pad (pad_rep [] (.int (0 : Int32)) 3)
  refine own_via st4 ?_
  show own_Go p e below s _ _ _ (T4.setTop (mkF m 33 #[.val (.int p0), .val (.int p1), .val (.int p2), .val (.int p3), .val (.int p4), .val (.int p5), .val (.int v1), .val (.int v2), .val (.int v3), .unset, .unset, .unset, .unset, .unset, .unset, .unset, .unset, .unset, .unset, .unset, .unset, .unset, .unset] [(.ref b4)]))
  refine own_via (fun _ k => XS.dup X4.here hx rfl (hb hby at_33) rfl rfl k) ?_
  show own_Go p e below s _ _ _ (T4.setTop (mkF m 34 #[.val (.int p0), .val (.int p1), .val (.int p2), .val (.int p3), .val (.int p4), .val (.int p5), .val (.int v1), .val (.int v2), .val (.int v3), .unset, .unset, .unset, .unset, .unset, .unset, .unset, .unset, .unset, .unset, .unset, .unset, .unset, .unset] [(.ref b4), (.ref b4)]))
  refine own_via (fun _ k => XS.iconst X4.here hx rfl (hb hby at_34) k) ?_
  show own_Go p e below s _ _ _ (T4.setTop (mkF m 35 #[.val (.int p0), .val (.int p1), .val (.int p2), .val (.int p3), .val (.int p4), .val (.int p5), .val (.int v1), .val (.int v2), .val (.int v3), .unset, .unset, .unset, .unset, .unset, .unset, .unset, .unset, .unset, .unset, .unset, .unset, .unset, .unset] [(.int (0 : Int32)), (.ref b4), (.ref b4)]))
  refine own_via (fun _ k => XS.iload X4.here hx rfl (hb hby at_35) rfl k) ?_
  show own_Go p e below s _ _ _ (T4.setTop (mkF m 37 #[.val (.int p0), .val (.int p1), .val (.int p2), .val (.int p3), .val (.int p4), .val (.int p5), .val (.int v1), .val (.int v2), .val (.int v3), .unset, .unset, .unset, .unset, .unset, .unset, .unset, .unset, .unset, .unset, .unset, .unset, .unset, .unset] [(.int v1), (.int (0 : Int32)), (.ref b4), (.ref b4)]))
  obtain ⟨cl5, Ar5, q5, S5, M5, H5, G5⟩ := (id V4)
  have hin5 : ¬ ((0 : Int32) < 0 ∨ cl5.slots.size ≤ ((0 : Int32)).toNatClampNeg) := inb_of S5 ⟨by decide, by decide⟩
  obtain ⟨T5, h5, X5, e5, W5, st5⟩ := stI X4 hx hZ e4 Ar5 (j := (0 : Int32)) hin5 (g := (mkF m 37 #[.val (.int p0), .val (.int p1), .val (.int p2), .val (.int p3), .val (.int p4), .val (.int p5), .val (.int v1), .val (.int v2), .val (.int v3), .unset, .unset, .unset, .unset, .unset, .unset, .unset, .unset, .unset, .unset, .unset, .unset, .unset, .unset] [(.int v1), (.int (0 : Int32)), (.ref b4), (.ref b4)])) rfl rfl (hb hby at_37)
  have V5 : Arv Z h5 b4 k4 .int (3 : Int32) [(.int v1), (.int (0 : Int32)), (.int (0 : Int32))] (.int (0 : Int32)) := Arv.set Ar5 q5 S5 M5 H5 G5 rfl W5 0 rfl (Nat.le_of_ble_eq_true rfl)
  have N5 := Fr.snoc X5 N0 g_b4
  have Z5 : n0 ≤ h5.size := Nat.le_trans Z4 (Keep.of_wr W5).1
  refine own_via st5 ?_
  show own_Go p e below s _ _ _ (T5.setTop (mkF m 38 #[.val (.int p0), .val (.int p1), .val (.int p2), .val (.int p3), .val (.int p4), .val (.int p5), .val (.int v1), .val (.int v2), .val (.int v3), .unset, .unset, .unset, .unset, .unset, .unset, .unset, .unset, .unset, .unset, .unset, .unset, .unset, .unset] [(.ref b4)]))
  refine own_via (fun _ k => XS.dup X5.here hx rfl (hb hby at_38) rfl rfl k) ?_
  show own_Go p e below s _ _ _ (T5.setTop (mkF m 39 #[.val (.int p0), .val (.int p1), .val (.int p2), .val (.int p3), .val (.int p4), .val (.int p5), .val (.int v1), .val (.int v2), .val (.int v3), .unset, .unset, .unset, .unset, .unset, .unset, .unset, .unset, .unset, .unset, .unset, .unset, .unset, .unset] [(.ref b4), (.ref b4)]))
  refine own_via (fun _ k => XS.iconst X5.here hx rfl (hb hby at_39) k) ?_
  show own_Go p e below s _ _ _ (T5.setTop (mkF m 40 #[.val (.int p0), .val (.int p1), .val (.int p2), .val (.int p3), .val (.int p4), .val (.int p5), .val (.int v1), .val (.int v2), .val (.int v3), .unset, .unset, .unset, .unset, .unset, .unset, .unset, .unset, .unset, .unset, .unset, .unset, .unset, .unset] [(.int (1 : Int32)), (.ref b4), (.ref b4)]))
  refine own_via (fun _ k => XS.iload X5.here hx rfl (hb hby at_40) rfl k) ?_
  show own_Go p e below s _ _ _ (T5.setTop (mkF m 42 #[.val (.int p0), .val (.int p1), .val (.int p2), .val (.int p3), .val (.int p4), .val (.int p5), .val (.int v1), .val (.int v2), .val (.int v3), .unset, .unset, .unset, .unset, .unset, .unset, .unset, .unset, .unset, .unset, .unset, .unset, .unset, .unset] [(.int v2), (.int (1 : Int32)), (.ref b4), (.ref b4)]))
  obtain ⟨cl6, Ar6, q6, S6, M6, H6, G6⟩ := (id V5)
  have hin6 : ¬ ((1 : Int32) < 0 ∨ cl6.slots.size ≤ ((1 : Int32)).toNatClampNeg) := inb_of S6 ⟨by decide, by decide⟩
  obtain ⟨T6, h6, X6, e6, W6, st6⟩ := stI X5 hx hZ e5 Ar6 (j := (1 : Int32)) hin6 (g := (mkF m 42 #[.val (.int p0), .val (.int p1), .val (.int p2), .val (.int p3), .val (.int p4), .val (.int p5), .val (.int v1), .val (.int v2), .val (.int v3), .unset, .unset, .unset, .unset, .unset, .unset, .unset, .unset, .unset, .unset, .unset, .unset, .unset, .unset] [(.int v2), (.int (1 : Int32)), (.ref b4), (.ref b4)])) rfl rfl (hb hby at_42)
  have V6 : Arv Z h6 b4 k4 .int (3 : Int32) [(.int v1), (.int v2), (.int (0 : Int32))] (.int (0 : Int32)) := Arv.set Ar6 q6 S6 M6 H6 G6 rfl W6 1 rfl (Nat.le_of_ble_eq_true rfl)
  have N6 := Fr.snoc X6 N5 g_b4
  have Z6 : n0 ≤ h6.size := Nat.le_trans Z5 (Keep.of_wr W6).1
  refine own_via st6 ?_
  show own_Go p e below s _ _ _ (T6.setTop (mkF m 43 #[.val (.int p0), .val (.int p1), .val (.int p2), .val (.int p3), .val (.int p4), .val (.int p5), .val (.int v1), .val (.int v2), .val (.int v3), .unset, .unset, .unset, .unset, .unset, .unset, .unset, .unset, .unset, .unset, .unset, .unset, .unset, .unset] [(.ref b4)]))
  refine own_via (fun _ k => XS.dup X6.here hx rfl (hb hby at_43) rfl rfl k) ?_
  show own_Go p e below s _ _ _ (T6.setTop (mkF m 44 #[.val (.int p0), .val (.int p1), .val (.int p2), .val (.int p3), .val (.int p4), .val (.int p5), .val (.int v1), .val (.int v2), .val (.int v3), .unset, .unset, .unset, .unset, .unset, .unset, .unset, .unset, .unset, .unset, .unset, .unset, .unset, .unset] [(.ref b4), (.ref b4)]))
  refine own_via (fun _ k => XS.iconst X6.here hx rfl (hb hby at_44) k) ?_
  show own_Go p e below s _ _ _ (T6.setTop (mkF m 45 #[.val (.int p0), .val (.int p1), .val (.int p2), .val (.int p3), .val (.int p4), .val (.int p5), .val (.int v1), .val (.int v2), .val (.int v3), .unset, .unset, .unset, .unset, .unset, .unset, .unset, .unset, .unset, .unset, .unset, .unset, .unset, .unset] [(.int (2 : Int32)), (.ref b4), (.ref b4)]))
  refine own_via (fun _ k => XS.iload X6.here hx rfl (hb hby at_45) rfl k) ?_
  show own_Go p e below s _ _ _ (T6.setTop (mkF m 47 #[.val (.int p0), .val (.int p1), .val (.int p2), .val (.int p3), .val (.int p4), .val (.int p5), .val (.int v1), .val (.int v2), .val (.int v3), .unset, .unset, .unset, .unset, .unset, .unset, .unset, .unset, .unset, .unset, .unset, .unset, .unset, .unset] [(.int v3), (.int (2 : Int32)), (.ref b4), (.ref b4)]))
  obtain ⟨cl7, Ar7, q7, S7, M7, H7, G7⟩ := (id V6)
  have hin7 : ¬ ((2 : Int32) < 0 ∨ cl7.slots.size ≤ ((2 : Int32)).toNatClampNeg) := inb_of S7 ⟨by decide, by decide⟩
  obtain ⟨T7, h7, X7, e7, W7, st7⟩ := stI X6 hx hZ e6 Ar7 (j := (2 : Int32)) hin7 (g := (mkF m 47 #[.val (.int p0), .val (.int p1), .val (.int p2), .val (.int p3), .val (.int p4), .val (.int p5), .val (.int v1), .val (.int v2), .val (.int v3), .unset, .unset, .unset, .unset, .unset, .unset, .unset, .unset, .unset, .unset, .unset, .unset, .unset, .unset] [(.int v3), (.int (2 : Int32)), (.ref b4), (.ref b4)])) rfl rfl (hb hby at_47)
  have V7 : Arv Z h7 b4 k4 .int (3 : Int32) [(.int v1), (.int v2), (.int v3)] (.int (0 : Int32)) := Arv.set Ar7 q7 S7 M7 H7 G7 rfl W7 2 rfl (Nat.le_of_ble_eq_true rfl)
  have N7 := Fr.snoc X7 N6 g_b4
  have Z7 : n0 ≤ h7.size := Nat.le_trans Z6 (Keep.of_wr W7).1
  refine own_via st7 ?_
  show own_Go p e below s _ _ _ (T7.setTop (mkF m 48 #[.val (.int p0), .val (.int p1), .val (.int p2), .val (.int p3), .val (.int p4), .val (.int p5), .val (.int v1), .val (.int v2), .val (.int v3), .unset, .unset, .unset, .unset, .unset, .unset, .unset, .unset, .unset, .unset, .unset, .unset, .unset, .unset] [(.ref b4)]))
  refine own_via (fun _ k => XS.astore X7.here hx rfl (hb hby at_48) rfl rfl (l' := #[.val (.int p0), .val (.int p1), .val (.int p2), .val (.int p3), .val (.int p4), .val (.int p5), .val (.int v1), .val (.int v2), .val (.int v3), .val (.ref b4), .unset, .unset, .unset, .unset, .unset, .unset, .unset, .unset, .unset, .unset, .unset, .unset, .unset]) rfl k) ?_
  show own_Go p e below s _ _ _ (T7.setTop (mkF m 50 #[.val (.int p0), .val (.int p1), .val (.int p2), .val (.int p3), .val (.int p4), .val (.int p5), .val (.int v1), .val (.int v2), .val (.int v3), .val (.ref b4), .unset, .unset, .unset, .unset, .unset, .unset, .unset, .unset, .unset, .unset, .unset, .unset, .unset] []))
  refine own_via (fun _ k => XS.bipush X7.here hx rfl (hb hby at_50) k) ?_
  show own_Go p e below s _ _ _ (T7.setTop (mkF m 52 #[.val (.int p0), .val (.int p1), .val (.int p2), .val (.int p3), .val (.int p4), .val (.int p5), .val (.int v1), .val (.int v2), .val (.int v3), .val (.ref b4), .unset, .unset, .unset, .unset, .unset, .unset, .unset, .unset, .unset, .unset, .unset, .unset, .unset] [(.int (18 : Int32))]))
  obtain ⟨T8, h8, k8, X8, e8, E8, A8, AE8, st8⟩ := newPE X7 hx hZ (hw _ (List.mem_of_getElem? (i := 1) rfl)) e7 (g := (mkF m 52 #[.val (.int p0), .val (.int p1), .val (.int p2), .val (.int p3), .val (.int p4), .val (.int p5), .val (.int v1), .val (.int v2), .val (.int v3), .val (.ref b4), .unset, .unset, .unset, .unset, .unset, .unset, .unset, .unset, .unset, .unset, .unset, .unset, .unset] [(.int (18 : Int32))])) rfl (hb hby at_52) rfl (by decide) (cap := 18) (by decide) (by decide) (by decide) (by decide) (ad := "[I") (by decide)
  obtain ⟨b8, gg8⟩ : ∃ z, z = h7.size := ⟨_, rfl⟩
  rw [← gg8] at A8 AE8 st8
  have ne_b4_b8 : b4 ≠ b8 := Nat.ne_of_lt (Nat.lt_of_lt_of_le (((AE4.wr W5).wr W6).wr W7).lt (Nat.le_of_eq gg8.symm))
  have g_b8 : n0 ≤ b8 := Nat.le_trans Z7 (Nat.le_of_eq gg8.symm)
  have Z8 : n0 ≤ h8.size := Nat.le_trans Z7 E8.1
  have V8 : Arv Z h8 b8 k8 .int (18 : Int32) [(.int (0 : Int32)), (.int (0 : Int32)), (.int (0 : Int32)), (.int (0 : Int32)), (.int (0 : Int32)), (.int (0 : Int32)), (.int (0 : Int32)), (.int (0 : Int32)), (.int (0 : Int32)), (.int (0 : Int32)), (.int (0 : Int32)), (.int (0 : Int32)), (.int (0 : Int32)), (.int (0 : Int32)), (.int (0 : Int32)), (.int (0 : Int32)), (.int (0 : Int32)), (.int (0 : Int32))] (.int (0 : Int32)) := (Arv.new A8 (by decide)).pad (pad_rep [] (.int (0 : Int32)) 18)
  refine own_via st8 ?_
  show own_Go p e below s _ _ _ (T8.setTop (mkF m 54 #[.val (.int p0), .val (.int p1), .val (.int p2), .val (.int p3), .val (.int p4), .val (.int p5), .val (.int v1), .val (.int v2), .val (.int v3), .val (.ref b4), .unset, .unset, .unset, .unset, .unset, .unset, .unset, .unset, .unset, .unset, .unset, .unset, .unset] [(.ref b8)]))
  refine own_via (fun _ k => XS.dup X8.here hx rfl (hb hby at_54) rfl rfl k) ?_
  show own_Go p e below s _ _ _ (T8.setTop (mkF m 55 #[.val (.int p0), .val (.int p1), .val (.int p2), .val (.int p3), .val (.int p4), .val (.int p5), .val (.int v1), .val (.int v2), .val (.int v3), .val (.ref b4), .unset, .unset, .unset, .unset, .unset, .unset, .unset, .unset, .unset, .unset, .unset, .unset, .unset] [(.ref b8), (.ref b8)]))
  refine own_via (fun _ k => XS.iconst X8.here hx rfl (hb hby at_55) k) ?_
  show own_Go p e below s _ _ _ (T8.setTop (mkF m 56 #[.val (.int p0), .val (.int p1), .val (.int p2), .val (.int p3), .val (.int p4), .val (.int p5), .val (.int v1), .val (.int v2), .val (.int v3), .val (.ref b4), .unset, .unset, .unset, .unset, .unset, .unset, .unset, .unset, .unset, .unset, .unset, .unset, .unset] [(.int (0 : Int32)), (.ref b8), (.ref b8)]))
  refine own_via (fun _ k => XS.iconst X8.here hx rfl (hb hby at_56) k) ?_
  show own_Go p e below s _ _ _ (T8.setTop (mkF m 57 #[.val (.int p0), .val (.int p1), .val (.int p2), .val (.int p3), .val (.int p4), .val (.int p5), .val (.int v1), .val (.int v2), .val (.int v3), .val (.ref b4), .unset, .unset, .unset, .unset, .unset, .unset, .unset, .unset, .unset, .unset, .unset, .unset, .unset] [(.int (0 : Int32)), (.int (0 : Int32)), (.ref b8), (.ref b8)]))
  obtain ⟨cl9, Ar9, q9, S9, M9, H9, G9⟩ := (id V8)
  have hin9 : ¬ ((0 : Int32) < 0 ∨ cl9.slots.size ≤ ((0 : Int32)).toNatClampNeg) := inb_of S9 ⟨by decide, by decide⟩
  obtain ⟨T9, h9, X9, e9, W9, st9⟩ := stI X8 hx hZ e8 Ar9 (j := (0 : Int32)) hin9 (g := (mkF m 57 #[.val (.int p0), .val (.int p1), .val (.int p2), .val (.int p3), .val (.int p4), .val (.int p5), .val (.int v1), .val (.int v2), .val (.int v3), .val (.ref b4), .unset, .unset, .unset, .unset, .unset, .unset, .unset, .unset, .unset, .unset, .unset, .unset, .unset] [(.int (0 : Int32)), (.int (0 : Int32)), (.ref b8), (.ref b8)])) rfl rfl (hb hby at_57)
  have V9 : Arv Z h9 b8 k8 .int (18 : Int32) [(.int (0 : Int32)), (.int (0 : Int32)), (.int (0 : Int32)), (.int (0 : Int32)), (.int (0 : Int32)), (.int (0 : Int32)), (.int (0 : Int32)), (.int (0 : Int32)), (.int (0 : Int32)), (.int (0 : Int32)), (.int (0 : Int32)), (.int (0 : Int32)), (.int (0 : Int32)), (.int (0 : Int32)), (.int (0 : Int32)), (.int (0 : Int32)), (.int (0 : Int32)), (.int (0 : Int32))] (.int (0 : Int32)) := Arv.set Ar9 q9 S9 M9 H9 G9 rfl W9 0 rfl (Nat.le_of_ble_eq_true rfl)
  have N9 := Fr.snoc X9 N7 g_b8
  have Z9 : n0 ≤ h9.size := Nat.le_trans Z8 (Keep.of_wr W9).1
  refine own_via st9 ?_
  show own_Go p e below s _ _ _ (T9.setTop (mkF m 58 #[.val (.int p0), .val (.int p1), .val (.int p2), .val (.int p3), .val (.int p4), .val (.int p5), .val (.int v1), .val (.int v2), .val (.int v3), .val (.ref b4), .unset, .unset, .unset, .unset, .unset, .unset, .unset, .unset, .unset, .unset, .unset, .unset, .unset] [(.ref b8)]))
  refine own_via (fun _ k => XS.dup X9.here hx rfl (hb hby at_58) rfl rfl k) ?_
  show own_Go p e below s _ _ _ (T9.setTop (mkF m 59 #[.val (.int p0), .val (.int p1), .val (.int p2), .val (.int p3), .val (.int p4), .val (.int p5), .val (.int v1), .val (.int v2), .val (.int v3), .val (.ref b4), .unset, .unset, .unset, .unset, .unset, .unset, .unset, .unset, .unset, .unset, .unset, .unset, .unset] [(.ref b8), (.ref b8)]))
  refine own_via (fun _ k => XS.iconst X9.here hx rfl (hb hby at_59) k) ?_
  show own_Go p e below s _ _ _ (T9.setTop (mkF m 60 #[.val (.int p0), .val (.int p1), .val (.int p2), .val (.int p3), .val (.int p4), .val (.int p5), .val (.int v1), .val (.int v2), .val (.int v3), .val (.ref b4), .unset, .unset, .unset, .unset, .unset, .unset, .unset, .unset, .unset, .unset, .unset, .unset, .unset] [(.int (1 : Int32)), (.ref b8), (.ref b8)]))
  refine own_via (fun _ k => XS.iconst X9.here hx rfl (hb hby at_60) k) ?_
  show own_Go p e below s _ _ _ (T9.setTop (mkF m 61 #[.val (.int p0), .val (.int p1), .val (.int p2), .val (.int p3), .val (.int p4), .val (.int p5), .val (.int v1), .val (.int v2), .val (.int v3), .val (.ref b4), .unset, .unset, .unset, .unset, .unset, .unset, .unset, .unset, .unset, .unset, .unset, .unset, .unset] [(.int (1 : Int32)), (.int (1 : Int32)), (.ref b8), (.ref b8)]))
  obtain ⟨cl10, Ar10, q10, S10, M10, H10, G10⟩ := (id V9)
  have hin10 : ¬ ((1 : Int32) < 0 ∨ cl10.slots.size ≤ ((1 : Int32)).toNatClampNeg) := inb_of S10 ⟨by decide, by decide⟩
  obtain ⟨T10, h10, X10, e10, W10, st10⟩ := stI X9 hx hZ e9 Ar10 (j := (1 : Int32)) hin10 (g := (mkF m 61 #[.val (.int p0), .val (.int p1), .val (.int p2), .val (.int p3), .val (.int p4), .val (.int p5), .val (.int v1), .val (.int v2), .val (.int v3), .val (.ref b4), .unset, .unset, .unset, .unset, .unset, .unset, .unset, .unset, .unset, .unset, .unset, .unset, .unset] [(.int (1 : Int32)), (.int (1 : Int32)), (.ref b8), (.ref b8)])) rfl rfl (hb hby at_61)
  have V10 : Arv Z h10 b8 k8 .int (18 : Int32) [(.int (0 : Int32)), (.int (1 : Int32)), (.int (0 : Int32)), (.int (0 : Int32)), (.int (0 : Int32)), (.int (0 : Int32)), (.int (0 : Int32)), (.int (0 : Int32)), (.int (0 : Int32)), (.int (0 : Int32)), (.int (0 : Int32)), (.int (0 : Int32)), (.int (0 : Int32)), (.int (0 : Int32)), (.int (0 : Int32)), (.int (0 : Int32)), (.int (0 : Int32)), (.int (0 : Int32))] (.int (0 : Int32)) := Arv.set Ar10 q10 S10 M10 H10 G10 rfl W10 1 rfl (Nat.le_of_ble_eq_true rfl)
  have N10 := Fr.snoc X10 N9 g_b8
  have Z10 : n0 ≤ h10.size := Nat.le_trans Z9 (Keep.of_wr W10).1
  refine own_via st10 ?_
  show own_Go p e below s _ _ _ (T10.setTop (mkF m 62 #[.val (.int p0), .val (.int p1), .val (.int p2), .val (.int p3), .val (.int p4), .val (.int p5), .val (.int v1), .val (.int v2), .val (.int v3), .val (.ref b4), .unset, .unset, .unset, .unset, .unset, .unset, .unset, .unset, .unset, .unset, .unset, .unset, .unset] [(.ref b8)]))
  refine own_via (fun _ k => XS.dup X10.here hx rfl (hb hby at_62) rfl rfl k) ?_
  show own_Go p e below s _ _ _ (T10.setTop (mkF m 63 #[.val (.int p0), .val (.int p1), .val (.int p2), .val (.int p3), .val (.int p4), .val (.int p5), .val (.int v1), .val (.int v2), .val (.int v3), .val (.ref b4), .unset, .unset, .unset, .unset, .unset, .unset, .unset, .unset, .unset, .unset, .unset, .unset, .unset] [(.ref b8), (.ref b8)]))
  refine own_via (fun _ k => XS.iconst X10.here hx rfl (hb hby at_63) k) ?_
  show own_Go p e below s _ _ _ (T10.setTop (mkF m 64 #[.val (.int p0), .val (.int p1), .val (.int p2), .val (.int p3), .val (.int p4), .val (.int p5), .val (.int v1), .val (.int v2), .val (.int v3), .val (.ref b4), .unset, .unset, .unset, .unset, .unset, .unset, .unset, .unset, .unset, .unset, .unset, .unset, .unset] [(.int (2 : Int32)), (.ref b8), (.ref b8)]))
  refine own_via (fun _ k => XS.iconst X10.here hx rfl (hb hby at_64) k) ?_
  show own_Go p e below s _ _ _ (T10.setTop (mkF m 65 #[.val (.int p0), .val (.int p1), .val (.int p2), .val (.int p3), .val (.int p4), .val (.int p5), .val (.int v1), .val (.int v2), .val (.int v3), .val (.ref b4), .unset, .unset, .unset, .unset, .unset, .unset, .unset, .unset, .unset, .unset, .unset, .unset, .unset] [(.int (2 : Int32)), (.int (2 : Int32)), (.ref b8), (.ref b8)]))
  obtain ⟨cl11, Ar11, q11, S11, M11, H11, G11⟩ := (id V10)
  have hin11 : ¬ ((2 : Int32) < 0 ∨ cl11.slots.size ≤ ((2 : Int32)).toNatClampNeg) := inb_of S11 ⟨by decide, by decide⟩
  obtain ⟨T11, h11, X11, e11, W11, st11⟩ := stI X10 hx hZ e10 Ar11 (j := (2 : Int32)) hin11 (g := (mkF m 65 #[.val (.int p0), .val (.int p1), .val (.int p2), .val (.int p3), .val (.int p4), .val (.int p5), .val (.int v1), .val (.int v2), .val (.int v3), .val (.ref b4), .unset, .unset, .unset, .unset, .unset, .unset, .unset, .unset, .unset, .unset, .unset, .unset, .unset] [(.int (2 : Int32)), (.int (2 : Int32)), (.ref b8), (.ref b8)])) rfl rfl (hb hby at_65)
  have V11 : Arv Z h11 b8 k8 .int (18 : Int32) [(.int (0 : Int32)), (.int (1 : Int32)), (.int (2 : Int32)), (.int (0 : Int32)), (.int (0 : Int32)), (.int (0 : Int32)), (.int (0 : Int32)), (.int (0 : Int32)), (.int (0 : Int32)), (.int (0 : Int32)), (.int (0 : Int32)), (.int (0 : Int32)), (.int (0 : Int32)), (.int (0 : Int32)), (.int (0 : Int32)), (.int (0 : Int32)), (.int (0 : Int32)), (.int (0 : Int32))] (.int (0 : Int32)) := Arv.set Ar11 q11 S11 M11 H11 G11 rfl W11 2 rfl (Nat.le_of_ble_eq_true rfl)
  have N11 := Fr.snoc X11 N10 g_b8
  have Z11 : n0 ≤ h11.size := Nat.le_trans Z10 (Keep.of_wr W11).1
  refine own_via st11 ?_
  show own_Go p e below s _ _ _ (T11.setTop (mkF m 66 #[.val (.int p0), .val (.int p1), .val (.int p2), .val (.int p3), .val (.int p4), .val (.int p5), .val (.int v1), .val (.int v2), .val (.int v3), .val (.ref b4), .unset, .unset, .unset, .unset, .unset, .unset, .unset, .unset, .unset, .unset, .unset, .unset, .unset] [(.ref b8)]))
  refine own_via (fun _ k => XS.dup X11.here hx rfl (hb hby at_66) rfl rfl k) ?_
  show own_Go p e below s _ _ _ (T11.setTop (mkF m 67 #[.val (.int p0), .val (.int p1), .val (.int p2), .val (.int p3), .val (.int p4), .val (.int p5), .val (.int v1), .val (.int v2), .val (.int v3), .val (.ref b4), .unset, .unset, .unset, .unset, .unset, .unset, .unset, .unset, .unset, .unset, .unset, .unset, .unset] [(.ref b8), (.ref b8)]))
  refine own_via (fun _ k => XS.iconst X11.here hx rfl (hb hby at_67) k) ?_
  show own_Go p e below s _ _ _ (T11.setTop (mkF m 68 #[.val (.int p0), .val (.int p1), .val (.int p2), .val (.int p3), .val (.int p4), .val (.int p5), .val (.int v1), .val (.int v2), .val (.int v3), .val (.ref b4), .unset, .unset, .unset, .unset, .unset, .unset, .unset, .unset, .unset, .unset, .unset, .unset, .unset] [(.int (3 : Int32)), (.ref b8), (.ref b8)]))
  refine own_via (fun _ k => XS.iconst X11.here hx rfl (hb hby at_68) k) ?_
  show own_Go p e below s _ _ _ (T11.setTop (mkF m 69 #[.val (.int p0), .val (.int p1), .val (.int p2), .val (.int p3), .val (.int p4), .val (.int p5), .val (.int v1), .val (.int v2), .val (.int v3), .val (.ref b4), .unset, .unset, .unset, .unset, .unset, .unset, .unset, .unset, .unset, .unset, .unset, .unset, .unset] [(.int (0 : Int32)), (.int (3 : Int32)), (.ref b8), (.ref b8)]))
  obtain ⟨cl12, Ar12, q12, S12, M12, H12, G12⟩ := (id V11)
  have hin12 : ¬ ((3 : Int32) < 0 ∨ cl12.slots.size ≤ ((3 : Int32)).toNatClampNeg) := inb_of S12 ⟨by decide, by decide⟩
  obtain ⟨T12, h12, X12, e12, W12, st12⟩ := stI X11 hx hZ e11 Ar12 (j := (3 : Int32)) hin12 (g := (mkF m 69 #[.val (.int p0), .val (.int p1), .val (.int p2), .val (.int p3), .val (.int p4), .val (.int p5), .val (.int v1), .val (.int v2), .val (.int v3), .val (.ref b4), .unset, .unset, .unset, .unset, .unset, .unset, .unset, .unset, .unset, .unset, .unset, .unset, .unset] [(.int (0 : Int32)), (.int (3 : Int32)), (.ref b8), (.ref b8)])) rfl rfl (hb hby at_69)
  have V12 : Arv Z h12 b8 k8 .int (18 : Int32) [(.int (0 : Int32)), (.int (1 : Int32)), (.int (2 : Int32)), (.int (0 : Int32)), (.int (0 : Int32)), (.int (0 : Int32)), (.int (0 : Int32)), (.int (0 : Int32)), (.int (0 : Int32)), (.int (0 : Int32)), (.int (0 : Int32)), (.int (0 : Int32)), (.int (0 : Int32)), (.int (0 : Int32)), (.int (0 : Int32)), (.int (0 : Int32)), (.int (0 : Int32)), (.int (0 : Int32))] (.int (0 : Int32)) := Arv.set Ar12 q12 S12 M12 H12 G12 rfl W12 3 rfl (Nat.le_of_ble_eq_true rfl)
  have N12 := Fr.snoc X12 N11 g_b8
  have Z12 : n0 ≤ h12.size := Nat.le_trans Z11 (Keep.of_wr W12).1
  refine own_via st12 ?_
  show own_Go p e below s _ _ _ (T12.setTop (mkF m 70 #[.val (.int p0), .val (.int p1), .val (.int p2), .val (.int p3), .val (.int p4), .val (.int p5), .val (.int v1), .val (.int v2), .val (.int v3), .val (.ref b4), .unset, .unset, .unset, .unset, .unset, .unset, .unset, .unset, .unset, .unset, .unset, .unset, .unset] [(.ref b8)]))
  refine own_via (fun _ k => XS.dup X12.here hx rfl (hb hby at_70) rfl rfl k) ?_
  show own_Go p e below s _ _ _ (T12.setTop (mkF m 71 #[.val (.int p0), .val (.int p1), .val (.int p2), .val (.int p3), .val (.int p4), .val (.int p5), .val (.int v1), .val (.int v2), .val (.int v3), .val (.ref b4), .unset, .unset, .unset, .unset, .unset, .unset, .unset, .unset, .unset, .unset, .unset, .unset, .unset] [(.ref b8), (.ref b8)]))
  refine own_via (fun _ k => XS.iconst X12.here hx rfl (hb hby at_71) k) ?_
  show own_Go p e below s _ _ _ (T12.setTop (mkF m 72 #[.val (.int p0), .val (.int p1), .val (.int p2), .val (.int p3), .val (.int p4), .val (.int p5), .val (.int v1), .val (.int v2), .val (.int v3), .val (.ref b4), .unset, .unset, .unset, .unset, .unset, .unset, .unset, .unset, .unset, .unset, .unset, .unset, .unset] [(.int (4 : Int32)), (.ref b8), (.ref b8)]))
  refine own_via (fun _ k => XS.iconst X12.here hx rfl (hb hby at_72) k) ?_
  show own_Go p e below s _ _ _ (T12.setTop (mkF m 73 #[.val (.int p0), .val (.int p1), .val (.int p2), .val (.int p3), .val (.int p4), .val (.int p5), .val (.int v1), .val (.int v2), .val (.int v3), .val (.ref b4), .unset, .unset, .unset, .unset, .unset, .unset, .unset, .unset, .unset, .unset, .unset, .unset, .unset] [(.int (2 : Int32)), (.int (4 : Int32)), (.ref b8), (.ref b8)]))
  obtain ⟨cl13, Ar13, q13, S13, M13, H13, G13⟩ := (id V12)
  have hin13 : ¬ ((4 : Int32) < 0 ∨ cl13.slots.size ≤ ((4 : Int32)).toNatClampNeg) := inb_of S13 ⟨by decide, by decide⟩
  obtain ⟨T13, h13, X13, e13, W13, st13⟩ := stI X12 hx hZ e12 Ar13 (j := (4 : Int32)) hin13 (g := (mkF m 73 #[.val (.int p0), .val (.int p1), .val (.int p2), .val (.int p3), .val (.int p4), .val (.int p5), .val (.int v1), .val (.int v2), .val (.int v3), .val (.ref b4), .unset, .unset, .unset, .unset, .unset, .unset, .unset, .unset, .unset, .unset, .unset, .unset, .unset] [(.int (2 : Int32)), (.int (4 : Int32)), (.ref b8), (.ref b8)])) rfl rfl (hb hby at_73)
  have V13 : Arv Z h13 b8 k8 .int (18 : Int32) [(.int (0 : Int32)), (.int (1 : Int32)), (.int (2 : Int32)), (.int (0 : Int32)), (.int (2 : Int32)), (.int (0 : Int32)), (.int (0 : Int32)), (.int (0 : Int32)), (.int (0 : Int32)), (.int (0 : Int32)), (.int (0 : Int32)), (.int (0 : Int32)), (.int (0 : Int32)), (.int (0 : Int32)), (.int (0 : Int32)), (.int (0 : Int32)), (.int (0 : Int32)), (.int (0 : Int32))] (.int (0 : Int32)) := Arv.set Ar13 q13 S13 M13 H13 G13 rfl W13 4 rfl (Nat.le_of_ble_eq_true rfl)
  have N13 := Fr.snoc X13 N12 g_b8
  have Z13 : n0 ≤ h13.size := Nat.le_trans Z12 (Keep.of_wr W13).1
  refine own_via st13 ?_
  show own_Go p e below s _ _ _ (T13.setTop (mkF m 74 #[.val (.int p0), .val (.int p1), .val (.int p2), .val (.int p3), .val (.int p4), .val (.int p5), .val (.int v1), .val (.int v2), .val (.int v3), .val (.ref b4), .unset, .unset, .unset, .unset, .unset, .unset, .unset, .unset, .unset, .unset, .unset, .unset, .unset] [(.ref b8)]))
  refine own_via (fun _ k => XS.dup X13.here hx rfl (hb hby at_74) rfl rfl k) ?_
  show own_Go p e below s _ _ _ (T13.setTop (mkF m 75 #[.val (.int p0), .val (.int p1), .val (.int p2), .val (.int p3), .val (.int p4), .val (.int p5), .val (.int v1), .val (.int v2), .val (.int v3), .val (.ref b4), .unset, .unset, .unset, .unset, .unset, .unset, .unset, .unset, .unset, .unset, .unset, .unset, .unset] [(.ref b8), (.ref b8)]))
  refine own_via (fun _ k => XS.iconst X13.here hx rfl (hb hby at_75) k) ?_
  show own_Go p e below s _ _ _ (T13.setTop (mkF m 76 #[.val (.int p0), .val (.int p1), .val (.int p2), .val (.int p3), .val (.int p4), .val (.int p5), .val (.int v1), .val (.int v2), .val (.int v3), .val (.ref b4), .unset, .unset, .unset, .unset, .unset, .unset, .unset, .unset, .unset, .unset, .unset, .unset, .unset] [(.int (5 : Int32)), (.ref b8), (.ref b8)]))
  refine own_via (fun _ k => XS.iconst X13.here hx rfl (hb hby at_76) k) ?_
  show own_Go p e below s _ _ _ (T13.setTop (mkF m 77 #[.val (.int p0), .val (.int p1), .val (.int p2), .val (.int p3), .val (.int p4), .val (.int p5), .val (.int v1), .val (.int v2), .val (.int v3), .val (.ref b4), .unset, .unset, .unset, .unset, .unset, .unset, .unset, .unset, .unset, .unset, .unset, .unset, .unset] [(.int (1 : Int32)), (.int (5 : Int32)), (.ref b8), (.ref b8)]))
  obtain ⟨cl14, Ar14, q14, S14, M14, H14, G14⟩ := (id V13)
  have hin14 : ¬ ((5 : Int32) < 0 ∨ cl14.slots.size ≤ ((5 : Int32)).toNatClampNeg) := inb_of S14 ⟨by decide, by decide⟩
  obtain ⟨T14, h14, X14, e14, W14, st14⟩ := stI X13 hx hZ e13 Ar14 (j := (5 : Int32)) hin14 (g := (mkF m 77 #[.val (.int p0), .val (.int p1), .val (.int p2), .val (.int p3), .val (.int p4), .val (.int p5), .val (.int v1), .val (.int v2), .val (.int v3), .val (.ref b4), .unset, .unset, .unset, .unset, .unset, .unset, .unset, .unset, .unset, .unset, .unset, .unset, .unset] [(.int (1 : Int32)), (.int (5 : Int32)), (.ref b8), (.ref b8)])) rfl rfl (hb hby at_77)
  have V14 : Arv Z h14 b8 k8 .int (18 : Int32) [(.int (0 : Int32)), (.int (1 : Int32)), (.int (2 : Int32)), (.int (0 : Int32)), (.int (2 : Int32)), (.int (1 : Int32)), (.int (0 : Int32)), (.int (0 : Int32)), (.int (0 : Int32)), (.int (0 : Int32)), (.int (0 : Int32)), (.int (0 : Int32)), (.int (0 : Int32)), (.int (0 : Int32)), (.int (0 : Int32)), (.int (0 : Int32)), (.int (0 : Int32)), (.int (0 : Int32))] (.int (0 : Int32)) := Arv.set Ar14 q14 S14 M14 H14 G14 rfl W14 5 rfl (Nat.le_of_ble_eq_true rfl)
  have N14 := Fr.snoc X14 N13 g_b8
  have Z14 : n0 ≤ h14.size := Nat.le_trans Z13 (Keep.of_wr W14).1
  refine own_via st14 ?_
  show own_Go p e below s _ _ _ (T14.setTop (mkF m 78 #[.val (.int p0), .val (.int p1), .val (.int p2), .val (.int p3), .val (.int p4), .val (.int p5), .val (.int v1), .val (.int v2), .val (.int v3), .val (.ref b4), .unset, .unset, .unset, .unset, .unset, .unset, .unset, .unset, .unset, .unset, .unset, .unset, .unset] [(.ref b8)]))
  refine own_via (fun _ k => XS.dup X14.here hx rfl (hb hby at_78) rfl rfl k) ?_
  show own_Go p e below s _ _ _ (T14.setTop (mkF m 79 #[.val (.int p0), .val (.int p1), .val (.int p2), .val (.int p3), .val (.int p4), .val (.int p5), .val (.int v1), .val (.int v2), .val (.int v3), .val (.ref b4), .unset, .unset, .unset, .unset, .unset, .unset, .unset, .unset, .unset, .unset, .unset, .unset, .unset] [(.ref b8), (.ref b8)]))
  refine own_via (fun _ k => XS.bipush X14.here hx rfl (hb hby at_79) k) ?_
  show own_Go p e below s _ _ _ (T14.setTop (mkF m 81 #[.val (.int p0), .val (.int p1), .val (.int p2), .val (.int p3), .val (.int p4), .val (.int p5), .val (.int v1), .val (.int v2), .val (.int v3), .val (.ref b4), .unset, .unset, .unset, .unset, .unset, .unset, .unset, .unset, .unset, .unset, .unset, .unset, .unset] [(.int (6 : Int32)), (.ref b8), (.ref b8)]))
  refine own_via (fun _ k => XS.iconst X14.here hx rfl (hb hby at_81) k) ?_
  show own_Go p e below s _ _ _ (T14.setTop (mkF m 82 #[.val (.int p0), .val (.int p1), .val (.int p2), .val (.int p3), .val (.int p4), .val (.int p5), .val (.int v1), .val (.int v2), .val (.int v3), .val (.ref b4), .unset, .unset, .unset, .unset, .unset, .unset, .unset, .unset, .unset, .unset, .unset, .unset, .unset] [(.int (1 : Int32)), (.int (6 : Int32)), (.ref b8), (.ref b8)]))
  obtain ⟨cl15, Ar15, q15, S15, M15, H15, G15⟩ := (id V14)
  have hin15 : ¬ ((6 : Int32) < 0 ∨ cl15.slots.size ≤ ((6 : Int32)).toNatClampNeg) := inb_of S15 ⟨by decide, by decide⟩
  obtain ⟨T15, h15, X15, e15, W15, st15⟩ := stI X14 hx hZ e14 Ar15 (j := (6 : Int32)) hin15 (g := (mkF m 82 #[.val (.int p0), .val (.int p1), .val (.int p2), .val (.int p3), .val (.int p4), .val (.int p5), .val (.int v1), .val (.int v2), .val (.int v3), .val (.ref b4), .unset, .unset, .unset, .unset, .unset, .unset, .unset, .unset, .unset, .unset, .unset, .unset, .unset] [(.int (1 : Int32)), (.int (6 : Int32)), (.ref b8), (.ref b8)])) rfl rfl (hb hby at_82)
  have V15 : Arv Z h15 b8 k8 .int (18 : Int32) [(.int (0 : Int32)), (.int (1 : Int32)), (.int (2 : Int32)), (.int (0 : Int32)), (.int (2 : Int32)), (.int (1 : Int32)), (.int (1 : Int32)), (.int (0 : Int32)), (.int (0 : Int32)), (.int (0 : Int32)), (.int (0 : Int32)), (.int (0 : Int32)), (.int (0 : Int32)), (.int (0 : Int32)), (.int (0 : Int32)), (.int (0 : Int32)), (.int (0 : Int32)), (.int (0 : Int32))] (.int (0 : Int32)) := Arv.set Ar15 q15 S15 M15 H15 G15 rfl W15 6 rfl (Nat.le_of_ble_eq_true rfl)
  have N15 := Fr.snoc X15 N14 g_b8
  have Z15 : n0 ≤ h15.size := Nat.le_trans Z14 (Keep.of_wr W15).1
  refine own_via st15 ?_
  show own_Go p e below s _ _ _ (T15.setTop (mkF m 83 #[.val (.int p0), .val (.int p1), .val (.int p2), .val (.int p3), .val (.int p4), .val (.int p5), .val (.int v1), .val (.int v2), .val (.int v3), .val (.ref b4), .unset, .unset, .unset, .unset, .unset, .unset, .unset, .unset, .unset, .unset, .unset, .unset, .unset] [(.ref b8)]))
  refine own_via (fun _ k => XS.dup X15.here hx rfl (hb hby at_83) rfl rfl k) ?_
  show own_Go p e below s _ _ _ (T15.setTop (mkF m 84 #[.val (.int p0), .val (.int p1), .val (.int p2), .val (.int p3), .val (.int p4), .val (.int p5), .val (.int v1), .val (.int v2), .val (.int v3), .val (.ref b4), .unset, .unset, .unset, .unset, .unset, .unset, .unset, .unset, .unset, .unset, .unset, .unset, .unset] [(.ref b8), (.ref b8)]))
  refine own_via (fun _ k => XS.bipush X15.here hx rfl (hb hby at_84) k) ?_
  show own_Go p e below s _ _ _ (T15.setTop (mkF m 86 #[.val (.int p0), .val (.int p1), .val (.int p2), .val (.int p3), .val (.int p4), .val (.int p5), .val (.int v1), .val (.int v2), .val (.int v3), .val (.ref b4), .unset, .unset, .unset, .unset, .unset, .unset, .unset, .unset, .unset, .unset, .unset, .unset, .unset] [(.int (7 : Int32)), (.ref b8), (.ref b8)]))
  refine own_via (fun _ k => XS.iconst X15.here hx rfl (hb hby at_86) k) ?_
  show own_Go p e below s _ _ _ (T15.setTop (mkF m 87 #[.val (.int p0), .val (.int p1), .val (.int p2), .val (.int p3), .val (.int p4), .val (.int p5), .val (.int v1), .val (.int v2), .val (.int v3), .val (.ref b4), .unset, .unset, .unset, .unset, .unset, .unset, .unset, .unset, .unset, .unset, .unset, .unset, .unset] [(.int (0 : Int32)), (.int (7 : Int32)), (.ref b8), (.ref b8)]))
  obtain ⟨cl16, Ar16, q16, S16, M16, H16, G16⟩ := (id V15)
  have hin16 : ¬ ((7 : Int32) < 0 ∨ cl16.slots.size ≤ ((7 : Int32)).toNatClampNeg) := inb_of S16 ⟨by decide, by decide⟩
  obtain ⟨T16, h16, X16, e16, W16, st16⟩ := stI X15 hx hZ e15 Ar16 (j := (7 : Int32)) hin16 (g := (mkF m 87 #[.val (.int p0), .val (.int p1), .val (.int p2), .val (.int p3), .val (.int p4), .val (.int p5), .val (.int v1), .val (.int v2), .val (.int v3), .val (.ref b4), .unset, .unset, .unset, .unset, .unset, .unset, .unset, .unset, .unset, .unset, .unset, .unset, .unset] [(.int (0 : Int32)), (.int (7 : Int32)), (.ref b8), (.ref b8)])) rfl rfl (hb hby at_87)
  have V16 : Arv Z h16 b8 k8 .int (18 : Int32) [(.int (0 : Int32)), (.int (1 : Int32)), (.int (2 : Int32)), (.int (0 : Int32)), (.int (2 : Int32)), (.int (1 : Int32)), (.int (1 : Int32)), (.int (0 : Int32)), (.int (0 : Int32)), (.int (0 : Int32)), (.int (0 : Int32)), (.int (0 : Int32)), (.int (0 : Int32)), (.int (0 : Int32)), (.int (0 : Int32)), (.int (0 : Int32)), (.int (0 : Int32)), (.int (0 : Int32))] (.int (0 : Int32)) := Arv.set Ar16 q16 S16 M16 H16 G16 rfl W16 7 rfl (Nat.le_of_ble_eq_true rfl)
  have N16 := Fr.snoc X16 N15 g_b8
  have Z16 : n0 ≤ h16.size := Nat.le_trans Z15 (Keep.of_wr W16).1
  refine own_via st16 ?_
  show own_Go p e below s _ _ _ (T16.setTop (mkF m 88 #[.val (.int p0), .val (.int p1), .val (.int p2), .val (.int p3), .val (.int p4), .val (.int p5), .val (.int v1), .val (.int v2), .val (.int v3), .val (.ref b4), .unset, .unset, .unset, .unset, .unset, .unset, .unset, .unset, .unset, .unset, .unset, .unset, .unset] [(.ref b8)]))
  refine own_via (fun _ k => XS.dup X16.here hx rfl (hb hby at_88) rfl rfl k) ?_
  show own_Go p e below s _ _ _ (T16.setTop (mkF m 89 #[.val (.int p0), .val (.int p1), .val (.int p2), .val (.int p3), .val (.int p4), .val (.int p5), .val (.int v1), .val (.int v2), .val (.int v3), .val (.ref b4), .unset, .unset, .unset, .unset, .unset, .unset, .unset, .unset, .unset, .unset, .unset, .unset, .unset] [(.ref b8), (.ref b8)]))
  refine own_via (fun _ k => XS.bipush X16.here hx rfl (hb hby at_89) k) ?_
  show own_Go p e below s _ _ _ (T16.setTop (mkF m 91 #[.val (.int p0), .val (.int p1), .val (.int p2), .val (.int p3), .val (.int p4), .val (.int p5), .val (.int v1), .val (.int v2), .val (.int v3), .val (.ref b4), .unset, .unset, .unset, .unset, .unset, .unset, .unset, .unset, .unset, .unset, .unset, .unset, .unset] [(.int (8 : Int32)), (.ref b8), (.ref b8)]))
  refine own_via (fun _ k => XS.iconst X16.here hx rfl (hb hby at_91) k) ?_
  show own_Go p e below s _ _ _ (T16.setTop (mkF m 92 #[.val (.int p0), .val (.int p1), .val (.int p2), .val (.int p3), .val (.int p4), .val (.int p5), .val (.int v1), .val (.int v2), .val (.int v3), .val (.ref b4), .unset, .unset, .unset, .unset, .unset, .unset, .unset, .unset, .unset, .unset, .unset, .unset, .unset] [(.int (2 : Int32)), (.int (8 : Int32)), (.ref b8), (.ref b8)]))
  obtain ⟨cl17, Ar17, q17, S17, M17, H17, G17⟩ := (id V16)
  have hin17 : ¬ ((8 : Int32) < 0 ∨ cl17.slots.size ≤ ((8 : Int32)).toNatClampNeg) := inb_of S17 ⟨by decide, by decide⟩
  obtain ⟨T17, h17, X17, e17, W17, st17⟩ := stI X16 hx hZ e16 Ar17 (j := (8 : Int32)) hin17 (g := (mkF m 92 #[.val (.int p0), .val (.int p1), .val (.int p2), .val (.int p3), .val (.int p4), .val (.int p5), .val (.int v1), .val (.int v2), .val (.int v3), .val (.ref b4), .unset, .unset, .unset, .unset, .unset, .unset, .unset, .unset, .unset, .unset, .unset, .unset, .unset] [(.int (2 : Int32)), (.int (8 : Int32)), (.ref b8), (.ref b8)])) rfl rfl (hb hby at_92)
  have V17 : Arv Z h17 b8 k8 .int (18 : Int32) [(.int (0 : Int32)), (.int (1 : Int32)), (.int (2 : Int32)), (.int (0 : Int32)), (.int (2 : Int32)), (.int (1 : Int32)), (.int (1 : Int32)), (.int (0 : Int32)), (.int (2 : Int32)), (.int (0 : Int32)), (.int (0 : Int32)), (.int (0 : Int32)), (.int (0 : Int32)), (.int (0 : Int32)), (.int (0 : Int32)), (.int (0 : Int32)), (.int (0 : Int32)), (.int (0 : Int32))] (.int (0 : Int32)) := Arv.set Ar17 q17 S17 M17 H17 G17 rfl W17 8 rfl (Nat.le_of_ble_eq_true rfl)
  have N17 := Fr.snoc X17 N16 g_b8
  have Z17 : n0 ≤ h17.size := Nat.le_trans Z16 (Keep.of_wr W17).1
  refine own_via st17 ?_
  show own_Go p e below s _ _ _ (T17.setTop (mkF m 93 #[.val (.int p0), .val (.int p1), .val (.int p2), .val (.int p3), .val (.int p4), .val (.int p5), .val (.int v1), .val (.int v2), .val (.int v3), .val (.ref b4), .unset, .unset, .unset, .unset, .unset, .unset, .unset, .unset, .unset, .unset, .unset, .unset, .unset] [(.ref b8)]))
  refine own_via (fun _ k => XS.dup X17.here hx rfl (hb hby at_93) rfl rfl k) ?_
  show own_Go p e below s _ _ _ (T17.setTop (mkF m 94 #[.val (.int p0), .val (.int p1), .val (.int p2), .val (.int p3), .val (.int p4), .val (.int p5), .val (.int v1), .val (.int v2), .val (.int v3), .val (.ref b4), .unset, .unset, .unset, .unset, .unset, .unset, .unset, .unset, .unset, .unset, .unset, .unset, .unset] [(.ref b8), (.ref b8)]))
  refine own_via (fun _ k => XS.bipush X17.here hx rfl (hb hby at_94) k) ?_
  show own_Go p e below s _ _ _ (T17.setTop (mkF m 96 #[.val (.int p0), .val (.int p1), .val (.int p2), .val (.int p3), .val (.int p4), .val (.int p5), .val (.int v1), .val (.int v2), .val (.int v3), .val (.ref b4), .unset, .unset, .unset, .unset, .unset, .unset, .unset, .unset, .unset, .unset, .unset, .unset, .unset] [(.int (9 : Int32)), (.ref b8), (.ref b8)]))
  refine own_via (fun _ k => XS.iconst X17.here hx rfl (hb hby at_96) k) ?_
  show own_Go p e below s _ _ _ (T17.setTop (mkF m 97 #[.val (.int p0), .val (.int p1), .val (.int p2), .val (.int p3), .val (.int p4), .val (.int p5), .val (.int v1), .val (.int v2), .val (.int v3), .val (.ref b4), .unset, .unset, .unset, .unset, .unset, .unset, .unset, .unset, .unset, .unset, .unset, .unset, .unset] [(.int (1 : Int32)), (.int (9 : Int32)), (.ref b8), (.ref b8)]))
  obtain ⟨cl18, Ar18, q18, S18, M18, H18, G18⟩ := (id V17)
  have hin18 : ¬ ((9 : Int32) < 0 ∨ cl18.slots.size ≤ ((9 : Int32)).toNatClampNeg) := inb_of S18 ⟨by decide, by decide⟩
  obtain ⟨T18, h18, X18, e18, W18, st18⟩ := stI X17 hx hZ e17 Ar18 (j := (9 : Int32)) hin18 (g := (mkF m 97 #[.val (.int p0), .val (.int p1), .val (.int p2), .val (.int p3), .val (.int p4), .val (.int p5), .val (.int v1), .val (.int v2), .val (.int v3), .val (.ref b4), .unset, .unset, .unset, .unset, .unset, .unset, .unset, .unset, .unset, .unset, .unset, .unset, .unset] [(.int (1 : Int32)), (.int (9 : Int32)), (.ref b8), (.ref b8)])) rfl rfl (hb hby at_97)
  have V18 : Arv Z h18 b8 k8 .int (18 : Int32) [(.int (0 : Int32)), (.int (1 : Int32)), (.int (2 : Int32)), (.int (0 : Int32)), (.int (2 : Int32)), (.int (1 : Int32)), (.int (1 : Int32)), (.int (0 : Int32)), (.int (2 : Int32)), (.int (1 : Int32)), (.int (0 : Int32)), (.int (0 : Int32)), (.int (0 : Int32)), (.int (0 : Int32)), (.int (0 : Int32)), (.int (0 : Int32)), (.int (0 : Int32)), (.int (0 : Int32))] (.int (0 : Int32)) := Arv.set Ar18 q18 S18 M18 H18 G18 rfl W18 9 rfl (Nat.le_of_ble_eq_true rfl)
  have N18 := Fr.snoc X18 N17 g_b8
  have Z18 : n0 ≤ h18.size := Nat.le_trans Z17 (Keep.of_wr W18).1
  refine own_via st18 ?_
  show own_Go p e below s _ _ _ (T18.setTop (mkF m 98 #[.val (.int p0), .val (.int p1), .val (.int p2), .val (.int p3), .val (.int p4), .val (.int p5), .val (.int v1), .val (.int v2), .val (.int v3), .val (.ref b4), .unset, .unset, .unset, .unset, .unset, .unset, .unset, .unset, .unset, .unset, .unset, .unset, .unset] [(.ref b8)]))
  refine own_via (fun _ k => XS.dup X18.here hx rfl (hb hby at_98) rfl rfl k) ?_
  show own_Go p e below s _ _ _ (T18.setTop (mkF m 99 #[.val (.int p0), .val (.int p1), .val (.int p2), .val (.int p3), .val (.int p4), .val (.int p5), .val (.int v1), .val (.int v2), .val (.int v3), .val (.ref b4), .unset, .unset, .unset, .unset, .unset, .unset, .unset, .unset, .unset, .unset, .unset, .unset, .unset] [(.ref b8), (.ref b8)]))
  refine own_via (fun _ k => XS.bipush X18.here hx rfl (hb hby at_99) k) ?_
  show own_Go p e below s _ _ _ (T18.setTop (mkF m 101 #[.val (.int p0), .val (.int p1), .val (.int p2), .val (.int p3), .val (.int p4), .val (.int p5), .val (.int v1), .val (.int v2), .val (.int v3), .val (.ref b4), .unset, .unset, .unset, .unset, .unset, .unset, .unset, .unset, .unset, .unset, .unset, .unset, .unset] [(.int (10 : Int32)), (.ref b8), (.ref b8)]))
  refine own_via (fun _ k => XS.iconst X18.here hx rfl (hb hby at_101) k) ?_
  show own_Go p e below s _ _ _ (T18.setTop (mkF m 102 #[.val (.int p0), .val (.int p1), .val (.int p2), .val (.int p3), .val (.int p4), .val (.int p5), .val (.int v1), .val (.int v2), .val (.int v3), .val (.ref b4), .unset, .unset, .unset, .unset, .unset, .unset, .unset, .unset, .unset, .unset, .unset, .unset, .unset] [(.int (2 : Int32)), (.int (10 : Int32)), (.ref b8), (.ref b8)]))
  obtain ⟨cl19, Ar19, q19, S19, M19, H19, G19⟩ := (id V18)
  have hin19 : ¬ ((10 : Int32) < 0 ∨ cl19.slots.size ≤ ((10 : Int32)).toNatClampNeg) := inb_of S19 ⟨by decide, by decide⟩
  obtain ⟨T19, h19, X19, e19, W19, st19⟩ := stI X18 hx hZ e18 Ar19 (j := (10 : Int32)) hin19 (g := (mkF m 102 #[.val (.int p0), .val (.int p1), .val (.int p2), .val (.int p3), .val (.int p4), .val (.int p5), .val (.int v1), .val (.int v2), .val (.int v3), .val (.ref b4), .unset, .unset, .unset, .unset, .unset, .unset, .unset, .unset, .unset, .unset, .unset, .unset, .unset] [(.int (2 : Int32)), (.int (10 : Int32)), (.ref b8), (.ref b8)])) rfl rfl (hb hby at_102)
  have V19 : Arv Z h19 b8 k8 .int (18 : Int32) [(.int (0 : Int32)), (.int (1 : Int32)), (.int (2 : Int32)), (.int (0 : Int32)), (.int (2 : Int32)), (.int (1 : Int32)), (.int (1 : Int32)), (.int (0 : Int32)), (.int (2 : Int32)), (.int (1 : Int32)), (.int (2 : Int32)), (.int (0 : Int32)), (.int (0 : Int32)), (.int (0 : Int32)), (.int (0 : Int32)), (.int (0 : Int32)), (.int (0 : Int32)), (.int (0 : Int32))] (.int (0 : Int32)) := Arv.set Ar19 q19 S19 M19 H19 G19 rfl W19 10 rfl (Nat.le_of_ble_eq_true rfl)
  have N19 := Fr.snoc X19 N18 g_b8
  have Z19 : n0 ≤ h19.size := Nat.le_trans Z18 (Keep.of_wr W19).1
  refine own_via st19 ?_
  show own_Go p e below s _ _ _ (T19.setTop (mkF m 103 #[.val (.int p0), .val (.int p1), .val (.int p2), .val (.int p3), .val (.int p4), .val (.int p5), .val (.int v1), .val (.int v2), .val (.int v3), .val (.ref b4), .unset, .unset, .unset, .unset, .unset, .unset, .unset, .unset, .unset, .unset, .unset, .unset, .unset] [(.ref b8)]))
  refine own_via (fun _ k => XS.dup X19.here hx rfl (hb hby at_103) rfl rfl k) ?_
  show own_Go p e below s _ _ _ (T19.setTop (mkF m 104 #[.val (.int p0), .val (.int p1), .val (.int p2), .val (.int p3), .val (.int p4), .val (.int p5), .val (.int v1), .val (.int v2), .val (.int v3), .val (.ref b4), .unset, .unset, .unset, .unset, .unset, .unset, .unset, .unset, .unset, .unset, .unset, .unset, .unset] [(.ref b8), (.ref b8)]))
  refine own_via (fun _ k => XS.bipush X19.here hx rfl (hb hby at_104) k) ?_
  show own_Go p e below s _ _ _ (T19.setTop (mkF m 106 #[.val (.int p0), .val (.int p1), .val (.int p2), .val (.int p3), .val (.int p4), .val (.int p5), .val (.int v1), .val (.int v2), .val (.int v3), .val (.ref b4), .unset, .unset, .unset, .unset, .unset, .unset, .unset, .unset, .unset, .unset, .unset, .unset, .unset] [(.int (11 : Int32)), (.ref b8), (.ref b8)]))
  refine own_via (fun _ k => XS.iconst X19.here hx rfl (hb hby at_106) k) ?_
  show own_Go p e below s _ _ _ (T19.setTop (mkF m 107 #[.val (.int p0), .val (.int p1), .val (.int p2), .val (.int p3), .val (.int p4), .val (.int p5), .val (.int v1), .val (.int v2), .val (.int v3), .val (.ref b4), .unset, .unset, .unset, .unset, .unset, .unset, .unset, .unset, .unset, .unset, .unset, .unset, .unset] [(.int (0 : Int32)), (.int (11 : Int32)), (.ref b8), (.ref b8)]))
  obtain ⟨cl20, Ar20, q20, S20, M20, H20, G20⟩ := (id V19)
  have hin20 : ¬ ((11 : Int32) < 0 ∨ cl20.slots.size ≤ ((11 : Int32)).toNatClampNeg) := inb_of S20 ⟨by decide, by decide⟩
  obtain ⟨T20, h20, X20, e20, W20, st20⟩ := stI X19 hx hZ e19 Ar20 (j := (11 : Int32)) hin20 (g := (mkF m 107 #[.val (.int p0), .val (.int p1), .val (.int p2), .val (.int p3), .val (.int p4), .val (.int p5), .val (.int v1), .val (.int v2), .val (.int v3), .val (.ref b4), .unset, .unset, .unset, .unset, .unset, .unset, .unset, .unset, .unset, .unset, .unset, .unset, .unset] [(.int (0 : Int32)), (.int (11 : Int32)), (.ref b8), (.ref b8)])) rfl rfl (hb hby at_107)
  have V20 : Arv Z h20 b8 k8 .int (18 : Int32) [(.int (0 : Int32)), (.int (1 : Int32)), (.int (2 : Int32)), (.int (0 : Int32)), (.int (2 : Int32)), (.int (1 : Int32)), (.int (1 : Int32)), (.int (0 : Int32)), (.int (2 : Int32)), (.int (1 : Int32)), (.int (2 : Int32)), (.int (0 : Int32)), (.int (0 : Int32)), (.int (0 : Int32)), (.int (0 : Int32)), (.int (0 : Int32)), (.int (0 : Int32)), (.int (0 : Int32))] (.int (0 : Int32)) := Arv.set Ar20 q20 S20 M20 H20 G20 rfl W20 11 rfl (Nat.le_of_ble_eq_true rfl)
  have N20 := Fr.snoc X20 N19 g_b8
  have Z20 : n0 ≤ h20.size := Nat.le_trans Z19 (Keep.of_wr W20).1
  refine own_via st20 ?_
  show own_Go p e below s _ _ _ (T20.setTop (mkF m 108 #[.val (.int p0), .val (.int p1), .val (.int p2), .val (.int p3), .val (.int p4), .val (.int p5), .val (.int v1), .val (.int v2), .val (.int v3), .val (.ref b4), .unset, .unset, .unset, .unset, .unset, .unset, .unset, .unset, .unset, .unset, .unset, .unset, .unset] [(.ref b8)]))
  refine own_via (fun _ k => XS.dup X20.here hx rfl (hb hby at_108) rfl rfl k) ?_
  show own_Go p e below s _ _ _ (T20.setTop (mkF m 109 #[.val (.int p0), .val (.int p1), .val (.int p2), .val (.int p3), .val (.int p4), .val (.int p5), .val (.int v1), .val (.int v2), .val (.int v3), .val (.ref b4), .unset, .unset, .unset, .unset, .unset, .unset, .unset, .unset, .unset, .unset, .unset, .unset, .unset] [(.ref b8), (.ref b8)]))
  refine own_via (fun _ k => XS.bipush X20.here hx rfl (hb hby at_109) k) ?_
  show own_Go p e below s _ _ _ (T20.setTop (mkF m 111 #[.val (.int p0), .val (.int p1), .val (.int p2), .val (.int p3), .val (.int p4), .val (.int p5), .val (.int v1), .val (.int v2), .val (.int v3), .val (.ref b4), .unset, .unset, .unset, .unset, .unset, .unset, .unset, .unset, .unset, .unset, .unset, .unset, .unset] [(.int (12 : Int32)), (.ref b8), (.ref b8)]))
  refine own_via (fun _ k => XS.iconst X20.here hx rfl (hb hby at_111) k) ?_
  show own_Go p e below s _ _ _ (T20.setTop (mkF m 112 #[.val (.int p0), .val (.int p1), .val (.int p2), .val (.int p3), .val (.int p4), .val (.int p5), .val (.int v1), .val (.int v2), .val (.int v3), .val (.ref b4), .unset, .unset, .unset, .unset, .unset, .unset, .unset, .unset, .unset, .unset, .unset, .unset, .unset] [(.int (2 : Int32)), (.int (12 : Int32)), (.ref b8), (.ref b8)]))
  obtain ⟨cl21, Ar21, q21, S21, M21, H21, G21⟩ := (id V20)
  have hin21 : ¬ ((12 : Int32) < 0 ∨ cl21.slots.size ≤ ((12 : Int32)).toNatClampNeg) := inb_of S21 ⟨by decide, by decide⟩
  obtain ⟨T21, h21, X21, e21, W21, st21⟩ := stI X20 hx hZ e20 Ar21 (j := (12 : Int32)) hin21 (g := (mkF m 112 #[.val (.int p0), .val (.int p1), .val (.int p2), .val (.int p3), .val (.int p4), .val (.int p5), .val (.int v1), .val (.int v2), .val (.int v3), .val (.ref b4), .unset, .unset, .unset, .unset, .unset, .unset, .unset, .unset, .unset, .unset, .unset, .unset, .unset] [(.int (2 : Int32)), (.int (12 : Int32)), (.ref b8), (.ref b8)])) rfl rfl (hb hby at_112)
  have V21 : Arv Z h21 b8 k8 .int (18 : Int32) [(.int (0 : Int32)), (.int (1 : Int32)), (.int (2 : Int32)), (.int (0 : Int32)), (.int (2 : Int32)), (.int (1 : Int32)), (.int (1 : Int32)), (.int (0 : Int32)), (.int (2 : Int32)), (.int (1 : Int32)), (.int (2 : Int32)), (.int (0 : Int32)), (.int (2 : Int32)), (.int (0 : Int32)), (.int (0 : Int32)), (.int (0 : Int32)), (.int (0 : Int32)), (.int (0 : Int32))] (.int (0 : Int32)) := Arv.set Ar21 q21 S21 M21 H21 G21 rfl W21 12 rfl (Nat.le_of_ble_eq_true rfl)
  have N21 := Fr.snoc X21 N20 g_b8
  have Z21 : n0 ≤ h21.size := Nat.le_trans Z20 (Keep.of_wr W21).1
  refine own_via st21 ?_
  show own_Go p e below s _ _ _ (T21.setTop (mkF m 113 #[.val (.int p0), .val (.int p1), .val (.int p2), .val (.int p3), .val (.int p4), .val (.int p5), .val (.int v1), .val (.int v2), .val (.int v3), .val (.ref b4), .unset, .unset, .unset, .unset, .unset, .unset, .unset, .unset, .unset, .unset, .unset, .unset, .unset] [(.ref b8)]))
  refine own_via (fun _ k => XS.dup X21.here hx rfl (hb hby at_113) rfl rfl k) ?_
  show own_Go p e below s _ _ _ (T21.setTop (mkF m 114 #[.val (.int p0), .val (.int p1), .val (.int p2), .val (.int p3), .val (.int p4), .val (.int p5), .val (.int v1), .val (.int v2), .val (.int v3), .val (.ref b4), .unset, .unset, .unset, .unset, .unset, .unset, .unset, .unset, .unset, .unset, .unset, .unset, .unset] [(.ref b8), (.ref b8)]))
  refine own_via (fun _ k => XS.bipush X21.here hx rfl (hb hby at_114) k) ?_
  show own_Go p e below s _ _ _ (T21.setTop (mkF m 116 #[.val (.int p0), .val (.int p1), .val (.int p2), .val (.int p3), .val (.int p4), .val (.int p5), .val (.int v1), .val (.int v2), .val (.int v3), .val (.ref b4), .unset, .unset, .unset, .unset, .unset, .unset, .unset, .unset, .unset, .unset, .unset, .unset, .unset] [(.int (13 : Int32)), (.ref b8), (.ref b8)]))
  refine own_via (fun _ k => XS.iconst X21.here hx rfl (hb hby at_116) k) ?_
  show own_Go p e below s _ _ _ (T21.setTop (mkF m 117 #[.val (.int p0), .val (.int p1), .val (.int p2), .val (.int p3), .val (.int p4), .val (.int p5), .val (.int v1), .val (.int v2), .val (.int v3), .val (.ref b4), .unset, .unset, .unset, .unset, .unset, .unset, .unset, .unset, .unset, .unset, .unset, .unset, .unset] [(.int (0 : Int32)), (.int (13 : Int32)), (.ref b8), (.ref b8)]))
  obtain ⟨cl22, Ar22, q22, S22, M22, H22, G22⟩ := (id V21)
  have hin22 : ¬ ((13 : Int32) < 0 ∨ cl22.slots.size ≤ ((13 : Int32)).toNatClampNeg) := inb_of S22 ⟨by decide, by decide⟩
  obtain ⟨T22, h22, X22, e22, W22, st22⟩ := stI X21 hx hZ e21 Ar22 (j := (13 : Int32)) hin22 (g := (mkF m 117 #[.val (.int p0), .val (.int p1), .val (.int p2), .val (.int p3), .val (.int p4), .val (.int p5), .val (.int v1), .val (.int v2), .val (.int v3), .val (.ref b4), .unset, .unset, .unset, .unset, .unset, .unset, .unset, .unset, .unset, .unset, .unset, .unset, .unset] [(.int (0 : Int32)), (.int (13 : Int32)), (.ref b8), (.ref b8)])) rfl rfl (hb hby at_117)
  have V22 : Arv Z h22 b8 k8 .int (18 : Int32) [(.int (0 : Int32)), (.int (1 : Int32)), (.int (2 : Int32)), (.int (0 : Int32)), (.int (2 : Int32)), (.int (1 : Int32)), (.int (1 : Int32)), (.int (0 : Int32)), (.int (2 : Int32)), (.int (1 : Int32)), (.int (2 : Int32)), (.int (0 : Int32)), (.int (2 : Int32)), (.int (0 : Int32)), (.int (0 : Int32)), (.int (0 : Int32)), (.int (0 : Int32)), (.int (0 : Int32))] (.int (0 : Int32)) := Arv.set Ar22 q22 S22 M22 H22 G22 rfl W22 13 rfl (Nat.le_of_ble_eq_true rfl)
  have N22 := Fr.snoc X22 N21 g_b8
  have Z22 : n0 ≤ h22.size := Nat.le_trans Z21 (Keep.of_wr W22).1
  refine own_via st22 ?_
  show own_Go p e below s _ _ _ (T22.setTop (mkF m 118 #[.val (.int p0), .val (.int p1), .val (.int p2), .val (.int p3), .val (.int p4), .val (.int p5), .val (.int v1), .val (.int v2), .val (.int v3), .val (.ref b4), .unset, .unset, .unset, .unset, .unset, .unset, .unset, .unset, .unset, .unset, .unset, .unset, .unset] [(.ref b8)]))
  refine own_via (fun _ k => XS.dup X22.here hx rfl (hb hby at_118) rfl rfl k) ?_
  show own_Go p e below s _ _ _ (T22.setTop (mkF m 119 #[.val (.int p0), .val (.int p1), .val (.int p2), .val (.int p3), .val (.int p4), .val (.int p5), .val (.int v1), .val (.int v2), .val (.int v3), .val (.ref b4), .unset, .unset, .unset, .unset, .unset, .unset, .unset, .unset, .unset, .unset, .unset, .unset, .unset] [(.ref b8), (.ref b8)]))
  refine own_via (fun _ k => XS.bipush X22.here hx rfl (hb hby at_119) k) ?_
  show own_Go p e below s _ _ _ (T22.setTop (mkF m 121 #[.val (.int p0), .val (.int p1), .val (.int p2), .val (.int p3), .val (.int p4), .val (.int p5), .val (.int v1), .val (.int v2), .val (.int v3), .val (.ref b4), .unset, .unset, .unset, .unset, .unset, .unset, .unset, .unset, .unset, .unset, .unset, .unset, .unset] [(.int (14 : Int32)), (.ref b8), (.ref b8)]))
  refine own_via (fun _ k => XS.iconst X22.here hx rfl (hb hby at_121) k) ?_
  show own_Go p e below s _ _ _ (T22.setTop (mkF m 122 #[.val (.int p0), .val (.int p1), .val (.int p2), .val (.int p3), .val (.int p4), .val (.int p5), .val (.int v1), .val (.int v2), .val (.int v3), .val (.ref b4), .unset, .unset, .unset, .unset, .unset, .unset, .unset, .unset, .unset, .unset, .unset, .unset, .unset] [(.int (1 : Int32)), (.int (14 : Int32)), (.ref b8), (.ref b8)]))
  obtain ⟨cl23, Ar23, q23, S23, M23, H23, G23⟩ := (id V22)
  have hin23 : ¬ ((14 : Int32) < 0 ∨ cl23.slots.size ≤ ((14 : Int32)).toNatClampNeg) := inb_of S23 ⟨by decide, by decide⟩
  obtain ⟨T23, h23, X23, e23, W23, st23⟩ := stI X22 hx hZ e22 Ar23 (j := (14 : Int32)) hin23 (g := (mkF m 122 #[.val (.int p0), .val (.int p1), .val (.int p2), .val (.int p3), .val (.int p4), .val (.int p5), .val (.int v1), .val (.int v2), .val (.int v3), .val (.ref b4), .unset, .unset, .unset, .unset, .unset, .unset, .unset, .unset, .unset, .unset, .unset, .unset, .unset] [(.int (1 : Int32)), (.int (14 : Int32)), (.ref b8), (.ref b8)])) rfl rfl (hb hby at_122)
  have V23 : Arv Z h23 b8 k8 .int (18 : Int32) [(.int (0 : Int32)), (.int (1 : Int32)), (.int (2 : Int32)), (.int (0 : Int32)), (.int (2 : Int32)), (.int (1 : Int32)), (.int (1 : Int32)), (.int (0 : Int32)), (.int (2 : Int32)), (.int (1 : Int32)), (.int (2 : Int32)), (.int (0 : Int32)), (.int (2 : Int32)), (.int (0 : Int32)), (.int (1 : Int32)), (.int (0 : Int32)), (.int (0 : Int32)), (.int (0 : Int32))] (.int (0 : Int32)) := Arv.set Ar23 q23 S23 M23 H23 G23 rfl W23 14 rfl (Nat.le_of_ble_eq_true rfl)
  have N23 := Fr.snoc X23 N22 g_b8
  have Z23 : n0 ≤ h23.size := Nat.le_trans Z22 (Keep.of_wr W23).1
  refine own_via st23 ?_
  show own_Go p e below s _ _ _ (T23.setTop (mkF m 123 #[.val (.int p0), .val (.int p1), .val (.int p2), .val (.int p3), .val (.int p4), .val (.int p5), .val (.int v1), .val (.int v2), .val (.int v3), .val (.ref b4), .unset, .unset, .unset, .unset, .unset, .unset, .unset, .unset, .unset, .unset, .unset, .unset, .unset] [(.ref b8)]))
  refine own_via (fun _ k => XS.dup X23.here hx rfl (hb hby at_123) rfl rfl k) ?_
  show own_Go p e below s _ _ _ (T23.setTop (mkF m 124 #[.val (.int p0), .val (.int p1), .val (.int p2), .val (.int p3), .val (.int p4), .val (.int p5), .val (.int v1), .val (.int v2), .val (.int v3), .val (.ref b4), .unset, .unset, .unset, .unset, .unset, .unset, .unset, .unset, .unset, .unset, .unset, .unset, .unset] [(.ref b8), (.ref b8)]))
  refine own_via (fun _ k => XS.bipush X23.here hx rfl (hb hby at_124) k) ?_
  show own_Go p e below s _ _ _ (T23.setTop (mkF m 126 #[.val (.int p0), .val (.int p1), .val (.int p2), .val (.int p3), .val (.int p4), .val (.int p5), .val (.int v1), .val (.int v2), .val (.int v3), .val (.ref b4), .unset, .unset, .unset, .unset, .unset, .unset, .unset, .unset, .unset, .unset, .unset, .unset, .unset] [(.int (15 : Int32)), (.ref b8), (.ref b8)]))
  refine own_via (fun _ k => XS.iconst X23.here hx rfl (hb hby at_126) k) ?_
  show own_Go p e below s _ _ _ (T23.setTop (mkF m 127 #[.val (.int p0), .val (.int p1), .val (.int p2), .val (.int p3), .val (.int p4), .val (.int p5), .val (.int v1), .val (.int v2), .val (.int v3), .val (.ref b4), .unset, .unset, .unset, .unset, .unset, .unset, .unset, .unset, .unset, .unset, .unset, .unset, .unset] [(.int (2 : Int32)), (.int (15 : Int32)), (.ref b8), (.ref b8)]))
  obtain ⟨cl24, Ar24, q24, S24, M24, H24, G24⟩ := (id V23)
  have hin24 : ¬ ((15 : Int32) < 0 ∨ cl24.slots.size ≤ ((15 : Int32)).toNatClampNeg) := inb_of S24 ⟨by decide, by decide⟩
  obtain ⟨T24, h24, X24, e24, W24, st24⟩ := stI X23 hx hZ e23 Ar24 (j := (15 : Int32)) hin24 (g := (mkF m 127 #[.val (.int p0), .val (.int p1), .val (.int p2), .val (.int p3), .val (.int p4), .val (.int p5), .val (.int v1), .val (.int v2), .val (.int v3), .val (.ref b4), .unset, .unset, .unset, .unset, .unset, .unset, .unset, .unset, .unset, .unset, .unset, .unset, .unset] [(.int (2 : Int32)), (.int (15 : Int32)), (.ref b8), (.ref b8)])) rfl rfl (hb hby at_127)
  have V24 : Arv Z h24 b8 k8 .int (18 : Int32) [(.int (0 : Int32)), (.int (1 : Int32)), (.int (2 : Int32)), (.int (0 : Int32)), (.int (2 : Int32)), (.int (1 : Int32)), (.int (1 : Int32)), (.int (0 : Int32)), (.int (2 : Int32)), (.int (1 : Int32)), (.int (2 : Int32)), (.int (0 : Int32)), (.int (2 : Int32)), (.int (0 : Int32)), (.int (1 : Int32)), (.int (2 : Int32)), (.int (0 : Int32)), (.int (0 : Int32))] (.int (0 : Int32)) := Arv.set Ar24 q24 S24 M24 H24 G24 rfl W24 15 rfl (Nat.le_of_ble_eq_true rfl)
  have N24 := Fr.snoc X24 N23 g_b8
  have Z24 : n0 ≤ h24.size := Nat.le_trans Z23 (Keep.of_wr W24).1
  refine own_via st24 ?_
  show own_Go p e below s _ _ _ (T24.setTop (mkF m 128 #[.val (.int p0), .val (.int p1), .val (.int p2), .val (.int p3), .val (.int p4), .val (.int p5), .val (.int v1), .val (.int v2), .val (.int v3), .val (.ref b4), .unset, .unset, .unset, .unset, .unset, .unset, .unset, .unset, .unset, .unset, .unset, .unset, .unset] [(.ref b8)]))
  refine own_via (fun _ k => XS.dup X24.here hx rfl (hb hby at_128) rfl rfl k) ?_
  show own_Go p e below s _ _ _ (T24.setTop (mkF m 129 #[.val (.int p0), .val (.int p1), .val (.int p2), .val (.int p3), .val (.int p4), .val (.int p5), .val (.int v1), .val (.int v2), .val (.int v3), .val (.ref b4), .unset, .unset, .unset, .unset, .unset, .unset, .unset, .unset, .unset, .unset, .unset, .unset, .unset] [(.ref b8), (.ref b8)]))
  refine own_via (fun _ k => XS.bipush X24.here hx rfl (hb hby at_129) k) ?_
  show own_Go p e below s _ _ _ (T24.setTop (mkF m 131 #[.val (.int p0), .val (.int p1), .val (.int p2), .val (.int p3), .val (.int p4), .val (.int p5), .val (.int v1), .val (.int v2), .val (.int v3), .val (.ref b4), .unset, .unset, .unset, .unset, .unset, .unset, .unset, .unset, .unset, .unset, .unset, .unset, .unset] [(.int (16 : Int32)), (.ref b8), (.ref b8)]))
  refine own_via (fun _ k => XS.iconst X24.here hx rfl (hb hby at_131) k) ?_
  show own_Go p e below s _ _ _ (T24.setTop (mkF m 132 #[.val (.int p0), .val (.int p1), .val (.int p2), .val (.int p3), .val (.int p4), .val (.int p5), .val (.int v1), .val (.int v2), .val (.int v3), .val (.ref b4), .unset, .unset, .unset, .unset, .unset, .unset, .unset, .unset, .unset, .unset, .unset, .unset, .unset] [(.int (1 : Int32)), (.int (16 : Int32)), (.ref b8), (.ref b8)]))
  obtain ⟨cl25, Ar25, q25, S25, M25, H25, G25⟩ := (id V24)
  have hin25 : ¬ ((16 : Int32) < 0 ∨ cl25.slots.size ≤ ((16 : Int32)).toNatClampNeg) := inb_of S25 ⟨by decide, by decide⟩
  obtain ⟨T25, h25, X25, e25, W25, st25⟩ := stI X24 hx hZ e24 Ar25 (j := (16 : Int32)) hin25 (g := (mkF m 132 #[.val (.int p0), .val (.int p1), .val (.int p2), .val (.int p3), .val (.int p4), .val (.int p5), .val (.int v1), .val (.int v2), .val (.int v3), .val (.ref b4), .unset, .unset, .unset, .unset, .unset, .unset, .unset, .unset, .unset, .unset, .unset, .unset, .unset] [(.int (1 : Int32)), (.int (16 : Int32)), (.ref b8), (.ref b8)])) rfl rfl (hb hby at_132)
  have V25 : Arv Z h25 b8 k8 .int (18 : Int32) [(.int (0 : Int32)), (.int (1 : Int32)), (.int (2 : Int32)), (.int (0 : Int32)), (.int (2 : Int32)), (.int (1 : Int32)), (.int (1 : Int32)), (.int (0 : Int32)), (.int (2 : Int32)), (.int (1 : Int32)), (.int (2 : Int32)), (.int (0 : Int32)), (.int (2 : Int32)), (.int (0 : Int32)), (.int (1 : Int32)), (.int (2 : Int32)), (.int (1 : Int32)), (.int (0 : Int32))] (.int (0 : Int32)) := Arv.set Ar25 q25 S25 M25 H25 G25 rfl W25 16 rfl (Nat.le_of_ble_eq_true rfl)
  have N25 := Fr.snoc X25 N24 g_b8
  have Z25 : n0 ≤ h25.size := Nat.le_trans Z24 (Keep.of_wr W25).1
  refine own_via st25 ?_
  show own_Go p e below s _ _ _ (T25.setTop (mkF m 133 #[.val (.int p0), .val (.int p1), .val (.int p2), .val (.int p3), .val (.int p4), .val (.int p5), .val (.int v1), .val (.int v2), .val (.int v3), .val (.ref b4), .unset, .unset, .unset, .unset, .unset, .unset, .unset, .unset, .unset, .unset, .unset, .unset, .unset] [(.ref b8)]))
  refine own_via (fun _ k => XS.dup X25.here hx rfl (hb hby at_133) rfl rfl k) ?_
  show own_Go p e below s _ _ _ (T25.setTop (mkF m 134 #[.val (.int p0), .val (.int p1), .val (.int p2), .val (.int p3), .val (.int p4), .val (.int p5), .val (.int v1), .val (.int v2), .val (.int v3), .val (.ref b4), .unset, .unset, .unset, .unset, .unset, .unset, .unset, .unset, .unset, .unset, .unset, .unset, .unset] [(.ref b8), (.ref b8)]))
  refine own_via (fun _ k => XS.bipush X25.here hx rfl (hb hby at_134) k) ?_
  show own_Go p e below s _ _ _ (T25.setTop (mkF m 136 #[.val (.int p0), .val (.int p1), .val (.int p2), .val (.int p3), .val (.int p4), .val (.int p5), .val (.int v1), .val (.int v2), .val (.int v3), .val (.ref b4), .unset, .unset, .unset, .unset, .unset, .unset, .unset, .unset, .unset, .unset, .unset, .unset, .unset] [(.int (17 : Int32)), (.ref b8), (.ref b8)]))
  refine own_via (fun _ k => XS.iconst X25.here hx rfl (hb hby at_136) k) ?_
  show own_Go p e below s _ _ _ (T25.setTop (mkF m 137 #[.val (.int p0), .val (.int p1), .val (.int p2), .val (.int p3), .val (.int p4), .val (.int p5), .val (.int v1), .val (.int v2), .val (.int v3), .val (.ref b4), .unset, .unset, .unset, .unset, .unset, .unset, .unset, .unset, .unset, .unset, .unset, .unset, .unset] [(.int (0 : Int32)), (.int (17 : Int32)), (.ref b8), (.ref b8)]))
  obtain ⟨cl26, Ar26, q26, S26, M26, H26, G26⟩ := (id V25)
  have hin26 : ¬ ((17 : Int32) < 0 ∨ cl26.slots.size ≤ ((17 : Int32)).toNatClampNeg) := inb_of S26 ⟨by decide, by decide⟩
  obtain ⟨T26, h26, X26, e26, W26, st26⟩ := stI X25 hx hZ e25 Ar26 (j := (17 : Int32)) hin26 (g := (mkF m 137 #[.val (.int p0), .val (.int p1), .val (.int p2), .val (.int p3), .val (.int p4), .val (.int p5), .val (.int v1), .val (.int v2), .val (.int v3), .val (.ref b4), .unset, .unset, .unset, .unset, .unset, .unset, .unset, .unset, .unset, .unset, .unset, .unset, .unset] [(.int (0 : Int32)), (.int (17 : Int32)), (.ref b8), (.ref b8)])) rfl rfl (hb hby at_137)
  have V26 : Arv Z h26 b8 k8 .int (18 : Int32) [(.int (0 : Int32)), (.int (1 : Int32)), (.int (2 : Int32)), (.int (0 : Int32)), (.int (2 : Int32)), (.int (1 : Int32)), (.int (1 : Int32)), (.int (0 : Int32)), (.int (2 : Int32)), (.int (1 : Int32)), (.int (2 : Int32)), (.int (0 : Int32)), (.int (2 : Int32)), (.int (0 : Int32)), (.int (1 : Int32)), (.int (2 : Int32)), (.int (1 : Int32)), (.int (0 : Int32))] (.int (0 : Int32)) := Arv.set Ar26 q26 S26 M26 H26 G26 rfl W26 17 rfl (Nat.le_of_ble_eq_true rfl)
  have N26 := Fr.snoc X26 N25 g_b8
  have Z26 : n0 ≤ h26.size := Nat.le_trans Z25 (Keep.of_wr W26).1
  refine own_via st26 ?_
  show own_Go p e below s _ _ _ (T26.setTop (mkF m 138 #[.val (.int p0), .val (.int p1), .val (.int p2), .val (.int p3), .val (.int p4), .val (.int p5), .val (.int v1), .val (.int v2), .val (.int v3), .val (.ref b4), .unset, .unset, .unset, .unset, .unset, .unset, .unset, .unset, .unset, .unset, .unset, .unset, .unset] [(.ref b8)]))
  refine own_via (fun _ k => XS.astore X26.here hx rfl (hb hby at_138) rfl rfl (l' := #[.val (.int p0), .val (.int p1), .val (.int p2), .val (.int p3), .val (.int p4), .val (.int p5), .val (.int v1), .val (.int v2), .val (.int v3), .val (.ref b4), .val (.ref b8), .unset, .unset, .unset, .unset, .unset, .unset, .unset, .unset, .unset, .unset, .unset, .unset]) rfl k) ?_
  show own_Go p e below s _ _ _ (T26.setTop (mkF m 140 #[.val (.int p0), .val (.int p1), .val (.int p2), .val (.int p3), .val (.int p4), .val (.int p5), .val (.int v1), .val (.int v2), .val (.int v3), .val (.ref b4), .val (.ref b8), .unset, .unset, .unset, .unset, .unset, .unset, .unset, .unset, .unset, .unset, .unset, .unset] []))
  have VLA : Arv Z h26 b8 k8 .int (18 : Int32) own_LA (.int (0 : Int32)) := V26
  show own_Go p e below s _ _ _ (T26.setTop (mkF m 140 #[.val (.int p0), .val (.int p1), .val (.int p2), .val (.int p3), .val (.int p4), .val (.int p5), .val (.int v1), .val (.int v2), .val (.int v3), .val (.ref b4), .val (.ref b8), .unset, .unset, .unset, .unset, .unset, .unset, .unset, .unset, .unset, .unset, .unset, .unset] []))
  refine own_via (fun _ k => XS.bipush X26.here hx rfl (hb hby at_140) k) ?_
  show own_Go p e below s _ _ _ (T26.setTop (mkF m 142 #[.val (.int p0), .val (.int p1), .val (.int p2), .val (.int p3), .val (.int p4), .val (.int p5), .val (.int v1), .val (.int v2), .val (.int v3), .val (.ref b4), .val (.ref b8), .unset, .unset, .unset, .unset, .unset, .unset, .unset, .unset, .unset, .unset, .unset, .unset] [(.int (18 : Int32))]))
  obtain ⟨T27, h27, k27, X27, e27, E27, A27, AE27, st27⟩ := newPE X26 hx hZ (hw _ (List.mem_of_getElem? (i := 1) rfl)) e26 (g := (mkF m 142 #[.val (.int p0), .val (.int p1), .val (.int p2), .val (.int p3), .val (.int p4), .val (.int p5), .val (.int v1), .val (.int v2), .val (.int v3), .val (.ref b4), .val (.ref b8), .unset, .unset, .unset, .unset, .unset, .unset, .unset, .unset, .unset, .unset, .unset, .unset] [(.int (18 : Int32))])) rfl (hb hby at_142) rfl (by decide) (cap := 18) (by decide) (by decide) (by decide) (by decide) (ad := "[I") (by decide)
  obtain ⟨b27, gg27⟩ : ∃ z, z = h26.size := ⟨_, rfl⟩
  rw [← gg27] at A27 AE27 st27
  have ne_b4_b27 : b4 ≠ b27 := Nat.ne_of_lt (Nat.lt_of_lt_of_le ((((((((((((((((((((((AE4.wr W5).wr W6).wr W7).ext E8).wr W9).wr W10).wr W11).wr W12).wr W13).wr W14).wr W15).wr W16).wr W17).wr W18).wr W19).wr W20).wr W21).wr W22).wr W23).wr W24).wr W25).wr W26).lt (Nat.le_of_eq gg27.symm))
  have ne_b8_b27 : b8 ≠ b27 := Nat.ne_of_lt (Nat.lt_of_lt_of_le ((((((((((((((((((AE8.wr W9).wr W10).wr W11).wr W12).wr W13).wr W14).wr W15).wr W16).wr W17).wr W18).wr W19).wr W20).wr W21).wr W22).wr W23).wr W24).wr W25).wr W26).lt (Nat.le_of_eq gg27.symm))
  have g_b27 : n0 ≤ b27 := Nat.le_trans Z26 (Nat.le_of_eq gg27.symm)
  have Z27 : n0 ≤ h27.size := Nat.le_trans Z26 E27.1
  have V27 : Arv Z h27 b27 k27 .int (18 : Int32) [(.int (0 : Int32)), (.int (0 : Int32)), (.int (0 : Int32)), (.int (0 : Int32)), (.int (0 : Int32)), (.int (0 : Int32)), (.int (0 : Int32)), (.int (0 : Int32)), (.int (0 : Int32)), (.int (0 : Int32)), (.int (0 : Int32)), (.int (0 : Int32)), (.int (0 : Int32)), (.int (0 : Int32)), (.int (0 : Int32)), (.int (0 : Int32)), (.int (0 : Int32)), (.int (0 : Int32))] (.int (0 : Int32)) := (Arv.new A27 (by decide)).pad (pad_rep [] (.int (0 : Int32)) 18)
  refine own_via st27 ?_
  show own_Go p e below s _ _ _ (T27.setTop (mkF m 144 #[.val (.int p0), .val (.int p1), .val (.int p2), .val (.int p3), .val (.int p4), .val (.int p5), .val (.int v1), .val (.int v2), .val (.int v3), .val (.ref b4), .val (.ref b8), .unset, .unset, .unset, .unset, .unset, .unset, .unset, .unset, .unset, .unset, .unset, .unset] [(.ref b27)]))
  refine own_via (fun _ k => XS.dup X27.here hx rfl (hb hby at_144) rfl rfl k) ?_
  show own_Go p e below s _ _ _ (T27.setTop (mkF m 145 #[.val (.int p0), .val (.int p1), .val (.int p2), .val (.int p3), .val (.int p4), .val (.int p5), .val (.int v1), .val (.int v2), .val (.int v3), .val (.ref b4), .val (.ref b8), .unset, .unset, .unset, .unset, .unset, .unset, .unset, .unset, .unset, .unset, .unset, .unset] [(.ref b27), (.ref b27)]))
  refine own_via (fun _ k => XS.iconst X27.here hx rfl (hb hby at_145) k) ?_
  show own_Go p e below s _ _ _ (T27.setTop (mkF m 146 #[.val (.int p0), .val (.int p1), .val (.int p2), .val (.int p3), .val (.int p4), .val (.int p5), .val (.int v1), .val (.int v2), .val (.int v3), .val (.ref b4), .val (.ref b8), .unset, .unset, .unset, .unset, .unset, .unset, .unset, .unset, .unset, .unset, .unset, .unset] [(.int (0 : Int32)), (.ref b27), (.ref b27)]))
  refine own_via (fun _ k => XS.iconst X27.here hx rfl (hb hby at_146) k) ?_
  show own_Go p e below s _ _ _ (T27.setTop (mkF m 147 #[.val (.int p0), .val (.int p1), .val (.int p2), .val (.int p3), .val (.int p4), .val (.int p5), .val (.int v1), .val (.int v2), .val (.int v3), .val (.ref b4), .val (.ref b8), .unset, .unset, .unset, .unset, .unset, .unset, .unset, .unset, .unset, .unset, .unset, .unset] [(.int (0 : Int32)), (.int (0 : Int32)), (.ref b27), (.ref b27)]))
  obtain ⟨cl28, Ar28, q28, S28, M28, H28, G28⟩ := (id V27)
  have hin28 : ¬ ((0 : Int32) < 0 ∨ cl28.slots.size ≤ ((0 : Int32)).toNatClampNeg) := inb_of S28 ⟨by decide, by decide⟩
  obtain ⟨T28, h28, X28, e28, W28, st28⟩ := stI X27 hx hZ e27 Ar28 (j := (0 : Int32)) hin28 (g := (mkF m 147 #[.val (.int p0), .val (.int p1), .val (.int p2), .val (.int p3), .val (.int p4), .val (.int p5), .val (.int v1), .val (.int v2), .val (.int v3), .val (.ref b4), .val (.ref b8), .unset, .unset, .unset, .unset, .unset, .unset, .unset, .unset, .unset, .unset, .unset, .unset] [(.int (0 : Int32)), (.int (0 : Int32)), (.ref b27), (.ref b27)])) rfl rfl (hb hby at_147)
  have V28 : Arv Z h28 b27 k27 .int (18 : Int32) [(.int (0 : Int32)), (.int (0 : Int32)), (.int (0 : Int32)), (.int (0 : Int32)), (.int (0 : Int32)), (.int (0 : Int32)), (.int (0 : Int32)), (.int (0 : Int32)), (.int (0 : Int32)), (.int (0 : Int32)), (.int (0 : Int32)), (.int (0 : Int32)), (.int (0 : Int32)), (.int (0 : Int32)), (.int (0 : Int32)), (.int (0 : Int32)), (.int (0 : Int32)), (.int (0 : Int32))] (.int (0 : Int32)) := Arv.set Ar28 q28 S28 M28 H28 G28 rfl W28 0 rfl (Nat.le_of_ble_eq_true rfl)
  have N28 := Fr.snoc X28 N26 g_b27
  have Z28 : n0 ≤ h28.size := Nat.le_trans Z27 (Keep.of_wr W28).1
  refine own_via st28 ?_
  show own_Go p e below s _ _ _ (T28.setTop (mkF m 148 #[.val (.int p0), .val (.int p1), .val (.int p2), .val (.int p3), .val (.int p4), .val (.int p5), .val (.int v1), .val (.int v2), .val (.int v3), .val (.ref b4), .val (.ref b8), .unset, .unset, .unset, .unset, .unset, .unset, .unset, .unset, .unset, .unset, .unset, .unset] [(.ref b27)]))
  refine own_via (fun _ k => XS.dup X28.here hx rfl (hb hby at_148) rfl rfl k) ?_
  show own_Go p e below s _ _ _ (T28.setTop (mkF m 149 #[.val (.int p0), .val (.int p1), .val (.int p2), .val (.int p3), .val (.int p4), .val (.int p5), .val (.int v1), .val (.int v2), .val (.int v3), .val (.ref b4), .val (.ref b8), .unset, .unset, .unset, .unset, .unset, .unset, .unset, .unset, .unset, .unset, .unset, .unset] [(.ref b27), (.ref b27)]))
  refine own_via (fun _ k => XS.iconst X28.here hx rfl (hb hby at_149) k) ?_
  show own_Go p e below s _ _ _ (T28.setTop (mkF m 150 #[.val (.int p0), .val (.int p1), .val (.int p2), .val (.int p3), .val (.int p4), .val (.int p5), .val (.int v1), .val (.int v2), .val (.int v3), .val (.ref b4), .val (.ref b8), .unset, .unset, .unset, .unset, .unset, .unset, .unset, .unset, .unset, .unset, .unset, .unset] [(.int (1 : Int32)), (.ref b27), (.ref b27)]))
  refine own_via (fun _ k => XS.iconst X28.here hx rfl (hb hby at_150) k) ?_
  show own_Go p e below s _ _ _ (T28.setTop (mkF m 151 #[.val (.int p0), .val (.int p1), .val (.int p2), .val (.int p3), .val (.int p4), .val (.int p5), .val (.int v1), .val (.int v2), .val (.int v3), .val (.ref b4), .val (.ref b8), .unset, .unset, .unset, .unset, .unset, .unset, .unset, .unset, .unset, .unset, .unset, .unset] [(.int (1 : Int32)), (.int (1 : Int32)), (.ref b27), (.ref b27)]))
  obtain ⟨cl29, Ar29, q29, S29, M29, H29, G29⟩ := (id V28)
  have hin29 : ¬ ((1 : Int32) < 0 ∨ cl29.slots.size ≤ ((1 : Int32)).toNatClampNeg) := inb_of S29 ⟨by decide, by decide⟩
  obtain ⟨T29, h29, X29, e29, W29, st29⟩ := stI X28 hx hZ e28 Ar29 (j := (1 : Int32)) hin29 (g := (mkF m 151 #[.val (.int p0), .val (.int p1), .val (.int p2), .val (.int p3), .val (.int p4), .val (.int p5), .val (.int v1), .val (.int v2), .val (.int v3), .val (.ref b4), .val (.ref b8), .unset, .unset, .unset, .unset, .unset, .unset, .unset, .unset, .unset, .unset, .unset, .unset] [(.int (1 : Int32)), (.int (1 : Int32)), (.ref b27), (.ref b27)])) rfl rfl (hb hby at_151)
  have V29 : Arv Z h29 b27 k27 .int (18 : Int32) [(.int (0 : Int32)), (.int (1 : Int32)), (.int (0 : Int32)), (.int (0 : Int32)), (.int (0 : Int32)), (.int (0 : Int32)), (.int (0 : Int32)), (.int (0 : Int32)), (.int (0 : Int32)), (.int (0 : Int32)), (.int (0 : Int32)), (.int (0 : Int32)), (.int (0 : Int32)), (.int (0 : Int32)), (.int (0 : Int32)), (.int (0 : Int32)), (.int (0 : Int32)), (.int (0 : Int32))] (.int (0 : Int32)) := Arv.set Ar29 q29 S29 M29 H29 G29 rfl W29 1 rfl (Nat.le_of_ble_eq_true rfl)
  have N29 := Fr.snoc X29 N28 g_b27
  have Z29 : n0 ≤ h29.size := Nat.le_trans Z28 (Keep.of_wr W29).1
  refine own_via st29 ?_
  show own_Go p e below s _ _ _ (T29.setTop (mkF m 152 #[.val (.int p0), .val (.int p1), .val (.int p2), .val (.int p3), .val (.int p4), .val (.int p5), .val (.int v1), .val (.int v2), .val (.int v3), .val (.ref b4), .val (.ref b8), .unset, .unset, .unset, .unset, .unset, .unset, .unset, .unset, .unset, .unset, .unset, .unset] [(.ref b27)]))
  refine own_via (fun _ k => XS.dup X29.here hx rfl (hb hby at_152) rfl rfl k) ?_
  show own_Go p e below s _ _ _ (T29.setTop (mkF m 153 #[.val (.int p0), .val (.int p1), .val (.int p2), .val (.int p3), .val (.int p4), .val (.int p5), .val (.int v1), .val (.int v2), .val (.int v3), .val (.ref b4), .val (.ref b8), .unset, .unset, .unset, .unset, .unset, .unset, .unset, .unset, .unset, .unset, .unset, .unset] [(.ref b27), (.ref b27)]))
  refine own_via (fun _ k => XS.iconst X29.here hx rfl (hb hby at_153) k) ?_
  show own_Go p e below s _ _ _ (T29.setTop (mkF m 154 #[.val (.int p0), .val (.int p1), .val (.int p2), .val (.int p3), .val (.int p4), .val (.int p5), .val (.int v1), .val (.int v2), .val (.int v3), .val (.ref b4), .val (.ref b8), .unset, .unset, .unset, .unset, .unset, .unset, .unset, .unset, .unset, .unset, .unset, .unset] [(.int (2 : Int32)), (.ref b27), (.ref b27)]))
  refine own_via (fun _ k => XS.iconst X29.here hx rfl (hb hby at_154) k) ?_
  show own_Go p e below s _ _ _ (T29.setTop (mkF m 155 #[.val (.int p0), .val (.int p1), .val (.int p2), .val (.int p3), .val (.int p4), .val (.int p5), .val (.int v1), .val (.int v2), .val (.int v3), .val (.ref b4), .val (.ref b8), .unset, .unset, .unset, .unset, .unset, .unset, .unset, .unset, .unset, .unset, .unset, .unset] [(.int (2 : Int32)), (.int (2 : Int32)), (.ref b27), (.ref b27)]))
  obtain ⟨cl30, Ar30, q30, S30, M30, H30, G30⟩ := (id V29)
  have hin30 : ¬ ((2 : Int32) < 0 ∨ cl30.slots.size ≤ ((2 : Int32)).toNatClampNeg) := inb_of S30 ⟨by decide, by decide⟩
  obtain ⟨T30, h30, X30, e30, W30, st30⟩ := stI X29 hx hZ e29 Ar30 (j := (2 : Int32)) hin30 (g := (mkF m 155 #[.val (.int p0), .val (.int p1), .val (.int p2), .val (.int p3), .val (.int p4), .val (.int p5), .val (.int v1), .val (.int v2), .val (.int v3), .val (.ref b4), .val (.ref b8), .unset, .unset, .unset, .unset, .unset, .unset, .unset, .unset, .unset, .unset, .unset, .unset] [(.int (2 : Int32)), (.int (2 : Int32)), (.ref b27), (.ref b27)])) rfl rfl (hb hby at_155)
  have V30 : Arv Z h30 b27 k27 .int (18 : Int32) [(.int (0 : Int32)), (.int (1 : Int32)), (.int (2 : Int32)), (.int (0 : Int32)), (.int (0 : Int32)), (.int (0 : Int32)), (.int (0 : Int32)), (.int (0 : Int32)), (.int (0 : Int32)), (.int (0 : Int32)), (.int (0 : Int32)), (.int (0 : Int32)), (.int (0 : Int32)), (.int (0 : Int32)), (.int (0 : Int32)), (.int (0 : Int32)), (.int (0 : Int32)), (.int (0 : Int32))] (.int (0 : Int32)) := Arv.set Ar30 q30 S30 M30 H30 G30 rfl W30 2 rfl (Nat.le_of_ble_eq_true rfl)
  have N30 := Fr.snoc X30 N29 g_b27
  have Z30 : n0 ≤ h30.size := Nat.le_trans Z29 (Keep.of_wr W30).1
  refine own_via st30 ?_
  show own_Go p e below s _ _ _ (T30.setTop (mkF m 156 #[.val (.int p0), .val (.int p1), .val (.int p2), .val (.int p3), .val (.int p4), .val (.int p5), .val (.int v1), .val (.int v2), .val (.int v3), .val (.ref b4), .val (.ref b8), .unset, .unset, .unset, .unset, .unset, .unset, .unset, .unset, .unset, .unset, .unset, .unset] [(.ref b27)]))
  refine own_via (fun _ k => XS.dup X30.here hx rfl (hb hby at_156) rfl rfl k) ?_
  show own_Go p e below s _ _ _ (T30.setTop (mkF m 157 #[.val (.int p0), .val (.int p1), .val (.int p2), .val (.int p3), .val (.int p4), .val (.int p5), .val (.int v1), .val (.int v2), .val (.int v3), .val (.ref b4), .val (.ref b8), .unset, .unset, .unset, .unset, .unset, .unset, .unset, .unset, .unset, .unset, .unset, .unset] [(.ref b27), (.ref b27)]))
  refine own_via (fun _ k => XS.iconst X30.here hx rfl (hb hby at_157) k) ?_
  show own_Go p e below s _ _ _ (T30.setTop (mkF m 158 #[.val (.int p0), .val (.int p1), .val (.int p2), .val (.int p3), .val (.int p4), .val (.int p5), .val (.int v1), .val (.int v2), .val (.int v3), .val (.ref b4), .val (.ref b8), .unset, .unset, .unset, .unset, .unset, .unset, .unset, .unset, .unset, .unset, .unset, .unset] [(.int (3 : Int32)), (.ref b27), (.ref b27)]))
  refine own_via (fun _ k => XS.iconst X30.here hx rfl (hb hby at_158) k) ?_
  show own_Go p e below s _ _ _ (T30.setTop (mkF m 159 #[.val (.int p0), .val (.int p1), .val (.int p2), .val (.int p3), .val (.int p4), .val (.int p5), .val (.int v1), .val (.int v2), .val (.int v3), .val (.ref b4), .val (.ref b8), .unset, .unset, .unset, .unset, .unset, .unset, .unset, .unset, .unset, .unset, .unset, .unset] [(.int (0 : Int32)), (.int (3 : Int32)), (.ref b27), (.ref b27)]))
  obtain ⟨cl31, Ar31, q31, S31, M31, H31, G31⟩ := (id V30)
  have hin31 : ¬ ((3 : Int32) < 0 ∨ cl31.slots.size ≤ ((3 : Int32)).toNatClampNeg) := inb_of S31 ⟨by decide, by decide⟩
  obtain ⟨T31, h31, X31, e31, W31, st31⟩ := stI X30 hx hZ e30 Ar31 (j := (3 : Int32)) hin31 (g := (mkF m 159 #[.val (.int p0), .val (.int p1), .val (.int p2), .val (.int p3), .val (.int p4), .val (.int p5), .val (.int v1), .val (.int v2), .val (.int v3), .val (.ref b4), .val (.ref b8), .unset, .unset, .unset, .unset, .unset, .unset, .unset, .unset, .unset, .unset, .unset, .unset] [(.int (0 : Int32)), (.int (3 : Int32)), (.ref b27), (.ref b27)])) rfl rfl (hb hby at_159)
  have V31 : Arv Z h31 b27 k27 .int (18 : Int32) [(.int (0 : Int32)), (.int (1 : Int32)), (.int (2 : Int32)), (.int (0 : Int32)), (.int (0 : Int32)), (.int (0 : Int32)), (.int (0 : Int32)), (.int (0 : Int32)), (.int (0 : Int32)), (.int (0 : Int32)), (.int (0 : Int32)), (.int (0 : Int32)), (.int (0 : Int32)), (.int (0 : Int32)), (.int (0 : Int32)), (.int (0 : Int32)), (.int (0 : Int32)), (.int (0 : Int32))] (.int (0 : Int32)) := Arv.set Ar31 q31 S31 M31 H31 G31 rfl W31 3 rfl (Nat.le_of_ble_eq_true rfl)
  have N31 := Fr.snoc X31 N30 g_b27
  have Z31 : n0 ≤ h31.size := Nat.le_trans Z30 (Keep.of_wr W31).1
  refine own_via st31 ?_
  show own_Go p e below s _ _ _ (T31.setTop (mkF m 160 #[.val (.int p0), .val (.int p1), .val (.int p2), .val (.int p3), .val (.int p4), .val (.int p5), .val (.int v1), .val (.int v2), .val (.int v3), .val (.ref b4), .val (.ref b8), .unset, .unset, .unset, .unset, .unset, .unset, .unset, .unset, .unset, .unset, .unset, .unset] [(.ref b27)]))
  refine own_via (fun _ k => XS.dup X31.here hx rfl (hb hby at_160) rfl rfl k) ?_
  show own_Go p e below s _ _ _ (T31.setTop (mkF m 161 #[.val (.int p0), .val (.int p1), .val (.int p2), .val (.int p3), .val (.int p4), .val (.int p5), .val (.int v1), .val (.int v2), .val (.int v3), .val (.ref b4), .val (.ref b8), .unset, .unset, .unset, .unset, .unset, .unset, .unset, .unset, .unset, .unset, .unset, .unset] [(.ref b27), (.ref b27)]))
  refine own_via (fun _ k => XS.iconst X31.here hx rfl (hb hby at_161) k) ?_
  show own_Go p e below s _ _ _ (T31.setTop (mkF m 162 #[.val (.int p0), .val (.int p1), .val (.int p2), .val (.int p3), .val (.int p4), .val (.int p5), .val (.int v1), .val (.int v2), .val (.int v3), .val (.ref b4), .val (.ref b8), .unset, .unset, .unset, .unset, .unset, .unset, .unset, .unset, .unset, .unset, .unset, .unset] [(.int (4 : Int32)), (.ref b27), (.ref b27)]))
  refine own_via (fun _ k => XS.iconst X31.here hx rfl (hb hby at_162) k) ?_
  show own_Go p e below s _ _ _ (T31.setTop (mkF m 163 #[.val (.int p0), .val (.int p1), .val (.int p2), .val (.int p3), .val (.int p4), .val (.int p5), .val (.int v1), .val (.int v2), .val (.int v3), .val (.ref b4), .val (.ref b8), .unset, .unset, .unset, .unset, .unset, .unset, .unset, .unset, .unset, .unset, .unset, .unset] [(.int (2 : Int32)), (.int (4 : Int32)), (.ref b27), (.ref b27)]))
  obtain ⟨cl32, Ar32, q32, S32, M32, H32, G32⟩ := (id V31)
  have hin32 : ¬ ((4 : Int32) < 0 ∨ cl32.slots.size ≤ ((4 : Int32)).toNatClampNeg) := inb_of S32 ⟨by decide, by decide⟩
  obtain ⟨T32, h32, X32, e32, W32, st32⟩ := stI X31 hx hZ e31 Ar32 (j := (4 : Int32)) hin32 (g := (mkF m 163 #[.val (.int p0), .val (.int p1), .val (.int p2), .val (.int p3), .val (.int p4), .val (.int p5), .val (.int v1), .val (.int v2), .val (.int v3), .val (.ref b4), .val (.ref b8), .unset, .unset, .unset, .unset, .unset, .unset, .unset, .unset, .unset, .unset, .unset, .unset] [(.int (2 : Int32)), (.int (4 : Int32)), (.ref b27), (.ref b27)])) rfl rfl (hb hby at_163)
  have V32 : Arv Z h32 b27 k27 .int (18 : Int32) [(.int (0 : Int32)), (.int (1 : Int32)), (.int (2 : Int32)), (.int (0 : Int32)), (.int (2 : Int32)), (.int (0 : Int32)), (.int (0 : Int32)), (.int (0 : Int32)), (.int (0 : Int32)), (.int (0 : Int32)), (.int (0 : Int32)), (.int (0 : Int32)), (.int (0 : Int32)), (.int (0 : Int32)), (.int (0 : Int32)), (.int (0 : Int32)), (.int (0 : Int32)), (.int (0 : Int32))] (.int (0 : Int32)) := Arv.set Ar32 q32 S32 M32 H32 G32 rfl W32 4 rfl (Nat.le_of_ble_eq_true rfl)
  have N32 := Fr.snoc X32 N31 g_b27
  have Z32 : n0 ≤ h32.size := Nat.le_trans Z31 (Keep.of_wr W32).1
  refine own_via st32 ?_
  show own_Go p e below s _ _ _ (T32.setTop (mkF m 164 #[.val (.int p0), .val (.int p1), .val (.int p2), .val (.int p3), .val (.int p4), .val (.int p5), .val (.int v1), .val (.int v2), .val (.int v3), .val (.ref b4), .val (.ref b8), .unset, .unset, .unset, .unset, .unset, .unset, .unset, .unset, .unset, .unset, .unset, .unset] [(.ref b27)]))
  refine own_via (fun _ k => XS.dup X32.here hx rfl (hb hby at_164) rfl rfl k) ?_
  show own_Go p e below s _ _ _ (T32.setTop (mkF m 165 #[.val (.int p0), .val (.int p1), .val (.int p2), .val (.int p3), .val (.int p4), .val (.int p5), .val (.int v1), .val (.int v2), .val (.int v3), .val (.ref b4), .val (.ref b8), .unset, .unset, .unset, .unset, .unset, .unset, .unset, .unset, .unset, .unset, .unset, .unset] [(.ref b27), (.ref b27)]))
  refine own_via (fun _ k => XS.iconst X32.here hx rfl (hb hby at_165) k) ?_
  show own_Go p e below s _ _ _ (T32.setTop (mkF m 166 #[.val (.int p0), .val (.int p1), .val (.int p2), .val (.int p3), .val (.int p4), .val (.int p5), .val (.int v1), .val (.int v2), .val (.int v3), .val (.ref b4), .val (.ref b8), .unset, .unset, .unset, .unset, .unset, .unset, .unset, .unset, .unset, .unset, .unset, .unset] [(.int (5 : Int32)), (.ref b27), (.ref b27)]))
  refine own_via (fun _ k => XS.iconst X32.here hx rfl (hb hby at_166) k) ?_
  show own_Go p e below s _ _ _ (T32.setTop (mkF m 167 #[.val (.int p0), .val (.int p1), .val (.int p2), .val (.int p3), .val (.int p4), .val (.int p5), .val (.int v1), .val (.int v2), .val (.int v3), .val (.ref b4), .val (.ref b8), .unset, .unset, .unset, .unset, .unset, .unset, .unset, .unset, .unset, .unset, .unset, .unset] [(.int (1 : Int32)), (.int (5 : Int32)), (.ref b27), (.ref b27)]))
  obtain ⟨cl33, Ar33, q33, S33, M33, H33, G33⟩ := (id V32)
  have hin33 : ¬ ((5 : Int32) < 0 ∨ cl33.slots.size ≤ ((5 : Int32)).toNatClampNeg) := inb_of S33 ⟨by decide, by decide⟩
  obtain ⟨T33, h33, X33, e33, W33, st33⟩ := stI X32 hx hZ e32 Ar33 (j := (5 : Int32)) hin33 (g := (mkF m 167 #[.val (.int p0), .val (.int p1), .val (.int p2), .val (.int p3), .val (.int p4), .val (.int p5), .val (.int v1), .val (.int v2), .val (.int v3), .val (.ref b4), .val (.ref b8), .unset, .unset, .unset, .unset, .unset, .unset, .unset, .unset, .unset, .unset, .unset, .unset] [(.int (1 : Int32)), (.int (5 : Int32)), (.ref b27), (.ref b27)])) rfl rfl (hb hby at_167)
  have V33 : Arv Z h33 b27 k27 .int (18 : Int32) [(.int (0 : Int32)), (.int (1 : Int32)), (.int (2 : Int32)), (.int (0 : Int32)), (.int (2 : Int32)), (.int (1 : Int32)), (.int (0 : Int32)), (.int (0 : Int32)), (.int (0 : Int32)), (.int (0 : Int32)), (.int (0 : Int32)), (.int (0 : Int32)), (.int (0 : Int32)), (.int (0 : Int32)), (.int (0 : Int32)), (.int (0 : Int32)), (.int (0 : Int32)), (.int (0 : Int32))] (.int (0 : Int32)) := Arv.set Ar33 q33 S33 M33 H33 G33 rfl W33 5 rfl (Nat.le_of_ble_eq_true rfl)
  have N33 := Fr.snoc X33 N32 g_b27
  have Z33 : n0 ≤ h33.size := Nat.le_trans Z32 (Keep.of_wr W33).1
  refine own_via st33 ?_
  show own_Go p e below s _ _ _ (T33.setTop (mkF m 168 #[.val (.int p0), .val (.int p1), .val (.int p2), .val (.int p3), .val (.int p4), .val (.int p5), .val (.int v1), .val (.int v2), .val (.int v3), .val (.ref b4), .val (.ref b8), .unset, .unset, .unset, .unset, .unset, .unset, .unset, .unset, .unset, .unset, .unset, .unset] [(.ref b27)]))
  refine own_via (fun _ k => XS.dup X33.here hx rfl (hb hby at_168) rfl rfl k) ?_
  show own_Go p e below s _ _ _ (T33.setTop (mkF m 169 #[.val (.int p0), .val (.int p1), .val (.int p2), .val (.int p3), .val (.int p4), .val (.int p5), .val (.int v1), .val (.int v2), .val (.int v3), .val (.ref b4), .val (.ref b8), .unset, .unset, .unset, .unset, .unset, .unset, .unset, .unset, .unset, .unset, .unset, .unset] [(.ref b27), (.ref b27)]))
  refine own_via (fun _ k => XS.bipush X33.here hx rfl (hb hby at_169) k) ?_
  show own_Go p e below s _ _ _ (T33.setTop (mkF m 171 #[.val (.int p0), .val (.int p1), .val (.int p2), .val (.int p3), .val (.int p4), .val (.int p5), .val (.int v1), .val (.int v2), .val (.int v3), .val (.ref b4), .val (.ref b8), .unset, .unset, .unset, .unset, .unset, .unset, .unset, .unset, .unset, .unset, .unset, .unset] [(.int (6 : Int32)), (.ref b27), (.ref b27)]))
  refine own_via (fun _ k => XS.iconst X33.here hx rfl (hb hby at_171) k) ?_
  show own_Go p e below s _ _ _ (T33.setTop (mkF m 172 #[.val (.int p0), .val (.int p1), .val (.int p2), .val (.int p3), .val (.int p4), .val (.int p5), .val (.int v1), .val (.int v2), .val (.int v3), .val (.ref b4), .val (.ref b8), .unset, .unset, .unset, .unset, .unset, .unset, .unset, .unset, .unset, .unset, .unset, .unset] [(.int (1 : Int32)), (.int (6 : Int32)), (.ref b27), (.ref b27)]))
  obtain ⟨cl34, Ar34, q34, S34, M34, H34, G34⟩ := (id V33)
  have hin34 : ¬ ((6 : Int32) < 0 ∨ cl34.slots.size ≤ ((6 : Int32)).toNatClampNeg) := inb_of S34 ⟨by decide, by decide⟩
  obtain ⟨T34, h34, X34, e34, W34, st34⟩ := stI X33 hx hZ e33 Ar34 (j := (6 : Int32)) hin34 (g := (mkF m 172 #[.val (.int p0), .val (.int p1), .val (.int p2), .val (.int p3), .val (.int p4), .val (.int p5), .val (.int v1), .val (.int v2), .val (.int v3), .val (.ref b4), .val (.ref b8), .unset, .unset, .unset, .unset, .unset, .unset, .unset, .unset, .unset, .unset, .unset, .unset] [(.int (1 : Int32)), (.int (6 : Int32)), (.ref b27), (.ref b27)])) rfl rfl (hb hby at_172)
  have V34 : Arv Z h34 b27 k27 .int (18 : Int32) [(.int (0 : Int32)), (.int (1 : Int32)), (.int (2 : Int32)), (.int (0 : Int32)), (.int (2 : Int32)), (.int (1 : Int32)), (.int (1 : Int32)), (.int (0 : Int32)), (.int (0 : Int32)), (.int (0 : Int32)), (.int (0 : Int32)), (.int (0 : Int32)), (.int (0 : Int32)), (.int (0 : Int32)), (.int (0 : Int32)), (.int (0 : Int32)), (.int (0 : Int32)), (.int (0 : Int32))] (.int (0 : Int32)) := Arv.set Ar34 q34 S34 M34 H34 G34 rfl W34 6 rfl (Nat.le_of_ble_eq_true rfl)
  have N34 := Fr.snoc X34 N33 g_b27
  have Z34 : n0 ≤ h34.size := Nat.le_trans Z33 (Keep.of_wr W34).1
  refine own_via st34 ?_
  show own_Go p e below s _ _ _ (T34.setTop (mkF m 173 #[.val (.int p0), .val (.int p1), .val (.int p2), .val (.int p3), .val (.int p4), .val (.int p5), .val (.int v1), .val (.int v2), .val (.int v3), .val (.ref b4), .val (.ref b8), .unset, .unset, .unset, .unset, .unset, .unset, .unset, .unset, .unset, .unset, .unset, .unset] [(.ref b27)]))
  refine own_via (fun _ k => XS.dup X34.here hx rfl (hb hby at_173) rfl rfl k) ?_
  show own_Go p e below s _ _ _ (T34.setTop (mkF m 174 #[.val (.int p0), .val (.int p1), .val (.int p2), .val (.int p3), .val (.int p4), .val (.int p5), .val (.int v1), .val (.int v2), .val (.int v3), .val (.ref b4), .val (.ref b8), .unset, .unset, .unset, .unset, .unset, .unset, .unset, .unset, .unset, .unset, .unset, .unset] [(.ref b27), (.ref b27)]))
  refine own_via (fun _ k => XS.bipush X34.here hx rfl (hb hby at_174) k) ?_
  show own_Go p e below s _ _ _ (T34.setTop (mkF m 176 #[.val (.int p0), .val (.int p1), .val (.int p2), .val (.int p3), .val (.int p4), .val (.int p5), .val (.int v1), .val (.int v2), .val (.int v3), .val (.ref b4), .val (.ref b8), .unset, .unset, .unset, .unset, .unset, .unset, .unset, .unset, .unset, .unset, .unset, .unset] [(.int (7 : Int32)), (.ref b27), (.ref b27)]))
  refine own_via (fun _ k => XS.iconst X34.here hx rfl (hb hby at_176) k) ?_
  show own_Go p e below s _ _ _ (T34.setTop (mkF m 177 #[.val (.int p0), .val (.int p1), .val (.int p2), .val (.int p3), .val (.int p4), .val (.int p5), .val (.int v1), .val (.int v2), .val (.int v3), .val (.ref b4), .val (.ref b8), .unset, .unset, .unset, .unset, .unset, .unset, .unset, .unset, .unset, .unset, .unset, .unset] [(.int (0 : Int32)), (.int (7 : Int32)), (.ref b27), (.ref b27)]))
  obtain ⟨cl35, Ar35, q35, S35, M35, H35, G35⟩ := (id V34)
  have hin35 : ¬ ((7 : Int32) < 0 ∨ cl35.slots.size ≤ ((7 : Int32)).toNatClampNeg) := inb_of S35 ⟨by decide, by decide⟩
  obtain ⟨T35, h35, X35, e35, W35, st35⟩ := stI X34 hx hZ e34 Ar35 (j := (7 : Int32)) hin35 (g := (mkF m 177 #[.val (.int p0), .val (.int p1), .val (.int p2), .val (.int p3), .val (.int p4), .val (.int p5), .val (.int v1), .val (.int v2), .val (.int v3), .val (.ref b4), .val (.ref b8), .unset, .unset, .unset, .unset, .unset, .unset, .unset, .unset, .unset, .unset, .unset, .unset] [(.int (0 : Int32)), (.int (7 : Int32)), (.ref b27), (.ref b27)])) rfl rfl (hb hby at_177)
  have V35 : Arv Z h35 b27 k27 .int (18 : Int32) [(.int (0 : Int32)), (.int (1 : Int32)), (.int (2 : Int32)), (.int (0 : Int32)), (.int (2 : Int32)), (.int (1 : Int32)), (.int (1 : Int32)), (.int (0 : Int32)), (.int (0 : Int32)), (.int (0 : Int32)), (.int (0 : Int32)), (.int (0 : Int32)), (.int (0 : Int32)), (.int (0 : Int32)), (.int (0 : Int32)), (.int (0 : Int32)), (.int (0 : Int32)), (.int (0 : Int32))] (.int (0 : Int32)) := Arv.set Ar35 q35 S35 M35 H35 G35 rfl W35 7 rfl (Nat.le_of_ble_eq_true rfl)
  have N35 := Fr.snoc X35 N34 g_b27
  have Z35 : n0 ≤ h35.size := Nat.le_trans Z34 (Keep.of_wr W35).1
  refine own_via st35 ?_
  show own_Go p e below s _ _ _ (T35.setTop (mkF m 178 #[.val (.int p0), .val (.int p1), .val (.int p2), .val (.int p3), .val (.int p4), .val (.int p5), .val (.int v1), .val (.int v2), .val (.int v3), .val (.ref b4), .val (.ref b8), .unset, .unset, .unset, .unset, .unset, .unset, .unset, .unset, .unset, .unset, .unset, .unset] [(.ref b27)]))
  refine own_via (fun _ k => XS.dup X35.here hx rfl (hb hby at_178) rfl rfl k) ?_
  show own_Go p e below s _ _ _ (T35.setTop (mkF m 179 #[.val (.int p0), .val (.int p1), .val (.int p2), .val (.int p3), .val (.int p4), .val (.int p5), .val (.int v1), .val (.int v2), .val (.int v3), .val (.ref b4), .val (.ref b8), .unset, .unset, .unset, .unset, .unset, .unset, .unset, .unset, .unset, .unset, .unset, .unset] [(.ref b27), (.ref b27)]))
  refine own_via (fun _ k => XS.bipush X35.here hx rfl (hb hby at_179) k) ?_
  show own_Go p e below s _ _ _ (T35.setTop (mkF m 181 #[.val (.int p0), .val (.int p1), .val (.int p2), .val (.int p3), .val (.int p4), .val (.int p5), .val (.int v1), .val (.int v2), .val (.int v3), .val (.ref b4), .val (.ref b8), .unset, .unset, .unset, .unset, .unset, .unset, .unset, .unset, .unset, .unset, .unset, .unset] [(.int (8 : Int32)), (.ref b27), (.ref b27)]))
  refine own_via (fun _ k => XS.iconst X35.here hx rfl (hb hby at_181) k) ?_
  show own_Go p e below s _ _ _ (T35.setTop (mkF m 182 #[.val (.int p0), .val (.int p1), .val (.int p2), .val (.int p3), .val (.int p4), .val (.int p5), .val (.int v1), .val (.int v2), .val (.int v3), .val (.ref b4), .val (.ref b8), .unset, .unset, .unset, .unset, .unset, .unset, .unset, .unset, .unset, .unset, .unset, .unset] [(.int (2 : Int32)), (.int (8 : Int32)), (.ref b27), (.ref b27)]))
  obtain ⟨cl36, Ar36, q36, S36, M36, H36, G36⟩ := (id V35)
  have hin36 : ¬ ((8 : Int32) < 0 ∨ cl36.slots.size ≤ ((8 : Int32)).toNatClampNeg) := inb_of S36 ⟨by decide, by decide⟩
  obtain ⟨T36, h36, X36, e36, W36, st36⟩ := stI X35 hx hZ e35 Ar36 (j := (8 : Int32)) hin36 (g := (mkF m 182 #[.val (.int p0), .val (.int p1), .val (.int p2), .val (.int p3), .val (.int p4), .val (.int p5), .val (.int v1), .val (.int v2), .val (.int v3), .val (.ref b4), .val (.ref b8), .unset, .unset, .unset, .unset, .unset, .unset, .unset, .unset, .unset, .unset, .unset, .unset] [(.int (2 : Int32)), (.int (8 : Int32)), (.ref b27), (.ref b27)])) rfl rfl (hb hby at_182)
  have V36 : Arv Z h36 b27 k27 .int (18 : Int32) [(.int (0 : Int32)), (.int (1 : Int32)), (.int (2 : Int32)), (.int (0 : Int32)), (.int (2 : Int32)), (.int (1 : Int32)), (.int (1 : Int32)), (.int (0 : Int32)), (.int (2 : Int32)), (.int (0 : Int32)), (.int (0 : Int32)), (.int (0 : Int32)), (.int (0 : Int32)), (.int (0 : Int32)), (.int (0 : Int32)), (.int (0 : Int32)), (.int (0 : Int32)), (.int (0 : Int32))] (.int (0 : Int32)) := Arv.set Ar36 q36 S36 M36 H36 G36 rfl W36 8 rfl (Nat.le_of_ble_eq_true rfl)
  have N36 := Fr.snoc X36 N35 g_b27
  have Z36 : n0 ≤ h36.size := Nat.le_trans Z35 (Keep.of_wr W36).1
  refine own_via st36 ?_
  show own_Go p e below s _ _ _ (T36.setTop (mkF m 183 #[.val (.int p0), .val (.int p1), .val (.int p2), .val (.int p3), .val (.int p4), .val (.int p5), .val (.int v1), .val (.int v2), .val (.int v3), .val (.ref b4), .val (.ref b8), .unset, .unset, .unset, .unset, .unset, .unset, .unset, .unset, .unset, .unset, .unset, .unset] [(.ref b27)]))
  refine own_via (fun _ k => XS.dup X36.here hx rfl (hb hby at_183) rfl rfl k) ?_
  show own_Go p e below s _ _ _ (T36.setTop (mkF m 184 #[.val (.int p0), .val (.int p1), .val (.int p2), .val (.int p3), .val (.int p4), .val (.int p5), .val (.int v1), .val (.int v2), .val (.int v3), .val (.ref b4), .val (.ref b8), .unset, .unset, .unset, .unset, .unset, .unset, .unset, .unset, .unset, .unset, .unset, .unset] [(.ref b27), (.ref b27)]))
  refine own_via (fun _ k => XS.bipush X36.here hx rfl (hb hby at_184) k) ?_
  show own_Go p e below s _ _ _ (T36.setTop (mkF m 186 #[.val (.int p0), .val (.int p1), .val (.int p2), .val (.int p3), .val (.int p4), .val (.int p5), .val (.int v1), .val (.int v2), .val (.int v3), .val (.ref b4), .val (.ref b8), .unset, .unset, .unset, .unset, .unset, .unset, .unset, .unset, .unset, .unset, .unset, .unset] [(.int (9 : Int32)), (.ref b27), (.ref b27)]))
  refine own_via (fun _ k => XS.iconst X36.here hx rfl (hb hby at_186) k) ?_
  show own_Go p e below s _ _ _ (T36.setTop (mkF m 187 #[.val (.int p0), .val (.int p1), .val (.int p2), .val (.int p3), .val (.int p4), .val (.int p5), .val (.int v1), .val (.int v2), .val (.int v3), .val (.ref b4), .val (.ref b8), .unset, .unset, .unset, .unset, .unset, .unset, .unset, .unset, .unset, .unset, .unset, .unset] [(.int (2 : Int32)), (.int (9 : Int32)), (.ref b27), (.ref b27)]))
  obtain ⟨cl37, Ar37, q37, S37, M37, H37, G37⟩ := (id V36)
  have hin37 : ¬ ((9 : Int32) < 0 ∨ cl37.slots.size ≤ ((9 : Int32)).toNatClampNeg) := inb_of S37 ⟨by decide, by decide⟩
  obtain ⟨T37, h37, X37, e37, W37, st37⟩ := stI X36 hx hZ e36 Ar37 (j := (9 : Int32)) hin37 (g := (mkF m 187 #[.val (.int p0), .val (.int p1), .val (.int p2), .val (.int p3), .val (.int p4), .val (.int p5), .val (.int v1), .val (.int v2), .val (.int v3), .val (.ref b4), .val (.ref b8), .unset, .unset, .unset, .unset, .unset, .unset, .unset, .unset, .unset, .unset, .unset, .unset] [(.int (2 : Int32)), (.int (9 : Int32)), (.ref b27), (.ref b27)])) rfl rfl (hb hby at_187)
  have V37 : Arv Z h37 b27 k27 .int (18 : Int32) [(.int (0 : Int32)), (.int (1 : Int32)), (.int (2 : Int32)), (.int (0 : Int32)), (.int (2 : Int32)), (.int (1 : Int32)), (.int (1 : Int32)), (.int (0 : Int32)), (.int (2 : Int32)), (.int (2 : Int32)), (.int (0 : Int32)), (.int (0 : Int32)), (.int (0 : Int32)), (.int (0 : Int32)), (.int (0 : Int32)), (.int (0 : Int32)), (.int (0 : Int32)), (.int (0 : Int32))] (.int (0 : Int32)) := Arv.set Ar37 q37 S37 M37 H37 G37 rfl W37 9 rfl (Nat.le_of_ble_eq_true rfl)
  have N37 := Fr.snoc X37 N36 g_b27
  have Z37 : n0 ≤ h37.size := Nat.le_trans Z36 (Keep.of_wr W37).1
  refine own_via st37 ?_
  show own_Go p e below s _ _ _ (T37.setTop (mkF m 188 #[.val (.int p0), .val (.int p1), .val (.int p2), .val (.int p3), .val (.int p4), .val (.int p5), .val (.int v1), .val (.int v2), .val (.int v3), .val (.ref b4), .val (.ref b8), .unset, .unset, .unset, .unset, .unset, .unset, .unset, .unset, .unset, .unset, .unset, .unset] [(.ref b27)]))
  refine own_via (fun _ k => XS.dup X37.here hx rfl (hb hby at_188) rfl rfl k) ?_
  show own_Go p e below s _ _ _ (T37.setTop (mkF m 189 #[.val (.int p0), .val (.int p1), .val (.int p2), .val (.int p3), .val (.int p4), .val (.int p5), .val (.int v1), .val (.int v2), .val (.int v3), .val (.ref b4), .val (.ref b8), .unset, .unset, .unset, .unset, .unset, .unset, .unset, .unset, .unset, .unset, .unset, .unset] [(.ref b27), (.ref b27)]))
  refine own_via (fun _ k => XS.bipush X37.here hx rfl (hb hby at_189) k) ?_
  show own_Go p e below s _ _ _ (T37.setTop (mkF m 191 #[.val (.int p0), .val (.int p1), .val (.int p2), .val (.int p3), .val (.int p4), .val (.int p5), .val (.int v1), .val (.int v2), .val (.int v3), .val (.ref b4), .val (.ref b8), .unset, .unset, .unset, .unset, .unset, .unset, .unset, .unset, .unset, .unset, .unset, .unset] [(.int (10 : Int32)), (.ref b27), (.ref b27)]))
  refine own_via (fun _ k => XS.iconst X37.here hx rfl (hb hby at_191) k) ?_
  show own_Go p e below s _ _ _ (T37.setTop (mkF m 192 #[.val (.int p0), .val (.int p1), .val (.int p2), .val (.int p3), .val (.int p4), .val (.int p5), .val (.int v1), .val (.int v2), .val (.int v3), .val (.ref b4), .val (.ref b8), .unset, .unset, .unset, .unset, .unset, .unset, .unset, .unset, .unset, .unset, .unset, .unset] [(.int (0 : Int32)), (.int (10 : Int32)), (.ref b27), (.ref b27)]))
  obtain ⟨cl38, Ar38, q38, S38, M38, H38, G38⟩ := (id V37)
  have hin38 : ¬ ((10 : Int32) < 0 ∨ cl38.slots.size ≤ ((10 : Int32)).toNatClampNeg) := inb_of S38 ⟨by decide, by decide⟩
  obtain ⟨T38, h38, X38, e38, W38, st38⟩ := stI X37 hx hZ e37 Ar38 (j := (10 : Int32)) hin38 (g := (mkF m 192 #[.val (.int p0), .val (.int p1), .val (.int p2), .val (.int p3), .val (.int p4), .val (.int p5), .val (.int v1), .val (.int v2), .val (.int v3), .val (.ref b4), .val (.ref b8), .unset, .unset, .unset, .unset, .unset, .unset, .unset, .unset, .unset, .unset, .unset, .unset] [(.int (0 : Int32)), (.int (10 : Int32)), (.ref b27), (.ref b27)])) rfl rfl (hb hby at_192)
  have V38 : Arv Z h38 b27 k27 .int (18 : Int32) [(.int (0 : Int32)), (.int (1 : Int32)), (.int (2 : Int32)), (.int (0 : Int32)), (.int (2 : Int32)), (.int (1 : Int32)), (.int (1 : Int32)), (.int (0 : Int32)), (.int (2 : Int32)), (.int (2 : Int32)), (.int (0 : Int32)), (.int (0 : Int32)), (.int (0 : Int32)), (.int (0 : Int32)), (.int (0 : Int32)), (.int (0 : Int32)), (.int (0 : Int32)), (.int (0 : Int32))] (.int (0 : Int32)) := Arv.set Ar38 q38 S38 M38 H38 G38 rfl W38 10 rfl (Nat.le_of_ble_eq_true rfl)
  have N38 := Fr.snoc X38 N37 g_b27
  have Z38 : n0 ≤ h38.size := Nat.le_trans Z37 (Keep.of_wr W38).1
  refine own_via st38 ?_
  show own_Go p e below s _ _ _ (T38.setTop (mkF m 193 #[.val (.int p0), .val (.int p1), .val (.int p2), .val (.int p3), .val (.int p4), .val (.int p5), .val (.int v1), .val (.int v2), .val (.int v3), .val (.ref b4), .val (.ref b8), .unset, .unset, .unset, .unset, .unset, .unset, .unset, .unset, .unset, .unset, .unset, .unset] [(.ref b27)]))
  refine own_via (fun _ k => XS.dup X38.here hx rfl (hb hby at_193) rfl rfl k) ?_
  show own_Go p e below s _ _ _ (T38.setTop (mkF m 194 #[.val (.int p0), .val (.int p1), .val (.int p2), .val (.int p3), .val (.int p4), .val (.int p5), .val (.int v1), .val (.int v2), .val (.int v3), .val (.ref b4), .val (.ref b8), .unset, .unset, .unset, .unset, .unset, .unset, .unset, .unset, .unset, .unset, .unset, .unset] [(.ref b27), (.ref b27)]))
  refine own_via (fun _ k => XS.bipush X38.here hx rfl (hb hby at_194) k) ?_
  show own_Go p e below s _ _ _ (T38.setTop (mkF m 196 #[.val (.int p0), .val (.int p1), .val (.int p2), .val (.int p3), .val (.int p4), .val (.int p5), .val (.int v1), .val (.int v2), .val (.int v3), .val (.ref b4), .val (.ref b8), .unset, .unset, .unset, .unset, .unset, .unset, .unset, .unset, .unset, .unset, .unset, .unset] [(.int (11 : Int32)), (.ref b27), (.ref b27)]))
  refine own_via (fun _ k => XS.iconst X38.here hx rfl (hb hby at_196) k) ?_
  show own_Go p e below s _ _ _ (T38.setTop (mkF m 197 #[.val (.int p0), .val (.int p1), .val (.int p2), .val (.int p3), .val (.int p4), .val (.int p5), .val (.int v1), .val (.int v2), .val (.int v3), .val (.ref b4), .val (.ref b8), .unset, .unset, .unset, .unset, .unset, .unset, .unset, .unset, .unset, .unset, .unset, .unset] [(.int (1 : Int32)), (.int (11 : Int32)), (.ref b27), (.ref b27)]))
  obtain ⟨cl39, Ar39, q39, S39, M39, H39, G39⟩ := (id V38)
  have hin39 : ¬ ((11 : Int32) < 0 ∨ cl39.slots.size ≤ ((11 : Int32)).toNatClampNeg) := inb_of S39 ⟨by decide, by decide⟩
  obtain ⟨T39, h39, X39, e39, W39, st39⟩ := stI X38 hx hZ e38 Ar39 (j := (11 : Int32)) hin39 (g := (mkF m 197 #[.val (.int p0), .val (.int p1), .val (.int p2), .val (.int p3), .val (.int p4), .val (.int p5), .val (.int v1), .val (.int v2), .val (.int v3), .val (.ref b4), .val (.ref b8), .unset, .unset, .unset, .unset, .unset, .unset, .unset, .unset, .unset, .unset, .unset, .unset] [(.int (1 : Int32)), (.int (11 : Int32)), (.ref b27), (.ref b27)])) rfl rfl (hb hby at_197)
  have V39 : Arv Z h39 b27 k27 .int (18 : Int32) [(.int (0 : Int32)), (.int (1 : Int32)), (.int (2 : Int32)), (.int (0 : Int32)), (.int (2 : Int32)), (.int (1 : Int32)), (.int (1 : Int32)), (.int (0 : Int32)), (.int (2 : Int32)), (.int (2 : Int32)), (.int (0 : Int32)), (.int (1 : Int32)), (.int (0 : Int32)), (.int (0 : Int32)), (.int (0 : Int32)), (.int (0 : Int32)), (.int (0 : Int32)), (.int (0 : Int32))] (.int (0 : Int32)) := Arv.set Ar39 q39 S39 M39 H39 G39 rfl W39 11 rfl (Nat.le_of_ble_eq_true rfl)
  have N39 := Fr.snoc X39 N38 g_b27
  have Z39 : n0 ≤ h39.size := Nat.le_trans Z38 (Keep.of_wr W39).1
  refine own_via st39 ?_
  show own_Go p e below s _ _ _ (T39.setTop (mkF m 198 #[.val (.int p0), .val (.int p1), .val (.int p2), .val (.int p3), .val (.int p4), .val (.int p5), .val (.int v1), .val (.int v2), .val (.int v3), .val (.ref b4), .val (.ref b8), .unset, .unset, .unset, .unset, .unset, .unset, .unset, .unset, .unset, .unset, .unset, .unset] [(.ref b27)]))
  refine own_via (fun _ k => XS.dup X39.here hx rfl (hb hby at_198) rfl rfl k) ?_
  show own_Go p e below s _ _ _ (T39.setTop (mkF m 199 #[.val (.int p0), .val (.int p1), .val (.int p2), .val (.int p3), .val (.int p4), .val (.int p5), .val (.int v1), .val (.int v2), .val (.int v3), .val (.ref b4), .val (.ref b8), .unset, .unset, .unset, .unset, .unset, .unset, .unset, .unset, .unset, .unset, .unset, .unset] [(.ref b27), (.ref b27)]))
  refine own_via (fun _ k => XS.bipush X39.here hx rfl (hb hby at_199) k) ?_
  show own_Go p e below s _ _ _ (T39.setTop (mkF m 201 #[.val (.int p0), .val (.int p1), .val (.int p2), .val (.int p3), .val (.int p4), .val (.int p5), .val (.int v1), .val (.int v2), .val (.int v3), .val (.ref b4), .val (.ref b8), .unset, .unset, .unset, .unset, .unset, .unset, .unset, .unset, .unset, .unset, .unset, .unset] [(.int (12 : Int32)), (.ref b27), (.ref b27)]))
  refine own_via (fun _ k => XS.iconst X39.here hx rfl (hb hby at_201) k) ?_
  show own_Go p e below s _ _ _ (T39.setTop (mkF m 202 #[.val (.int p0), .val (.int p1), .val (.int p2), .val (.int p3), .val (.int p4), .val (.int p5), .val (.int v1), .val (.int v2), .val (.int v3), .val (.ref b4), .val (.ref b8), .unset, .unset, .unset, .unset, .unset, .unset, .unset, .unset, .unset, .unset, .unset, .unset] [(.int (1 : Int32)), (.int (12 : Int32)), (.ref b27), (.ref b27)]))
  obtain ⟨cl40, Ar40, q40, S40, M40, H40, G40⟩ := (id V39)
  have hin40 : ¬ ((12 : Int32) < 0 ∨ cl40.slots.size ≤ ((12 : Int32)).toNatClampNeg) := inb_of S40 ⟨by decide, by decide⟩
  obtain ⟨T40, h40, X40, e40, W40, st40⟩ := stI X39 hx hZ e39 Ar40 (j := (12 : Int32)) hin40 (g := (mkF m 202 #[.val (.int p0), .val (.int p1), .val (.int p2), .val (.int p3), .val (.int p4), .val (.int p5), .val (.int v1), .val (.int v2), .val (.int v3), .val (.ref b4), .val (.ref b8), .unset, .unset, .unset, .unset, .unset, .unset, .unset, .unset, .unset, .unset, .unset, .unset] [(.int (1 : Int32)), (.int (12 : Int32)), (.ref b27), (.ref b27)])) rfl rfl (hb hby at_202)
  have V40 : Arv Z h40 b27 k27 .int (18 : Int32) [(.int (0 : Int32)), (.int (1 : Int32)), (.int (2 : Int32)), (.int (0 : Int32)), (.int (2 : Int32)), (.int (1 : Int32)), (.int (1 : Int32)), (.int (0 : Int32)), (.int (2 : Int32)), (.int (2 : Int32)), (.int (0 : Int32)), (.int (1 : Int32)), (.int (1 : Int32)), (.int (0 : Int32)), (.int (0 : Int32)), (.int (0 : Int32)), (.int (0 : Int32)), (.int (0 : Int32))] (.int (0 : Int32)) := Arv.set Ar40 q40 S40 M40 H40 G40 rfl W40 12 rfl (Nat.le_of_ble_eq_true rfl)
  have N40 := Fr.snoc X40 N39 g_b27
  have Z40 : n0 ≤ h40.size := Nat.le_trans Z39 (Keep.of_wr W40).1
  refine own_via st40 ?_
  show own_Go p e below s _ _ _ (T40.setTop (mkF m 203 #[.val (.int p0), .val (.int p1), .val (.int p2), .val (.int p3), .val (.int p4), .val (.int p5), .val (.int v1), .val (.int v2), .val (.int v3), .val (.ref b4), .val (.ref b8), .unset, .unset, .unset, .unset, .unset, .unset, .unset, .unset, .unset, .unset, .unset, .unset] [(.ref b27)]))
  refine own_via (fun _ k => XS.dup X40.here hx rfl (hb hby at_203) rfl rfl k) ?_
  show own_Go p e below s _ _ _ (T40.setTop (mkF m 204 #[.val (.int p0), .val (.int p1), .val (.int p2), .val (.int p3), .val (.int p4), .val (.int p5), .val (.int v1), .val (.int v2), .val (.int v3), .val (.ref b4), .val (.ref b8), .unset, .unset, .unset, .unset, .unset, .unset, .unset, .unset, .unset, .unset, .unset, .unset] [(.ref b27), (.ref b27)]))
  refine own_via (fun _ k => XS.bipush X40.here hx rfl (hb hby at_204) k) ?_
  show own_Go p e below s _ _ _ (T40.setTop (mkF m 206 #[.val (.int p0), .val (.int p1), .val (.int p2), .val (.int p3), .val (.int p4), .val (.int p5), .val (.int v1), .val (.int v2), .val (.int v3), .val (.ref b4), .val (.ref b8), .unset, .unset, .unset, .unset, .unset, .unset, .unset, .unset, .unset, .unset, .unset, .unset] [(.int (13 : Int32)), (.ref b27), (.ref b27)]))
  refine own_via (fun _ k => XS.iconst X40.here hx rfl (hb hby at_206) k) ?_
  show own_Go p e below s _ _ _ (T40.setTop (mkF m 207 #[.val (.int p0), .val (.int p1), .val (.int p2), .val (.int p3), .val (.int p4), .val (.int p5), .val (.int v1), .val (.int v2), .val (.int v3), .val (.ref b4), .val (.ref b8), .unset, .unset, .unset, .unset, .unset, .unset, .unset, .unset, .unset, .unset, .unset, .unset] [(.int (2 : Int32)), (.int (13 : Int32)), (.ref b27), (.ref b27)]))
  obtain ⟨cl41, Ar41, q41, S41, M41, H41, G41⟩ := (id V40)
  have hin41 : ¬ ((13 : Int32) < 0 ∨ cl41.slots.size ≤ ((13 : Int32)).toNatClampNeg) := inb_of S41 ⟨by decide, by decide⟩
  obtain ⟨T41, h41, X41, e41, W41, st41⟩ := stI X40 hx hZ e40 Ar41 (j := (13 : Int32)) hin41 (g := (mkF m 207 #[.val (.int p0), .val (.int p1), .val (.int p2), .val (.int p3), .val (.int p4), .val (.int p5), .val (.int v1), .val (.int v2), .val (.int v3), .val (.ref b4), .val (.ref b8), .unset, .unset, .unset, .unset, .unset, .unset, .unset, .unset, .unset, .unset, .unset, .unset] [(.int (2 : Int32)), (.int (13 : Int32)), (.ref b27), (.ref b27)])) rfl rfl (hb hby at_207)
  have V41 : Arv Z h41 b27 k27 .int (18 : Int32) [(.int (0 : Int32)), (.int (1 : Int32)), (.int (2 : Int32)), (.int (0 : Int32)), (.int (2 : Int32)), (.int (1 : Int32)), (.int (1 : Int32)), (.int (0 : Int32)), (.int (2 : Int32)), (.int (2 : Int32)), (.int (0 : Int32)), (.int (1 : Int32)), (.int (1 : Int32)), (.int (2 : Int32)), (.int (0 : Int32)), (.int (0 : Int32)), (.int (0 : Int32)), (.int (0 : Int32))] (.int (0 : Int32)) := Arv.set Ar41 q41 S41 M41 H41 G41 rfl W41 13 rfl (Nat.le_of_ble_eq_true rfl)
  have N41 := Fr.snoc X41 N40 g_b27
  have Z41 : n0 ≤ h41.size := Nat.le_trans Z40 (Keep.of_wr W41).1
  refine own_via st41 ?_
  show own_Go p e below s _ _ _ (T41.setTop (mkF m 208 #[.val (.int p0), .val (.int p1), .val (.int p2), .val (.int p3), .val (.int p4), .val (.int p5), .val (.int v1), .val (.int v2), .val (.int v3), .val (.ref b4), .val (.ref b8), .unset, .unset, .unset, .unset, .unset, .unset, .unset, .unset, .unset, .unset, .unset, .unset] [(.ref b27)]))
  refine own_via (fun _ k => XS.dup X41.here hx rfl (hb hby at_208) rfl rfl k) ?_
  show own_Go p e below s _ _ _ (T41.setTop (mkF m 209 #[.val (.int p0), .val (.int p1), .val (.int p2), .val (.int p3), .val (.int p4), .val (.int p5), .val (.int v1), .val (.int v2), .val (.int v3), .val (.ref b4), .val (.ref b8), .unset, .unset, .unset, .unset, .unset, .unset, .unset, .unset, .unset, .unset, .unset, .unset] [(.ref b27), (.ref b27)]))
  refine own_via (fun _ k => XS.bipush X41.here hx rfl (hb hby at_209) k) ?_
  show own_Go p e below s _ _ _ (T41.setTop (mkF m 211 #[.val (.int p0), .val (.int p1), .val (.int p2), .val (.int p3), .val (.int p4), .val (.int p5), .val (.int v1), .val (.int v2), .val (.int v3), .val (.ref b4), .val (.ref b8), .unset, .unset, .unset, .unset, .unset, .unset, .unset, .unset, .unset, .unset, .unset, .unset] [(.int (14 : Int32)), (.ref b27), (.ref b27)]))
  refine own_via (fun _ k => XS.iconst X41.here hx rfl (hb hby at_211) k) ?_
  show own_Go p e below s _ _ _ (T41.setTop (mkF m 212 #[.val (.int p0), .val (.int p1), .val (.int p2), .val (.int p3), .val (.int p4), .val (.int p5), .val (.int v1), .val (.int v2), .val (.int v3), .val (.ref b4), .val (.ref b8), .unset, .unset, .unset, .unset, .unset, .unset, .unset, .unset, .unset, .unset, .unset, .unset] [(.int (0 : Int32)), (.int (14 : Int32)), (.ref b27), (.ref b27)]))
  obtain ⟨cl42, Ar42, q42, S42, M42, H42, G42⟩ := (id V41)
  have hin42 : ¬ ((14 : Int32) < 0 ∨ cl42.slots.size ≤ ((14 : Int32)).toNatClampNeg) := inb_of S42 ⟨by decide, by decide⟩
  obtain ⟨T42, h42, X42, e42, W42, st42⟩ := stI X41 hx hZ e41 Ar42 (j := (14 : Int32)) hin42 (g := (mkF m 212 #[.val (.int p0), .val (.int p1), .val (.int p2), .val (.int p3), .val (.int p4), .val (.int p5), .val (.int v1), .val (.int v2), .val (.int v3), .val (.ref b4), .val (.ref b8), .unset, .unset, .unset, .unset, .unset, .unset, .unset, .unset, .unset, .unset, .unset, .unset] [(.int (0 : Int32)), (.int (14 : Int32)), (.ref b27), (.ref b27)])) rfl rfl (hb hby at_212)
  have V42 : Arv Z h42 b27 k27 .int (18 : Int32) [(.int (0 : Int32)), (.int (1 : Int32)), (.int (2 : Int32)), (.int (0 : Int32)), (.int (2 : Int32)), (.int (1 : Int32)), (.int (1 : Int32)), (.int (0 : Int32)), (.int (2 : Int32)), (.int (2 : Int32)), (.int (0 : Int32)), (.int (1 : Int32)), (.int (1 : Int32)), (.int (2 : Int32)), (.int (0 : Int32)), (.int (0 : Int32)), (.int (0 : Int32)), (.int (0 : Int32))] (.int (0 : Int32)) := Arv.set Ar42 q42 S42 M42 H42 G42 rfl W42 14 rfl (Nat.le_of_ble_eq_true rfl)
  have N42 := Fr.snoc X42 N41 g_b27
  have Z42 : n0 ≤ h42.size := Nat.le_trans Z41 (Keep.of_wr W42).1
  refine own_via st42 ?_
  show own_Go p e below s _ _ _ (T42.setTop (mkF m 213 #[.val (.int p0), .val (.int p1), .val (.int p2), .val (.int p3), .val (.int p4), .val (.int p5), .val (.int v1), .val (.int v2), .val (.int v3), .val (.ref b4), .val (.ref b8), .unset, .unset, .unset, .unset, .unset, .unset, .unset, .unset, .unset, .unset, .unset, .unset] [(.ref b27)]))
  refine own_via (fun _ k => XS.dup X42.here hx rfl (hb hby at_213) rfl rfl k) ?_
  show own_Go p e below s _ _ _ (T42.setTop (mkF m 214 #[.val (.int p0), .val (.int p1), .val (.int p2), .val (.int p3), .val (.int p4), .val (.int p5), .val (.int v1), .val (.int v2), .val (.int v3), .val (.ref b4), .val (.ref b8), .unset, .unset, .unset, .unset, .unset, .unset, .unset, .unset, .unset, .unset, .unset, .unset] [(.ref b27), (.ref b27)]))
  refine own_via (fun _ k => XS.bipush X42.here hx rfl (hb hby at_214) k) ?_
  show own_Go p e below s _ _ _ (T42.setTop (mkF m 216 #[.val (.int p0), .val (.int p1), .val (.int p2), .val (.int p3), .val (.int p4), .val (.int p5), .val (.int v1), .val (.int v2), .val (.int v3), .val (.ref b4), .val (.ref b8), .unset, .unset, .unset, .unset, .unset, .unset, .unset, .unset, .unset, .unset, .unset, .unset] [(.int (15 : Int32)), (.ref b27), (.ref b27)]))
  refine own_via (fun _ k => XS.iconst X42.here hx rfl (hb hby at_216) k) ?_
  show own_Go p e below s _ _ _ (T42.setTop (mkF m 217 #[.val (.int p0), .val (.int p1), .val (.int p2), .val (.int p3), .val (.int p4), .val (.int p5), .val (.int v1), .val (.int v2), .val (.int v3), .val (.ref b4), .val (.ref b8), .unset, .unset, .unset, .unset, .unset, .unset, .unset, .unset, .unset, .unset, .unset, .unset] [(.int (2 : Int32)), (.int (15 : Int32)), (.ref b27), (.ref b27)]))
  obtain ⟨cl43, Ar43, q43, S43, M43, H43, G43⟩ := (id V42)
  have hin43 : ¬ ((15 : Int32) < 0 ∨ cl43.slots.size ≤ ((15 : Int32)).toNatClampNeg) := inb_of S43 ⟨by decide, by decide⟩
  obtain ⟨T43, h43, X43, e43, W43, st43⟩ := stI X42 hx hZ e42 Ar43 (j := (15 : Int32)) hin43 (g := (mkF m 217 #[.val (.int p0), .val (.int p1), .val (.int p2), .val (.int p3), .val (.int p4), .val (.int p5), .val (.int v1), .val (.int v2), .val (.int v3), .val (.ref b4), .val (.ref b8), .unset, .unset, .unset, .unset, .unset, .unset, .unset, .unset, .unset, .unset, .unset, .unset] [(.int (2 : Int32)), (.int (15 : Int32)), (.ref b27), (.ref b27)])) rfl rfl (hb hby at_217)
  have V43 : Arv Z h43 b27 k27 .int (18 : Int32) [(.int (0 : Int32)), (.int (1 : Int32)), (.int (2 : Int32)), (.int (0 : Int32)), (.int (2 : Int32)), (.int (1 : Int32)), (.int (1 : Int32)), (.int (0 : Int32)), (.int (2 : Int32)), (.int (2 : Int32)), (.int (0 : Int32)), (.int (1 : Int32)), (.int (1 : Int32)), (.int (2 : Int32)), (.int (0 : Int32)), (.int (2 : Int32)), (.int (0 : Int32)), (.int (0 : Int32))] (.int (0 : Int32)) := Arv.set Ar43 q43 S43 M43 H43 G43 rfl W43 15 rfl (Nat.le_of_ble_eq_true rfl)
  have N43 := Fr.snoc X43 N42 g_b27
  have Z43 : n0 ≤ h43.size := Nat.le_trans Z42 (Keep.of_wr W43).1
  refine own_via st43 ?_
  show own_Go p e below s _ _ _ (T43.setTop (mkF m 218 #[.val (.int p0), .val (.int p1), .val (.int p2), .val (.int p3), .val (.int p4), .val (.int p5), .val (.int v1), .val (.int v2), .val (.int v3), .val (.ref b4), .val (.ref b8), .unset, .unset, .unset, .unset, .unset, .unset, .unset, .unset, .unset, .unset, .unset, .unset] [(.ref b27)]))
  refine own_via (fun _ k => XS.dup X43.here hx rfl (hb hby at_218) rfl rfl k) ?_
  show own_Go p e below s _ _ _ (T43.setTop (mkF m 219 #[.val (.int p0), .val (.int p1), .val (.int p2), .val (.int p3), .val (.int p4), .val (.int p5), .val (.int v1), .val (.int v2), .val (.int v3), .val (.ref b4), .val (.ref b8), .unset, .unset, .unset, .unset, .unset, .unset, .unset, .unset, .unset, .unset, .unset, .unset] [(.ref b27), (.ref b27)]))
  refine own_via (fun _ k => XS.bipush X43.here hx rfl (hb hby at_219) k) ?_
  show own_Go p e below s _ _ _ (T43.setTop (mkF m 221 #[.val (.int p0), .val (.int p1), .val (.int p2), .val (.int p3), .val (.int p4), .val (.int p5), .val (.int v1), .val (.int v2), .val (.int v3), .val (.ref b4), .val (.ref b8), .unset, .unset, .unset, .unset, .unset, .unset, .unset, .unset, .unset, .unset, .unset, .unset] [(.int (16 : Int32)), (.ref b27), (.ref b27)]))
  refine own_via (fun _ k => XS.iconst X43.here hx rfl (hb hby at_221) k) ?_
  show own_Go p e below s _ _ _ (T43.setTop (mkF m 222 #[.val (.int p0), .val (.int p1), .val (.int p2), .val (.int p3), .val (.int p4), .val (.int p5), .val (.int v1), .val (.int v2), .val (.int v3), .val (.ref b4), .val (.ref b8), .unset, .unset, .unset, .unset, .unset, .unset, .unset, .unset, .unset, .unset, .unset, .unset] [(.int (1 : Int32)), (.int (16 : Int32)), (.ref b27), (.ref b27)]))
  obtain ⟨cl44, Ar44, q44, S44, M44, H44, G44⟩ := (id V43)
  have hin44 : ¬ ((16 : Int32) < 0 ∨ cl44.slots.size ≤ ((16 : Int32)).toNatClampNeg) := inb_of S44 ⟨by decide, by decide⟩
  obtain ⟨T44, h44, X44, e44, W44, st44⟩ := stI X43 hx hZ e43 Ar44 (j := (16 : Int32)) hin44 (g := (mkF m 222 #[.val (.int p0), .val (.int p1), .val (.int p2), .val (.int p3), .val (.int p4), .val (.int p5), .val (.int v1), .val (.int v2), .val (.int v3), .val (.ref b4), .val (.ref b8), .unset, .unset, .unset, .unset, .unset, .unset, .unset, .unset, .unset, .unset, .unset, .unset] [(.int (1 : Int32)), (.int (16 : Int32)), (.ref b27), (.ref b27)])) rfl rfl (hb hby at_222)
  have V44 : Arv Z h44 b27 k27 .int (18 : Int32) [(.int (0 : Int32)), (.int (1 : Int32)), (.int (2 : Int32)), (.int (0 : Int32)), (.int (2 : Int32)), (.int (1 : Int32)), (.int (1 : Int32)), (.int (0 : Int32)), (.int (2 : Int32)), (.int (2 : Int32)), (.int (0 : Int32)), (.int (1 : Int32)), (.int (1 : Int32)), (.int (2 : Int32)), (.int (0 : Int32)), (.int (2 : Int32)), (.int (1 : Int32)), (.int (0 : Int32))] (.int (0 : Int32)) := Arv.set Ar44 q44 S44 M44 H44 G44 rfl W44 16 rfl (Nat.le_of_ble_eq_true rfl)
  have N44 := Fr.snoc X44 N43 g_b27
  have Z44 : n0 ≤ h44.size := Nat.le_trans Z43 (Keep.of_wr W44).1
  refine own_via st44 ?_
  show own_Go p e below s _ _ _ (T44.setTop (mkF m 223 #[.val (.int p0), .val (.int p1), .val (.int p2), .val (.int p3), .val (.int p4), .val (.int p5), .val (.int v1), .val (.int v2), .val (.int v3), .val (.ref b4), .val (.ref b8), .unset, .unset, .unset, .unset, .unset, .unset, .unset, .unset, .unset, .unset, .unset, .unset] [(.ref b27)]))
  refine own_via (fun _ k => XS.dup X44.here hx rfl (hb hby at_223) rfl rfl k) ?_
  show own_Go p e below s _ _ _ (T44.setTop (mkF m 224 #[.val (.int p0), .val (.int p1), .val (.int p2), .val (.int p3), .val (.int p4), .val (.int p5), .val (.int v1), .val (.int v2), .val (.int v3), .val (.ref b4), .val (.ref b8), .unset, .unset, .unset, .unset, .unset, .unset, .unset, .unset, .unset, .unset, .unset, .unset] [(.ref b27), (.ref b27)]))
  refine own_via (fun _ k => XS.bipush X44.here hx rfl (hb hby at_224) k) ?_
  show own_Go p e below s _ _ _ (T44.setTop (mkF m 226 #[.val (.int p0), .val (.int p1), .val (.int p2), .val (.int p3), .val (.int p4), .val (.int p5), .val (.int v1), .val (.int v2), .val (.int v3), .val (.ref b4), .val (.ref b8), .unset, .unset, .unset, .unset, .unset, .unset, .unset, .unset, .unset, .unset, .unset, .unset] [(.int (17 : Int32)), (.ref b27), (.ref b27)]))
  refine own_via (fun _ k => XS.iconst X44.here hx rfl (hb hby at_226) k) ?_
  show own_Go p e below s _ _ _ (T44.setTop (mkF m 227 #[.val (.int p0), .val (.int p1), .val (.int p2), .val (.int p3), .val (.int p4), .val (.int p5), .val (.int v1), .val (.int v2), .val (.int v3), .val (.ref b4), .val (.ref b8), .unset, .unset, .unset, .unset, .unset, .unset, .unset, .unset, .unset, .unset, .unset, .unset] [(.int (0 : Int32)), (.int (17 : Int32)), (.ref b27), (.ref b27)]))
  obtain ⟨cl45, Ar45, q45, S45, M45, H45, G45⟩ := (id V44)
  have hin45 : ¬ ((17 : Int32) < 0 ∨ cl45.slots.size ≤ ((17 : Int32)).toNatClampNeg) := inb_of S45 ⟨by decide, by decide⟩
  obtain ⟨T45, h45, X45, e45, W45, st45⟩ := stI X44 hx hZ e44 Ar45 (j := (17 : Int32)) hin45 (g := (mkF m 227 #[.val (.int p0), .val (.int p1), .val (.int p2), .val (.int p3), .val (.int p4), .val (.int p5), .val (.int v1), .val (.int v2), .val (.int v3), .val (.ref b4), .val (.ref b8), .unset, .unset, .unset, .unset, .unset, .unset, .unset, .unset, .unset, .unset, .unset, .unset] [(.int (0 : Int32)), (.int (17 : Int32)), (.ref b27), (.ref b27)])) rfl rfl (hb hby at_227)
  have V45 : Arv Z h45 b27 k27 .int (18 : Int32) [(.int (0 : Int32)), (.int (1 : Int32)), (.int (2 : Int32)), (.int (0 : Int32)), (.int (2 : Int32)), (.int (1 : Int32)), (.int (1 : Int32)), (.int (0 : Int32)), (.int (2 : Int32)), (.int (2 : Int32)), (.int (0 : Int32)), (.int (1 : Int32)), (.int (1 : Int32)), (.int (2 : Int32)), (.int (0 : Int32)), (.int (2 : Int32)), (.int (1 : Int32)), (.int (0 : Int32))] (.int (0 : Int32)) := Arv.set Ar45 q45 S45 M45 H45 G45 rfl W45 17 rfl (Nat.le_of_ble_eq_true rfl)
  have N45 := Fr.snoc X45 N44 g_b27
  have Z45 : n0 ≤ h45.size := Nat.le_trans Z44 (Keep.of_wr W45).1
  refine own_via st45 ?_
  show own_Go p e below s _ _ _ (T45.setTop (mkF m 228 #[.val (.int p0), .val (.int p1), .val (.int p2), .val (.int p3), .val (.int p4), .val (.int p5), .val (.int v1), .val (.int v2), .val (.int v3), .val (.ref b4), .val (.ref b8), .unset, .unset, .unset, .unset, .unset, .unset, .unset, .unset, .unset, .unset, .unset, .unset] [(.ref b27)]))
  refine own_via (fun _ k => XS.astore X45.here hx rfl (hb hby at_228) rfl rfl (l' := #[.val (.int p0), .val (.int p1), .val (.int p2), .val (.int p3), .val (.int p4), .val (.int p5), .val (.int v1), .val (.int v2), .val (.int v3), .val (.ref b4), .val (.ref b8), .val (.ref b27), .unset, .unset, .unset, .unset, .unset, .unset, .unset, .unset, .unset, .unset, .unset]) rfl k) ?_
  show own_Go p e below s _ _ _ (T45.setTop (mkF m 230 #[.val (.int p0), .val (.int p1), .val (.int p2), .val (.int p3), .val (.int p4), .val (.int p5), .val (.int v1), .val (.int v2), .val (.int v3), .val (.ref b4), .val (.ref b8), .val (.ref b27), .unset, .unset, .unset, .unset, .unset, .unset, .unset, .unset, .unset, .unset, .unset] []))
  have VLB : Arv Z h45 b27 k27 .int (18 : Int32) own_LB (.int (0 : Int32)) := V45
  show own_Go p e below s _ _ _ (T45.setTop (mkF m 230 #[.val (.int p0), .val (.int p1), .val (.int p2), .val (.int p3), .val (.int p4), .val (.int p5), .val (.int v1), .val (.int v2), .val (.int v3), .val (.ref b4), .val (.ref b8), .val (.ref b27), .unset, .unset, .unset, .unset, .unset, .unset, .unset, .unset, .unset, .unset, .unset] []))
  refine own_via (fun _ k => XS.iloadN X45.here hx rfl (hb hby at_230) rfl k) ?_
  show own_Go p e below s _ _ _ (T45.setTop (mkF m 231 #[.val (.int p0), .val (.int p1), .val (.int p2), .val (.int p3), .val (.int p4), .val (.int p5), .val (.int v1), .val (.int v2), .val (.int v3), .val (.ref b4), .val (.ref b8), .val (.ref b27), .unset, .unset, .unset, .unset, .unset, .unset, .unset, .unset, .unset, .unset, .unset] [(.int p3)]))
  refine own_via (fun _ k => XS.iconst X45.here hx rfl (hb hby at_231) k) ?_
  show own_Go p e below s _ _ _ (T45.setTop (mkF m 232 #[.val (.int p0), .val (.int p1), .val (.int p2), .val (.int p3), .val (.int p4), .val (.int p5), .val (.int v1), .val (.int v2), .val (.int v3), .val (.ref b4), .val (.ref b8), .val (.ref b27), .unset, .unset, .unset, .unset, .unset, .unset, .unset, .unset, .unset, .unset, .unset] [(.int (3 : Int32)), (.int p3)]))
  refine own_via (fun _ k => XS.iand X45.here hx rfl (hb hby at_232) rfl k) ?_
  show own_Go p e below s _ _ _ (T45.setTop (mkF m 233 #[.val (.int p0), .val (.int p1), .val (.int p2), .val (.int p3), .val (.int p4), .val (.int p5), .val (.int v1), .val (.int v2), .val (.int v3), .val (.ref b4), .val (.ref b8), .val (.ref b27), .unset, .unset, .unset, .unset, .unset, .unset, .unset, .unset, .unset, .unset, .unset] [(.int (p3 &&& (3 : Int32)))]))
  refine own_via (fun _ k => XS.istore X45.here hx rfl (hb hby at_233) rfl (l' := #[.val (.int p0), .val (.int p1), .val (.int p2), .val (.int p3), .val (.int p4), .val (.int p5), .val (.int v1), .val (.int v2), .val (.int v3), .val (.ref b4), .val (.ref b8), .val (.ref b27), .val (.int (p3 &&& (3 : Int32))), .unset, .unset, .unset, .unset, .unset, .unset, .unset, .unset, .unset, .unset]) rfl k) ?_
  show own_Go p e below s _ _ _ (T45.setTop (mkF m 235 #[.val (.int p0), .val (.int p1), .val (.int p2), .val (.int p3), .val (.int p4), .val (.int p5), .val (.int v1), .val (.int v2), .val (.int v3), .val (.ref b4), .val (.ref b8), .val (.ref b27), .val (.int (p3 &&& (3 : Int32))), .unset, .unset, .unset, .unset, .unset, .unset, .unset, .unset, .unset, .unset] []))
  generalize hv46 : (p3 &&& (3 : Int32)) = v46
  show own_Go p e below s _ _ _ (T45.setTop (mkF m 235 #[.val (.int p0), .val (.int p1), .val (.int p2), .val (.int p3), .val (.int p4), .val (.int p5), .val (.int v1), .val (.int v2), .val (.int v3), .val (.ref b4), .val (.ref b8), .val (.ref b27), .val (.int v46), .unset, .unset, .unset, .unset, .unset, .unset, .unset, .unset, .unset, .unset] []))
  refine own_via (fun _ k => XS.iloadN X45.here hx rfl (hb hby at_235) rfl k) ?_
  show own_Go p e below s _ _ _ (T45.setTop (mkF m 236 #[.val (.int p0), .val (.int p1), .val (.int p2), .val (.int p3), .val (.int p4), .val (.int p5), .val (.int v1), .val (.int v2), .val (.int v3), .val (.ref b4), .val (.ref b8), .val (.ref b27), .val (.int v46), .unset, .unset, .unset, .unset, .unset, .unset, .unset, .unset, .unset, .unset] [(.int p3)]))
  refine own_via (fun _ k => XS.iconst X45.here hx rfl (hb hby at_236) k) ?_
  show own_Go p e below s _ _ _ (T45.setTop (mkF m 237 #[.val (.int p0), .val (.int p1), .val (.int p2), .val (.int p3), .val (.int p4), .val (.int p5), .val (.int v1), .val (.int v2), .val (.int v3), .val (.ref b4), .val (.ref b8), .val (.ref b27), .val (.int v46), .unset, .unset, .unset, .unset, .unset, .unset, .unset, .unset, .unset, .unset] [(.int (2 : Int32)), (.int p3)]))
  refine own_via (fun _ k => XS.iushr X45.here hx rfl (hb hby at_237) rfl k) ?_
  show own_Go p e below s _ _ _ (T45.setTop (mkF m 238 #[.val (.int p0), .val (.int p1), .val (.int p2), .val (.int p3), .val (.int p4), .val (.int p5), .val (.int v1), .val (.int v2), .val (.int v3), .val (.ref b4), .val (.ref b8), .val (.ref b27), .val (.int v46), .unset, .unset, .unset, .unset, .unset, .unset, .unset, .unset, .unset, .unset] [(.int (o_iushr p3 (2 : Int32)))]))
  refine own_via (fun _ k => XS.bipush X45.here hx rfl (hb hby at_238) k) ?_
  show own_Go p e below s _ _ _ (T45.setTop (mkF m 240 #[.val (.int p0), .val (.int p1), .val (.int p2), .val (.int p3), .val (.int p4), .val (.int p5), .val (.int v1), .val (.int v2), .val (.int v3), .val (.ref b4), .val (.ref b8), .val (.ref b27), .val (.int v46), .unset, .unset, .unset, .unset, .unset, .unset, .unset, .unset, .unset, .unset] [(.int (6 : Int32)), (.int (o_iushr p3 (2 : Int32)))]))
  refine own_via (fun _ k => XS.irem X45.here hx rfl (hb hby at_240) rfl (by decide) k) ?_
  show own_Go p e below s _ _ _ (T45.setTop (mkF m 241 #[.val (.int p0), .val (.int p1), .val (.int p2), .val (.int p3), .val (.int p4), .val (.int p5), .val (.int v1), .val (.int v2), .val (.int v3), .val (.ref b4), .val (.ref b8), .val (.ref b27), .val (.int v46), .unset, .unset, .unset, .unset, .unset, .unset, .unset, .unset, .unset, .unset] [(.int (o_irem (o_iushr p3 (2 : Int32)) (6 : Int32)))]))
  refine own_via (fun _ k => XS.istore X45.here hx rfl (hb hby at_241) rfl (l' := #[.val (.int p0), .val (.int p1), .val (.int p2), .val (.int p3), .val (.int p4), .val (.int p5), .val (.int v1), .val (.int v2), .val (.int v3), .val (.ref b4), .val (.ref b8), .val (.ref b27), .val (.int v46), .val (.int (o_irem (o_iushr p3 (2 : Int32)) (6 : Int32))), .unset, .unset, .unset, .unset, .unset, .unset, .unset, .unset, .unset]) rfl k) ?_
  show own_Go p e below s _ _ _ (T45.setTop (mkF m 243 #[.val (.int p0), .val (.int p1), .val (.int p2), .val (.int p3), .val (.int p4), .val (.int p5), .val (.int v1), .val (.int v2), .val (.int v3), .val (.ref b4), .val (.ref b8), .val (.ref b27), .val (.int v46), .val (.int (o_irem (o_iushr p3 (2 : Int32)) (6 : Int32))), .unset, .unset, .unset, .unset, .unset, .unset, .unset, .unset, .unset] []))
  generalize hv47 : (o_irem (o_iushr p3 (2 : Int32)) (6 : Int32)) = v47
  show own_Go p e below s _ _ _ (T45.setTop (mkF m 243 #[.val (.int p0), .val (.int p1), .val (.int p2), .val (.int p3), .val (.int p4), .val (.int p5), .val (.int v1), .val (.int v2), .val (.int v3), .val (.ref b4), .val (.ref b8), .val (.ref b27), .val (.int v46), .val (.int v47), .unset, .unset, .unset, .unset, .unset, .unset, .unset, .unset, .unset] []))
  obtain ⟨hA0, hA1, hA2⟩ := own_asc hv1 hv2 hv3
  have jq : ∀ (q_ : Int32) (e0 : Nat) (e1 : Nat) (e2 : Nat) (t0 : Int32) (t1 : Int32) (t2 : Int32) (T48 : State) (lo48 : List Loc) (h48 : Heap), Stand p l e room_1 s m #[(.int p0), (.int p1), (.int p2), (.int p3), (.int p4), (.int p5)] below meth c T48 lo48 3 39 → T48.heap = h48 → Fr n0 lo48 → n0 ≤ h48.size → Arv Z h48 b4 k4 .int (3 : Int32) [(.int v1), (.int v2), (.int v3)] (.int (0 : Int32)) → Exa Z h48 b4 "[I" → Arv Z h48 b27 k27 .int (18 : Int32) own_LB (.int (0 : Int32)) → own_perm e0 e1 e2 t0 t1 t2 → ¬ (((3 : Int32) * q_) + (0 : Int32)) < 0 ∧ (((3 : Int32) * q_) + (0 : Int32)) < (18 : Int32) → ¬ (((3 : Int32) * q_) + (1 : Int32)) < 0 ∧ (((3 : Int32) * q_) + (1 : Int32)) < (18 : Int32) → ¬ (((3 : Int32) * q_) + (2 : Int32)) < 0 ∧ (((3 : Int32) * q_) + (2 : Int32)) < (18 : Int32) → own_LB.getD ((((3 : Int32) * q_) + (0 : Int32))).toNatClampNeg (.int (0 : Int32)) = (.int t0) → own_LB.getD ((((3 : Int32) * q_) + (1 : Int32))).toNatClampNeg (.int (0 : Int32)) = (.int t1) → own_LB.getD ((((3 : Int32) * q_) + (2 : Int32))).toNatClampNeg (.int (0 : Int32)) = (.int t2) → own_Go p e below s (Q0 Z p0 p1 p2 p3 p4 p5 h0 n0) room_1.cells room_1.slots (T48.setTop (mkF m 283 #[.val (.int p0), .val (.int p1), .val (.int p2), .val (.int p3), .val (.int p4), .val (.int p5), .val (.int v1), .val (.int v2), .val (.int v3), .val (.ref b4), .val (.ref b8), .val (.ref b27), .val (.int v46), .val (.int q_), .val (.int (own_m v1 v2 v3 e0)), .val (.int (own_m v1 v2 v3 e1)), .val (.int (own_m v1 v2 v3 e2)), .unset, .unset, .unset, .unset, .unset, .unset] [])) := by
    intro q_ e0 e1 e2 t0 t1 t2 T48 lo48 h48 X48 e48 N48 Z48 F49 F50 F51 hP hI0 hI1 hI2 hV0 hV1 hV2
    show own_Go p e below s _ _ _ (T48.setTop (mkF m 283 #[.val (.int p0), .val (.int p1), .val (.int p2), .val (.int p3), .val (.int p4), .val (.int p5), .val (.int v1), .val (.int v2), .val (.int v3), .val (.ref b4), .val (.ref b8), .val (.ref b27), .val (.int v46), .val (.int q_), .val (.int (own_m v1 v2 v3 e0)), .val (.int (own_m v1 v2 v3 e1)), .val (.int (own_m v1 v2 v3 e2)), .unset, .unset, .unset, .unset, .unset, .unset] []))
    have jk : ∀ (c_ : Addr) (kc_ : ClassId) (kn_ : Nat) (es_ : List Nat) (T52 : State) (lo52 : List Loc) (h52 : Heap), Stand p l e room_1 s m #[(.int p0), (.int p1), (.int p2), (.int p3), (.int p4), (.int p5)] below meth c T52 lo52 4 42 → T52.heap = h52 → Fr n0 lo52 → n0 ≤ h52.size → Arv Z h52 b4 k4 .int (3 : Int32) [(.int v1), (.int v2), (.int v3)] (.int (0 : Int32)) → Exa Z h52 b4 "[I" → Arv Z h52 b27 k27 .int (18 : Int32) own_LB (.int (0 : Int32)) → Arv Z h52 c_ kc_ .int (Nat.toInt32 kn_) ((es_.map (own_m v1 v2 v3)).map Value.int) (.int (0 : Int32)) → Exa Z h52 c_ "[I" → own_kn e0 e1 e2 kn_ es_ → own_Go p e below s (Q0 Z p0 p1 p2 p3 p4 p5 h0 n0) room_1.cells room_1.slots (T52.setTop (mkF m 359 #[.val (.int p0), .val (.int p1), .val (.int p2), .val (.int p3), .val (.int p4), .val (.int p5), .val (.int v1), .val (.int v2), .val (.int v3), .val (.ref b4), .val (.ref b8), .val (.ref b27), .val (.int (Nat.toInt32 kn_)), .val (.int q_), .val (.int (own_m v1 v2 v3 e0)), .val (.int (own_m v1 v2 v3 e1)), .val (.int (own_m v1 v2 v3 e2)), .val (.ref c_), .unset, .unset, .unset, .unset, .unset] [])) := by
      intro c_ kc_ kn_ es_ T52 lo52 h52 X52 e52 N52 Z52 F53 F54 F55 F56 F57 hk
      show own_Go p e below s _ _ _ (T52.setTop (mkF m 359 #[.val (.int p0), .val (.int p1), .val (.int p2), .val (.int p3), .val (.int p4), .val (.int p5), .val (.int v1), .val (.int v2), .val (.int v3), .val (.ref b4), .val (.ref b8), .val (.ref b27), .val (.int (Nat.toInt32 kn_)), .val (.int q_), .val (.int (own_m v1 v2 v3 e0)), .val (.int (own_m v1 v2 v3 e1)), .val (.int (own_m v1 v2 v3 e2)), .val (.ref c_), .unset, .unset, .unset, .unset, .unset] []))
      obtain ⟨hk1, hk2, hk3, hk4⟩ := own_kn_e hP hk
      obtain ⟨T58, h58, X58, e58, E58, A58, D58, -, st58⟩ := newO X52 hx hZ hown (hw _ (List.mem_of_getElem? (i := 2) rfl)) (hw _ (List.mem_of_getElem? (i := 3) rfl)) (hw _ (List.mem_of_getElem? (i := 4) rfl)) e52 (g := (mkF m 359 #[.val (.int p0), .val (.int p1), .val (.int p2), .val (.int p3), .val (.int p4), .val (.int p5), .val (.int v1), .val (.int v2), .val (.int v3), .val (.ref b4), .val (.ref b8), .val (.ref b27), .val (.int (Nat.toInt32 kn_)), .val (.int q_), .val (.int (own_m v1 v2 v3 e0)), .val (.int (own_m v1 v2 v3 e1)), .val (.int (own_m v1 v2 v3 e2)), .val (.ref c_), .unset, .unset, .unset, .unset, .unset] [])) rfl (hb hby at_359) (by decide) (by decide)
      obtain ⟨b58, gg58⟩ : ∃ z, z = h52.size := ⟨_, rfl⟩
      rw [← gg58] at A58 D58 st58
      have ne_b27_b58 : b27 ≠ b58 := Nat.ne_of_lt (Nat.lt_of_lt_of_le F55.lt (Nat.le_of_eq gg58.symm))
      have ne_b4_b58 : b4 ≠ b58 := Nat.ne_of_lt (Nat.lt_of_lt_of_le F54.lt (Nat.le_of_eq gg58.symm))
      have ne_c__b58 : c_ ≠ b58 := Nat.ne_of_lt (Nat.lt_of_lt_of_le F57.lt (Nat.le_of_eq gg58.symm))
      have g_b58 : n0 ≤ b58 := Nat.le_trans Z52 (Nat.le_of_eq gg58.symm)
      have Z58 : n0 ≤ h58.size := Nat.le_trans Z52 E58.1
      have F59 : Fld Z h58 b58 "com/example/greenbelt/greenbelt/model/Token" "members" "[I" .null := D58 (Or.inr (hw _ (List.mem_of_getElem? (i := 41) rfl))) (ty := (.array .int)) (by decide)
      have F60 : Fld Z h58 b58 "com/example/greenbelt/greenbelt/model/Token" "granted" "[J" .null := D58 (Or.inr (hw _ (List.mem_of_getElem? (i := 43) rfl))) (ty := (.array .long)) (by decide)
      have F61 : Fld Z h58 b58 "com/example/greenbelt/greenbelt/model/Token" "queue" "[I" .null := D58 (Or.inr (hw _ (List.mem_of_getElem? (i := 45) rfl))) (ty := (.array .int)) (by decide)
      refine own_via st58 ?_
      show own_Go p e below s _ _ _ (T58.setTop (mkF m 362 #[.val (.int p0), .val (.int p1), .val (.int p2), .val (.int p3), .val (.int p4), .val (.int p5), .val (.int v1), .val (.int v2), .val (.int v3), .val (.ref b4), .val (.ref b8), .val (.ref b27), .val (.int (Nat.toInt32 kn_)), .val (.int q_), .val (.int (own_m v1 v2 v3 e0)), .val (.int (own_m v1 v2 v3 e1)), .val (.int (own_m v1 v2 v3 e2)), .val (.ref c_), .unset, .unset, .unset, .unset, .unset] [(.ref b58)]))
      refine own_via (fun _ k => XS.dup X58.here hx rfl (hb hby at_362) rfl rfl k) ?_
      show own_Go p e below s _ _ _ (T58.setTop (mkF m 363 #[.val (.int p0), .val (.int p1), .val (.int p2), .val (.int p3), .val (.int p4), .val (.int p5), .val (.int v1), .val (.int v2), .val (.int v3), .val (.ref b4), .val (.ref b8), .val (.ref b27), .val (.int (Nat.toInt32 kn_)), .val (.int q_), .val (.int (own_m v1 v2 v3 e0)), .val (.int (own_m v1 v2 v3 e1)), .val (.int (own_m v1 v2 v3 e2)), .val (.ref c_), .unset, .unset, .unset, .unset, .unset] [(.ref b58), (.ref b58)]))
      refine own_via (fun _ k => XS.aload X58.here hx rfl (hb hby at_363) rfl rfl k) ?_
      show own_Go p e below s _ _ _ (T58.setTop (mkF m 365 #[.val (.int p0), .val (.int p1), .val (.int p2), .val (.int p3), .val (.int p4), .val (.int p5), .val (.int v1), .val (.int v2), .val (.int v3), .val (.ref b4), .val (.ref b8), .val (.ref b27), .val (.int (Nat.toInt32 kn_)), .val (.int q_), .val (.int (own_m v1 v2 v3 e0)), .val (.int (own_m v1 v2 v3 e1)), .val (.int (own_m v1 v2 v3 e2)), .val (.ref c_), .unset, .unset, .unset, .unset, .unset] [(.ref b4), (.ref b58), (.ref b58)]))
      refine own_via (fun _ k => XS.iconst X58.here hx rfl (hb hby at_365) k) ?_
      show own_Go p e below s _ _ _ (T58.setTop (mkF m 366 #[.val (.int p0), .val (.int p1), .val (.int p2), .val (.int p3), .val (.int p4), .val (.int p5), .val (.int v1), .val (.int v2), .val (.int v3), .val (.ref b4), .val (.ref b8), .val (.ref b27), .val (.int (Nat.toInt32 kn_)), .val (.int q_), .val (.int (own_m v1 v2 v3 e0)), .val (.int (own_m v1 v2 v3 e1)), .val (.int (own_m v1 v2 v3 e2)), .val (.ref c_), .unset, .unset, .unset, .unset, .unset] [(.int (3 : Int32)), (.ref b4), (.ref b58), (.ref b58)]))
      obtain ⟨T62, h62, k62, X62, e62, E62, A62, AE62, st62⟩ := newPE X58 hx hZ (hw _ (List.mem_of_getElem? (i := 5) rfl)) e58 (g := (mkF m 366 #[.val (.int p0), .val (.int p1), .val (.int p2), .val (.int p3), .val (.int p4), .val (.int p5), .val (.int v1), .val (.int v2), .val (.int v3), .val (.ref b4), .val (.ref b8), .val (.ref b27), .val (.int (Nat.toInt32 kn_)), .val (.int q_), .val (.int (own_m v1 v2 v3 e0)), .val (.int (own_m v1 v2 v3 e1)), .val (.int (own_m v1 v2 v3 e2)), .val (.ref c_), .unset, .unset, .unset, .unset, .unset] [(.int (3 : Int32)), (.ref b4), (.ref b58), (.ref b58)])) rfl (hb hby at_366) rfl (by decide) (cap := 3) (by decide) (by decide) (by decide) (by decide) (ad := "[J") (by decide)
      obtain ⟨b62, gg62⟩ : ∃ z, z = h58.size := ⟨_, rfl⟩
      rw [← gg62] at A62 AE62 st62
      have ne_b27_b62 : b27 ≠ b62 := Nat.ne_of_lt (Nat.lt_of_lt_of_le (F55.ext E58).lt (Nat.le_of_eq gg62.symm))
      have ne_b4_b62 : b4 ≠ b62 := Nat.ne_of_lt (Nat.lt_of_lt_of_le (F54.ext E58).lt (Nat.le_of_eq gg62.symm))
      have ne_b58_b62 : b58 ≠ b62 := Nat.ne_of_lt (Nat.lt_of_lt_of_le A58.lt (Nat.le_of_eq gg62.symm))
      have ne_c__b62 : c_ ≠ b62 := Nat.ne_of_lt (Nat.lt_of_lt_of_le (F57.ext E58).lt (Nat.le_of_eq gg62.symm))
      have g_b62 : n0 ≤ b62 := Nat.le_trans Z58 (Nat.le_of_eq gg62.symm)
      have Z62 : n0 ≤ h62.size := Nat.le_trans Z58 E62.1
      have V62 : Arv Z h62 b62 k62 .long (3 : Int32) [(.long (0 : Int64)), (.long (0 : Int64)), (.long (0 : Int64))] (.long (0 : Int64)) := (Arv.new A62 (by decide)).pad (pad_rep [] (.long (0 : Int64)) 3)
      refine own_via st62 ?_
      show own_Go p e below s _ _ _ (T62.setTop (mkF m 368 #[.val (.int p0), .val (.int p1), .val (.int p2), .val (.int p3), .val (.int p4), .val (.int p5), .val (.int v1), .val (.int v2), .val (.int v3), .val (.ref b4), .val (.ref b8), .val (.ref b27), .val (.int (Nat.toInt32 kn_)), .val (.int q_), .val (.int (own_m v1 v2 v3 e0)), .val (.int (own_m v1 v2 v3 e1)), .val (.int (own_m v1 v2 v3 e2)), .val (.ref c_), .unset, .unset, .unset, .unset, .unset] [(.ref b62), (.ref b4), (.ref b58), (.ref b58)]))
      refine own_via (fun _ k => XS.dup X62.here hx rfl (hb hby at_368) rfl rfl k) ?_
      show own_Go p e below s _ _ _ (T62.setTop (mkF m 369 #[.val (.int p0), .val (.int p1), .val (.int p2), .val (.int p3), .val (.int p4), .val (.int p5), .val (.int v1), .val (.int v2), .val (.int v3), .val (.ref b4), .val (.ref b8), .val (.ref b27), .val (.int (Nat.toInt32 kn_)), .val (.int q_), .val (.int (own_m v1 v2 v3 e0)), .val (.int (own_m v1 v2 v3 e1)), .val (.int (own_m v1 v2 v3 e2)), .val (.ref c_), .unset, .unset, .unset, .unset, .unset] [(.ref b62), (.ref b62), (.ref b4), (.ref b58), (.ref b58)]))
      refine own_via (fun _ k => XS.iconst X62.here hx rfl (hb hby at_369) k) ?_
      show own_Go p e below s _ _ _ (T62.setTop (mkF m 370 #[.val (.int p0), .val (.int p1), .val (.int p2), .val (.int p3), .val (.int p4), .val (.int p5), .val (.int v1), .val (.int v2), .val (.int v3), .val (.ref b4), .val (.ref b8), .val (.ref b27), .val (.int (Nat.toInt32 kn_)), .val (.int q_), .val (.int (own_m v1 v2 v3 e0)), .val (.int (own_m v1 v2 v3 e1)), .val (.int (own_m v1 v2 v3 e2)), .val (.ref c_), .unset, .unset, .unset, .unset, .unset] [(.int (0 : Int32)), (.ref b62), (.ref b62), (.ref b4), (.ref b58), (.ref b58)]))
      refine own_via (fun _ k => XS.lconst X62.here hx rfl (hb hby at_370) k) ?_
      show own_Go p e below s _ _ _ (T62.setTop (mkF m 371 #[.val (.int p0), .val (.int p1), .val (.int p2), .val (.int p3), .val (.int p4), .val (.int p5), .val (.int v1), .val (.int v2), .val (.int v3), .val (.ref b4), .val (.ref b8), .val (.ref b27), .val (.int (Nat.toInt32 kn_)), .val (.int q_), .val (.int (own_m v1 v2 v3 e0)), .val (.int (own_m v1 v2 v3 e1)), .val (.int (own_m v1 v2 v3 e2)), .val (.ref c_), .unset, .unset, .unset, .unset, .unset] [(.long (0 : Int64)), (.int (0 : Int32)), (.ref b62), (.ref b62), (.ref b4), (.ref b58), (.ref b58)]))
      obtain ⟨cl63, Ar63, q63, S63, M63, H63, G63⟩ := (id V62)
      have hin63 : ¬ ((0 : Int32) < 0 ∨ cl63.slots.size ≤ ((0 : Int32)).toNatClampNeg) := inb_of S63 ⟨by decide, by decide⟩
      obtain ⟨T63, h63, X63, e63, W63, st63⟩ := stJ X62 hx hZ e62 Ar63 (j := (0 : Int32)) hin63 (g := (mkF m 371 #[.val (.int p0), .val (.int p1), .val (.int p2), .val (.int p3), .val (.int p4), .val (.int p5), .val (.int v1), .val (.int v2), .val (.int v3), .val (.ref b4), .val (.ref b8), .val (.ref b27), .val (.int (Nat.toInt32 kn_)), .val (.int q_), .val (.int (own_m v1 v2 v3 e0)), .val (.int (own_m v1 v2 v3 e1)), .val (.int (own_m v1 v2 v3 e2)), .val (.ref c_), .unset, .unset, .unset, .unset, .unset] [(.long (0 : Int64)), (.int (0 : Int32)), (.ref b62), (.ref b62), (.ref b4), (.ref b58), (.ref b58)])) rfl rfl (hb hby at_371)
      have V63 : Arv Z h63 b62 k62 .long (3 : Int32) [(.long (0 : Int64)), (.long (0 : Int64)), (.long (0 : Int64))] (.long (0 : Int64)) := Arv.set Ar63 q63 S63 M63 H63 G63 rfl W63 0 rfl (Nat.le_of_ble_eq_true rfl)
      have N63 := Fr.snoc X63 N52 g_b62
      have Z63 : n0 ≤ h63.size := Nat.le_trans Z62 (Keep.of_wr W63).1
      refine own_via st63 ?_
      show own_Go p e below s _ _ _ (T63.setTop (mkF m 372 #[.val (.int p0), .val (.int p1), .val (.int p2), .val (.int p3), .val (.int p4), .val (.int p5), .val (.int v1), .val (.int v2), .val (.int v3), .val (.ref b4), .val (.ref b8), .val (.ref b27), .val (.int (Nat.toInt32 kn_)), .val (.int q_), .val (.int (own_m v1 v2 v3 e0)), .val (.int (own_m v1 v2 v3 e1)), .val (.int (own_m v1 v2 v3 e2)), .val (.ref c_), .unset, .unset, .unset, .unset, .unset] [(.ref b62), (.ref b4), (.ref b58), (.ref b58)]))
      refine own_via (fun _ k => XS.dup X63.here hx rfl (hb hby at_372) rfl rfl k) ?_
      show own_Go p e below s _ _ _ (T63.setTop (mkF m 373 #[.val (.int p0), .val (.int p1), .val (.int p2), .val (.int p3), .val (.int p4), .val (.int p5), .val (.int v1), .val (.int v2), .val (.int v3), .val (.ref b4), .val (.ref b8), .val (.ref b27), .val (.int (Nat.toInt32 kn_)), .val (.int q_), .val (.int (own_m v1 v2 v3 e0)), .val (.int (own_m v1 v2 v3 e1)), .val (.int (own_m v1 v2 v3 e2)), .val (.ref c_), .unset, .unset, .unset, .unset, .unset] [(.ref b62), (.ref b62), (.ref b4), (.ref b58), (.ref b58)]))
      refine own_via (fun _ k => XS.iconst X63.here hx rfl (hb hby at_373) k) ?_
      show own_Go p e below s _ _ _ (T63.setTop (mkF m 374 #[.val (.int p0), .val (.int p1), .val (.int p2), .val (.int p3), .val (.int p4), .val (.int p5), .val (.int v1), .val (.int v2), .val (.int v3), .val (.ref b4), .val (.ref b8), .val (.ref b27), .val (.int (Nat.toInt32 kn_)), .val (.int q_), .val (.int (own_m v1 v2 v3 e0)), .val (.int (own_m v1 v2 v3 e1)), .val (.int (own_m v1 v2 v3 e2)), .val (.ref c_), .unset, .unset, .unset, .unset, .unset] [(.int (1 : Int32)), (.ref b62), (.ref b62), (.ref b4), (.ref b58), (.ref b58)]))
      refine own_via (fun _ k => XS.lconst X63.here hx rfl (hb hby at_374) k) ?_
      show own_Go p e below s _ _ _ (T63.setTop (mkF m 375 #[.val (.int p0), .val (.int p1), .val (.int p2), .val (.int p3), .val (.int p4), .val (.int p5), .val (.int v1), .val (.int v2), .val (.int v3), .val (.ref b4), .val (.ref b8), .val (.ref b27), .val (.int (Nat.toInt32 kn_)), .val (.int q_), .val (.int (own_m v1 v2 v3 e0)), .val (.int (own_m v1 v2 v3 e1)), .val (.int (own_m v1 v2 v3 e2)), .val (.ref c_), .unset, .unset, .unset, .unset, .unset] [(.long (0 : Int64)), (.int (1 : Int32)), (.ref b62), (.ref b62), (.ref b4), (.ref b58), (.ref b58)]))
      obtain ⟨cl64, Ar64, q64, S64, M64, H64, G64⟩ := (id V63)
      have hin64 : ¬ ((1 : Int32) < 0 ∨ cl64.slots.size ≤ ((1 : Int32)).toNatClampNeg) := inb_of S64 ⟨by decide, by decide⟩
      obtain ⟨T64, h64, X64, e64, W64, st64⟩ := stJ X63 hx hZ e63 Ar64 (j := (1 : Int32)) hin64 (g := (mkF m 375 #[.val (.int p0), .val (.int p1), .val (.int p2), .val (.int p3), .val (.int p4), .val (.int p5), .val (.int v1), .val (.int v2), .val (.int v3), .val (.ref b4), .val (.ref b8), .val (.ref b27), .val (.int (Nat.toInt32 kn_)), .val (.int q_), .val (.int (own_m v1 v2 v3 e0)), .val (.int (own_m v1 v2 v3 e1)), .val (.int (own_m v1 v2 v3 e2)), .val (.ref c_), .unset, .unset, .unset, .unset, .unset] [(.long (0 : Int64)), (.int (1 : Int32)), (.ref b62), (.ref b62), (.ref b4), (.ref b58), (.ref b58)])) rfl rfl (hb hby at_375)
      have V64 : Arv Z h64 b62 k62 .long (3 : Int32) [(.long (0 : Int64)), (.long (0 : Int64)), (.long (0 : Int64))] (.long (0 : Int64)) := Arv.set Ar64 q64 S64 M64 H64 G64 rfl W64 1 rfl (Nat.le_of_ble_eq_true rfl)
      have N64 := Fr.snoc X64 N63 g_b62
      have Z64 : n0 ≤ h64.size := Nat.le_trans Z63 (Keep.of_wr W64).1
      refine own_via st64 ?_
      show own_Go p e below s _ _ _ (T64.setTop (mkF m 376 #[.val (.int p0), .val (.int p1), .val (.int p2), .val (.int p3), .val (.int p4), .val (.int p5), .val (.int v1), .val (.int v2), .val (.int v3), .val (.ref b4), .val (.ref b8), .val (.ref b27), .val (.int (Nat.toInt32 kn_)), .val (.int q_), .val (.int (own_m v1 v2 v3 e0)), .val (.int (own_m v1 v2 v3 e1)), .val (.int (own_m v1 v2 v3 e2)), .val (.ref c_), .unset, .unset, .unset, .unset, .unset] [(.ref b62), (.ref b4), (.ref b58), (.ref b58)]))
      refine own_via (fun _ k => XS.dup X64.here hx rfl (hb hby at_376) rfl rfl k) ?_
      show own_Go p e below s _ _ _ (T64.setTop (mkF m 377 #[.val (.int p0), .val (.int p1), .val (.int p2), .val (.int p3), .val (.int p4), .val (.int p5), .val (.int v1), .val (.int v2), .val (.int v3), .val (.ref b4), .val (.ref b8), .val (.ref b27), .val (.int (Nat.toInt32 kn_)), .val (.int q_), .val (.int (own_m v1 v2 v3 e0)), .val (.int (own_m v1 v2 v3 e1)), .val (.int (own_m v1 v2 v3 e2)), .val (.ref c_), .unset, .unset, .unset, .unset, .unset] [(.ref b62), (.ref b62), (.ref b4), (.ref b58), (.ref b58)]))
      refine own_via (fun _ k => XS.iconst X64.here hx rfl (hb hby at_377) k) ?_
      show own_Go p e below s _ _ _ (T64.setTop (mkF m 378 #[.val (.int p0), .val (.int p1), .val (.int p2), .val (.int p3), .val (.int p4), .val (.int p5), .val (.int v1), .val (.int v2), .val (.int v3), .val (.ref b4), .val (.ref b8), .val (.ref b27), .val (.int (Nat.toInt32 kn_)), .val (.int q_), .val (.int (own_m v1 v2 v3 e0)), .val (.int (own_m v1 v2 v3 e1)), .val (.int (own_m v1 v2 v3 e2)), .val (.ref c_), .unset, .unset, .unset, .unset, .unset] [(.int (2 : Int32)), (.ref b62), (.ref b62), (.ref b4), (.ref b58), (.ref b58)]))
      refine own_via (fun _ k => XS.lconst X64.here hx rfl (hb hby at_378) k) ?_
      show own_Go p e below s _ _ _ (T64.setTop (mkF m 379 #[.val (.int p0), .val (.int p1), .val (.int p2), .val (.int p3), .val (.int p4), .val (.int p5), .val (.int v1), .val (.int v2), .val (.int v3), .val (.ref b4), .val (.ref b8), .val (.ref b27), .val (.int (Nat.toInt32 kn_)), .val (.int q_), .val (.int (own_m v1 v2 v3 e0)), .val (.int (own_m v1 v2 v3 e1)), .val (.int (own_m v1 v2 v3 e2)), .val (.ref c_), .unset, .unset, .unset, .unset, .unset] [(.long (0 : Int64)), (.int (2 : Int32)), (.ref b62), (.ref b62), (.ref b4), (.ref b58), (.ref b58)]))
      obtain ⟨cl65, Ar65, q65, S65, M65, H65, G65⟩ := (id V64)
      have hin65 : ¬ ((2 : Int32) < 0 ∨ cl65.slots.size ≤ ((2 : Int32)).toNatClampNeg) := inb_of S65 ⟨by decide, by decide⟩
      obtain ⟨T65, h65, X65, e65, W65, st65⟩ := stJ X64 hx hZ e64 Ar65 (j := (2 : Int32)) hin65 (g := (mkF m 379 #[.val (.int p0), .val (.int p1), .val (.int p2), .val (.int p3), .val (.int p4), .val (.int p5), .val (.int v1), .val (.int v2), .val (.int v3), .val (.ref b4), .val (.ref b8), .val (.ref b27), .val (.int (Nat.toInt32 kn_)), .val (.int q_), .val (.int (own_m v1 v2 v3 e0)), .val (.int (own_m v1 v2 v3 e1)), .val (.int (own_m v1 v2 v3 e2)), .val (.ref c_), .unset, .unset, .unset, .unset, .unset] [(.long (0 : Int64)), (.int (2 : Int32)), (.ref b62), (.ref b62), (.ref b4), (.ref b58), (.ref b58)])) rfl rfl (hb hby at_379)
      have V65 : Arv Z h65 b62 k62 .long (3 : Int32) [(.long (0 : Int64)), (.long (0 : Int64)), (.long (0 : Int64))] (.long (0 : Int64)) := Arv.set Ar65 q65 S65 M65 H65 G65 rfl W65 2 rfl (Nat.le_of_ble_eq_true rfl)
      have N65 := Fr.snoc X65 N64 g_b62
      have Z65 : n0 ≤ h65.size := Nat.le_trans Z64 (Keep.of_wr W65).1
      refine own_via st65 ?_
      show own_Go p e below s _ _ _ (T65.setTop (mkF m 380 #[.val (.int p0), .val (.int p1), .val (.int p2), .val (.int p3), .val (.int p4), .val (.int p5), .val (.int v1), .val (.int v2), .val (.int v3), .val (.ref b4), .val (.ref b8), .val (.ref b27), .val (.int (Nat.toInt32 kn_)), .val (.int q_), .val (.int (own_m v1 v2 v3 e0)), .val (.int (own_m v1 v2 v3 e1)), .val (.int (own_m v1 v2 v3 e2)), .val (.ref c_), .unset, .unset, .unset, .unset, .unset] [(.ref b62), (.ref b4), (.ref b58), (.ref b58)]))
      refine own_via (fun _ k => XS.aload X65.here hx rfl (hb hby at_380) rfl rfl k) ?_
      show own_Go p e below s _ _ _ (T65.setTop (mkF m 382 #[.val (.int p0), .val (.int p1), .val (.int p2), .val (.int p3), .val (.int p4), .val (.int p5), .val (.int v1), .val (.int v2), .val (.int v3), .val (.ref b4), .val (.ref b8), .val (.ref b27), .val (.int (Nat.toInt32 kn_)), .val (.int q_), .val (.int (own_m v1 v2 v3 e0)), .val (.int (own_m v1 v2 v3 e1)), .val (.int (own_m v1 v2 v3 e2)), .val (.ref c_), .unset, .unset, .unset, .unset, .unset] [(.ref c_), (.ref b62), (.ref b4), (.ref b58), (.ref b58)]))
      have F67 := ((((A58.ext E62).wr W63).wr W64).wr W65)
      have F68 := ((((F59.ext E62).other W63 (Or.inl ne_b58_b62)).other W64 (Or.inl ne_b58_b62)).other W65 (Or.inl ne_b58_b62))
      have F69 := ((((F60.ext E62).other W63 (Or.inl ne_b58_b62)).other W64 (Or.inl ne_b58_b62)).other W65 (Or.inl ne_b58_b62))
      have F70 := ((((F61.ext E62).other W63 (Or.inl ne_b58_b62)).other W64 (Or.inl ne_b58_b62)).other W65 (Or.inl ne_b58_b62))
      have F71 := (((((F53.ext E58).ext E62).other W63 ne_b4_b62).other W64 ne_b4_b62).other W65 ne_b4_b62)
      have F72 := (((((F54.ext E58).ext E62).wr W63).wr W64).wr W65)
      have F73 := (((AE62.wr W63).wr W64).wr W65)
      have F74 := (((((F56.ext E58).ext E62).other W63 ne_c__b62).other W64 ne_c__b62).other W65 ne_c__b62)
      have F75 := (((((F57.ext E58).ext E62).wr W63).wr W64).wr W65)
      obtain ⟨_, _, ⟨T66, L66, k66, n66⟩, -, X66, ⟨Lc66, hQ66, l66, y66, z66⟩, st66⟩ := X65.specialBack hx (y := (⟨"com/example/greenbelt/greenbelt/model/Token", "<init>", "([I[J[I)V"⟩ : MethodName)) rfl hown (mvT hZ (hw _ (List.mem_of_getElem? (i := 6) rfl))) (mvT hZ (hw _ (List.mem_of_getElem? (i := 7) rfl))) (mvT hZ (hw _ (List.mem_of_getElem? (i := 8) rfl))) (by decide) (backOf (W := 1) (rm1 l Z a0 hw [] b58 b4 b62 c_ k4 k62 kc_ v1 v2 v3 kn_ es_ h65 n0 Z65 F67 F68 F69 F70 F71 F72 V65 F73 F74 F75 g_b58 hA0 hA1 hA2 hk1 hk2 hk3 hk4) hZ (hw _ (List.mem_of_getElem? (i := 8) rfl)) (hw _ (List.mem_of_getElem? (i := 4) rfl)) (by decide) (by decide)) (g := (mkF m 382 #[.val (.int p0), .val (.int p1), .val (.int p2), .val (.int p3), .val (.int p4), .val (.int p5), .val (.int v1), .val (.int v2), .val (.int v3), .val (.ref b4), .val (.ref b8), .val (.ref b27), .val (.int (Nat.toInt32 kn_)), .val (.int q_), .val (.int (own_m v1 v2 v3 e0)), .val (.int (own_m v1 v2 v3 e1)), .val (.int (own_m v1 v2 v3 e2)), .val (.ref c_), .unset, .unset, .unset, .unset, .unset] [(.ref c_), (.ref b62), (.ref b4), (.ref b58), (.ref b58)])) rfl (by rw [hml]; rfl) (Steps.refl _) (a := b58) (argsL := [(.ref b4), (.ref b62), (.ref c_)]) (rest := [(.ref b58)]) (lenOf pd_3 rfl) rfl (by show 2 * 0 + _ ≤ _; exact Nat.le_of_eq rfl) (hb hby at_382) (fun _ _ => ⟨rfl, e65, (by decide : 6 + 4 ≤ _), (by decide : 48 + 12 ≤ _)⟩)
      dsimp only [Pt.U, Pt.locs, Pt.cells, Pt.slots] at X66 l66 y66 z66 st66 hQ66
      subst l66 y66 z66
      obtain ⟨h66, e66⟩ : ∃ h, T66.heap = h := ⟨_, rfl⟩
      rw [e66] at hQ66
      obtain ⟨cq_66, rfl, N66q, Kq66, F76, F77, F78, F79⟩ := hQ66
      have ne_b27_cq_66 : b27 ≠ cq_66 := Nat.ne_of_lt (Nat.lt_of_lt_of_le (((((F55.ext E58).ext E62).other W63 ne_b27_b62).other W64 ne_b27_b62).other W65 ne_b27_b62).lt F76)
      have ne_b4_cq_66 : b4 ≠ cq_66 := Nat.ne_of_lt (Nat.lt_of_lt_of_le F72.lt F76)
      have ne_b58_cq_66 : b58 ≠ cq_66 := Nat.ne_of_lt (Nat.lt_of_lt_of_le F67.lt F76)
      have ne_b62_cq_66 : b62 ≠ cq_66 := Nat.ne_of_lt (Nat.lt_of_lt_of_le F73.lt F76)
      have ne_c__cq_66 : c_ ≠ cq_66 := Nat.ne_of_lt (Nat.lt_of_lt_of_le F75.lt F76)
      have g_cq_66 : n0 ≤ cq_66 := Nat.le_trans Z65 F76
      have Z66 : n0 ≤ h66.size := Nat.le_trans Z65 Kq66.1
      have N66 := Fr.app N65 N66q
      refine own_viaT st66 ?_
      show own_Go p e below s _ _ _ (T66.setTop (mkF m 385 #[.val (.int p0), .val (.int p1), .val (.int p2), .val (.int p3), .val (.int p4), .val (.int p5), .val (.int v1), .val (.int v2), .val (.int v3), .val (.ref b4), .val (.ref b8), .val (.ref b27), .val (.int (Nat.toInt32 kn_)), .val (.int q_), .val (.int (own_m v1 v2 v3 e0)), .val (.int (own_m v1 v2 v3 e1)), .val (.int (own_m v1 v2 v3 e2)), .val (.ref c_), .unset, .unset, .unset, .unset, .unset] [(.ref b58)]))
      refine own_via (fun _ k => XS.astore X66.here hx rfl (hb hby at_385) rfl rfl (l' := #[.val (.int p0), .val (.int p1), .val (.int p2), .val (.int p3), .val (.int p4), .val (.int p5), .val (.int v1), .val (.int v2), .val (.int v3), .val (.ref b4), .val (.ref b8), .val (.ref b27), .val (.int (Nat.toInt32 kn_)), .val (.int q_), .val (.int (own_m v1 v2 v3 e0)), .val (.int (own_m v1 v2 v3 e1)), .val (.int (own_m v1 v2 v3 e2)), .val (.ref c_), .val (.ref b58), .unset, .unset, .unset, .unset]) rfl k) ?_
      show own_Go p e below s _ _ _ (T66.setTop (mkF m 387 #[.val (.int p0), .val (.int p1), .val (.int p2), .val (.int p3), .val (.int p4), .val (.int p5), .val (.int v1), .val (.int v2), .val (.int v3), .val (.ref b4), .val (.ref b8), .val (.ref b27), .val (.int (Nat.toInt32 kn_)), .val (.int q_), .val (.int (own_m v1 v2 v3 e0)), .val (.int (own_m v1 v2 v3 e1)), .val (.int (own_m v1 v2 v3 e2)), .val (.ref c_), .val (.ref b58), .unset, .unset, .unset, .unset] []))
      refine own_via (fun _ k => XS.iload X66.here hx rfl (hb hby at_387) rfl k) ?_
      show own_Go p e below s _ _ _ (T66.setTop (mkF m 389 #[.val (.int p0), .val (.int p1), .val (.int p2), .val (.int p3), .val (.int p4), .val (.int p5), .val (.int v1), .val (.int v2), .val (.int v3), .val (.ref b4), .val (.ref b8), .val (.ref b27), .val (.int (Nat.toInt32 kn_)), .val (.int q_), .val (.int (own_m v1 v2 v3 e0)), .val (.int (own_m v1 v2 v3 e1)), .val (.int (own_m v1 v2 v3 e2)), .val (.ref c_), .val (.ref b58), .unset, .unset, .unset, .unset] [(.int p4)]))
      refine own_via (fun _ k => XS.iconst X66.here hx rfl (hb hby at_389) k) ?_
      show own_Go p e below s _ _ _ (T66.setTop (mkF m 390 #[.val (.int p0), .val (.int p1), .val (.int p2), .val (.int p3), .val (.int p4), .val (.int p5), .val (.int v1), .val (.int v2), .val (.int v3), .val (.ref b4), .val (.ref b8), .val (.ref b27), .val (.int (Nat.toInt32 kn_)), .val (.int q_), .val (.int (own_m v1 v2 v3 e0)), .val (.int (own_m v1 v2 v3 e1)), .val (.int (own_m v1 v2 v3 e2)), .val (.ref c_), .val (.ref b58), .unset, .unset, .unset, .unset] [(.int (3 : Int32)), (.int p4)]))
      refine own_via (fun _ k => XS.iand X66.here hx rfl (hb hby at_390) rfl k) ?_
      show own_Go p e below s _ _ _ (T66.setTop (mkF m 391 #[.val (.int p0), .val (.int p1), .val (.int p2), .val (.int p3), .val (.int p4), .val (.int p5), .val (.int v1), .val (.int v2), .val (.int v3), .val (.ref b4), .val (.ref b8), .val (.ref b27), .val (.int (Nat.toInt32 kn_)), .val (.int q_), .val (.int (own_m v1 v2 v3 e0)), .val (.int (own_m v1 v2 v3 e1)), .val (.int (own_m v1 v2 v3 e2)), .val (.ref c_), .val (.ref b58), .unset, .unset, .unset, .unset] [(.int (p4 &&& (3 : Int32)))]))
      refine own_via (fun _ k => XS.istore X66.here hx rfl (hb hby at_391) rfl (l' := #[.val (.int p0), .val (.int p1), .val (.int p2), .val (.int p3), .val (.int p4), .val (.int p5), .val (.int v1), .val (.int v2), .val (.int v3), .val (.ref b4), .val (.ref b8), .val (.ref b27), .val (.int (Nat.toInt32 kn_)), .val (.int q_), .val (.int (own_m v1 v2 v3 e0)), .val (.int (own_m v1 v2 v3 e1)), .val (.int (own_m v1 v2 v3 e2)), .val (.ref c_), .val (.ref b58), .val (.int (p4 &&& (3 : Int32))), .unset, .unset, .unset]) rfl k) ?_
      show own_Go p e below s _ _ _ (T66.setTop (mkF m 393 #[.val (.int p0), .val (.int p1), .val (.int p2), .val (.int p3), .val (.int p4), .val (.int p5), .val (.int v1), .val (.int v2), .val (.int v3), .val (.ref b4), .val (.ref b8), .val (.ref b27), .val (.int (Nat.toInt32 kn_)), .val (.int q_), .val (.int (own_m v1 v2 v3 e0)), .val (.int (own_m v1 v2 v3 e1)), .val (.int (own_m v1 v2 v3 e2)), .val (.ref c_), .val (.ref b58), .val (.int (p4 &&& (3 : Int32))), .unset, .unset, .unset] []))
      generalize hv80 : (p4 &&& (3 : Int32)) = v80
      show own_Go p e below s _ _ _ (T66.setTop (mkF m 393 #[.val (.int p0), .val (.int p1), .val (.int p2), .val (.int p3), .val (.int p4), .val (.int p5), .val (.int v1), .val (.int v2), .val (.int v3), .val (.ref b4), .val (.ref b8), .val (.ref b27), .val (.int (Nat.toInt32 kn_)), .val (.int q_), .val (.int (own_m v1 v2 v3 e0)), .val (.int (own_m v1 v2 v3 e1)), .val (.int (own_m v1 v2 v3 e2)), .val (.ref c_), .val (.ref b58), .val (.int v80), .unset, .unset, .unset] []))
      have jx : ∀ (y_ : Int32) (x_ : Int32) (T81 : State) (lo81 : List Loc) (h81 : Heap), Stand p l e room_1 s m #[(.int p0), (.int p1), (.int p2), (.int p3), (.int p4), (.int p5)] below meth c T81 lo81 10 60 → T81.heap = h81 → Fr n0 lo81 → n0 ≤ h81.size → Exa Z h81 b58 "com/example/greenbelt/greenbelt/model/Token" → Fld Z h81 b58 "com/example/greenbelt/greenbelt/model/Token" "queue" "[I" (.ref cq_66) → Arv Z h81 cq_66 kc_ .int (Nat.toInt32 kn_) ((es_.map (own_m v1 v2 v3)).map Value.int) (.int (0 : Int32)) → Arv Z h81 b27 k27 .int (18 : Int32) own_LB (.int (0 : Int32)) → own_Go p e below s (Q0 Z p0 p1 p2 p3 p4 p5 h0 n0) room_1.cells room_1.slots (T81.setTop (mkF m 411 #[.val (.int p0), .val (.int p1), .val (.int p2), .val (.int p3), .val (.int p4), .val (.int p5), .val (.int v1), .val (.int v2), .val (.int v3), .val (.ref b4), .val (.ref b8), .val (.ref b27), .val (.int (Nat.toInt32 kn_)), .val (.int q_), .val (.int (own_m v1 v2 v3 e0)), .val (.int (own_m v1 v2 v3 e1)), .val (.int (own_m v1 v2 v3 e2)), .val (.ref c_), .val (.ref b58), .val (.int y_), .val (.int x_), .unset, .unset] [])) := by
        intro y_ x_ T81 lo81 h81 X81 e81 N81 Z81 F82 F83 F84 F85
        show own_Go p e below s _ _ _ (T81.setTop (mkF m 411 #[.val (.int p0), .val (.int p1), .val (.int p2), .val (.int p3), .val (.int p4), .val (.int p5), .val (.int v1), .val (.int v2), .val (.int v3), .val (.ref b4), .val (.ref b8), .val (.ref b27), .val (.int (Nat.toInt32 kn_)), .val (.int q_), .val (.int (own_m v1 v2 v3 e0)), .val (.int (own_m v1 v2 v3 e1)), .val (.int (own_m v1 v2 v3 e2)), .val (.ref c_), .val (.ref b58), .val (.int y_), .val (.int x_), .unset, .unset] []))
        refine own_via (fun _ k => XS.iload X81.here hx rfl (hb hby at_411) rfl k) ?_
        show own_Go p e below s _ _ _ (T81.setTop (mkF m 413 #[.val (.int p0), .val (.int p1), .val (.int p2), .val (.int p3), .val (.int p4), .val (.int p5), .val (.int v1), .val (.int v2), .val (.int v3), .val (.ref b4), .val (.ref b8), .val (.ref b27), .val (.int (Nat.toInt32 kn_)), .val (.int q_), .val (.int (own_m v1 v2 v3 e0)), .val (.int (own_m v1 v2 v3 e1)), .val (.int (own_m v1 v2 v3 e2)), .val (.ref c_), .val (.ref b58), .val (.int y_), .val (.int x_), .unset, .unset] [(.int x_)]))
        refine own_via (fun _ k => XS.iload X81.here hx rfl (hb hby at_413) rfl k) ?_
        show own_Go p e below s _ _ _ (T81.setTop (mkF m 415 #[.val (.int p0), .val (.int p1), .val (.int p2), .val (.int p3), .val (.int p4), .val (.int p5), .val (.int v1), .val (.int v2), .val (.int v3), .val (.ref b4), .val (.ref b8), .val (.ref b27), .val (.int (Nat.toInt32 kn_)), .val (.int q_), .val (.int (own_m v1 v2 v3 e0)), .val (.int (own_m v1 v2 v3 e1)), .val (.int (own_m v1 v2 v3 e2)), .val (.ref c_), .val (.ref b58), .val (.int y_), .val (.int x_), .unset, .unset] [(.int v1), (.int x_)]))
        by_cases hc86 : x_ = v1
        · refine own_via (fun _ k => XS.icmpNo X81.here hx rfl (hb hby at_415) rfl (Jvm.Free.XT.ii_ne_f hc86) k) ?_
          show own_Go p e below s _ _ _ (T81.setTop (mkF m 418 #[.val (.int p0), .val (.int p1), .val (.int p2), .val (.int p3), .val (.int p4), .val (.int p5), .val (.int v1), .val (.int v2), .val (.int v3), .val (.ref b4), .val (.ref b8), .val (.ref b27), .val (.int (Nat.toInt32 kn_)), .val (.int q_), .val (.int (own_m v1 v2 v3 e0)), .val (.int (own_m v1 v2 v3 e1)), .val (.int (own_m v1 v2 v3 e2)), .val (.ref c_), .val (.ref b58), .val (.int y_), .val (.int x_), .unset, .unset] []))
          refine own_via (fun _ k => XS.iconst X81.here hx rfl (hb hby at_418) k) ?_
          show own_Go p e below s _ _ _ (T81.setTop (mkF m 419 #[.val (.int p0), .val (.int p1), .val (.int p2), .val (.int p3), .val (.int p4), .val (.int p5), .val (.int v1), .val (.int v2), .val (.int v3), .val (.ref b4), .val (.ref b8), .val (.ref b27), .val (.int (Nat.toInt32 kn_)), .val (.int q_), .val (.int (own_m v1 v2 v3 e0)), .val (.int (own_m v1 v2 v3 e1)), .val (.int (own_m v1 v2 v3 e2)), .val (.ref c_), .val (.ref b58), .val (.int y_), .val (.int x_), .unset, .unset] [(.int (0 : Int32))]))
          refine own_via (fun _ k => XS.goto X81.here hx rfl (pc0 := 419) (pc' := 445) rfl (hb hby at_419) (by decide) (by decide) k) ?_
          show own_Go p e below s _ _ _ (T81.setTop (mkF m 445 #[.val (.int p0), .val (.int p1), .val (.int p2), .val (.int p3), .val (.int p4), .val (.int p5), .val (.int v1), .val (.int v2), .val (.int v3), .val (.ref b4), .val (.ref b8), .val (.ref b27), .val (.int (Nat.toInt32 kn_)), .val (.int q_), .val (.int (own_m v1 v2 v3 e0)), .val (.int (own_m v1 v2 v3 e1)), .val (.int (own_m v1 v2 v3 e2)), .val (.ref c_), .val (.ref b58), .val (.int y_), .val (.int x_), .unset, .unset] [(.int (0 : Int32))]))
          refine own_via (fun _ k => XS.istore X81.here hx rfl (hb hby at_445) rfl (l' := #[.val (.int p0), .val (.int p1), .val (.int p2), .val (.int p3), .val (.int p4), .val (.int p5), .val (.int v1), .val (.int v2), .val (.int v3), .val (.ref b4), .val (.ref b8), .val (.ref b27), .val (.int (Nat.toInt32 kn_)), .val (.int q_), .val (.int (own_m v1 v2 v3 e0)), .val (.int (own_m v1 v2 v3 e1)), .val (.int (own_m v1 v2 v3 e2)), .val (.ref c_), .val (.ref b58), .val (.int y_), .val (.int x_), .val (.int (0 : Int32)), .unset]) rfl k) ?_
          show own_Go p e below s _ _ _ (T81.setTop (mkF m 447 #[.val (.int p0), .val (.int p1), .val (.int p2), .val (.int p3), .val (.int p4), .val (.int p5), .val (.int v1), .val (.int v2), .val (.int v3), .val (.ref b4), .val (.ref b8), .val (.ref b27), .val (.int (Nat.toInt32 kn_)), .val (.int q_), .val (.int (own_m v1 v2 v3 e0)), .val (.int (own_m v1 v2 v3 e1)), .val (.int (own_m v1 v2 v3 e2)), .val (.ref c_), .val (.ref b58), .val (.int y_), .val (.int x_), .val (.int (0 : Int32)), .unset] []))
          refine own_via (fun _ k => XS.iload X81.here hx rfl (hb hby at_447) rfl k) ?_
          show own_Go p e below s _ _ _ (T81.setTop (mkF m 449 #[.val (.int p0), .val (.int p1), .val (.int p2), .val (.int p3), .val (.int p4), .val (.int p5), .val (.int v1), .val (.int v2), .val (.int v3), .val (.ref b4), .val (.ref b8), .val (.ref b27), .val (.int (Nat.toInt32 kn_)), .val (.int q_), .val (.int (own_m v1 v2 v3 e0)), .val (.int (own_m v1 v2 v3 e1)), .val (.int (own_m v1 v2 v3 e2)), .val (.ref c_), .val (.ref b58), .val (.int y_), .val (.int x_), .val (.int (0 : Int32)), .unset] [(.int (0 : Int32))]))
          refine own_via (fun _ k => XS.ifNo X81.here hx rfl (hb hby at_449) rfl (Jvm.Free.XT.i0_lt_f (by decide)) k) ?_
          show own_Go p e below s _ _ _ (T81.setTop (mkF m 452 #[.val (.int p0), .val (.int p1), .val (.int p2), .val (.int p3), .val (.int p4), .val (.int p5), .val (.int v1), .val (.int v2), .val (.int v3), .val (.ref b4), .val (.ref b8), .val (.ref b27), .val (.int (Nat.toInt32 kn_)), .val (.int q_), .val (.int (own_m v1 v2 v3 e0)), .val (.int (own_m v1 v2 v3 e1)), .val (.int (own_m v1 v2 v3 e2)), .val (.ref c_), .val (.ref b58), .val (.int y_), .val (.int x_), .val (.int (0 : Int32)), .unset] []))
          refine own_via (fun _ k => XS.aload X81.here hx rfl (hb hby at_452) rfl rfl k) ?_
          show own_Go p e below s _ _ _ (T81.setTop (mkF m 454 #[.val (.int p0), .val (.int p1), .val (.int p2), .val (.int p3), .val (.int p4), .val (.int p5), .val (.int v1), .val (.int v2), .val (.int v3), .val (.ref b4), .val (.ref b8), .val (.ref b27), .val (.int (Nat.toInt32 kn_)), .val (.int q_), .val (.int (own_m v1 v2 v3 e0)), .val (.int (own_m v1 v2 v3 e1)), .val (.int (own_m v1 v2 v3 e2)), .val (.ref c_), .val (.ref b58), .val (.int y_), .val (.int x_), .val (.int (0 : Int32)), .unset] [(.ref b27)]))
          refine own_via (fun _ k => XS.iconst X81.here hx rfl (hb hby at_454) k) ?_
          show own_Go p e below s _ _ _ (T81.setTop (mkF m 455 #[.val (.int p0), .val (.int p1), .val (.int p2), .val (.int p3), .val (.int p4), .val (.int p5), .val (.int v1), .val (.int v2), .val (.int v3), .val (.ref b4), .val (.ref b8), .val (.ref b27), .val (.int (Nat.toInt32 kn_)), .val (.int q_), .val (.int (own_m v1 v2 v3 e0)), .val (.int (own_m v1 v2 v3 e1)), .val (.int (own_m v1 v2 v3 e2)), .val (.ref c_), .val (.ref b58), .val (.int y_), .val (.int x_), .val (.int (0 : Int32)), .unset] [(.int (3 : Int32)), (.ref b27)]))
          refine own_via (fun _ k => XS.iload X81.here hx rfl (hb hby at_455) rfl k) ?_
          show own_Go p e below s _ _ _ (T81.setTop (mkF m 457 #[.val (.int p0), .val (.int p1), .val (.int p2), .val (.int p3), .val (.int p4), .val (.int p5), .val (.int v1), .val (.int v2), .val (.int v3), .val (.ref b4), .val (.ref b8), .val (.ref b27), .val (.int (Nat.toInt32 kn_)), .val (.int q_), .val (.int (own_m v1 v2 v3 e0)), .val (.int (own_m v1 v2 v3 e1)), .val (.int (own_m v1 v2 v3 e2)), .val (.ref c_), .val (.ref b58), .val (.int y_), .val (.int x_), .val (.int (0 : Int32)), .unset] [(.int q_), (.int (3 : Int32)), (.ref b27)]))
          refine own_via (fun _ k => XS.imul X81.here hx rfl (hb hby at_457) rfl k) ?_
          show own_Go p e below s _ _ _ (T81.setTop (mkF m 458 #[.val (.int p0), .val (.int p1), .val (.int p2), .val (.int p3), .val (.int p4), .val (.int p5), .val (.int v1), .val (.int v2), .val (.int v3), .val (.ref b4), .val (.ref b8), .val (.ref b27), .val (.int (Nat.toInt32 kn_)), .val (.int q_), .val (.int (own_m v1 v2 v3 e0)), .val (.int (own_m v1 v2 v3 e1)), .val (.int (own_m v1 v2 v3 e2)), .val (.ref c_), .val (.ref b58), .val (.int y_), .val (.int x_), .val (.int (0 : Int32)), .unset] [(.int ((3 : Int32) * q_)), (.ref b27)]))
          refine own_via (fun _ k => XS.iload X81.here hx rfl (hb hby at_458) rfl k) ?_
          show own_Go p e below s _ _ _ (T81.setTop (mkF m 460 #[.val (.int p0), .val (.int p1), .val (.int p2), .val (.int p3), .val (.int p4), .val (.int p5), .val (.int v1), .val (.int v2), .val (.int v3), .val (.ref b4), .val (.ref b8), .val (.ref b27), .val (.int (Nat.toInt32 kn_)), .val (.int q_), .val (.int (own_m v1 v2 v3 e0)), .val (.int (own_m v1 v2 v3 e1)), .val (.int (own_m v1 v2 v3 e2)), .val (.ref c_), .val (.ref b58), .val (.int y_), .val (.int x_), .val (.int (0 : Int32)), .unset] [(.int (0 : Int32)), (.int ((3 : Int32) * q_)), (.ref b27)]))
          refine own_via (fun _ k => XS.iadd X81.here hx rfl (hb hby at_460) rfl k) ?_
          show own_Go p e below s _ _ _ (T81.setTop (mkF m 461 #[.val (.int p0), .val (.int p1), .val (.int p2), .val (.int p3), .val (.int p4), .val (.int p5), .val (.int v1), .val (.int v2), .val (.int v3), .val (.ref b4), .val (.ref b8), .val (.ref b27), .val (.int (Nat.toInt32 kn_)), .val (.int q_), .val (.int (own_m v1 v2 v3 e0)), .val (.int (own_m v1 v2 v3 e1)), .val (.int (own_m v1 v2 v3 e2)), .val (.ref c_), .val (.ref b58), .val (.int y_), .val (.int x_), .val (.int (0 : Int32)), .unset] [(.int (((3 : Int32) * q_) + (0 : Int32))), (.ref b27)]))
          obtain ⟨cl87, Ar87, q87, S87, M87, H87, G87⟩ := (id F85)
          have hin87 : ¬ ((((3 : Int32) * q_) + (0 : Int32)) < 0 ∨ cl87.slots.size ≤ ((((3 : Int32) * q_) + (0 : Int32))).toNatClampNeg) := inb_of S87 hI0
          have hat87 : cl87.slots[((((3 : Int32) * q_) + (0 : Int32))).toNatClampNeg]? = some (.int t0) := Has.at H87 hin87 hV0
          refine own_via (fun _ k => X81.iaload hx (j := (((3 : Int32) * q_) + (0 : Int32))) (v := (.int t0)) (by rw [e81]; exact Ar87.1) (State.isArrayOf_alike hZ.alike Ar87.2.1) Ar87.2.2 hin87 hat87 (g := (mkF m 461 #[.val (.int p0), .val (.int p1), .val (.int p2), .val (.int p3), .val (.int p4), .val (.int p5), .val (.int v1), .val (.int v2), .val (.int v3), .val (.ref b4), .val (.ref b8), .val (.ref b27), .val (.int (Nat.toInt32 kn_)), .val (.int q_), .val (.int (own_m v1 v2 v3 e0)), .val (.int (own_m v1 v2 v3 e1)), .val (.int (own_m v1 v2 v3 e2)), .val (.ref c_), .val (.ref b58), .val (.int y_), .val (.int x_), .val (.int (0 : Int32)), .unset] [(.int (((3 : Int32) * q_) + (0 : Int32))), (.ref b27)])) rfl rfl (hb hby at_461) _ k) ?_
          show own_Go p e below s _ _ _ (T81.setTop (mkF m 462 #[.val (.int p0), .val (.int p1), .val (.int p2), .val (.int p3), .val (.int p4), .val (.int p5), .val (.int v1), .val (.int v2), .val (.int v3), .val (.ref b4), .val (.ref b8), .val (.ref b27), .val (.int (Nat.toInt32 kn_)), .val (.int q_), .val (.int (own_m v1 v2 v3 e0)), .val (.int (own_m v1 v2 v3 e1)), .val (.int (own_m v1 v2 v3 e2)), .val (.ref c_), .val (.ref b58), .val (.int y_), .val (.int x_), .val (.int (0 : Int32)), .unset] [(.int t0)]))
          refine own_via (fun _ k => XS.iload X81.here hx rfl (hb hby at_462) rfl k) ?_
          show own_Go p e below s _ _ _ (T81.setTop (mkF m 464 #[.val (.int p0), .val (.int p1), .val (.int p2), .val (.int p3), .val (.int p4), .val (.int p5), .val (.int v1), .val (.int v2), .val (.int v3), .val (.ref b4), .val (.ref b8), .val (.ref b27), .val (.int (Nat.toInt32 kn_)), .val (.int q_), .val (.int (own_m v1 v2 v3 e0)), .val (.int (own_m v1 v2 v3 e1)), .val (.int (own_m v1 v2 v3 e2)), .val (.ref c_), .val (.ref b58), .val (.int y_), .val (.int x_), .val (.int (0 : Int32)), .unset] [(.int (Nat.toInt32 kn_)), (.int t0)]))
          by_cases hc88 : t0 < (Nat.toInt32 kn_)
          · refine own_via (fun _ k => XS.icmpNo X81.here hx rfl (hb hby at_464) rfl (Jvm.Free.XT.ii_ge_f hc88) k) ?_
            show own_Go p e below s _ _ _ (T81.setTop (mkF m 467 #[.val (.int p0), .val (.int p1), .val (.int p2), .val (.int p3), .val (.int p4), .val (.int p5), .val (.int v1), .val (.int v2), .val (.int v3), .val (.ref b4), .val (.ref b8), .val (.ref b27), .val (.int (Nat.toInt32 kn_)), .val (.int q_), .val (.int (own_m v1 v2 v3 e0)), .val (.int (own_m v1 v2 v3 e1)), .val (.int (own_m v1 v2 v3 e2)), .val (.ref c_), .val (.ref b58), .val (.int y_), .val (.int x_), .val (.int (0 : Int32)), .unset] []))
            refine own_via (fun _ k => XS.iconst X81.here hx rfl (hb hby at_467) k) ?_
            show own_Go p e below s _ _ _ (T81.setTop (mkF m 468 #[.val (.int p0), .val (.int p1), .val (.int p2), .val (.int p3), .val (.int p4), .val (.int p5), .val (.int v1), .val (.int v2), .val (.int v3), .val (.ref b4), .val (.ref b8), .val (.ref b27), .val (.int (Nat.toInt32 kn_)), .val (.int q_), .val (.int (own_m v1 v2 v3 e0)), .val (.int (own_m v1 v2 v3 e1)), .val (.int (own_m v1 v2 v3 e2)), .val (.ref c_), .val (.ref b58), .val (.int y_), .val (.int x_), .val (.int (0 : Int32)), .unset] [(.int (1 : Int32))]))
            refine own_via (fun _ k => XS.goto X81.here hx rfl (pc0 := 468) (pc' := 472) rfl (hb hby at_468) (by decide) (by decide) k) ?_
            show own_Go p e below s _ _ _ (T81.setTop (mkF m 472 #[.val (.int p0), .val (.int p1), .val (.int p2), .val (.int p3), .val (.int p4), .val (.int p5), .val (.int v1), .val (.int v2), .val (.int v3), .val (.ref b4), .val (.ref b8), .val (.ref b27), .val (.int (Nat.toInt32 kn_)), .val (.int q_), .val (.int (own_m v1 v2 v3 e0)), .val (.int (own_m v1 v2 v3 e1)), .val (.int (own_m v1 v2 v3 e2)), .val (.ref c_), .val (.ref b58), .val (.int y_), .val (.int x_), .val (.int (0 : Int32)), .unset] [(.int (1 : Int32))]))
            refine own_via (fun _ k => XS.istore X81.here hx rfl (hb hby at_472) rfl (l' := #[.val (.int p0), .val (.int p1), .val (.int p2), .val (.int p3), .val (.int p4), .val (.int p5), .val (.int v1), .val (.int v2), .val (.int v3), .val (.ref b4), .val (.ref b8), .val (.ref b27), .val (.int (Nat.toInt32 kn_)), .val (.int q_), .val (.int (own_m v1 v2 v3 e0)), .val (.int (own_m v1 v2 v3 e1)), .val (.int (own_m v1 v2 v3 e2)), .val (.ref c_), .val (.ref b58), .val (.int y_), .val (.int x_), .val (.int (0 : Int32)), .val (.int (1 : Int32))]) rfl k) ?_
            show own_Go p e below s _ _ _ (T81.setTop (mkF m 474 #[.val (.int p0), .val (.int p1), .val (.int p2), .val (.int p3), .val (.int p4), .val (.int p5), .val (.int v1), .val (.int v2), .val (.int v3), .val (.ref b4), .val (.ref b8), .val (.ref b27), .val (.int (Nat.toInt32 kn_)), .val (.int q_), .val (.int (own_m v1 v2 v3 e0)), .val (.int (own_m v1 v2 v3 e1)), .val (.int (own_m v1 v2 v3 e2)), .val (.ref c_), .val (.ref b58), .val (.int y_), .val (.int x_), .val (.int (0 : Int32)), .val (.int (1 : Int32))] []))
            refine own_via (fun _ k => XS.aload X81.here hx rfl (hb hby at_474) rfl rfl k) ?_
            show own_Go p e below s _ _ _ (T81.setTop (mkF m 476 #[.val (.int p0), .val (.int p1), .val (.int p2), .val (.int p3), .val (.int p4), .val (.int p5), .val (.int v1), .val (.int v2), .val (.int v3), .val (.ref b4), .val (.ref b8), .val (.ref b27), .val (.int (Nat.toInt32 kn_)), .val (.int q_), .val (.int (own_m v1 v2 v3 e0)), .val (.int (own_m v1 v2 v3 e1)), .val (.int (own_m v1 v2 v3 e2)), .val (.ref c_), .val (.ref b58), .val (.int y_), .val (.int x_), .val (.int (0 : Int32)), .val (.int (1 : Int32))] [(.ref b58)]))
            refine own_via (fun _ k => XS.iload X81.here hx rfl (hb hby at_476) rfl k) ?_
            show own_Go p e below s _ _ _ (T81.setTop (mkF m 478 #[.val (.int p0), .val (.int p1), .val (.int p2), .val (.int p3), .val (.int p4), .val (.int p5), .val (.int v1), .val (.int v2), .val (.int v3), .val (.ref b4), .val (.ref b8), .val (.ref b27), .val (.int (Nat.toInt32 kn_)), .val (.int q_), .val (.int (own_m v1 v2 v3 e0)), .val (.int (own_m v1 v2 v3 e1)), .val (.int (own_m v1 v2 v3 e2)), .val (.ref c_), .val (.ref b58), .val (.int y_), .val (.int x_), .val (.int (0 : Int32)), .val (.int (1 : Int32))] [(.int x_), (.ref b58)]))
            obtain ⟨cq89, kq89, qa89, qb89, qc89⟩ := isOf hZ e81 F82
            obtain ⟨_, _, ⟨T89, L89, k89, n89⟩, -, X89, ⟨Lc89, hQ89, l89, y89, z89⟩, st89⟩ := X81.virtualBack hx (y := (⟨"com/example/greenbelt/greenbelt/model/Token", "queues", "(I)Z"⟩ : MethodName)) (z := (⟨"com/example/greenbelt/greenbelt/model/Token", "queues", "(I)Z"⟩ : MethodName)) hown (mvT hZ (hw _ (List.mem_of_getElem? (i := 46) rfl))) (mvT hZ (hw _ (List.mem_of_getElem? (i := 47) rfl))) (notFace_of_selects (args := #[]) (mvT hZ (hw _ (List.mem_of_getElem? (i := 49) rfl)))) (mvT hZ (hw _ (List.mem_of_getElem? (i := 49) rfl))) (mvT hZ (hw _ (List.mem_of_getElem? (i := 48) rfl))) (by decide) (backOf (W := 0) (rm6 l Z a0 hw [] b58 x_ cq_66 kc_ kn_ (es_.map (own_m v1 v2 v3)) h81 n0 Z81 F83 F84 hk2) hZ (hw _ (List.mem_of_getElem? (i := 50) rfl)) (hw _ (List.mem_of_getElem? (i := 4) rfl)) (by decide) (by decide)) qa89 qc89 (g := (mkF m 478 #[.val (.int p0), .val (.int p1), .val (.int p2), .val (.int p3), .val (.int p4), .val (.int p5), .val (.int v1), .val (.int v2), .val (.int v3), .val (.ref b4), .val (.ref b8), .val (.ref b27), .val (.int (Nat.toInt32 kn_)), .val (.int q_), .val (.int (own_m v1 v2 v3 e0)), .val (.int (own_m v1 v2 v3 e1)), .val (.int (own_m v1 v2 v3 e2)), .val (.ref c_), .val (.ref b58), .val (.int y_), .val (.int x_), .val (.int (0 : Int32)), .val (.int (1 : Int32))] [(.int x_), (.ref b58)])) rfl (by rw [hml]; rfl) (Steps.refl _) (argsL := [(.int x_)]) (rest := []) (lenOf pd_4 rfl) rfl (by show 2 * 0 + _ ≤ _; exact Nat.le_of_eq rfl) (hb hby at_478) (fun _ _ => ⟨rfl, e81, (by decide : 10 + 0 ≤ _), (by decide : 60 + 0 ≤ _)⟩)
            dsimp only [Pt.U, Pt.locs, Pt.cells, Pt.slots] at X89 l89 y89 z89 st89 hQ89
            subst l89 y89 z89
            obtain ⟨rfl, N89q, e89⟩ := hQ89
            have N89 := Fr.app N81 N89q
            refine own_viaT st89 ?_
            show own_Go p e below s _ _ _ (T89.setTop (mkF m 481 #[.val (.int p0), .val (.int p1), .val (.int p2), .val (.int p3), .val (.int p4), .val (.int p5), .val (.int v1), .val (.int v2), .val (.int v3), .val (.ref b4), .val (.ref b8), .val (.ref b27), .val (.int (Nat.toInt32 kn_)), .val (.int q_), .val (.int (own_m v1 v2 v3 e0)), .val (.int (own_m v1 v2 v3 e1)), .val (.int (own_m v1 v2 v3 e2)), .val (.ref c_), .val (.ref b58), .val (.int y_), .val (.int x_), .val (.int (0 : Int32)), .val (.int (1 : Int32))] [(.int (own_qs (es_.map (own_m v1 v2 v3)) x_ kn_ 0))]))
            refine own_via (fun _ k => XS.iload X89.here hx rfl (hb hby at_481) rfl k) ?_
            show own_Go p e below s _ _ _ (T89.setTop (mkF m 483 #[.val (.int p0), .val (.int p1), .val (.int p2), .val (.int p3), .val (.int p4), .val (.int p5), .val (.int v1), .val (.int v2), .val (.int v3), .val (.ref b4), .val (.ref b8), .val (.ref b27), .val (.int (Nat.toInt32 kn_)), .val (.int q_), .val (.int (own_m v1 v2 v3 e0)), .val (.int (own_m v1 v2 v3 e1)), .val (.int (own_m v1 v2 v3 e2)), .val (.ref c_), .val (.ref b58), .val (.int y_), .val (.int x_), .val (.int (0 : Int32)), .val (.int (1 : Int32))] [(.int (1 : Int32)), (.int (own_qs (es_.map (own_m v1 v2 v3)) x_ kn_ 0))]))
            have hc90 : (own_qs (es_.map (own_m v1 v2 v3)) x_ kn_ 0) = (1 : Int32) := ((own_f (x := x_) hP hA1 hA2 hk).1 (Eq.symm hc86)).trans (if_pos hc88)
            refine own_via (fun _ k => XS.icmpNo X89.here hx rfl (hb hby at_483) rfl (Jvm.Free.XT.ii_ne_f hc90) k) ?_
            show own_Go p e below s _ _ _ (T89.setTop (mkF m 486 #[.val (.int p0), .val (.int p1), .val (.int p2), .val (.int p3), .val (.int p4), .val (.int p5), .val (.int v1), .val (.int v2), .val (.int v3), .val (.ref b4), .val (.ref b8), .val (.ref b27), .val (.int (Nat.toInt32 kn_)), .val (.int q_), .val (.int (own_m v1 v2 v3 e0)), .val (.int (own_m v1 v2 v3 e1)), .val (.int (own_m v1 v2 v3 e2)), .val (.ref c_), .val (.ref b58), .val (.int y_), .val (.int x_), .val (.int (0 : Int32)), .val (.int (1 : Int32))] []))
            refine own_via (fun _ k => XS.iconst X89.here hx rfl (hb hby at_486) k) ?_
            show own_Go p e below s _ _ _ (T89.setTop (mkF m 487 #[.val (.int p0), .val (.int p1), .val (.int p2), .val (.int p3), .val (.int p4), .val (.int p5), .val (.int v1), .val (.int v2), .val (.int v3), .val (.ref b4), .val (.ref b8), .val (.ref b27), .val (.int (Nat.toInt32 kn_)), .val (.int q_), .val (.int (own_m v1 v2 v3 e0)), .val (.int (own_m v1 v2 v3 e1)), .val (.int (own_m v1 v2 v3 e2)), .val (.ref c_), .val (.ref b58), .val (.int y_), .val (.int x_), .val (.int (0 : Int32)), .val (.int (1 : Int32))] [(.int (1 : Int32))]))
            refine own_via (fun _ k => XS.goto X89.here hx rfl (pc0 := 487) (pc' := 491) rfl (hb hby at_487) (by decide) (by decide) k) ?_
            show own_Go p e below s _ _ _ (T89.setTop (mkF m 491 #[.val (.int p0), .val (.int p1), .val (.int p2), .val (.int p3), .val (.int p4), .val (.int p5), .val (.int v1), .val (.int v2), .val (.int v3), .val (.ref b4), .val (.ref b8), .val (.ref b27), .val (.int (Nat.toInt32 kn_)), .val (.int q_), .val (.int (own_m v1 v2 v3 e0)), .val (.int (own_m v1 v2 v3 e1)), .val (.int (own_m v1 v2 v3 e2)), .val (.ref c_), .val (.ref b58), .val (.int y_), .val (.int x_), .val (.int (0 : Int32)), .val (.int (1 : Int32))] [(.int (1 : Int32))]))
            exact own_goN X89 hx (t := .boolean) Bd.returns (by simp) (hb hby at_491) Bd.notSynchronized (by decide) (by decide) (by rw [e89]; exact ⟨rfl, N89⟩)
          · refine own_via (fun _ k => XS.icmpYes X81.here hx rfl (pc0 := 464) (pc' := 471) rfl (hb hby at_464) rfl (Jvm.Free.XT.ii_ge_t hc88) (by decide) (by decide) k) ?_
            show own_Go p e below s _ _ _ (T81.setTop (mkF m 471 #[.val (.int p0), .val (.int p1), .val (.int p2), .val (.int p3), .val (.int p4), .val (.int p5), .val (.int v1), .val (.int v2), .val (.int v3), .val (.ref b4), .val (.ref b8), .val (.ref b27), .val (.int (Nat.toInt32 kn_)), .val (.int q_), .val (.int (own_m v1 v2 v3 e0)), .val (.int (own_m v1 v2 v3 e1)), .val (.int (own_m v1 v2 v3 e2)), .val (.ref c_), .val (.ref b58), .val (.int y_), .val (.int x_), .val (.int (0 : Int32)), .unset] []))
            refine own_via (fun _ k => XS.iconst X81.here hx rfl (hb hby at_471) k) ?_
            show own_Go p e below s _ _ _ (T81.setTop (mkF m 472 #[.val (.int p0), .val (.int p1), .val (.int p2), .val (.int p3), .val (.int p4), .val (.int p5), .val (.int v1), .val (.int v2), .val (.int v3), .val (.ref b4), .val (.ref b8), .val (.ref b27), .val (.int (Nat.toInt32 kn_)), .val (.int q_), .val (.int (own_m v1 v2 v3 e0)), .val (.int (own_m v1 v2 v3 e1)), .val (.int (own_m v1 v2 v3 e2)), .val (.ref c_), .val (.ref b58), .val (.int y_), .val (.int x_), .val (.int (0 : Int32)), .unset] [(.int (0 : Int32))]))
            refine own_via (fun _ k => XS.istore X81.here hx rfl (hb hby at_472) rfl (l' := #[.val (.int p0), .val (.int p1), .val (.int p2), .val (.int p3), .val (.int p4), .val (.int p5), .val (.int v1), .val (.int v2), .val (.int v3), .val (.ref b4), .val (.ref b8), .val (.ref b27), .val (.int (Nat.toInt32 kn_)), .val (.int q_), .val (.int (own_m v1 v2 v3 e0)), .val (.int (own_m v1 v2 v3 e1)), .val (.int (own_m v1 v2 v3 e2)), .val (.ref c_), .val (.ref b58), .val (.int y_), .val (.int x_), .val (.int (0 : Int32)), .val (.int (0 : Int32))]) rfl k) ?_
            show own_Go p e below s _ _ _ (T81.setTop (mkF m 474 #[.val (.int p0), .val (.int p1), .val (.int p2), .val (.int p3), .val (.int p4), .val (.int p5), .val (.int v1), .val (.int v2), .val (.int v3), .val (.ref b4), .val (.ref b8), .val (.ref b27), .val (.int (Nat.toInt32 kn_)), .val (.int q_), .val (.int (own_m v1 v2 v3 e0)), .val (.int (own_m v1 v2 v3 e1)), .val (.int (own_m v1 v2 v3 e2)), .val (.ref c_), .val (.ref b58), .val (.int y_), .val (.int x_), .val (.int (0 : Int32)), .val (.int (0 : Int32))] []))
            refine own_via (fun _ k => XS.aload X81.here hx rfl (hb hby at_474) rfl rfl k) ?_
            show own_Go p e below s _ _ _ (T81.setTop (mkF m 476 #[.val (.int p0), .val (.int p1), .val (.int p2), .val (.int p3), .val (.int p4), .val (.int p5), .val (.int v1), .val (.int v2), .val (.int v3), .val (.ref b4), .val (.ref b8), .val (.ref b27), .val (.int (Nat.toInt32 kn_)), .val (.int q_), .val (.int (own_m v1 v2 v3 e0)), .val (.int (own_m v1 v2 v3 e1)), .val (.int (own_m v1 v2 v3 e2)), .val (.ref c_), .val (.ref b58), .val (.int y_), .val (.int x_), .val (.int (0 : Int32)), .val (.int (0 : Int32))] [(.ref b58)]))
            refine own_via (fun _ k => XS.iload X81.here hx rfl (hb hby at_476) rfl k) ?_
            show own_Go p e below s _ _ _ (T81.setTop (mkF m 478 #[.val (.int p0), .val (.int p1), .val (.int p2), .val (.int p3), .val (.int p4), .val (.int p5), .val (.int v1), .val (.int v2), .val (.int v3), .val (.ref b4), .val (.ref b8), .val (.ref b27), .val (.int (Nat.toInt32 kn_)), .val (.int q_), .val (.int (own_m v1 v2 v3 e0)), .val (.int (own_m v1 v2 v3 e1)), .val (.int (own_m v1 v2 v3 e2)), .val (.ref c_), .val (.ref b58), .val (.int y_), .val (.int x_), .val (.int (0 : Int32)), .val (.int (0 : Int32))] [(.int x_), (.ref b58)]))
            obtain ⟨cq91, kq91, qa91, qb91, qc91⟩ := isOf hZ e81 F82
            obtain ⟨_, _, ⟨T91, L91, k91, n91⟩, -, X91, ⟨Lc91, hQ91, l91, y91, z91⟩, st91⟩ := X81.virtualBack hx (y := (⟨"com/example/greenbelt/greenbelt/model/Token", "queues", "(I)Z"⟩ : MethodName)) (z := (⟨"com/example/greenbelt/greenbelt/model/Token", "queues", "(I)Z"⟩ : MethodName)) hown (mvT hZ (hw _ (List.mem_of_getElem? (i := 46) rfl))) (mvT hZ (hw _ (List.mem_of_getElem? (i := 47) rfl))) (notFace_of_selects (args := #[]) (mvT hZ (hw _ (List.mem_of_getElem? (i := 49) rfl)))) (mvT hZ (hw _ (List.mem_of_getElem? (i := 49) rfl))) (mvT hZ (hw _ (List.mem_of_getElem? (i := 48) rfl))) (by decide) (backOf (W := 0) (rm6 l Z a0 hw [] b58 x_ cq_66 kc_ kn_ (es_.map (own_m v1 v2 v3)) h81 n0 Z81 F83 F84 hk2) hZ (hw _ (List.mem_of_getElem? (i := 50) rfl)) (hw _ (List.mem_of_getElem? (i := 4) rfl)) (by decide) (by decide)) qa91 qc91 (g := (mkF m 478 #[.val (.int p0), .val (.int p1), .val (.int p2), .val (.int p3), .val (.int p4), .val (.int p5), .val (.int v1), .val (.int v2), .val (.int v3), .val (.ref b4), .val (.ref b8), .val (.ref b27), .val (.int (Nat.toInt32 kn_)), .val (.int q_), .val (.int (own_m v1 v2 v3 e0)), .val (.int (own_m v1 v2 v3 e1)), .val (.int (own_m v1 v2 v3 e2)), .val (.ref c_), .val (.ref b58), .val (.int y_), .val (.int x_), .val (.int (0 : Int32)), .val (.int (0 : Int32))] [(.int x_), (.ref b58)])) rfl (by rw [hml]; rfl) (Steps.refl _) (argsL := [(.int x_)]) (rest := []) (lenOf pd_4 rfl) rfl (by show 2 * 0 + _ ≤ _; exact Nat.le_of_eq rfl) (hb hby at_478) (fun _ _ => ⟨rfl, e81, (by decide : 10 + 0 ≤ _), (by decide : 60 + 0 ≤ _)⟩)
            dsimp only [Pt.U, Pt.locs, Pt.cells, Pt.slots] at X91 l91 y91 z91 st91 hQ91
            subst l91 y91 z91
            obtain ⟨rfl, N91q, e91⟩ := hQ91
            have N91 := Fr.app N81 N91q
            refine own_viaT st91 ?_
            show own_Go p e below s _ _ _ (T91.setTop (mkF m 481 #[.val (.int p0), .val (.int p1), .val (.int p2), .val (.int p3), .val (.int p4), .val (.int p5), .val (.int v1), .val (.int v2), .val (.int v3), .val (.ref b4), .val (.ref b8), .val (.ref b27), .val (.int (Nat.toInt32 kn_)), .val (.int q_), .val (.int (own_m v1 v2 v3 e0)), .val (.int (own_m v1 v2 v3 e1)), .val (.int (own_m v1 v2 v3 e2)), .val (.ref c_), .val (.ref b58), .val (.int y_), .val (.int x_), .val (.int (0 : Int32)), .val (.int (0 : Int32))] [(.int (own_qs (es_.map (own_m v1 v2 v3)) x_ kn_ 0))]))
            refine own_via (fun _ k => XS.iload X91.here hx rfl (hb hby at_481) rfl k) ?_
            show own_Go p e below s _ _ _ (T91.setTop (mkF m 483 #[.val (.int p0), .val (.int p1), .val (.int p2), .val (.int p3), .val (.int p4), .val (.int p5), .val (.int v1), .val (.int v2), .val (.int v3), .val (.ref b4), .val (.ref b8), .val (.ref b27), .val (.int (Nat.toInt32 kn_)), .val (.int q_), .val (.int (own_m v1 v2 v3 e0)), .val (.int (own_m v1 v2 v3 e1)), .val (.int (own_m v1 v2 v3 e2)), .val (.ref c_), .val (.ref b58), .val (.int y_), .val (.int x_), .val (.int (0 : Int32)), .val (.int (0 : Int32))] [(.int (0 : Int32)), (.int (own_qs (es_.map (own_m v1 v2 v3)) x_ kn_ 0))]))
            have hc92 : (own_qs (es_.map (own_m v1 v2 v3)) x_ kn_ 0) = (0 : Int32) := ((own_f (x := x_) hP hA1 hA2 hk).1 (Eq.symm hc86)).trans (if_neg hc88)
            refine own_via (fun _ k => XS.icmpNo X91.here hx rfl (hb hby at_483) rfl (Jvm.Free.XT.ii_ne_f hc92) k) ?_
            show own_Go p e below s _ _ _ (T91.setTop (mkF m 486 #[.val (.int p0), .val (.int p1), .val (.int p2), .val (.int p3), .val (.int p4), .val (.int p5), .val (.int v1), .val (.int v2), .val (.int v3), .val (.ref b4), .val (.ref b8), .val (.ref b27), .val (.int (Nat.toInt32 kn_)), .val (.int q_), .val (.int (own_m v1 v2 v3 e0)), .val (.int (own_m v1 v2 v3 e1)), .val (.int (own_m v1 v2 v3 e2)), .val (.ref c_), .val (.ref b58), .val (.int y_), .val (.int x_), .val (.int (0 : Int32)), .val (.int (0 : Int32))] []))
            refine own_via (fun _ k => XS.iconst X91.here hx rfl (hb hby at_486) k) ?_
            show own_Go p e below s _ _ _ (T91.setTop (mkF m 487 #[.val (.int p0), .val (.int p1), .val (.int p2), .val (.int p3), .val (.int p4), .val (.int p5), .val (.int v1), .val (.int v2), .val (.int v3), .val (.ref b4), .val (.ref b8), .val (.ref b27), .val (.int (Nat.toInt32 kn_)), .val (.int q_), .val (.int (own_m v1 v2 v3 e0)), .val (.int (own_m v1 v2 v3 e1)), .val (.int (own_m v1 v2 v3 e2)), .val (.ref c_), .val (.ref b58), .val (.int y_), .val (.int x_), .val (.int (0 : Int32)), .val (.int (0 : Int32))] [(.int (1 : Int32))]))
            refine own_via (fun _ k => XS.goto X91.here hx rfl (pc0 := 487) (pc' := 491) rfl (hb hby at_487) (by decide) (by decide) k) ?_
            show own_Go p e below s _ _ _ (T91.setTop (mkF m 491 #[.val (.int p0), .val (.int p1), .val (.int p2), .val (.int p3), .val (.int p4), .val (.int p5), .val (.int v1), .val (.int v2), .val (.int v3), .val (.ref b4), .val (.ref b8), .val (.ref b27), .val (.int (Nat.toInt32 kn_)), .val (.int q_), .val (.int (own_m v1 v2 v3 e0)), .val (.int (own_m v1 v2 v3 e1)), .val (.int (own_m v1 v2 v3 e2)), .val (.ref c_), .val (.ref b58), .val (.int y_), .val (.int x_), .val (.int (0 : Int32)), .val (.int (0 : Int32))] [(.int (1 : Int32))]))
            exact own_goN X91 hx (t := .boolean) Bd.returns (by simp) (hb hby at_491) Bd.notSynchronized (by decide) (by decide) (by rw [e91]; exact ⟨rfl, N91⟩)
        · refine own_via (fun _ k => XS.icmpYes X81.here hx rfl (pc0 := 415) (pc' := 422) rfl (hb hby at_415) rfl (Jvm.Free.XT.ii_ne_t hc86) (by decide) (by decide) k) ?_
          show own_Go p e below s _ _ _ (T81.setTop (mkF m 422 #[.val (.int p0), .val (.int p1), .val (.int p2), .val (.int p3), .val (.int p4), .val (.int p5), .val (.int v1), .val (.int v2), .val (.int v3), .val (.ref b4), .val (.ref b8), .val (.ref b27), .val (.int (Nat.toInt32 kn_)), .val (.int q_), .val (.int (own_m v1 v2 v3 e0)), .val (.int (own_m v1 v2 v3 e1)), .val (.int (own_m v1 v2 v3 e2)), .val (.ref c_), .val (.ref b58), .val (.int y_), .val (.int x_), .unset, .unset] []))
          refine own_via (fun _ k => XS.iload X81.here hx rfl (hb hby at_422) rfl k) ?_
          show own_Go p e below s _ _ _ (T81.setTop (mkF m 424 #[.val (.int p0), .val (.int p1), .val (.int p2), .val (.int p3), .val (.int p4), .val (.int p5), .val (.int v1), .val (.int v2), .val (.int v3), .val (.ref b4), .val (.ref b8), .val (.ref b27), .val (.int (Nat.toInt32 kn_)), .val (.int q_), .val (.int (own_m v1 v2 v3 e0)), .val (.int (own_m v1 v2 v3 e1)), .val (.int (own_m v1 v2 v3 e2)), .val (.ref c_), .val (.ref b58), .val (.int y_), .val (.int x_), .unset, .unset] [(.int x_)]))
          refine own_via (fun _ k => XS.iload X81.here hx rfl (hb hby at_424) rfl k) ?_
          show own_Go p e below s _ _ _ (T81.setTop (mkF m 426 #[.val (.int p0), .val (.int p1), .val (.int p2), .val (.int p3), .val (.int p4), .val (.int p5), .val (.int v1), .val (.int v2), .val (.int v3), .val (.ref b4), .val (.ref b8), .val (.ref b27), .val (.int (Nat.toInt32 kn_)), .val (.int q_), .val (.int (own_m v1 v2 v3 e0)), .val (.int (own_m v1 v2 v3 e1)), .val (.int (own_m v1 v2 v3 e2)), .val (.ref c_), .val (.ref b58), .val (.int y_), .val (.int x_), .unset, .unset] [(.int v2), (.int x_)]))
          by_cases hc93 : x_ = v2
          · refine own_via (fun _ k => XS.icmpNo X81.here hx rfl (hb hby at_426) rfl (Jvm.Free.XT.ii_ne_f hc93) k) ?_
            show own_Go p e below s _ _ _ (T81.setTop (mkF m 429 #[.val (.int p0), .val (.int p1), .val (.int p2), .val (.int p3), .val (.int p4), .val (.int p5), .val (.int v1), .val (.int v2), .val (.int v3), .val (.ref b4), .val (.ref b8), .val (.ref b27), .val (.int (Nat.toInt32 kn_)), .val (.int q_), .val (.int (own_m v1 v2 v3 e0)), .val (.int (own_m v1 v2 v3 e1)), .val (.int (own_m v1 v2 v3 e2)), .val (.ref c_), .val (.ref b58), .val (.int y_), .val (.int x_), .unset, .unset] []))
            refine own_via (fun _ k => XS.iconst X81.here hx rfl (hb hby at_429) k) ?_
            show own_Go p e below s _ _ _ (T81.setTop (mkF m 430 #[.val (.int p0), .val (.int p1), .val (.int p2), .val (.int p3), .val (.int p4), .val (.int p5), .val (.int v1), .val (.int v2), .val (.int v3), .val (.ref b4), .val (.ref b8), .val (.ref b27), .val (.int (Nat.toInt32 kn_)), .val (.int q_), .val (.int (own_m v1 v2 v3 e0)), .val (.int (own_m v1 v2 v3 e1)), .val (.int (own_m v1 v2 v3 e2)), .val (.ref c_), .val (.ref b58), .val (.int y_), .val (.int x_), .unset, .unset] [(.int (1 : Int32))]))
            refine own_via (fun _ k => XS.goto X81.here hx rfl (pc0 := 430) (pc' := 445) rfl (hb hby at_430) (by decide) (by decide) k) ?_
            show own_Go p e below s _ _ _ (T81.setTop (mkF m 445 #[.val (.int p0), .val (.int p1), .val (.int p2), .val (.int p3), .val (.int p4), .val (.int p5), .val (.int v1), .val (.int v2), .val (.int v3), .val (.ref b4), .val (.ref b8), .val (.ref b27), .val (.int (Nat.toInt32 kn_)), .val (.int q_), .val (.int (own_m v1 v2 v3 e0)), .val (.int (own_m v1 v2 v3 e1)), .val (.int (own_m v1 v2 v3 e2)), .val (.ref c_), .val (.ref b58), .val (.int y_), .val (.int x_), .unset, .unset] [(.int (1 : Int32))]))
            refine own_via (fun _ k => XS.istore X81.here hx rfl (hb hby at_445) rfl (l' := #[.val (.int p0), .val (.int p1), .val (.int p2), .val (.int p3), .val (.int p4), .val (.int p5), .val (.int v1), .val (.int v2), .val (.int v3), .val (.ref b4), .val (.ref b8), .val (.ref b27), .val (.int (Nat.toInt32 kn_)), .val (.int q_), .val (.int (own_m v1 v2 v3 e0)), .val (.int (own_m v1 v2 v3 e1)), .val (.int (own_m v1 v2 v3 e2)), .val (.ref c_), .val (.ref b58), .val (.int y_), .val (.int x_), .val (.int (1 : Int32)), .unset]) rfl k) ?_
            show own_Go p e below s _ _ _ (T81.setTop (mkF m 447 #[.val (.int p0), .val (.int p1), .val (.int p2), .val (.int p3), .val (.int p4), .val (.int p5), .val (.int v1), .val (.int v2), .val (.int v3), .val (.ref b4), .val (.ref b8), .val (.ref b27), .val (.int (Nat.toInt32 kn_)), .val (.int q_), .val (.int (own_m v1 v2 v3 e0)), .val (.int (own_m v1 v2 v3 e1)), .val (.int (own_m v1 v2 v3 e2)), .val (.ref c_), .val (.ref b58), .val (.int y_), .val (.int x_), .val (.int (1 : Int32)), .unset] []))
            refine own_via (fun _ k => XS.iload X81.here hx rfl (hb hby at_447) rfl k) ?_
            show own_Go p e below s _ _ _ (T81.setTop (mkF m 449 #[.val (.int p0), .val (.int p1), .val (.int p2), .val (.int p3), .val (.int p4), .val (.int p5), .val (.int v1), .val (.int v2), .val (.int v3), .val (.ref b4), .val (.ref b8), .val (.ref b27), .val (.int (Nat.toInt32 kn_)), .val (.int q_), .val (.int (own_m v1 v2 v3 e0)), .val (.int (own_m v1 v2 v3 e1)), .val (.int (own_m v1 v2 v3 e2)), .val (.ref c_), .val (.ref b58), .val (.int y_), .val (.int x_), .val (.int (1 : Int32)), .unset] [(.int (1 : Int32))]))
            refine own_via (fun _ k => XS.ifNo X81.here hx rfl (hb hby at_449) rfl (Jvm.Free.XT.i0_lt_f (by decide)) k) ?_
            show own_Go p e below s _ _ _ (T81.setTop (mkF m 452 #[.val (.int p0), .val (.int p1), .val (.int p2), .val (.int p3), .val (.int p4), .val (.int p5), .val (.int v1), .val (.int v2), .val (.int v3), .val (.ref b4), .val (.ref b8), .val (.ref b27), .val (.int (Nat.toInt32 kn_)), .val (.int q_), .val (.int (own_m v1 v2 v3 e0)), .val (.int (own_m v1 v2 v3 e1)), .val (.int (own_m v1 v2 v3 e2)), .val (.ref c_), .val (.ref b58), .val (.int y_), .val (.int x_), .val (.int (1 : Int32)), .unset] []))
            refine own_via (fun _ k => XS.aload X81.here hx rfl (hb hby at_452) rfl rfl k) ?_
            show own_Go p e below s _ _ _ (T81.setTop (mkF m 454 #[.val (.int p0), .val (.int p1), .val (.int p2), .val (.int p3), .val (.int p4), .val (.int p5), .val (.int v1), .val (.int v2), .val (.int v3), .val (.ref b4), .val (.ref b8), .val (.ref b27), .val (.int (Nat.toInt32 kn_)), .val (.int q_), .val (.int (own_m v1 v2 v3 e0)), .val (.int (own_m v1 v2 v3 e1)), .val (.int (own_m v1 v2 v3 e2)), .val (.ref c_), .val (.ref b58), .val (.int y_), .val (.int x_), .val (.int (1 : Int32)), .unset] [(.ref b27)]))
            refine own_via (fun _ k => XS.iconst X81.here hx rfl (hb hby at_454) k) ?_
            show own_Go p e below s _ _ _ (T81.setTop (mkF m 455 #[.val (.int p0), .val (.int p1), .val (.int p2), .val (.int p3), .val (.int p4), .val (.int p5), .val (.int v1), .val (.int v2), .val (.int v3), .val (.ref b4), .val (.ref b8), .val (.ref b27), .val (.int (Nat.toInt32 kn_)), .val (.int q_), .val (.int (own_m v1 v2 v3 e0)), .val (.int (own_m v1 v2 v3 e1)), .val (.int (own_m v1 v2 v3 e2)), .val (.ref c_), .val (.ref b58), .val (.int y_), .val (.int x_), .val (.int (1 : Int32)), .unset] [(.int (3 : Int32)), (.ref b27)]))
            refine own_via (fun _ k => XS.iload X81.here hx rfl (hb hby at_455) rfl k) ?_
            show own_Go p e below s _ _ _ (T81.setTop (mkF m 457 #[.val (.int p0), .val (.int p1), .val (.int p2), .val (.int p3), .val (.int p4), .val (.int p5), .val (.int v1), .val (.int v2), .val (.int v3), .val (.ref b4), .val (.ref b8), .val (.ref b27), .val (.int (Nat.toInt32 kn_)), .val (.int q_), .val (.int (own_m v1 v2 v3 e0)), .val (.int (own_m v1 v2 v3 e1)), .val (.int (own_m v1 v2 v3 e2)), .val (.ref c_), .val (.ref b58), .val (.int y_), .val (.int x_), .val (.int (1 : Int32)), .unset] [(.int q_), (.int (3 : Int32)), (.ref b27)]))
            refine own_via (fun _ k => XS.imul X81.here hx rfl (hb hby at_457) rfl k) ?_
            show own_Go p e below s _ _ _ (T81.setTop (mkF m 458 #[.val (.int p0), .val (.int p1), .val (.int p2), .val (.int p3), .val (.int p4), .val (.int p5), .val (.int v1), .val (.int v2), .val (.int v3), .val (.ref b4), .val (.ref b8), .val (.ref b27), .val (.int (Nat.toInt32 kn_)), .val (.int q_), .val (.int (own_m v1 v2 v3 e0)), .val (.int (own_m v1 v2 v3 e1)), .val (.int (own_m v1 v2 v3 e2)), .val (.ref c_), .val (.ref b58), .val (.int y_), .val (.int x_), .val (.int (1 : Int32)), .unset] [(.int ((3 : Int32) * q_)), (.ref b27)]))
            refine own_via (fun _ k => XS.iload X81.here hx rfl (hb hby at_458) rfl k) ?_
            show own_Go p e below s _ _ _ (T81.setTop (mkF m 460 #[.val (.int p0), .val (.int p1), .val (.int p2), .val (.int p3), .val (.int p4), .val (.int p5), .val (.int v1), .val (.int v2), .val (.int v3), .val (.ref b4), .val (.ref b8), .val (.ref b27), .val (.int (Nat.toInt32 kn_)), .val (.int q_), .val (.int (own_m v1 v2 v3 e0)), .val (.int (own_m v1 v2 v3 e1)), .val (.int (own_m v1 v2 v3 e2)), .val (.ref c_), .val (.ref b58), .val (.int y_), .val (.int x_), .val (.int (1 : Int32)), .unset] [(.int (1 : Int32)), (.int ((3 : Int32) * q_)), (.ref b27)]))
            refine own_via (fun _ k => XS.iadd X81.here hx rfl (hb hby at_460) rfl k) ?_
            show own_Go p e below s _ _ _ (T81.setTop (mkF m 461 #[.val (.int p0), .val (.int p1), .val (.int p2), .val (.int p3), .val (.int p4), .val (.int p5), .val (.int v1), .val (.int v2), .val (.int v3), .val (.ref b4), .val (.ref b8), .val (.ref b27), .val (.int (Nat.toInt32 kn_)), .val (.int q_), .val (.int (own_m v1 v2 v3 e0)), .val (.int (own_m v1 v2 v3 e1)), .val (.int (own_m v1 v2 v3 e2)), .val (.ref c_), .val (.ref b58), .val (.int y_), .val (.int x_), .val (.int (1 : Int32)), .unset] [(.int (((3 : Int32) * q_) + (1 : Int32))), (.ref b27)]))
            obtain ⟨cl94, Ar94, q94, S94, M94, H94, G94⟩ := (id F85)
            have hin94 : ¬ ((((3 : Int32) * q_) + (1 : Int32)) < 0 ∨ cl94.slots.size ≤ ((((3 : Int32) * q_) + (1 : Int32))).toNatClampNeg) := inb_of S94 hI1
            have hat94 : cl94.slots[((((3 : Int32) * q_) + (1 : Int32))).toNatClampNeg]? = some (.int t1) := Has.at H94 hin94 hV1
            refine own_via (fun _ k => X81.iaload hx (j := (((3 : Int32) * q_) + (1 : Int32))) (v := (.int t1)) (by rw [e81]; exact Ar94.1) (State.isArrayOf_alike hZ.alike Ar94.2.1) Ar94.2.2 hin94 hat94 (g := (mkF m 461 #[.val (.int p0), .val (.int p1), .val (.int p2), .val (.int p3), .val (.int p4), .val (.int p5), .val (.int v1), .val (.int v2), .val (.int v3), .val (.ref b4), .val (.ref b8), .val (.ref b27), .val (.int (Nat.toInt32 kn_)), .val (.int q_), .val (.int (own_m v1 v2 v3 e0)), .val (.int (own_m v1 v2 v3 e1)), .val (.int (own_m v1 v2 v3 e2)), .val (.ref c_), .val (.ref b58), .val (.int y_), .val (.int x_), .val (.int (1 : Int32)), .unset] [(.int (((3 : Int32) * q_) + (1 : Int32))), (.ref b27)])) rfl rfl (hb hby at_461) _ k) ?_
            show own_Go p e below s _ _ _ (T81.setTop (mkF m 462 #[.val (.int p0), .val (.int p1), .val (.int p2), .val (.int p3), .val (.int p4), .val (.int p5), .val (.int v1), .val (.int v2), .val (.int v3), .val (.ref b4), .val (.ref b8), .val (.ref b27), .val (.int (Nat.toInt32 kn_)), .val (.int q_), .val (.int (own_m v1 v2 v3 e0)), .val (.int (own_m v1 v2 v3 e1)), .val (.int (own_m v1 v2 v3 e2)), .val (.ref c_), .val (.ref b58), .val (.int y_), .val (.int x_), .val (.int (1 : Int32)), .unset] [(.int t1)]))
            refine own_via (fun _ k => XS.iload X81.here hx rfl (hb hby at_462) rfl k) ?_
            show own_Go p e below s _ _ _ (T81.setTop (mkF m 464 #[.val (.int p0), .val (.int p1), .val (.int p2), .val (.int p3), .val (.int p4), .val (.int p5), .val (.int v1), .val (.int v2), .val (.int v3), .val (.ref b4), .val (.ref b8), .val (.ref b27), .val (.int (Nat.toInt32 kn_)), .val (.int q_), .val (.int (own_m v1 v2 v3 e0)), .val (.int (own_m v1 v2 v3 e1)), .val (.int (own_m v1 v2 v3 e2)), .val (.ref c_), .val (.ref b58), .val (.int y_), .val (.int x_), .val (.int (1 : Int32)), .unset] [(.int (Nat.toInt32 kn_)), (.int t1)]))
            by_cases hc95 : t1 < (Nat.toInt32 kn_)
            · refine own_via (fun _ k => XS.icmpNo X81.here hx rfl (hb hby at_464) rfl (Jvm.Free.XT.ii_ge_f hc95) k) ?_
              show own_Go p e below s _ _ _ (T81.setTop (mkF m 467 #[.val (.int p0), .val (.int p1), .val (.int p2), .val (.int p3), .val (.int p4), .val (.int p5), .val (.int v1), .val (.int v2), .val (.int v3), .val (.ref b4), .val (.ref b8), .val (.ref b27), .val (.int (Nat.toInt32 kn_)), .val (.int q_), .val (.int (own_m v1 v2 v3 e0)), .val (.int (own_m v1 v2 v3 e1)), .val (.int (own_m v1 v2 v3 e2)), .val (.ref c_), .val (.ref b58), .val (.int y_), .val (.int x_), .val (.int (1 : Int32)), .unset] []))
              refine own_via (fun _ k => XS.iconst X81.here hx rfl (hb hby at_467) k) ?_
              show own_Go p e below s _ _ _ (T81.setTop (mkF m 468 #[.val (.int p0), .val (.int p1), .val (.int p2), .val (.int p3), .val (.int p4), .val (.int p5), .val (.int v1), .val (.int v2), .val (.int v3), .val (.ref b4), .val (.ref b8), .val (.ref b27), .val (.int (Nat.toInt32 kn_)), .val (.int q_), .val (.int (own_m v1 v2 v3 e0)), .val (.int (own_m v1 v2 v3 e1)), .val (.int (own_m v1 v2 v3 e2)), .val (.ref c_), .val (.ref b58), .val (.int y_), .val (.int x_), .val (.int (1 : Int32)), .unset] [(.int (1 : Int32))]))
              refine own_via (fun _ k => XS.goto X81.here hx rfl (pc0 := 468) (pc' := 472) rfl (hb hby at_468) (by decide) (by decide) k) ?_
              show own_Go p e below s _ _ _ (T81.setTop (mkF m 472 #[.val (.int p0), .val (.int p1), .val (.int p2), .val (.int p3), .val (.int p4), .val (.int p5), .val (.int v1), .val (.int v2), .val (.int v3), .val (.ref b4), .val (.ref b8), .val (.ref b27), .val (.int (Nat.toInt32 kn_)), .val (.int q_), .val (.int (own_m v1 v2 v3 e0)), .val (.int (own_m v1 v2 v3 e1)), .val (.int (own_m v1 v2 v3 e2)), .val (.ref c_), .val (.ref b58), .val (.int y_), .val (.int x_), .val (.int (1 : Int32)), .unset] [(.int (1 : Int32))]))
              refine own_via (fun _ k => XS.istore X81.here hx rfl (hb hby at_472) rfl (l' := #[.val (.int p0), .val (.int p1), .val (.int p2), .val (.int p3), .val (.int p4), .val (.int p5), .val (.int v1), .val (.int v2), .val (.int v3), .val (.ref b4), .val (.ref b8), .val (.ref b27), .val (.int (Nat.toInt32 kn_)), .val (.int q_), .val (.int (own_m v1 v2 v3 e0)), .val (.int (own_m v1 v2 v3 e1)), .val (.int (own_m v1 v2 v3 e2)), .val (.ref c_), .val (.ref b58), .val (.int y_), .val (.int x_), .val (.int (1 : Int32)), .val (.int (1 : Int32))]) rfl k) ?_
              show own_Go p e below s _ _ _ (T81.setTop (mkF m 474 #[.val (.int p0), .val (.int p1), .val (.int p2), .val (.int p3), .val (.int p4), .val (.int p5), .val (.int v1), .val (.int v2), .val (.int v3), .val (.ref b4), .val (.ref b8), .val (.ref b27), .val (.int (Nat.toInt32 kn_)), .val (.int q_), .val (.int (own_m v1 v2 v3 e0)), .val (.int (own_m v1 v2 v3 e1)), .val (.int (own_m v1 v2 v3 e2)), .val (.ref c_), .val (.ref b58), .val (.int y_), .val (.int x_), .val (.int (1 : Int32)), .val (.int (1 : Int32))] []))
              refine own_via (fun _ k => XS.aload X81.here hx rfl (hb hby at_474) rfl rfl k) ?_
              show own_Go p e below s _ _ _ (T81.setTop (mkF m 476 #[.val (.int p0), .val (.int p1), .val (.int p2), .val (.int p3), .val (.int p4), .val (.int p5), .val (.int v1), .val (.int v2), .val (.int v3), .val (.ref b4), .val (.ref b8), .val (.ref b27), .val (.int (Nat.toInt32 kn_)), .val (.int q_), .val (.int (own_m v1 v2 v3 e0)), .val (.int (own_m v1 v2 v3 e1)), .val (.int (own_m v1 v2 v3 e2)), .val (.ref c_), .val (.ref b58), .val (.int y_), .val (.int x_), .val (.int (1 : Int32)), .val (.int (1 : Int32))] [(.ref b58)]))
              refine own_via (fun _ k => XS.iload X81.here hx rfl (hb hby at_476) rfl k) ?_
              show own_Go p e below s _ _ _ (T81.setTop (mkF m 478 #[.val (.int p0), .val (.int p1), .val (.int p2), .val (.int p3), .val (.int p4), .val (.int p5), .val (.int v1), .val (.int v2), .val (.int v3), .val (.ref b4), .val (.ref b8), .val (.ref b27), .val (.int (Nat.toInt32 kn_)), .val (.int q_), .val (.int (own_m v1 v2 v3 e0)), .val (.int (own_m v1 v2 v3 e1)), .val (.int (own_m v1 v2 v3 e2)), .val (.ref c_), .val (.ref b58), .val (.int y_), .val (.int x_), .val (.int (1 : Int32)), .val (.int (1 : Int32))] [(.int x_), (.ref b58)]))
              obtain ⟨cq96, kq96, qa96, qb96, qc96⟩ := isOf hZ e81 F82
              obtain ⟨_, _, ⟨T96, L96, k96, n96⟩, -, X96, ⟨Lc96, hQ96, l96, y96, z96⟩, st96⟩ := X81.virtualBack hx (y := (⟨"com/example/greenbelt/greenbelt/model/Token", "queues", "(I)Z"⟩ : MethodName)) (z := (⟨"com/example/greenbelt/greenbelt/model/Token", "queues", "(I)Z"⟩ : MethodName)) hown (mvT hZ (hw _ (List.mem_of_getElem? (i := 46) rfl))) (mvT hZ (hw _ (List.mem_of_getElem? (i := 47) rfl))) (notFace_of_selects (args := #[]) (mvT hZ (hw _ (List.mem_of_getElem? (i := 49) rfl)))) (mvT hZ (hw _ (List.mem_of_getElem? (i := 49) rfl))) (mvT hZ (hw _ (List.mem_of_getElem? (i := 48) rfl))) (by decide) (backOf (W := 0) (rm6 l Z a0 hw [] b58 x_ cq_66 kc_ kn_ (es_.map (own_m v1 v2 v3)) h81 n0 Z81 F83 F84 hk2) hZ (hw _ (List.mem_of_getElem? (i := 50) rfl)) (hw _ (List.mem_of_getElem? (i := 4) rfl)) (by decide) (by decide)) qa96 qc96 (g := (mkF m 478 #[.val (.int p0), .val (.int p1), .val (.int p2), .val (.int p3), .val (.int p4), .val (.int p5), .val (.int v1), .val (.int v2), .val (.int v3), .val (.ref b4), .val (.ref b8), .val (.ref b27), .val (.int (Nat.toInt32 kn_)), .val (.int q_), .val (.int (own_m v1 v2 v3 e0)), .val (.int (own_m v1 v2 v3 e1)), .val (.int (own_m v1 v2 v3 e2)), .val (.ref c_), .val (.ref b58), .val (.int y_), .val (.int x_), .val (.int (1 : Int32)), .val (.int (1 : Int32))] [(.int x_), (.ref b58)])) rfl (by rw [hml]; rfl) (Steps.refl _) (argsL := [(.int x_)]) (rest := []) (lenOf pd_4 rfl) rfl (by show 2 * 0 + _ ≤ _; exact Nat.le_of_eq rfl) (hb hby at_478) (fun _ _ => ⟨rfl, e81, (by decide : 10 + 0 ≤ _), (by decide : 60 + 0 ≤ _)⟩)
              dsimp only [Pt.U, Pt.locs, Pt.cells, Pt.slots] at X96 l96 y96 z96 st96 hQ96
              subst l96 y96 z96
              obtain ⟨rfl, N96q, e96⟩ := hQ96
              have N96 := Fr.app N81 N96q
              refine own_viaT st96 ?_
              show own_Go p e below s _ _ _ (T96.setTop (mkF m 481 #[.val (.int p0), .val (.int p1), .val (.int p2), .val (.int p3), .val (.int p4), .val (.int p5), .val (.int v1), .val (.int v2), .val (.int v3), .val (.ref b4), .val (.ref b8), .val (.ref b27), .val (.int (Nat.toInt32 kn_)), .val (.int q_), .val (.int (own_m v1 v2 v3 e0)), .val (.int (own_m v1 v2 v3 e1)), .val (.int (own_m v1 v2 v3 e2)), .val (.ref c_), .val (.ref b58), .val (.int y_), .val (.int x_), .val (.int (1 : Int32)), .val (.int (1 : Int32))] [(.int (own_qs (es_.map (own_m v1 v2 v3)) x_ kn_ 0))]))
              refine own_via (fun _ k => XS.iload X96.here hx rfl (hb hby at_481) rfl k) ?_
              show own_Go p e below s _ _ _ (T96.setTop (mkF m 483 #[.val (.int p0), .val (.int p1), .val (.int p2), .val (.int p3), .val (.int p4), .val (.int p5), .val (.int v1), .val (.int v2), .val (.int v3), .val (.ref b4), .val (.ref b8), .val (.ref b27), .val (.int (Nat.toInt32 kn_)), .val (.int q_), .val (.int (own_m v1 v2 v3 e0)), .val (.int (own_m v1 v2 v3 e1)), .val (.int (own_m v1 v2 v3 e2)), .val (.ref c_), .val (.ref b58), .val (.int y_), .val (.int x_), .val (.int (1 : Int32)), .val (.int (1 : Int32))] [(.int (1 : Int32)), (.int (own_qs (es_.map (own_m v1 v2 v3)) x_ kn_ 0))]))
              have hc97 : (own_qs (es_.map (own_m v1 v2 v3)) x_ kn_ 0) = (1 : Int32) := ((own_f (x := x_) hP hA1 hA2 hk).2.1 (Eq.symm hc93)).trans (if_pos hc95)
              refine own_via (fun _ k => XS.icmpNo X96.here hx rfl (hb hby at_483) rfl (Jvm.Free.XT.ii_ne_f hc97) k) ?_
              show own_Go p e below s _ _ _ (T96.setTop (mkF m 486 #[.val (.int p0), .val (.int p1), .val (.int p2), .val (.int p3), .val (.int p4), .val (.int p5), .val (.int v1), .val (.int v2), .val (.int v3), .val (.ref b4), .val (.ref b8), .val (.ref b27), .val (.int (Nat.toInt32 kn_)), .val (.int q_), .val (.int (own_m v1 v2 v3 e0)), .val (.int (own_m v1 v2 v3 e1)), .val (.int (own_m v1 v2 v3 e2)), .val (.ref c_), .val (.ref b58), .val (.int y_), .val (.int x_), .val (.int (1 : Int32)), .val (.int (1 : Int32))] []))
              refine own_via (fun _ k => XS.iconst X96.here hx rfl (hb hby at_486) k) ?_
              show own_Go p e below s _ _ _ (T96.setTop (mkF m 487 #[.val (.int p0), .val (.int p1), .val (.int p2), .val (.int p3), .val (.int p4), .val (.int p5), .val (.int v1), .val (.int v2), .val (.int v3), .val (.ref b4), .val (.ref b8), .val (.ref b27), .val (.int (Nat.toInt32 kn_)), .val (.int q_), .val (.int (own_m v1 v2 v3 e0)), .val (.int (own_m v1 v2 v3 e1)), .val (.int (own_m v1 v2 v3 e2)), .val (.ref c_), .val (.ref b58), .val (.int y_), .val (.int x_), .val (.int (1 : Int32)), .val (.int (1 : Int32))] [(.int (1 : Int32))]))
              refine own_via (fun _ k => XS.goto X96.here hx rfl (pc0 := 487) (pc' := 491) rfl (hb hby at_487) (by decide) (by decide) k) ?_
              show own_Go p e below s _ _ _ (T96.setTop (mkF m 491 #[.val (.int p0), .val (.int p1), .val (.int p2), .val (.int p3), .val (.int p4), .val (.int p5), .val (.int v1), .val (.int v2), .val (.int v3), .val (.ref b4), .val (.ref b8), .val (.ref b27), .val (.int (Nat.toInt32 kn_)), .val (.int q_), .val (.int (own_m v1 v2 v3 e0)), .val (.int (own_m v1 v2 v3 e1)), .val (.int (own_m v1 v2 v3 e2)), .val (.ref c_), .val (.ref b58), .val (.int y_), .val (.int x_), .val (.int (1 : Int32)), .val (.int (1 : Int32))] [(.int (1 : Int32))]))
              exact own_goN X96 hx (t := .boolean) Bd.returns (by simp) (hb hby at_491) Bd.notSynchronized (by decide) (by decide) (by rw [e96]; exact ⟨rfl, N96⟩)
            · refine own_via (fun _ k => XS.icmpYes X81.here hx rfl (pc0 := 464) (pc' := 471) rfl (hb hby at_464) rfl (Jvm.Free.XT.ii_ge_t hc95) (by decide) (by decide) k) ?_
              show own_Go p e below s _ _ _ (T81.setTop (mkF m 471 #[.val (.int p0), .val (.int p1), .val (.int p2), .val (.int p3), .val (.int p4), .val (.int p5), .val (.int v1), .val (.int v2), .val (.int v3), .val (.ref b4), .val (.ref b8), .val (.ref b27), .val (.int (Nat.toInt32 kn_)), .val (.int q_), .val (.int (own_m v1 v2 v3 e0)), .val (.int (own_m v1 v2 v3 e1)), .val (.int (own_m v1 v2 v3 e2)), .val (.ref c_), .val (.ref b58), .val (.int y_), .val (.int x_), .val (.int (1 : Int32)), .unset] []))
              refine own_via (fun _ k => XS.iconst X81.here hx rfl (hb hby at_471) k) ?_
              show own_Go p e below s _ _ _ (T81.setTop (mkF m 472 #[.val (.int p0), .val (.int p1), .val (.int p2), .val (.int p3), .val (.int p4), .val (.int p5), .val (.int v1), .val (.int v2), .val (.int v3), .val (.ref b4), .val (.ref b8), .val (.ref b27), .val (.int (Nat.toInt32 kn_)), .val (.int q_), .val (.int (own_m v1 v2 v3 e0)), .val (.int (own_m v1 v2 v3 e1)), .val (.int (own_m v1 v2 v3 e2)), .val (.ref c_), .val (.ref b58), .val (.int y_), .val (.int x_), .val (.int (1 : Int32)), .unset] [(.int (0 : Int32))]))
              refine own_via (fun _ k => XS.istore X81.here hx rfl (hb hby at_472) rfl (l' := #[.val (.int p0), .val (.int p1), .val (.int p2), .val (.int p3), .val (.int p4), .val (.int p5), .val (.int v1), .val (.int v2), .val (.int v3), .val (.ref b4), .val (.ref b8), .val (.ref b27), .val (.int (Nat.toInt32 kn_)), .val (.int q_), .val (.int (own_m v1 v2 v3 e0)), .val (.int (own_m v1 v2 v3 e1)), .val (.int (own_m v1 v2 v3 e2)), .val (.ref c_), .val (.ref b58), .val (.int y_), .val (.int x_), .val (.int (1 : Int32)), .val (.int (0 : Int32))]) rfl k) ?_
              show own_Go p e below s _ _ _ (T81.setTop (mkF m 474 #[.val (.int p0), .val (.int p1), .val (.int p2), .val (.int p3), .val (.int p4), .val (.int p5), .val (.int v1), .val (.int v2), .val (.int v3), .val (.ref b4), .val (.ref b8), .val (.ref b27), .val (.int (Nat.toInt32 kn_)), .val (.int q_), .val (.int (own_m v1 v2 v3 e0)), .val (.int (own_m v1 v2 v3 e1)), .val (.int (own_m v1 v2 v3 e2)), .val (.ref c_), .val (.ref b58), .val (.int y_), .val (.int x_), .val (.int (1 : Int32)), .val (.int (0 : Int32))] []))
              refine own_via (fun _ k => XS.aload X81.here hx rfl (hb hby at_474) rfl rfl k) ?_
              show own_Go p e below s _ _ _ (T81.setTop (mkF m 476 #[.val (.int p0), .val (.int p1), .val (.int p2), .val (.int p3), .val (.int p4), .val (.int p5), .val (.int v1), .val (.int v2), .val (.int v3), .val (.ref b4), .val (.ref b8), .val (.ref b27), .val (.int (Nat.toInt32 kn_)), .val (.int q_), .val (.int (own_m v1 v2 v3 e0)), .val (.int (own_m v1 v2 v3 e1)), .val (.int (own_m v1 v2 v3 e2)), .val (.ref c_), .val (.ref b58), .val (.int y_), .val (.int x_), .val (.int (1 : Int32)), .val (.int (0 : Int32))] [(.ref b58)]))
              refine own_via (fun _ k => XS.iload X81.here hx rfl (hb hby at_476) rfl k) ?_
              show own_Go p e below s _ _ _ (T81.setTop (mkF m 478 #[.val (.int p0), .val (.int p1), .val (.int p2), .val (.int p3), .val (.int p4), .val (.int p5), .val (.int v1), .val (.int v2), .val (.int v3), .val (.ref b4), .val (.ref b8), .val (.ref b27), .val (.int (Nat.toInt32 kn_)), .val (.int q_), .val (.int (own_m v1 v2 v3 e0)), .val (.int (own_m v1 v2 v3 e1)), .val (.int (own_m v1 v2 v3 e2)), .val (.ref c_), .val (.ref b58), .val (.int y_), .val (.int x_), .val (.int (1 : Int32)), .val (.int (0 : Int32))] [(.int x_), (.ref b58)]))
              obtain ⟨cq98, kq98, qa98, qb98, qc98⟩ := isOf hZ e81 F82
              obtain ⟨_, _, ⟨T98, L98, k98, n98⟩, -, X98, ⟨Lc98, hQ98, l98, y98, z98⟩, st98⟩ := X81.virtualBack hx (y := (⟨"com/example/greenbelt/greenbelt/model/Token", "queues", "(I)Z"⟩ : MethodName)) (z := (⟨"com/example/greenbelt/greenbelt/model/Token", "queues", "(I)Z"⟩ : MethodName)) hown (mvT hZ (hw _ (List.mem_of_getElem? (i := 46) rfl))) (mvT hZ (hw _ (List.mem_of_getElem? (i := 47) rfl))) (notFace_of_selects (args := #[]) (mvT hZ (hw _ (List.mem_of_getElem? (i := 49) rfl)))) (mvT hZ (hw _ (List.mem_of_getElem? (i := 49) rfl))) (mvT hZ (hw _ (List.mem_of_getElem? (i := 48) rfl))) (by decide) (backOf (W := 0) (rm6 l Z a0 hw [] b58 x_ cq_66 kc_ kn_ (es_.map (own_m v1 v2 v3)) h81 n0 Z81 F83 F84 hk2) hZ (hw _ (List.mem_of_getElem? (i := 50) rfl)) (hw _ (List.mem_of_getElem? (i := 4) rfl)) (by decide) (by decide)) qa98 qc98 (g := (mkF m 478 #[.val (.int p0), .val (.int p1), .val (.int p2), .val (.int p3), .val (.int p4), .val (.int p5), .val (.int v1), .val (.int v2), .val (.int v3), .val (.ref b4), .val (.ref b8), .val (.ref b27), .val (.int (Nat.toInt32 kn_)), .val (.int q_), .val (.int (own_m v1 v2 v3 e0)), .val (.int (own_m v1 v2 v3 e1)), .val (.int (own_m v1 v2 v3 e2)), .val (.ref c_), .val (.ref b58), .val (.int y_), .val (.int x_), .val (.int (1 : Int32)), .val (.int (0 : Int32))] [(.int x_), (.ref b58)])) rfl (by rw [hml]; rfl) (Steps.refl _) (argsL := [(.int x_)]) (rest := []) (lenOf pd_4 rfl) rfl (by show 2 * 0 + _ ≤ _; exact Nat.le_of_eq rfl) (hb hby at_478) (fun _ _ => ⟨rfl, e81, (by decide : 10 + 0 ≤ _), (by decide : 60 + 0 ≤ _)⟩)
              dsimp only [Pt.U, Pt.locs, Pt.cells, Pt.slots] at X98 l98 y98 z98 st98 hQ98
              subst l98 y98 z98
              obtain ⟨rfl, N98q, e98⟩ := hQ98
              have N98 := Fr.app N81 N98q
              refine own_viaT st98 ?_
              show own_Go p e below s _ _ _ (T98.setTop (mkF m 481 #[.val (.int p0), .val (.int p1), .val (.int p2), .val (.int p3), .val (.int p4), .val (.int p5), .val (.int v1), .val (.int v2), .val (.int v3), .val (.ref b4), .val (.ref b8), .val (.ref b27), .val (.int (Nat.toInt32 kn_)), .val (.int q_), .val (.int (own_m v1 v2 v3 e0)), .val (.int (own_m v1 v2 v3 e1)), .val (.int (own_m v1 v2 v3 e2)), .val (.ref c_), .val (.ref b58), .val (.int y_), .val (.int x_), .val (.int (1 : Int32)), .val (.int (0 : Int32))] [(.int (own_qs (es_.map (own_m v1 v2 v3)) x_ kn_ 0))]))
              refine own_via (fun _ k => XS.iload X98.here hx rfl (hb hby at_481) rfl k) ?_
              show own_Go p e below s _ _ _ (T98.setTop (mkF m 483 #[.val (.int p0), .val (.int p1), .val (.int p2), .val (.int p3), .val (.int p4), .val (.int p5), .val (.int v1), .val (.int v2), .val (.int v3), .val (.ref b4), .val (.ref b8), .val (.ref b27), .val (.int (Nat.toInt32 kn_)), .val (.int q_), .val (.int (own_m v1 v2 v3 e0)), .val (.int (own_m v1 v2 v3 e1)), .val (.int (own_m v1 v2 v3 e2)), .val (.ref c_), .val (.ref b58), .val (.int y_), .val (.int x_), .val (.int (1 : Int32)), .val (.int (0 : Int32))] [(.int (0 : Int32)), (.int (own_qs (es_.map (own_m v1 v2 v3)) x_ kn_ 0))]))
              have hc99 : (own_qs (es_.map (own_m v1 v2 v3)) x_ kn_ 0) = (0 : Int32) := ((own_f (x := x_) hP hA1 hA2 hk).2.1 (Eq.symm hc93)).trans (if_neg hc95)
              refine own_via (fun _ k => XS.icmpNo X98.here hx rfl (hb hby at_483) rfl (Jvm.Free.XT.ii_ne_f hc99) k) ?_
              show own_Go p e below s _ _ _ (T98.setTop (mkF m 486 #[.val (.int p0), .val (.int p1), .val (.int p2), .val (.int p3), .val (.int p4), .val (.int p5), .val (.int v1), .val (.int v2), .val (.int v3), .val (.ref b4), .val (.ref b8), .val (.ref b27), .val (.int (Nat.toInt32 kn_)), .val (.int q_), .val (.int (own_m v1 v2 v3 e0)), .val (.int (own_m v1 v2 v3 e1)), .val (.int (own_m v1 v2 v3 e2)), .val (.ref c_), .val (.ref b58), .val (.int y_), .val (.int x_), .val (.int (1 : Int32)), .val (.int (0 : Int32))] []))
              refine own_via (fun _ k => XS.iconst X98.here hx rfl (hb hby at_486) k) ?_
              show own_Go p e below s _ _ _ (T98.setTop (mkF m 487 #[.val (.int p0), .val (.int p1), .val (.int p2), .val (.int p3), .val (.int p4), .val (.int p5), .val (.int v1), .val (.int v2), .val (.int v3), .val (.ref b4), .val (.ref b8), .val (.ref b27), .val (.int (Nat.toInt32 kn_)), .val (.int q_), .val (.int (own_m v1 v2 v3 e0)), .val (.int (own_m v1 v2 v3 e1)), .val (.int (own_m v1 v2 v3 e2)), .val (.ref c_), .val (.ref b58), .val (.int y_), .val (.int x_), .val (.int (1 : Int32)), .val (.int (0 : Int32))] [(.int (1 : Int32))]))
              refine own_via (fun _ k => XS.goto X98.here hx rfl (pc0 := 487) (pc' := 491) rfl (hb hby at_487) (by decide) (by decide) k) ?_
              show own_Go p e below s _ _ _ (T98.setTop (mkF m 491 #[.val (.int p0), .val (.int p1), .val (.int p2), .val (.int p3), .val (.int p4), .val (.int p5), .val (.int v1), .val (.int v2), .val (.int v3), .val (.ref b4), .val (.ref b8), .val (.ref b27), .val (.int (Nat.toInt32 kn_)), .val (.int q_), .val (.int (own_m v1 v2 v3 e0)), .val (.int (own_m v1 v2 v3 e1)), .val (.int (own_m v1 v2 v3 e2)), .val (.ref c_), .val (.ref b58), .val (.int y_), .val (.int x_), .val (.int (1 : Int32)), .val (.int (0 : Int32))] [(.int (1 : Int32))]))
              exact own_goN X98 hx (t := .boolean) Bd.returns (by simp) (hb hby at_491) Bd.notSynchronized (by decide) (by decide) (by rw [e98]; exact ⟨rfl, N98⟩)
          · refine own_via (fun _ k => XS.icmpYes X81.here hx rfl (pc0 := 426) (pc' := 433) rfl (hb hby at_426) rfl (Jvm.Free.XT.ii_ne_t hc93) (by decide) (by decide) k) ?_
            show own_Go p e below s _ _ _ (T81.setTop (mkF m 433 #[.val (.int p0), .val (.int p1), .val (.int p2), .val (.int p3), .val (.int p4), .val (.int p5), .val (.int v1), .val (.int v2), .val (.int v3), .val (.ref b4), .val (.ref b8), .val (.ref b27), .val (.int (Nat.toInt32 kn_)), .val (.int q_), .val (.int (own_m v1 v2 v3 e0)), .val (.int (own_m v1 v2 v3 e1)), .val (.int (own_m v1 v2 v3 e2)), .val (.ref c_), .val (.ref b58), .val (.int y_), .val (.int x_), .unset, .unset] []))
            refine own_via (fun _ k => XS.iload X81.here hx rfl (hb hby at_433) rfl k) ?_
            show own_Go p e below s _ _ _ (T81.setTop (mkF m 435 #[.val (.int p0), .val (.int p1), .val (.int p2), .val (.int p3), .val (.int p4), .val (.int p5), .val (.int v1), .val (.int v2), .val (.int v3), .val (.ref b4), .val (.ref b8), .val (.ref b27), .val (.int (Nat.toInt32 kn_)), .val (.int q_), .val (.int (own_m v1 v2 v3 e0)), .val (.int (own_m v1 v2 v3 e1)), .val (.int (own_m v1 v2 v3 e2)), .val (.ref c_), .val (.ref b58), .val (.int y_), .val (.int x_), .unset, .unset] [(.int x_)]))
            refine own_via (fun _ k => XS.iload X81.here hx rfl (hb hby at_435) rfl k) ?_
            show own_Go p e below s _ _ _ (T81.setTop (mkF m 437 #[.val (.int p0), .val (.int p1), .val (.int p2), .val (.int p3), .val (.int p4), .val (.int p5), .val (.int v1), .val (.int v2), .val (.int v3), .val (.ref b4), .val (.ref b8), .val (.ref b27), .val (.int (Nat.toInt32 kn_)), .val (.int q_), .val (.int (own_m v1 v2 v3 e0)), .val (.int (own_m v1 v2 v3 e1)), .val (.int (own_m v1 v2 v3 e2)), .val (.ref c_), .val (.ref b58), .val (.int y_), .val (.int x_), .unset, .unset] [(.int v3), (.int x_)]))
            by_cases hc100 : x_ = v3
            · refine own_via (fun _ k => XS.icmpNo X81.here hx rfl (hb hby at_437) rfl (Jvm.Free.XT.ii_ne_f hc100) k) ?_
              show own_Go p e below s _ _ _ (T81.setTop (mkF m 440 #[.val (.int p0), .val (.int p1), .val (.int p2), .val (.int p3), .val (.int p4), .val (.int p5), .val (.int v1), .val (.int v2), .val (.int v3), .val (.ref b4), .val (.ref b8), .val (.ref b27), .val (.int (Nat.toInt32 kn_)), .val (.int q_), .val (.int (own_m v1 v2 v3 e0)), .val (.int (own_m v1 v2 v3 e1)), .val (.int (own_m v1 v2 v3 e2)), .val (.ref c_), .val (.ref b58), .val (.int y_), .val (.int x_), .unset, .unset] []))
              refine own_via (fun _ k => XS.iconst X81.here hx rfl (hb hby at_440) k) ?_
              show own_Go p e below s _ _ _ (T81.setTop (mkF m 441 #[.val (.int p0), .val (.int p1), .val (.int p2), .val (.int p3), .val (.int p4), .val (.int p5), .val (.int v1), .val (.int v2), .val (.int v3), .val (.ref b4), .val (.ref b8), .val (.ref b27), .val (.int (Nat.toInt32 kn_)), .val (.int q_), .val (.int (own_m v1 v2 v3 e0)), .val (.int (own_m v1 v2 v3 e1)), .val (.int (own_m v1 v2 v3 e2)), .val (.ref c_), .val (.ref b58), .val (.int y_), .val (.int x_), .unset, .unset] [(.int (2 : Int32))]))
              refine own_via (fun _ k => XS.goto X81.here hx rfl (pc0 := 441) (pc' := 445) rfl (hb hby at_441) (by decide) (by decide) k) ?_
              show own_Go p e below s _ _ _ (T81.setTop (mkF m 445 #[.val (.int p0), .val (.int p1), .val (.int p2), .val (.int p3), .val (.int p4), .val (.int p5), .val (.int v1), .val (.int v2), .val (.int v3), .val (.ref b4), .val (.ref b8), .val (.ref b27), .val (.int (Nat.toInt32 kn_)), .val (.int q_), .val (.int (own_m v1 v2 v3 e0)), .val (.int (own_m v1 v2 v3 e1)), .val (.int (own_m v1 v2 v3 e2)), .val (.ref c_), .val (.ref b58), .val (.int y_), .val (.int x_), .unset, .unset] [(.int (2 : Int32))]))
              refine own_via (fun _ k => XS.istore X81.here hx rfl (hb hby at_445) rfl (l' := #[.val (.int p0), .val (.int p1), .val (.int p2), .val (.int p3), .val (.int p4), .val (.int p5), .val (.int v1), .val (.int v2), .val (.int v3), .val (.ref b4), .val (.ref b8), .val (.ref b27), .val (.int (Nat.toInt32 kn_)), .val (.int q_), .val (.int (own_m v1 v2 v3 e0)), .val (.int (own_m v1 v2 v3 e1)), .val (.int (own_m v1 v2 v3 e2)), .val (.ref c_), .val (.ref b58), .val (.int y_), .val (.int x_), .val (.int (2 : Int32)), .unset]) rfl k) ?_
              show own_Go p e below s _ _ _ (T81.setTop (mkF m 447 #[.val (.int p0), .val (.int p1), .val (.int p2), .val (.int p3), .val (.int p4), .val (.int p5), .val (.int v1), .val (.int v2), .val (.int v3), .val (.ref b4), .val (.ref b8), .val (.ref b27), .val (.int (Nat.toInt32 kn_)), .val (.int q_), .val (.int (own_m v1 v2 v3 e0)), .val (.int (own_m v1 v2 v3 e1)), .val (.int (own_m v1 v2 v3 e2)), .val (.ref c_), .val (.ref b58), .val (.int y_), .val (.int x_), .val (.int (2 : Int32)), .unset] []))
              refine own_via (fun _ k => XS.iload X81.here hx rfl (hb hby at_447) rfl k) ?_
              show own_Go p e below s _ _ _ (T81.setTop (mkF m 449 #[.val (.int p0), .val (.int p1), .val (.int p2), .val (.int p3), .val (.int p4), .val (.int p5), .val (.int v1), .val (.int v2), .val (.int v3), .val (.ref b4), .val (.ref b8), .val (.ref b27), .val (.int (Nat.toInt32 kn_)), .val (.int q_), .val (.int (own_m v1 v2 v3 e0)), .val (.int (own_m v1 v2 v3 e1)), .val (.int (own_m v1 v2 v3 e2)), .val (.ref c_), .val (.ref b58), .val (.int y_), .val (.int x_), .val (.int (2 : Int32)), .unset] [(.int (2 : Int32))]))
              refine own_via (fun _ k => XS.ifNo X81.here hx rfl (hb hby at_449) rfl (Jvm.Free.XT.i0_lt_f (by decide)) k) ?_
              show own_Go p e below s _ _ _ (T81.setTop (mkF m 452 #[.val (.int p0), .val (.int p1), .val (.int p2), .val (.int p3), .val (.int p4), .val (.int p5), .val (.int v1), .val (.int v2), .val (.int v3), .val (.ref b4), .val (.ref b8), .val (.ref b27), .val (.int (Nat.toInt32 kn_)), .val (.int q_), .val (.int (own_m v1 v2 v3 e0)), .val (.int (own_m v1 v2 v3 e1)), .val (.int (own_m v1 v2 v3 e2)), .val (.ref c_), .val (.ref b58), .val (.int y_), .val (.int x_), .val (.int (2 : Int32)), .unset] []))
              refine own_via (fun _ k => XS.aload X81.here hx rfl (hb hby at_452) rfl rfl k) ?_
              show own_Go p e below s _ _ _ (T81.setTop (mkF m 454 #[.val (.int p0), .val (.int p1), .val (.int p2), .val (.int p3), .val (.int p4), .val (.int p5), .val (.int v1), .val (.int v2), .val (.int v3), .val (.ref b4), .val (.ref b8), .val (.ref b27), .val (.int (Nat.toInt32 kn_)), .val (.int q_), .val (.int (own_m v1 v2 v3 e0)), .val (.int (own_m v1 v2 v3 e1)), .val (.int (own_m v1 v2 v3 e2)), .val (.ref c_), .val (.ref b58), .val (.int y_), .val (.int x_), .val (.int (2 : Int32)), .unset] [(.ref b27)]))
              refine own_via (fun _ k => XS.iconst X81.here hx rfl (hb hby at_454) k) ?_
              show own_Go p e below s _ _ _ (T81.setTop (mkF m 455 #[.val (.int p0), .val (.int p1), .val (.int p2), .val (.int p3), .val (.int p4), .val (.int p5), .val (.int v1), .val (.int v2), .val (.int v3), .val (.ref b4), .val (.ref b8), .val (.ref b27), .val (.int (Nat.toInt32 kn_)), .val (.int q_), .val (.int (own_m v1 v2 v3 e0)), .val (.int (own_m v1 v2 v3 e1)), .val (.int (own_m v1 v2 v3 e2)), .val (.ref c_), .val (.ref b58), .val (.int y_), .val (.int x_), .val (.int (2 : Int32)), .unset] [(.int (3 : Int32)), (.ref b27)]))
              refine own_via (fun _ k => XS.iload X81.here hx rfl (hb hby at_455) rfl k) ?_
              show own_Go p e below s _ _ _ (T81.setTop (mkF m 457 #[.val (.int p0), .val (.int p1), .val (.int p2), .val (.int p3), .val (.int p4), .val (.int p5), .val (.int v1), .val (.int v2), .val (.int v3), .val (.ref b4), .val (.ref b8), .val (.ref b27), .val (.int (Nat.toInt32 kn_)), .val (.int q_), .val (.int (own_m v1 v2 v3 e0)), .val (.int (own_m v1 v2 v3 e1)), .val (.int (own_m v1 v2 v3 e2)), .val (.ref c_), .val (.ref b58), .val (.int y_), .val (.int x_), .val (.int (2 : Int32)), .unset] [(.int q_), (.int (3 : Int32)), (.ref b27)]))
              refine own_via (fun _ k => XS.imul X81.here hx rfl (hb hby at_457) rfl k) ?_
              show own_Go p e below s _ _ _ (T81.setTop (mkF m 458 #[.val (.int p0), .val (.int p1), .val (.int p2), .val (.int p3), .val (.int p4), .val (.int p5), .val (.int v1), .val (.int v2), .val (.int v3), .val (.ref b4), .val (.ref b8), .val (.ref b27), .val (.int (Nat.toInt32 kn_)), .val (.int q_), .val (.int (own_m v1 v2 v3 e0)), .val (.int (own_m v1 v2 v3 e1)), .val (.int (own_m v1 v2 v3 e2)), .val (.ref c_), .val (.ref b58), .val (.int y_), .val (.int x_), .val (.int (2 : Int32)), .unset] [(.int ((3 : Int32) * q_)), (.ref b27)]))
              refine own_via (fun _ k => XS.iload X81.here hx rfl (hb hby at_458) rfl k) ?_
              show own_Go p e below s _ _ _ (T81.setTop (mkF m 460 #[.val (.int p0), .val (.int p1), .val (.int p2), .val (.int p3), .val (.int p4), .val (.int p5), .val (.int v1), .val (.int v2), .val (.int v3), .val (.ref b4), .val (.ref b8), .val (.ref b27), .val (.int (Nat.toInt32 kn_)), .val (.int q_), .val (.int (own_m v1 v2 v3 e0)), .val (.int (own_m v1 v2 v3 e1)), .val (.int (own_m v1 v2 v3 e2)), .val (.ref c_), .val (.ref b58), .val (.int y_), .val (.int x_), .val (.int (2 : Int32)), .unset] [(.int (2 : Int32)), (.int ((3 : Int32) * q_)), (.ref b27)]))
              refine own_via (fun _ k => XS.iadd X81.here hx rfl (hb hby at_460) rfl k) ?_
              show own_Go p e below s _ _ _ (T81.setTop (mkF m 461 #[.val (.int p0), .val (.int p1), .val (.int p2), .val (.int p3), .val (.int p4), .val (.int p5), .val (.int v1), .val (.int v2), .val (.int v3), .val (.ref b4), .val (.ref b8), .val (.ref b27), .val (.int (Nat.toInt32 kn_)), .val (.int q_), .val (.int (own_m v1 v2 v3 e0)), .val (.int (own_m v1 v2 v3 e1)), .val (.int (own_m v1 v2 v3 e2)), .val (.ref c_), .val (.ref b58), .val (.int y_), .val (.int x_), .val (.int (2 : Int32)), .unset] [(.int (((3 : Int32) * q_) + (2 : Int32))), (.ref b27)]))
              obtain ⟨cl101, Ar101, q101, S101, M101, H101, G101⟩ := (id F85)
              have hin101 : ¬ ((((3 : Int32) * q_) + (2 : Int32)) < 0 ∨ cl101.slots.size ≤ ((((3 : Int32) * q_) + (2 : Int32))).toNatClampNeg) := inb_of S101 hI2
              have hat101 : cl101.slots[((((3 : Int32) * q_) + (2 : Int32))).toNatClampNeg]? = some (.int t2) := Has.at H101 hin101 hV2
              refine own_via (fun _ k => X81.iaload hx (j := (((3 : Int32) * q_) + (2 : Int32))) (v := (.int t2)) (by rw [e81]; exact Ar101.1) (State.isArrayOf_alike hZ.alike Ar101.2.1) Ar101.2.2 hin101 hat101 (g := (mkF m 461 #[.val (.int p0), .val (.int p1), .val (.int p2), .val (.int p3), .val (.int p4), .val (.int p5), .val (.int v1), .val (.int v2), .val (.int v3), .val (.ref b4), .val (.ref b8), .val (.ref b27), .val (.int (Nat.toInt32 kn_)), .val (.int q_), .val (.int (own_m v1 v2 v3 e0)), .val (.int (own_m v1 v2 v3 e1)), .val (.int (own_m v1 v2 v3 e2)), .val (.ref c_), .val (.ref b58), .val (.int y_), .val (.int x_), .val (.int (2 : Int32)), .unset] [(.int (((3 : Int32) * q_) + (2 : Int32))), (.ref b27)])) rfl rfl (hb hby at_461) _ k) ?_
              show own_Go p e below s _ _ _ (T81.setTop (mkF m 462 #[.val (.int p0), .val (.int p1), .val (.int p2), .val (.int p3), .val (.int p4), .val (.int p5), .val (.int v1), .val (.int v2), .val (.int v3), .val (.ref b4), .val (.ref b8), .val (.ref b27), .val (.int (Nat.toInt32 kn_)), .val (.int q_), .val (.int (own_m v1 v2 v3 e0)), .val (.int (own_m v1 v2 v3 e1)), .val (.int (own_m v1 v2 v3 e2)), .val (.ref c_), .val (.ref b58), .val (.int y_), .val (.int x_), .val (.int (2 : Int32)), .unset] [(.int t2)]))
              refine own_via (fun _ k => XS.iload X81.here hx rfl (hb hby at_462) rfl k) ?_
              show own_Go p e below s _ _ _ (T81.setTop (mkF m 464 #[.val (.int p0), .val (.int p1), .val (.int p2), .val (.int p3), .val (.int p4), .val (.int p5), .val (.int v1), .val (.int v2), .val (.int v3), .val (.ref b4), .val (.ref b8), .val (.ref b27), .val (.int (Nat.toInt32 kn_)), .val (.int q_), .val (.int (own_m v1 v2 v3 e0)), .val (.int (own_m v1 v2 v3 e1)), .val (.int (own_m v1 v2 v3 e2)), .val (.ref c_), .val (.ref b58), .val (.int y_), .val (.int x_), .val (.int (2 : Int32)), .unset] [(.int (Nat.toInt32 kn_)), (.int t2)]))
              by_cases hc102 : t2 < (Nat.toInt32 kn_)
              · refine own_via (fun _ k => XS.icmpNo X81.here hx rfl (hb hby at_464) rfl (Jvm.Free.XT.ii_ge_f hc102) k) ?_
                show own_Go p e below s _ _ _ (T81.setTop (mkF m 467 #[.val (.int p0), .val (.int p1), .val (.int p2), .val (.int p3), .val (.int p4), .val (.int p5), .val (.int v1), .val (.int v2), .val (.int v3), .val (.ref b4), .val (.ref b8), .val (.ref b27), .val (.int (Nat.toInt32 kn_)), .val (.int q_), .val (.int (own_m v1 v2 v3 e0)), .val (.int (own_m v1 v2 v3 e1)), .val (.int (own_m v1 v2 v3 e2)), .val (.ref c_), .val (.ref b58), .val (.int y_), .val (.int x_), .val (.int (2 : Int32)), .unset] []))
                refine own_via (fun _ k => XS.iconst X81.here hx rfl (hb hby at_467) k) ?_
                show own_Go p e below s _ _ _ (T81.setTop (mkF m 468 #[.val (.int p0), .val (.int p1), .val (.int p2), .val (.int p3), .val (.int p4), .val (.int p5), .val (.int v1), .val (.int v2), .val (.int v3), .val (.ref b4), .val (.ref b8), .val (.ref b27), .val (.int (Nat.toInt32 kn_)), .val (.int q_), .val (.int (own_m v1 v2 v3 e0)), .val (.int (own_m v1 v2 v3 e1)), .val (.int (own_m v1 v2 v3 e2)), .val (.ref c_), .val (.ref b58), .val (.int y_), .val (.int x_), .val (.int (2 : Int32)), .unset] [(.int (1 : Int32))]))
                refine own_via (fun _ k => XS.goto X81.here hx rfl (pc0 := 468) (pc' := 472) rfl (hb hby at_468) (by decide) (by decide) k) ?_
                show own_Go p e below s _ _ _ (T81.setTop (mkF m 472 #[.val (.int p0), .val (.int p1), .val (.int p2), .val (.int p3), .val (.int p4), .val (.int p5), .val (.int v1), .val (.int v2), .val (.int v3), .val (.ref b4), .val (.ref b8), .val (.ref b27), .val (.int (Nat.toInt32 kn_)), .val (.int q_), .val (.int (own_m v1 v2 v3 e0)), .val (.int (own_m v1 v2 v3 e1)), .val (.int (own_m v1 v2 v3 e2)), .val (.ref c_), .val (.ref b58), .val (.int y_), .val (.int x_), .val (.int (2 : Int32)), .unset] [(.int (1 : Int32))]))
                refine own_via (fun _ k => XS.istore X81.here hx rfl (hb hby at_472) rfl (l' := #[.val (.int p0), .val (.int p1), .val (.int p2), .val (.int p3), .val (.int p4), .val (.int p5), .val (.int v1), .val (.int v2), .val (.int v3), .val (.ref b4), .val (.ref b8), .val (.ref b27), .val (.int (Nat.toInt32 kn_)), .val (.int q_), .val (.int (own_m v1 v2 v3 e0)), .val (.int (own_m v1 v2 v3 e1)), .val (.int (own_m v1 v2 v3 e2)), .val (.ref c_), .val (.ref b58), .val (.int y_), .val (.int x_), .val (.int (2 : Int32)), .val (.int (1 : Int32))]) rfl k) ?_
                show own_Go p e below s _ _ _ (T81.setTop (mkF m 474 #[.val (.int p0), .val (.int p1), .val (.int p2), .val (.int p3), .val (.int p4), .val (.int p5), .val (.int v1), .val (.int v2), .val (.int v3), .val (.ref b4), .val (.ref b8), .val (.ref b27), .val (.int (Nat.toInt32 kn_)), .val (.int q_), .val (.int (own_m v1 v2 v3 e0)), .val (.int (own_m v1 v2 v3 e1)), .val (.int (own_m v1 v2 v3 e2)), .val (.ref c_), .val (.ref b58), .val (.int y_), .val (.int x_), .val (.int (2 : Int32)), .val (.int (1 : Int32))] []))
                refine own_via (fun _ k => XS.aload X81.here hx rfl (hb hby at_474) rfl rfl k) ?_
                show own_Go p e below s _ _ _ (T81.setTop (mkF m 476 #[.val (.int p0), .val (.int p1), .val (.int p2), .val (.int p3), .val (.int p4), .val (.int p5), .val (.int v1), .val (.int v2), .val (.int v3), .val (.ref b4), .val (.ref b8), .val (.ref b27), .val (.int (Nat.toInt32 kn_)), .val (.int q_), .val (.int (own_m v1 v2 v3 e0)), .val (.int (own_m v1 v2 v3 e1)), .val (.int (own_m v1 v2 v3 e2)), .val (.ref c_), .val (.ref b58), .val (.int y_), .val (.int x_), .val (.int (2 : Int32)), .val (.int (1 : Int32))] [(.ref b58)]))
                refine own_via (fun _ k => XS.iload X81.here hx rfl (hb hby at_476) rfl k) ?_
                show own_Go p e below s _ _ _ (T81.setTop (mkF m 478 #[.val (.int p0), .val (.int p1), .val (.int p2), .val (.int p3), .val (.int p4), .val (.int p5), .val (.int v1), .val (.int v2), .val (.int v3), .val (.ref b4), .val (.ref b8), .val (.ref b27), .val (.int (Nat.toInt32 kn_)), .val (.int q_), .val (.int (own_m v1 v2 v3 e0)), .val (.int (own_m v1 v2 v3 e1)), .val (.int (own_m v1 v2 v3 e2)), .val (.ref c_), .val (.ref b58), .val (.int y_), .val (.int x_), .val (.int (2 : Int32)), .val (.int (1 : Int32))] [(.int x_), (.ref b58)]))
                obtain ⟨cq103, kq103, qa103, qb103, qc103⟩ := isOf hZ e81 F82
                obtain ⟨_, _, ⟨T103, L103, k103, n103⟩, -, X103, ⟨Lc103, hQ103, l103, y103, z103⟩, st103⟩ := X81.virtualBack hx (y := (⟨"com/example/greenbelt/greenbelt/model/Token", "queues", "(I)Z"⟩ : MethodName)) (z := (⟨"com/example/greenbelt/greenbelt/model/Token", "queues", "(I)Z"⟩ : MethodName)) hown (mvT hZ (hw _ (List.mem_of_getElem? (i := 46) rfl))) (mvT hZ (hw _ (List.mem_of_getElem? (i := 47) rfl))) (notFace_of_selects (args := #[]) (mvT hZ (hw _ (List.mem_of_getElem? (i := 49) rfl)))) (mvT hZ (hw _ (List.mem_of_getElem? (i := 49) rfl))) (mvT hZ (hw _ (List.mem_of_getElem? (i := 48) rfl))) (by decide) (backOf (W := 0) (rm6 l Z a0 hw [] b58 x_ cq_66 kc_ kn_ (es_.map (own_m v1 v2 v3)) h81 n0 Z81 F83 F84 hk2) hZ (hw _ (List.mem_of_getElem? (i := 50) rfl)) (hw _ (List.mem_of_getElem? (i := 4) rfl)) (by decide) (by decide)) qa103 qc103 (g := (mkF m 478 #[.val (.int p0), .val (.int p1), .val (.int p2), .val (.int p3), .val (.int p4), .val (.int p5), .val (.int v1), .val (.int v2), .val (.int v3), .val (.ref b4), .val (.ref b8), .val (.ref b27), .val (.int (Nat.toInt32 kn_)), .val (.int q_), .val (.int (own_m v1 v2 v3 e0)), .val (.int (own_m v1 v2 v3 e1)), .val (.int (own_m v1 v2 v3 e2)), .val (.ref c_), .val (.ref b58), .val (.int y_), .val (.int x_), .val (.int (2 : Int32)), .val (.int (1 : Int32))] [(.int x_), (.ref b58)])) rfl (by rw [hml]; rfl) (Steps.refl _) (argsL := [(.int x_)]) (rest := []) (lenOf pd_4 rfl) rfl (by show 2 * 0 + _ ≤ _; exact Nat.le_of_eq rfl) (hb hby at_478) (fun _ _ => ⟨rfl, e81, (by decide : 10 + 0 ≤ _), (by decide : 60 + 0 ≤ _)⟩)
                dsimp only [Pt.U, Pt.locs, Pt.cells, Pt.slots] at X103 l103 y103 z103 st103 hQ103
                subst l103 y103 z103
                obtain ⟨rfl, N103q, e103⟩ := hQ103
                have N103 := Fr.app N81 N103q
                refine own_viaT st103 ?_
                show own_Go p e below s _ _ _ (T103.setTop (mkF m 481 #[.val (.int p0), .val (.int p1), .val (.int p2), .val (.int p3), .val (.int p4), .val (.int p5), .val (.int v1), .val (.int v2), .val (.int v3), .val (.ref b4), .val (.ref b8), .val (.ref b27), .val (.int (Nat.toInt32 kn_)), .val (.int q_), .val (.int (own_m v1 v2 v3 e0)), .val (.int (own_m v1 v2 v3 e1)), .val (.int (own_m v1 v2 v3 e2)), .val (.ref c_), .val (.ref b58), .val (.int y_), .val (.int x_), .val (.int (2 : Int32)), .val (.int (1 : Int32))] [(.int (own_qs (es_.map (own_m v1 v2 v3)) x_ kn_ 0))]))
                refine own_via (fun _ k => XS.iload X103.here hx rfl (hb hby at_481) rfl k) ?_
                show own_Go p e below s _ _ _ (T103.setTop (mkF m 483 #[.val (.int p0), .val (.int p1), .val (.int p2), .val (.int p3), .val (.int p4), .val (.int p5), .val (.int v1), .val (.int v2), .val (.int v3), .val (.ref b4), .val (.ref b8), .val (.ref b27), .val (.int (Nat.toInt32 kn_)), .val (.int q_), .val (.int (own_m v1 v2 v3 e0)), .val (.int (own_m v1 v2 v3 e1)), .val (.int (own_m v1 v2 v3 e2)), .val (.ref c_), .val (.ref b58), .val (.int y_), .val (.int x_), .val (.int (2 : Int32)), .val (.int (1 : Int32))] [(.int (1 : Int32)), (.int (own_qs (es_.map (own_m v1 v2 v3)) x_ kn_ 0))]))
                have hc104 : (own_qs (es_.map (own_m v1 v2 v3)) x_ kn_ 0) = (1 : Int32) := ((own_f (x := x_) hP hA1 hA2 hk).2.2.1 (Eq.symm hc100)).trans (if_pos hc102)
                refine own_via (fun _ k => XS.icmpNo X103.here hx rfl (hb hby at_483) rfl (Jvm.Free.XT.ii_ne_f hc104) k) ?_
                show own_Go p e below s _ _ _ (T103.setTop (mkF m 486 #[.val (.int p0), .val (.int p1), .val (.int p2), .val (.int p3), .val (.int p4), .val (.int p5), .val (.int v1), .val (.int v2), .val (.int v3), .val (.ref b4), .val (.ref b8), .val (.ref b27), .val (.int (Nat.toInt32 kn_)), .val (.int q_), .val (.int (own_m v1 v2 v3 e0)), .val (.int (own_m v1 v2 v3 e1)), .val (.int (own_m v1 v2 v3 e2)), .val (.ref c_), .val (.ref b58), .val (.int y_), .val (.int x_), .val (.int (2 : Int32)), .val (.int (1 : Int32))] []))
                refine own_via (fun _ k => XS.iconst X103.here hx rfl (hb hby at_486) k) ?_
                show own_Go p e below s _ _ _ (T103.setTop (mkF m 487 #[.val (.int p0), .val (.int p1), .val (.int p2), .val (.int p3), .val (.int p4), .val (.int p5), .val (.int v1), .val (.int v2), .val (.int v3), .val (.ref b4), .val (.ref b8), .val (.ref b27), .val (.int (Nat.toInt32 kn_)), .val (.int q_), .val (.int (own_m v1 v2 v3 e0)), .val (.int (own_m v1 v2 v3 e1)), .val (.int (own_m v1 v2 v3 e2)), .val (.ref c_), .val (.ref b58), .val (.int y_), .val (.int x_), .val (.int (2 : Int32)), .val (.int (1 : Int32))] [(.int (1 : Int32))]))
                refine own_via (fun _ k => XS.goto X103.here hx rfl (pc0 := 487) (pc' := 491) rfl (hb hby at_487) (by decide) (by decide) k) ?_
                show own_Go p e below s _ _ _ (T103.setTop (mkF m 491 #[.val (.int p0), .val (.int p1), .val (.int p2), .val (.int p3), .val (.int p4), .val (.int p5), .val (.int v1), .val (.int v2), .val (.int v3), .val (.ref b4), .val (.ref b8), .val (.ref b27), .val (.int (Nat.toInt32 kn_)), .val (.int q_), .val (.int (own_m v1 v2 v3 e0)), .val (.int (own_m v1 v2 v3 e1)), .val (.int (own_m v1 v2 v3 e2)), .val (.ref c_), .val (.ref b58), .val (.int y_), .val (.int x_), .val (.int (2 : Int32)), .val (.int (1 : Int32))] [(.int (1 : Int32))]))
                exact own_goN X103 hx (t := .boolean) Bd.returns (by simp) (hb hby at_491) Bd.notSynchronized (by decide) (by decide) (by rw [e103]; exact ⟨rfl, N103⟩)
              · refine own_via (fun _ k => XS.icmpYes X81.here hx rfl (pc0 := 464) (pc' := 471) rfl (hb hby at_464) rfl (Jvm.Free.XT.ii_ge_t hc102) (by decide) (by decide) k) ?_
                show own_Go p e below s _ _ _ (T81.setTop (mkF m 471 #[.val (.int p0), .val (.int p1), .val (.int p2), .val (.int p3), .val (.int p4), .val (.int p5), .val (.int v1), .val (.int v2), .val (.int v3), .val (.ref b4), .val (.ref b8), .val (.ref b27), .val (.int (Nat.toInt32 kn_)), .val (.int q_), .val (.int (own_m v1 v2 v3 e0)), .val (.int (own_m v1 v2 v3 e1)), .val (.int (own_m v1 v2 v3 e2)), .val (.ref c_), .val (.ref b58), .val (.int y_), .val (.int x_), .val (.int (2 : Int32)), .unset] []))
                refine own_via (fun _ k => XS.iconst X81.here hx rfl (hb hby at_471) k) ?_
                show own_Go p e below s _ _ _ (T81.setTop (mkF m 472 #[.val (.int p0), .val (.int p1), .val (.int p2), .val (.int p3), .val (.int p4), .val (.int p5), .val (.int v1), .val (.int v2), .val (.int v3), .val (.ref b4), .val (.ref b8), .val (.ref b27), .val (.int (Nat.toInt32 kn_)), .val (.int q_), .val (.int (own_m v1 v2 v3 e0)), .val (.int (own_m v1 v2 v3 e1)), .val (.int (own_m v1 v2 v3 e2)), .val (.ref c_), .val (.ref b58), .val (.int y_), .val (.int x_), .val (.int (2 : Int32)), .unset] [(.int (0 : Int32))]))
                refine own_via (fun _ k => XS.istore X81.here hx rfl (hb hby at_472) rfl (l' := #[.val (.int p0), .val (.int p1), .val (.int p2), .val (.int p3), .val (.int p4), .val (.int p5), .val (.int v1), .val (.int v2), .val (.int v3), .val (.ref b4), .val (.ref b8), .val (.ref b27), .val (.int (Nat.toInt32 kn_)), .val (.int q_), .val (.int (own_m v1 v2 v3 e0)), .val (.int (own_m v1 v2 v3 e1)), .val (.int (own_m v1 v2 v3 e2)), .val (.ref c_), .val (.ref b58), .val (.int y_), .val (.int x_), .val (.int (2 : Int32)), .val (.int (0 : Int32))]) rfl k) ?_
                show own_Go p e below s _ _ _ (T81.setTop (mkF m 474 #[.val (.int p0), .val (.int p1), .val (.int p2), .val (.int p3), .val (.int p4), .val (.int p5), .val (.int v1), .val (.int v2), .val (.int v3), .val (.ref b4), .val (.ref b8), .val (.ref b27), .val (.int (Nat.toInt32 kn_)), .val (.int q_), .val (.int (own_m v1 v2 v3 e0)), .val (.int (own_m v1 v2 v3 e1)), .val (.int (own_m v1 v2 v3 e2)), .val (.ref c_), .val (.ref b58), .val (.int y_), .val (.int x_), .val (.int (2 : Int32)), .val (.int (0 : Int32))] []))
                refine own_via (fun _ k => XS.aload X81.here hx rfl (hb hby at_474) rfl rfl k) ?_
                show own_Go p e below s _ _ _ (T81.setTop (mkF m 476 #[.val (.int p0), .val (.int p1), .val (.int p2), .val (.int p3), .val (.int p4), .val (.int p5), .val (.int v1), .val (.int v2), .val (.int v3), .val (.ref b4), .val (.ref b8), .val (.ref b27), .val (.int (Nat.toInt32 kn_)), .val (.int q_), .val (.int (own_m v1 v2 v3 e0)), .val (.int (own_m v1 v2 v3 e1)), .val (.int (own_m v1 v2 v3 e2)), .val (.ref c_), .val (.ref b58), .val (.int y_), .val (.int x_), .val (.int (2 : Int32)), .val (.int (0 : Int32))] [(.ref b58)]))
                refine own_via (fun _ k => XS.iload X81.here hx rfl (hb hby at_476) rfl k) ?_
                show own_Go p e below s _ _ _ (T81.setTop (mkF m 478 #[.val (.int p0), .val (.int p1), .val (.int p2), .val (.int p3), .val (.int p4), .val (.int p5), .val (.int v1), .val (.int v2), .val (.int v3), .val (.ref b4), .val (.ref b8), .val (.ref b27), .val (.int (Nat.toInt32 kn_)), .val (.int q_), .val (.int (own_m v1 v2 v3 e0)), .val (.int (own_m v1 v2 v3 e1)), .val (.int (own_m v1 v2 v3 e2)), .val (.ref c_), .val (.ref b58), .val (.int y_), .val (.int x_), .val (.int (2 : Int32)), .val (.int (0 : Int32))] [(.int x_), (.ref b58)]))
                obtain ⟨cq105, kq105, qa105, qb105, qc105⟩ := isOf hZ e81 F82
                obtain ⟨_, _, ⟨T105, L105, k105, n105⟩, -, X105, ⟨Lc105, hQ105, l105, y105, z105⟩, st105⟩ := X81.virtualBack hx (y := (⟨"com/example/greenbelt/greenbelt/model/Token", "queues", "(I)Z"⟩ : MethodName)) (z := (⟨"com/example/greenbelt/greenbelt/model/Token", "queues", "(I)Z"⟩ : MethodName)) hown (mvT hZ (hw _ (List.mem_of_getElem? (i := 46) rfl))) (mvT hZ (hw _ (List.mem_of_getElem? (i := 47) rfl))) (notFace_of_selects (args := #[]) (mvT hZ (hw _ (List.mem_of_getElem? (i := 49) rfl)))) (mvT hZ (hw _ (List.mem_of_getElem? (i := 49) rfl))) (mvT hZ (hw _ (List.mem_of_getElem? (i := 48) rfl))) (by decide) (backOf (W := 0) (rm6 l Z a0 hw [] b58 x_ cq_66 kc_ kn_ (es_.map (own_m v1 v2 v3)) h81 n0 Z81 F83 F84 hk2) hZ (hw _ (List.mem_of_getElem? (i := 50) rfl)) (hw _ (List.mem_of_getElem? (i := 4) rfl)) (by decide) (by decide)) qa105 qc105 (g := (mkF m 478 #[.val (.int p0), .val (.int p1), .val (.int p2), .val (.int p3), .val (.int p4), .val (.int p5), .val (.int v1), .val (.int v2), .val (.int v3), .val (.ref b4), .val (.ref b8), .val (.ref b27), .val (.int (Nat.toInt32 kn_)), .val (.int q_), .val (.int (own_m v1 v2 v3 e0)), .val (.int (own_m v1 v2 v3 e1)), .val (.int (own_m v1 v2 v3 e2)), .val (.ref c_), .val (.ref b58), .val (.int y_), .val (.int x_), .val (.int (2 : Int32)), .val (.int (0 : Int32))] [(.int x_), (.ref b58)])) rfl (by rw [hml]; rfl) (Steps.refl _) (argsL := [(.int x_)]) (rest := []) (lenOf pd_4 rfl) rfl (by show 2 * 0 + _ ≤ _; exact Nat.le_of_eq rfl) (hb hby at_478) (fun _ _ => ⟨rfl, e81, (by decide : 10 + 0 ≤ _), (by decide : 60 + 0 ≤ _)⟩)
                dsimp only [Pt.U, Pt.locs, Pt.cells, Pt.slots] at X105 l105 y105 z105 st105 hQ105
                subst l105 y105 z105
                obtain ⟨rfl, N105q, e105⟩ := hQ105
                have N105 := Fr.app N81 N105q
                refine own_viaT st105 ?_
                show own_Go p e below s _ _ _ (T105.setTop (mkF m 481 #[.val (.int p0), .val (.int p1), .val (.int p2), .val (.int p3), .val (.int p4), .val (.int p5), .val (.int v1), .val (.int v2), .val (.int v3), .val (.ref b4), .val (.ref b8), .val (.ref b27), .val (.int (Nat.toInt32 kn_)), .val (.int q_), .val (.int (own_m v1 v2 v3 e0)), .val (.int (own_m v1 v2 v3 e1)), .val (.int (own_m v1 v2 v3 e2)), .val (.ref c_), .val (.ref b58), .val (.int y_), .val (.int x_), .val (.int (2 : Int32)), .val (.int (0 : Int32))] [(.int (own_qs (es_.map (own_m v1 v2 v3)) x_ kn_ 0))]))
                refine own_via (fun _ k => XS.iload X105.here hx rfl (hb hby at_481) rfl k) ?_
                show own_Go p e below s _ _ _ (T105.setTop (mkF m 483 #[.val (.int p0), .val (.int p1), .val (.int p2), .val (.int p3), .val (.int p4), .val (.int p5), .val (.int v1), .val (.int v2), .val (.int v3), .val (.ref b4), .val (.ref b8), .val (.ref b27), .val (.int (Nat.toInt32 kn_)), .val (.int q_), .val (.int (own_m v1 v2 v3 e0)), .val (.int (own_m v1 v2 v3 e1)), .val (.int (own_m v1 v2 v3 e2)), .val (.ref c_), .val (.ref b58), .val (.int y_), .val (.int x_), .val (.int (2 : Int32)), .val (.int (0 : Int32))] [(.int (0 : Int32)), (.int (own_qs (es_.map (own_m v1 v2 v3)) x_ kn_ 0))]))
                have hc106 : (own_qs (es_.map (own_m v1 v2 v3)) x_ kn_ 0) = (0 : Int32) := ((own_f (x := x_) hP hA1 hA2 hk).2.2.1 (Eq.symm hc100)).trans (if_neg hc102)
                refine own_via (fun _ k => XS.icmpNo X105.here hx rfl (hb hby at_483) rfl (Jvm.Free.XT.ii_ne_f hc106) k) ?_
                show own_Go p e below s _ _ _ (T105.setTop (mkF m 486 #[.val (.int p0), .val (.int p1), .val (.int p2), .val (.int p3), .val (.int p4), .val (.int p5), .val (.int v1), .val (.int v2), .val (.int v3), .val (.ref b4), .val (.ref b8), .val (.ref b27), .val (.int (Nat.toInt32 kn_)), .val (.int q_), .val (.int (own_m v1 v2 v3 e0)), .val (.int (own_m v1 v2 v3 e1)), .val (.int (own_m v1 v2 v3 e2)), .val (.ref c_), .val (.ref b58), .val (.int y_), .val (.int x_), .val (.int (2 : Int32)), .val (.int (0 : Int32))] []))
                refine own_via (fun _ k => XS.iconst X105.here hx rfl (hb hby at_486) k) ?_
                show own_Go p e below s _ _ _ (T105.setTop (mkF m 487 #[.val (.int p0), .val (.int p1), .val (.int p2), .val (.int p3), .val (.int p4), .val (.int p5), .val (.int v1), .val (.int v2), .val (.int v3), .val (.ref b4), .val (.ref b8), .val (.ref b27), .val (.int (Nat.toInt32 kn_)), .val (.int q_), .val (.int (own_m v1 v2 v3 e0)), .val (.int (own_m v1 v2 v3 e1)), .val (.int (own_m v1 v2 v3 e2)), .val (.ref c_), .val (.ref b58), .val (.int y_), .val (.int x_), .val (.int (2 : Int32)), .val (.int (0 : Int32))] [(.int (1 : Int32))]))
                refine own_via (fun _ k => XS.goto X105.here hx rfl (pc0 := 487) (pc' := 491) rfl (hb hby at_487) (by decide) (by decide) k) ?_
                show own_Go p e below s _ _ _ (T105.setTop (mkF m 491 #[.val (.int p0), .val (.int p1), .val (.int p2), .val (.int p3), .val (.int p4), .val (.int p5), .val (.int v1), .val (.int v2), .val (.int v3), .val (.ref b4), .val (.ref b8), .val (.ref b27), .val (.int (Nat.toInt32 kn_)), .val (.int q_), .val (.int (own_m v1 v2 v3 e0)), .val (.int (own_m v1 v2 v3 e1)), .val (.int (own_m v1 v2 v3 e2)), .val (.ref c_), .val (.ref b58), .val (.int y_), .val (.int x_), .val (.int (2 : Int32)), .val (.int (0 : Int32))] [(.int (1 : Int32))]))
                exact own_goN X105 hx (t := .boolean) Bd.returns (by simp) (hb hby at_491) Bd.notSynchronized (by decide) (by decide) (by rw [e105]; exact ⟨rfl, N105⟩)
            · refine own_via (fun _ k => XS.icmpYes X81.here hx rfl (pc0 := 437) (pc' := 444) rfl (hb hby at_437) rfl (Jvm.Free.XT.ii_ne_t hc100) (by decide) (by decide) k) ?_
              show own_Go p e below s _ _ _ (T81.setTop (mkF m 444 #[.val (.int p0), .val (.int p1), .val (.int p2), .val (.int p3), .val (.int p4), .val (.int p5), .val (.int v1), .val (.int v2), .val (.int v3), .val (.ref b4), .val (.ref b8), .val (.ref b27), .val (.int (Nat.toInt32 kn_)), .val (.int q_), .val (.int (own_m v1 v2 v3 e0)), .val (.int (own_m v1 v2 v3 e1)), .val (.int (own_m v1 v2 v3 e2)), .val (.ref c_), .val (.ref b58), .val (.int y_), .val (.int x_), .unset, .unset] []))
              refine own_via (fun _ k => XS.iconst X81.here hx rfl (hb hby at_444) k) ?_
              show own_Go p e below s _ _ _ (T81.setTop (mkF m 445 #[.val (.int p0), .val (.int p1), .val (.int p2), .val (.int p3), .val (.int p4), .val (.int p5), .val (.int v1), .val (.int v2), .val (.int v3), .val (.ref b4), .val (.ref b8), .val (.ref b27), .val (.int (Nat.toInt32 kn_)), .val (.int q_), .val (.int (own_m v1 v2 v3 e0)), .val (.int (own_m v1 v2 v3 e1)), .val (.int (own_m v1 v2 v3 e2)), .val (.ref c_), .val (.ref b58), .val (.int y_), .val (.int x_), .unset, .unset] [(.int (-1 : Int32))]))
              refine own_via (fun _ k => XS.istore X81.here hx rfl (hb hby at_445) rfl (l' := #[.val (.int p0), .val (.int p1), .val (.int p2), .val (.int p3), .val (.int p4), .val (.int p5), .val (.int v1), .val (.int v2), .val (.int v3), .val (.ref b4), .val (.ref b8), .val (.ref b27), .val (.int (Nat.toInt32 kn_)), .val (.int q_), .val (.int (own_m v1 v2 v3 e0)), .val (.int (own_m v1 v2 v3 e1)), .val (.int (own_m v1 v2 v3 e2)), .val (.ref c_), .val (.ref b58), .val (.int y_), .val (.int x_), .val (.int (-1 : Int32)), .unset]) rfl k) ?_
              show own_Go p e below s _ _ _ (T81.setTop (mkF m 447 #[.val (.int p0), .val (.int p1), .val (.int p2), .val (.int p3), .val (.int p4), .val (.int p5), .val (.int v1), .val (.int v2), .val (.int v3), .val (.ref b4), .val (.ref b8), .val (.ref b27), .val (.int (Nat.toInt32 kn_)), .val (.int q_), .val (.int (own_m v1 v2 v3 e0)), .val (.int (own_m v1 v2 v3 e1)), .val (.int (own_m v1 v2 v3 e2)), .val (.ref c_), .val (.ref b58), .val (.int y_), .val (.int x_), .val (.int (-1 : Int32)), .unset] []))
              refine own_via (fun _ k => XS.iload X81.here hx rfl (hb hby at_447) rfl k) ?_
              show own_Go p e below s _ _ _ (T81.setTop (mkF m 449 #[.val (.int p0), .val (.int p1), .val (.int p2), .val (.int p3), .val (.int p4), .val (.int p5), .val (.int v1), .val (.int v2), .val (.int v3), .val (.ref b4), .val (.ref b8), .val (.ref b27), .val (.int (Nat.toInt32 kn_)), .val (.int q_), .val (.int (own_m v1 v2 v3 e0)), .val (.int (own_m v1 v2 v3 e1)), .val (.int (own_m v1 v2 v3 e2)), .val (.ref c_), .val (.ref b58), .val (.int y_), .val (.int x_), .val (.int (-1 : Int32)), .unset] [(.int (-1 : Int32))]))
              refine own_via (fun _ k => XS.ifYes X81.here hx rfl (pc0 := 449) (pc' := 471) rfl (hb hby at_449) rfl (Jvm.Free.XT.i0_lt_t (by decide)) (by decide) (by decide) k) ?_
              show own_Go p e below s _ _ _ (T81.setTop (mkF m 471 #[.val (.int p0), .val (.int p1), .val (.int p2), .val (.int p3), .val (.int p4), .val (.int p5), .val (.int v1), .val (.int v2), .val (.int v3), .val (.ref b4), .val (.ref b8), .val (.ref b27), .val (.int (Nat.toInt32 kn_)), .val (.int q_), .val (.int (own_m v1 v2 v3 e0)), .val (.int (own_m v1 v2 v3 e1)), .val (.int (own_m v1 v2 v3 e2)), .val (.ref c_), .val (.ref b58), .val (.int y_), .val (.int x_), .val (.int (-1 : Int32)), .unset] []))
              refine own_via (fun _ k => XS.iconst X81.here hx rfl (hb hby at_471) k) ?_
              show own_Go p e below s _ _ _ (T81.setTop (mkF m 472 #[.val (.int p0), .val (.int p1), .val (.int p2), .val (.int p3), .val (.int p4), .val (.int p5), .val (.int v1), .val (.int v2), .val (.int v3), .val (.ref b4), .val (.ref b8), .val (.ref b27), .val (.int (Nat.toInt32 kn_)), .val (.int q_), .val (.int (own_m v1 v2 v3 e0)), .val (.int (own_m v1 v2 v3 e1)), .val (.int (own_m v1 v2 v3 e2)), .val (.ref c_), .val (.ref b58), .val (.int y_), .val (.int x_), .val (.int (-1 : Int32)), .unset] [(.int (0 : Int32))]))
              refine own_via (fun _ k => XS.istore X81.here hx rfl (hb hby at_472) rfl (l' := #[.val (.int p0), .val (.int p1), .val (.int p2), .val (.int p3), .val (.int p4), .val (.int p5), .val (.int v1), .val (.int v2), .val (.int v3), .val (.ref b4), .val (.ref b8), .val (.ref b27), .val (.int (Nat.toInt32 kn_)), .val (.int q_), .val (.int (own_m v1 v2 v3 e0)), .val (.int (own_m v1 v2 v3 e1)), .val (.int (own_m v1 v2 v3 e2)), .val (.ref c_), .val (.ref b58), .val (.int y_), .val (.int x_), .val (.int (-1 : Int32)), .val (.int (0 : Int32))]) rfl k) ?_
              show own_Go p e below s _ _ _ (T81.setTop (mkF m 474 #[.val (.int p0), .val (.int p1), .val (.int p2), .val (.int p3), .val (.int p4), .val (.int p5), .val (.int v1), .val (.int v2), .val (.int v3), .val (.ref b4), .val (.ref b8), .val (.ref b27), .val (.int (Nat.toInt32 kn_)), .val (.int q_), .val (.int (own_m v1 v2 v3 e0)), .val (.int (own_m v1 v2 v3 e1)), .val (.int (own_m v1 v2 v3 e2)), .val (.ref c_), .val (.ref b58), .val (.int y_), .val (.int x_), .val (.int (-1 : Int32)), .val (.int (0 : Int32))] []))
              refine own_via (fun _ k => XS.aload X81.here hx rfl (hb hby at_474) rfl rfl k) ?_
              show own_Go p e below s _ _ _ (T81.setTop (mkF m 476 #[.val (.int p0), .val (.int p1), .val (.int p2), .val (.int p3), .val (.int p4), .val (.int p5), .val (.int v1), .val (.int v2), .val (.int v3), .val (.ref b4), .val (.ref b8), .val (.ref b27), .val (.int (Nat.toInt32 kn_)), .val (.int q_), .val (.int (own_m v1 v2 v3 e0)), .val (.int (own_m v1 v2 v3 e1)), .val (.int (own_m v1 v2 v3 e2)), .val (.ref c_), .val (.ref b58), .val (.int y_), .val (.int x_), .val (.int (-1 : Int32)), .val (.int (0 : Int32))] [(.ref b58)]))
              refine own_via (fun _ k => XS.iload X81.here hx rfl (hb hby at_476) rfl k) ?_
              show own_Go p e below s _ _ _ (T81.setTop (mkF m 478 #[.val (.int p0), .val (.int p1), .val (.int p2), .val (.int p3), .val (.int p4), .val (.int p5), .val (.int v1), .val (.int v2), .val (.int v3), .val (.ref b4), .val (.ref b8), .val (.ref b27), .val (.int (Nat.toInt32 kn_)), .val (.int q_), .val (.int (own_m v1 v2 v3 e0)), .val (.int (own_m v1 v2 v3 e1)), .val (.int (own_m v1 v2 v3 e2)), .val (.ref c_), .val (.ref b58), .val (.int y_), .val (.int x_), .val (.int (-1 : Int32)), .val (.int (0 : Int32))] [(.int x_), (.ref b58)]))
              obtain ⟨cq107, kq107, qa107, qb107, qc107⟩ := isOf hZ e81 F82
              obtain ⟨_, _, ⟨T107, L107, k107, n107⟩, -, X107, ⟨Lc107, hQ107, l107, y107, z107⟩, st107⟩ := X81.virtualBack hx (y := (⟨"com/example/greenbelt/greenbelt/model/Token", "queues", "(I)Z"⟩ : MethodName)) (z := (⟨"com/example/greenbelt/greenbelt/model/Token", "queues", "(I)Z"⟩ : MethodName)) hown (mvT hZ (hw _ (List.mem_of_getElem? (i := 46) rfl))) (mvT hZ (hw _ (List.mem_of_getElem? (i := 47) rfl))) (notFace_of_selects (args := #[]) (mvT hZ (hw _ (List.mem_of_getElem? (i := 49) rfl)))) (mvT hZ (hw _ (List.mem_of_getElem? (i := 49) rfl))) (mvT hZ (hw _ (List.mem_of_getElem? (i := 48) rfl))) (by decide) (backOf (W := 0) (rm6 l Z a0 hw [] b58 x_ cq_66 kc_ kn_ (es_.map (own_m v1 v2 v3)) h81 n0 Z81 F83 F84 hk2) hZ (hw _ (List.mem_of_getElem? (i := 50) rfl)) (hw _ (List.mem_of_getElem? (i := 4) rfl)) (by decide) (by decide)) qa107 qc107 (g := (mkF m 478 #[.val (.int p0), .val (.int p1), .val (.int p2), .val (.int p3), .val (.int p4), .val (.int p5), .val (.int v1), .val (.int v2), .val (.int v3), .val (.ref b4), .val (.ref b8), .val (.ref b27), .val (.int (Nat.toInt32 kn_)), .val (.int q_), .val (.int (own_m v1 v2 v3 e0)), .val (.int (own_m v1 v2 v3 e1)), .val (.int (own_m v1 v2 v3 e2)), .val (.ref c_), .val (.ref b58), .val (.int y_), .val (.int x_), .val (.int (-1 : Int32)), .val (.int (0 : Int32))] [(.int x_), (.ref b58)])) rfl (by rw [hml]; rfl) (Steps.refl _) (argsL := [(.int x_)]) (rest := []) (lenOf pd_4 rfl) rfl (by show 2 * 0 + _ ≤ _; exact Nat.le_of_eq rfl) (hb hby at_478) (fun _ _ => ⟨rfl, e81, (by decide : 10 + 0 ≤ _), (by decide : 60 + 0 ≤ _)⟩)
              dsimp only [Pt.U, Pt.locs, Pt.cells, Pt.slots] at X107 l107 y107 z107 st107 hQ107
              subst l107 y107 z107
              obtain ⟨rfl, N107q, e107⟩ := hQ107
              have N107 := Fr.app N81 N107q
              refine own_viaT st107 ?_
              show own_Go p e below s _ _ _ (T107.setTop (mkF m 481 #[.val (.int p0), .val (.int p1), .val (.int p2), .val (.int p3), .val (.int p4), .val (.int p5), .val (.int v1), .val (.int v2), .val (.int v3), .val (.ref b4), .val (.ref b8), .val (.ref b27), .val (.int (Nat.toInt32 kn_)), .val (.int q_), .val (.int (own_m v1 v2 v3 e0)), .val (.int (own_m v1 v2 v3 e1)), .val (.int (own_m v1 v2 v3 e2)), .val (.ref c_), .val (.ref b58), .val (.int y_), .val (.int x_), .val (.int (-1 : Int32)), .val (.int (0 : Int32))] [(.int (own_qs (es_.map (own_m v1 v2 v3)) x_ kn_ 0))]))
              refine own_via (fun _ k => XS.iload X107.here hx rfl (hb hby at_481) rfl k) ?_
              show own_Go p e below s _ _ _ (T107.setTop (mkF m 483 #[.val (.int p0), .val (.int p1), .val (.int p2), .val (.int p3), .val (.int p4), .val (.int p5), .val (.int v1), .val (.int v2), .val (.int v3), .val (.ref b4), .val (.ref b8), .val (.ref b27), .val (.int (Nat.toInt32 kn_)), .val (.int q_), .val (.int (own_m v1 v2 v3 e0)), .val (.int (own_m v1 v2 v3 e1)), .val (.int (own_m v1 v2 v3 e2)), .val (.ref c_), .val (.ref b58), .val (.int y_), .val (.int x_), .val (.int (-1 : Int32)), .val (.int (0 : Int32))] [(.int (0 : Int32)), (.int (own_qs (es_.map (own_m v1 v2 v3)) x_ kn_ 0))]))
              have hc108 : (own_qs (es_.map (own_m v1 v2 v3)) x_ kn_ 0) = (0 : Int32) := ((own_f (x := x_) hP hA1 hA2 hk).2.2.2 (fun z => hc86 z.symm) (fun z => hc93 z.symm) (fun z => hc100 z.symm))
              refine own_via (fun _ k => XS.icmpNo X107.here hx rfl (hb hby at_483) rfl (Jvm.Free.XT.ii_ne_f hc108) k) ?_
              show own_Go p e below s _ _ _ (T107.setTop (mkF m 486 #[.val (.int p0), .val (.int p1), .val (.int p2), .val (.int p3), .val (.int p4), .val (.int p5), .val (.int v1), .val (.int v2), .val (.int v3), .val (.ref b4), .val (.ref b8), .val (.ref b27), .val (.int (Nat.toInt32 kn_)), .val (.int q_), .val (.int (own_m v1 v2 v3 e0)), .val (.int (own_m v1 v2 v3 e1)), .val (.int (own_m v1 v2 v3 e2)), .val (.ref c_), .val (.ref b58), .val (.int y_), .val (.int x_), .val (.int (-1 : Int32)), .val (.int (0 : Int32))] []))
              refine own_via (fun _ k => XS.iconst X107.here hx rfl (hb hby at_486) k) ?_
              show own_Go p e below s _ _ _ (T107.setTop (mkF m 487 #[.val (.int p0), .val (.int p1), .val (.int p2), .val (.int p3), .val (.int p4), .val (.int p5), .val (.int v1), .val (.int v2), .val (.int v3), .val (.ref b4), .val (.ref b8), .val (.ref b27), .val (.int (Nat.toInt32 kn_)), .val (.int q_), .val (.int (own_m v1 v2 v3 e0)), .val (.int (own_m v1 v2 v3 e1)), .val (.int (own_m v1 v2 v3 e2)), .val (.ref c_), .val (.ref b58), .val (.int y_), .val (.int x_), .val (.int (-1 : Int32)), .val (.int (0 : Int32))] [(.int (1 : Int32))]))
              refine own_via (fun _ k => XS.goto X107.here hx rfl (pc0 := 487) (pc' := 491) rfl (hb hby at_487) (by decide) (by decide) k) ?_
              show own_Go p e below s _ _ _ (T107.setTop (mkF m 491 #[.val (.int p0), .val (.int p1), .val (.int p2), .val (.int p3), .val (.int p4), .val (.int p5), .val (.int v1), .val (.int v2), .val (.int v3), .val (.ref b4), .val (.ref b8), .val (.ref b27), .val (.int (Nat.toInt32 kn_)), .val (.int q_), .val (.int (own_m v1 v2 v3 e0)), .val (.int (own_m v1 v2 v3 e1)), .val (.int (own_m v1 v2 v3 e2)), .val (.ref c_), .val (.ref b58), .val (.int y_), .val (.int x_), .val (.int (-1 : Int32)), .val (.int (0 : Int32))] [(.int (1 : Int32))]))
              exact own_goN X107 hx (t := .boolean) Bd.returns (by simp) (hb hby at_491) Bd.notSynchronized (by decide) (by decide) (by rw [e107]; exact ⟨rfl, N107⟩)
      show own_Go p e below s _ _ _ (T66.setTop (mkF m 393 #[.val (.int p0), .val (.int p1), .val (.int p2), .val (.int p3), .val (.int p4), .val (.int p5), .val (.int v1), .val (.int v2), .val (.int v3), .val (.ref b4), .val (.ref b8), .val (.ref b27), .val (.int (Nat.toInt32 kn_)), .val (.int q_), .val (.int (own_m v1 v2 v3 e0)), .val (.int (own_m v1 v2 v3 e1)), .val (.int (own_m v1 v2 v3 e2)), .val (.ref c_), .val (.ref b58), .val (.int v80), .unset, .unset, .unset] []))
      rcases (own_and3 p4 hv80) with rfl | rfl | rfl | rfl
      · show own_Go p e below s _ _ _ (T66.setTop (mkF m 393 #[.val (.int p0), .val (.int p1), .val (.int p2), .val (.int p3), .val (.int p4), .val (.int p5), .val (.int v1), .val (.int v2), .val (.int v3), .val (.ref b4), .val (.ref b8), .val (.ref b27), .val (.int (Nat.toInt32 kn_)), .val (.int q_), .val (.int (own_m v1 v2 v3 e0)), .val (.int (own_m v1 v2 v3 e1)), .val (.int (own_m v1 v2 v3 e2)), .val (.ref c_), .val (.ref b58), .val (.int (0 : Int32)), .unset, .unset, .unset] []))
        refine own_via (fun _ k => XS.iload X66.here hx rfl (hb hby at_393) rfl k) ?_
        show own_Go p e below s _ _ _ (T66.setTop (mkF m 395 #[.val (.int p0), .val (.int p1), .val (.int p2), .val (.int p3), .val (.int p4), .val (.int p5), .val (.int v1), .val (.int v2), .val (.int v3), .val (.ref b4), .val (.ref b8), .val (.ref b27), .val (.int (Nat.toInt32 kn_)), .val (.int q_), .val (.int (own_m v1 v2 v3 e0)), .val (.int (own_m v1 v2 v3 e1)), .val (.int (own_m v1 v2 v3 e2)), .val (.ref c_), .val (.ref b58), .val (.int (0 : Int32)), .unset, .unset, .unset] [(.int (0 : Int32))]))
        refine own_via (fun _ k => XS.iconst X66.here hx rfl (hb hby at_395) k) ?_
        show own_Go p e below s _ _ _ (T66.setTop (mkF m 396 #[.val (.int p0), .val (.int p1), .val (.int p2), .val (.int p3), .val (.int p4), .val (.int p5), .val (.int v1), .val (.int v2), .val (.int v3), .val (.ref b4), .val (.ref b8), .val (.ref b27), .val (.int (Nat.toInt32 kn_)), .val (.int q_), .val (.int (own_m v1 v2 v3 e0)), .val (.int (own_m v1 v2 v3 e1)), .val (.int (own_m v1 v2 v3 e2)), .val (.ref c_), .val (.ref b58), .val (.int (0 : Int32)), .unset, .unset, .unset] [(.int (3 : Int32)), (.int (0 : Int32))]))
        refine own_via (fun _ k => XS.icmpYes X66.here hx rfl (pc0 := 396) (pc' := 404) rfl (hb hby at_396) rfl (Jvm.Free.XT.ii_ne_t (by decide)) (by decide) (by decide) k) ?_
        show own_Go p e below s _ _ _ (T66.setTop (mkF m 404 #[.val (.int p0), .val (.int p1), .val (.int p2), .val (.int p3), .val (.int p4), .val (.int p5), .val (.int v1), .val (.int v2), .val (.int v3), .val (.ref b4), .val (.ref b8), .val (.ref b27), .val (.int (Nat.toInt32 kn_)), .val (.int q_), .val (.int (own_m v1 v2 v3 e0)), .val (.int (own_m v1 v2 v3 e1)), .val (.int (own_m v1 v2 v3 e2)), .val (.ref c_), .val (.ref b58), .val (.int (0 : Int32)), .unset, .unset, .unset] []))
        refine own_via (fun _ k => XS.aload X66.here hx rfl (hb hby at_404) rfl rfl k) ?_
        show own_Go p e below s _ _ _ (T66.setTop (mkF m 406 #[.val (.int p0), .val (.int p1), .val (.int p2), .val (.int p3), .val (.int p4), .val (.int p5), .val (.int v1), .val (.int v2), .val (.int v3), .val (.ref b4), .val (.ref b8), .val (.ref b27), .val (.int (Nat.toInt32 kn_)), .val (.int q_), .val (.int (own_m v1 v2 v3 e0)), .val (.int (own_m v1 v2 v3 e1)), .val (.int (own_m v1 v2 v3 e2)), .val (.ref c_), .val (.ref b58), .val (.int (0 : Int32)), .unset, .unset, .unset] [(.ref b4)]))
        refine own_via (fun _ k => XS.iload X66.here hx rfl (hb hby at_406) rfl k) ?_
        show own_Go p e below s _ _ _ (T66.setTop (mkF m 408 #[.val (.int p0), .val (.int p1), .val (.int p2), .val (.int p3), .val (.int p4), .val (.int p5), .val (.int v1), .val (.int v2), .val (.int v3), .val (.ref b4), .val (.ref b8), .val (.ref b27), .val (.int (Nat.toInt32 kn_)), .val (.int q_), .val (.int (own_m v1 v2 v3 e0)), .val (.int (own_m v1 v2 v3 e1)), .val (.int (own_m v1 v2 v3 e2)), .val (.ref c_), .val (.ref b58), .val (.int (0 : Int32)), .unset, .unset, .unset] [(.int (0 : Int32)), (.ref b4)]))
        have F110 := (F71.keep Kq66 (ninS ne_b4_b58 nin0))
        obtain ⟨cl109, Ar109, q109, S109, M109, H109, G109⟩ := (id F110)
        have hin109 : ¬ ((0 : Int32) < 0 ∨ cl109.slots.size ≤ ((0 : Int32)).toNatClampNeg) := inb_of S109 ⟨by decide, by decide⟩
        have hat109 : cl109.slots[((0 : Int32)).toNatClampNeg]? = some (.int v1) := Has.at H109 hin109 rfl
        refine own_via (fun _ k => X66.iaload hx (j := (0 : Int32)) (v := (.int v1)) (by rw [e66]; exact Ar109.1) (State.isArrayOf_alike hZ.alike Ar109.2.1) Ar109.2.2 hin109 hat109 (g := (mkF m 408 #[.val (.int p0), .val (.int p1), .val (.int p2), .val (.int p3), .val (.int p4), .val (.int p5), .val (.int v1), .val (.int v2), .val (.int v3), .val (.ref b4), .val (.ref b8), .val (.ref b27), .val (.int (Nat.toInt32 kn_)), .val (.int q_), .val (.int (own_m v1 v2 v3 e0)), .val (.int (own_m v1 v2 v3 e1)), .val (.int (own_m v1 v2 v3 e2)), .val (.ref c_), .val (.ref b58), .val (.int (0 : Int32)), .unset, .unset, .unset] [(.int (0 : Int32)), (.ref b4)])) rfl rfl (hb hby at_408) _ k) ?_
        show own_Go p e below s _ _ _ (T66.setTop (mkF m 409 #[.val (.int p0), .val (.int p1), .val (.int p2), .val (.int p3), .val (.int p4), .val (.int p5), .val (.int v1), .val (.int v2), .val (.int v3), .val (.ref b4), .val (.ref b8), .val (.ref b27), .val (.int (Nat.toInt32 kn_)), .val (.int q_), .val (.int (own_m v1 v2 v3 e0)), .val (.int (own_m v1 v2 v3 e1)), .val (.int (own_m v1 v2 v3 e2)), .val (.ref c_), .val (.ref b58), .val (.int (0 : Int32)), .unset, .unset, .unset] [(.int v1)]))
        refine own_via (fun _ k => XS.istore X66.here hx rfl (hb hby at_409) rfl (l' := #[.val (.int p0), .val (.int p1), .val (.int p2), .val (.int p3), .val (.int p4), .val (.int p5), .val (.int v1), .val (.int v2), .val (.int v3), .val (.ref b4), .val (.ref b8), .val (.ref b27), .val (.int (Nat.toInt32 kn_)), .val (.int q_), .val (.int (own_m v1 v2 v3 e0)), .val (.int (own_m v1 v2 v3 e1)), .val (.int (own_m v1 v2 v3 e2)), .val (.ref c_), .val (.ref b58), .val (.int (0 : Int32)), .val (.int v1), .unset, .unset]) rfl k) ?_
        show own_Go p e below s _ _ _ (T66.setTop (mkF m 411 #[.val (.int p0), .val (.int p1), .val (.int p2), .val (.int p3), .val (.int p4), .val (.int p5), .val (.int v1), .val (.int v2), .val (.int v3), .val (.ref b4), .val (.ref b8), .val (.ref b27), .val (.int (Nat.toInt32 kn_)), .val (.int q_), .val (.int (own_m v1 v2 v3 e0)), .val (.int (own_m v1 v2 v3 e1)), .val (.int (own_m v1 v2 v3 e2)), .val (.ref c_), .val (.ref b58), .val (.int (0 : Int32)), .val (.int v1), .unset, .unset] []))
        have F111 := ((((((F55.ext E58).ext E62).other W63 ne_b27_b62).other W64 ne_b27_b62).other W65 ne_b27_b62).keep Kq66 (ninS ne_b27_b58 nin0))
        exact jx (0 : Int32) v1 _ _ _ X66 e66 N66 Z66 F77 F78 F79 F111
      · show own_Go p e below s _ _ _ (T66.setTop (mkF m 393 #[.val (.int p0), .val (.int p1), .val (.int p2), .val (.int p3), .val (.int p4), .val (.int p5), .val (.int v1), .val (.int v2), .val (.int v3), .val (.ref b4), .val (.ref b8), .val (.ref b27), .val (.int (Nat.toInt32 kn_)), .val (.int q_), .val (.int (own_m v1 v2 v3 e0)), .val (.int (own_m v1 v2 v3 e1)), .val (.int (own_m v1 v2 v3 e2)), .val (.ref c_), .val (.ref b58), .val (.int (1 : Int32)), .unset, .unset, .unset] []))
        refine own_via (fun _ k => XS.iload X66.here hx rfl (hb hby at_393) rfl k) ?_
        show own_Go p e below s _ _ _ (T66.setTop (mkF m 395 #[.val (.int p0), .val (.int p1), .val (.int p2), .val (.int p3), .val (.int p4), .val (.int p5), .val (.int v1), .val (.int v2), .val (.int v3), .val (.ref b4), .val (.ref b8), .val (.ref b27), .val (.int (Nat.toInt32 kn_)), .val (.int q_), .val (.int (own_m v1 v2 v3 e0)), .val (.int (own_m v1 v2 v3 e1)), .val (.int (own_m v1 v2 v3 e2)), .val (.ref c_), .val (.ref b58), .val (.int (1 : Int32)), .unset, .unset, .unset] [(.int (1 : Int32))]))
        refine own_via (fun _ k => XS.iconst X66.here hx rfl (hb hby at_395) k) ?_
        show own_Go p e below s _ _ _ (T66.setTop (mkF m 396 #[.val (.int p0), .val (.int p1), .val (.int p2), .val (.int p3), .val (.int p4), .val (.int p5), .val (.int v1), .val (.int v2), .val (.int v3), .val (.ref b4), .val (.ref b8), .val (.ref b27), .val (.int (Nat.toInt32 kn_)), .val (.int q_), .val (.int (own_m v1 v2 v3 e0)), .val (.int (own_m v1 v2 v3 e1)), .val (.int (own_m v1 v2 v3 e2)), .val (.ref c_), .val (.ref b58), .val (.int (1 : Int32)), .unset, .unset, .unset] [(.int (3 : Int32)), (.int (1 : Int32))]))
        refine own_via (fun _ k => XS.icmpYes X66.here hx rfl (pc0 := 396) (pc' := 404) rfl (hb hby at_396) rfl (Jvm.Free.XT.ii_ne_t (by decide)) (by decide) (by decide) k) ?_
        show own_Go p e below s _ _ _ (T66.setTop (mkF m 404 #[.val (.int p0), .val (.int p1), .val (.int p2), .val (.int p3), .val (.int p4), .val (.int p5), .val (.int v1), .val (.int v2), .val (.int v3), .val (.ref b4), .val (.ref b8), .val (.ref b27), .val (.int (Nat.toInt32 kn_)), .val (.int q_), .val (.int (own_m v1 v2 v3 e0)), .val (.int (own_m v1 v2 v3 e1)), .val (.int (own_m v1 v2 v3 e2)), .val (.ref c_), .val (.ref b58), .val (.int (1 : Int32)), .unset, .unset, .unset] []))
        refine own_via (fun _ k => XS.aload X66.here hx rfl (hb hby at_404) rfl rfl k) ?_
        show own_Go p e below s _ _ _ (T66.setTop (mkF m 406 #[.val (.int p0), .val (.int p1), .val (.int p2), .val (.int p3), .val (.int p4), .val (.int p5), .val (.int v1), .val (.int v2), .val (.int v3), .val (.ref b4), .val (.ref b8), .val (.ref b27), .val (.int (Nat.toInt32 kn_)), .val (.int q_), .val (.int (own_m v1 v2 v3 e0)), .val (.int (own_m v1 v2 v3 e1)), .val (.int (own_m v1 v2 v3 e2)), .val (.ref c_), .val (.ref b58), .val (.int (1 : Int32)), .unset, .unset, .unset] [(.ref b4)]))
        refine own_via (fun _ k => XS.iload X66.here hx rfl (hb hby at_406) rfl k) ?_
        show own_Go p e below s _ _ _ (T66.setTop (mkF m 408 #[.val (.int p0), .val (.int p1), .val (.int p2), .val (.int p3), .val (.int p4), .val (.int p5), .val (.int v1), .val (.int v2), .val (.int v3), .val (.ref b4), .val (.ref b8), .val (.ref b27), .val (.int (Nat.toInt32 kn_)), .val (.int q_), .val (.int (own_m v1 v2 v3 e0)), .val (.int (own_m v1 v2 v3 e1)), .val (.int (own_m v1 v2 v3 e2)), .val (.ref c_), .val (.ref b58), .val (.int (1 : Int32)), .unset, .unset, .unset] [(.int (1 : Int32)), (.ref b4)]))
        have F113 := (F71.keep Kq66 (ninS ne_b4_b58 nin0))
        obtain ⟨cl112, Ar112, q112, S112, M112, H112, G112⟩ := (id F113)
        have hin112 : ¬ ((1 : Int32) < 0 ∨ cl112.slots.size ≤ ((1 : Int32)).toNatClampNeg) := inb_of S112 ⟨by decide, by decide⟩
        have hat112 : cl112.slots[((1 : Int32)).toNatClampNeg]? = some (.int v2) := Has.at H112 hin112 rfl
        refine own_via (fun _ k => X66.iaload hx (j := (1 : Int32)) (v := (.int v2)) (by rw [e66]; exact Ar112.1) (State.isArrayOf_alike hZ.alike Ar112.2.1) Ar112.2.2 hin112 hat112 (g := (mkF m 408 #[.val (.int p0), .val (.int p1), .val (.int p2), .val (.int p3), .val (.int p4), .val (.int p5), .val (.int v1), .val (.int v2), .val (.int v3), .val (.ref b4), .val (.ref b8), .val (.ref b27), .val (.int (Nat.toInt32 kn_)), .val (.int q_), .val (.int (own_m v1 v2 v3 e0)), .val (.int (own_m v1 v2 v3 e1)), .val (.int (own_m v1 v2 v3 e2)), .val (.ref c_), .val (.ref b58), .val (.int (1 : Int32)), .unset, .unset, .unset] [(.int (1 : Int32)), (.ref b4)])) rfl rfl (hb hby at_408) _ k) ?_
        show own_Go p e below s _ _ _ (T66.setTop (mkF m 409 #[.val (.int p0), .val (.int p1), .val (.int p2), .val (.int p3), .val (.int p4), .val (.int p5), .val (.int v1), .val (.int v2), .val (.int v3), .val (.ref b4), .val (.ref b8), .val (.ref b27), .val (.int (Nat.toInt32 kn_)), .val (.int q_), .val (.int (own_m v1 v2 v3 e0)), .val (.int (own_m v1 v2 v3 e1)), .val (.int (own_m v1 v2 v3 e2)), .val (.ref c_), .val (.ref b58), .val (.int (1 : Int32)), .unset, .unset, .unset] [(.int v2)]))
        refine own_via (fun _ k => XS.istore X66.here hx rfl (hb hby at_409) rfl (l' := #[.val (.int p0), .val (.int p1), .val (.int p2), .val (.int p3), .val (.int p4), .val (.int p5), .val (.int v1), .val (.int v2), .val (.int v3), .val (.ref b4), .val (.ref b8), .val (.ref b27), .val (.int (Nat.toInt32 kn_)), .val (.int q_), .val (.int (own_m v1 v2 v3 e0)), .val (.int (own_m v1 v2 v3 e1)), .val (.int (own_m v1 v2 v3 e2)), .val (.ref c_), .val (.ref b58), .val (.int (1 : Int32)), .val (.int v2), .unset, .unset]) rfl k) ?_
        show own_Go p e below s _ _ _ (T66.setTop (mkF m 411 #[.val (.int p0), .val (.int p1), .val (.int p2), .val (.int p3), .val (.int p4), .val (.int p5), .val (.int v1), .val (.int v2), .val (.int v3), .val (.ref b4), .val (.ref b8), .val (.ref b27), .val (.int (Nat.toInt32 kn_)), .val (.int q_), .val (.int (own_m v1 v2 v3 e0)), .val (.int (own_m v1 v2 v3 e1)), .val (.int (own_m v1 v2 v3 e2)), .val (.ref c_), .val (.ref b58), .val (.int (1 : Int32)), .val (.int v2), .unset, .unset] []))
        have F114 := ((((((F55.ext E58).ext E62).other W63 ne_b27_b62).other W64 ne_b27_b62).other W65 ne_b27_b62).keep Kq66 (ninS ne_b27_b58 nin0))
        exact jx (1 : Int32) v2 _ _ _ X66 e66 N66 Z66 F77 F78 F79 F114
      · show own_Go p e below s _ _ _ (T66.setTop (mkF m 393 #[.val (.int p0), .val (.int p1), .val (.int p2), .val (.int p3), .val (.int p4), .val (.int p5), .val (.int v1), .val (.int v2), .val (.int v3), .val (.ref b4), .val (.ref b8), .val (.ref b27), .val (.int (Nat.toInt32 kn_)), .val (.int q_), .val (.int (own_m v1 v2 v3 e0)), .val (.int (own_m v1 v2 v3 e1)), .val (.int (own_m v1 v2 v3 e2)), .val (.ref c_), .val (.ref b58), .val (.int (2 : Int32)), .unset, .unset, .unset] []))
        refine own_via (fun _ k => XS.iload X66.here hx rfl (hb hby at_393) rfl k) ?_
        show own_Go p e below s _ _ _ (T66.setTop (mkF m 395 #[.val (.int p0), .val (.int p1), .val (.int p2), .val (.int p3), .val (.int p4), .val (.int p5), .val (.int v1), .val (.int v2), .val (.int v3), .val (.ref b4), .val (.ref b8), .val (.ref b27), .val (.int (Nat.toInt32 kn_)), .val (.int q_), .val (.int (own_m v1 v2 v3 e0)), .val (.int (own_m v1 v2 v3 e1)), .val (.int (own_m v1 v2 v3 e2)), .val (.ref c_), .val (.ref b58), .val (.int (2 : Int32)), .unset, .unset, .unset] [(.int (2 : Int32))]))
        refine own_via (fun _ k => XS.iconst X66.here hx rfl (hb hby at_395) k) ?_
        show own_Go p e below s _ _ _ (T66.setTop (mkF m 396 #[.val (.int p0), .val (.int p1), .val (.int p2), .val (.int p3), .val (.int p4), .val (.int p5), .val (.int v1), .val (.int v2), .val (.int v3), .val (.ref b4), .val (.ref b8), .val (.ref b27), .val (.int (Nat.toInt32 kn_)), .val (.int q_), .val (.int (own_m v1 v2 v3 e0)), .val (.int (own_m v1 v2 v3 e1)), .val (.int (own_m v1 v2 v3 e2)), .val (.ref c_), .val (.ref b58), .val (.int (2 : Int32)), .unset, .unset, .unset] [(.int (3 : Int32)), (.int (2 : Int32))]))
        refine own_via (fun _ k => XS.icmpYes X66.here hx rfl (pc0 := 396) (pc' := 404) rfl (hb hby at_396) rfl (Jvm.Free.XT.ii_ne_t (by decide)) (by decide) (by decide) k) ?_
        show own_Go p e below s _ _ _ (T66.setTop (mkF m 404 #[.val (.int p0), .val (.int p1), .val (.int p2), .val (.int p3), .val (.int p4), .val (.int p5), .val (.int v1), .val (.int v2), .val (.int v3), .val (.ref b4), .val (.ref b8), .val (.ref b27), .val (.int (Nat.toInt32 kn_)), .val (.int q_), .val (.int (own_m v1 v2 v3 e0)), .val (.int (own_m v1 v2 v3 e1)), .val (.int (own_m v1 v2 v3 e2)), .val (.ref c_), .val (.ref b58), .val (.int (2 : Int32)), .unset, .unset, .unset] []))
        refine own_via (fun _ k => XS.aload X66.here hx rfl (hb hby at_404) rfl rfl k) ?_
        show own_Go p e below s _ _ _ (T66.setTop (mkF m 406 #[.val (.int p0), .val (.int p1), .val (.int p2), .val (.int p3), .val (.int p4), .val (.int p5), .val (.int v1), .val (.int v2), .val (.int v3), .val (.ref b4), .val (.ref b8), .val (.ref b27), .val (.int (Nat.toInt32 kn_)), .val (.int q_), .val (.int (own_m v1 v2 v3 e0)), .val (.int (own_m v1 v2 v3 e1)), .val (.int (own_m v1 v2 v3 e2)), .val (.ref c_), .val (.ref b58), .val (.int (2 : Int32)), .unset, .unset, .unset] [(.ref b4)]))
        refine own_via (fun _ k => XS.iload X66.here hx rfl (hb hby at_406) rfl k) ?_
        show own_Go p e below s _ _ _ (T66.setTop (mkF m 408 #[.val (.int p0), .val (.int p1), .val (.int p2), .val (.int p3), .val (.int p4), .val (.int p5), .val (.int v1), .val (.int v2), .val (.int v3), .val (.ref b4), .val (.ref b8), .val (.ref b27), .val (.int (Nat.toInt32 kn_)), .val (.int q_), .val (.int (own_m v1 v2 v3 e0)), .val (.int (own_m v1 v2 v3 e1)), .val (.int (own_m v1 v2 v3 e2)), .val (.ref c_), .val (.ref b58), .val (.int (2 : Int32)), .unset, .unset, .unset] [(.int (2 : Int32)), (.ref b4)]))
        have F116 := (F71.keep Kq66 (ninS ne_b4_b58 nin0))
        obtain ⟨cl115, Ar115, q115, S115, M115, H115, G115⟩ := (id F116)
        have hin115 : ¬ ((2 : Int32) < 0 ∨ cl115.slots.size ≤ ((2 : Int32)).toNatClampNeg) := inb_of S115 ⟨by decide, by decide⟩
        have hat115 : cl115.slots[((2 : Int32)).toNatClampNeg]? = some (.int v3) := Has.at H115 hin115 rfl
        refine own_via (fun _ k => X66.iaload hx (j := (2 : Int32)) (v := (.int v3)) (by rw [e66]; exact Ar115.1) (State.isArrayOf_alike hZ.alike Ar115.2.1) Ar115.2.2 hin115 hat115 (g := (mkF m 408 #[.val (.int p0), .val (.int p1), .val (.int p2), .val (.int p3), .val (.int p4), .val (.int p5), .val (.int v1), .val (.int v2), .val (.int v3), .val (.ref b4), .val (.ref b8), .val (.ref b27), .val (.int (Nat.toInt32 kn_)), .val (.int q_), .val (.int (own_m v1 v2 v3 e0)), .val (.int (own_m v1 v2 v3 e1)), .val (.int (own_m v1 v2 v3 e2)), .val (.ref c_), .val (.ref b58), .val (.int (2 : Int32)), .unset, .unset, .unset] [(.int (2 : Int32)), (.ref b4)])) rfl rfl (hb hby at_408) _ k) ?_
        show own_Go p e below s _ _ _ (T66.setTop (mkF m 409 #[.val (.int p0), .val (.int p1), .val (.int p2), .val (.int p3), .val (.int p4), .val (.int p5), .val (.int v1), .val (.int v2), .val (.int v3), .val (.ref b4), .val (.ref b8), .val (.ref b27), .val (.int (Nat.toInt32 kn_)), .val (.int q_), .val (.int (own_m v1 v2 v3 e0)), .val (.int (own_m v1 v2 v3 e1)), .val (.int (own_m v1 v2 v3 e2)), .val (.ref c_), .val (.ref b58), .val (.int (2 : Int32)), .unset, .unset, .unset] [(.int v3)]))
        refine own_via (fun _ k => XS.istore X66.here hx rfl (hb hby at_409) rfl (l' := #[.val (.int p0), .val (.int p1), .val (.int p2), .val (.int p3), .val (.int p4), .val (.int p5), .val (.int v1), .val (.int v2), .val (.int v3), .val (.ref b4), .val (.ref b8), .val (.ref b27), .val (.int (Nat.toInt32 kn_)), .val (.int q_), .val (.int (own_m v1 v2 v3 e0)), .val (.int (own_m v1 v2 v3 e1)), .val (.int (own_m v1 v2 v3 e2)), .val (.ref c_), .val (.ref b58), .val (.int (2 : Int32)), .val (.int v3), .unset, .unset]) rfl k) ?_
        show own_Go p e below s _ _ _ (T66.setTop (mkF m 411 #[.val (.int p0), .val (.int p1), .val (.int p2), .val (.int p3), .val (.int p4), .val (.int p5), .val (.int v1), .val (.int v2), .val (.int v3), .val (.ref b4), .val (.ref b8), .val (.ref b27), .val (.int (Nat.toInt32 kn_)), .val (.int q_), .val (.int (own_m v1 v2 v3 e0)), .val (.int (own_m v1 v2 v3 e1)), .val (.int (own_m v1 v2 v3 e2)), .val (.ref c_), .val (.ref b58), .val (.int (2 : Int32)), .val (.int v3), .unset, .unset] []))
        have F117 := ((((((F55.ext E58).ext E62).other W63 ne_b27_b62).other W64 ne_b27_b62).other W65 ne_b27_b62).keep Kq66 (ninS ne_b27_b58 nin0))
        exact jx (2 : Int32) v3 _ _ _ X66 e66 N66 Z66 F77 F78 F79 F117
      · show own_Go p e below s _ _ _ (T66.setTop (mkF m 393 #[.val (.int p0), .val (.int p1), .val (.int p2), .val (.int p3), .val (.int p4), .val (.int p5), .val (.int v1), .val (.int v2), .val (.int v3), .val (.ref b4), .val (.ref b8), .val (.ref b27), .val (.int (Nat.toInt32 kn_)), .val (.int q_), .val (.int (own_m v1 v2 v3 e0)), .val (.int (own_m v1 v2 v3 e1)), .val (.int (own_m v1 v2 v3 e2)), .val (.ref c_), .val (.ref b58), .val (.int (3 : Int32)), .unset, .unset, .unset] []))
        refine own_via (fun _ k => XS.iload X66.here hx rfl (hb hby at_393) rfl k) ?_
        show own_Go p e below s _ _ _ (T66.setTop (mkF m 395 #[.val (.int p0), .val (.int p1), .val (.int p2), .val (.int p3), .val (.int p4), .val (.int p5), .val (.int v1), .val (.int v2), .val (.int v3), .val (.ref b4), .val (.ref b8), .val (.ref b27), .val (.int (Nat.toInt32 kn_)), .val (.int q_), .val (.int (own_m v1 v2 v3 e0)), .val (.int (own_m v1 v2 v3 e1)), .val (.int (own_m v1 v2 v3 e2)), .val (.ref c_), .val (.ref b58), .val (.int (3 : Int32)), .unset, .unset, .unset] [(.int (3 : Int32))]))
        refine own_via (fun _ k => XS.iconst X66.here hx rfl (hb hby at_395) k) ?_
        show own_Go p e below s _ _ _ (T66.setTop (mkF m 396 #[.val (.int p0), .val (.int p1), .val (.int p2), .val (.int p3), .val (.int p4), .val (.int p5), .val (.int v1), .val (.int v2), .val (.int v3), .val (.ref b4), .val (.ref b8), .val (.ref b27), .val (.int (Nat.toInt32 kn_)), .val (.int q_), .val (.int (own_m v1 v2 v3 e0)), .val (.int (own_m v1 v2 v3 e1)), .val (.int (own_m v1 v2 v3 e2)), .val (.ref c_), .val (.ref b58), .val (.int (3 : Int32)), .unset, .unset, .unset] [(.int (3 : Int32)), (.int (3 : Int32))]))
        refine own_via (fun _ k => XS.icmpNo X66.here hx rfl (hb hby at_396) rfl (Jvm.Free.XT.ii_ne_f (by decide)) k) ?_
        show own_Go p e below s _ _ _ (T66.setTop (mkF m 399 #[.val (.int p0), .val (.int p1), .val (.int p2), .val (.int p3), .val (.int p4), .val (.int p5), .val (.int v1), .val (.int v2), .val (.int v3), .val (.ref b4), .val (.ref b8), .val (.ref b27), .val (.int (Nat.toInt32 kn_)), .val (.int q_), .val (.int (own_m v1 v2 v3 e0)), .val (.int (own_m v1 v2 v3 e1)), .val (.int (own_m v1 v2 v3 e2)), .val (.ref c_), .val (.ref b58), .val (.int (3 : Int32)), .unset, .unset, .unset] []))
        refine own_via (fun _ k => XS.iload X66.here hx rfl (hb hby at_399) rfl k) ?_
        show own_Go p e below s _ _ _ (T66.setTop (mkF m 401 #[.val (.int p0), .val (.int p1), .val (.int p2), .val (.int p3), .val (.int p4), .val (.int p5), .val (.int v1), .val (.int v2), .val (.int v3), .val (.ref b4), .val (.ref b8), .val (.ref b27), .val (.int (Nat.toInt32 kn_)), .val (.int q_), .val (.int (own_m v1 v2 v3 e0)), .val (.int (own_m v1 v2 v3 e1)), .val (.int (own_m v1 v2 v3 e2)), .val (.ref c_), .val (.ref b58), .val (.int (3 : Int32)), .unset, .unset, .unset] [(.int p5)]))
        refine own_via (fun _ k => XS.goto X66.here hx rfl (pc0 := 401) (pc' := 409) rfl (hb hby at_401) (by decide) (by decide) k) ?_
        show own_Go p e below s _ _ _ (T66.setTop (mkF m 409 #[.val (.int p0), .val (.int p1), .val (.int p2), .val (.int p3), .val (.int p4), .val (.int p5), .val (.int v1), .val (.int v2), .val (.int v3), .val (.ref b4), .val (.ref b8), .val (.ref b27), .val (.int (Nat.toInt32 kn_)), .val (.int q_), .val (.int (own_m v1 v2 v3 e0)), .val (.int (own_m v1 v2 v3 e1)), .val (.int (own_m v1 v2 v3 e2)), .val (.ref c_), .val (.ref b58), .val (.int (3 : Int32)), .unset, .unset, .unset] [(.int p5)]))
        refine own_via (fun _ k => XS.istore X66.here hx rfl (hb hby at_409) rfl (l' := #[.val (.int p0), .val (.int p1), .val (.int p2), .val (.int p3), .val (.int p4), .val (.int p5), .val (.int v1), .val (.int v2), .val (.int v3), .val (.ref b4), .val (.ref b8), .val (.ref b27), .val (.int (Nat.toInt32 kn_)), .val (.int q_), .val (.int (own_m v1 v2 v3 e0)), .val (.int (own_m v1 v2 v3 e1)), .val (.int (own_m v1 v2 v3 e2)), .val (.ref c_), .val (.ref b58), .val (.int (3 : Int32)), .val (.int p5), .unset, .unset]) rfl k) ?_
        show own_Go p e below s _ _ _ (T66.setTop (mkF m 411 #[.val (.int p0), .val (.int p1), .val (.int p2), .val (.int p3), .val (.int p4), .val (.int p5), .val (.int v1), .val (.int v2), .val (.int v3), .val (.ref b4), .val (.ref b8), .val (.ref b27), .val (.int (Nat.toInt32 kn_)), .val (.int q_), .val (.int (own_m v1 v2 v3 e0)), .val (.int (own_m v1 v2 v3 e1)), .val (.int (own_m v1 v2 v3 e2)), .val (.ref c_), .val (.ref b58), .val (.int (3 : Int32)), .val (.int p5), .unset, .unset] []))
        have F118 := ((((((F55.ext E58).ext E62).other W63 ne_b27_b62).other W64 ne_b27_b62).other W65 ne_b27_b62).keep Kq66 (ninS ne_b27_b58 nin0))
        exact jx (3 : Int32) p5 _ _ _ X66 e66 N66 Z66 F77 F78 F79 F118
    show own_Go p e below s _ _ _ (T48.setTop (mkF m 283 #[.val (.int p0), .val (.int p1), .val (.int p2), .val (.int p3), .val (.int p4), .val (.int p5), .val (.int v1), .val (.int v2), .val (.int v3), .val (.ref b4), .val (.ref b8), .val (.ref b27), .val (.int v46), .val (.int q_), .val (.int (own_m v1 v2 v3 e0)), .val (.int (own_m v1 v2 v3 e1)), .val (.int (own_m v1 v2 v3 e2)), .unset, .unset, .unset, .unset, .unset, .unset] []))
    rcases (own_and3 p3 hv46) with rfl | rfl | rfl | rfl
    · show own_Go p e below s _ _ _ (T48.setTop (mkF m 283 #[.val (.int p0), .val (.int p1), .val (.int p2), .val (.int p3), .val (.int p4), .val (.int p5), .val (.int v1), .val (.int v2), .val (.int v3), .val (.ref b4), .val (.ref b8), .val (.ref b27), .val (.int (0 : Int32)), .val (.int q_), .val (.int (own_m v1 v2 v3 e0)), .val (.int (own_m v1 v2 v3 e1)), .val (.int (own_m v1 v2 v3 e2)), .unset, .unset, .unset, .unset, .unset, .unset] []))
      refine own_via (fun _ k => XS.iload X48.here hx rfl (hb hby at_283) rfl k) ?_
      show own_Go p e below s _ _ _ (T48.setTop (mkF m 285 #[.val (.int p0), .val (.int p1), .val (.int p2), .val (.int p3), .val (.int p4), .val (.int p5), .val (.int v1), .val (.int v2), .val (.int v3), .val (.ref b4), .val (.ref b8), .val (.ref b27), .val (.int (0 : Int32)), .val (.int q_), .val (.int (own_m v1 v2 v3 e0)), .val (.int (own_m v1 v2 v3 e1)), .val (.int (own_m v1 v2 v3 e2)), .unset, .unset, .unset, .unset, .unset, .unset] [(.int (0 : Int32))]))
      refine own_via (fun _ k => XS.ifNo X48.here hx rfl (hb hby at_285) rfl (Jvm.Free.XT.i0_ne_f (by decide)) k) ?_
      show own_Go p e below s _ _ _ (T48.setTop (mkF m 288 #[.val (.int p0), .val (.int p1), .val (.int p2), .val (.int p3), .val (.int p4), .val (.int p5), .val (.int v1), .val (.int v2), .val (.int v3), .val (.ref b4), .val (.ref b8), .val (.ref b27), .val (.int (0 : Int32)), .val (.int q_), .val (.int (own_m v1 v2 v3 e0)), .val (.int (own_m v1 v2 v3 e1)), .val (.int (own_m v1 v2 v3 e2)), .unset, .unset, .unset, .unset, .unset, .unset] []))
      refine own_via (fun _ k => XS.iconst X48.here hx rfl (hb hby at_288) k) ?_
      show own_Go p e below s _ _ _ (T48.setTop (mkF m 289 #[.val (.int p0), .val (.int p1), .val (.int p2), .val (.int p3), .val (.int p4), .val (.int p5), .val (.int v1), .val (.int v2), .val (.int v3), .val (.ref b4), .val (.ref b8), .val (.ref b27), .val (.int (0 : Int32)), .val (.int q_), .val (.int (own_m v1 v2 v3 e0)), .val (.int (own_m v1 v2 v3 e1)), .val (.int (own_m v1 v2 v3 e2)), .unset, .unset, .unset, .unset, .unset, .unset] [(.int (0 : Int32))]))
      obtain ⟨T119, h119, k119, X119, e119, E119, A119, AE119, st119⟩ := newPE X48 hx hZ (hw _ (List.mem_of_getElem? (i := 1) rfl)) e48 (g := (mkF m 289 #[.val (.int p0), .val (.int p1), .val (.int p2), .val (.int p3), .val (.int p4), .val (.int p5), .val (.int v1), .val (.int v2), .val (.int v3), .val (.ref b4), .val (.ref b8), .val (.ref b27), .val (.int (0 : Int32)), .val (.int q_), .val (.int (own_m v1 v2 v3 e0)), .val (.int (own_m v1 v2 v3 e1)), .val (.int (own_m v1 v2 v3 e2)), .unset, .unset, .unset, .unset, .unset, .unset] [(.int (0 : Int32))])) rfl (hb hby at_289) rfl (by decide) (cap := 0) (by decide) (by decide) (by decide) (by decide) (ad := "[I") (by decide)
      obtain ⟨b119, gg119⟩ : ∃ z, z = h48.size := ⟨_, rfl⟩
      rw [← gg119] at A119 AE119 st119
      have ne_b27_b119 : b27 ≠ b119 := Nat.ne_of_lt (Nat.lt_of_lt_of_le F51.lt (Nat.le_of_eq gg119.symm))
      have ne_b4_b119 : b4 ≠ b119 := Nat.ne_of_lt (Nat.lt_of_lt_of_le F50.lt (Nat.le_of_eq gg119.symm))
      have g_b119 : n0 ≤ b119 := Nat.le_trans Z48 (Nat.le_of_eq gg119.symm)
      have Z119 : n0 ≤ h119.size := Nat.le_trans Z48 E119.1
      have V119 : Arv Z h119 b119 k119 .int (0 : Int32) [] (.int (0 : Int32)) := (Arv.new A119 (by decide)).pad (pad_rep [] (.int (0 : Int32)) 0)
      refine own_via st119 ?_
      show own_Go p e below s _ _ _ (T119.setTop (mkF m 291 #[.val (.int p0), .val (.int p1), .val (.int p2), .val (.int p3), .val (.int p4), .val (.int p5), .val (.int v1), .val (.int v2), .val (.int v3), .val (.ref b4), .val (.ref b8), .val (.ref b27), .val (.int (0 : Int32)), .val (.int q_), .val (.int (own_m v1 v2 v3 e0)), .val (.int (own_m v1 v2 v3 e1)), .val (.int (own_m v1 v2 v3 e2)), .unset, .unset, .unset, .unset, .unset, .unset] [(.ref b119)]))
      refine own_via (fun _ k => XS.astore X119.here hx rfl (hb hby at_291) rfl rfl (l' := #[.val (.int p0), .val (.int p1), .val (.int p2), .val (.int p3), .val (.int p4), .val (.int p5), .val (.int v1), .val (.int v2), .val (.int v3), .val (.ref b4), .val (.ref b8), .val (.ref b27), .val (.int (0 : Int32)), .val (.int q_), .val (.int (own_m v1 v2 v3 e0)), .val (.int (own_m v1 v2 v3 e1)), .val (.int (own_m v1 v2 v3 e2)), .val (.ref b119), .unset, .unset, .unset, .unset, .unset]) rfl k) ?_
      show own_Go p e below s _ _ _ (T119.setTop (mkF m 293 #[.val (.int p0), .val (.int p1), .val (.int p2), .val (.int p3), .val (.int p4), .val (.int p5), .val (.int v1), .val (.int v2), .val (.int v3), .val (.ref b4), .val (.ref b8), .val (.ref b27), .val (.int (0 : Int32)), .val (.int q_), .val (.int (own_m v1 v2 v3 e0)), .val (.int (own_m v1 v2 v3 e1)), .val (.int (own_m v1 v2 v3 e2)), .val (.ref b119), .unset, .unset, .unset, .unset, .unset] []))
      refine own_via (fun _ k => XS.goto X119.here hx rfl (pc0 := 293) (pc' := 359) rfl (hb hby at_293) (by decide) (by decide) k) ?_
      show own_Go p e below s _ _ _ (T119.setTop (mkF m 359 #[.val (.int p0), .val (.int p1), .val (.int p2), .val (.int p3), .val (.int p4), .val (.int p5), .val (.int v1), .val (.int v2), .val (.int v3), .val (.ref b4), .val (.ref b8), .val (.ref b27), .val (.int (0 : Int32)), .val (.int q_), .val (.int (own_m v1 v2 v3 e0)), .val (.int (own_m v1 v2 v3 e1)), .val (.int (own_m v1 v2 v3 e2)), .val (.ref b119), .unset, .unset, .unset, .unset, .unset] []))
      have F120 := (F49.ext E119)
      have F121 := (F50.ext E119)
      have F122 := (F51.ext E119)
      exact jk b119 k119 0 [] _ _ _ (X119.loosen (by decide) (by decide)) e119 N48 Z119 F120 F121 F122 V119 AE119 (by unfold own_kn; simp)
    · show own_Go p e below s _ _ _ (T48.setTop (mkF m 283 #[.val (.int p0), .val (.int p1), .val (.int p2), .val (.int p3), .val (.int p4), .val (.int p5), .val (.int v1), .val (.int v2), .val (.int v3), .val (.ref b4), .val (.ref b8), .val (.ref b27), .val (.int (1 : Int32)), .val (.int q_), .val (.int (own_m v1 v2 v3 e0)), .val (.int (own_m v1 v2 v3 e1)), .val (.int (own_m v1 v2 v3 e2)), .unset, .unset, .unset, .unset, .unset, .unset] []))
      refine own_via (fun _ k => XS.iload X48.here hx rfl (hb hby at_283) rfl k) ?_
      show own_Go p e below s _ _ _ (T48.setTop (mkF m 285 #[.val (.int p0), .val (.int p1), .val (.int p2), .val (.int p3), .val (.int p4), .val (.int p5), .val (.int v1), .val (.int v2), .val (.int v3), .val (.ref b4), .val (.ref b8), .val (.ref b27), .val (.int (1 : Int32)), .val (.int q_), .val (.int (own_m v1 v2 v3 e0)), .val (.int (own_m v1 v2 v3 e1)), .val (.int (own_m v1 v2 v3 e2)), .unset, .unset, .unset, .unset, .unset, .unset] [(.int (1 : Int32))]))
      refine own_via (fun _ k => XS.ifYes X48.here hx rfl (pc0 := 285) (pc' := 296) rfl (hb hby at_285) rfl (Jvm.Free.XT.i0_ne_t (by decide)) (by decide) (by decide) k) ?_
      show own_Go p e below s _ _ _ (T48.setTop (mkF m 296 #[.val (.int p0), .val (.int p1), .val (.int p2), .val (.int p3), .val (.int p4), .val (.int p5), .val (.int v1), .val (.int v2), .val (.int v3), .val (.ref b4), .val (.ref b8), .val (.ref b27), .val (.int (1 : Int32)), .val (.int q_), .val (.int (own_m v1 v2 v3 e0)), .val (.int (own_m v1 v2 v3 e1)), .val (.int (own_m v1 v2 v3 e2)), .unset, .unset, .unset, .unset, .unset, .unset] []))
      refine own_via (fun _ k => XS.iload X48.here hx rfl (hb hby at_296) rfl k) ?_
      show own_Go p e below s _ _ _ (T48.setTop (mkF m 298 #[.val (.int p0), .val (.int p1), .val (.int p2), .val (.int p3), .val (.int p4), .val (.int p5), .val (.int v1), .val (.int v2), .val (.int v3), .val (.ref b4), .val (.ref b8), .val (.ref b27), .val (.int (1 : Int32)), .val (.int q_), .val (.int (own_m v1 v2 v3 e0)), .val (.int (own_m v1 v2 v3 e1)), .val (.int (own_m v1 v2 v3 e2)), .unset, .unset, .unset, .unset, .unset, .unset] [(.int (1 : Int32))]))
      refine own_via (fun _ k => XS.iconst X48.here hx rfl (hb hby at_298) k) ?_
      show own_Go p e below s _ _ _ (T48.setTop (mkF m 299 #[.val (.int p0), .val (.int p1), .val (.int p2), .val (.int p3), .val (.int p4), .val (.int p5), .val (.int v1), .val (.int v2), .val (.int v3), .val (.ref b4), .val (.ref b8), .val (.ref b27), .val (.int (1 : Int32)), .val (.int q_), .val (.int (own_m v1 v2 v3 e0)), .val (.int (own_m v1 v2 v3 e1)), .val (.int (own_m v1 v2 v3 e2)), .unset, .unset, .unset, .unset, .unset, .unset] [(.int (1 : Int32)), (.int (1 : Int32))]))
      refine own_via (fun _ k => XS.icmpNo X48.here hx rfl (hb hby at_299) rfl (Jvm.Free.XT.ii_ne_f (by decide)) k) ?_
      show own_Go p e below s _ _ _ (T48.setTop (mkF m 302 #[.val (.int p0), .val (.int p1), .val (.int p2), .val (.int p3), .val (.int p4), .val (.int p5), .val (.int v1), .val (.int v2), .val (.int v3), .val (.ref b4), .val (.ref b8), .val (.ref b27), .val (.int (1 : Int32)), .val (.int q_), .val (.int (own_m v1 v2 v3 e0)), .val (.int (own_m v1 v2 v3 e1)), .val (.int (own_m v1 v2 v3 e2)), .unset, .unset, .unset, .unset, .unset, .unset] []))
      refine own_via (fun _ k => XS.iconst X48.here hx rfl (hb hby at_302) k) ?_
      show own_Go p e below s _ _ _ (T48.setTop (mkF m 303 #[.val (.int p0), .val (.int p1), .val (.int p2), .val (.int p3), .val (.int p4), .val (.int p5), .val (.int v1), .val (.int v2), .val (.int v3), .val (.ref b4), .val (.ref b8), .val (.ref b27), .val (.int (1 : Int32)), .val (.int q_), .val (.int (own_m v1 v2 v3 e0)), .val (.int (own_m v1 v2 v3 e1)), .val (.int (own_m v1 v2 v3 e2)), .unset, .unset, .unset, .unset, .unset, .unset] [(.int (1 : Int32))]))
      obtain ⟨T123, h123, k123, X123, e123, E123, A123, AE123, st123⟩ := newPE X48 hx hZ (hw _ (List.mem_of_getElem? (i := 1) rfl)) e48 (g := (mkF m 303 #[.val (.int p0), .val (.int p1), .val (.int p2), .val (.int p3), .val (.int p4), .val (.int p5), .val (.int v1), .val (.int v2), .val (.int v3), .val (.ref b4), .val (.ref b8), .val (.ref b27), .val (.int (1 : Int32)), .val (.int q_), .val (.int (own_m v1 v2 v3 e0)), .val (.int (own_m v1 v2 v3 e1)), .val (.int (own_m v1 v2 v3 e2)), .unset, .unset, .unset, .unset, .unset, .unset] [(.int (1 : Int32))])) rfl (hb hby at_303) rfl (by decide) (cap := 1) (by decide) (by decide) (by decide) (by decide) (ad := "[I") (by decide)
      obtain ⟨b123, gg123⟩ : ∃ z, z = h48.size := ⟨_, rfl⟩
      rw [← gg123] at A123 AE123 st123
      have ne_b27_b123 : b27 ≠ b123 := Nat.ne_of_lt (Nat.lt_of_lt_of_le F51.lt (Nat.le_of_eq gg123.symm))
      have ne_b4_b123 : b4 ≠ b123 := Nat.ne_of_lt (Nat.lt_of_lt_of_le F50.lt (Nat.le_of_eq gg123.symm))
      have g_b123 : n0 ≤ b123 := Nat.le_trans Z48 (Nat.le_of_eq gg123.symm)
      have Z123 : n0 ≤ h123.size := Nat.le_trans Z48 E123.1
      have V123 : Arv Z h123 b123 k123 .int (1 : Int32) [(.int (0 : Int32))] (.int (0 : Int32)) := (Arv.new A123 (by decide)).pad (pad_rep [] (.int (0 : Int32)) 1)
      refine own_via st123 ?_
      show own_Go p e below s _ _ _ (T123.setTop (mkF m 305 #[.val (.int p0), .val (.int p1), .val (.int p2), .val (.int p3), .val (.int p4), .val (.int p5), .val (.int v1), .val (.int v2), .val (.int v3), .val (.ref b4), .val (.ref b8), .val (.ref b27), .val (.int (1 : Int32)), .val (.int q_), .val (.int (own_m v1 v2 v3 e0)), .val (.int (own_m v1 v2 v3 e1)), .val (.int (own_m v1 v2 v3 e2)), .unset, .unset, .unset, .unset, .unset, .unset] [(.ref b123)]))
      refine own_via (fun _ k => XS.dup X123.here hx rfl (hb hby at_305) rfl rfl k) ?_
      show own_Go p e below s _ _ _ (T123.setTop (mkF m 306 #[.val (.int p0), .val (.int p1), .val (.int p2), .val (.int p3), .val (.int p4), .val (.int p5), .val (.int v1), .val (.int v2), .val (.int v3), .val (.ref b4), .val (.ref b8), .val (.ref b27), .val (.int (1 : Int32)), .val (.int q_), .val (.int (own_m v1 v2 v3 e0)), .val (.int (own_m v1 v2 v3 e1)), .val (.int (own_m v1 v2 v3 e2)), .unset, .unset, .unset, .unset, .unset, .unset] [(.ref b123), (.ref b123)]))
      refine own_via (fun _ k => XS.iconst X123.here hx rfl (hb hby at_306) k) ?_
      show own_Go p e below s _ _ _ (T123.setTop (mkF m 307 #[.val (.int p0), .val (.int p1), .val (.int p2), .val (.int p3), .val (.int p4), .val (.int p5), .val (.int v1), .val (.int v2), .val (.int v3), .val (.ref b4), .val (.ref b8), .val (.ref b27), .val (.int (1 : Int32)), .val (.int q_), .val (.int (own_m v1 v2 v3 e0)), .val (.int (own_m v1 v2 v3 e1)), .val (.int (own_m v1 v2 v3 e2)), .unset, .unset, .unset, .unset, .unset, .unset] [(.int (0 : Int32)), (.ref b123), (.ref b123)]))
      refine own_via (fun _ k => XS.iload X123.here hx rfl (hb hby at_307) rfl k) ?_
      show own_Go p e below s _ _ _ (T123.setTop (mkF m 309 #[.val (.int p0), .val (.int p1), .val (.int p2), .val (.int p3), .val (.int p4), .val (.int p5), .val (.int v1), .val (.int v2), .val (.int v3), .val (.ref b4), .val (.ref b8), .val (.ref b27), .val (.int (1 : Int32)), .val (.int q_), .val (.int (own_m v1 v2 v3 e0)), .val (.int (own_m v1 v2 v3 e1)), .val (.int (own_m v1 v2 v3 e2)), .unset, .unset, .unset, .unset, .unset, .unset] [(.int (own_m v1 v2 v3 e0)), (.int (0 : Int32)), (.ref b123), (.ref b123)]))
      obtain ⟨cl124, Ar124, q124, S124, M124, H124, G124⟩ := (id V123)
      have hin124 : ¬ ((0 : Int32) < 0 ∨ cl124.slots.size ≤ ((0 : Int32)).toNatClampNeg) := inb_of S124 ⟨by decide, by decide⟩
      obtain ⟨T124, h124, X124, e124, W124, st124⟩ := stI X123 hx hZ e123 Ar124 (j := (0 : Int32)) hin124 (g := (mkF m 309 #[.val (.int p0), .val (.int p1), .val (.int p2), .val (.int p3), .val (.int p4), .val (.int p5), .val (.int v1), .val (.int v2), .val (.int v3), .val (.ref b4), .val (.ref b8), .val (.ref b27), .val (.int (1 : Int32)), .val (.int q_), .val (.int (own_m v1 v2 v3 e0)), .val (.int (own_m v1 v2 v3 e1)), .val (.int (own_m v1 v2 v3 e2)), .unset, .unset, .unset, .unset, .unset, .unset] [(.int (own_m v1 v2 v3 e0)), (.int (0 : Int32)), (.ref b123), (.ref b123)])) rfl rfl (hb hby at_309)
      have V124 : Arv Z h124 b123 k123 .int (1 : Int32) [(.int (own_m v1 v2 v3 e0))] (.int (0 : Int32)) := Arv.set Ar124 q124 S124 M124 H124 G124 rfl W124 0 rfl (Nat.le_of_ble_eq_true rfl)
      have N124 := Fr.snoc X124 N48 g_b123
      have Z124 : n0 ≤ h124.size := Nat.le_trans Z123 (Keep.of_wr W124).1
      refine own_via st124 ?_
      show own_Go p e below s _ _ _ (T124.setTop (mkF m 310 #[.val (.int p0), .val (.int p1), .val (.int p2), .val (.int p3), .val (.int p4), .val (.int p5), .val (.int v1), .val (.int v2), .val (.int v3), .val (.ref b4), .val (.ref b8), .val (.ref b27), .val (.int (1 : Int32)), .val (.int q_), .val (.int (own_m v1 v2 v3 e0)), .val (.int (own_m v1 v2 v3 e1)), .val (.int (own_m v1 v2 v3 e2)), .unset, .unset, .unset, .unset, .unset, .unset] [(.ref b123)]))
      refine own_via (fun _ k => XS.astore X124.here hx rfl (hb hby at_310) rfl rfl (l' := #[.val (.int p0), .val (.int p1), .val (.int p2), .val (.int p3), .val (.int p4), .val (.int p5), .val (.int v1), .val (.int v2), .val (.int v3), .val (.ref b4), .val (.ref b8), .val (.ref b27), .val (.int (1 : Int32)), .val (.int q_), .val (.int (own_m v1 v2 v3 e0)), .val (.int (own_m v1 v2 v3 e1)), .val (.int (own_m v1 v2 v3 e2)), .val (.ref b123), .unset, .unset, .unset, .unset, .unset]) rfl k) ?_
      show own_Go p e below s _ _ _ (T124.setTop (mkF m 312 #[.val (.int p0), .val (.int p1), .val (.int p2), .val (.int p3), .val (.int p4), .val (.int p5), .val (.int v1), .val (.int v2), .val (.int v3), .val (.ref b4), .val (.ref b8), .val (.ref b27), .val (.int (1 : Int32)), .val (.int q_), .val (.int (own_m v1 v2 v3 e0)), .val (.int (own_m v1 v2 v3 e1)), .val (.int (own_m v1 v2 v3 e2)), .val (.ref b123), .unset, .unset, .unset, .unset, .unset] []))
      refine own_via (fun _ k => XS.goto X124.here hx rfl (pc0 := 312) (pc' := 359) rfl (hb hby at_312) (by decide) (by decide) k) ?_
      show own_Go p e below s _ _ _ (T124.setTop (mkF m 359 #[.val (.int p0), .val (.int p1), .val (.int p2), .val (.int p3), .val (.int p4), .val (.int p5), .val (.int v1), .val (.int v2), .val (.int v3), .val (.ref b4), .val (.ref b8), .val (.ref b27), .val (.int (1 : Int32)), .val (.int q_), .val (.int (own_m v1 v2 v3 e0)), .val (.int (own_m v1 v2 v3 e1)), .val (.int (own_m v1 v2 v3 e2)), .val (.ref b123), .unset, .unset, .unset, .unset, .unset] []))
      have F125 := ((F49.ext E123).other W124 ne_b4_b123)
      have F126 := ((F50.ext E123).wr W124)
      have F127 := ((F51.ext E123).other W124 ne_b27_b123)
      have F128 := (AE123.wr W124)
      exact jk b123 k123 1 [e0] _ _ _ (X124.loosen (by decide) (by decide)) e124 N124 Z124 F125 F126 F127 V124 F128 (by unfold own_kn; simp)
    · show own_Go p e below s _ _ _ (T48.setTop (mkF m 283 #[.val (.int p0), .val (.int p1), .val (.int p2), .val (.int p3), .val (.int p4), .val (.int p5), .val (.int v1), .val (.int v2), .val (.int v3), .val (.ref b4), .val (.ref b8), .val (.ref b27), .val (.int (2 : Int32)), .val (.int q_), .val (.int (own_m v1 v2 v3 e0)), .val (.int (own_m v1 v2 v3 e1)), .val (.int (own_m v1 v2 v3 e2)), .unset, .unset, .unset, .unset, .unset, .unset] []))
      refine own_via (fun _ k => XS.iload X48.here hx rfl (hb hby at_283) rfl k) ?_
      show own_Go p e below s _ _ _ (T48.setTop (mkF m 285 #[.val (.int p0), .val (.int p1), .val (.int p2), .val (.int p3), .val (.int p4), .val (.int p5), .val (.int v1), .val (.int v2), .val (.int v3), .val (.ref b4), .val (.ref b8), .val (.ref b27), .val (.int (2 : Int32)), .val (.int q_), .val (.int (own_m v1 v2 v3 e0)), .val (.int (own_m v1 v2 v3 e1)), .val (.int (own_m v1 v2 v3 e2)), .unset, .unset, .unset, .unset, .unset, .unset] [(.int (2 : Int32))]))
      refine own_via (fun _ k => XS.ifYes X48.here hx rfl (pc0 := 285) (pc' := 296) rfl (hb hby at_285) rfl (Jvm.Free.XT.i0_ne_t (by decide)) (by decide) (by decide) k) ?_
      show own_Go p e below s _ _ _ (T48.setTop (mkF m 296 #[.val (.int p0), .val (.int p1), .val (.int p2), .val (.int p3), .val (.int p4), .val (.int p5), .val (.int v1), .val (.int v2), .val (.int v3), .val (.ref b4), .val (.ref b8), .val (.ref b27), .val (.int (2 : Int32)), .val (.int q_), .val (.int (own_m v1 v2 v3 e0)), .val (.int (own_m v1 v2 v3 e1)), .val (.int (own_m v1 v2 v3 e2)), .unset, .unset, .unset, .unset, .unset, .unset] []))
      refine own_via (fun _ k => XS.iload X48.here hx rfl (hb hby at_296) rfl k) ?_
      show own_Go p e below s _ _ _ (T48.setTop (mkF m 298 #[.val (.int p0), .val (.int p1), .val (.int p2), .val (.int p3), .val (.int p4), .val (.int p5), .val (.int v1), .val (.int v2), .val (.int v3), .val (.ref b4), .val (.ref b8), .val (.ref b27), .val (.int (2 : Int32)), .val (.int q_), .val (.int (own_m v1 v2 v3 e0)), .val (.int (own_m v1 v2 v3 e1)), .val (.int (own_m v1 v2 v3 e2)), .unset, .unset, .unset, .unset, .unset, .unset] [(.int (2 : Int32))]))
      refine own_via (fun _ k => XS.iconst X48.here hx rfl (hb hby at_298) k) ?_
      show own_Go p e below s _ _ _ (T48.setTop (mkF m 299 #[.val (.int p0), .val (.int p1), .val (.int p2), .val (.int p3), .val (.int p4), .val (.int p5), .val (.int v1), .val (.int v2), .val (.int v3), .val (.ref b4), .val (.ref b8), .val (.ref b27), .val (.int (2 : Int32)), .val (.int q_), .val (.int (own_m v1 v2 v3 e0)), .val (.int (own_m v1 v2 v3 e1)), .val (.int (own_m v1 v2 v3 e2)), .unset, .unset, .unset, .unset, .unset, .unset] [(.int (1 : Int32)), (.int (2 : Int32))]))
      refine own_via (fun _ k => XS.icmpYes X48.here hx rfl (pc0 := 299) (pc' := 315) rfl (hb hby at_299) rfl (Jvm.Free.XT.ii_ne_t (by decide)) (by decide) (by decide) k) ?_
      show own_Go p e below s _ _ _ (T48.setTop (mkF m 315 #[.val (.int p0), .val (.int p1), .val (.int p2), .val (.int p3), .val (.int p4), .val (.int p5), .val (.int v1), .val (.int v2), .val (.int v3), .val (.ref b4), .val (.ref b8), .val (.ref b27), .val (.int (2 : Int32)), .val (.int q_), .val (.int (own_m v1 v2 v3 e0)), .val (.int (own_m v1 v2 v3 e1)), .val (.int (own_m v1 v2 v3 e2)), .unset, .unset, .unset, .unset, .unset, .unset] []))
      refine own_via (fun _ k => XS.iload X48.here hx rfl (hb hby at_315) rfl k) ?_
      show own_Go p e below s _ _ _ (T48.setTop (mkF m 317 #[.val (.int p0), .val (.int p1), .val (.int p2), .val (.int p3), .val (.int p4), .val (.int p5), .val (.int v1), .val (.int v2), .val (.int v3), .val (.ref b4), .val (.ref b8), .val (.ref b27), .val (.int (2 : Int32)), .val (.int q_), .val (.int (own_m v1 v2 v3 e0)), .val (.int (own_m v1 v2 v3 e1)), .val (.int (own_m v1 v2 v3 e2)), .unset, .unset, .unset, .unset, .unset, .unset] [(.int (2 : Int32))]))
      refine own_via (fun _ k => XS.iconst X48.here hx rfl (hb hby at_317) k) ?_
      show own_Go p e below s _ _ _ (T48.setTop (mkF m 318 #[.val (.int p0), .val (.int p1), .val (.int p2), .val (.int p3), .val (.int p4), .val (.int p5), .val (.int v1), .val (.int v2), .val (.int v3), .val (.ref b4), .val (.ref b8), .val (.ref b27), .val (.int (2 : Int32)), .val (.int q_), .val (.int (own_m v1 v2 v3 e0)), .val (.int (own_m v1 v2 v3 e1)), .val (.int (own_m v1 v2 v3 e2)), .unset, .unset, .unset, .unset, .unset, .unset] [(.int (2 : Int32)), (.int (2 : Int32))]))
      refine own_via (fun _ k => XS.icmpNo X48.here hx rfl (hb hby at_318) rfl (Jvm.Free.XT.ii_ne_f (by decide)) k) ?_
      show own_Go p e below s _ _ _ (T48.setTop (mkF m 321 #[.val (.int p0), .val (.int p1), .val (.int p2), .val (.int p3), .val (.int p4), .val (.int p5), .val (.int v1), .val (.int v2), .val (.int v3), .val (.ref b4), .val (.ref b8), .val (.ref b27), .val (.int (2 : Int32)), .val (.int q_), .val (.int (own_m v1 v2 v3 e0)), .val (.int (own_m v1 v2 v3 e1)), .val (.int (own_m v1 v2 v3 e2)), .unset, .unset, .unset, .unset, .unset, .unset] []))
      refine own_via (fun _ k => XS.iconst X48.here hx rfl (hb hby at_321) k) ?_
      show own_Go p e below s _ _ _ (T48.setTop (mkF m 322 #[.val (.int p0), .val (.int p1), .val (.int p2), .val (.int p3), .val (.int p4), .val (.int p5), .val (.int v1), .val (.int v2), .val (.int v3), .val (.ref b4), .val (.ref b8), .val (.ref b27), .val (.int (2 : Int32)), .val (.int q_), .val (.int (own_m v1 v2 v3 e0)), .val (.int (own_m v1 v2 v3 e1)), .val (.int (own_m v1 v2 v3 e2)), .unset, .unset, .unset, .unset, .unset, .unset] [(.int (2 : Int32))]))
      obtain ⟨T129, h129, k129, X129, e129, E129, A129, AE129, st129⟩ := newPE X48 hx hZ (hw _ (List.mem_of_getElem? (i := 1) rfl)) e48 (g := (mkF m 322 #[.val (.int p0), .val (.int p1), .val (.int p2), .val (.int p3), .val (.int p4), .val (.int p5), .val (.int v1), .val (.int v2), .val (.int v3), .val (.ref b4), .val (.ref b8), .val (.ref b27), .val (.int (2 : Int32)), .val (.int q_), .val (.int (own_m v1 v2 v3 e0)), .val (.int (own_m v1 v2 v3 e1)), .val (.int (own_m v1 v2 v3 e2)), .unset, .unset, .unset, .unset, .unset, .unset] [(.int (2 : Int32))])) rfl (hb hby at_322) rfl (by decide) (cap := 2) (by decide) (by decide) (by decide) (by decide) (ad := "[I") (by decide)
      obtain ⟨b129, gg129⟩ : ∃ z, z = h48.size := ⟨_, rfl⟩
      rw [← gg129] at A129 AE129 st129
      have ne_b27_b129 : b27 ≠ b129 := Nat.ne_of_lt (Nat.lt_of_lt_of_le F51.lt (Nat.le_of_eq gg129.symm))
      have ne_b4_b129 : b4 ≠ b129 := Nat.ne_of_lt (Nat.lt_of_lt_of_le F50.lt (Nat.le_of_eq gg129.symm))
      have g_b129 : n0 ≤ b129 := Nat.le_trans Z48 (Nat.le_of_eq gg129.symm)
      have Z129 : n0 ≤ h129.size := Nat.le_trans Z48 E129.1
      have V129 : Arv Z h129 b129 k129 .int (2 : Int32) [(.int (0 : Int32)), (.int (0 : Int32))] (.int (0 : Int32)) := (Arv.new A129 (by decide)).pad (pad_rep [] (.int (0 : Int32)) 2)
      refine own_via st129 ?_
      show own_Go p e below s _ _ _ (T129.setTop (mkF m 324 #[.val (.int p0), .val (.int p1), .val (.int p2), .val (.int p3), .val (.int p4), .val (.int p5), .val (.int v1), .val (.int v2), .val (.int v3), .val (.ref b4), .val (.ref b8), .val (.ref b27), .val (.int (2 : Int32)), .val (.int q_), .val (.int (own_m v1 v2 v3 e0)), .val (.int (own_m v1 v2 v3 e1)), .val (.int (own_m v1 v2 v3 e2)), .unset, .unset, .unset, .unset, .unset, .unset] [(.ref b129)]))
      refine own_via (fun _ k => XS.dup X129.here hx rfl (hb hby at_324) rfl rfl k) ?_
      show own_Go p e below s _ _ _ (T129.setTop (mkF m 325 #[.val (.int p0), .val (.int p1), .val (.int p2), .val (.int p3), .val (.int p4), .val (.int p5), .val (.int v1), .val (.int v2), .val (.int v3), .val (.ref b4), .val (.ref b8), .val (.ref b27), .val (.int (2 : Int32)), .val (.int q_), .val (.int (own_m v1 v2 v3 e0)), .val (.int (own_m v1 v2 v3 e1)), .val (.int (own_m v1 v2 v3 e2)), .unset, .unset, .unset, .unset, .unset, .unset] [(.ref b129), (.ref b129)]))
      refine own_via (fun _ k => XS.iconst X129.here hx rfl (hb hby at_325) k) ?_
      show own_Go p e below s _ _ _ (T129.setTop (mkF m 326 #[.val (.int p0), .val (.int p1), .val (.int p2), .val (.int p3), .val (.int p4), .val (.int p5), .val (.int v1), .val (.int v2), .val (.int v3), .val (.ref b4), .val (.ref b8), .val (.ref b27), .val (.int (2 : Int32)), .val (.int q_), .val (.int (own_m v1 v2 v3 e0)), .val (.int (own_m v1 v2 v3 e1)), .val (.int (own_m v1 v2 v3 e2)), .unset, .unset, .unset, .unset, .unset, .unset] [(.int (0 : Int32)), (.ref b129), (.ref b129)]))
      refine own_via (fun _ k => XS.iload X129.here hx rfl (hb hby at_326) rfl k) ?_
      show own_Go p e below s _ _ _ (T129.setTop (mkF m 328 #[.val (.int p0), .val (.int p1), .val (.int p2), .val (.int p3), .val (.int p4), .val (.int p5), .val (.int v1), .val (.int v2), .val (.int v3), .val (.ref b4), .val (.ref b8), .val (.ref b27), .val (.int (2 : Int32)), .val (.int q_), .val (.int (own_m v1 v2 v3 e0)), .val (.int (own_m v1 v2 v3 e1)), .val (.int (own_m v1 v2 v3 e2)), .unset, .unset, .unset, .unset, .unset, .unset] [(.int (own_m v1 v2 v3 e0)), (.int (0 : Int32)), (.ref b129), (.ref b129)]))
      obtain ⟨cl130, Ar130, q130, S130, M130, H130, G130⟩ := (id V129)
      have hin130 : ¬ ((0 : Int32) < 0 ∨ cl130.slots.size ≤ ((0 : Int32)).toNatClampNeg) := inb_of S130 ⟨by decide, by decide⟩
      obtain ⟨T130, h130, X130, e130, W130, st130⟩ := stI X129 hx hZ e129 Ar130 (j := (0 : Int32)) hin130 (g := (mkF m 328 #[.val (.int p0), .val (.int p1), .val (.int p2), .val (.int p3), .val (.int p4), .val (.int p5), .val (.int v1), .val (.int v2), .val (.int v3), .val (.ref b4), .val (.ref b8), .val (.ref b27), .val (.int (2 : Int32)), .val (.int q_), .val (.int (own_m v1 v2 v3 e0)), .val (.int (own_m v1 v2 v3 e1)), .val (.int (own_m v1 v2 v3 e2)), .unset, .unset, .unset, .unset, .unset, .unset] [(.int (own_m v1 v2 v3 e0)), (.int (0 : Int32)), (.ref b129), (.ref b129)])) rfl rfl (hb hby at_328)
      have V130 : Arv Z h130 b129 k129 .int (2 : Int32) [(.int (own_m v1 v2 v3 e0)), (.int (0 : Int32))] (.int (0 : Int32)) := Arv.set Ar130 q130 S130 M130 H130 G130 rfl W130 0 rfl (Nat.le_of_ble_eq_true rfl)
      have N130 := Fr.snoc X130 N48 g_b129
      have Z130 : n0 ≤ h130.size := Nat.le_trans Z129 (Keep.of_wr W130).1
      refine own_via st130 ?_
      show own_Go p e below s _ _ _ (T130.setTop (mkF m 329 #[.val (.int p0), .val (.int p1), .val (.int p2), .val (.int p3), .val (.int p4), .val (.int p5), .val (.int v1), .val (.int v2), .val (.int v3), .val (.ref b4), .val (.ref b8), .val (.ref b27), .val (.int (2 : Int32)), .val (.int q_), .val (.int (own_m v1 v2 v3 e0)), .val (.int (own_m v1 v2 v3 e1)), .val (.int (own_m v1 v2 v3 e2)), .unset, .unset, .unset, .unset, .unset, .unset] [(.ref b129)]))
      refine own_via (fun _ k => XS.dup X130.here hx rfl (hb hby at_329) rfl rfl k) ?_
      show own_Go p e below s _ _ _ (T130.setTop (mkF m 330 #[.val (.int p0), .val (.int p1), .val (.int p2), .val (.int p3), .val (.int p4), .val (.int p5), .val (.int v1), .val (.int v2), .val (.int v3), .val (.ref b4), .val (.ref b8), .val (.ref b27), .val (.int (2 : Int32)), .val (.int q_), .val (.int (own_m v1 v2 v3 e0)), .val (.int (own_m v1 v2 v3 e1)), .val (.int (own_m v1 v2 v3 e2)), .unset, .unset, .unset, .unset, .unset, .unset] [(.ref b129), (.ref b129)]))
      refine own_via (fun _ k => XS.iconst X130.here hx rfl (hb hby at_330) k) ?_
      show own_Go p e below s _ _ _ (T130.setTop (mkF m 331 #[.val (.int p0), .val (.int p1), .val (.int p2), .val (.int p3), .val (.int p4), .val (.int p5), .val (.int v1), .val (.int v2), .val (.int v3), .val (.ref b4), .val (.ref b8), .val (.ref b27), .val (.int (2 : Int32)), .val (.int q_), .val (.int (own_m v1 v2 v3 e0)), .val (.int (own_m v1 v2 v3 e1)), .val (.int (own_m v1 v2 v3 e2)), .unset, .unset, .unset, .unset, .unset, .unset] [(.int (1 : Int32)), (.ref b129), (.ref b129)]))
      refine own_via (fun _ k => XS.iload X130.here hx rfl (hb hby at_331) rfl k) ?_
      show own_Go p e below s _ _ _ (T130.setTop (mkF m 333 #[.val (.int p0), .val (.int p1), .val (.int p2), .val (.int p3), .val (.int p4), .val (.int p5), .val (.int v1), .val (.int v2), .val (.int v3), .val (.ref b4), .val (.ref b8), .val (.ref b27), .val (.int (2 : Int32)), .val (.int q_), .val (.int (own_m v1 v2 v3 e0)), .val (.int (own_m v1 v2 v3 e1)), .val (.int (own_m v1 v2 v3 e2)), .unset, .unset, .unset, .unset, .unset, .unset] [(.int (own_m v1 v2 v3 e1)), (.int (1 : Int32)), (.ref b129), (.ref b129)]))
      obtain ⟨cl131, Ar131, q131, S131, M131, H131, G131⟩ := (id V130)
      have hin131 : ¬ ((1 : Int32) < 0 ∨ cl131.slots.size ≤ ((1 : Int32)).toNatClampNeg) := inb_of S131 ⟨by decide, by decide⟩
      obtain ⟨T131, h131, X131, e131, W131, st131⟩ := stI X130 hx hZ e130 Ar131 (j := (1 : Int32)) hin131 (g := (mkF m 333 #[.val (.int p0), .val (.int p1), .val (.int p2), .val (.int p3), .val (.int p4), .val (.int p5), .val (.int v1), .val (.int v2), .val (.int v3), .val (.ref b4), .val (.ref b8), .val (.ref b27), .val (.int (2 : Int32)), .val (.int q_), .val (.int (own_m v1 v2 v3 e0)), .val (.int (own_m v1 v2 v3 e1)), .val (.int (own_m v1 v2 v3 e2)), .unset, .unset, .unset, .unset, .unset, .unset] [(.int (own_m v1 v2 v3 e1)), (.int (1 : Int32)), (.ref b129), (.ref b129)])) rfl rfl (hb hby at_333)
      have V131 : Arv Z h131 b129 k129 .int (2 : Int32) [(.int (own_m v1 v2 v3 e0)), (.int (own_m v1 v2 v3 e1))] (.int (0 : Int32)) := Arv.set Ar131 q131 S131 M131 H131 G131 rfl W131 1 rfl (Nat.le_of_ble_eq_true rfl)
      have N131 := Fr.snoc X131 N130 g_b129
      have Z131 : n0 ≤ h131.size := Nat.le_trans Z130 (Keep.of_wr W131).1
      refine own_via st131 ?_
      show own_Go p e below s _ _ _ (T131.setTop (mkF m 334 #[.val (.int p0), .val (.int p1), .val (.int p2), .val (.int p3), .val (.int p4), .val (.int p5), .val (.int v1), .val (.int v2), .val (.int v3), .val (.ref b4), .val (.ref b8), .val (.ref b27), .val (.int (2 : Int32)), .val (.int q_), .val (.int (own_m v1 v2 v3 e0)), .val (.int (own_m v1 v2 v3 e1)), .val (.int (own_m v1 v2 v3 e2)), .unset, .unset, .unset, .unset, .unset, .unset] [(.ref b129)]))
      refine own_via (fun _ k => XS.astore X131.here hx rfl (hb hby at_334) rfl rfl (l' := #[.val (.int p0), .val (.int p1), .val (.int p2), .val (.int p3), .val (.int p4), .val (.int p5), .val (.int v1), .val (.int v2), .val (.int v3), .val (.ref b4), .val (.ref b8), .val (.ref b27), .val (.int (2 : Int32)), .val (.int q_), .val (.int (own_m v1 v2 v3 e0)), .val (.int (own_m v1 v2 v3 e1)), .val (.int (own_m v1 v2 v3 e2)), .val (.ref b129), .unset, .unset, .unset, .unset, .unset]) rfl k) ?_
      show own_Go p e below s _ _ _ (T131.setTop (mkF m 336 #[.val (.int p0), .val (.int p1), .val (.int p2), .val (.int p3), .val (.int p4), .val (.int p5), .val (.int v1), .val (.int v2), .val (.int v3), .val (.ref b4), .val (.ref b8), .val (.ref b27), .val (.int (2 : Int32)), .val (.int q_), .val (.int (own_m v1 v2 v3 e0)), .val (.int (own_m v1 v2 v3 e1)), .val (.int (own_m v1 v2 v3 e2)), .val (.ref b129), .unset, .unset, .unset, .unset, .unset] []))
      refine own_via (fun _ k => XS.goto X131.here hx rfl (pc0 := 336) (pc' := 359) rfl (hb hby at_336) (by decide) (by decide) k) ?_
      show own_Go p e below s _ _ _ (T131.setTop (mkF m 359 #[.val (.int p0), .val (.int p1), .val (.int p2), .val (.int p3), .val (.int p4), .val (.int p5), .val (.int v1), .val (.int v2), .val (.int v3), .val (.ref b4), .val (.ref b8), .val (.ref b27), .val (.int (2 : Int32)), .val (.int q_), .val (.int (own_m v1 v2 v3 e0)), .val (.int (own_m v1 v2 v3 e1)), .val (.int (own_m v1 v2 v3 e2)), .val (.ref b129), .unset, .unset, .unset, .unset, .unset] []))
      have F132 := (((F49.ext E129).other W130 ne_b4_b129).other W131 ne_b4_b129)
      have F133 := (((F50.ext E129).wr W130).wr W131)
      have F134 := (((F51.ext E129).other W130 ne_b27_b129).other W131 ne_b27_b129)
      have F135 := ((AE129.wr W130).wr W131)
      exact jk b129 k129 2 [e0, e1] _ _ _ (X131.loosen (by decide) (by decide)) e131 N131 Z131 F132 F133 F134 V131 F135 (by unfold own_kn; simp)
    · show own_Go p e below s _ _ _ (T48.setTop (mkF m 283 #[.val (.int p0), .val (.int p1), .val (.int p2), .val (.int p3), .val (.int p4), .val (.int p5), .val (.int v1), .val (.int v2), .val (.int v3), .val (.ref b4), .val (.ref b8), .val (.ref b27), .val (.int (3 : Int32)), .val (.int q_), .val (.int (own_m v1 v2 v3 e0)), .val (.int (own_m v1 v2 v3 e1)), .val (.int (own_m v1 v2 v3 e2)), .unset, .unset, .unset, .unset, .unset, .unset] []))
      refine own_via (fun _ k => XS.iload X48.here hx rfl (hb hby at_283) rfl k) ?_
      show own_Go p e below s _ _ _ (T48.setTop (mkF m 285 #[.val (.int p0), .val (.int p1), .val (.int p2), .val (.int p3), .val (.int p4), .val (.int p5), .val (.int v1), .val (.int v2), .val (.int v3), .val (.ref b4), .val (.ref b8), .val (.ref b27), .val (.int (3 : Int32)), .val (.int q_), .val (.int (own_m v1 v2 v3 e0)), .val (.int (own_m v1 v2 v3 e1)), .val (.int (own_m v1 v2 v3 e2)), .unset, .unset, .unset, .unset, .unset, .unset] [(.int (3 : Int32))]))
      refine own_via (fun _ k => XS.ifYes X48.here hx rfl (pc0 := 285) (pc' := 296) rfl (hb hby at_285) rfl (Jvm.Free.XT.i0_ne_t (by decide)) (by decide) (by decide) k) ?_
      show own_Go p e below s _ _ _ (T48.setTop (mkF m 296 #[.val (.int p0), .val (.int p1), .val (.int p2), .val (.int p3), .val (.int p4), .val (.int p5), .val (.int v1), .val (.int v2), .val (.int v3), .val (.ref b4), .val (.ref b8), .val (.ref b27), .val (.int (3 : Int32)), .val (.int q_), .val (.int (own_m v1 v2 v3 e0)), .val (.int (own_m v1 v2 v3 e1)), .val (.int (own_m v1 v2 v3 e2)), .unset, .unset, .unset, .unset, .unset, .unset] []))
      refine own_via (fun _ k => XS.iload X48.here hx rfl (hb hby at_296) rfl k) ?_
      show own_Go p e below s _ _ _ (T48.setTop (mkF m 298 #[.val (.int p0), .val (.int p1), .val (.int p2), .val (.int p3), .val (.int p4), .val (.int p5), .val (.int v1), .val (.int v2), .val (.int v3), .val (.ref b4), .val (.ref b8), .val (.ref b27), .val (.int (3 : Int32)), .val (.int q_), .val (.int (own_m v1 v2 v3 e0)), .val (.int (own_m v1 v2 v3 e1)), .val (.int (own_m v1 v2 v3 e2)), .unset, .unset, .unset, .unset, .unset, .unset] [(.int (3 : Int32))]))
      refine own_via (fun _ k => XS.iconst X48.here hx rfl (hb hby at_298) k) ?_
      show own_Go p e below s _ _ _ (T48.setTop (mkF m 299 #[.val (.int p0), .val (.int p1), .val (.int p2), .val (.int p3), .val (.int p4), .val (.int p5), .val (.int v1), .val (.int v2), .val (.int v3), .val (.ref b4), .val (.ref b8), .val (.ref b27), .val (.int (3 : Int32)), .val (.int q_), .val (.int (own_m v1 v2 v3 e0)), .val (.int (own_m v1 v2 v3 e1)), .val (.int (own_m v1 v2 v3 e2)), .unset, .unset, .unset, .unset, .unset, .unset] [(.int (1 : Int32)), (.int (3 : Int32))]))
      refine own_via (fun _ k => XS.icmpYes X48.here hx rfl (pc0 := 299) (pc' := 315) rfl (hb hby at_299) rfl (Jvm.Free.XT.ii_ne_t (by decide)) (by decide) (by decide) k) ?_
      show own_Go p e below s _ _ _ (T48.setTop (mkF m 315 #[.val (.int p0), .val (.int p1), .val (.int p2), .val (.int p3), .val (.int p4), .val (.int p5), .val (.int v1), .val (.int v2), .val (.int v3), .val (.ref b4), .val (.ref b8), .val (.ref b27), .val (.int (3 : Int32)), .val (.int q_), .val (.int (own_m v1 v2 v3 e0)), .val (.int (own_m v1 v2 v3 e1)), .val (.int (own_m v1 v2 v3 e2)), .unset, .unset, .unset, .unset, .unset, .unset] []))
      refine own_via (fun _ k => XS.iload X48.here hx rfl (hb hby at_315) rfl k) ?_
      show own_Go p e below s _ _ _ (T48.setTop (mkF m 317 #[.val (.int p0), .val (.int p1), .val (.int p2), .val (.int p3), .val (.int p4), .val (.int p5), .val (.int v1), .val (.int v2), .val (.int v3), .val (.ref b4), .val (.ref b8), .val (.ref b27), .val (.int (3 : Int32)), .val (.int q_), .val (.int (own_m v1 v2 v3 e0)), .val (.int (own_m v1 v2 v3 e1)), .val (.int (own_m v1 v2 v3 e2)), .unset, .unset, .unset, .unset, .unset, .unset] [(.int (3 : Int32))]))
      refine own_via (fun _ k => XS.iconst X48.here hx rfl (hb hby at_317) k) ?_
      show own_Go p e below s _ _ _ (T48.setTop (mkF m 318 #[.val (.int p0), .val (.int p1), .val (.int p2), .val (.int p3), .val (.int p4), .val (.int p5), .val (.int v1), .val (.int v2), .val (.int v3), .val (.ref b4), .val (.ref b8), .val (.ref b27), .val (.int (3 : Int32)), .val (.int q_), .val (.int (own_m v1 v2 v3 e0)), .val (.int (own_m v1 v2 v3 e1)), .val (.int (own_m v1 v2 v3 e2)), .unset, .unset, .unset, .unset, .unset, .unset] [(.int (2 : Int32)), (.int (3 : Int32))]))
      refine own_via (fun _ k => XS.icmpYes X48.here hx rfl (pc0 := 318) (pc' := 339) rfl (hb hby at_318) rfl (Jvm.Free.XT.ii_ne_t (by decide)) (by decide) (by decide) k) ?_
      show own_Go p e below s _ _ _ (T48.setTop (mkF m 339 #[.val (.int p0), .val (.int p1), .val (.int p2), .val (.int p3), .val (.int p4), .val (.int p5), .val (.int v1), .val (.int v2), .val (.int v3), .val (.ref b4), .val (.ref b8), .val (.ref b27), .val (.int (3 : Int32)), .val (.int q_), .val (.int (own_m v1 v2 v3 e0)), .val (.int (own_m v1 v2 v3 e1)), .val (.int (own_m v1 v2 v3 e2)), .unset, .unset, .unset, .unset, .unset, .unset] []))
      refine own_via (fun _ k => XS.iconst X48.here hx rfl (hb hby at_339) k) ?_
      show own_Go p e below s _ _ _ (T48.setTop (mkF m 340 #[.val (.int p0), .val (.int p1), .val (.int p2), .val (.int p3), .val (.int p4), .val (.int p5), .val (.int v1), .val (.int v2), .val (.int v3), .val (.ref b4), .val (.ref b8), .val (.ref b27), .val (.int (3 : Int32)), .val (.int q_), .val (.int (own_m v1 v2 v3 e0)), .val (.int (own_m v1 v2 v3 e1)), .val (.int (own_m v1 v2 v3 e2)), .unset, .unset, .unset, .unset, .unset, .unset] [(.int (3 : Int32))]))
      obtain ⟨T136, h136, k136, X136, e136, E136, A136, AE136, st136⟩ := newPE X48 hx hZ (hw _ (List.mem_of_getElem? (i := 1) rfl)) e48 (g := (mkF m 340 #[.val (.int p0), .val (.int p1), .val (.int p2), .val (.int p3), .val (.int p4), .val (.int p5), .val (.int v1), .val (.int v2), .val (.int v3), .val (.ref b4), .val (.ref b8), .val (.ref b27), .val (.int (3 : Int32)), .val (.int q_), .val (.int (own_m v1 v2 v3 e0)), .val (.int (own_m v1 v2 v3 e1)), .val (.int (own_m v1 v2 v3 e2)), .unset, .unset, .unset, .unset, .unset, .unset] [(.int (3 : Int32))])) rfl (hb hby at_340) rfl (by decide) (cap := 3) (by decide) (by decide) (by decide) (by decide) (ad := "[I") (by decide)
      obtain ⟨b136, gg136⟩ : ∃ z, z = h48.size := ⟨_, rfl⟩
      rw [← gg136] at A136 AE136 st136
      have ne_b27_b136 : b27 ≠ b136 := Nat.ne_of_lt (Nat.lt_of_lt_of_le F51.lt (Nat.le_of_eq gg136.symm))
      have ne_b4_b136 : b4 ≠ b136 := Nat.ne_of_lt (Nat.lt_of_lt_of_le F50.lt (Nat.le_of_eq gg136.symm))
      have g_b136 : n0 ≤ b136 := Nat.le_trans Z48 (Nat.le_of_eq gg136.symm)
      have Z136 : n0 ≤ h136.size := Nat.le_trans Z48 E136.1
      have V136 : Arv Z h136 b136 k136 .int (3 : Int32) [(.int (0 : Int32)), (.int (0 : Int32)), (.int (0 : Int32))] (.int (0 : Int32)) := (Arv.new A136 (by decide)).pad (pad_rep [] (.int (0 : Int32)) 3)
      refine own_via st136 ?_
      show own_Go p e below s _ _ _ (T136.setTop (mkF m 342 #[.val (.int p0), .val (.int p1), .val (.int p2), .val (.int p3), .val (.int p4), .val (.int p5), .val (.int v1), .val (.int v2), .val (.int v3), .val (.ref b4), .val (.ref b8), .val (.ref b27), .val (.int (3 : Int32)), .val (.int q_), .val (.int (own_m v1 v2 v3 e0)), .val (.int (own_m v1 v2 v3 e1)), .val (.int (own_m v1 v2 v3 e2)), .unset, .unset, .unset, .unset, .unset, .unset] [(.ref b136)]))
      refine own_via (fun _ k => XS.dup X136.here hx rfl (hb hby at_342) rfl rfl k) ?_
      show own_Go p e below s _ _ _ (T136.setTop (mkF m 343 #[.val (.int p0), .val (.int p1), .val (.int p2), .val (.int p3), .val (.int p4), .val (.int p5), .val (.int v1), .val (.int v2), .val (.int v3), .val (.ref b4), .val (.ref b8), .val (.ref b27), .val (.int (3 : Int32)), .val (.int q_), .val (.int (own_m v1 v2 v3 e0)), .val (.int (own_m v1 v2 v3 e1)), .val (.int (own_m v1 v2 v3 e2)), .unset, .unset, .unset, .unset, .unset, .unset] [(.ref b136), (.ref b136)]))
      refine own_via (fun _ k => XS.iconst X136.here hx rfl (hb hby at_343) k) ?_
      show own_Go p e below s _ _ _ (T136.setTop (mkF m 344 #[.val (.int p0), .val (.int p1), .val (.int p2), .val (.int p3), .val (.int p4), .val (.int p5), .val (.int v1), .val (.int v2), .val (.int v3), .val (.ref b4), .val (.ref b8), .val (.ref b27), .val (.int (3 : Int32)), .val (.int q_), .val (.int (own_m v1 v2 v3 e0)), .val (.int (own_m v1 v2 v3 e1)), .val (.int (own_m v1 v2 v3 e2)), .unset, .unset, .unset, .unset, .unset, .unset] [(.int (0 : Int32)), (.ref b136), (.ref b136)]))
      refine own_via (fun _ k => XS.iload X136.here hx rfl (hb hby at_344) rfl k) ?_
      show own_Go p e below s _ _ _ (T136.setTop (mkF m 346 #[.val (.int p0), .val (.int p1), .val (.int p2), .val (.int p3), .val (.int p4), .val (.int p5), .val (.int v1), .val (.int v2), .val (.int v3), .val (.ref b4), .val (.ref b8), .val (.ref b27), .val (.int (3 : Int32)), .val (.int q_), .val (.int (own_m v1 v2 v3 e0)), .val (.int (own_m v1 v2 v3 e1)), .val (.int (own_m v1 v2 v3 e2)), .unset, .unset, .unset, .unset, .unset, .unset] [(.int (own_m v1 v2 v3 e0)), (.int (0 : Int32)), (.ref b136), (.ref b136)]))
      obtain ⟨cl137, Ar137, q137, S137, M137, H137, G137⟩ := (id V136)
      have hin137 : ¬ ((0 : Int32) < 0 ∨ cl137.slots.size ≤ ((0 : Int32)).toNatClampNeg) := inb_of S137 ⟨by decide, by decide⟩
      obtain ⟨T137, h137, X137, e137, W137, st137⟩ := stI X136 hx hZ e136 Ar137 (j := (0 : Int32)) hin137 (g := (mkF m 346 #[.val (.int p0), .val (.int p1), .val (.int p2), .val (.int p3), .val (.int p4), .val (.int p5), .val (.int v1), .val (.int v2), .val (.int v3), .val (.ref b4), .val (.ref b8), .val (.ref b27), .val (.int (3 : Int32)), .val (.int q_), .val (.int (own_m v1 v2 v3 e0)), .val (.int (own_m v1 v2 v3 e1)), .val (.int (own_m v1 v2 v3 e2)), .unset, .unset, .unset, .unset, .unset, .unset] [(.int (own_m v1 v2 v3 e0)), (.int (0 : Int32)), (.ref b136), (.ref b136)])) rfl rfl (hb hby at_346)
      have V137 : Arv Z h137 b136 k136 .int (3 : Int32) [(.int (own_m v1 v2 v3 e0)), (.int (0 : Int32)), (.int (0 : Int32))] (.int (0 : Int32)) := Arv.set Ar137 q137 S137 M137 H137 G137 rfl W137 0 rfl (Nat.le_of_ble_eq_true rfl)
      have N137 := Fr.snoc X137 N48 g_b136
      have Z137 : n0 ≤ h137.size := Nat.le_trans Z136 (Keep.of_wr W137).1
      refine own_via st137 ?_
      show own_Go p e below s _ _ _ (T137.setTop (mkF m 347 #[.val (.int p0), .val (.int p1), .val (.int p2), .val (.int p3), .val (.int p4), .val (.int p5), .val (.int v1), .val (.int v2), .val (.int v3), .val (.ref b4), .val (.ref b8), .val (.ref b27), .val (.int (3 : Int32)), .val (.int q_), .val (.int (own_m v1 v2 v3 e0)), .val (.int (own_m v1 v2 v3 e1)), .val (.int (own_m v1 v2 v3 e2)), .unset, .unset, .unset, .unset, .unset, .unset] [(.ref b136)]))
      refine own_via (fun _ k => XS.dup X137.here hx rfl (hb hby at_347) rfl rfl k) ?_
      show own_Go p e below s _ _ _ (T137.setTop (mkF m 348 #[.val (.int p0), .val (.int p1), .val (.int p2), .val (.int p3), .val (.int p4), .val (.int p5), .val (.int v1), .val (.int v2), .val (.int v3), .val (.ref b4), .val (.ref b8), .val (.ref b27), .val (.int (3 : Int32)), .val (.int q_), .val (.int (own_m v1 v2 v3 e0)), .val (.int (own_m v1 v2 v3 e1)), .val (.int (own_m v1 v2 v3 e2)), .unset, .unset, .unset, .unset, .unset, .unset] [(.ref b136), (.ref b136)]))
      refine own_via (fun _ k => XS.iconst X137.here hx rfl (hb hby at_348) k) ?_
      show own_Go p e below s _ _ _ (T137.setTop (mkF m 349 #[.val (.int p0), .val (.int p1), .val (.int p2), .val (.int p3), .val (.int p4), .val (.int p5), .val (.int v1), .val (.int v2), .val (.int v3), .val (.ref b4), .val (.ref b8), .val (.ref b27), .val (.int (3 : Int32)), .val (.int q_), .val (.int (own_m v1 v2 v3 e0)), .val (.int (own_m v1 v2 v3 e1)), .val (.int (own_m v1 v2 v3 e2)), .unset, .unset, .unset, .unset, .unset, .unset] [(.int (1 : Int32)), (.ref b136), (.ref b136)]))
      refine own_via (fun _ k => XS.iload X137.here hx rfl (hb hby at_349) rfl k) ?_
      show own_Go p e below s _ _ _ (T137.setTop (mkF m 351 #[.val (.int p0), .val (.int p1), .val (.int p2), .val (.int p3), .val (.int p4), .val (.int p5), .val (.int v1), .val (.int v2), .val (.int v3), .val (.ref b4), .val (.ref b8), .val (.ref b27), .val (.int (3 : Int32)), .val (.int q_), .val (.int (own_m v1 v2 v3 e0)), .val (.int (own_m v1 v2 v3 e1)), .val (.int (own_m v1 v2 v3 e2)), .unset, .unset, .unset, .unset, .unset, .unset] [(.int (own_m v1 v2 v3 e1)), (.int (1 : Int32)), (.ref b136), (.ref b136)]))
      obtain ⟨cl138, Ar138, q138, S138, M138, H138, G138⟩ := (id V137)
      have hin138 : ¬ ((1 : Int32) < 0 ∨ cl138.slots.size ≤ ((1 : Int32)).toNatClampNeg) := inb_of S138 ⟨by decide, by decide⟩
      obtain ⟨T138, h138, X138, e138, W138, st138⟩ := stI X137 hx hZ e137 Ar138 (j := (1 : Int32)) hin138 (g := (mkF m 351 #[.val (.int p0), .val (.int p1), .val (.int p2), .val (.int p3), .val (.int p4), .val (.int p5), .val (.int v1), .val (.int v2), .val (.int v3), .val (.ref b4), .val (.ref b8), .val (.ref b27), .val (.int (3 : Int32)), .val (.int q_), .val (.int (own_m v1 v2 v3 e0)), .val (.int (own_m v1 v2 v3 e1)), .val (.int (own_m v1 v2 v3 e2)), .unset, .unset, .unset, .unset, .unset, .unset] [(.int (own_m v1 v2 v3 e1)), (.int (1 : Int32)), (.ref b136), (.ref b136)])) rfl rfl (hb hby at_351)
      have V138 : Arv Z h138 b136 k136 .int (3 : Int32) [(.int (own_m v1 v2 v3 e0)), (.int (own_m v1 v2 v3 e1)), (.int (0 : Int32))] (.int (0 : Int32)) := Arv.set Ar138 q138 S138 M138 H138 G138 rfl W138 1 rfl (Nat.le_of_ble_eq_true rfl)
      have N138 := Fr.snoc X138 N137 g_b136
      have Z138 : n0 ≤ h138.size := Nat.le_trans Z137 (Keep.of_wr W138).1
      refine own_via st138 ?_
      show own_Go p e below s _ _ _ (T138.setTop (mkF m 352 #[.val (.int p0), .val (.int p1), .val (.int p2), .val (.int p3), .val (.int p4), .val (.int p5), .val (.int v1), .val (.int v2), .val (.int v3), .val (.ref b4), .val (.ref b8), .val (.ref b27), .val (.int (3 : Int32)), .val (.int q_), .val (.int (own_m v1 v2 v3 e0)), .val (.int (own_m v1 v2 v3 e1)), .val (.int (own_m v1 v2 v3 e2)), .unset, .unset, .unset, .unset, .unset, .unset] [(.ref b136)]))
      refine own_via (fun _ k => XS.dup X138.here hx rfl (hb hby at_352) rfl rfl k) ?_
      show own_Go p e below s _ _ _ (T138.setTop (mkF m 353 #[.val (.int p0), .val (.int p1), .val (.int p2), .val (.int p3), .val (.int p4), .val (.int p5), .val (.int v1), .val (.int v2), .val (.int v3), .val (.ref b4), .val (.ref b8), .val (.ref b27), .val (.int (3 : Int32)), .val (.int q_), .val (.int (own_m v1 v2 v3 e0)), .val (.int (own_m v1 v2 v3 e1)), .val (.int (own_m v1 v2 v3 e2)), .unset, .unset, .unset, .unset, .unset, .unset] [(.ref b136), (.ref b136)]))
      refine own_via (fun _ k => XS.iconst X138.here hx rfl (hb hby at_353) k) ?_
      show own_Go p e below s _ _ _ (T138.setTop (mkF m 354 #[.val (.int p0), .val (.int p1), .val (.int p2), .val (.int p3), .val (.int p4), .val (.int p5), .val (.int v1), .val (.int v2), .val (.int v3), .val (.ref b4), .val (.ref b8), .val (.ref b27), .val (.int (3 : Int32)), .val (.int q_), .val (.int (own_m v1 v2 v3 e0)), .val (.int (own_m v1 v2 v3 e1)), .val (.int (own_m v1 v2 v3 e2)), .unset, .unset, .unset, .unset, .unset, .unset] [(.int (2 : Int32)), (.ref b136), (.ref b136)]))
      refine own_via (fun _ k => XS.iload X138.here hx rfl (hb hby at_354) rfl k) ?_
      show own_Go p e below s _ _ _ (T138.setTop (mkF m 356 #[.val (.int p0), .val (.int p1), .val (.int p2), .val (.int p3), .val (.int p4), .val (.int p5), .val (.int v1), .val (.int v2), .val (.int v3), .val (.ref b4), .val (.ref b8), .val (.ref b27), .val (.int (3 : Int32)), .val (.int q_), .val (.int (own_m v1 v2 v3 e0)), .val (.int (own_m v1 v2 v3 e1)), .val (.int (own_m v1 v2 v3 e2)), .unset, .unset, .unset, .unset, .unset, .unset] [(.int (own_m v1 v2 v3 e2)), (.int (2 : Int32)), (.ref b136), (.ref b136)]))
      obtain ⟨cl139, Ar139, q139, S139, M139, H139, G139⟩ := (id V138)
      have hin139 : ¬ ((2 : Int32) < 0 ∨ cl139.slots.size ≤ ((2 : Int32)).toNatClampNeg) := inb_of S139 ⟨by decide, by decide⟩
      obtain ⟨T139, h139, X139, e139, W139, st139⟩ := stI X138 hx hZ e138 Ar139 (j := (2 : Int32)) hin139 (g := (mkF m 356 #[.val (.int p0), .val (.int p1), .val (.int p2), .val (.int p3), .val (.int p4), .val (.int p5), .val (.int v1), .val (.int v2), .val (.int v3), .val (.ref b4), .val (.ref b8), .val (.ref b27), .val (.int (3 : Int32)), .val (.int q_), .val (.int (own_m v1 v2 v3 e0)), .val (.int (own_m v1 v2 v3 e1)), .val (.int (own_m v1 v2 v3 e2)), .unset, .unset, .unset, .unset, .unset, .unset] [(.int (own_m v1 v2 v3 e2)), (.int (2 : Int32)), (.ref b136), (.ref b136)])) rfl rfl (hb hby at_356)
      have V139 : Arv Z h139 b136 k136 .int (3 : Int32) [(.int (own_m v1 v2 v3 e0)), (.int (own_m v1 v2 v3 e1)), (.int (own_m v1 v2 v3 e2))] (.int (0 : Int32)) := Arv.set Ar139 q139 S139 M139 H139 G139 rfl W139 2 rfl (Nat.le_of_ble_eq_true rfl)
      have N139 := Fr.snoc X139 N138 g_b136
      have Z139 : n0 ≤ h139.size := Nat.le_trans Z138 (Keep.of_wr W139).1
      refine own_via st139 ?_
      show own_Go p e below s _ _ _ (T139.setTop (mkF m 357 #[.val (.int p0), .val (.int p1), .val (.int p2), .val (.int p3), .val (.int p4), .val (.int p5), .val (.int v1), .val (.int v2), .val (.int v3), .val (.ref b4), .val (.ref b8), .val (.ref b27), .val (.int (3 : Int32)), .val (.int q_), .val (.int (own_m v1 v2 v3 e0)), .val (.int (own_m v1 v2 v3 e1)), .val (.int (own_m v1 v2 v3 e2)), .unset, .unset, .unset, .unset, .unset, .unset] [(.ref b136)]))
      refine own_via (fun _ k => XS.astore X139.here hx rfl (hb hby at_357) rfl rfl (l' := #[.val (.int p0), .val (.int p1), .val (.int p2), .val (.int p3), .val (.int p4), .val (.int p5), .val (.int v1), .val (.int v2), .val (.int v3), .val (.ref b4), .val (.ref b8), .val (.ref b27), .val (.int (3 : Int32)), .val (.int q_), .val (.int (own_m v1 v2 v3 e0)), .val (.int (own_m v1 v2 v3 e1)), .val (.int (own_m v1 v2 v3 e2)), .val (.ref b136), .unset, .unset, .unset, .unset, .unset]) rfl k) ?_
      show own_Go p e below s _ _ _ (T139.setTop (mkF m 359 #[.val (.int p0), .val (.int p1), .val (.int p2), .val (.int p3), .val (.int p4), .val (.int p5), .val (.int v1), .val (.int v2), .val (.int v3), .val (.ref b4), .val (.ref b8), .val (.ref b27), .val (.int (3 : Int32)), .val (.int q_), .val (.int (own_m v1 v2 v3 e0)), .val (.int (own_m v1 v2 v3 e1)), .val (.int (own_m v1 v2 v3 e2)), .val (.ref b136), .unset, .unset, .unset, .unset, .unset] []))
      have F140 := ((((F49.ext E136).other W137 ne_b4_b136).other W138 ne_b4_b136).other W139 ne_b4_b136)
      have F141 := ((((F50.ext E136).wr W137).wr W138).wr W139)
      have F142 := ((((F51.ext E136).other W137 ne_b27_b136).other W138 ne_b27_b136).other W139 ne_b27_b136)
      have F143 := (((AE136.wr W137).wr W138).wr W139)
      exact jk b136 k136 3 [e0, e1, e2] _ _ _ X139 e139 N139 Z139 F140 F141 F142 V139 F143 (by unfold own_kn; simp)
  show own_Go p e below s _ _ _ (T45.setTop (mkF m 243 #[.val (.int p0), .val (.int p1), .val (.int p2), .val (.int p3), .val (.int p4), .val (.int p5), .val (.int v1), .val (.int v2), .val (.int v3), .val (.ref b4), .val (.ref b8), .val (.ref b27), .val (.int v46), .val (.int v47), .unset, .unset, .unset, .unset, .unset, .unset, .unset, .unset, .unset] []))
  rcases (own_q6 p3 hv47) with rfl | rfl | rfl | rfl | rfl | rfl
  · show own_Go p e below s _ _ _ (T45.setTop (mkF m 243 #[.val (.int p0), .val (.int p1), .val (.int p2), .val (.int p3), .val (.int p4), .val (.int p5), .val (.int v1), .val (.int v2), .val (.int v3), .val (.ref b4), .val (.ref b8), .val (.ref b27), .val (.int v46), .val (.int (0 : Int32)), .unset, .unset, .unset, .unset, .unset, .unset, .unset, .unset, .unset] []))
    refine own_via (fun _ k => XS.aload X45.here hx rfl (hb hby at_243) rfl rfl k) ?_
    show own_Go p e below s _ _ _ (T45.setTop (mkF m 245 #[.val (.int p0), .val (.int p1), .val (.int p2), .val (.int p3), .val (.int p4), .val (.int p5), .val (.int v1), .val (.int v2), .val (.int v3), .val (.ref b4), .val (.ref b8), .val (.ref b27), .val (.int v46), .val (.int (0 : Int32)), .unset, .unset, .unset, .unset, .unset, .unset, .unset, .unset, .unset] [(.ref b4)]))
    refine own_via (fun _ k => XS.aload X45.here hx rfl (hb hby at_245) rfl rfl k) ?_
    show own_Go p e below s _ _ _ (T45.setTop (mkF m 247 #[.val (.int p0), .val (.int p1), .val (.int p2), .val (.int p3), .val (.int p4), .val (.int p5), .val (.int v1), .val (.int v2), .val (.int v3), .val (.ref b4), .val (.ref b8), .val (.ref b27), .val (.int v46), .val (.int (0 : Int32)), .unset, .unset, .unset, .unset, .unset, .unset, .unset, .unset, .unset] [(.ref b8), (.ref b4)]))
    refine own_via (fun _ k => XS.iconst X45.here hx rfl (hb hby at_247) k) ?_
    show own_Go p e below s _ _ _ (T45.setTop (mkF m 248 #[.val (.int p0), .val (.int p1), .val (.int p2), .val (.int p3), .val (.int p4), .val (.int p5), .val (.int v1), .val (.int v2), .val (.int v3), .val (.ref b4), .val (.ref b8), .val (.ref b27), .val (.int v46), .val (.int (0 : Int32)), .unset, .unset, .unset, .unset, .unset, .unset, .unset, .unset, .unset] [(.int (3 : Int32)), (.ref b8), (.ref b4)]))
    refine own_via (fun _ k => XS.iload X45.here hx rfl (hb hby at_248) rfl k) ?_
    show own_Go p e below s _ _ _ (T45.setTop (mkF m 250 #[.val (.int p0), .val (.int p1), .val (.int p2), .val (.int p3), .val (.int p4), .val (.int p5), .val (.int v1), .val (.int v2), .val (.int v3), .val (.ref b4), .val (.ref b8), .val (.ref b27), .val (.int v46), .val (.int (0 : Int32)), .unset, .unset, .unset, .unset, .unset, .unset, .unset, .unset, .unset] [(.int (0 : Int32)), (.int (3 : Int32)), (.ref b8), (.ref b4)]))
    refine own_via (fun _ k => XS.imul X45.here hx rfl (hb hby at_250) rfl k) ?_
    show own_Go p e below s _ _ _ (T45.setTop (mkF m 251 #[.val (.int p0), .val (.int p1), .val (.int p2), .val (.int p3), .val (.int p4), .val (.int p5), .val (.int v1), .val (.int v2), .val (.int v3), .val (.ref b4), .val (.ref b8), .val (.ref b27), .val (.int v46), .val (.int (0 : Int32)), .unset, .unset, .unset, .unset, .unset, .unset, .unset, .unset, .unset] [(.int (0 : Int32)), (.ref b8), (.ref b4)]))
    have F145 := (((((((((((((((((((VLA.ext E27).other W28 ne_b8_b27).other W29 ne_b8_b27).other W30 ne_b8_b27).other W31 ne_b8_b27).other W32 ne_b8_b27).other W33 ne_b8_b27).other W34 ne_b8_b27).other W35 ne_b8_b27).other W36 ne_b8_b27).other W37 ne_b8_b27).other W38 ne_b8_b27).other W39 ne_b8_b27).other W40 ne_b8_b27).other W41 ne_b8_b27).other W42 ne_b8_b27).other W43 ne_b8_b27).other W44 ne_b8_b27).other W45 ne_b8_b27)
    obtain ⟨cl144, Ar144, q144, S144, M144, H144, G144⟩ := (id F145)
    have hin144 : ¬ ((0 : Int32) < 0 ∨ cl144.slots.size ≤ ((0 : Int32)).toNatClampNeg) := inb_of S144 ⟨by decide, by decide⟩
    have hat144 : cl144.slots[((0 : Int32)).toNatClampNeg]? = some (.int (0 : Int32)) := Has.at H144 hin144 rfl
    refine own_via (fun _ k => X45.iaload hx (j := (0 : Int32)) (v := (.int (0 : Int32))) (by rw [e45]; exact Ar144.1) (State.isArrayOf_alike hZ.alike Ar144.2.1) Ar144.2.2 hin144 hat144 (g := (mkF m 251 #[.val (.int p0), .val (.int p1), .val (.int p2), .val (.int p3), .val (.int p4), .val (.int p5), .val (.int v1), .val (.int v2), .val (.int v3), .val (.ref b4), .val (.ref b8), .val (.ref b27), .val (.int v46), .val (.int (0 : Int32)), .unset, .unset, .unset, .unset, .unset, .unset, .unset, .unset, .unset] [(.int (0 : Int32)), (.ref b8), (.ref b4)])) rfl rfl (hb hby at_251) _ k) ?_
    show own_Go p e below s _ _ _ (T45.setTop (mkF m 252 #[.val (.int p0), .val (.int p1), .val (.int p2), .val (.int p3), .val (.int p4), .val (.int p5), .val (.int v1), .val (.int v2), .val (.int v3), .val (.ref b4), .val (.ref b8), .val (.ref b27), .val (.int v46), .val (.int (0 : Int32)), .unset, .unset, .unset, .unset, .unset, .unset, .unset, .unset, .unset] [(.int (0 : Int32)), (.ref b4)]))
    have F147 := ((((((((((((((((((((((((((((((((((((((V7.ext E8).other W9 ne_b4_b8).other W10 ne_b4_b8).other W11 ne_b4_b8).other W12 ne_b4_b8).other W13 ne_b4_b8).other W14 ne_b4_b8).other W15 ne_b4_b8).other W16 ne_b4_b8).other W17 ne_b4_b8).other W18 ne_b4_b8).other W19 ne_b4_b8).other W20 ne_b4_b8).other W21 ne_b4_b8).other W22 ne_b4_b8).other W23 ne_b4_b8).other W24 ne_b4_b8).other W25 ne_b4_b8).other W26 ne_b4_b8).ext E27).other W28 ne_b4_b27).other W29 ne_b4_b27).other W30 ne_b4_b27).other W31 ne_b4_b27).other W32 ne_b4_b27).other W33 ne_b4_b27).other W34 ne_b4_b27).other W35 ne_b4_b27).other W36 ne_b4_b27).other W37 ne_b4_b27).other W38 ne_b4_b27).other W39 ne_b4_b27).other W40 ne_b4_b27).other W41 ne_b4_b27).other W42 ne_b4_b27).other W43 ne_b4_b27).other W44 ne_b4_b27).other W45 ne_b4_b27)
    obtain ⟨cl146, Ar146, q146, S146, M146, H146, G146⟩ := (id F147)
    have hin146 : ¬ ((0 : Int32) < 0 ∨ cl146.slots.size ≤ ((0 : Int32)).toNatClampNeg) := inb_of S146 ⟨by decide, by decide⟩
    have hat146 : cl146.slots[((0 : Int32)).toNatClampNeg]? = some (.int v1) := Has.at H146 hin146 rfl
    refine own_via (fun _ k => X45.iaload hx (j := (0 : Int32)) (v := (.int v1)) (by rw [e45]; exact Ar146.1) (State.isArrayOf_alike hZ.alike Ar146.2.1) Ar146.2.2 hin146 hat146 (g := (mkF m 252 #[.val (.int p0), .val (.int p1), .val (.int p2), .val (.int p3), .val (.int p4), .val (.int p5), .val (.int v1), .val (.int v2), .val (.int v3), .val (.ref b4), .val (.ref b8), .val (.ref b27), .val (.int v46), .val (.int (0 : Int32)), .unset, .unset, .unset, .unset, .unset, .unset, .unset, .unset, .unset] [(.int (0 : Int32)), (.ref b4)])) rfl rfl (hb hby at_252) _ k) ?_
    show own_Go p e below s _ _ _ (T45.setTop (mkF m 253 #[.val (.int p0), .val (.int p1), .val (.int p2), .val (.int p3), .val (.int p4), .val (.int p5), .val (.int v1), .val (.int v2), .val (.int v3), .val (.ref b4), .val (.ref b8), .val (.ref b27), .val (.int v46), .val (.int (0 : Int32)), .unset, .unset, .unset, .unset, .unset, .unset, .unset, .unset, .unset] [(.int v1)]))
    refine own_via (fun _ k => XS.istore X45.here hx rfl (hb hby at_253) rfl (l' := #[.val (.int p0), .val (.int p1), .val (.int p2), .val (.int p3), .val (.int p4), .val (.int p5), .val (.int v1), .val (.int v2), .val (.int v3), .val (.ref b4), .val (.ref b8), .val (.ref b27), .val (.int v46), .val (.int (0 : Int32)), .val (.int v1), .unset, .unset, .unset, .unset, .unset, .unset, .unset, .unset]) rfl k) ?_
    show own_Go p e below s _ _ _ (T45.setTop (mkF m 255 #[.val (.int p0), .val (.int p1), .val (.int p2), .val (.int p3), .val (.int p4), .val (.int p5), .val (.int v1), .val (.int v2), .val (.int v3), .val (.ref b4), .val (.ref b8), .val (.ref b27), .val (.int v46), .val (.int (0 : Int32)), .val (.int v1), .unset, .unset, .unset, .unset, .unset, .unset, .unset, .unset] []))
    refine own_via (fun _ k => XS.aload X45.here hx rfl (hb hby at_255) rfl rfl k) ?_
    show own_Go p e below s _ _ _ (T45.setTop (mkF m 257 #[.val (.int p0), .val (.int p1), .val (.int p2), .val (.int p3), .val (.int p4), .val (.int p5), .val (.int v1), .val (.int v2), .val (.int v3), .val (.ref b4), .val (.ref b8), .val (.ref b27), .val (.int v46), .val (.int (0 : Int32)), .val (.int v1), .unset, .unset, .unset, .unset, .unset, .unset, .unset, .unset] [(.ref b4)]))
    refine own_via (fun _ k => XS.aload X45.here hx rfl (hb hby at_257) rfl rfl k) ?_
    show own_Go p e below s _ _ _ (T45.setTop (mkF m 259 #[.val (.int p0), .val (.int p1), .val (.int p2), .val (.int p3), .val (.int p4), .val (.int p5), .val (.int v1), .val (.int v2), .val (.int v3), .val (.ref b4), .val (.ref b8), .val (.ref b27), .val (.int v46), .val (.int (0 : Int32)), .val (.int v1), .unset, .unset, .unset, .unset, .unset, .unset, .unset, .unset] [(.ref b8), (.ref b4)]))
    refine own_via (fun _ k => XS.iconst X45.here hx rfl (hb hby at_259) k) ?_
    show own_Go p e below s _ _ _ (T45.setTop (mkF m 260 #[.val (.int p0), .val (.int p1), .val (.int p2), .val (.int p3), .val (.int p4), .val (.int p5), .val (.int v1), .val (.int v2), .val (.int v3), .val (.ref b4), .val (.ref b8), .val (.ref b27), .val (.int v46), .val (.int (0 : Int32)), .val (.int v1), .unset, .unset, .unset, .unset, .unset, .unset, .unset, .unset] [(.int (3 : Int32)), (.ref b8), (.ref b4)]))
    refine own_via (fun _ k => XS.iload X45.here hx rfl (hb hby at_260) rfl k) ?_
    show own_Go p e below s _ _ _ (T45.setTop (mkF m 262 #[.val (.int p0), .val (.int p1), .val (.int p2), .val (.int p3), .val (.int p4), .val (.int p5), .val (.int v1), .val (.int v2), .val (.int v3), .val (.ref b4), .val (.ref b8), .val (.ref b27), .val (.int v46), .val (.int (0 : Int32)), .val (.int v1), .unset, .unset, .unset, .unset, .unset, .unset, .unset, .unset] [(.int (0 : Int32)), (.int (3 : Int32)), (.ref b8), (.ref b4)]))
    refine own_via (fun _ k => XS.imul X45.here hx rfl (hb hby at_262) rfl k) ?_
    show own_Go p e below s _ _ _ (T45.setTop (mkF m 263 #[.val (.int p0), .val (.int p1), .val (.int p2), .val (.int p3), .val (.int p4), .val (.int p5), .val (.int v1), .val (.int v2), .val (.int v3), .val (.ref b4), .val (.ref b8), .val (.ref b27), .val (.int v46), .val (.int (0 : Int32)), .val (.int v1), .unset, .unset, .unset, .unset, .unset, .unset, .unset, .unset] [(.int (0 : Int32)), (.ref b8), (.ref b4)]))
    refine own_via (fun _ k => XS.iconst X45.here hx rfl (hb hby at_263) k) ?_
    show own_Go p e below s _ _ _ (T45.setTop (mkF m 264 #[.val (.int p0), .val (.int p1), .val (.int p2), .val (.int p3), .val (.int p4), .val (.int p5), .val (.int v1), .val (.int v2), .val (.int v3), .val (.ref b4), .val (.ref b8), .val (.ref b27), .val (.int v46), .val (.int (0 : Int32)), .val (.int v1), .unset, .unset, .unset, .unset, .unset, .unset, .unset, .unset] [(.int (1 : Int32)), (.int (0 : Int32)), (.ref b8), (.ref b4)]))
    refine own_via (fun _ k => XS.iadd X45.here hx rfl (hb hby at_264) rfl k) ?_
    show own_Go p e below s _ _ _ (T45.setTop (mkF m 265 #[.val (.int p0), .val (.int p1), .val (.int p2), .val (.int p3), .val (.int p4), .val (.int p5), .val (.int v1), .val (.int v2), .val (.int v3), .val (.ref b4), .val (.ref b8), .val (.ref b27), .val (.int v46), .val (.int (0 : Int32)), .val (.int v1), .unset, .unset, .unset, .unset, .unset, .unset, .unset, .unset] [(.int (1 : Int32)), (.ref b8), (.ref b4)]))
    obtain ⟨cl148, Ar148, q148, S148, M148, H148, G148⟩ := (id F145)
    have hin148 : ¬ ((1 : Int32) < 0 ∨ cl148.slots.size ≤ ((1 : Int32)).toNatClampNeg) := inb_of S148 ⟨by decide, by decide⟩
    have hat148 : cl148.slots[((1 : Int32)).toNatClampNeg]? = some (.int (1 : Int32)) := Has.at H148 hin148 rfl
    refine own_via (fun _ k => X45.iaload hx (j := (1 : Int32)) (v := (.int (1 : Int32))) (by rw [e45]; exact Ar148.1) (State.isArrayOf_alike hZ.alike Ar148.2.1) Ar148.2.2 hin148 hat148 (g := (mkF m 265 #[.val (.int p0), .val (.int p1), .val (.int p2), .val (.int p3), .val (.int p4), .val (.int p5), .val (.int v1), .val (.int v2), .val (.int v3), .val (.ref b4), .val (.ref b8), .val (.ref b27), .val (.int v46), .val (.int (0 : Int32)), .val (.int v1), .unset, .unset, .unset, .unset, .unset, .unset, .unset, .unset] [(.int (1 : Int32)), (.ref b8), (.ref b4)])) rfl rfl (hb hby at_265) _ k) ?_
    show own_Go p e below s _ _ _ (T45.setTop (mkF m 266 #[.val (.int p0), .val (.int p1), .val (.int p2), .val (.int p3), .val (.int p4), .val (.int p5), .val (.int v1), .val (.int v2), .val (.int v3), .val (.ref b4), .val (.ref b8), .val (.ref b27), .val (.int v46), .val (.int (0 : Int32)), .val (.int v1), .unset, .unset, .unset, .unset, .unset, .unset, .unset, .unset] [(.int (1 : Int32)), (.ref b4)]))
    obtain ⟨cl149, Ar149, q149, S149, M149, H149, G149⟩ := (id F147)
    have hin149 : ¬ ((1 : Int32) < 0 ∨ cl149.slots.size ≤ ((1 : Int32)).toNatClampNeg) := inb_of S149 ⟨by decide, by decide⟩
    have hat149 : cl149.slots[((1 : Int32)).toNatClampNeg]? = some (.int v2) := Has.at H149 hin149 rfl
    refine own_via (fun _ k => X45.iaload hx (j := (1 : Int32)) (v := (.int v2)) (by rw [e45]; exact Ar149.1) (State.isArrayOf_alike hZ.alike Ar149.2.1) Ar149.2.2 hin149 hat149 (g := (mkF m 266 #[.val (.int p0), .val (.int p1), .val (.int p2), .val (.int p3), .val (.int p4), .val (.int p5), .val (.int v1), .val (.int v2), .val (.int v3), .val (.ref b4), .val (.ref b8), .val (.ref b27), .val (.int v46), .val (.int (0 : Int32)), .val (.int v1), .unset, .unset, .unset, .unset, .unset, .unset, .unset, .unset] [(.int (1 : Int32)), (.ref b4)])) rfl rfl (hb hby at_266) _ k) ?_
    show own_Go p e below s _ _ _ (T45.setTop (mkF m 267 #[.val (.int p0), .val (.int p1), .val (.int p2), .val (.int p3), .val (.int p4), .val (.int p5), .val (.int v1), .val (.int v2), .val (.int v3), .val (.ref b4), .val (.ref b8), .val (.ref b27), .val (.int v46), .val (.int (0 : Int32)), .val (.int v1), .unset, .unset, .unset, .unset, .unset, .unset, .unset, .unset] [(.int v2)]))
    refine own_via (fun _ k => XS.istore X45.here hx rfl (hb hby at_267) rfl (l' := #[.val (.int p0), .val (.int p1), .val (.int p2), .val (.int p3), .val (.int p4), .val (.int p5), .val (.int v1), .val (.int v2), .val (.int v3), .val (.ref b4), .val (.ref b8), .val (.ref b27), .val (.int v46), .val (.int (0 : Int32)), .val (.int v1), .val (.int v2), .unset, .unset, .unset, .unset, .unset, .unset, .unset]) rfl k) ?_
    show own_Go p e below s _ _ _ (T45.setTop (mkF m 269 #[.val (.int p0), .val (.int p1), .val (.int p2), .val (.int p3), .val (.int p4), .val (.int p5), .val (.int v1), .val (.int v2), .val (.int v3), .val (.ref b4), .val (.ref b8), .val (.ref b27), .val (.int v46), .val (.int (0 : Int32)), .val (.int v1), .val (.int v2), .unset, .unset, .unset, .unset, .unset, .unset, .unset] []))
    refine own_via (fun _ k => XS.aload X45.here hx rfl (hb hby at_269) rfl rfl k) ?_
    show own_Go p e below s _ _ _ (T45.setTop (mkF m 271 #[.val (.int p0), .val (.int p1), .val (.int p2), .val (.int p3), .val (.int p4), .val (.int p5), .val (.int v1), .val (.int v2), .val (.int v3), .val (.ref b4), .val (.ref b8), .val (.ref b27), .val (.int v46), .val (.int (0 : Int32)), .val (.int v1), .val (.int v2), .unset, .unset, .unset, .unset, .unset, .unset, .unset] [(.ref b4)]))
    refine own_via (fun _ k => XS.aload X45.here hx rfl (hb hby at_271) rfl rfl k) ?_
    show own_Go p e below s _ _ _ (T45.setTop (mkF m 273 #[.val (.int p0), .val (.int p1), .val (.int p2), .val (.int p3), .val (.int p4), .val (.int p5), .val (.int v1), .val (.int v2), .val (.int v3), .val (.ref b4), .val (.ref b8), .val (.ref b27), .val (.int v46), .val (.int (0 : Int32)), .val (.int v1), .val (.int v2), .unset, .unset, .unset, .unset, .unset, .unset, .unset] [(.ref b8), (.ref b4)]))
    refine own_via (fun _ k => XS.iconst X45.here hx rfl (hb hby at_273) k) ?_
    show own_Go p e below s _ _ _ (T45.setTop (mkF m 274 #[.val (.int p0), .val (.int p1), .val (.int p2), .val (.int p3), .val (.int p4), .val (.int p5), .val (.int v1), .val (.int v2), .val (.int v3), .val (.ref b4), .val (.ref b8), .val (.ref b27), .val (.int v46), .val (.int (0 : Int32)), .val (.int v1), .val (.int v2), .unset, .unset, .unset, .unset, .unset, .unset, .unset] [(.int (3 : Int32)), (.ref b8), (.ref b4)]))
    refine own_via (fun _ k => XS.iload X45.here hx rfl (hb hby at_274) rfl k) ?_
    show own_Go p e below s _ _ _ (T45.setTop (mkF m 276 #[.val (.int p0), .val (.int p1), .val (.int p2), .val (.int p3), .val (.int p4), .val (.int p5), .val (.int v1), .val (.int v2), .val (.int v3), .val (.ref b4), .val (.ref b8), .val (.ref b27), .val (.int v46), .val (.int (0 : Int32)), .val (.int v1), .val (.int v2), .unset, .unset, .unset, .unset, .unset, .unset, .unset] [(.int (0 : Int32)), (.int (3 : Int32)), (.ref b8), (.ref b4)]))
    refine own_via (fun _ k => XS.imul X45.here hx rfl (hb hby at_276) rfl k) ?_
    show own_Go p e below s _ _ _ (T45.setTop (mkF m 277 #[.val (.int p0), .val (.int p1), .val (.int p2), .val (.int p3), .val (.int p4), .val (.int p5), .val (.int v1), .val (.int v2), .val (.int v3), .val (.ref b4), .val (.ref b8), .val (.ref b27), .val (.int v46), .val (.int (0 : Int32)), .val (.int v1), .val (.int v2), .unset, .unset, .unset, .unset, .unset, .unset, .unset] [(.int (0 : Int32)), (.ref b8), (.ref b4)]))
    refine own_via (fun _ k => XS.iconst X45.here hx rfl (hb hby at_277) k) ?_
    show own_Go p e below s _ _ _ (T45.setTop (mkF m 278 #[.val (.int p0), .val (.int p1), .val (.int p2), .val (.int p3), .val (.int p4), .val (.int p5), .val (.int v1), .val (.int v2), .val (.int v3), .val (.ref b4), .val (.ref b8), .val (.ref b27), .val (.int v46), .val (.int (0 : Int32)), .val (.int v1), .val (.int v2), .unset, .unset, .unset, .unset, .unset, .unset, .unset] [(.int (2 : Int32)), (.int (0 : Int32)), (.ref b8), (.ref b4)]))
    refine own_via (fun _ k => XS.iadd X45.here hx rfl (hb hby at_278) rfl k) ?_
    show own_Go p e below s _ _ _ (T45.setTop (mkF m 279 #[.val (.int p0), .val (.int p1), .val (.int p2), .val (.int p3), .val (.int p4), .val (.int p5), .val (.int v1), .val (.int v2), .val (.int v3), .val (.ref b4), .val (.ref b8), .val (.ref b27), .val (.int v46), .val (.int (0 : Int32)), .val (.int v1), .val (.int v2), .unset, .unset, .unset, .unset, .unset, .unset, .unset] [(.int (2 : Int32)), (.ref b8), (.ref b4)]))
    obtain ⟨cl150, Ar150, q150, S150, M150, H150, G150⟩ := (id F145)
    have hin150 : ¬ ((2 : Int32) < 0 ∨ cl150.slots.size ≤ ((2 : Int32)).toNatClampNeg) := inb_of S150 ⟨by decide, by decide⟩
    have hat150 : cl150.slots[((2 : Int32)).toNatClampNeg]? = some (.int (2 : Int32)) := Has.at H150 hin150 rfl
    refine own_via (fun _ k => X45.iaload hx (j := (2 : Int32)) (v := (.int (2 : Int32))) (by rw [e45]; exact Ar150.1) (State.isArrayOf_alike hZ.alike Ar150.2.1) Ar150.2.2 hin150 hat150 (g := (mkF m 279 #[.val (.int p0), .val (.int p1), .val (.int p2), .val (.int p3), .val (.int p4), .val (.int p5), .val (.int v1), .val (.int v2), .val (.int v3), .val (.ref b4), .val (.ref b8), .val (.ref b27), .val (.int v46), .val (.int (0 : Int32)), .val (.int v1), .val (.int v2), .unset, .unset, .unset, .unset, .unset, .unset, .unset] [(.int (2 : Int32)), (.ref b8), (.ref b4)])) rfl rfl (hb hby at_279) _ k) ?_
    show own_Go p e below s _ _ _ (T45.setTop (mkF m 280 #[.val (.int p0), .val (.int p1), .val (.int p2), .val (.int p3), .val (.int p4), .val (.int p5), .val (.int v1), .val (.int v2), .val (.int v3), .val (.ref b4), .val (.ref b8), .val (.ref b27), .val (.int v46), .val (.int (0 : Int32)), .val (.int v1), .val (.int v2), .unset, .unset, .unset, .unset, .unset, .unset, .unset] [(.int (2 : Int32)), (.ref b4)]))
    obtain ⟨cl151, Ar151, q151, S151, M151, H151, G151⟩ := (id F147)
    have hin151 : ¬ ((2 : Int32) < 0 ∨ cl151.slots.size ≤ ((2 : Int32)).toNatClampNeg) := inb_of S151 ⟨by decide, by decide⟩
    have hat151 : cl151.slots[((2 : Int32)).toNatClampNeg]? = some (.int v3) := Has.at H151 hin151 rfl
    refine own_via (fun _ k => X45.iaload hx (j := (2 : Int32)) (v := (.int v3)) (by rw [e45]; exact Ar151.1) (State.isArrayOf_alike hZ.alike Ar151.2.1) Ar151.2.2 hin151 hat151 (g := (mkF m 280 #[.val (.int p0), .val (.int p1), .val (.int p2), .val (.int p3), .val (.int p4), .val (.int p5), .val (.int v1), .val (.int v2), .val (.int v3), .val (.ref b4), .val (.ref b8), .val (.ref b27), .val (.int v46), .val (.int (0 : Int32)), .val (.int v1), .val (.int v2), .unset, .unset, .unset, .unset, .unset, .unset, .unset] [(.int (2 : Int32)), (.ref b4)])) rfl rfl (hb hby at_280) _ k) ?_
    show own_Go p e below s _ _ _ (T45.setTop (mkF m 281 #[.val (.int p0), .val (.int p1), .val (.int p2), .val (.int p3), .val (.int p4), .val (.int p5), .val (.int v1), .val (.int v2), .val (.int v3), .val (.ref b4), .val (.ref b8), .val (.ref b27), .val (.int v46), .val (.int (0 : Int32)), .val (.int v1), .val (.int v2), .unset, .unset, .unset, .unset, .unset, .unset, .unset] [(.int v3)]))
    refine own_via (fun _ k => XS.istore X45.here hx rfl (hb hby at_281) rfl (l' := #[.val (.int p0), .val (.int p1), .val (.int p2), .val (.int p3), .val (.int p4), .val (.int p5), .val (.int v1), .val (.int v2), .val (.int v3), .val (.ref b4), .val (.ref b8), .val (.ref b27), .val (.int v46), .val (.int (0 : Int32)), .val (.int v1), .val (.int v2), .val (.int v3), .unset, .unset, .unset, .unset, .unset, .unset]) rfl k) ?_
    show own_Go p e below s _ _ _ (T45.setTop (mkF m 283 #[.val (.int p0), .val (.int p1), .val (.int p2), .val (.int p3), .val (.int p4), .val (.int p5), .val (.int v1), .val (.int v2), .val (.int v3), .val (.ref b4), .val (.ref b8), .val (.ref b27), .val (.int v46), .val (.int (0 : Int32)), .val (.int v1), .val (.int v2), .val (.int v3), .unset, .unset, .unset, .unset, .unset, .unset] []))
    have F152 := (((((((((((((((((((((((((((((((((((((((((AE4.wr W5).wr W6).wr W7).ext E8).wr W9).wr W10).wr W11).wr W12).wr W13).wr W14).wr W15).wr W16).wr W17).wr W18).wr W19).wr W20).wr W21).wr W22).wr W23).wr W24).wr W25).wr W26).ext E27).wr W28).wr W29).wr W30).wr W31).wr W32).wr W33).wr W34).wr W35).wr W36).wr W37).wr W38).wr W39).wr W40).wr W41).wr W42).wr W43).wr W44).wr W45)
    exact jq (0 : Int32) 0 1 2 (0 : Int32) (1 : Int32) (2 : Int32) _ _ _ X45 e45 N45 Z45 F147 F152 VLB ((by unfold own_perm; simp)) (⟨by decide, by decide⟩) (⟨by decide, by decide⟩) (⟨by decide, by decide⟩) (rfl) (rfl) (rfl)
  · show own_Go p e below s _ _ _ (T45.setTop (mkF m 243 #[.val (.int p0), .val (.int p1), .val (.int p2), .val (.int p3), .val (.int p4), .val (.int p5), .val (.int v1), .val (.int v2), .val (.int v3), .val (.ref b4), .val (.ref b8), .val (.ref b27), .val (.int v46), .val (.int (1 : Int32)), .unset, .unset, .unset, .unset, .unset, .unset, .unset, .unset, .unset] []))
    refine own_via (fun _ k => XS.aload X45.here hx rfl (hb hby at_243) rfl rfl k) ?_
    show own_Go p e below s _ _ _ (T45.setTop (mkF m 245 #[.val (.int p0), .val (.int p1), .val (.int p2), .val (.int p3), .val (.int p4), .val (.int p5), .val (.int v1), .val (.int v2), .val (.int v3), .val (.ref b4), .val (.ref b8), .val (.ref b27), .val (.int v46), .val (.int (1 : Int32)), .unset, .unset, .unset, .unset, .unset, .unset, .unset, .unset, .unset] [(.ref b4)]))
    refine own_via (fun _ k => XS.aload X45.here hx rfl (hb hby at_245) rfl rfl k) ?_
    show own_Go p e below s _ _ _ (T45.setTop (mkF m 247 #[.val (.int p0), .val (.int p1), .val (.int p2), .val (.int p3), .val (.int p4), .val (.int p5), .val (.int v1), .val (.int v2), .val (.int v3), .val (.ref b4), .val (.ref b8), .val (.ref b27), .val (.int v46), .val (.int (1 : Int32)), .unset, .unset, .unset, .unset, .unset, .unset, .unset, .unset, .unset] [(.ref b8), (.ref b4)]))
    refine own_via (fun _ k => XS.iconst X45.here hx rfl (hb hby at_247) k) ?_
    show own_Go p e below s _ _ _ (T45.setTop (mkF m 248 #[.val (.int p0), .val (.int p1), .val (.int p2), .val (.int p3), .val (.int p4), .val (.int p5), .val (.int v1), .val (.int v2), .val (.int v3), .val (.ref b4), .val (.ref b8), .val (.ref b27), .val (.int v46), .val (.int (1 : Int32)), .unset, .unset, .unset, .unset, .unset, .unset, .unset, .unset, .unset] [(.int (3 : Int32)), (.ref b8), (.ref b4)]))
    refine own_via (fun _ k => XS.iload X45.here hx rfl (hb hby at_248) rfl k) ?_
    show own_Go p e below s _ _ _ (T45.setTop (mkF m 250 #[.val (.int p0), .val (.int p1), .val (.int p2), .val (.int p3), .val (.int p4), .val (.int p5), .val (.int v1), .val (.int v2), .val (.int v3), .val (.ref b4), .val (.ref b8), .val (.ref b27), .val (.int v46), .val (.int (1 : Int32)), .unset, .unset, .unset, .unset, .unset, .unset, .unset, .unset, .unset] [(.int (1 : Int32)), (.int (3 : Int32)), (.ref b8), (.ref b4)]))
    refine own_via (fun _ k => XS.imul X45.here hx rfl (hb hby at_250) rfl k) ?_
    show own_Go p e below s _ _ _ (T45.setTop (mkF m 251 #[.val (.int p0), .val (.int p1), .val (.int p2), .val (.int p3), .val (.int p4), .val (.int p5), .val (.int v1), .val (.int v2), .val (.int v3), .val (.ref b4), .val (.ref b8), .val (.ref b27), .val (.int v46), .val (.int (1 : Int32)), .unset, .unset, .unset, .unset, .unset, .unset, .unset, .unset, .unset] [(.int (3 : Int32)), (.ref b8), (.ref b4)]))
    have F154 := (((((((((((((((((((VLA.ext E27).other W28 ne_b8_b27).other W29 ne_b8_b27).other W30 ne_b8_b27).other W31 ne_b8_b27).other W32 ne_b8_b27).other W33 ne_b8_b27).other W34 ne_b8_b27).other W35 ne_b8_b27).other W36 ne_b8_b27).other W37 ne_b8_b27).other W38 ne_b8_b27).other W39 ne_b8_b27).other W40 ne_b8_b27).other W41 ne_b8_b27).other W42 ne_b8_b27).other W43 ne_b8_b27).other W44 ne_b8_b27).other W45 ne_b8_b27)
    obtain ⟨cl153, Ar153, q153, S153, M153, H153, G153⟩ := (id F154)
    have hin153 : ¬ ((3 : Int32) < 0 ∨ cl153.slots.size ≤ ((3 : Int32)).toNatClampNeg) := inb_of S153 ⟨by decide, by decide⟩
    have hat153 : cl153.slots[((3 : Int32)).toNatClampNeg]? = some (.int (0 : Int32)) := Has.at H153 hin153 rfl
    refine own_via (fun _ k => X45.iaload hx (j := (3 : Int32)) (v := (.int (0 : Int32))) (by rw [e45]; exact Ar153.1) (State.isArrayOf_alike hZ.alike Ar153.2.1) Ar153.2.2 hin153 hat153 (g := (mkF m 251 #[.val (.int p0), .val (.int p1), .val (.int p2), .val (.int p3), .val (.int p4), .val (.int p5), .val (.int v1), .val (.int v2), .val (.int v3), .val (.ref b4), .val (.ref b8), .val (.ref b27), .val (.int v46), .val (.int (1 : Int32)), .unset, .unset, .unset, .unset, .unset, .unset, .unset, .unset, .unset] [(.int (3 : Int32)), (.ref b8), (.ref b4)])) rfl rfl (hb hby at_251) _ k) ?_
    show own_Go p e below s _ _ _ (T45.setTop (mkF m 252 #[.val (.int p0), .val (.int p1), .val (.int p2), .val (.int p3), .val (.int p4), .val (.int p5), .val (.int v1), .val (.int v2), .val (.int v3), .val (.ref b4), .val (.ref b8), .val (.ref b27), .val (.int v46), .val (.int (1 : Int32)), .unset, .unset, .unset, .unset, .unset, .unset, .unset, .unset, .unset] [(.int (0 : Int32)), (.ref b4)]))
    have F156 := ((((((((((((((((((((((((((((((((((((((V7.ext E8).other W9 ne_b4_b8).other W10 ne_b4_b8).other W11 ne_b4_b8).other W12 ne_b4_b8).other W13 ne_b4_b8).other W14 ne_b4_b8).other W15 ne_b4_b8).other W16 ne_b4_b8).other W17 ne_b4_b8).other W18 ne_b4_b8).other W19 ne_b4_b8).other W20 ne_b4_b8).other W21 ne_b4_b8).other W22 ne_b4_b8).other W23 ne_b4_b8).other W24 ne_b4_b8).other W25 ne_b4_b8).other W26 ne_b4_b8).ext E27).other W28 ne_b4_b27).other W29 ne_b4_b27).other W30 ne_b4_b27).other W31 ne_b4_b27).other W32 ne_b4_b27).other W33 ne_b4_b27).other W34 ne_b4_b27).other W35 ne_b4_b27).other W36 ne_b4_b27).other W37 ne_b4_b27).other W38 ne_b4_b27).other W39 ne_b4_b27).other W40 ne_b4_b27).other W41 ne_b4_b27).other W42 ne_b4_b27).other W43 ne_b4_b27).other W44 ne_b4_b27).other W45 ne_b4_b27)
    obtain ⟨cl155, Ar155, q155, S155, M155, H155, G155⟩ := (id F156)
    have hin155 : ¬ ((0 : Int32) < 0 ∨ cl155.slots.size ≤ ((0 : Int32)).toNatClampNeg) := inb_of S155 ⟨by decide, by decide⟩
    have hat155 : cl155.slots[((0 : Int32)).toNatClampNeg]? = some (.int v1) := Has.at H155 hin155 rfl
    refine own_via (fun _ k => X45.iaload hx (j := (0 : Int32)) (v := (.int v1)) (by rw [e45]; exact Ar155.1) (State.isArrayOf_alike hZ.alike Ar155.2.1) Ar155.2.2 hin155 hat155 (g := (mkF m 252 #[.val (.int p0), .val (.int p1), .val (.int p2), .val (.int p3), .val (.int p4), .val (.int p5), .val (.int v1), .val (.int v2), .val (.int v3), .val (.ref b4), .val (.ref b8), .val (.ref b27), .val (.int v46), .val (.int (1 : Int32)), .unset, .unset, .unset, .unset, .unset, .unset, .unset, .unset, .unset] [(.int (0 : Int32)), (.ref b4)])) rfl rfl (hb hby at_252) _ k) ?_
    show own_Go p e below s _ _ _ (T45.setTop (mkF m 253 #[.val (.int p0), .val (.int p1), .val (.int p2), .val (.int p3), .val (.int p4), .val (.int p5), .val (.int v1), .val (.int v2), .val (.int v3), .val (.ref b4), .val (.ref b8), .val (.ref b27), .val (.int v46), .val (.int (1 : Int32)), .unset, .unset, .unset, .unset, .unset, .unset, .unset, .unset, .unset] [(.int v1)]))
    refine own_via (fun _ k => XS.istore X45.here hx rfl (hb hby at_253) rfl (l' := #[.val (.int p0), .val (.int p1), .val (.int p2), .val (.int p3), .val (.int p4), .val (.int p5), .val (.int v1), .val (.int v2), .val (.int v3), .val (.ref b4), .val (.ref b8), .val (.ref b27), .val (.int v46), .val (.int (1 : Int32)), .val (.int v1), .unset, .unset, .unset, .unset, .unset, .unset, .unset, .unset]) rfl k) ?_
    show own_Go p e below s _ _ _ (T45.setTop (mkF m 255 #[.val (.int p0), .val (.int p1), .val (.int p2), .val (.int p3), .val (.int p4), .val (.int p5), .val (.int v1), .val (.int v2), .val (.int v3), .val (.ref b4), .val (.ref b8), .val (.ref b27), .val (.int v46), .val (.int (1 : Int32)), .val (.int v1), .unset, .unset, .unset, .unset, .unset, .unset, .unset, .unset] []))
    refine own_via (fun _ k => XS.aload X45.here hx rfl (hb hby at_255) rfl rfl k) ?_
    show own_Go p e below s _ _ _ (T45.setTop (mkF m 257 #[.val (.int p0), .val (.int p1), .val (.int p2), .val (.int p3), .val (.int p4), .val (.int p5), .val (.int v1), .val (.int v2), .val (.int v3), .val (.ref b4), .val (.ref b8), .val (.ref b27), .val (.int v46), .val (.int (1 : Int32)), .val (.int v1), .unset, .unset, .unset, .unset, .unset, .unset, .unset, .unset] [(.ref b4)]))
    refine own_via (fun _ k => XS.aload X45.here hx rfl (hb hby at_257) rfl rfl k) ?_
    show own_Go p e below s _ _ _ (T45.setTop (mkF m 259 #[.val (.int p0), .val (.int p1), .val (.int p2), .val (.int p3), .val (.int p4), .val (.int p5), .val (.int v1), .val (.int v2), .val (.int v3), .val (.ref b4), .val (.ref b8), .val (.ref b27), .val (.int v46), .val (.int (1 : Int32)), .val (.int v1), .unset, .unset, .unset, .unset, .unset, .unset, .unset, .unset] [(.ref b8), (.ref b4)]))
    refine own_via (fun _ k => XS.iconst X45.here hx rfl (hb hby at_259) k) ?_
    show own_Go p e below s _ _ _ (T45.setTop (mkF m 260 #[.val (.int p0), .val (.int p1), .val (.int p2), .val (.int p3), .val (.int p4), .val (.int p5), .val (.int v1), .val (.int v2), .val (.int v3), .val (.ref b4), .val (.ref b8), .val (.ref b27), .val (.int v46), .val (.int (1 : Int32)), .val (.int v1), .unset, .unset, .unset, .unset, .unset, .unset, .unset, .unset] [(.int (3 : Int32)), (.ref b8), (.ref b4)]))
    refine own_via (fun _ k => XS.iload X45.here hx rfl (hb hby at_260) rfl k) ?_
    show own_Go p e below s _ _ _ (T45.setTop (mkF m 262 #[.val (.int p0), .val (.int p1), .val (.int p2), .val (.int p3), .val (.int p4), .val (.int p5), .val (.int v1), .val (.int v2), .val (.int v3), .val (.ref b4), .val (.ref b8), .val (.ref b27), .val (.int v46), .val (.int (1 : Int32)), .val (.int v1), .unset, .unset, .unset, .unset, .unset, .unset, .unset, .unset] [(.int (1 : Int32)), (.int (3 : Int32)), (.ref b8), (.ref b4)]))
    refine own_via (fun _ k => XS.imul X45.here hx rfl (hb hby at_262) rfl k) ?_
    show own_Go p e below s _ _ _ (T45.setTop (mkF m 263 #[.val (.int p0), .val (.int p1), .val (.int p2), .val (.int p3), .val (.int p4), .val (.int p5), .val (.int v1), .val (.int v2), .val (.int v3), .val (.ref b4), .val (.ref b8), .val (.ref b27), .val (.int v46), .val (.int (1 : Int32)), .val (.int v1), .unset, .unset, .unset, .unset, .unset, .unset, .unset, .unset] [(.int (3 : Int32)), (.ref b8), (.ref b4)]))
    refine own_via (fun _ k => XS.iconst X45.here hx rfl (hb hby at_263) k) ?_
    show own_Go p e below s _ _ _ (T45.setTop (mkF m 264 #[.val (.int p0), .val (.int p1), .val (.int p2), .val (.int p3), .val (.int p4), .val (.int p5), .val (.int v1), .val (.int v2), .val (.int v3), .val (.ref b4), .val (.ref b8), .val (.ref b27), .val (.int v46), .val (.int (1 : Int32)), .val (.int v1), .unset, .unset, .unset, .unset, .unset, .unset, .unset, .unset] [(.int (1 : Int32)), (.int (3 : Int32)), (.ref b8), (.ref b4)]))
    refine own_via (fun _ k => XS.iadd X45.here hx rfl (hb hby at_264) rfl k) ?_
    show own_Go p e below s _ _ _ (T45.setTop (mkF m 265 #[.val (.int p0), .val (.int p1), .val (.int p2), .val (.int p3), .val (.int p4), .val (.int p5), .val (.int v1), .val (.int v2), .val (.int v3), .val (.ref b4), .val (.ref b8), .val (.ref b27), .val (.int v46), .val (.int (1 : Int32)), .val (.int v1), .unset, .unset, .unset, .unset, .unset, .unset, .unset, .unset] [(.int (4 : Int32)), (.ref b8), (.ref b4)]))
    obtain ⟨cl157, Ar157, q157, S157, M157, H157, G157⟩ := (id F154)
    have hin157 : ¬ ((4 : Int32) < 0 ∨ cl157.slots.size ≤ ((4 : Int32)).toNatClampNeg) := inb_of S157 ⟨by decide, by decide⟩
    have hat157 : cl157.slots[((4 : Int32)).toNatClampNeg]? = some (.int (2 : Int32)) := Has.at H157 hin157 rfl
    refine own_via (fun _ k => X45.iaload hx (j := (4 : Int32)) (v := (.int (2 : Int32))) (by rw [e45]; exact Ar157.1) (State.isArrayOf_alike hZ.alike Ar157.2.1) Ar157.2.2 hin157 hat157 (g := (mkF m 265 #[.val (.int p0), .val (.int p1), .val (.int p2), .val (.int p3), .val (.int p4), .val (.int p5), .val (.int v1), .val (.int v2), .val (.int v3), .val (.ref b4), .val (.ref b8), .val (.ref b27), .val (.int v46), .val (.int (1 : Int32)), .val (.int v1), .unset, .unset, .unset, .unset, .unset, .unset, .unset, .unset] [(.int (4 : Int32)), (.ref b8), (.ref b4)])) rfl rfl (hb hby at_265) _ k) ?_
    show own_Go p e below s _ _ _ (T45.setTop (mkF m 266 #[.val (.int p0), .val (.int p1), .val (.int p2), .val (.int p3), .val (.int p4), .val (.int p5), .val (.int v1), .val (.int v2), .val (.int v3), .val (.ref b4), .val (.ref b8), .val (.ref b27), .val (.int v46), .val (.int (1 : Int32)), .val (.int v1), .unset, .unset, .unset, .unset, .unset, .unset, .unset, .unset] [(.int (2 : Int32)), (.ref b4)]))
    obtain ⟨cl158, Ar158, q158, S158, M158, H158, G158⟩ := (id F156)
    have hin158 : ¬ ((2 : Int32) < 0 ∨ cl158.slots.size ≤ ((2 : Int32)).toNatClampNeg) := inb_of S158 ⟨by decide, by decide⟩
    have hat158 : cl158.slots[((2 : Int32)).toNatClampNeg]? = some (.int v3) := Has.at H158 hin158 rfl
    refine own_via (fun _ k => X45.iaload hx (j := (2 : Int32)) (v := (.int v3)) (by rw [e45]; exact Ar158.1) (State.isArrayOf_alike hZ.alike Ar158.2.1) Ar158.2.2 hin158 hat158 (g := (mkF m 266 #[.val (.int p0), .val (.int p1), .val (.int p2), .val (.int p3), .val (.int p4), .val (.int p5), .val (.int v1), .val (.int v2), .val (.int v3), .val (.ref b4), .val (.ref b8), .val (.ref b27), .val (.int v46), .val (.int (1 : Int32)), .val (.int v1), .unset, .unset, .unset, .unset, .unset, .unset, .unset, .unset] [(.int (2 : Int32)), (.ref b4)])) rfl rfl (hb hby at_266) _ k) ?_
    show own_Go p e below s _ _ _ (T45.setTop (mkF m 267 #[.val (.int p0), .val (.int p1), .val (.int p2), .val (.int p3), .val (.int p4), .val (.int p5), .val (.int v1), .val (.int v2), .val (.int v3), .val (.ref b4), .val (.ref b8), .val (.ref b27), .val (.int v46), .val (.int (1 : Int32)), .val (.int v1), .unset, .unset, .unset, .unset, .unset, .unset, .unset, .unset] [(.int v3)]))
    refine own_via (fun _ k => XS.istore X45.here hx rfl (hb hby at_267) rfl (l' := #[.val (.int p0), .val (.int p1), .val (.int p2), .val (.int p3), .val (.int p4), .val (.int p5), .val (.int v1), .val (.int v2), .val (.int v3), .val (.ref b4), .val (.ref b8), .val (.ref b27), .val (.int v46), .val (.int (1 : Int32)), .val (.int v1), .val (.int v3), .unset, .unset, .unset, .unset, .unset, .unset, .unset]) rfl k) ?_
    show own_Go p e below s _ _ _ (T45.setTop (mkF m 269 #[.val (.int p0), .val (.int p1), .val (.int p2), .val (.int p3), .val (.int p4), .val (.int p5), .val (.int v1), .val (.int v2), .val (.int v3), .val (.ref b4), .val (.ref b8), .val (.ref b27), .val (.int v46), .val (.int (1 : Int32)), .val (.int v1), .val (.int v3), .unset, .unset, .unset, .unset, .unset, .unset, .unset] []))
    refine own_via (fun _ k => XS.aload X45.here hx rfl (hb hby at_269) rfl rfl k) ?_
    show own_Go p e below s _ _ _ (T45.setTop (mkF m 271 #[.val (.int p0), .val (.int p1), .val (.int p2), .val (.int p3), .val (.int p4), .val (.int p5), .val (.int v1), .val (.int v2), .val (.int v3), .val (.ref b4), .val (.ref b8), .val (.ref b27), .val (.int v46), .val (.int (1 : Int32)), .val (.int v1), .val (.int v3), .unset, .unset, .unset, .unset, .unset, .unset, .unset] [(.ref b4)]))
    refine own_via (fun _ k => XS.aload X45.here hx rfl (hb hby at_271) rfl rfl k) ?_
    show own_Go p e below s _ _ _ (T45.setTop (mkF m 273 #[.val (.int p0), .val (.int p1), .val (.int p2), .val (.int p3), .val (.int p4), .val (.int p5), .val (.int v1), .val (.int v2), .val (.int v3), .val (.ref b4), .val (.ref b8), .val (.ref b27), .val (.int v46), .val (.int (1 : Int32)), .val (.int v1), .val (.int v3), .unset, .unset, .unset, .unset, .unset, .unset, .unset] [(.ref b8), (.ref b4)]))
    refine own_via (fun _ k => XS.iconst X45.here hx rfl (hb hby at_273) k) ?_
    show own_Go p e below s _ _ _ (T45.setTop (mkF m 274 #[.val (.int p0), .val (.int p1), .val (.int p2), .val (.int p3), .val (.int p4), .val (.int p5), .val (.int v1), .val (.int v2), .val (.int v3), .val (.ref b4), .val (.ref b8), .val (.ref b27), .val (.int v46), .val (.int (1 : Int32)), .val (.int v1), .val (.int v3), .unset, .unset, .unset, .unset, .unset, .unset, .unset] [(.int (3 : Int32)), (.ref b8), (.ref b4)]))
    refine own_via (fun _ k => XS.iload X45.here hx rfl (hb hby at_274) rfl k) ?_
    show own_Go p e below s _ _ _ (T45.setTop (mkF m 276 #[.val (.int p0), .val (.int p1), .val (.int p2), .val (.int p3), .val (.int p4), .val (.int p5), .val (.int v1), .val (.int v2), .val (.int v3), .val (.ref b4), .val (.ref b8), .val (.ref b27), .val (.int v46), .val (.int (1 : Int32)), .val (.int v1), .val (.int v3), .unset, .unset, .unset, .unset, .unset, .unset, .unset] [(.int (1 : Int32)), (.int (3 : Int32)), (.ref b8), (.ref b4)]))
    refine own_via (fun _ k => XS.imul X45.here hx rfl (hb hby at_276) rfl k) ?_
    show own_Go p e below s _ _ _ (T45.setTop (mkF m 277 #[.val (.int p0), .val (.int p1), .val (.int p2), .val (.int p3), .val (.int p4), .val (.int p5), .val (.int v1), .val (.int v2), .val (.int v3), .val (.ref b4), .val (.ref b8), .val (.ref b27), .val (.int v46), .val (.int (1 : Int32)), .val (.int v1), .val (.int v3), .unset, .unset, .unset, .unset, .unset, .unset, .unset] [(.int (3 : Int32)), (.ref b8), (.ref b4)]))
    refine own_via (fun _ k => XS.iconst X45.here hx rfl (hb hby at_277) k) ?_
    show own_Go p e below s _ _ _ (T45.setTop (mkF m 278 #[.val (.int p0), .val (.int p1), .val (.int p2), .val (.int p3), .val (.int p4), .val (.int p5), .val (.int v1), .val (.int v2), .val (.int v3), .val (.ref b4), .val (.ref b8), .val (.ref b27), .val (.int v46), .val (.int (1 : Int32)), .val (.int v1), .val (.int v3), .unset, .unset, .unset, .unset, .unset, .unset, .unset] [(.int (2 : Int32)), (.int (3 : Int32)), (.ref b8), (.ref b4)]))
    refine own_via (fun _ k => XS.iadd X45.here hx rfl (hb hby at_278) rfl k) ?_
    show own_Go p e below s _ _ _ (T45.setTop (mkF m 279 #[.val (.int p0), .val (.int p1), .val (.int p2), .val (.int p3), .val (.int p4), .val (.int p5), .val (.int v1), .val (.int v2), .val (.int v3), .val (.ref b4), .val (.ref b8), .val (.ref b27), .val (.int v46), .val (.int (1 : Int32)), .val (.int v1), .val (.int v3), .unset, .unset, .unset, .unset, .unset, .unset, .unset] [(.int (5 : Int32)), (.ref b8), (.ref b4)]))
    obtain ⟨cl159, Ar159, q159, S159, M159, H159, G159⟩ := (id F154)
    have hin159 : ¬ ((5 : Int32) < 0 ∨ cl159.slots.size ≤ ((5 : Int32)).toNatClampNeg) := inb_of S159 ⟨by decide, by decide⟩
    have hat159 : cl159.slots[((5 : Int32)).toNatClampNeg]? = some (.int (1 : Int32)) := Has.at H159 hin159 rfl
    refine own_via (fun _ k => X45.iaload hx (j := (5 : Int32)) (v := (.int (1 : Int32))) (by rw [e45]; exact Ar159.1) (State.isArrayOf_alike hZ.alike Ar159.2.1) Ar159.2.2 hin159 hat159 (g := (mkF m 279 #[.val (.int p0), .val (.int p1), .val (.int p2), .val (.int p3), .val (.int p4), .val (.int p5), .val (.int v1), .val (.int v2), .val (.int v3), .val (.ref b4), .val (.ref b8), .val (.ref b27), .val (.int v46), .val (.int (1 : Int32)), .val (.int v1), .val (.int v3), .unset, .unset, .unset, .unset, .unset, .unset, .unset] [(.int (5 : Int32)), (.ref b8), (.ref b4)])) rfl rfl (hb hby at_279) _ k) ?_
    show own_Go p e below s _ _ _ (T45.setTop (mkF m 280 #[.val (.int p0), .val (.int p1), .val (.int p2), .val (.int p3), .val (.int p4), .val (.int p5), .val (.int v1), .val (.int v2), .val (.int v3), .val (.ref b4), .val (.ref b8), .val (.ref b27), .val (.int v46), .val (.int (1 : Int32)), .val (.int v1), .val (.int v3), .unset, .unset, .unset, .unset, .unset, .unset, .unset] [(.int (1 : Int32)), (.ref b4)]))
    obtain ⟨cl160, Ar160, q160, S160, M160, H160, G160⟩ := (id F156)
    have hin160 : ¬ ((1 : Int32) < 0 ∨ cl160.slots.size ≤ ((1 : Int32)).toNatClampNeg) := inb_of S160 ⟨by decide, by decide⟩
    have hat160 : cl160.slots[((1 : Int32)).toNatClampNeg]? = some (.int v2) := Has.at H160 hin160 rfl
    refine own_via (fun _ k => X45.iaload hx (j := (1 : Int32)) (v := (.int v2)) (by rw [e45]; exact Ar160.1) (State.isArrayOf_alike hZ.alike Ar160.2.1) Ar160.2.2 hin160 hat160 (g := (mkF m 280 #[.val (.int p0), .val (.int p1), .val (.int p2), .val (.int p3), .val (.int p4), .val (.int p5), .val (.int v1), .val (.int v2), .val (.int v3), .val (.ref b4), .val (.ref b8), .val (.ref b27), .val (.int v46), .val (.int (1 : Int32)), .val (.int v1), .val (.int v3), .unset, .unset, .unset, .unset, .unset, .unset, .unset] [(.int (1 : Int32)), (.ref b4)])) rfl rfl (hb hby at_280) _ k) ?_
    show own_Go p e below s _ _ _ (T45.setTop (mkF m 281 #[.val (.int p0), .val (.int p1), .val (.int p2), .val (.int p3), .val (.int p4), .val (.int p5), .val (.int v1), .val (.int v2), .val (.int v3), .val (.ref b4), .val (.ref b8), .val (.ref b27), .val (.int v46), .val (.int (1 : Int32)), .val (.int v1), .val (.int v3), .unset, .unset, .unset, .unset, .unset, .unset, .unset] [(.int v2)]))
    refine own_via (fun _ k => XS.istore X45.here hx rfl (hb hby at_281) rfl (l' := #[.val (.int p0), .val (.int p1), .val (.int p2), .val (.int p3), .val (.int p4), .val (.int p5), .val (.int v1), .val (.int v2), .val (.int v3), .val (.ref b4), .val (.ref b8), .val (.ref b27), .val (.int v46), .val (.int (1 : Int32)), .val (.int v1), .val (.int v3), .val (.int v2), .unset, .unset, .unset, .unset, .unset, .unset]) rfl k) ?_
    show own_Go p e below s _ _ _ (T45.setTop (mkF m 283 #[.val (.int p0), .val (.int p1), .val (.int p2), .val (.int p3), .val (.int p4), .val (.int p5), .val (.int v1), .val (.int v2), .val (.int v3), .val (.ref b4), .val (.ref b8), .val (.ref b27), .val (.int v46), .val (.int (1 : Int32)), .val (.int v1), .val (.int v3), .val (.int v2), .unset, .unset, .unset, .unset, .unset, .unset] []))
    have F161 := (((((((((((((((((((((((((((((((((((((((((AE4.wr W5).wr W6).wr W7).ext E8).wr W9).wr W10).wr W11).wr W12).wr W13).wr W14).wr W15).wr W16).wr W17).wr W18).wr W19).wr W20).wr W21).wr W22).wr W23).wr W24).wr W25).wr W26).ext E27).wr W28).wr W29).wr W30).wr W31).wr W32).wr W33).wr W34).wr W35).wr W36).wr W37).wr W38).wr W39).wr W40).wr W41).wr W42).wr W43).wr W44).wr W45)
    exact jq (1 : Int32) 0 2 1 (0 : Int32) (2 : Int32) (1 : Int32) _ _ _ X45 e45 N45 Z45 F156 F161 VLB ((by unfold own_perm; simp)) (⟨by decide, by decide⟩) (⟨by decide, by decide⟩) (⟨by decide, by decide⟩) (rfl) (rfl) (rfl)
  · show own_Go p e below s _ _ _ (T45.setTop (mkF m 243 #[.val (.int p0), .val (.int p1), .val (.int p2), .val (.int p3), .val (.int p4), .val (.int p5), .val (.int v1), .val (.int v2), .val (.int v3), .val (.ref b4), .val (.ref b8), .val (.ref b27), .val (.int v46), .val (.int (2 : Int32)), .unset, .unset, .unset, .unset, .unset, .unset, .unset, .unset, .unset] []))
    refine own_via (fun _ k => XS.aload X45.here hx rfl (hb hby at_243) rfl rfl k) ?_
    show own_Go p e below s _ _ _ (T45.setTop (mkF m 245 #[.val (.int p0), .val (.int p1), .val (.int p2), .val (.int p3), .val (.int p4), .val (.int p5), .val (.int v1), .val (.int v2), .val (.int v3), .val (.ref b4), .val (.ref b8), .val (.ref b27), .val (.int v46), .val (.int (2 : Int32)), .unset, .unset, .unset, .unset, .unset, .unset, .unset, .unset, .unset] [(.ref b4)]))
    refine own_via (fun _ k => XS.aload X45.here hx rfl (hb hby at_245) rfl rfl k) ?_
    show own_Go p e below s _ _ _ (T45.setTop (mkF m 247 #[.val (.int p0), .val (.int p1), .val (.int p2), .val (.int p3), .val (.int p4), .val (.int p5), .val (.int v1), .val (.int v2), .val (.int v3), .val (.ref b4), .val (.ref b8), .val (.ref b27), .val (.int v46), .val (.int (2 : Int32)), .unset, .unset, .unset, .unset, .unset, .unset, .unset, .unset, .unset] [(.ref b8), (.ref b4)]))
    refine own_via (fun _ k => XS.iconst X45.here hx rfl (hb hby at_247) k) ?_
    show own_Go p e below s _ _ _ (T45.setTop (mkF m 248 #[.val (.int p0), .val (.int p1), .val (.int p2), .val (.int p3), .val (.int p4), .val (.int p5), .val (.int v1), .val (.int v2), .val (.int v3), .val (.ref b4), .val (.ref b8), .val (.ref b27), .val (.int v46), .val (.int (2 : Int32)), .unset, .unset, .unset, .unset, .unset, .unset, .unset, .unset, .unset] [(.int (3 : Int32)), (.ref b8), (.ref b4)]))
    refine own_via (fun _ k => XS.iload X45.here hx rfl (hb hby at_248) rfl k) ?_
    show own_Go p e below s _ _ _ (T45.setTop (mkF m 250 #[.val (.int p0), .val (.int p1), .val (.int p2), .val (.int p3), .val (.int p4), .val (.int p5), .val (.int v1), .val (.int v2), .val (.int v3), .val (.ref b4), .val (.ref b8), .val (.ref b27), .val (.int v46), .val (.int (2 : Int32)), .unset, .unset, .unset, .unset, .unset, .unset, .unset, .unset, .unset] [(.int (2 : Int32)), (.int (3 : Int32)), (.ref b8), (.ref b4)]))
    refine own_via (fun _ k => XS.imul X45.here hx rfl (hb hby at_250) rfl k) ?_
    show own_Go p e below s _ _ _ (T45.setTop (mkF m 251 #[.val (.int p0), .val (.int p1), .val (.int p2), .val (.int p3), .val (.int p4), .val (.int p5), .val (.int v1), .val (.int v2), .val (.int v3), .val (.ref b4), .val (.ref b8), .val (.ref b27), .val (.int v46), .val (.int (2 : Int32)), .unset, .unset, .unset, .unset, .unset, .unset, .unset, .unset, .unset] [(.int (6 : Int32)), (.ref b8), (.ref b4)]))
    have F163 := (((((((((((((((((((VLA.ext E27).other W28 ne_b8_b27).other W29 ne_b8_b27).other W30 ne_b8_b27).other W31 ne_b8_b27).other W32 ne_b8_b27).other W33 ne_b8_b27).other W34 ne_b8_b27).other W35 ne_b8_b27).other W36 ne_b8_b27).other W37 ne_b8_b27).other W38 ne_b8_b27).other W39 ne_b8_b27).other W40 ne_b8_b27).other W41 ne_b8_b27).other W42 ne_b8_b27).other W43 ne_b8_b27).other W44 ne_b8_b27).other W45 ne_b8_b27)
    obtain ⟨cl162, Ar162, q162, S162, M162, H162, G162⟩ := (id F163)
    have hin162 : ¬ ((6 : Int32) < 0 ∨ cl162.slots.size ≤ ((6 : Int32)).toNatClampNeg) := inb_of S162 ⟨by decide, by decide⟩
    have hat162 : cl162.slots[((6 : Int32)).toNatClampNeg]? = some (.int (1 : Int32)) := Has.at H162 hin162 rfl
    refine own_via (fun _ k => X45.iaload hx (j := (6 : Int32)) (v := (.int (1 : Int32))) (by rw [e45]; exact Ar162.1) (State.isArrayOf_alike hZ.alike Ar162.2.1) Ar162.2.2 hin162 hat162 (g := (mkF m 251 #[.val (.int p0), .val (.int p1), .val (.int p2), .val (.int p3), .val (.int p4), .val (.int p5), .val (.int v1), .val (.int v2), .val (.int v3), .val (.ref b4), .val (.ref b8), .val (.ref b27), .val (.int v46), .val (.int (2 : Int32)), .unset, .unset, .unset, .unset, .unset, .unset, .unset, .unset, .unset] [(.int (6 : Int32)), (.ref b8), (.ref b4)])) rfl rfl (hb hby at_251) _ k) ?_
    show own_Go p e below s _ _ _ (T45.setTop (mkF m 252 #[.val (.int p0), .val (.int p1), .val (.int p2), .val (.int p3), .val (.int p4), .val (.int p5), .val (.int v1), .val (.int v2), .val (.int v3), .val (.ref b4), .val (.ref b8), .val (.ref b27), .val (.int v46), .val (.int (2 : Int32)), .unset, .unset, .unset, .unset, .unset, .unset, .unset, .unset, .unset] [(.int (1 : Int32)), (.ref b4)]))
    have F165 := ((((((((((((((((((((((((((((((((((((((V7.ext E8).other W9 ne_b4_b8).other W10 ne_b4_b8).other W11 ne_b4_b8).other W12 ne_b4_b8).other W13 ne_b4_b8).other W14 ne_b4_b8).other W15 ne_b4_b8).other W16 ne_b4_b8).other W17 ne_b4_b8).other W18 ne_b4_b8).other W19 ne_b4_b8).other W20 ne_b4_b8).other W21 ne_b4_b8).other W22 ne_b4_b8).other W23 ne_b4_b8).other W24 ne_b4_b8).other W25 ne_b4_b8).other W26 ne_b4_b8).ext E27).other W28 ne_b4_b27).other W29 ne_b4_b27).other W30 ne_b4_b27).other W31 ne_b4_b27).other W32 ne_b4_b27).other W33 ne_b4_b27).other W34 ne_b4_b27).other W35 ne_b4_b27).other W36 ne_b4_b27).other W37 ne_b4_b27).other W38 ne_b4_b27).other W39 ne_b4_b27).other W40 ne_b4_b27).other W41 ne_b4_b27).other W42 ne_b4_b27).other W43 ne_b4_b27).other W44 ne_b4_b27).other W45 ne_b4_b27)
    obtain ⟨cl164, Ar164, q164, S164, M164, H164, G164⟩ := (id F165)
    have hin164 : ¬ ((1 : Int32) < 0 ∨ cl164.slots.size ≤ ((1 : Int32)).toNatClampNeg) := inb_of S164 ⟨by decide, by decide⟩
    have hat164 : cl164.slots[((1 : Int32)).toNatClampNeg]? = some (.int v2) := Has.at H164 hin164 rfl
    refine own_via (fun _ k => X45.iaload hx (j := (1 : Int32)) (v := (.int v2)) (by rw [e45]; exact Ar164.1) (State.isArrayOf_alike hZ.alike Ar164.2.1) Ar164.2.2 hin164 hat164 (g := (mkF m 252 #[.val (.int p0), .val (.int p1), .val (.int p2), .val (.int p3), .val (.int p4), .val (.int p5), .val (.int v1), .val (.int v2), .val (.int v3), .val (.ref b4), .val (.ref b8), .val (.ref b27), .val (.int v46), .val (.int (2 : Int32)), .unset, .unset, .unset, .unset, .unset, .unset, .unset, .unset, .unset] [(.int (1 : Int32)), (.ref b4)])) rfl rfl (hb hby at_252) _ k) ?_
    show own_Go p e below s _ _ _ (T45.setTop (mkF m 253 #[.val (.int p0), .val (.int p1), .val (.int p2), .val (.int p3), .val (.int p4), .val (.int p5), .val (.int v1), .val (.int v2), .val (.int v3), .val (.ref b4), .val (.ref b8), .val (.ref b27), .val (.int v46), .val (.int (2 : Int32)), .unset, .unset, .unset, .unset, .unset, .unset, .unset, .unset, .unset] [(.int v2)]))
    refine own_via (fun _ k => XS.istore X45.here hx rfl (hb hby at_253) rfl (l' := #[.val (.int p0), .val (.int p1), .val (.int p2), .val (.int p3), .val (.int p4), .val (.int p5), .val (.int v1), .val (.int v2), .val (.int v3), .val (.ref b4), .val (.ref b8), .val (.ref b27), .val (.int v46), .val (.int (2 : Int32)), .val (.int v2), .unset, .unset, .unset, .unset, .unset, .unset, .unset, .unset]) rfl k) ?_
    show own_Go p e below s _ _ _ (T45.setTop (mkF m 255 #[.val (.int p0), .val (.int p1), .val (.int p2), .val (.int p3), .val (.int p4), .val (.int p5), .val (.int v1), .val (.int v2), .val (.int v3), .val (.ref b4), .val (.ref b8), .val (.ref b27), .val (.int v46), .val (.int (2 : Int32)), .val (.int v2), .unset, .unset, .unset, .unset, .unset, .unset, .unset, .unset] []))
    refine own_via (fun _ k => XS.aload X45.here hx rfl (hb hby at_255) rfl rfl k) ?_
    show own_Go p e below s _ _ _ (T45.setTop (mkF m 257 #[.val (.int p0), .val (.int p1), .val (.int p2), .val (.int p3), .val (.int p4), .val (.int p5), .val (.int v1), .val (.int v2), .val (.int v3), .val (.ref b4), .val (.ref b8), .val (.ref b27), .val (.int v46), .val (.int (2 : Int32)), .val (.int v2), .unset, .unset, .unset, .unset, .unset, .unset, .unset, .unset] [(.ref b4)]))
    refine own_via (fun _ k => XS.aload X45.here hx rfl (hb hby at_257) rfl rfl k) ?_
    show own_Go p e below s _ _ _ (T45.setTop (mkF m 259 #[.val (.int p0), .val (.int p1), .val (.int p2), .val (.int p3), .val (.int p4), .val (.int p5), .val (.int v1), .val (.int v2), .val (.int v3), .val (.ref b4), .val (.ref b8), .val (.ref b27), .val (.int v46), .val (.int (2 : Int32)), .val (.int v2), .unset, .unset, .unset, .unset, .unset, .unset, .unset, .unset] [(.ref b8), (.ref b4)]))
    refine own_via (fun _ k => XS.iconst X45.here hx rfl (hb hby at_259) k) ?_
    show own_Go p e below s _ _ _ (T45.setTop (mkF m 260 #[.val (.int p0), .val (.int p1), .val (.int p2), .val (.int p3), .val (.int p4), .val (.int p5), .val (.int v1), .val (.int v2), .val (.int v3), .val (.ref b4), .val (.ref b8), .val (.ref b27), .val (.int v46), .val (.int (2 : Int32)), .val (.int v2), .unset, .unset, .unset, .unset, .unset, .unset, .unset, .unset] [(.int (3 : Int32)), (.ref b8), (.ref b4)]))
    refine own_via (fun _ k => XS.iload X45.here hx rfl (hb hby at_260) rfl k) ?_
    show own_Go p e below s _ _ _ (T45.setTop (mkF m 262 #[.val (.int p0), .val (.int p1), .val (.int p2), .val (.int p3), .val (.int p4), .val (.int p5), .val (.int v1), .val (.int v2), .val (.int v3), .val (.ref b4), .val (.ref b8), .val (.ref b27), .val (.int v46), .val (.int (2 : Int32)), .val (.int v2), .unset, .unset, .unset, .unset, .unset, .unset, .unset, .unset] [(.int (2 : Int32)), (.int (3 : Int32)), (.ref b8), (.ref b4)]))
    refine own_via (fun _ k => XS.imul X45.here hx rfl (hb hby at_262) rfl k) ?_
    show own_Go p e below s _ _ _ (T45.setTop (mkF m 263 #[.val (.int p0), .val (.int p1), .val (.int p2), .val (.int p3), .val (.int p4), .val (.int p5), .val (.int v1), .val (.int v2), .val (.int v3), .val (.ref b4), .val (.ref b8), .val (.ref b27), .val (.int v46), .val (.int (2 : Int32)), .val (.int v2), .unset, .unset, .unset, .unset, .unset, .unset, .unset, .unset] [(.int (6 : Int32)), (.ref b8), (.ref b4)]))
    refine own_via (fun _ k => XS.iconst X45.here hx rfl (hb hby at_263) k) ?_
    show own_Go p e below s _ _ _ (T45.setTop (mkF m 264 #[.val (.int p0), .val (.int p1), .val (.int p2), .val (.int p3), .val (.int p4), .val (.int p5), .val (.int v1), .val (.int v2), .val (.int v3), .val (.ref b4), .val (.ref b8), .val (.ref b27), .val (.int v46), .val (.int (2 : Int32)), .val (.int v2), .unset, .unset, .unset, .unset, .unset, .unset, .unset, .unset] [(.int (1 : Int32)), (.int (6 : Int32)), (.ref b8), (.ref b4)]))
    refine own_via (fun _ k => XS.iadd X45.here hx rfl (hb hby at_264) rfl k) ?_
    show own_Go p e below s _ _ _ (T45.setTop (mkF m 265 #[.val (.int p0), .val (.int p1), .val (.int p2), .val (.int p3), .val (.int p4), .val (.int p5), .val (.int v1), .val (.int v2), .val (.int v3), .val (.ref b4), .val (.ref b8), .val (.ref b27), .val (.int v46), .val (.int (2 : Int32)), .val (.int v2), .unset, .unset, .unset, .unset, .unset, .unset, .unset, .unset] [(.int (7 : Int32)), (.ref b8), (.ref b4)]))
    obtain ⟨cl166, Ar166, q166, S166, M166, H166, G166⟩ := (id F163)
    have hin166 : ¬ ((7 : Int32) < 0 ∨ cl166.slots.size ≤ ((7 : Int32)).toNatClampNeg) := inb_of S166 ⟨by decide, by decide⟩
    have hat166 : cl166.slots[((7 : Int32)).toNatClampNeg]? = some (.int (0 : Int32)) := Has.at H166 hin166 rfl
    refine own_via (fun _ k => X45.iaload hx (j := (7 : Int32)) (v := (.int (0 : Int32))) (by rw [e45]; exact Ar166.1) (State.isArrayOf_alike hZ.alike Ar166.2.1) Ar166.2.2 hin166 hat166 (g := (mkF m 265 #[.val (.int p0), .val (.int p1), .val (.int p2), .val (.int p3), .val (.int p4), .val (.int p5), .val (.int v1), .val (.int v2), .val (.int v3), .val (.ref b4), .val (.ref b8), .val (.ref b27), .val (.int v46), .val (.int (2 : Int32)), .val (.int v2), .unset, .unset, .unset, .unset, .unset, .unset, .unset, .unset] [(.int (7 : Int32)), (.ref b8), (.ref b4)])) rfl rfl (hb hby at_265) _ k) ?_
    show own_Go p e below s _ _ _ (T45.setTop (mkF m 266 #[.val (.int p0), .val (.int p1), .val (.int p2), .val (.int p3), .val (.int p4), .val (.int p5), .val (.int v1), .val (.int v2), .val (.int v3), .val (.ref b4), .val (.ref b8), .val (.ref b27), .val (.int v46), .val (.int (2 : Int32)), .val (.int v2), .unset, .unset, .unset, .unset, .unset, .unset, .unset, .unset] [(.int (0 : Int32)), (.ref b4)]))
    obtain ⟨cl167, Ar167, q167, S167, M167, H167, G167⟩ := (id F165)
    have hin167 : ¬ ((0 : Int32) < 0 ∨ cl167.slots.size ≤ ((0 : Int32)).toNatClampNeg) := inb_of S167 ⟨by decide, by decide⟩
    have hat167 : cl167.slots[((0 : Int32)).toNatClampNeg]? = some (.int v1) := Has.at H167 hin167 rfl
    refine own_via (fun _ k => X45.iaload hx (j := (0 : Int32)) (v := (.int v1)) (by rw [e45]; exact Ar167.1) (State.isArrayOf_alike hZ.alike Ar167.2.1) Ar167.2.2 hin167 hat167 (g := (mkF m 266 #[.val (.int p0), .val (.int p1), .val (.int p2), .val (.int p3), .val (.int p4), .val (.int p5), .val (.int v1), .val (.int v2), .val (.int v3), .val (.ref b4), .val (.ref b8), .val (.ref b27), .val (.int v46), .val (.int (2 : Int32)), .val (.int v2), .unset, .unset, .unset, .unset, .unset, .unset, .unset, .unset] [(.int (0 : Int32)), (.ref b4)])) rfl rfl (hb hby at_266) _ k) ?_
    show own_Go p e below s _ _ _ (T45.setTop (mkF m 267 #[.val (.int p0), .val (.int p1), .val (.int p2), .val (.int p3), .val (.int p4), .val (.int p5), .val (.int v1), .val (.int v2), .val (.int v3), .val (.ref b4), .val (.ref b8), .val (.ref b27), .val (.int v46), .val (.int (2 : Int32)), .val (.int v2), .unset, .unset, .unset, .unset, .unset, .unset, .unset, .unset] [(.int v1)]))
    refine own_via (fun _ k => XS.istore X45.here hx rfl (hb hby at_267) rfl (l' := #[.val (.int p0), .val (.int p1), .val (.int p2), .val (.int p3), .val (.int p4), .val (.int p5), .val (.int v1), .val (.int v2), .val (.int v3), .val (.ref b4), .val (.ref b8), .val (.ref b27), .val (.int v46), .val (.int (2 : Int32)), .val (.int v2), .val (.int v1), .unset, .unset, .unset, .unset, .unset, .unset, .unset]) rfl k) ?_
    show own_Go p e below s _ _ _ (T45.setTop (mkF m 269 #[.val (.int p0), .val (.int p1), .val (.int p2), .val (.int p3), .val (.int p4), .val (.int p5), .val (.int v1), .val (.int v2), .val (.int v3), .val (.ref b4), .val (.ref b8), .val (.ref b27), .val (.int v46), .val (.int (2 : Int32)), .val (.int v2), .val (.int v1), .unset, .unset, .unset, .unset, .unset, .unset, .unset] []))
    refine own_via (fun _ k => XS.aload X45.here hx rfl (hb hby at_269) rfl rfl k) ?_
    show own_Go p e below s _ _ _ (T45.setTop (mkF m 271 #[.val (.int p0), .val (.int p1), .val (.int p2), .val (.int p3), .val (.int p4), .val (.int p5), .val (.int v1), .val (.int v2), .val (.int v3), .val (.ref b4), .val (.ref b8), .val (.ref b27), .val (.int v46), .val (.int (2 : Int32)), .val (.int v2), .val (.int v1), .unset, .unset, .unset, .unset, .unset, .unset, .unset] [(.ref b4)]))
    refine own_via (fun _ k => XS.aload X45.here hx rfl (hb hby at_271) rfl rfl k) ?_
    show own_Go p e below s _ _ _ (T45.setTop (mkF m 273 #[.val (.int p0), .val (.int p1), .val (.int p2), .val (.int p3), .val (.int p4), .val (.int p5), .val (.int v1), .val (.int v2), .val (.int v3), .val (.ref b4), .val (.ref b8), .val (.ref b27), .val (.int v46), .val (.int (2 : Int32)), .val (.int v2), .val (.int v1), .unset, .unset, .unset, .unset, .unset, .unset, .unset] [(.ref b8), (.ref b4)]))
    refine own_via (fun _ k => XS.iconst X45.here hx rfl (hb hby at_273) k) ?_
    show own_Go p e below s _ _ _ (T45.setTop (mkF m 274 #[.val (.int p0), .val (.int p1), .val (.int p2), .val (.int p3), .val (.int p4), .val (.int p5), .val (.int v1), .val (.int v2), .val (.int v3), .val (.ref b4), .val (.ref b8), .val (.ref b27), .val (.int v46), .val (.int (2 : Int32)), .val (.int v2), .val (.int v1), .unset, .unset, .unset, .unset, .unset, .unset, .unset] [(.int (3 : Int32)), (.ref b8), (.ref b4)]))
    refine own_via (fun _ k => XS.iload X45.here hx rfl (hb hby at_274) rfl k) ?_
    show own_Go p e below s _ _ _ (T45.setTop (mkF m 276 #[.val (.int p0), .val (.int p1), .val (.int p2), .val (.int p3), .val (.int p4), .val (.int p5), .val (.int v1), .val (.int v2), .val (.int v3), .val (.ref b4), .val (.ref b8), .val (.ref b27), .val (.int v46), .val (.int (2 : Int32)), .val (.int v2), .val (.int v1), .unset, .unset, .unset, .unset, .unset, .unset, .unset] [(.int (2 : Int32)), (.int (3 : Int32)), (.ref b8), (.ref b4)]))
    refine own_via (fun _ k => XS.imul X45.here hx rfl (hb hby at_276) rfl k) ?_
    show own_Go p e below s _ _ _ (T45.setTop (mkF m 277 #[.val (.int p0), .val (.int p1), .val (.int p2), .val (.int p3), .val (.int p4), .val (.int p5), .val (.int v1), .val (.int v2), .val (.int v3), .val (.ref b4), .val (.ref b8), .val (.ref b27), .val (.int v46), .val (.int (2 : Int32)), .val (.int v2), .val (.int v1), .unset, .unset, .unset, .unset, .unset, .unset, .unset] [(.int (6 : Int32)), (.ref b8), (.ref b4)]))
    refine own_via (fun _ k => XS.iconst X45.here hx rfl (hb hby at_277) k) ?_
    show own_Go p e below s _ _ _ (T45.setTop (mkF m 278 #[.val (.int p0), .val (.int p1), .val (.int p2), .val (.int p3), .val (.int p4), .val (.int p5), .val (.int v1), .val (.int v2), .val (.int v3), .val (.ref b4), .val (.ref b8), .val (.ref b27), .val (.int v46), .val (.int (2 : Int32)), .val (.int v2), .val (.int v1), .unset, .unset, .unset, .unset, .unset, .unset, .unset] [(.int (2 : Int32)), (.int (6 : Int32)), (.ref b8), (.ref b4)]))
    refine own_via (fun _ k => XS.iadd X45.here hx rfl (hb hby at_278) rfl k) ?_
    show own_Go p e below s _ _ _ (T45.setTop (mkF m 279 #[.val (.int p0), .val (.int p1), .val (.int p2), .val (.int p3), .val (.int p4), .val (.int p5), .val (.int v1), .val (.int v2), .val (.int v3), .val (.ref b4), .val (.ref b8), .val (.ref b27), .val (.int v46), .val (.int (2 : Int32)), .val (.int v2), .val (.int v1), .unset, .unset, .unset, .unset, .unset, .unset, .unset] [(.int (8 : Int32)), (.ref b8), (.ref b4)]))
    obtain ⟨cl168, Ar168, q168, S168, M168, H168, G168⟩ := (id F163)
    have hin168 : ¬ ((8 : Int32) < 0 ∨ cl168.slots.size ≤ ((8 : Int32)).toNatClampNeg) := inb_of S168 ⟨by decide, by decide⟩
    have hat168 : cl168.slots[((8 : Int32)).toNatClampNeg]? = some (.int (2 : Int32)) := Has.at H168 hin168 rfl
    refine own_via (fun _ k => X45.iaload hx (j := (8 : Int32)) (v := (.int (2 : Int32))) (by rw [e45]; exact Ar168.1) (State.isArrayOf_alike hZ.alike Ar168.2.1) Ar168.2.2 hin168 hat168 (g := (mkF m 279 #[.val (.int p0), .val (.int p1), .val (.int p2), .val (.int p3), .val (.int p4), .val (.int p5), .val (.int v1), .val (.int v2), .val (.int v3), .val (.ref b4), .val (.ref b8), .val (.ref b27), .val (.int v46), .val (.int (2 : Int32)), .val (.int v2), .val (.int v1), .unset, .unset, .unset, .unset, .unset, .unset, .unset] [(.int (8 : Int32)), (.ref b8), (.ref b4)])) rfl rfl (hb hby at_279) _ k) ?_
    show own_Go p e below s _ _ _ (T45.setTop (mkF m 280 #[.val (.int p0), .val (.int p1), .val (.int p2), .val (.int p3), .val (.int p4), .val (.int p5), .val (.int v1), .val (.int v2), .val (.int v3), .val (.ref b4), .val (.ref b8), .val (.ref b27), .val (.int v46), .val (.int (2 : Int32)), .val (.int v2), .val (.int v1), .unset, .unset, .unset, .unset, .unset, .unset, .unset] [(.int (2 : Int32)), (.ref b4)]))
    obtain ⟨cl169, Ar169, q169, S169, M169, H169, G169⟩ := (id F165)
    have hin169 : ¬ ((2 : Int32) < 0 ∨ cl169.slots.size ≤ ((2 : Int32)).toNatClampNeg) := inb_of S169 ⟨by decide, by decide⟩
    have hat169 : cl169.slots[((2 : Int32)).toNatClampNeg]? = some (.int v3) := Has.at H169 hin169 rfl
    refine own_via (fun _ k => X45.iaload hx (j := (2 : Int32)) (v := (.int v3)) (by rw [e45]; exact Ar169.1) (State.isArrayOf_alike hZ.alike Ar169.2.1) Ar169.2.2 hin169 hat169 (g := (mkF m 280 #[.val (.int p0), .val (.int p1), .val (.int p2), .val (.int p3), .val (.int p4), .val (.int p5), .val (.int v1), .val (.int v2), .val (.int v3), .val (.ref b4), .val (.ref b8), .val (.ref b27), .val (.int v46), .val (.int (2 : Int32)), .val (.int v2), .val (.int v1), .unset, .unset, .unset, .unset, .unset, .unset, .unset] [(.int (2 : Int32)), (.ref b4)])) rfl rfl (hb hby at_280) _ k) ?_
    show own_Go p e below s _ _ _ (T45.setTop (mkF m 281 #[.val (.int p0), .val (.int p1), .val (.int p2), .val (.int p3), .val (.int p4), .val (.int p5), .val (.int v1), .val (.int v2), .val (.int v3), .val (.ref b4), .val (.ref b8), .val (.ref b27), .val (.int v46), .val (.int (2 : Int32)), .val (.int v2), .val (.int v1), .unset, .unset, .unset, .unset, .unset, .unset, .unset] [(.int v3)]))
    refine own_via (fun _ k => XS.istore X45.here hx rfl (hb hby at_281) rfl (l' := #[.val (.int p0), .val (.int p1), .val (.int p2), .val (.int p3), .val (.int p4), .val (.int p5), .val (.int v1), .val (.int v2), .val (.int v3), .val (.ref b4), .val (.ref b8), .val (.ref b27), .val (.int v46), .val (.int (2 : Int32)), .val (.int v2), .val (.int v1), .val (.int v3), .unset, .unset, .unset, .unset, .unset, .unset]) rfl k) ?_
    show own_Go p e below s _ _ _ (T45.setTop (mkF m 283 #[.val (.int p0), .val (.int p1), .val (.int p2), .val (.int p3), .val (.int p4), .val (.int p5), .val (.int v1), .val (.int v2), .val (.int v3), .val (.ref b4), .val (.ref b8), .val (.ref b27), .val (.int v46), .val (.int (2 : Int32)), .val (.int v2), .val (.int v1), .val (.int v3), .unset, .unset, .unset, .unset, .unset, .unset] []))
    have F170 := (((((((((((((((((((((((((((((((((((((((((AE4.wr W5).wr W6).wr W7).ext E8).wr W9).wr W10).wr W11).wr W12).wr W13).wr W14).wr W15).wr W16).wr W17).wr W18).wr W19).wr W20).wr W21).wr W22).wr W23).wr W24).wr W25).wr W26).ext E27).wr W28).wr W29).wr W30).wr W31).wr W32).wr W33).wr W34).wr W35).wr W36).wr W37).wr W38).wr W39).wr W40).wr W41).wr W42).wr W43).wr W44).wr W45)
    exact jq (2 : Int32) 1 0 2 (1 : Int32) (0 : Int32) (2 : Int32) _ _ _ X45 e45 N45 Z45 F165 F170 VLB ((by unfold own_perm; simp)) (⟨by decide, by decide⟩) (⟨by decide, by decide⟩) (⟨by decide, by decide⟩) (rfl) (rfl) (rfl)
  · show own_Go p e below s _ _ _ (T45.setTop (mkF m 243 #[.val (.int p0), .val (.int p1), .val (.int p2), .val (.int p3), .val (.int p4), .val (.int p5), .val (.int v1), .val (.int v2), .val (.int v3), .val (.ref b4), .val (.ref b8), .val (.ref b27), .val (.int v46), .val (.int (3 : Int32)), .unset, .unset, .unset, .unset, .unset, .unset, .unset, .unset, .unset] []))
    refine own_via (fun _ k => XS.aload X45.here hx rfl (hb hby at_243) rfl rfl k) ?_
    show own_Go p e below s _ _ _ (T45.setTop (mkF m 245 #[.val (.int p0), .val (.int p1), .val (.int p2), .val (.int p3), .val (.int p4), .val (.int p5), .val (.int v1), .val (.int v2), .val (.int v3), .val (.ref b4), .val (.ref b8), .val (.ref b27), .val (.int v46), .val (.int (3 : Int32)), .unset, .unset, .unset, .unset, .unset, .unset, .unset, .unset, .unset] [(.ref b4)]))
    refine own_via (fun _ k => XS.aload X45.here hx rfl (hb hby at_245) rfl rfl k) ?_
    show own_Go p e below s _ _ _ (T45.setTop (mkF m 247 #[.val (.int p0), .val (.int p1), .val (.int p2), .val (.int p3), .val (.int p4), .val (.int p5), .val (.int v1), .val (.int v2), .val (.int v3), .val (.ref b4), .val (.ref b8), .val (.ref b27), .val (.int v46), .val (.int (3 : Int32)), .unset, .unset, .unset, .unset, .unset, .unset, .unset, .unset, .unset] [(.ref b8), (.ref b4)]))
    refine own_via (fun _ k => XS.iconst X45.here hx rfl (hb hby at_247) k) ?_
    show own_Go p e below s _ _ _ (T45.setTop (mkF m 248 #[.val (.int p0), .val (.int p1), .val (.int p2), .val (.int p3), .val (.int p4), .val (.int p5), .val (.int v1), .val (.int v2), .val (.int v3), .val (.ref b4), .val (.ref b8), .val (.ref b27), .val (.int v46), .val (.int (3 : Int32)), .unset, .unset, .unset, .unset, .unset, .unset, .unset, .unset, .unset] [(.int (3 : Int32)), (.ref b8), (.ref b4)]))
    refine own_via (fun _ k => XS.iload X45.here hx rfl (hb hby at_248) rfl k) ?_
    show own_Go p e below s _ _ _ (T45.setTop (mkF m 250 #[.val (.int p0), .val (.int p1), .val (.int p2), .val (.int p3), .val (.int p4), .val (.int p5), .val (.int v1), .val (.int v2), .val (.int v3), .val (.ref b4), .val (.ref b8), .val (.ref b27), .val (.int v46), .val (.int (3 : Int32)), .unset, .unset, .unset, .unset, .unset, .unset, .unset, .unset, .unset] [(.int (3 : Int32)), (.int (3 : Int32)), (.ref b8), (.ref b4)]))
    refine own_via (fun _ k => XS.imul X45.here hx rfl (hb hby at_250) rfl k) ?_
    show own_Go p e below s _ _ _ (T45.setTop (mkF m 251 #[.val (.int p0), .val (.int p1), .val (.int p2), .val (.int p3), .val (.int p4), .val (.int p5), .val (.int v1), .val (.int v2), .val (.int v3), .val (.ref b4), .val (.ref b8), .val (.ref b27), .val (.int v46), .val (.int (3 : Int32)), .unset, .unset, .unset, .unset, .unset, .unset, .unset, .unset, .unset] [(.int (9 : Int32)), (.ref b8), (.ref b4)]))
    have F172 := (((((((((((((((((((VLA.ext E27).other W28 ne_b8_b27).other W29 ne_b8_b27).other W30 ne_b8_b27).other W31 ne_b8_b27).other W32 ne_b8_b27).other W33 ne_b8_b27).other W34 ne_b8_b27).other W35 ne_b8_b27).other W36 ne_b8_b27).other W37 ne_b8_b27).other W38 ne_b8_b27).other W39 ne_b8_b27).other W40 ne_b8_b27).other W41 ne_b8_b27).other W42 ne_b8_b27).other W43 ne_b8_b27).other W44 ne_b8_b27).other W45 ne_b8_b27)
    obtain ⟨cl171, Ar171, q171, S171, M171, H171, G171⟩ := (id F172)
    have hin171 : ¬ ((9 : Int32) < 0 ∨ cl171.slots.size ≤ ((9 : Int32)).toNatClampNeg) := inb_of S171 ⟨by decide, by decide⟩
    have hat171 : cl171.slots[((9 : Int32)).toNatClampNeg]? = some (.int (1 : Int32)) := Has.at H171 hin171 rfl
    refine own_via (fun _ k => X45.iaload hx (j := (9 : Int32)) (v := (.int (1 : Int32))) (by rw [e45]; exact Ar171.1) (State.isArrayOf_alike hZ.alike Ar171.2.1) Ar171.2.2 hin171 hat171 (g := (mkF m 251 #[.val (.int p0), .val (.int p1), .val (.int p2), .val (.int p3), .val (.int p4), .val (.int p5), .val (.int v1), .val (.int v2), .val (.int v3), .val (.ref b4), .val (.ref b8), .val (.ref b27), .val (.int v46), .val (.int (3 : Int32)), .unset, .unset, .unset, .unset, .unset, .unset, .unset, .unset, .unset] [(.int (9 : Int32)), (.ref b8), (.ref b4)])) rfl rfl (hb hby at_251) _ k) ?_
    show own_Go p e below s _ _ _ (T45.setTop (mkF m 252 #[.val (.int p0), .val (.int p1), .val (.int p2), .val (.int p3), .val (.int p4), .val (.int p5), .val (.int v1), .val (.int v2), .val (.int v3), .val (.ref b4), .val (.ref b8), .val (.ref b27), .val (.int v46), .val (.int (3 : Int32)), .unset, .unset, .unset, .unset, .unset, .unset, .unset, .unset, .unset] [(.int (1 : Int32)), (.ref b4)]))
    have F174 := ((((((((((((((((((((((((((((((((((((((V7.ext E8).other W9 ne_b4_b8).other W10 ne_b4_b8).other W11 ne_b4_b8).other W12 ne_b4_b8).other W13 ne_b4_b8).other W14 ne_b4_b8).other W15 ne_b4_b8).other W16 ne_b4_b8).other W17 ne_b4_b8).other W18 ne_b4_b8).other W19 ne_b4_b8).other W20 ne_b4_b8).other W21 ne_b4_b8).other W22 ne_b4_b8).other W23 ne_b4_b8).other W24 ne_b4_b8).other W25 ne_b4_b8).other W26 ne_b4_b8).ext E27).other W28 ne_b4_b27).other W29 ne_b4_b27).other W30 ne_b4_b27).other W31 ne_b4_b27).other W32 ne_b4_b27).other W33 ne_b4_b27).other W34 ne_b4_b27).other W35 ne_b4_b27).other W36 ne_b4_b27).other W37 ne_b4_b27).other W38 ne_b4_b27).other W39 ne_b4_b27).other W40 ne_b4_b27).other W41 ne_b4_b27).other W42 ne_b4_b27).other W43 ne_b4_b27).other W44 ne_b4_b27).other W45 ne_b4_b27)
    obtain ⟨cl173, Ar173, q173, S173, M173, H173, G173⟩ := (id F174)
    have hin173 : ¬ ((1 : Int32) < 0 ∨ cl173.slots.size ≤ ((1 : Int32)).toNatClampNeg) := inb_of S173 ⟨by decide, by decide⟩
    have hat173 : cl173.slots[((1 : Int32)).toNatClampNeg]? = some (.int v2) := Has.at H173 hin173 rfl
    refine own_via (fun _ k => X45.iaload hx (j := (1 : Int32)) (v := (.int v2)) (by rw [e45]; exact Ar173.1) (State.isArrayOf_alike hZ.alike Ar173.2.1) Ar173.2.2 hin173 hat173 (g := (mkF m 252 #[.val (.int p0), .val (.int p1), .val (.int p2), .val (.int p3), .val (.int p4), .val (.int p5), .val (.int v1), .val (.int v2), .val (.int v3), .val (.ref b4), .val (.ref b8), .val (.ref b27), .val (.int v46), .val (.int (3 : Int32)), .unset, .unset, .unset, .unset, .unset, .unset, .unset, .unset, .unset] [(.int (1 : Int32)), (.ref b4)])) rfl rfl (hb hby at_252) _ k) ?_
    show own_Go p e below s _ _ _ (T45.setTop (mkF m 253 #[.val (.int p0), .val (.int p1), .val (.int p2), .val (.int p3), .val (.int p4), .val (.int p5), .val (.int v1), .val (.int v2), .val (.int v3), .val (.ref b4), .val (.ref b8), .val (.ref b27), .val (.int v46), .val (.int (3 : Int32)), .unset, .unset, .unset, .unset, .unset, .unset, .unset, .unset, .unset] [(.int v2)]))
    refine own_via (fun _ k => XS.istore X45.here hx rfl (hb hby at_253) rfl (l' := #[.val (.int p0), .val (.int p1), .val (.int p2), .val (.int p3), .val (.int p4), .val (.int p5), .val (.int v1), .val (.int v2), .val (.int v3), .val (.ref b4), .val (.ref b8), .val (.ref b27), .val (.int v46), .val (.int (3 : Int32)), .val (.int v2), .unset, .unset, .unset, .unset, .unset, .unset, .unset, .unset]) rfl k) ?_
    show own_Go p e below s _ _ _ (T45.setTop (mkF m 255 #[.val (.int p0), .val (.int p1), .val (.int p2), .val (.int p3), .val (.int p4), .val (.int p5), .val (.int v1), .val (.int v2), .val (.int v3), .val (.ref b4), .val (.ref b8), .val (.ref b27), .val (.int v46), .val (.int (3 : Int32)), .val (.int v2), .unset, .unset, .unset, .unset, .unset, .unset, .unset, .unset] []))
    refine own_via (fun _ k => XS.aload X45.here hx rfl (hb hby at_255) rfl rfl k) ?_
    show own_Go p e below s _ _ _ (T45.setTop (mkF m 257 #[.val (.int p0), .val (.int p1), .val (.int p2), .val (.int p3), .val (.int p4), .val (.int p5), .val (.int v1), .val (.int v2), .val (.int v3), .val (.ref b4), .val (.ref b8), .val (.ref b27), .val (.int v46), .val (.int (3 : Int32)), .val (.int v2), .unset, .unset, .unset, .unset, .unset, .unset, .unset, .unset] [(.ref b4)]))
    refine own_via (fun _ k => XS.aload X45.here hx rfl (hb hby at_257) rfl rfl k) ?_
    show own_Go p e below s _ _ _ (T45.setTop (mkF m 259 #[.val (.int p0), .val (.int p1), .val (.int p2), .val (.int p3), .val (.int p4), .val (.int p5), .val (.int v1), .val (.int v2), .val (.int v3), .val (.ref b4), .val (.ref b8), .val (.ref b27), .val (.int v46), .val (.int (3 : Int32)), .val (.int v2), .unset, .unset, .unset, .unset, .unset, .unset, .unset, .unset] [(.ref b8), (.ref b4)]))
    refine own_via (fun _ k => XS.iconst X45.here hx rfl (hb hby at_259) k) ?_
    show own_Go p e below s _ _ _ (T45.setTop (mkF m 260 #[.val (.int p0), .val (.int p1), .val (.int p2), .val (.int p3), .val (.int p4), .val (.int p5), .val (.int v1), .val (.int v2), .val (.int v3), .val (.ref b4), .val (.ref b8), .val (.ref b27), .val (.int v46), .val (.int (3 : Int32)), .val (.int v2), .unset, .unset, .unset, .unset, .unset, .unset, .unset, .unset] [(.int (3 : Int32)), (.ref b8), (.ref b4)]))
    refine own_via (fun _ k => XS.iload X45.here hx rfl (hb hby at_260) rfl k) ?_
    show own_Go p e below s _ _ _ (T45.setTop (mkF m 262 #[.val (.int p0), .val (.int p1), .val (.int p2), .val (.int p3), .val (.int p4), .val (.int p5), .val (.int v1), .val (.int v2), .val (.int v3), .val (.ref b4), .val (.ref b8), .val (.ref b27), .val (.int v46), .val (.int (3 : Int32)), .val (.int v2), .unset, .unset, .unset, .unset, .unset, .unset, .unset, .unset] [(.int (3 : Int32)), (.int (3 : Int32)), (.ref b8), (.ref b4)]))
    refine own_via (fun _ k => XS.imul X45.here hx rfl (hb hby at_262) rfl k) ?_
    show own_Go p e below s _ _ _ (T45.setTop (mkF m 263 #[.val (.int p0), .val (.int p1), .val (.int p2), .val (.int p3), .val (.int p4), .val (.int p5), .val (.int v1), .val (.int v2), .val (.int v3), .val (.ref b4), .val (.ref b8), .val (.ref b27), .val (.int v46), .val (.int (3 : Int32)), .val (.int v2), .unset, .unset, .unset, .unset, .unset, .unset, .unset, .unset] [(.int (9 : Int32)), (.ref b8), (.ref b4)]))
    refine own_via (fun _ k => XS.iconst X45.here hx rfl (hb hby at_263) k) ?_
    show own_Go p e below s _ _ _ (T45.setTop (mkF m 264 #[.val (.int p0), .val (.int p1), .val (.int p2), .val (.int p3), .val (.int p4), .val (.int p5), .val (.int v1), .val (.int v2), .val (.int v3), .val (.ref b4), .val (.ref b8), .val (.ref b27), .val (.int v46), .val (.int (3 : Int32)), .val (.int v2), .unset, .unset, .unset, .unset, .unset, .unset, .unset, .unset] [(.int (1 : Int32)), (.int (9 : Int32)), (.ref b8), (.ref b4)]))
    refine own_via (fun _ k => XS.iadd X45.here hx rfl (hb hby at_264) rfl k) ?_
    show own_Go p e below s _ _ _ (T45.setTop (mkF m 265 #[.val (.int p0), .val (.int p1), .val (.int p2), .val (.int p3), .val (.int p4), .val (.int p5), .val (.int v1), .val (.int v2), .val (.int v3), .val (.ref b4), .val (.ref b8), .val (.ref b27), .val (.int v46), .val (.int (3 : Int32)), .val (.int v2), .unset, .unset, .unset, .unset, .unset, .unset, .unset, .unset] [(.int (10 : Int32)), (.ref b8), (.ref b4)]))
    obtain ⟨cl175, Ar175, q175, S175, M175, H175, G175⟩ := (id F172)
    have hin175 : ¬ ((10 : Int32) < 0 ∨ cl175.slots.size ≤ ((10 : Int32)).toNatClampNeg) := inb_of S175 ⟨by decide, by decide⟩
    have hat175 : cl175.slots[((10 : Int32)).toNatClampNeg]? = some (.int (2 : Int32)) := Has.at H175 hin175 rfl
    refine own_via (fun _ k => X45.iaload hx (j := (10 : Int32)) (v := (.int (2 : Int32))) (by rw [e45]; exact Ar175.1) (State.isArrayOf_alike hZ.alike Ar175.2.1) Ar175.2.2 hin175 hat175 (g := (mkF m 265 #[.val (.int p0), .val (.int p1), .val (.int p2), .val (.int p3), .val (.int p4), .val (.int p5), .val (.int v1), .val (.int v2), .val (.int v3), .val (.ref b4), .val (.ref b8), .val (.ref b27), .val (.int v46), .val (.int (3 : Int32)), .val (.int v2), .unset, .unset, .unset, .unset, .unset, .unset, .unset, .unset] [(.int (10 : Int32)), (.ref b8), (.ref b4)])) rfl rfl (hb hby at_265) _ k) ?_
    show own_Go p e below s _ _ _ (T45.setTop (mkF m 266 #[.val (.int p0), .val (.int p1), .val (.int p2), .val (.int p3), .val (.int p4), .val (.int p5), .val (.int v1), .val (.int v2), .val (.int v3), .val (.ref b4), .val (.ref b8), .val (.ref b27), .val (.int v46), .val (.int (3 : Int32)), .val (.int v2), .unset, .unset, .unset, .unset, .unset, .unset, .unset, .unset] [(.int (2 : Int32)), (.ref b4)]))
    obtain ⟨cl176, Ar176, q176, S176, M176, H176, G176⟩ := (id F174)
    have hin176 : ¬ ((2 : Int32) < 0 ∨ cl176.slots.size ≤ ((2 : Int32)).toNatClampNeg) := inb_of S176 ⟨by decide, by decide⟩
    have hat176 : cl176.slots[((2 : Int32)).toNatClampNeg]? = some (.int v3) := Has.at H176 hin176 rfl
    refine own_via (fun _ k => X45.iaload hx (j := (2 : Int32)) (v := (.int v3)) (by rw [e45]; exact Ar176.1) (State.isArrayOf_alike hZ.alike Ar176.2.1) Ar176.2.2 hin176 hat176 (g := (mkF m 266 #[.val (.int p0), .val (.int p1), .val (.int p2), .val (.int p3), .val (.int p4), .val (.int p5), .val (.int v1), .val (.int v2), .val (.int v3), .val (.ref b4), .val (.ref b8), .val (.ref b27), .val (.int v46), .val (.int (3 : Int32)), .val (.int v2), .unset, .unset, .unset, .unset, .unset, .unset, .unset, .unset] [(.int (2 : Int32)), (.ref b4)])) rfl rfl (hb hby at_266) _ k) ?_
    show own_Go p e below s _ _ _ (T45.setTop (mkF m 267 #[.val (.int p0), .val (.int p1), .val (.int p2), .val (.int p3), .val (.int p4), .val (.int p5), .val (.int v1), .val (.int v2), .val (.int v3), .val (.ref b4), .val (.ref b8), .val (.ref b27), .val (.int v46), .val (.int (3 : Int32)), .val (.int v2), .unset, .unset, .unset, .unset, .unset, .unset, .unset, .unset] [(.int v3)]))
    refine own_via (fun _ k => XS.istore X45.here hx rfl (hb hby at_267) rfl (l' := #[.val (.int p0), .val (.int p1), .val (.int p2), .val (.int p3), .val (.int p4), .val (.int p5), .val (.int v1), .val (.int v2), .val (.int v3), .val (.ref b4), .val (.ref b8), .val (.ref b27), .val (.int v46), .val (.int (3 : Int32)), .val (.int v2), .val (.int v3), .unset, .unset, .unset, .unset, .unset, .unset, .unset]) rfl k) ?_
    show own_Go p e below s _ _ _ (T45.setTop (mkF m 269 #[.val (.int p0), .val (.int p1), .val (.int p2), .val (.int p3), .val (.int p4), .val (.int p5), .val (.int v1), .val (.int v2), .val (.int v3), .val (.ref b4), .val (.ref b8), .val (.ref b27), .val (.int v46), .val (.int (3 : Int32)), .val (.int v2), .val (.int v3), .unset, .unset, .unset, .unset, .unset, .unset, .unset] []))
    refine own_via (fun _ k => XS.aload X45.here hx rfl (hb hby at_269) rfl rfl k) ?_
    show own_Go p e below s _ _ _ (T45.setTop (mkF m 271 #[.val (.int p0), .val (.int p1), .val (.int p2), .val (.int p3), .val (.int p4), .val (.int p5), .val (.int v1), .val (.int v2), .val (.int v3), .val (.ref b4), .val (.ref b8), .val (.ref b27), .val (.int v46), .val (.int (3 : Int32)), .val (.int v2), .val (.int v3), .unset, .unset, .unset, .unset, .unset, .unset, .unset] [(.ref b4)]))
    refine own_via (fun _ k => XS.aload X45.here hx rfl (hb hby at_271) rfl rfl k) ?_
    show own_Go p e below s _ _ _ (T45.setTop (mkF m 273 #[.val (.int p0), .val (.int p1), .val (.int p2), .val (.int p3), .val (.int p4), .val (.int p5), .val (.int v1), .val (.int v2), .val (.int v3), .val (.ref b4), .val (.ref b8), .val (.ref b27), .val (.int v46), .val (.int (3 : Int32)), .val (.int v2), .val (.int v3), .unset, .unset, .unset, .unset, .unset, .unset, .unset] [(.ref b8), (.ref b4)]))
    refine own_via (fun _ k => XS.iconst X45.here hx rfl (hb hby at_273) k) ?_
    show own_Go p e below s _ _ _ (T45.setTop (mkF m 274 #[.val (.int p0), .val (.int p1), .val (.int p2), .val (.int p3), .val (.int p4), .val (.int p5), .val (.int v1), .val (.int v2), .val (.int v3), .val (.ref b4), .val (.ref b8), .val (.ref b27), .val (.int v46), .val (.int (3 : Int32)), .val (.int v2), .val (.int v3), .unset, .unset, .unset, .unset, .unset, .unset, .unset] [(.int (3 : Int32)), (.ref b8), (.ref b4)]))
    refine own_via (fun _ k => XS.iload X45.here hx rfl (hb hby at_274) rfl k) ?_
    show own_Go p e below s _ _ _ (T45.setTop (mkF m 276 #[.val (.int p0), .val (.int p1), .val (.int p2), .val (.int p3), .val (.int p4), .val (.int p5), .val (.int v1), .val (.int v2), .val (.int v3), .val (.ref b4), .val (.ref b8), .val (.ref b27), .val (.int v46), .val (.int (3 : Int32)), .val (.int v2), .val (.int v3), .unset, .unset, .unset, .unset, .unset, .unset, .unset] [(.int (3 : Int32)), (.int (3 : Int32)), (.ref b8), (.ref b4)]))
    refine own_via (fun _ k => XS.imul X45.here hx rfl (hb hby at_276) rfl k) ?_
    show own_Go p e below s _ _ _ (T45.setTop (mkF m 277 #[.val (.int p0), .val (.int p1), .val (.int p2), .val (.int p3), .val (.int p4), .val (.int p5), .val (.int v1), .val (.int v2), .val (.int v3), .val (.ref b4), .val (.ref b8), .val (.ref b27), .val (.int v46), .val (.int (3 : Int32)), .val (.int v2), .val (.int v3), .unset, .unset, .unset, .unset, .unset, .unset, .unset] [(.int (9 : Int32)), (.ref b8), (.ref b4)]))
    refine own_via (fun _ k => XS.iconst X45.here hx rfl (hb hby at_277) k) ?_
    show own_Go p e below s _ _ _ (T45.setTop (mkF m 278 #[.val (.int p0), .val (.int p1), .val (.int p2), .val (.int p3), .val (.int p4), .val (.int p5), .val (.int v1), .val (.int v2), .val (.int v3), .val (.ref b4), .val (.ref b8), .val (.ref b27), .val (.int v46), .val (.int (3 : Int32)), .val (.int v2), .val (.int v3), .unset, .unset, .unset, .unset, .unset, .unset, .unset] [(.int (2 : Int32)), (.int (9 : Int32)), (.ref b8), (.ref b4)]))
    refine own_via (fun _ k => XS.iadd X45.here hx rfl (hb hby at_278) rfl k) ?_
    show own_Go p e below s _ _ _ (T45.setTop (mkF m 279 #[.val (.int p0), .val (.int p1), .val (.int p2), .val (.int p3), .val (.int p4), .val (.int p5), .val (.int v1), .val (.int v2), .val (.int v3), .val (.ref b4), .val (.ref b8), .val (.ref b27), .val (.int v46), .val (.int (3 : Int32)), .val (.int v2), .val (.int v3), .unset, .unset, .unset, .unset, .unset, .unset, .unset] [(.int (11 : Int32)), (.ref b8), (.ref b4)]))
    obtain ⟨cl177, Ar177, q177, S177, M177, H177, G177⟩ := (id F172)
    have hin177 : ¬ ((11 : Int32) < 0 ∨ cl177.slots.size ≤ ((11 : Int32)).toNatClampNeg) := inb_of S177 ⟨by decide, by decide⟩
    have hat177 : cl177.slots[((11 : Int32)).toNatClampNeg]? = some (.int (0 : Int32)) := Has.at H177 hin177 rfl
    refine own_via (fun _ k => X45.iaload hx (j := (11 : Int32)) (v := (.int (0 : Int32))) (by rw [e45]; exact Ar177.1) (State.isArrayOf_alike hZ.alike Ar177.2.1) Ar177.2.2 hin177 hat177 (g := (mkF m 279 #[.val (.int p0), .val (.int p1), .val (.int p2), .val (.int p3), .val (.int p4), .val (.int p5), .val (.int v1), .val (.int v2), .val (.int v3), .val (.ref b4), .val (.ref b8), .val (.ref b27), .val (.int v46), .val (.int (3 : Int32)), .val (.int v2), .val (.int v3), .unset, .unset, .unset, .unset, .unset, .unset, .unset] [(.int (11 : Int32)), (.ref b8), (.ref b4)])) rfl rfl (hb hby at_279) _ k) ?_
    show own_Go p e below s _ _ _ (T45.setTop (mkF m 280 #[.val (.int p0), .val (.int p1), .val (.int p2), .val (.int p3), .val (.int p4), .val (.int p5), .val (.int v1), .val (.int v2), .val (.int v3), .val (.ref b4), .val (.ref b8), .val (.ref b27), .val (.int v46), .val (.int (3 : Int32)), .val (.int v2), .val (.int v3), .unset, .unset, .unset, .unset, .unset, .unset, .unset] [(.int (0 : Int32)), (.ref b4)]))
    obtain ⟨cl178, Ar178, q178, S178, M178, H178, G178⟩ := (id F174)
    have hin178 : ¬ ((0 : Int32) < 0 ∨ cl178.slots.size ≤ ((0 : Int32)).toNatClampNeg) := inb_of S178 ⟨by decide, by decide⟩
    have hat178 : cl178.slots[((0 : Int32)).toNatClampNeg]? = some (.int v1) := Has.at H178 hin178 rfl
    refine own_via (fun _ k => X45.iaload hx (j := (0 : Int32)) (v := (.int v1)) (by rw [e45]; exact Ar178.1) (State.isArrayOf_alike hZ.alike Ar178.2.1) Ar178.2.2 hin178 hat178 (g := (mkF m 280 #[.val (.int p0), .val (.int p1), .val (.int p2), .val (.int p3), .val (.int p4), .val (.int p5), .val (.int v1), .val (.int v2), .val (.int v3), .val (.ref b4), .val (.ref b8), .val (.ref b27), .val (.int v46), .val (.int (3 : Int32)), .val (.int v2), .val (.int v3), .unset, .unset, .unset, .unset, .unset, .unset, .unset] [(.int (0 : Int32)), (.ref b4)])) rfl rfl (hb hby at_280) _ k) ?_
    show own_Go p e below s _ _ _ (T45.setTop (mkF m 281 #[.val (.int p0), .val (.int p1), .val (.int p2), .val (.int p3), .val (.int p4), .val (.int p5), .val (.int v1), .val (.int v2), .val (.int v3), .val (.ref b4), .val (.ref b8), .val (.ref b27), .val (.int v46), .val (.int (3 : Int32)), .val (.int v2), .val (.int v3), .unset, .unset, .unset, .unset, .unset, .unset, .unset] [(.int v1)]))
    refine own_via (fun _ k => XS.istore X45.here hx rfl (hb hby at_281) rfl (l' := #[.val (.int p0), .val (.int p1), .val (.int p2), .val (.int p3), .val (.int p4), .val (.int p5), .val (.int v1), .val (.int v2), .val (.int v3), .val (.ref b4), .val (.ref b8), .val (.ref b27), .val (.int v46), .val (.int (3 : Int32)), .val (.int v2), .val (.int v3), .val (.int v1), .unset, .unset, .unset, .unset, .unset, .unset]) rfl k) ?_
    show own_Go p e below s _ _ _ (T45.setTop (mkF m 283 #[.val (.int p0), .val (.int p1), .val (.int p2), .val (.int p3), .val (.int p4), .val (.int p5), .val (.int v1), .val (.int v2), .val (.int v3), .val (.ref b4), .val (.ref b8), .val (.ref b27), .val (.int v46), .val (.int (3 : Int32)), .val (.int v2), .val (.int v3), .val (.int v1), .unset, .unset, .unset, .unset, .unset, .unset] []))
    have F179 := (((((((((((((((((((((((((((((((((((((((((AE4.wr W5).wr W6).wr W7).ext E8).wr W9).wr W10).wr W11).wr W12).wr W13).wr W14).wr W15).wr W16).wr W17).wr W18).wr W19).wr W20).wr W21).wr W22).wr W23).wr W24).wr W25).wr W26).ext E27).wr W28).wr W29).wr W30).wr W31).wr W32).wr W33).wr W34).wr W35).wr W36).wr W37).wr W38).wr W39).wr W40).wr W41).wr W42).wr W43).wr W44).wr W45)
    exact jq (3 : Int32) 1 2 0 (2 : Int32) (0 : Int32) (1 : Int32) _ _ _ X45 e45 N45 Z45 F174 F179 VLB ((by unfold own_perm; simp)) (⟨by decide, by decide⟩) (⟨by decide, by decide⟩) (⟨by decide, by decide⟩) (rfl) (rfl) (rfl)
  · show own_Go p e below s _ _ _ (T45.setTop (mkF m 243 #[.val (.int p0), .val (.int p1), .val (.int p2), .val (.int p3), .val (.int p4), .val (.int p5), .val (.int v1), .val (.int v2), .val (.int v3), .val (.ref b4), .val (.ref b8), .val (.ref b27), .val (.int v46), .val (.int (4 : Int32)), .unset, .unset, .unset, .unset, .unset, .unset, .unset, .unset, .unset] []))
    refine own_via (fun _ k => XS.aload X45.here hx rfl (hb hby at_243) rfl rfl k) ?_
    show own_Go p e below s _ _ _ (T45.setTop (mkF m 245 #[.val (.int p0), .val (.int p1), .val (.int p2), .val (.int p3), .val (.int p4), .val (.int p5), .val (.int v1), .val (.int v2), .val (.int v3), .val (.ref b4), .val (.ref b8), .val (.ref b27), .val (.int v46), .val (.int (4 : Int32)), .unset, .unset, .unset, .unset, .unset, .unset, .unset, .unset, .unset] [(.ref b4)]))
    refine own_via (fun _ k => XS.aload X45.here hx rfl (hb hby at_245) rfl rfl k) ?_
    show own_Go p e below s _ _ _ (T45.setTop (mkF m 247 #[.val (.int p0), .val (.int p1), .val (.int p2), .val (.int p3), .val (.int p4), .val (.int p5), .val (.int v1), .val (.int v2), .val (.int v3), .val (.ref b4), .val (.ref b8), .val (.ref b27), .val (.int v46), .val (.int (4 : Int32)), .unset, .unset, .unset, .unset, .unset, .unset, .unset, .unset, .unset] [(.ref b8), (.ref b4)]))
    refine own_via (fun _ k => XS.iconst X45.here hx rfl (hb hby at_247) k) ?_
    show own_Go p e below s _ _ _ (T45.setTop (mkF m 248 #[.val (.int p0), .val (.int p1), .val (.int p2), .val (.int p3), .val (.int p4), .val (.int p5), .val (.int v1), .val (.int v2), .val (.int v3), .val (.ref b4), .val (.ref b8), .val (.ref b27), .val (.int v46), .val (.int (4 : Int32)), .unset, .unset, .unset, .unset, .unset, .unset, .unset, .unset, .unset] [(.int (3 : Int32)), (.ref b8), (.ref b4)]))
    refine own_via (fun _ k => XS.iload X45.here hx rfl (hb hby at_248) rfl k) ?_
    show own_Go p e below s _ _ _ (T45.setTop (mkF m 250 #[.val (.int p0), .val (.int p1), .val (.int p2), .val (.int p3), .val (.int p4), .val (.int p5), .val (.int v1), .val (.int v2), .val (.int v3), .val (.ref b4), .val (.ref b8), .val (.ref b27), .val (.int v46), .val (.int (4 : Int32)), .unset, .unset, .unset, .unset, .unset, .unset, .unset, .unset, .unset] [(.int (4 : Int32)), (.int (3 : Int32)), (.ref b8), (.ref b4)]))
    refine own_via (fun _ k => XS.imul X45.here hx rfl (hb hby at_250) rfl k) ?_
    show own_Go p e below s _ _ _ (T45.setTop (mkF m 251 #[.val (.int p0), .val (.int p1), .val (.int p2), .val (.int p3), .val (.int p4), .val (.int p5), .val (.int v1), .val (.int v2), .val (.int v3), .val (.ref b4), .val (.ref b8), .val (.ref b27), .val (.int v46), .val (.int (4 : Int32)), .unset, .unset, .unset, .unset, .unset, .unset, .unset, .unset, .unset] [(.int (12 : Int32)), (.ref b8), (.ref b4)]))
    have F181 := (((((((((((((((((((VLA.ext E27).other W28 ne_b8_b27).other W29 ne_b8_b27).other W30 ne_b8_b27).other W31 ne_b8_b27).other W32 ne_b8_b27).other W33 ne_b8_b27).other W34 ne_b8_b27).other W35 ne_b8_b27).other W36 ne_b8_b27).other W37 ne_b8_b27).other W38 ne_b8_b27).other W39 ne_b8_b27).other W40 ne_b8_b27).other W41 ne_b8_b27).other W42 ne_b8_b27).other W43 ne_b8_b27).other W44 ne_b8_b27).other W45 ne_b8_b27)
    obtain ⟨cl180, Ar180, q180, S180, M180, H180, G180⟩ := (id F181)
    have hin180 : ¬ ((12 : Int32) < 0 ∨ cl180.slots.size ≤ ((12 : Int32)).toNatClampNeg) := inb_of S180 ⟨by decide, by decide⟩
    have hat180 : cl180.slots[((12 : Int32)).toNatClampNeg]? = some (.int (2 : Int32)) := Has.at H180 hin180 rfl
    refine own_via (fun _ k => X45.iaload hx (j := (12 : Int32)) (v := (.int (2 : Int32))) (by rw [e45]; exact Ar180.1) (State.isArrayOf_alike hZ.alike Ar180.2.1) Ar180.2.2 hin180 hat180 (g := (mkF m 251 #[.val (.int p0), .val (.int p1), .val (.int p2), .val (.int p3), .val (.int p4), .val (.int p5), .val (.int v1), .val (.int v2), .val (.int v3), .val (.ref b4), .val (.ref b8), .val (.ref b27), .val (.int v46), .val (.int (4 : Int32)), .unset, .unset, .unset, .unset, .unset, .unset, .unset, .unset, .unset] [(.int (12 : Int32)), (.ref b8), (.ref b4)])) rfl rfl (hb hby at_251) _ k) ?_
    show own_Go p e below s _ _ _ (T45.setTop (mkF m 252 #[.val (.int p0), .val (.int p1), .val (.int p2), .val (.int p3), .val (.int p4), .val (.int p5), .val (.int v1), .val (.int v2), .val (.int v3), .val (.ref b4), .val (.ref b8), .val (.ref b27), .val (.int v46), .val (.int (4 : Int32)), .unset, .unset, .unset, .unset, .unset, .unset, .unset, .unset, .unset] [(.int (2 : Int32)), (.ref b4)]))
    have F183 := ((((((((((((((((((((((((((((((((((((((V7.ext E8).other W9 ne_b4_b8).other W10 ne_b4_b8).other W11 ne_b4_b8).other W12 ne_b4_b8).other W13 ne_b4_b8).other W14 ne_b4_b8).other W15 ne_b4_b8).other W16 ne_b4_b8).other W17 ne_b4_b8).other W18 ne_b4_b8).other W19 ne_b4_b8).other W20 ne_b4_b8).other W21 ne_b4_b8).other W22 ne_b4_b8).other W23 ne_b4_b8).other W24 ne_b4_b8).other W25 ne_b4_b8).other W26 ne_b4_b8).ext E27).other W28 ne_b4_b27).other W29 ne_b4_b27).other W30 ne_b4_b27).other W31 ne_b4_b27).other W32 ne_b4_b27).other W33 ne_b4_b27).other W34 ne_b4_b27).other W35 ne_b4_b27).other W36 ne_b4_b27).other W37 ne_b4_b27).other W38 ne_b4_b27).other W39 ne_b4_b27).other W40 ne_b4_b27).other W41 ne_b4_b27).other W42 ne_b4_b27).other W43 ne_b4_b27).other W44 ne_b4_b27).other W45 ne_b4_b27)
    obtain ⟨cl182, Ar182, q182, S182, M182, H182, G182⟩ := (id F183)
    have hin182 : ¬ ((2 : Int32) < 0 ∨ cl182.slots.size ≤ ((2 : Int32)).toNatClampNeg) := inb_of S182 ⟨by decide, by decide⟩
    have hat182 : cl182.slots[((2 : Int32)).toNatClampNeg]? = some (.int v3) := Has.at H182 hin182 rfl
    refine own_via (fun _ k => X45.iaload hx (j := (2 : Int32)) (v := (.int v3)) (by rw [e45]; exact Ar182.1) (State.isArrayOf_alike hZ.alike Ar182.2.1) Ar182.2.2 hin182 hat182 (g := (mkF m 252 #[.val (.int p0), .val (.int p1), .val (.int p2), .val (.int p3), .val (.int p4), .val (.int p5), .val (.int v1), .val (.int v2), .val (.int v3), .val (.ref b4), .val (.ref b8), .val (.ref b27), .val (.int v46), .val (.int (4 : Int32)), .unset, .unset, .unset, .unset, .unset, .unset, .unset, .unset, .unset] [(.int (2 : Int32)), (.ref b4)])) rfl rfl (hb hby at_252) _ k) ?_
    show own_Go p e below s _ _ _ (T45.setTop (mkF m 253 #[.val (.int p0), .val (.int p1), .val (.int p2), .val (.int p3), .val (.int p4), .val (.int p5), .val (.int v1), .val (.int v2), .val (.int v3), .val (.ref b4), .val (.ref b8), .val (.ref b27), .val (.int v46), .val (.int (4 : Int32)), .unset, .unset, .unset, .unset, .unset, .unset, .unset, .unset, .unset] [(.int v3)]))
    refine own_via (fun _ k => XS.istore X45.here hx rfl (hb hby at_253) rfl (l' := #[.val (.int p0), .val (.int p1), .val (.int p2), .val (.int p3), .val (.int p4), .val (.int p5), .val (.int v1), .val (.int v2), .val (.int v3), .val (.ref b4), .val (.ref b8), .val (.ref b27), .val (.int v46), .val (.int (4 : Int32)), .val (.int v3), .unset, .unset, .unset, .unset, .unset, .unset, .unset, .unset]) rfl k) ?_
    show own_Go p e below s _ _ _ (T45.setTop (mkF m 255 #[.val (.int p0), .val (.int p1), .val (.int p2), .val (.int p3), .val (.int p4), .val (.int p5), .val (.int v1), .val (.int v2), .val (.int v3), .val (.ref b4), .val (.ref b8), .val (.ref b27), .val (.int v46), .val (.int (4 : Int32)), .val (.int v3), .unset, .unset, .unset, .unset, .unset, .unset, .unset, .unset] []))
    refine own_via (fun _ k => XS.aload X45.here hx rfl (hb hby at_255) rfl rfl k) ?_
    show own_Go p e below s _ _ _ (T45.setTop (mkF m 257 #[.val (.int p0), .val (.int p1), .val (.int p2), .val (.int p3), .val (.int p4), .val (.int p5), .val (.int v1), .val (.int v2), .val (.int v3), .val (.ref b4), .val (.ref b8), .val (.ref b27), .val (.int v46), .val (.int (4 : Int32)), .val (.int v3), .unset, .unset, .unset, .unset, .unset, .unset, .unset, .unset] [(.ref b4)]))
    refine own_via (fun _ k => XS.aload X45.here hx rfl (hb hby at_257) rfl rfl k) ?_
    show own_Go p e below s _ _ _ (T45.setTop (mkF m 259 #[.val (.int p0), .val (.int p1), .val (.int p2), .val (.int p3), .val (.int p4), .val (.int p5), .val (.int v1), .val (.int v2), .val (.int v3), .val (.ref b4), .val (.ref b8), .val (.ref b27), .val (.int v46), .val (.int (4 : Int32)), .val (.int v3), .unset, .unset, .unset, .unset, .unset, .unset, .unset, .unset] [(.ref b8), (.ref b4)]))
    refine own_via (fun _ k => XS.iconst X45.here hx rfl (hb hby at_259) k) ?_
    show own_Go p e below s _ _ _ (T45.setTop (mkF m 260 #[.val (.int p0), .val (.int p1), .val (.int p2), .val (.int p3), .val (.int p4), .val (.int p5), .val (.int v1), .val (.int v2), .val (.int v3), .val (.ref b4), .val (.ref b8), .val (.ref b27), .val (.int v46), .val (.int (4 : Int32)), .val (.int v3), .unset, .unset, .unset, .unset, .unset, .unset, .unset, .unset] [(.int (3 : Int32)), (.ref b8), (.ref b4)]))
    refine own_via (fun _ k => XS.iload X45.here hx rfl (hb hby at_260) rfl k) ?_
    show own_Go p e below s _ _ _ (T45.setTop (mkF m 262 #[.val (.int p0), .val (.int p1), .val (.int p2), .val (.int p3), .val (.int p4), .val (.int p5), .val (.int v1), .val (.int v2), .val (.int v3), .val (.ref b4), .val (.ref b8), .val (.ref b27), .val (.int v46), .val (.int (4 : Int32)), .val (.int v3), .unset, .unset, .unset, .unset, .unset, .unset, .unset, .unset] [(.int (4 : Int32)), (.int (3 : Int32)), (.ref b8), (.ref b4)]))
    refine own_via (fun _ k => XS.imul X45.here hx rfl (hb hby at_262) rfl k) ?_
    show own_Go p e below s _ _ _ (T45.setTop (mkF m 263 #[.val (.int p0), .val (.int p1), .val (.int p2), .val (.int p3), .val (.int p4), .val (.int p5), .val (.int v1), .val (.int v2), .val (.int v3), .val (.ref b4), .val (.ref b8), .val (.ref b27), .val (.int v46), .val (.int (4 : Int32)), .val (.int v3), .unset, .unset, .unset, .unset, .unset, .unset, .unset, .unset] [(.int (12 : Int32)), (.ref b8), (.ref b4)]))
    refine own_via (fun _ k => XS.iconst X45.here hx rfl (hb hby at_263) k) ?_
    show own_Go p e below s _ _ _ (T45.setTop (mkF m 264 #[.val (.int p0), .val (.int p1), .val (.int p2), .val (.int p3), .val (.int p4), .val (.int p5), .val (.int v1), .val (.int v2), .val (.int v3), .val (.ref b4), .val (.ref b8), .val (.ref b27), .val (.int v46), .val (.int (4 : Int32)), .val (.int v3), .unset, .unset, .unset, .unset, .unset, .unset, .unset, .unset] [(.int (1 : Int32)), (.int (12 : Int32)), (.ref b8), (.ref b4)]))
    refine own_via (fun _ k => XS.iadd X45.here hx rfl (hb hby at_264) rfl k) ?_
    show own_Go p e below s _ _ _ (T45.setTop (mkF m 265 #[.val (.int p0), .val (.int p1), .val (.int p2), .val (.int p3), .val (.int p4), .val (.int p5), .val (.int v1), .val (.int v2), .val (.int v3), .val (.ref b4), .val (.ref b8), .val (.ref b27), .val (.int v46), .val (.int (4 : Int32)), .val (.int v3), .unset, .unset, .unset, .unset, .unset, .unset, .unset, .unset] [(.int (13 : Int32)), (.ref b8), (.ref b4)]))
    obtain ⟨cl184, Ar184, q184, S184, M184, H184, G184⟩ := (id F181)
    have hin184 : ¬ ((13 : Int32) < 0 ∨ cl184.slots.size ≤ ((13 : Int32)).toNatClampNeg) := inb_of S184 ⟨by decide, by decide⟩
    have hat184 : cl184.slots[((13 : Int32)).toNatClampNeg]? = some (.int (0 : Int32)) := Has.at H184 hin184 rfl
    refine own_via (fun _ k => X45.iaload hx (j := (13 : Int32)) (v := (.int (0 : Int32))) (by rw [e45]; exact Ar184.1) (State.isArrayOf_alike hZ.alike Ar184.2.1) Ar184.2.2 hin184 hat184 (g := (mkF m 265 #[.val (.int p0), .val (.int p1), .val (.int p2), .val (.int p3), .val (.int p4), .val (.int p5), .val (.int v1), .val (.int v2), .val (.int v3), .val (.ref b4), .val (.ref b8), .val (.ref b27), .val (.int v46), .val (.int (4 : Int32)), .val (.int v3), .unset, .unset, .unset, .unset, .unset, .unset, .unset, .unset] [(.int (13 : Int32)), (.ref b8), (.ref b4)])) rfl rfl (hb hby at_265) _ k) ?_
    show own_Go p e below s _ _ _ (T45.setTop (mkF m 266 #[.val (.int p0), .val (.int p1), .val (.int p2), .val (.int p3), .val (.int p4), .val (.int p5), .val (.int v1), .val (.int v2), .val (.int v3), .val (.ref b4), .val (.ref b8), .val (.ref b27), .val (.int v46), .val (.int (4 : Int32)), .val (.int v3), .unset, .unset, .unset, .unset, .unset, .unset, .unset, .unset] [(.int (0 : Int32)), (.ref b4)]))
    obtain ⟨cl185, Ar185, q185, S185, M185, H185, G185⟩ := (id F183)
    have hin185 : ¬ ((0 : Int32) < 0 ∨ cl185.slots.size ≤ ((0 : Int32)).toNatClampNeg) := inb_of S185 ⟨by decide, by decide⟩
    have hat185 : cl185.slots[((0 : Int32)).toNatClampNeg]? = some (.int v1) := Has.at H185 hin185 rfl
    refine own_via (fun _ k => X45.iaload hx (j := (0 : Int32)) (v := (.int v1)) (by rw [e45]; exact Ar185.1) (State.isArrayOf_alike hZ.alike Ar185.2.1) Ar185.2.2 hin185 hat185 (g := (mkF m 266 #[.val (.int p0), .val (.int p1), .val (.int p2), .val (.int p3), .val (.int p4), .val (.int p5), .val (.int v1), .val (.int v2), .val (.int v3), .val (.ref b4), .val (.ref b8), .val (.ref b27), .val (.int v46), .val (.int (4 : Int32)), .val (.int v3), .unset, .unset, .unset, .unset, .unset, .unset, .unset, .unset] [(.int (0 : Int32)), (.ref b4)])) rfl rfl (hb hby at_266) _ k) ?_
    show own_Go p e below s _ _ _ (T45.setTop (mkF m 267 #[.val (.int p0), .val (.int p1), .val (.int p2), .val (.int p3), .val (.int p4), .val (.int p5), .val (.int v1), .val (.int v2), .val (.int v3), .val (.ref b4), .val (.ref b8), .val (.ref b27), .val (.int v46), .val (.int (4 : Int32)), .val (.int v3), .unset, .unset, .unset, .unset, .unset, .unset, .unset, .unset] [(.int v1)]))
    refine own_via (fun _ k => XS.istore X45.here hx rfl (hb hby at_267) rfl (l' := #[.val (.int p0), .val (.int p1), .val (.int p2), .val (.int p3), .val (.int p4), .val (.int p5), .val (.int v1), .val (.int v2), .val (.int v3), .val (.ref b4), .val (.ref b8), .val (.ref b27), .val (.int v46), .val (.int (4 : Int32)), .val (.int v3), .val (.int v1), .unset, .unset, .unset, .unset, .unset, .unset, .unset]) rfl k) ?_
    show own_Go p e below s _ _ _ (T45.setTop (mkF m 269 #[.val (.int p0), .val (.int p1), .val (.int p2), .val (.int p3), .val (.int p4), .val (.int p5), .val (.int v1), .val (.int v2), .val (.int v3), .val (.ref b4), .val (.ref b8), .val (.ref b27), .val (.int v46), .val (.int (4 : Int32)), .val (.int v3), .val (.int v1), .unset, .unset, .unset, .unset, .unset, .unset, .unset] []))
    refine own_via (fun _ k => XS.aload X45.here hx rfl (hb hby at_269) rfl rfl k) ?_
    show own_Go p e below s _ _ _ (T45.setTop (mkF m 271 #[.val (.int p0), .val (.int p1), .val (.int p2), .val (.int p3), .val (.int p4), .val (.int p5), .val (.int v1), .val (.int v2), .val (.int v3), .val (.ref b4), .val (.ref b8), .val (.ref b27), .val (.int v46), .val (.int (4 : Int32)), .val (.int v3), .val (.int v1), .unset, .unset, .unset, .unset, .unset, .unset, .unset] [(.ref b4)]))
    refine own_via (fun _ k => XS.aload X45.here hx rfl (hb hby at_271) rfl rfl k) ?_
    show own_Go p e below s _ _ _ (T45.setTop (mkF m 273 #[.val (.int p0), .val (.int p1), .val (.int p2), .val (.int p3), .val (.int p4), .val (.int p5), .val (.int v1), .val (.int v2), .val (.int v3), .val (.ref b4), .val (.ref b8), .val (.ref b27), .val (.int v46), .val (.int (4 : Int32)), .val (.int v3), .val (.int v1), .unset, .unset, .unset, .unset, .unset, .unset, .unset] [(.ref b8), (.ref b4)]))
    refine own_via (fun _ k => XS.iconst X45.here hx rfl (hb hby at_273) k) ?_
    show own_Go p e below s _ _ _ (T45.setTop (mkF m 274 #[.val (.int p0), .val (.int p1), .val (.int p2), .val (.int p3), .val (.int p4), .val (.int p5), .val (.int v1), .val (.int v2), .val (.int v3), .val (.ref b4), .val (.ref b8), .val (.ref b27), .val (.int v46), .val (.int (4 : Int32)), .val (.int v3), .val (.int v1), .unset, .unset, .unset, .unset, .unset, .unset, .unset] [(.int (3 : Int32)), (.ref b8), (.ref b4)]))
    refine own_via (fun _ k => XS.iload X45.here hx rfl (hb hby at_274) rfl k) ?_
    show own_Go p e below s _ _ _ (T45.setTop (mkF m 276 #[.val (.int p0), .val (.int p1), .val (.int p2), .val (.int p3), .val (.int p4), .val (.int p5), .val (.int v1), .val (.int v2), .val (.int v3), .val (.ref b4), .val (.ref b8), .val (.ref b27), .val (.int v46), .val (.int (4 : Int32)), .val (.int v3), .val (.int v1), .unset, .unset, .unset, .unset, .unset, .unset, .unset] [(.int (4 : Int32)), (.int (3 : Int32)), (.ref b8), (.ref b4)]))
    refine own_via (fun _ k => XS.imul X45.here hx rfl (hb hby at_276) rfl k) ?_
    show own_Go p e below s _ _ _ (T45.setTop (mkF m 277 #[.val (.int p0), .val (.int p1), .val (.int p2), .val (.int p3), .val (.int p4), .val (.int p5), .val (.int v1), .val (.int v2), .val (.int v3), .val (.ref b4), .val (.ref b8), .val (.ref b27), .val (.int v46), .val (.int (4 : Int32)), .val (.int v3), .val (.int v1), .unset, .unset, .unset, .unset, .unset, .unset, .unset] [(.int (12 : Int32)), (.ref b8), (.ref b4)]))
    refine own_via (fun _ k => XS.iconst X45.here hx rfl (hb hby at_277) k) ?_
    show own_Go p e below s _ _ _ (T45.setTop (mkF m 278 #[.val (.int p0), .val (.int p1), .val (.int p2), .val (.int p3), .val (.int p4), .val (.int p5), .val (.int v1), .val (.int v2), .val (.int v3), .val (.ref b4), .val (.ref b8), .val (.ref b27), .val (.int v46), .val (.int (4 : Int32)), .val (.int v3), .val (.int v1), .unset, .unset, .unset, .unset, .unset, .unset, .unset] [(.int (2 : Int32)), (.int (12 : Int32)), (.ref b8), (.ref b4)]))
    refine own_via (fun _ k => XS.iadd X45.here hx rfl (hb hby at_278) rfl k) ?_
    show own_Go p e below s _ _ _ (T45.setTop (mkF m 279 #[.val (.int p0), .val (.int p1), .val (.int p2), .val (.int p3), .val (.int p4), .val (.int p5), .val (.int v1), .val (.int v2), .val (.int v3), .val (.ref b4), .val (.ref b8), .val (.ref b27), .val (.int v46), .val (.int (4 : Int32)), .val (.int v3), .val (.int v1), .unset, .unset, .unset, .unset, .unset, .unset, .unset] [(.int (14 : Int32)), (.ref b8), (.ref b4)]))
    obtain ⟨cl186, Ar186, q186, S186, M186, H186, G186⟩ := (id F181)
    have hin186 : ¬ ((14 : Int32) < 0 ∨ cl186.slots.size ≤ ((14 : Int32)).toNatClampNeg) := inb_of S186 ⟨by decide, by decide⟩
    have hat186 : cl186.slots[((14 : Int32)).toNatClampNeg]? = some (.int (1 : Int32)) := Has.at H186 hin186 rfl
    refine own_via (fun _ k => X45.iaload hx (j := (14 : Int32)) (v := (.int (1 : Int32))) (by rw [e45]; exact Ar186.1) (State.isArrayOf_alike hZ.alike Ar186.2.1) Ar186.2.2 hin186 hat186 (g := (mkF m 279 #[.val (.int p0), .val (.int p1), .val (.int p2), .val (.int p3), .val (.int p4), .val (.int p5), .val (.int v1), .val (.int v2), .val (.int v3), .val (.ref b4), .val (.ref b8), .val (.ref b27), .val (.int v46), .val (.int (4 : Int32)), .val (.int v3), .val (.int v1), .unset, .unset, .unset, .unset, .unset, .unset, .unset] [(.int (14 : Int32)), (.ref b8), (.ref b4)])) rfl rfl (hb hby at_279) _ k) ?_
    show own_Go p e below s _ _ _ (T45.setTop (mkF m 280 #[.val (.int p0), .val (.int p1), .val (.int p2), .val (.int p3), .val (.int p4), .val (.int p5), .val (.int v1), .val (.int v2), .val (.int v3), .val (.ref b4), .val (.ref b8), .val (.ref b27), .val (.int v46), .val (.int (4 : Int32)), .val (.int v3), .val (.int v1), .unset, .unset, .unset, .unset, .unset, .unset, .unset] [(.int (1 : Int32)), (.ref b4)]))
    obtain ⟨cl187, Ar187, q187, S187, M187, H187, G187⟩ := (id F183)
    have hin187 : ¬ ((1 : Int32) < 0 ∨ cl187.slots.size ≤ ((1 : Int32)).toNatClampNeg) := inb_of S187 ⟨by decide, by decide⟩
    have hat187 : cl187.slots[((1 : Int32)).toNatClampNeg]? = some (.int v2) := Has.at H187 hin187 rfl
    refine own_via (fun _ k => X45.iaload hx (j := (1 : Int32)) (v := (.int v2)) (by rw [e45]; exact Ar187.1) (State.isArrayOf_alike hZ.alike Ar187.2.1) Ar187.2.2 hin187 hat187 (g := (mkF m 280 #[.val (.int p0), .val (.int p1), .val (.int p2), .val (.int p3), .val (.int p4), .val (.int p5), .val (.int v1), .val (.int v2), .val (.int v3), .val (.ref b4), .val (.ref b8), .val (.ref b27), .val (.int v46), .val (.int (4 : Int32)), .val (.int v3), .val (.int v1), .unset, .unset, .unset, .unset, .unset, .unset, .unset] [(.int (1 : Int32)), (.ref b4)])) rfl rfl (hb hby at_280) _ k) ?_
    show own_Go p e below s _ _ _ (T45.setTop (mkF m 281 #[.val (.int p0), .val (.int p1), .val (.int p2), .val (.int p3), .val (.int p4), .val (.int p5), .val (.int v1), .val (.int v2), .val (.int v3), .val (.ref b4), .val (.ref b8), .val (.ref b27), .val (.int v46), .val (.int (4 : Int32)), .val (.int v3), .val (.int v1), .unset, .unset, .unset, .unset, .unset, .unset, .unset] [(.int v2)]))
    refine own_via (fun _ k => XS.istore X45.here hx rfl (hb hby at_281) rfl (l' := #[.val (.int p0), .val (.int p1), .val (.int p2), .val (.int p3), .val (.int p4), .val (.int p5), .val (.int v1), .val (.int v2), .val (.int v3), .val (.ref b4), .val (.ref b8), .val (.ref b27), .val (.int v46), .val (.int (4 : Int32)), .val (.int v3), .val (.int v1), .val (.int v2), .unset, .unset, .unset, .unset, .unset, .unset]) rfl k) ?_
    show own_Go p e below s _ _ _ (T45.setTop (mkF m 283 #[.val (.int p0), .val (.int p1), .val (.int p2), .val (.int p3), .val (.int p4), .val (.int p5), .val (.int v1), .val (.int v2), .val (.int v3), .val (.ref b4), .val (.ref b8), .val (.ref b27), .val (.int v46), .val (.int (4 : Int32)), .val (.int v3), .val (.int v1), .val (.int v2), .unset, .unset, .unset, .unset, .unset, .unset] []))
    have F188 := (((((((((((((((((((((((((((((((((((((((((AE4.wr W5).wr W6).wr W7).ext E8).wr W9).wr W10).wr W11).wr W12).wr W13).wr W14).wr W15).wr W16).wr W17).wr W18).wr W19).wr W20).wr W21).wr W22).wr W23).wr W24).wr W25).wr W26).ext E27).wr W28).wr W29).wr W30).wr W31).wr W32).wr W33).wr W34).wr W35).wr W36).wr W37).wr W38).wr W39).wr W40).wr W41).wr W42).wr W43).wr W44).wr W45)
    exact jq (4 : Int32) 2 0 1 (1 : Int32) (2 : Int32) (0 : Int32) _ _ _ X45 e45 N45 Z45 F183 F188 VLB ((by unfold own_perm; simp)) (⟨by decide, by decide⟩) (⟨by decide, by decide⟩) (⟨by decide, by decide⟩) (rfl) (rfl) (rfl)
  · show own_Go p e below s _ _ _ (T45.setTop (mkF m 243 #[.val (.int p0), .val (.int p1), .val (.int p2), .val (.int p3), .val (.int p4), .val (.int p5), .val (.int v1), .val (.int v2), .val (.int v3), .val (.ref b4), .val (.ref b8), .val (.ref b27), .val (.int v46), .val (.int (5 : Int32)), .unset, .unset, .unset, .unset, .unset, .unset, .unset, .unset, .unset] []))
    refine own_via (fun _ k => XS.aload X45.here hx rfl (hb hby at_243) rfl rfl k) ?_
    show own_Go p e below s _ _ _ (T45.setTop (mkF m 245 #[.val (.int p0), .val (.int p1), .val (.int p2), .val (.int p3), .val (.int p4), .val (.int p5), .val (.int v1), .val (.int v2), .val (.int v3), .val (.ref b4), .val (.ref b8), .val (.ref b27), .val (.int v46), .val (.int (5 : Int32)), .unset, .unset, .unset, .unset, .unset, .unset, .unset, .unset, .unset] [(.ref b4)]))
    refine own_via (fun _ k => XS.aload X45.here hx rfl (hb hby at_245) rfl rfl k) ?_
    show own_Go p e below s _ _ _ (T45.setTop (mkF m 247 #[.val (.int p0), .val (.int p1), .val (.int p2), .val (.int p3), .val (.int p4), .val (.int p5), .val (.int v1), .val (.int v2), .val (.int v3), .val (.ref b4), .val (.ref b8), .val (.ref b27), .val (.int v46), .val (.int (5 : Int32)), .unset, .unset, .unset, .unset, .unset, .unset, .unset, .unset, .unset] [(.ref b8), (.ref b4)]))
    refine own_via (fun _ k => XS.iconst X45.here hx rfl (hb hby at_247) k) ?_
    show own_Go p e below s _ _ _ (T45.setTop (mkF m 248 #[.val (.int p0), .val (.int p1), .val (.int p2), .val (.int p3), .val (.int p4), .val (.int p5), .val (.int v1), .val (.int v2), .val (.int v3), .val (.ref b4), .val (.ref b8), .val (.ref b27), .val (.int v46), .val (.int (5 : Int32)), .unset, .unset, .unset, .unset, .unset, .unset, .unset, .unset, .unset] [(.int (3 : Int32)), (.ref b8), (.ref b4)]))
    refine own_via (fun _ k => XS.iload X45.here hx rfl (hb hby at_248) rfl k) ?_
    show own_Go p e below s _ _ _ (T45.setTop (mkF m 250 #[.val (.int p0), .val (.int p1), .val (.int p2), .val (.int p3), .val (.int p4), .val (.int p5), .val (.int v1), .val (.int v2), .val (.int v3), .val (.ref b4), .val (.ref b8), .val (.ref b27), .val (.int v46), .val (.int (5 : Int32)), .unset, .unset, .unset, .unset, .unset, .unset, .unset, .unset, .unset] [(.int (5 : Int32)), (.int (3 : Int32)), (.ref b8), (.ref b4)]))
    refine own_via (fun _ k => XS.imul X45.here hx rfl (hb hby at_250) rfl k) ?_
    show own_Go p e below s _ _ _ (T45.setTop (mkF m 251 #[.val (.int p0), .val (.int p1), .val (.int p2), .val (.int p3), .val (.int p4), .val (.int p5), .val (.int v1), .val (.int v2), .val (.int v3), .val (.ref b4), .val (.ref b8), .val (.ref b27), .val (.int v46), .val (.int (5 : Int32)), .unset, .unset, .unset, .unset, .unset, .unset, .unset, .unset, .unset] [(.int (15 : Int32)), (.ref b8), (.ref b4)]))
    have F190 := (((((((((((((((((((VLA.ext E27).other W28 ne_b8_b27).other W29 ne_b8_b27).other W30 ne_b8_b27).other W31 ne_b8_b27).other W32 ne_b8_b27).other W33 ne_b8_b27).other W34 ne_b8_b27).other W35 ne_b8_b27).other W36 ne_b8_b27).other W37 ne_b8_b27).other W38 ne_b8_b27).other W39 ne_b8_b27).other W40 ne_b8_b27).other W41 ne_b8_b27).other W42 ne_b8_b27).other W43 ne_b8_b27).other W44 ne_b8_b27).other W45 ne_b8_b27)
    obtain ⟨cl189, Ar189, q189, S189, M189, H189, G189⟩ := (id F190)
    have hin189 : ¬ ((15 : Int32) < 0 ∨ cl189.slots.size ≤ ((15 : Int32)).toNatClampNeg) := inb_of S189 ⟨by decide, by decide⟩
    have hat189 : cl189.slots[((15 : Int32)).toNatClampNeg]? = some (.int (2 : Int32)) := Has.at H189 hin189 rfl
    refine own_via (fun _ k => X45.iaload hx (j := (15 : Int32)) (v := (.int (2 : Int32))) (by rw [e45]; exact Ar189.1) (State.isArrayOf_alike hZ.alike Ar189.2.1) Ar189.2.2 hin189 hat189 (g := (mkF m 251 #[.val (.int p0), .val (.int p1), .val (.int p2), .val (.int p3), .val (.int p4), .val (.int p5), .val (.int v1), .val (.int v2), .val (.int v3), .val (.ref b4), .val (.ref b8), .val (.ref b27), .val (.int v46), .val (.int (5 : Int32)), .unset, .unset, .unset, .unset, .unset, .unset, .unset, .unset, .unset] [(.int (15 : Int32)), (.ref b8), (.ref b4)])) rfl rfl (hb hby at_251) _ k) ?_
    show own_Go p e below s _ _ _ (T45.setTop (mkF m 252 #[.val (.int p0), .val (.int p1), .val (.int p2), .val (.int p3), .val (.int p4), .val (.int p5), .val (.int v1), .val (.int v2), .val (.int v3), .val (.ref b4), .val (.ref b8), .val (.ref b27), .val (.int v46), .val (.int (5 : Int32)), .unset, .unset, .unset, .unset, .unset, .unset, .unset, .unset, .unset] [(.int (2 : Int32)), (.ref b4)]))
    have F192 := ((((((((((((((((((((((((((((((((((((((V7.ext E8).other W9 ne_b4_b8).other W10 ne_b4_b8).other W11 ne_b4_b8).other W12 ne_b4_b8).other W13 ne_b4_b8).other W14 ne_b4_b8).other W15 ne_b4_b8).other W16 ne_b4_b8).other W17 ne_b4_b8).other W18 ne_b4_b8).other W19 ne_b4_b8).other W20 ne_b4_b8).other W21 ne_b4_b8).other W22 ne_b4_b8).other W23 ne_b4_b8).other W24 ne_b4_b8).other W25 ne_b4_b8).other W26 ne_b4_b8).ext E27).other W28 ne_b4_b27).other W29 ne_b4_b27).other W30 ne_b4_b27).other W31 ne_b4_b27).other W32 ne_b4_b27).other W33 ne_b4_b27).other W34 ne_b4_b27).other W35 ne_b4_b27).other W36 ne_b4_b27).other W37 ne_b4_b27).other W38 ne_b4_b27).other W39 ne_b4_b27).other W40 ne_b4_b27).other W41 ne_b4_b27).other W42 ne_b4_b27).other W43 ne_b4_b27).other W44 ne_b4_b27).other W45 ne_b4_b27)
    obtain ⟨cl191, Ar191, q191, S191, M191, H191, G191⟩ := (id F192)
    have hin191 : ¬ ((2 : Int32) < 0 ∨ cl191.slots.size ≤ ((2 : Int32)).toNatClampNeg) := inb_of S191 ⟨by decide, by decide⟩
    have hat191 : cl191.slots[((2 : Int32)).toNatClampNeg]? = some (.int v3) := Has.at H191 hin191 rfl
    refine own_via (fun _ k => X45.iaload hx (j := (2 : Int32)) (v := (.int v3)) (by rw [e45]; exact Ar191.1) (State.isArrayOf_alike hZ.alike Ar191.2.1) Ar191.2.2 hin191 hat191 (g := (mkF m 252 #[.val (.int p0), .val (.int p1), .val (.int p2), .val (.int p3), .val (.int p4), .val (.int p5), .val (.int v1), .val (.int v2), .val (.int v3), .val (.ref b4), .val (.ref b8), .val (.ref b27), .val (.int v46), .val (.int (5 : Int32)), .unset, .unset, .unset, .unset, .unset, .unset, .unset, .unset, .unset] [(.int (2 : Int32)), (.ref b4)])) rfl rfl (hb hby at_252) _ k) ?_
    show own_Go p e below s _ _ _ (T45.setTop (mkF m 253 #[.val (.int p0), .val (.int p1), .val (.int p2), .val (.int p3), .val (.int p4), .val (.int p5), .val (.int v1), .val (.int v2), .val (.int v3), .val (.ref b4), .val (.ref b8), .val (.ref b27), .val (.int v46), .val (.int (5 : Int32)), .unset, .unset, .unset, .unset, .unset, .unset, .unset, .unset, .unset] [(.int v3)]))
    refine own_via (fun _ k => XS.istore X45.here hx rfl (hb hby at_253) rfl (l' := #[.val (.int p0), .val (.int p1), .val (.int p2), .val (.int p3), .val (.int p4), .val (.int p5), .val (.int v1), .val (.int v2), .val (.int v3), .val (.ref b4), .val (.ref b8), .val (.ref b27), .val (.int v46), .val (.int (5 : Int32)), .val (.int v3), .unset, .unset, .unset, .unset, .unset, .unset, .unset, .unset]) rfl k) ?_
    show own_Go p e below s _ _ _ (T45.setTop (mkF m 255 #[.val (.int p0), .val (.int p1), .val (.int p2), .val (.int p3), .val (.int p4), .val (.int p5), .val (.int v1), .val (.int v2), .val (.int v3), .val (.ref b4), .val (.ref b8), .val (.ref b27), .val (.int v46), .val (.int (5 : Int32)), .val (.int v3), .unset, .unset, .unset, .unset, .unset, .unset, .unset, .unset] []))
    refine own_via (fun _ k => XS.aload X45.here hx rfl (hb hby at_255) rfl rfl k) ?_
    show own_Go p e below s _ _ _ (T45.setTop (mkF m 257 #[.val (.int p0), .val (.int p1), .val (.int p2), .val (.int p3), .val (.int p4), .val (.int p5), .val (.int v1), .val (.int v2), .val (.int v3), .val (.ref b4), .val (.ref b8), .val (.ref b27), .val (.int v46), .val (.int (5 : Int32)), .val (.int v3), .unset, .unset, .unset, .unset, .unset, .unset, .unset, .unset] [(.ref b4)]))
    refine own_via (fun _ k => XS.aload X45.here hx rfl (hb hby at_257) rfl rfl k) ?_
    show own_Go p e below s _ _ _ (T45.setTop (mkF m 259 #[.val (.int p0), .val (.int p1), .val (.int p2), .val (.int p3), .val (.int p4), .val (.int p5), .val (.int v1), .val (.int v2), .val (.int v3), .val (.ref b4), .val (.ref b8), .val (.ref b27), .val (.int v46), .val (.int (5 : Int32)), .val (.int v3), .unset, .unset, .unset, .unset, .unset, .unset, .unset, .unset] [(.ref b8), (.ref b4)]))
    refine own_via (fun _ k => XS.iconst X45.here hx rfl (hb hby at_259) k) ?_
    show own_Go p e below s _ _ _ (T45.setTop (mkF m 260 #[.val (.int p0), .val (.int p1), .val (.int p2), .val (.int p3), .val (.int p4), .val (.int p5), .val (.int v1), .val (.int v2), .val (.int v3), .val (.ref b4), .val (.ref b8), .val (.ref b27), .val (.int v46), .val (.int (5 : Int32)), .val (.int v3), .unset, .unset, .unset, .unset, .unset, .unset, .unset, .unset] [(.int (3 : Int32)), (.ref b8), (.ref b4)]))
    refine own_via (fun _ k => XS.iload X45.here hx rfl (hb hby at_260) rfl k) ?_
    show own_Go p e below s _ _ _ (T45.setTop (mkF m 262 #[.val (.int p0), .val (.int p1), .val (.int p2), .val (.int p3), .val (.int p4), .val (.int p5), .val (.int v1), .val (.int v2), .val (.int v3), .val (.ref b4), .val (.ref b8), .val (.ref b27), .val (.int v46), .val (.int (5 : Int32)), .val (.int v3), .unset, .unset, .unset, .unset, .unset, .unset, .unset, .unset] [(.int (5 : Int32)), (.int (3 : Int32)), (.ref b8), (.ref b4)]))
    refine own_via (fun _ k => XS.imul X45.here hx rfl (hb hby at_262) rfl k) ?_
    show own_Go p e below s _ _ _ (T45.setTop (mkF m 263 #[.val (.int p0), .val (.int p1), .val (.int p2), .val (.int p3), .val (.int p4), .val (.int p5), .val (.int v1), .val (.int v2), .val (.int v3), .val (.ref b4), .val (.ref b8), .val (.ref b27), .val (.int v46), .val (.int (5 : Int32)), .val (.int v3), .unset, .unset, .unset, .unset, .unset, .unset, .unset, .unset] [(.int (15 : Int32)), (.ref b8), (.ref b4)]))
    refine own_via (fun _ k => XS.iconst X45.here hx rfl (hb hby at_263) k) ?_
    show own_Go p e below s _ _ _ (T45.setTop (mkF m 264 #[.val (.int p0), .val (.int p1), .val (.int p2), .val (.int p3), .val (.int p4), .val (.int p5), .val (.int v1), .val (.int v2), .val (.int v3), .val (.ref b4), .val (.ref b8), .val (.ref b27), .val (.int v46), .val (.int (5 : Int32)), .val (.int v3), .unset, .unset, .unset, .unset, .unset, .unset, .unset, .unset] [(.int (1 : Int32)), (.int (15 : Int32)), (.ref b8), (.ref b4)]))
    refine own_via (fun _ k => XS.iadd X45.here hx rfl (hb hby at_264) rfl k) ?_
    show own_Go p e below s _ _ _ (T45.setTop (mkF m 265 #[.val (.int p0), .val (.int p1), .val (.int p2), .val (.int p3), .val (.int p4), .val (.int p5), .val (.int v1), .val (.int v2), .val (.int v3), .val (.ref b4), .val (.ref b8), .val (.ref b27), .val (.int v46), .val (.int (5 : Int32)), .val (.int v3), .unset, .unset, .unset, .unset, .unset, .unset, .unset, .unset] [(.int (16 : Int32)), (.ref b8), (.ref b4)]))
    obtain ⟨cl193, Ar193, q193, S193, M193, H193, G193⟩ := (id F190)
    have hin193 : ¬ ((16 : Int32) < 0 ∨ cl193.slots.size ≤ ((16 : Int32)).toNatClampNeg) := inb_of S193 ⟨by decide, by decide⟩
    have hat193 : cl193.slots[((16 : Int32)).toNatClampNeg]? = some (.int (1 : Int32)) := Has.at H193 hin193 rfl
    refine own_via (fun _ k => X45.iaload hx (j := (16 : Int32)) (v := (.int (1 : Int32))) (by rw [e45]; exact Ar193.1) (State.isArrayOf_alike hZ.alike Ar193.2.1) Ar193.2.2 hin193 hat193 (g := (mkF m 265 #[.val (.int p0), .val (.int p1), .val (.int p2), .val (.int p3), .val (.int p4), .val (.int p5), .val (.int v1), .val (.int v2), .val (.int v3), .val (.ref b4), .val (.ref b8), .val (.ref b27), .val (.int v46), .val (.int (5 : Int32)), .val (.int v3), .unset, .unset, .unset, .unset, .unset, .unset, .unset, .unset] [(.int (16 : Int32)), (.ref b8), (.ref b4)])) rfl rfl (hb hby at_265) _ k) ?_
    show own_Go p e below s _ _ _ (T45.setTop (mkF m 266 #[.val (.int p0), .val (.int p1), .val (.int p2), .val (.int p3), .val (.int p4), .val (.int p5), .val (.int v1), .val (.int v2), .val (.int v3), .val (.ref b4), .val (.ref b8), .val (.ref b27), .val (.int v46), .val (.int (5 : Int32)), .val (.int v3), .unset, .unset, .unset, .unset, .unset, .unset, .unset, .unset] [(.int (1 : Int32)), (.ref b4)]))
    obtain ⟨cl194, Ar194, q194, S194, M194, H194, G194⟩ := (id F192)
    have hin194 : ¬ ((1 : Int32) < 0 ∨ cl194.slots.size ≤ ((1 : Int32)).toNatClampNeg) := inb_of S194 ⟨by decide, by decide⟩
    have hat194 : cl194.slots[((1 : Int32)).toNatClampNeg]? = some (.int v2) := Has.at H194 hin194 rfl
    refine own_via (fun _ k => X45.iaload hx (j := (1 : Int32)) (v := (.int v2)) (by rw [e45]; exact Ar194.1) (State.isArrayOf_alike hZ.alike Ar194.2.1) Ar194.2.2 hin194 hat194 (g := (mkF m 266 #[.val (.int p0), .val (.int p1), .val (.int p2), .val (.int p3), .val (.int p4), .val (.int p5), .val (.int v1), .val (.int v2), .val (.int v3), .val (.ref b4), .val (.ref b8), .val (.ref b27), .val (.int v46), .val (.int (5 : Int32)), .val (.int v3), .unset, .unset, .unset, .unset, .unset, .unset, .unset, .unset] [(.int (1 : Int32)), (.ref b4)])) rfl rfl (hb hby at_266) _ k) ?_
    show own_Go p e below s _ _ _ (T45.setTop (mkF m 267 #[.val (.int p0), .val (.int p1), .val (.int p2), .val (.int p3), .val (.int p4), .val (.int p5), .val (.int v1), .val (.int v2), .val (.int v3), .val (.ref b4), .val (.ref b8), .val (.ref b27), .val (.int v46), .val (.int (5 : Int32)), .val (.int v3), .unset, .unset, .unset, .unset, .unset, .unset, .unset, .unset] [(.int v2)]))
    refine own_via (fun _ k => XS.istore X45.here hx rfl (hb hby at_267) rfl (l' := #[.val (.int p0), .val (.int p1), .val (.int p2), .val (.int p3), .val (.int p4), .val (.int p5), .val (.int v1), .val (.int v2), .val (.int v3), .val (.ref b4), .val (.ref b8), .val (.ref b27), .val (.int v46), .val (.int (5 : Int32)), .val (.int v3), .val (.int v2), .unset, .unset, .unset, .unset, .unset, .unset, .unset]) rfl k) ?_
    show own_Go p e below s _ _ _ (T45.setTop (mkF m 269 #[.val (.int p0), .val (.int p1), .val (.int p2), .val (.int p3), .val (.int p4), .val (.int p5), .val (.int v1), .val (.int v2), .val (.int v3), .val (.ref b4), .val (.ref b8), .val (.ref b27), .val (.int v46), .val (.int (5 : Int32)), .val (.int v3), .val (.int v2), .unset, .unset, .unset, .unset, .unset, .unset, .unset] []))
    refine own_via (fun _ k => XS.aload X45.here hx rfl (hb hby at_269) rfl rfl k) ?_
    show own_Go p e below s _ _ _ (T45.setTop (mkF m 271 #[.val (.int p0), .val (.int p1), .val (.int p2), .val (.int p3), .val (.int p4), .val (.int p5), .val (.int v1), .val (.int v2), .val (.int v3), .val (.ref b4), .val (.ref b8), .val (.ref b27), .val (.int v46), .val (.int (5 : Int32)), .val (.int v3), .val (.int v2), .unset, .unset, .unset, .unset, .unset, .unset, .unset] [(.ref b4)]))
    refine own_via (fun _ k => XS.aload X45.here hx rfl (hb hby at_271) rfl rfl k) ?_
    show own_Go p e below s _ _ _ (T45.setTop (mkF m 273 #[.val (.int p0), .val (.int p1), .val (.int p2), .val (.int p3), .val (.int p4), .val (.int p5), .val (.int v1), .val (.int v2), .val (.int v3), .val (.ref b4), .val (.ref b8), .val (.ref b27), .val (.int v46), .val (.int (5 : Int32)), .val (.int v3), .val (.int v2), .unset, .unset, .unset, .unset, .unset, .unset, .unset] [(.ref b8), (.ref b4)]))
    refine own_via (fun _ k => XS.iconst X45.here hx rfl (hb hby at_273) k) ?_
    show own_Go p e below s _ _ _ (T45.setTop (mkF m 274 #[.val (.int p0), .val (.int p1), .val (.int p2), .val (.int p3), .val (.int p4), .val (.int p5), .val (.int v1), .val (.int v2), .val (.int v3), .val (.ref b4), .val (.ref b8), .val (.ref b27), .val (.int v46), .val (.int (5 : Int32)), .val (.int v3), .val (.int v2), .unset, .unset, .unset, .unset, .unset, .unset, .unset] [(.int (3 : Int32)), (.ref b8), (.ref b4)]))
    refine own_via (fun _ k => XS.iload X45.here hx rfl (hb hby at_274) rfl k) ?_
    show own_Go p e below s _ _ _ (T45.setTop (mkF m 276 #[.val (.int p0), .val (.int p1), .val (.int p2), .val (.int p3), .val (.int p4), .val (.int p5), .val (.int v1), .val (.int v2), .val (.int v3), .val (.ref b4), .val (.ref b8), .val (.ref b27), .val (.int v46), .val (.int (5 : Int32)), .val (.int v3), .val (.int v2), .unset, .unset, .unset, .unset, .unset, .unset, .unset] [(.int (5 : Int32)), (.int (3 : Int32)), (.ref b8), (.ref b4)]))
    refine own_via (fun _ k => XS.imul X45.here hx rfl (hb hby at_276) rfl k) ?_
    show own_Go p e below s _ _ _ (T45.setTop (mkF m 277 #[.val (.int p0), .val (.int p1), .val (.int p2), .val (.int p3), .val (.int p4), .val (.int p5), .val (.int v1), .val (.int v2), .val (.int v3), .val (.ref b4), .val (.ref b8), .val (.ref b27), .val (.int v46), .val (.int (5 : Int32)), .val (.int v3), .val (.int v2), .unset, .unset, .unset, .unset, .unset, .unset, .unset] [(.int (15 : Int32)), (.ref b8), (.ref b4)]))
    refine own_via (fun _ k => XS.iconst X45.here hx rfl (hb hby at_277) k) ?_
    show own_Go p e below s _ _ _ (T45.setTop (mkF m 278 #[.val (.int p0), .val (.int p1), .val (.int p2), .val (.int p3), .val (.int p4), .val (.int p5), .val (.int v1), .val (.int v2), .val (.int v3), .val (.ref b4), .val (.ref b8), .val (.ref b27), .val (.int v46), .val (.int (5 : Int32)), .val (.int v3), .val (.int v2), .unset, .unset, .unset, .unset, .unset, .unset, .unset] [(.int (2 : Int32)), (.int (15 : Int32)), (.ref b8), (.ref b4)]))
    refine own_via (fun _ k => XS.iadd X45.here hx rfl (hb hby at_278) rfl k) ?_
    show own_Go p e below s _ _ _ (T45.setTop (mkF m 279 #[.val (.int p0), .val (.int p1), .val (.int p2), .val (.int p3), .val (.int p4), .val (.int p5), .val (.int v1), .val (.int v2), .val (.int v3), .val (.ref b4), .val (.ref b8), .val (.ref b27), .val (.int v46), .val (.int (5 : Int32)), .val (.int v3), .val (.int v2), .unset, .unset, .unset, .unset, .unset, .unset, .unset] [(.int (17 : Int32)), (.ref b8), (.ref b4)]))
    obtain ⟨cl195, Ar195, q195, S195, M195, H195, G195⟩ := (id F190)
    have hin195 : ¬ ((17 : Int32) < 0 ∨ cl195.slots.size ≤ ((17 : Int32)).toNatClampNeg) := inb_of S195 ⟨by decide, by decide⟩
    have hat195 : cl195.slots[((17 : Int32)).toNatClampNeg]? = some (.int (0 : Int32)) := Has.at H195 hin195 rfl
    refine own_via (fun _ k => X45.iaload hx (j := (17 : Int32)) (v := (.int (0 : Int32))) (by rw [e45]; exact Ar195.1) (State.isArrayOf_alike hZ.alike Ar195.2.1) Ar195.2.2 hin195 hat195 (g := (mkF m 279 #[.val (.int p0), .val (.int p1), .val (.int p2), .val (.int p3), .val (.int p4), .val (.int p5), .val (.int v1), .val (.int v2), .val (.int v3), .val (.ref b4), .val (.ref b8), .val (.ref b27), .val (.int v46), .val (.int (5 : Int32)), .val (.int v3), .val (.int v2), .unset, .unset, .unset, .unset, .unset, .unset, .unset] [(.int (17 : Int32)), (.ref b8), (.ref b4)])) rfl rfl (hb hby at_279) _ k) ?_
    show own_Go p e below s _ _ _ (T45.setTop (mkF m 280 #[.val (.int p0), .val (.int p1), .val (.int p2), .val (.int p3), .val (.int p4), .val (.int p5), .val (.int v1), .val (.int v2), .val (.int v3), .val (.ref b4), .val (.ref b8), .val (.ref b27), .val (.int v46), .val (.int (5 : Int32)), .val (.int v3), .val (.int v2), .unset, .unset, .unset, .unset, .unset, .unset, .unset] [(.int (0 : Int32)), (.ref b4)]))
    obtain ⟨cl196, Ar196, q196, S196, M196, H196, G196⟩ := (id F192)
    have hin196 : ¬ ((0 : Int32) < 0 ∨ cl196.slots.size ≤ ((0 : Int32)).toNatClampNeg) := inb_of S196 ⟨by decide, by decide⟩
    have hat196 : cl196.slots[((0 : Int32)).toNatClampNeg]? = some (.int v1) := Has.at H196 hin196 rfl
    refine own_via (fun _ k => X45.iaload hx (j := (0 : Int32)) (v := (.int v1)) (by rw [e45]; exact Ar196.1) (State.isArrayOf_alike hZ.alike Ar196.2.1) Ar196.2.2 hin196 hat196 (g := (mkF m 280 #[.val (.int p0), .val (.int p1), .val (.int p2), .val (.int p3), .val (.int p4), .val (.int p5), .val (.int v1), .val (.int v2), .val (.int v3), .val (.ref b4), .val (.ref b8), .val (.ref b27), .val (.int v46), .val (.int (5 : Int32)), .val (.int v3), .val (.int v2), .unset, .unset, .unset, .unset, .unset, .unset, .unset] [(.int (0 : Int32)), (.ref b4)])) rfl rfl (hb hby at_280) _ k) ?_
    show own_Go p e below s _ _ _ (T45.setTop (mkF m 281 #[.val (.int p0), .val (.int p1), .val (.int p2), .val (.int p3), .val (.int p4), .val (.int p5), .val (.int v1), .val (.int v2), .val (.int v3), .val (.ref b4), .val (.ref b8), .val (.ref b27), .val (.int v46), .val (.int (5 : Int32)), .val (.int v3), .val (.int v2), .unset, .unset, .unset, .unset, .unset, .unset, .unset] [(.int v1)]))
    refine own_via (fun _ k => XS.istore X45.here hx rfl (hb hby at_281) rfl (l' := #[.val (.int p0), .val (.int p1), .val (.int p2), .val (.int p3), .val (.int p4), .val (.int p5), .val (.int v1), .val (.int v2), .val (.int v3), .val (.ref b4), .val (.ref b8), .val (.ref b27), .val (.int v46), .val (.int (5 : Int32)), .val (.int v3), .val (.int v2), .val (.int v1), .unset, .unset, .unset, .unset, .unset, .unset]) rfl k) ?_
    show own_Go p e below s _ _ _ (T45.setTop (mkF m 283 #[.val (.int p0), .val (.int p1), .val (.int p2), .val (.int p3), .val (.int p4), .val (.int p5), .val (.int v1), .val (.int v2), .val (.int v3), .val (.ref b4), .val (.ref b8), .val (.ref b27), .val (.int v46), .val (.int (5 : Int32)), .val (.int v3), .val (.int v2), .val (.int v1), .unset, .unset, .unset, .unset, .unset, .unset] []))
    have F197 := (((((((((((((((((((((((((((((((((((((((((AE4.wr W5).wr W6).wr W7).ext E8).wr W9).wr W10).wr W11).wr W12).wr W13).wr W14).wr W15).wr W16).wr W17).wr W18).wr W19).wr W20).wr W21).wr W22).wr W23).wr W24).wr W25).wr W26).ext E27).wr W28).wr W29).wr W30).wr W31).wr W32).wr W33).wr W34).wr W35).wr W36).wr W37).wr W38).wr W39).wr W40).wr W41).wr W42).wr W43).wr W44).wr W45)
    exact jq (5 : Int32) 2 1 0 (2 : Int32) (1 : Int32) (0 : Int32) _ _ _ X45 e45 N45 Z45 F192 F197 VLB ((by unfold own_perm; simp)) (⟨by decide, by decide⟩) (⟨by decide, by decide⟩) (⟨by decide, by decide⟩) (rfl) (rfl) (rfl)
set_option maxRecDepth 65536 in
set_option maxHeartbeats 40000000 in
theorem comes_1 {Post : Tables → Env → Array Value → State → Outcome → State → Prop} (hpost : ∀ tb e args s v u, (limb_1_1.after args s (.returned v) u = true ∧ limb_1_2.after args s (.returned v) u = true ∧ True) → FrameEnd s (.returned v) u (Jvm.fieldLocs frame_1_writes args s ++ Jvm.arrayLocs frame_1_arrays args s ++ Jvm.staticLocs frame_1_statics s) 32 192 → Post tb e args s (.returned v) u) :
    ArmFor flags0 classFile x code maxLocals ret World_1 tables_1 room_1 Calls_1 rest_1 Pre_1 Post := by
  intro l hfl _ _ p e ha hc hk s m args below hf hA hF happ hP
  obtain ⟨hcalls, hrest, hpre⟩ := hP
  obtain ⟨-, -, -, hnamed, -, -, -, hat⟩ := (Spec.applies_iff hf).mp happ
  obtain ⟨hg, hn⟩ := and_e (Cond.before_iff.mp (show (Jvm.Cond.and given_1 narrow_1).before args s = true from hpre))
  obtain ⟨g1, g2⟩ := and_e hg
  obtain ⟨g3, g4⟩ := and_e g2
  obtain ⟨g5, g6⟩ := and_e g4
  obtain ⟨g7, g8⟩ := and_e g6
  obtain ⟨g9, g10⟩ := and_e g8
  obtain ⟨g11, g12⟩ := and_e g10
  obtain ⟨w0, w1, w2, w3, w4, w5, rfl⟩ : ∃ w0 w1 w2 w3 w4 w5 : Value, args = #[w0, w1, w2, w3, w4, w5] := by
    have hs : args.size = 6 := by simpa [Cond.value, given_1] using g1
    obtain ⟨L⟩ := args
    match L, hs with
    | [w0, w1, w2, w3, w4, w5], _ => exact ⟨w0, w1, w2, w3, w4, w5, rfl⟩
  have hw := fun d (hd : d ∈ tables_1) => atoms_spec (ws := Jvm.Cond.code x code maxLocals ret :: tables_1) hat d (List.mem_cons_of_mem _ hd)
  have hfit : Fit s := fun {y c} hc i hi => by
    obtain ⟨ha, rfl⟩ := Array.getElem?_eq_some_iff.mp hc
    have q := List.all_eq_true.mp ((Array.all_eq_true_iff_forall_mem.mp hF) _ (Array.getElem_mem ha)) i (List.mem_range.mpr hi)
    simpa [Array.getElem?_eq_getElem hi] using q
  obtain ⟨i0, ei0⟩ := is_v g3
  obtain rfl : w0 = (.int i0) := Option.some.inj ei0
  obtain ⟨i1, ei1⟩ := is_v g5
  obtain rfl : w1 = (.int i1) := Option.some.inj ei1
  obtain ⟨i2, ei2⟩ := is_v g7
  obtain rfl : w2 = (.int i2) := Option.some.inj ei2
  obtain ⟨i3, ei3⟩ := is_v g9
  obtain rfl : w3 = (.int i3) := Option.some.inj ei3
  obtain ⟨i4, ei4⟩ := is_v g11
  obtain rfl : w4 = (.int i4) := Option.some.inj ei4
  obtain ⟨i5, ei5⟩ := is_v g12
  obtain rfl : w5 = (.int i5) := Option.some.inj ei5
  obtain ⟨n, o, h1, h2, h3, _, L, rfl, ⟨rfl, N⟩, hq⟩ := rm0 l s _ hw tables_1 i0 i1 i2 i3 i4 i5 s.heap s.heap.size (Nat.le_refl _)  p e ha hc hk s m _ below hf ((Spec.applies_iff_loose hf).mp happ).1 ⟨rfl, State.Warmed39.refl s, rfl⟩ trivial
  refine ⟨n, _, h1, h2, h3, hpost _ _ _ _ _ _ ⟨Cond.after_iff.mpr rfl, Cond.after_iff.mpr (eq_i res_at (Term.int_eval (1)) rfl), trivial⟩ ⟨hq.1, hq.2.1, (hq.2.2.sift fun y hy => Or.inr (N y hy)).mono (by decide) (by decide)⟩⟩
theorem main_1_1 : Claimed_1_1 := comes_1 fun _ _ _ _ _ _ h hF => ⟨h.1, hF⟩
theorem main_1_2 : Claimed_1_2 := comes_1 fun _ _ _ _ _ _ h hF => ⟨h.2.1, hF⟩
end Jvm.Pilot.@@N@@
namespace Jvm.Pilot.@@N@@
open Jvm Jvm.ClassFile Sem Op Lib Jvm.Free Jvm.Stand Jvm.Pilot.@@N@@.Jvm.D
/-! MADE BY PROGRAM (witnessworld.py) out of the Statement's table words and the real class files: 16 classes; the members and pool entries that the words name. The judged class is class 1, her method 1. -/
namespace start1
open Jvm.ClassFile
def u (s : String) : CpInfo := .utf8 (stringToUtf16 s)
/-- a pool by its gaps: so many unusable entries, then the entry; so many at the end -/
def gap : Nat → List CpInfo → List CpInfo
  | 0, r => r
  | n + 1, r => .unusable :: gap n r
def poolList (es : List (Nat × CpInfo)) (last : Nat) : List CpInfo := es.foldr (fun e r => gap e.1 (e.2 :: r)) (gap last [])
def pool (es : List (Nat × CpInfo)) (last : Nat) : Array CpInfo := ⟨poolList es last⟩
def fileOf (pool : Array CpInfo) (this : Nat) (attrs : Array Attribute := #[]) (ms : Array MethodInfo := #[]) (fl : Nat := 33) (sup : Nat := 0) (ifs : Array Nat := #[]) (fds : Array FieldInfo := #[]) : ClassFile where
  minorVersion := 0
  majorVersion := 65
  constantPool := pool
  accessFlags := fl
  thisClass := this
  superClass := sup
  interfaces := ifs
  fields := fds
  methods := ms
  attributes := attrs
def plain (name : String) (sup : Option ClassId) : Class where
  name := name
  kind := .ordinary
  loader := none
  accessFlags := 33
  super := sup
  interfaces := #[]
  cf := none
  fields := #[]
  methods := #[]
  instanceTypes := #[]
  staticTypes := #[]
  resolved := #[]
  callSites := []
  init := .initialized
  statics := none
  mirror := none

def pool0 : Array CpInfo := pool [(5, u "<init>"), (0, u "()V"), (1, .class_ 10), (1, u "java/lang/Object"), (85, u "clone"), (0, u "()Ljava/lang/Object;")] 26

def k0c0 : Code := { maxStack := 0, maxLocals := 1, code := object_method_1_code, exceptionTable := #[], attributes := #[] }
def k0m0 : Method := { name := "<init>", desc := "()V", sig := { parameters := [], returnType := none }, accessFlags := 1, code := some k0c0 }
def k0m1 : Method := { name := "clone", desc := "()Ljava/lang/Object;", sig := { parameters := [], returnType := some (.object "java/lang/Object") }, accessFlags := 260, code := none }
/-- java/lang/Object -/
def k0 : Class := { plain "java/lang/Object" none with
  accessFlags := 33
  interfaces := #[]
  cf := some (fileOf pool0 8 #[] #[{ accessFlags := 1, nameIndex := 5, descriptorIndex := 6, attributes := #[] }, { accessFlags := 260, nameIndex := 96, descriptorIndex := 97, attributes := #[] }] 33 0 #[] #[])
  fields := #[]
  methods := #[k0m0, k0m1]
  instanceTypes := #[]
  staticTypes := #[]
  resolved := Array.replicate 124 none
  statics := none }

def pool1 : Array CpInfo := pool [(2, .class_ 4), (1, u "java/lang/Object"), (0, u "<init>"), (0, u "()V"), (0, .integer 536870911), (0, .class_ 9), (0, u "com/example/greenbelt/greenbelt/model/Token"), (0, .methodref 8 11), (0, .nameAndType 5 12), (0, u "([I[J[I)V"), (0, .methodref 8 14), (0, .nameAndType 15 16), (0, u "queues"), (0, u "(I)Z"), (0, .class_ 18), (0, u "com/example/greenbelt/greenbelt/model/TokenQueuesPinLaw"), (2, u "law"), (0, u "(IIIIII)Z")] 5

def k1m0 : Method := { name := "<init>", desc := "()V", sig := { parameters := [], returnType := none }, accessFlags := 1, code := none }
def k1c1 : Code := { maxStack := 8, maxLocals := 23, code := code, exceptionTable := #[], attributes := #[] }
def k1m1 : Method := { name := "law", desc := "(IIIIII)Z", sig := { parameters := [.int, .int, .int, .int, .int, .int], returnType := some .boolean }, accessFlags := 9, code := some k1c1 }
/-- com/example/greenbelt/greenbelt/model/TokenQueuesPinLaw -/
def k1 : Class := { plain "com/example/greenbelt/greenbelt/model/TokenQueuesPinLaw" (some 0) with
  accessFlags := 49
  interfaces := #[]
  cf := some (fileOf pool1 17 #[] #[{ accessFlags := 1, nameIndex := 5, descriptorIndex := 6, attributes := #[] }, { accessFlags := 9, nameIndex := 21, descriptorIndex := 22, attributes := #[] }] 49 2 #[] #[])
  fields := #[]
  methods := #[k1m0, k1m1]
  instanceTypes := #[]
  staticTypes := #[]
  resolved := Array.replicate 28 none
  statics := none }

def pool2 : Array CpInfo := pool [(1, .methodref 2 3), (0, .class_ 4), (0, .nameAndType 5 6), (0, u "java/lang/Object"), (0, u "<init>"), (0, u "()V"), (0, .class_ 8), (0, u "java/lang/Record")] 13

def k2c0 : Code := { maxStack := 1, maxLocals := 1, code := jdk_30_method_1_code, exceptionTable := #[], attributes := #[] }
def k2m0 : Method := { name := "<init>", desc := "()V", sig := { parameters := [], returnType := none }, accessFlags := 4, code := some k2c0 }
/-- java/lang/Record -/
def k2 : Class := { plain "java/lang/Record" (some 0) with
  accessFlags := 1057
  interfaces := #[]
  cf := some (fileOf pool2 7 #[] #[{ accessFlags := 4, nameIndex := 5, descriptorIndex := 6, attributes := #[] }] 1057 2 #[] #[])
  fields := #[]
  methods := #[k2m0]
  instanceTypes := #[]
  staticTypes := #[]
  resolved := Array.replicate 22 none
  statics := none }

def pool3 : Array CpInfo := pool [(7, .class_ 8), (0, u "com/example/greenbelt/greenbelt/model/Message"), (0, .class_ 10), (0, u "java/lang/Object")] 16

/-- com/example/greenbelt/greenbelt/model/Message -/
def k3 : Class := { plain "com/example/greenbelt/greenbelt/model/Message" (some 0) with
  accessFlags := 1537
  interfaces := #[]
  cf := some (fileOf pool3 7 #[] #[] 1537 9 #[] #[])
  fields := #[]
  methods := #[]
  instanceTypes := #[]
  staticTypes := #[]
  resolved := Array.replicate 27 none
  statics := none }

def pool4 : Array CpInfo := pool [(1, .methodref 2 3), (0, .class_ 4), (0, .nameAndType 5 6), (0, u "java/lang/Record"), (0, u "<init>"), (0, u "()V"), (0, .methodref 8 9), (0, .class_ 10), (0, .nameAndType 11 12), (0, u "[I"), (0, u "clone"), (0, u "()Ljava/lang/Object;"), (0, .methodref 14 9), (0, .class_ 15), (0, u "[J"), (10, .class_ 28), (1, u "java/util/Arrays"), (5, .methodref 26 35), (0, .nameAndType 36 37), (0, u "binarySearch"), (0, u "([II)I"), (3, .fieldref 42 43), (0, .class_ 44), (0, .nameAndType 45 10), (0, u "com/example/greenbelt/greenbelt/model/Token"), (0, u "members"), (0, .fieldref 42 47), (0, .nameAndType 48 15), (0, u "granted"), (0, .fieldref 42 50), (0, .nameAndType 51 10), (0, u "queue"), (9, u "KIND"), (0, u "Lcom/example/greenbelt/greenbelt/model/MessageKind;"), (68, u "([I[J[I)V"), (9, .class_ 142), (0, u "com/example/greenbelt/greenbelt/model/Message"), (9, u "queues"), (0, u "(I)Z")] 52

def k4c0 : Code := { maxStack := 6, maxLocals := 10, code := prog_78_method_1_code, exceptionTable := #[], attributes := #[] }
def k4m0 : Method := { name := "<init>", desc := "([I[J[I)V", sig := { parameters := [(.array .int), (.array .long), (.array .int)], returnType := none }, accessFlags := 1, code := some k4c0 }
def k4c1 : Code := { maxStack := 2, maxLocals := 6, code := prog_78_method_7_code, exceptionTable := #[], attributes := #[] }
def k4m1 : Method := { name := "queues", desc := "(I)Z", sig := { parameters := [.int], returnType := some .boolean }, accessFlags := 1, code := some k4c1 }
/-- com/example/greenbelt/greenbelt/model/Token -/
def k4 : Class := { plain "com/example/greenbelt/greenbelt/model/Token" (some 2) with
  accessFlags := 49
  interfaces := #[3]
  cf := some (fileOf pool4 42 #[] #[{ accessFlags := 1, nameIndex := 5, descriptorIndex := 131, attributes := #[] }, { accessFlags := 1, nameIndex := 152, descriptorIndex := 153, attributes := #[] }] 49 2 #[141] #[{ accessFlags := 18, nameIndex := 45, descriptorIndex := 10, attributes := #[] }, { accessFlags := 18, nameIndex := 48, descriptorIndex := 15, attributes := #[] }, { accessFlags := 18, nameIndex := 51, descriptorIndex := 10, attributes := #[] }, { accessFlags := 25, nameIndex := 61, descriptorIndex := 62, attributes := #[] }])
  fields := #[{ name := "members", type := (.array .int), accessFlags := 18, slot := 0, constantValue := 0 }, { name := "granted", type := (.array .long), accessFlags := 18, slot := 1, constantValue := 0 }, { name := "queue", type := (.array .int), accessFlags := 18, slot := 2, constantValue := 0 }, { name := "KIND", type := (.object "com/example/greenbelt/greenbelt/model/MessageKind"), accessFlags := 25, slot := 0, constantValue := 0 }]
  methods := #[k4m0, k4m1]
  instanceTypes := #[(.array .int), (.array .long), (.array .int)]
  staticTypes := #[(.object "com/example/greenbelt/greenbelt/model/MessageKind")]
  resolved := Array.replicate 206 none
  statics := none }

def pool5 : Array CpInfo := pool [(1, .class_ 2), (0, u "java/lang/Cloneable"), (0, .class_ 4), (0, u "java/lang/Object")] 2

/-- java/lang/Cloneable -/
def k5 : Class := { plain "java/lang/Cloneable" (some 0) with
  accessFlags := 1537
  interfaces := #[]
  cf := some (fileOf pool5 1 #[] #[] 1537 3 #[] #[])
  fields := #[]
  methods := #[]
  instanceTypes := #[]
  staticTypes := #[]
  resolved := Array.replicate 7 none
  statics := none }

def pool6 : Array CpInfo := pool [(2, .class_ 4), (1, u "java/lang/Object"), (0, u "<init>"), (0, u "()V"), (7, .class_ 16), (1, u "java/util/Arrays"), (57, .class_ 76), (1, u "java/util/Arrays$NaturalOrder"), (36, .class_ 115), (1, u "java/util/Arrays$LegacyMergeSort"), (1, u "Z"), (89, u "binarySearch0"), (1, .methodref 14 210), (0, .nameAndType 207 211), (0, u "([IIII)I"), (163, .class_ 376), (0, u "java/util/Arrays$ArrayList"), (68, u "$assertionsDisabled"), (269, u "MIN_ARRAY_SORT_GRAN"), (0, u "I"), (2, u "INSERTIONSORT_THRESHOLD"), (74, u "binarySearch"), (4, u "([II)I"), (175, .class_ 976), (0, u "java/util/Arrays$ArrayItr")] 52

def k6m0 : Method := { name := "<init>", desc := "()V", sig := { parameters := [], returnType := none }, accessFlags := 2, code := none }
def k6c1 : Code := { maxStack := 4, maxLocals := 2, code := jdk_65_method_57_code, exceptionTable := #[], attributes := #[] }
def k6m1 : Method := { name := "binarySearch", desc := "([II)I", sig := { parameters := [(.array .int), .int], returnType := some .int }, accessFlags := 9, code := some k6c1 }
def k6c2 : Code := { maxStack := 2, maxLocals := 8, code := jdk_65_method_59_code, exceptionTable := #[], attributes := #[] }
def k6m2 : Method := { name := "binarySearch0", desc := "([IIII)I", sig := { parameters := [(.array .int), .int, .int, .int], returnType := some .int }, accessFlags := 10, code := some k6c2 }
/-- java/util/Arrays -/
def k6 : Class := { plain "java/util/Arrays" (some 0) with
  accessFlags := 49
  interfaces := #[]
  cf := some (fileOf pool6 14 #[.nestMembers #[975, 375, 113, 74]] #[{ accessFlags := 2, nameIndex := 5, descriptorIndex := 6, attributes := #[] }, { accessFlags := 9, nameIndex := 794, descriptorIndex := 799, attributes := #[] }, { accessFlags := 10, nameIndex := 207, descriptorIndex := 211, attributes := #[] }] 49 2 #[] #[{ accessFlags := 26, nameIndex := 715, descriptorIndex := 716, attributes := #[] }, { accessFlags := 26, nameIndex := 719, descriptorIndex := 716, attributes := #[] }, { accessFlags := 4120, nameIndex := 445, descriptorIndex := 117, attributes := #[] }])
  fields := #[{ name := "MIN_ARRAY_SORT_GRAN", type := .int, accessFlags := 26, slot := 0, constantValue := 0 }, { name := "INSERTIONSORT_THRESHOLD", type := .int, accessFlags := 26, slot := 1, constantValue := 0 }, { name := "$assertionsDisabled", type := .boolean, accessFlags := 4120, slot := 2, constantValue := 0 }]
  methods := #[k6m0, k6m1, k6m2]
  instanceTypes := #[]
  staticTypes := #[.int, .int, .boolean]
  resolved := Array.replicate 1029 none
  statics := none }

def pool7 : Array CpInfo := pool [(1, u "java/io/Serializable"), (0, .class_ 1), (0, u "java/lang/Object"), (0, .class_ 3)] 3

/-- java/io/Serializable -/
def k7 : Class := { plain "java/io/Serializable" (some 0) with
  accessFlags := 1537
  interfaces := #[]
  cf := some (fileOf pool7 2 #[] #[] 1537 4 #[] #[])
  fields := #[]
  methods := #[]
  instanceTypes := #[]
  staticTypes := #[]
  resolved := Array.replicate 8 none
  statics := none }

/-- the primitive boolean -/
def k8 : Class := { plain "boolean" none with kind := .primitive 'Z', accessFlags := 0x411 }
/-- [Z -/
def k9 : Class := { plain "[Z" (some 0) with kind := .array 8 .boolean, interfaces := #[5, 7], accessFlags := 1041 }

/-- the primitive byte -/
def k10 : Class := { plain "byte" none with kind := .primitive 'B', accessFlags := 0x411 }
/-- [B -/
def k11 : Class := { plain "[B" (some 0) with kind := .array 10 .byte, interfaces := #[5, 7], accessFlags := 1041 }

/-- the primitive int -/
def k12 : Class := { plain "int" none with kind := .primitive 'I', accessFlags := 0x411 }
/-- [I -/
def k13 : Class := { plain "[I" (some 0) with kind := .array 12 .int, interfaces := #[5, 7], accessFlags := 1041 }

/-- the primitive long -/
def k14 : Class := { plain "long" none with kind := .primitive 'J', accessFlags := 0x411 }
/-- [J -/
def k15 : Class := { plain "[J" (some 0) with kind := .array 14 .long, interfaces := #[5, 7], accessFlags := 1041 }

def heap : Heap := #[]
def classes : Array Class := #[k0, k1, k2, k3, k4, k5, k6, k7, k8, k9, k10, k11, k12, k13, k14, k15]
def interned : List (Array UInt16 × Addr) := []
def slotsUsed : Nat := 0
def theMethod : MethodId := ⟨1, 1⟩
def args0 : Array Value := #[.int 5, .int 6, .int 7, .int 9, .int 1, .int 3]
def aboutOver (below : List Frame) : State where
  vm := { classes := classes, interned := interned.toArray }
  heap := heap
  slotsUsed := slotsUsed
  threads := #[{ frames := .invoking theMethod args0 :: below }]
def below0 : List Frame := [.native { method := ⟨0, 0⟩, args := #[] }]
def about1 : State := aboutOver below0
def p0 : Program := .bare "" "" ""
def e0 : Env := launch0.env 0 0 0
theorem w_frames : about1.frames = Frame.invoking theMethod args0 :: below0 := rfl
set_option maxRecDepth 65536 in
theorem w_args : argsFit about1.vm theMethod args0 = true := by decide +kernel
set_option maxRecDepth 65536 in
theorem w_heap : heapFits about1 = true := by decide +kernel
set_option maxRecDepth 65536 in
theorem w_runnable : about1.curStatus? = some .runnable := by decide +kernel
set_option maxRecDepth 65536 in
theorem w_alone : about1.alone = true := by decide +kernel
set_option maxRecDepth 65536 in
theorem w_named : about1.methodNamed? x = some theMethod := by decide +kernel
set_option maxRecDepth 65536 in
theorem w_hears : about1.hears theMethod below0 = true := by decide +kernel
set_option maxRecDepth 65536 in
theorem w_ripe : about1.ripe theMethod args0 below0 = true := by decide +kernel
theorem w_running : about1.status = .running := rfl
set_option maxRecDepth 65536 in
theorem w_room : about1.hasRoom e0.platform room_1 = true :=
  launch0.hasRoom_least _ room_1 (by decide +kernel) (by decide +kernel) (by decide +kernel) (by decide +kernel) (by decide +kernel) (by decide +kernel)
theorem allAtoms_all (ts : List Jvm.Cond) (a : Array Jvm.Value) (st : Jvm.State) : (allAtoms ts).before a st = ts.all (fun c => c.before a st) := by
  induction ts with
  | nil => rfl
  | cons c t ih =>
    show (Jvm.Cond.and c (allAtoms t)).before a st = _
    rw [Jvm.Cond.before_and, ih, List.all_cons]
def words1 : List Jvm.Cond := Jvm.Cond.code x code maxLocals ret :: tables_1
/-- a 'code' word, met by the world's own term for the bytes: nothing is compared byte by byte -/
theorem code_word {y : MethodName} {bytes : ByteArray} {mx : Nat} {rt : Option FieldType} {a : Array Value} {s : State} {m : MethodId} {meth : Method} {c : Code} (h1 : s.methodNamed? y = some m) (h2 : s.vm.method? m = some meth) (h3 : meth.code = some c) (h4 : c.code = bytes)
    (h5 : (c.maxLocals == mx && c.exceptionTable.isEmpty && decide (c.maxStack ≤ mostOperands) && decide (meth.sig.returnType = rt) && !meth.locks && decide (parseMethodDescriptor y.desc = some meth.sig)) = true) : (Jvm.Cond.code y bytes mx rt).before a s = true := by
  simp only [Bool.and_eq_true, beq_iff_eq, Bool.not_eq_true', decide_eq_true_eq] at h5
  obtain ⟨⟨⟨⟨⟨g1, g2⟩, g3⟩, g4⟩, g5⟩, g6⟩ := h5
  simp [Cond.before, Cond.holds, Cond.value, h1, h2, h3, h4, g1, g2, g3, g4, g5, g6]
def isCode : Jvm.Cond → Bool
  | .code _ _ _ _ => true
  | _ => false
theorem all_split {L : List Jvm.Cond} {P : Jvm.Cond → Bool} (h1 : L.all (fun c => isCode c || P c) = true) (h2 : ∀ c ∈ L.filter isCode, P c = true) : L.all P = true := by
  refine List.all_eq_true.mpr fun c hc => ?_
  have h := List.all_eq_true.mp h1 c hc
  rcases Bool.eq_false_or_eq_true (isCode c) with hi | hi
  · exact h2 c (List.mem_filter.mpr ⟨hc, hi⟩)
  · simpa [hi] using h
set_option maxRecDepth 65536 in
theorem w_c0 : (Jvm.Cond.code x code maxLocals ret).before args0 about1 = true := code_word (m := ⟨1, 1⟩) (meth := k1m1) (c := k1c1) (by decide +kernel) rfl rfl rfl (by decide +kernel)
set_option maxRecDepth 65536 in
theorem w_c1 : (Jvm.Cond.code ({ cls := "com/example/greenbelt/greenbelt/model/Token", name := "<init>", desc := "([I[J[I)V" } : Jvm.MethodName) prog_78_method_1_code (10 : Nat) (Option.none : Option Jvm.ClassFile.FieldType)).before args0 about1 = true := code_word (m := ⟨4, 0⟩) (meth := k4m0) (c := k4c0) (by decide +kernel) rfl rfl rfl (by decide +kernel)
set_option maxRecDepth 65536 in
theorem w_c2 : (Jvm.Cond.code ({ cls := "java/lang/Record", name := "<init>", desc := "()V" } : Jvm.MethodName) jdk_30_method_1_code (1 : Nat) (Option.none : Option Jvm.ClassFile.FieldType)).before args0 about1 = true := code_word (m := ⟨2, 0⟩) (meth := k2m0) (c := k2c0) (by decide +kernel) rfl rfl rfl (by decide +kernel)
set_option maxRecDepth 65536 in
theorem w_c3 : (Jvm.Cond.code ({ cls := "java/lang/Object", name := "<init>", desc := "()V" } : Jvm.MethodName) object_method_1_code (1 : Nat) (Option.none : Option Jvm.ClassFile.FieldType)).before args0 about1 = true := code_word (m := ⟨0, 0⟩) (meth := k0m0) (c := k0c0) (by decide +kernel) rfl rfl rfl (by decide +kernel)
set_option maxRecDepth 65536 in
theorem w_c4 : (Jvm.Cond.code ({ cls := "java/util/Arrays", name := "binarySearch", desc := "([II)I" } : Jvm.MethodName) jdk_65_method_57_code (2 : Nat) (Option.some Jvm.ClassFile.FieldType.int)).before args0 about1 = true := code_word (m := ⟨6, 1⟩) (meth := k6m1) (c := k6c1) (by decide +kernel) rfl rfl rfl (by decide +kernel)
set_option maxRecDepth 65536 in
theorem w_c5 : (Jvm.Cond.code ({ cls := "java/util/Arrays", name := "binarySearch0", desc := "([IIII)I" } : Jvm.MethodName) jdk_65_method_59_code (8 : Nat) (Option.some Jvm.ClassFile.FieldType.int)).before args0 about1 = true := code_word (m := ⟨6, 2⟩) (meth := k6m2) (c := k6c2) (by decide +kernel) rfl rfl rfl (by decide +kernel)
set_option maxRecDepth 65536 in
theorem w_c6 : (Jvm.Cond.code ({ cls := "com/example/greenbelt/greenbelt/model/Token", name := "queues", desc := "(I)Z" } : Jvm.MethodName) prog_78_method_7_code (6 : Nat) (Option.some Jvm.ClassFile.FieldType.boolean)).before args0 about1 = true := code_word (m := ⟨4, 1⟩) (meth := k4m1) (c := k4c1) (by decide +kernel) rfl rfl rfl (by decide +kernel)
def codes1 : List Jvm.Cond := [Jvm.Cond.code x code maxLocals ret, Jvm.Cond.code ({ cls := "com/example/greenbelt/greenbelt/model/Token", name := "<init>", desc := "([I[J[I)V" } : Jvm.MethodName) prog_78_method_1_code (10 : Nat) (Option.none : Option Jvm.ClassFile.FieldType), Jvm.Cond.code ({ cls := "java/lang/Record", name := "<init>", desc := "()V" } : Jvm.MethodName) jdk_30_method_1_code (1 : Nat) (Option.none : Option Jvm.ClassFile.FieldType), Jvm.Cond.code ({ cls := "java/lang/Object", name := "<init>", desc := "()V" } : Jvm.MethodName) object_method_1_code (1 : Nat) (Option.none : Option Jvm.ClassFile.FieldType), Jvm.Cond.code ({ cls := "java/util/Arrays", name := "binarySearch", desc := "([II)I" } : Jvm.MethodName) jdk_65_method_57_code (2 : Nat) (Option.some Jvm.ClassFile.FieldType.int), Jvm.Cond.code ({ cls := "java/util/Arrays", name := "binarySearch0", desc := "([IIII)I" } : Jvm.MethodName) jdk_65_method_59_code (8 : Nat) (Option.some Jvm.ClassFile.FieldType.int), Jvm.Cond.code ({ cls := "com/example/greenbelt/greenbelt/model/Token", name := "queues", desc := "(I)Z" } : Jvm.MethodName) prog_78_method_7_code (6 : Nat) (Option.some Jvm.ClassFile.FieldType.boolean)]
set_option maxRecDepth 65536 in
theorem codes_eq : words1.filter isCode = codes1 := rfl
theorem w_codes : ∀ c ∈ words1.filter isCode, c.before args0 about1 = true := by
  rw [codes_eq]
  intro c hc
  simp only [codes1, List.mem_cons, List.not_mem_nil, or_false] at hc
  rcases hc with rfl | rfl | rfl | rfl | rfl | rfl | rfl
  · exact w_c0
  · exact w_c1
  · exact w_c2
  · exact w_c3
  · exact w_c4
  · exact w_c5
  · exact w_c6
set_option maxRecDepth 65536 in
theorem w_t1 : (words1.take 24).all (fun c => isCode c || c.before args0 about1) = true := by decide +kernel
set_option maxRecDepth 65536 in
theorem w_t2 : ((words1.drop 24).take 24).all (fun c => isCode c || c.before args0 about1) = true := by decide +kernel
set_option maxRecDepth 65536 in
theorem w_t3 : ((words1.drop 24).drop 24).all (fun c => isCode c || c.before args0 about1) = true := by decide +kernel
theorem w_tables : (allAtoms (Jvm.Cond.code x code maxLocals ret :: tables_1)).before args0 about1 = true := by
  rw [allAtoms_all]
  show words1.all (fun c => c.before args0 about1) = true
  refine all_split ?_ w_codes
  rw [← List.take_append_drop 24 words1, List.all_append, w_t1, ← List.take_append_drop 24 (words1.drop 24), List.all_append, w_t2, w_t3]
  rfl
set_option maxRecDepth 65536 in
theorem w_case : (Jvm.Cond.and given_1 narrow_1).before args0 about1 = true := by decide +kernel
theorem w_applies : (headSpec (Jvm.Cond.code x code maxLocals ret :: tables_1) room_1).applies x e0.platform about1 = true :=
  (Spec.applies_iff w_frames).mpr ⟨w_running, w_runnable, w_alone, w_named, w_hears, w_ripe, w_room, w_tables⟩
theorem atStart : AtStart classFile x code maxLocals ret World_1 tables_1 room_1 Calls_1 rest_1 Pre_1 launch0 p0 e0 about1 theMethod args0 below0 :=
  ⟨lists_1, trivial, launch0.admits_env _ _ _, launch0.least_env, fairChoices_fair.cas, fairChoices_fair.clock, w_frames, w_args, w_heap, w_applies, trivial, trivial, w_case⟩
end start1
theorem witness_1 : WitnessClaimed_1 := ⟨start1.p0, start1.e0, start1.about1, start1.theMethod, start1.args0, start1.below0, start1.atStart⟩
end Jvm.Pilot.@@N@@
