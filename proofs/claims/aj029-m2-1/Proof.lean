import JvmDerived
import JvmDerived.Pilot.@@N@@Statement
import JvmDerived.Pilot.@@N@@Code
set_option linter.unusedVariables false
set_option linter.unusedSimpArgs false
namespace Jvm.Pilot.@@N@@
open Jvm Jvm.ClassFile Sem Op Lib Jvm.Free Jvm.Stand Jvm.LawKit Jvm.RoadKit Bundle Jvm.Pilot.@@N@@.Jvm.D
section OwnGo
variable {p : Program} {l : Launch} {e : Env} {R : Room} {s : State} {m : MethodId} {args : Array Value} {below : List Frame} {meth : Method} {c : Code} {T : State} {locs : List Loc} {cells slots : Nat}
/-- from S the run ends, returned, with Q -/
def own_Go (p : Program) (e : Env) (below : List Frame) (s : State) (Q : Option Value → Heap → List Loc → Prop) (cs ss : Nat) (S : State) : Prop :=
  ∃ (U : State) (o : Outcome), Steps p.tables e below S U ∧ U.status = .running ∧ Ended U below o ∧ ∃ v L, o = .returned v ∧ Q v U.heap L ∧ FrameEnd s o U L cs ss
variable {Q : Option Value → Heap → List Loc → Prop} {cs ss : Nat} {S S' : State}
theorem own_via (st : ∀ t, Steps p.tables e below S' t → Steps p.tables e below S t) (k : own_Go p e below s Q cs ss S') : own_Go p e below s Q cs ss S := by
  obtain ⟨U, o, h, r⟩ := k; exact ⟨U, o, st U h, r⟩
theorem own_viaT (st : Steps p.tables e below S S') (k : own_Go p e below s Q cs ss S') : own_Go p e below s Q cs ss S := own_via (fun _ h => st.trans h) k
theorem own_goV (X : Stand p l e R s m args below meth c T locs cells slots) (hx : p.tables.exec = Jvm.exec) {pc : Nat} {Ls : Array Slot} (hret : meth.sig.returnType = none) (hd : decode c.code pc = .ok (.return_, 1)) (hk : meth.locks = false) (hc : cells ≤ cs) (hs : slots ≤ ss) (hQ : Q none T.heap locs) :
    own_Go p e below s Q cs ss (T.setTop (mkF m pc Ls [])) := by
  obtain ⟨fs, hr, hrun, hended, hW, hsame⟩ := X.leave (v := none) (fun _ => rfl) hk
  exact ⟨_, _, X.returnOut hx hret hd hr, hrun, hended, _, _, rfl, hQ, ⟨_, rfl⟩, hW, hsame.mono hc hs⟩
theorem own_goN (X : Stand p l e R s m args below meth c T locs cells slots) (hx : p.tables.exec = Jvm.exec) {pc : Nat} {Ls : Array Slot} {z : Int32} {t : FieldType} {rest : List Value} (hret : meth.sig.returnType = some t) (ht : t = .boolean ∨ t = .byte ∨ t = .char ∨ t = .short) (hd : decode c.code pc = .ok (.ireturn, 1)) (hk : meth.locks = false) (hc : cells ≤ cs) (hs : slots ≤ ss) (hQ : Q (some (.int (nar t z))) T.heap locs) :
    own_Go p e below s Q cs ss (T.setTop (mkF m pc Ls (.int z :: rest))) := by
  obtain ⟨fs, hr, hrun, hended, hW, hsame⟩ := X.leave (v := some (.int (nar t z))) (fun h => by rw [hret] at h; cases h) hk
  exact ⟨_, _, retN X hx hret ht hd hr, hrun, hended, _, _, rfl, hQ, ⟨_, rfl⟩, hW, hsame.mono hc hs⟩
theorem own_goI (X : Stand p l e R s m args below meth c T locs cells slots) (hx : p.tables.exec = Jvm.exec) {pc : Nat} {Ls : Array Slot} {z : Int32} (hret : meth.sig.returnType = some .int) (hd : decode c.code pc = .ok (.ireturn, 1)) (hk : meth.locks = false) (hc : cells ≤ cs) (hs : slots ≤ ss) (hQ : Q (some (.int z)) T.heap locs) :
    own_Go p e below s Q cs ss (T.setTop (mkF m pc Ls [.int z])) := by
  obtain ⟨fs, hr, hrun, hended, hW, hsame⟩ := X.leave (v := some (.int z)) (fun h => by rw [hret] at h; cases h) hk
  exact ⟨_, _, X.ireturnOut hx hret rfl (Or.inl rfl) hd hr, hrun, hended, _, _, rfl, hQ, ⟨_, rfl⟩, hW, hsame.mono hc hs⟩
theorem own_goJ (X : Stand p l e R s m args below meth c T locs cells slots) (hx : p.tables.exec = Jvm.exec) {pc : Nat} {Ls : Array Slot} {z : Int64} (hret : meth.sig.returnType = some .long) (hd : decode c.code pc = .ok (.lreturn, 1)) (hk : meth.locks = false) (hc : cells ≤ cs) (hs : slots ≤ ss) (hQ : Q (some (.long z)) T.heap locs) :
    own_Go p e below s Q cs ss (T.setTop (mkF m pc Ls [.long z])) := by
  obtain ⟨fs, hr, hrun, hended, hW, hsame⟩ := X.leave (v := some (.long z)) (fun h => by rw [hret] at h; cases h) hk
  exact ⟨_, _, X.lreturnOut hx hret hd hr, hrun, hended, _, _, rfl, hQ, ⟨_, rfl⟩, hW, hsame.mono hc hs⟩
theorem own_goA (X : Stand p l e R s m args below meth c T locs cells slots) (hx : p.tables.exec = Jvm.exec) {pc : Nat} {Ls : Array Slot} {w : Value} {t : FieldType} (hw : w.isRef = true) (hret : meth.sig.returnType = some t) (ht : t.isReference = true) (hd : decode c.code pc = .ok (.areturn, 1)) (hk : meth.locks = false) (hc : cells ≤ cs) (hs : slots ≤ ss) (hQ : Q (some w) T.heap locs) :
    own_Go p e below s Q cs ss (T.setTop (mkF m pc Ls [w])) := by
  obtain ⟨fs, hr, hrun, hended, hW, hsame⟩ := X.leave (v := some w) (fun h => by rw [hret] at h; cases h) hk
  exact ⟨_, _, X.areturnOut hx hw hret ht hd hr, hrun, hended, _, _, rfl, hQ, ⟨_, rfl⟩, hW, hsame.mono hc hs⟩
theorem own_selP {s : State} {args : Array Value} {y y' : MethodName} (hs : (Cond.selects y'.cls y' y').before args s = true) (hc : y'.cls = y.cls) (hpriv : s.PrivateAt y) (hinst : (Cond.instanceMethod y).before args s = true) (hy : y.cls ≠ "java/lang/invoke/MethodHandle" ∧ y.cls ≠ "java/lang/invoke/VarHandle") : (Cond.selects y.cls y y).before args s = true := by
  obtain ⟨c2, r2, m2, -, -, q3, -, kP, hkP, hkPi⟩ := Cond.selects_spec hs
  exact selects_self_of_private (hc ▸ findClass_of_methodNamed q3) hkP hkPi hpriv hinst hy
end OwnGo
def o_i2l (x : Int32) : Int64 := x.toInt64
def o_l2i (x : Int64) : Int32 := x.toInt32
def o_i2b (x : Int32) : Int32 := x.toInt8.toInt32
def o_i2s (x : Int32) : Int32 := x.toInt16.toInt32
def o_i2c (x : Int32) : Int32 := x.toUInt32.toUInt16.toUInt32.toInt32
def o_ishl (x y : Int32) : Int32 := x <<< (y &&& 31)
def o_ishr (x y : Int32) : Int32 := x >>> (y &&& 31)
def o_iushr (x y : Int32) : Int32 := (x.toUInt32 >>> (y &&& 31).toUInt32).toInt32
def o_lshl (x : Int64) (y : Int32) : Int64 := x <<< (y &&& 0x3f).toInt64
def o_lshr (x : Int64) (y : Int32) : Int64 := x >>> (y &&& 0x3f).toInt64
def o_lushr (x : Int64) (y : Int32) : Int64 := (x.toUInt64 >>> (y &&& 0x3f).toInt64.toUInt64).toInt64
def o_irem (x y : Int32) : Int32 := x - (x / y) * y
def o_lrem (x y : Int64) : Int64 := x - (x / y) * y
def o_d0 : UInt64 := FP.dconst0
def o_d1 : UInt64 := FP.dconst1
section OwnNums
/-- the unsigned number behind an int, a long -/
abbrev own_n (x : Int32) : Nat := x.toBitVec.toNat
abbrev own_N (x : Int64) : Nat := x.toBitVec.toNat
theorem own_n_lt (x : Int32) : own_n x < 4294967296 := x.toBitVec.isLt
theorem own_N_lt (x : Int64) : own_N x < 18446744073709551616 := x.toBitVec.isLt
theorem own_n_inj {x y : Int32} : x = y ↔ own_n x = own_n y := ⟨fun h => by rw [h], fun h => Int32.toBitVec_inj.mp (BitVec.eq_of_toNat_eq h)⟩
theorem own_N_inj {x y : Int64} : x = y ↔ own_N x = own_N y := ⟨fun h => by rw [h], fun h => Int64.toBitVec_inj.mp (BitVec.eq_of_toNat_eq h)⟩
theorem own_n_int (x : Int32) : x.toInt = if own_n x < 2147483648 then (own_n x : Int) else (own_n x : Int) - 4294967296 := by
  have h := BitVec.toInt_eq_toNat_cond x.toBitVec
  have h2 : x.toBitVec.toInt = x.toInt := rfl
  rw [← h2, h]; simp only [own_n]; split <;> split <;> omega
theorem own_N_int (x : Int64) : x.toInt = if own_N x < 9223372036854775808 then (own_N x : Int) else (own_N x : Int) - 18446744073709551616 := by
  have h := BitVec.toInt_eq_toNat_cond x.toBitVec
  have h2 : x.toBitVec.toInt = x.toInt := rfl
  rw [← h2, h]; simp only [own_N]; split <;> split <;> omega
theorem own_n_add (x y : Int32) : own_n (x + y) = (own_n x + own_n y) % 4294967296 := by simp only [own_n, Int32.toBitVec_add, BitVec.toNat_add]
theorem own_N_add (x y : Int64) : own_N (x + y) = (own_N x + own_N y) % 18446744073709551616 := by simp only [own_N, Int64.toBitVec_add, BitVec.toNat_add]
theorem own_n_sub (x y : Int32) : own_n (x - y) = (4294967296 - own_n y + own_n x) % 4294967296 := by simp only [own_n, Int32.toBitVec_sub, BitVec.toNat_sub]
theorem own_N_sub (x y : Int64) : own_N (x - y) = (18446744073709551616 - own_N y + own_N x) % 18446744073709551616 := by simp only [own_N, Int64.toBitVec_sub, BitVec.toNat_sub]
theorem own_n_mul (x y : Int32) : own_n (x * y) = (own_n x * own_n y) % 4294967296 := by simp only [own_n, Int32.toBitVec_mul, BitVec.toNat_mul]
theorem own_N_mul (x y : Int64) : own_N (x * y) = (own_N x * own_N y) % 18446744073709551616 := by simp only [own_N, Int64.toBitVec_mul, BitVec.toNat_mul]
theorem own_n_and (x y : Int32) : own_n (x &&& y) = own_n x &&& own_n y := by simp only [own_n, Int32.toBitVec_and, BitVec.toNat_and]
theorem own_N_and (x y : Int64) : own_N (x &&& y) = own_N x &&& own_N y := by simp only [own_N, Int64.toBitVec_and, BitVec.toNat_and]
theorem own_n_or (x y : Int32) : own_n (x ||| y) = own_n x ||| own_n y := by simp only [own_n, Int32.toBitVec_or, BitVec.toNat_or]
theorem own_N_or (x y : Int64) : own_N (x ||| y) = own_N x ||| own_N y := by simp only [own_N, Int64.toBitVec_or, BitVec.toNat_or]
theorem own_n_xor (x y : Int32) : own_n (x ^^^ y) = own_n x ^^^ own_n y := by simp only [own_n, Int32.toBitVec_xor, BitVec.toNat_xor]
theorem own_N_xor (x y : Int64) : own_N (x ^^^ y) = own_N x ^^^ own_N y := by simp only [own_N, Int64.toBitVec_xor, BitVec.toNat_xor]
theorem own_N_lushr (x : Int64) (q : Int32) (k : Nat) (hk : own_n q % 64 = k) : own_N (o_lushr x q) = own_N x / 2 ^ k := by
  have h1 := (sm64 q k hk).1
  have h2 := (sm64 q k hk).2
  show (x.toBitVec >>> ((q &&& 0x3f).toInt64.toBitVec % 64)).toNat = _
  rw [h1]
  have h3 : (BitVec.ofNat 64 k % 64).toNat = k := by
    rw [BitVec.toNat_umod, BitVec.toNat_ofNat]; simp; omega
  rw [BitVec.ushiftRight_eq', BitVec.toNat_ushiftRight, h3, Nat.shiftRight_eq_div_pow]
theorem own_N_lshl (x : Int64) (q : Int32) (k : Nat) (hk : own_n q % 64 = k) : own_N (o_lshl x q) = own_N x * 2 ^ k % 18446744073709551616 := by
  have h1 := (sm64 q k hk).1
  have h2 := (sm64 q k hk).2
  show (x.toBitVec <<< ((q &&& 0x3f).toInt64.toBitVec.smod 64)).toNat = _
  rw [h1, BitVec.shiftLeft_eq', smod64 k h2, BitVec.toNat_shiftLeft, Nat.shiftLeft_eq]
theorem own_n_iushr (x : Int32) (q : Int32) (k : Nat) (hk : own_n q % 32 = k) : own_n (o_iushr x q) = own_n x / 2 ^ k := by
  have h1 : (q &&& 31).toBitVec.toNat = k := by
    show (q.toBitVec &&& (31 : Int32).toBitVec).toNat = _
    rw [BitVec.toNat_and]
    show q.toBitVec.toNat &&& (2 ^ 5 - 1) = k
    rw [Nat.and_two_pow_sub_one_eq_mod]; exact hk
  have h2 : k < 32 := by omega
  show (x.toBitVec >>> ((q &&& 31).toBitVec % 32)).toNat = _
  have h3 : ((q &&& 31).toBitVec % 32).toNat = k := by
    rw [BitVec.toNat_umod, h1]; simp; omega
  rw [BitVec.ushiftRight_eq', BitVec.toNat_ushiftRight, h3, Nat.shiftRight_eq_div_pow]
theorem own_n_ishl (x : Int32) (q : Int32) (k : Nat) (hk : own_n q % 32 = k) : own_n (o_ishl x q) = own_n x * 2 ^ k % 4294967296 := by
  have h1 : (q &&& 31).toBitVec.toNat = k := by
    show (q.toBitVec &&& (31 : Int32).toBitVec).toNat = _
    rw [BitVec.toNat_and]
    show q.toBitVec.toNat &&& (2 ^ 5 - 1) = k
    rw [Nat.and_two_pow_sub_one_eq_mod]; exact hk
  have h2 : k < 32 := by omega
  show (x.toBitVec <<< ((q &&& 31).toBitVec.smod 32)).toNat = _
  have h4 : (q &&& 31).toBitVec = BitVec.ofNat 32 k := by apply BitVec.eq_of_toNat_eq; rw [h1, BitVec.toNat_ofNat]; omega
  have h5 : ∀ k : Fin 32, ((BitVec.ofNat 32 k.val).smod 32).toNat = k.val := by decide +kernel
  rw [h4, BitVec.shiftLeft_eq', h5 ⟨k, h2⟩, BitVec.toNat_shiftLeft, Nat.shiftLeft_eq]
theorem own_n_mod (x y : Int32) (h : (x.toInt - y.toInt) % 256 = 0) : own_n x % 256 = own_n y % 256 := by
  have h1 := own_n_int x; have h2 := own_n_int y; have h3 := own_n_lt x; have h4 := own_n_lt y
  split at h1 <;> split at h2 <;> omega
theorem own_i2b_n (x : Int32) : own_n (o_i2b x) % 256 = own_n x % 256 := own_n_mod _ _ (c_i2b x).1
theorem own_nb (x : Int32) : nar .byte (o_i2b x) = o_i2b x := by simp [nar, o_i2b]
theorem own_n_ff (x : Int32) : own_n (x &&& 255) = own_n x % 256 := by
  rw [own_n_and]; show own_n x &&& (2 ^ 8 - 1) = _; rw [Nat.and_two_pow_sub_one_eq_mod]
theorem own_i2l (x : Int32) : (o_i2l x).toInt = x.toInt := Int32.toInt_toInt64 x
theorem own_N_i2l (x : Int32) (h : 0 ≤ x.toInt) : own_N (o_i2l x) = own_n x := by
  have h1 := own_i2l x
  rw [own_N_int, own_n_int] at h1
  have h2 := own_n_lt x
  have h3 := own_N_lt (o_i2l x)
  have h4 := own_n_int x
  split at h1 <;> split at h1 <;> omega
theorem own_mask (x : Nat) (k : Nat) : x &&& (2 ^ k - 1) = x % 2 ^ k := Nat.and_two_pow_sub_one_eq_mod x k
theorem own_and_split {k a A m M : Nat} (ha : a < 2 ^ k) (hm : m < 2 ^ k) : (a + 2 ^ k * A) &&& (m + 2 ^ k * M) = (a &&& m) + 2 ^ k * (A &&& M) := by
  have hp : 0 < 2 ^ k := Nat.two_pow_pos k
  have h1 : ((a + 2 ^ k * A) &&& (m + 2 ^ k * M)) / 2 ^ k = A &&& M := by
    rw [Nat.and_div_two_pow, Nat.add_mul_div_left _ _ hp, Nat.add_mul_div_left _ _ hp, Nat.div_eq_of_lt ha, Nat.div_eq_of_lt hm]; simp
  have h2 : ((a + 2 ^ k * A) &&& (m + 2 ^ k * M)) % 2 ^ k = a &&& m := by
    rw [Nat.and_mod_two_pow, Nat.add_mul_mod_self_left, Nat.add_mul_mod_self_left, Nat.mod_eq_of_lt ha, Nat.mod_eq_of_lt hm]
  have h3 := Nat.div_add_mod ((a + 2 ^ k * A) &&& (m + 2 ^ k * M)) (2 ^ k)
  rw [h1, h2] at h3; omega
theorem own_or_add {k a A : Nat} (ha : a < 2 ^ k) : a ||| (A * 2 ^ k) = a + A * 2 ^ k := by
  rw [Nat.or_comm, ← Nat.shiftLeft_eq, ← Nat.shiftLeft_add_eq_or_of_lt ha]; omega
end OwnNums
theorem d1_0 : decode prog_19_method_1_code 0 = .ok (.aload_n 0, 1) := by decide +kernel
theorem d1_1 : decode prog_19_method_1_code 1 = .ok (.invokespecial 1, 3) := by decide +kernel
theorem d1_4 : decode prog_19_method_1_code 4 = .ok (.aload_n 0, 1) := by decide +kernel
theorem d1_5 : decode prog_19_method_1_code 5 = .ok (.iload_n 1, 1) := by decide +kernel
theorem d1_6 : decode prog_19_method_1_code 6 = .ok (.newarray .byte, 2) := by decide +kernel
theorem d1_8 : decode prog_19_method_1_code 8 = .ok (.putfield 7, 3) := by decide +kernel
theorem d1_11 : decode prog_19_method_1_code 11 = .ok (.return_, 1) := by decide +kernel
theorem pn_0 : plainName "com/example/liboutlay/liboutlay/core/ByteOutput" = true := by first | (simp [plainName, overriddenIn]; done) | decide +kernel
theorem ef_1 (m : MethodId) (x0 : Addr) (x1 : Int32) : entryFrame m #[(.ref x0), (.int x1)] 2 = mkF m 0 #[.val (.ref x0), .val (.int x1)] [] := by first | (simp [entryFrame, mkF, argsToLocals, Value.category]; done) | rfl
def Q1 (Z : State) (a : Addr) (pn_ : Int32) (h0 : Heap) (n0 : Nat) (v : Option Value) (h : Heap) (L : List Loc) : Prop := ∃ b_ : Addr, ∃ k_ : ClassId, v = none ∧ Fr n0 L ∧ Keep h0 h [a] ∧ h0.size ≤ b_ ∧ Exa Z h a "com/example/liboutlay/liboutlay/core/ByteOutput" ∧ Fld Z h a "com/example/liboutlay/liboutlay/core/ByteOutput" "bytes" "[B" (.ref b_) ∧ Fld Z h a "com/example/liboutlay/liboutlay/core/ByteOutput" "length" "I" (.int (0 : Int32)) ∧ Arv Z h b_ k_ .byte pn_ [(.int (0 : Int32)), (.int (0 : Int32)), (.int (0 : Int32)), (.int (0 : Int32)), (.int (0 : Int32)), (.int (0 : Int32)), (.int (0 : Int32)), (.int (0 : Int32)), (.int (0 : Int32)), (.int (0 : Int32)), (.int (0 : Int32))] (.int (0 : Int32))
set_option maxRecDepth 65536 in
set_option maxHeartbeats 40000000 in
theorem rm1 (l : Launch) (Z : State) (a0 : Array Value) (hw : ∀ d ∈ tables_1, d.before a0 Z = true) (ws : List Jvm.Cond) (a : Addr) (pn_ : Int32) (h0 : Heap) (n0 : Nat) (Z0 : n0 ≤ h0.size) (E_a : Exa Z h0 a "com/example/liboutlay/liboutlay/core/ByteOutput") (F_bytes_a : Fld Z h0 a "com/example/liboutlay/liboutlay/core/ByteOutput" "bytes" "[B" .null) (F_length_a : Fld Z h0 a "com/example/liboutlay/liboutlay/core/ByteOutput" "length" "I" (.int (0 : Int32))) (g_a : n0 ≤ a) (hp4 : ¬ pn_ < (0 : Int32)) (hp5 : pn_.toNatClampNeg ≤ 11) :
    MetFree l (⟨"com/example/liboutlay/liboutlay/core/ByteOutput", "<init>", "(I)V"⟩ : MethodName) (head1 (Jvm.Cond.code (⟨"com/example/liboutlay/liboutlay/core/ByteOutput", "<init>", "(I)V"⟩ : MethodName) prog_19_method_1_code 2 none :: ws) ({ frames := 1, cells := 1, slots := 11, locals := 12 } : Room)) (fun q_ U => q_ = #[(.ref a), (.int pn_)] ∧ Z.Warmed39 U.vm ∧ U.heap = h0) (fun _ _ _ _ _ => True) (fun _ U o U' => ∃ v L, o = .returned v ∧ Q1 Z a pn_ h0 n0 v U'.heap L ∧ FrameEnd U o U' L ({ frames := 1, cells := 1, slots := 11, locals := 12 } : Room).cells ({ frames := 1, cells := 1, slots := 11, locals := 12 } : Room).slots) := by
  refine MetFree.of_bodySF (plainFor_of_name pn_0) hisR ?_
  intro p e s m args below meth c s₁ Bd hml0 hP hK
  obtain ⟨rfl, hZ, hh⟩ := hP
  have hx := Bd.exec
  have hby := Bd.bytes
  have hml : c.maxLocals = 2 := hml0
  have hown : s.vm.findClass "com/example/liboutlay/liboutlay/core/ByteOutput" = some m.cls := findClass_of_methodNamed Bd.named
  have hnm := (name_of_methodNamed Bd.named Bd.method).1
  have X0 : Stand p l e ({ frames := 1, cells := 1, slots := 11, locals := 12 } : Room) s m #[(.ref a), (.int pn_)] below meth c s₁ [] 0 0 := Stand.of_body Bd
  have e0 : s₁.heap = h0 := by rw [← hh, Bd.state]; rfl
  have N0 := Fr.nil n0
  show own_Go p e below s (Q1 Z a pn_ h0 n0) ({ frames := 1, cells := 1, slots := 11, locals := 12 } : Room).cells ({ frames := 1, cells := 1, slots := 11, locals := 12 } : Room).slots (s₁.setTop (entryFrame m #[(.ref a), (.int pn_)] 2))
  refine own_via (fun t k => castTop (ef_1 m a pn_) k) ?_
  have K0 : Keep h0 h0 [a] := Keep.refl _ _
  show own_Go p e below s _ _ _ (s₁.setTop (mkF m 0 #[.val (.ref a), .val (.int pn_)] []))
  refine own_via (fun _ k => XS.aloadN X0.here hx rfl (hb hby d1_0) rfl rfl k) ?_
  show own_Go p e below s _ _ _ (s₁.setTop (mkF m 1 #[.val (.ref a), .val (.int pn_)] [(.ref a)]))
  obtain ⟨T1, X1, e1, st1⟩ := initO X0 hx hZ hown (hw _ (List.mem_of_getElem? (i := 6) rfl)) (hw _ (List.mem_of_getElem? (i := 7) rfl)) (hw _ (List.mem_of_getElem? (i := 8) rfl)) e0 (g := (mkF m 1 #[.val (.ref a), .val (.int pn_)] [(.ref a)])) rfl (by rw [hml]; rfl) rfl (hb hby d1_1) (by decide) (W := 0) (by show 2 * 0 + _ ≤ _; exact Nat.le_of_eq rfl) (by decide)
  refine own_via st1 ?_
  show own_Go p e below s _ _ _ (T1.setTop (mkF m 4 #[.val (.ref a), .val (.int pn_)] []))
  refine own_via (fun _ k => XS.aloadN X1.here hx rfl (hb hby d1_4) rfl rfl k) ?_
  show own_Go p e below s _ _ _ (T1.setTop (mkF m 5 #[.val (.ref a), .val (.int pn_)] [(.ref a)]))
  refine own_via (fun _ k => XS.iloadN X1.here hx rfl (hb hby d1_5) rfl k) ?_
  show own_Go p e below s _ _ _ (T1.setTop (mkF m 6 #[.val (.ref a), .val (.int pn_)] [(.int pn_), (.ref a)]))
  obtain ⟨T2, h2, k2, X2, e2, E2, A2, st2⟩ := newP X1 hx hZ (hw _ (List.mem_of_getElem? (i := 9) rfl)) e1 (g := (mkF m 6 #[.val (.ref a), .val (.int pn_)] [(.int pn_), (.ref a)])) rfl (hb hby d1_6) rfl hp4 (cap := 11) hp5 (by decide) (by decide) (by decide)
  obtain ⟨b2, gg2⟩ : ∃ z, z = h0.size := ⟨_, rfl⟩
  rw [← gg2] at A2 st2
  have ne_a_b2 : a ≠ b2 := Nat.ne_of_lt (Nat.lt_of_lt_of_le E_a.lt (Nat.le_of_eq gg2.symm))
  have g_b2 : n0 ≤ b2 := Nat.le_trans Z0 (Nat.le_of_eq gg2.symm)
  have sz_b2 : h0.size ≤ b2 := Nat.le_trans K0.1 (Nat.le_of_eq gg2.symm)
  have Z2 : n0 ≤ h2.size := Nat.le_trans Z0 E2.1
  have K2 : Keep h0 h2 [a] := K0.ext E2
  have V2 : Arv Z h2 b2 k2 .byte pn_ [(.int (0 : Int32)), (.int (0 : Int32)), (.int (0 : Int32)), (.int (0 : Int32)), (.int (0 : Int32)), (.int (0 : Int32)), (.int (0 : Int32)), (.int (0 : Int32)), (.int (0 : Int32)), (.int (0 : Int32)), (.int (0 : Int32))] (.int (0 : Int32)) := (Arv.new A2 hp4).pad (pad_rep [] (.int (0 : Int32)) 11)
  refine own_via st2 ?_
  show own_Go p e below s _ _ _ (T2.setTop (mkF m 8 #[.val (.ref a), .val (.int pn_)] [(.ref b2), (.ref a)]))
  have F3 := (E_a.ext E2)
  have F4 := (F_bytes_a.ext E2)
  obtain ⟨T5, h5, X5, e5, W5, st5⟩ := putF X2 hx hZ hown (host := "") (Or.inl (hw _ (List.mem_of_getElem? (i := 10) rfl))) Via.refl e2 F4 F3 (Or.inl (hw _ (List.mem_of_getElem? (i := 11) rfl))) (hw _ (List.mem_of_getElem? (i := 1) rfl)) (ty := (.array .byte)) (by decide) rfl rfl (g := (mkF m 8 #[.val (.ref a), .val (.int pn_)] [(.ref b2), (.ref a)])) rfl rfl (hb hby d1_8)
  have N5 := Fr.snoc X5 N0 g_a
  have Fw5 := F4.same W5
  have Z5 : n0 ≤ h5.size := Nat.le_trans Z2 (Keep.of_wr W5).1
  have K5 : Keep h0 h5 [a] := K2.wr W5 (Or.inl (List.mem_of_getElem? (i := 0) rfl))
  refine own_via st5 ?_
  show own_Go p e below s _ _ _ (T5.setTop (mkF m 11 #[.val (.ref a), .val (.int pn_)] []))
  have F6 := (F3.wr W5)
  have F7 := ((F_length_a.ext E2).other W5 (Or.inr (slot_ne (Or.inl (hw _ (List.mem_of_getElem? (i := 18) rfl))) (Or.inl (hw _ (List.mem_of_getElem? (i := 11) rfl))) (by decide) (t := .int) (t' := (.array .byte)) (by decide) (by decide))))
  have F8 := (V2.other W5 (Ne.symm ne_a_b2))
  exact own_goV X5 hx Bd.returns (hb hby d1_11) Bd.notSynchronized (by decide) (by decide) (by rw [e5]; exact ⟨b2, k2, rfl, N5, K5, sz_b2, F6, Fw5, F7, F8⟩)
theorem d6_0 : decode prog_19_method_5_code 0 = .ok (.aload_n 0, 1) := by decide +kernel
theorem d6_1 : decode prog_19_method_5_code 1 = .ok (.getfield 7, 3) := by decide +kernel
theorem d6_4 : decode prog_19_method_5_code 4 = .ok (.areturn, 1) := by decide +kernel
theorem ef_6 (m : MethodId) (x0 : Addr) : entryFrame m #[(.ref x0)] 1 = mkF m 0 #[.val (.ref x0)] [] := by first | (simp [entryFrame, mkF, argsToLocals, Value.category]; done) | rfl
def Q6 (Z : State) (a : Addr) (b_ : Addr) (h0 : Heap) (n0 : Nat) (v : Option Value) (h : Heap) (L : List Loc) : Prop := v = some (.ref b_) ∧ Fr n0 L ∧ h = h0
set_option maxRecDepth 65536 in
set_option maxHeartbeats 40000000 in
theorem rm6 (l : Launch) (Z : State) (a0 : Array Value) (hw : ∀ d ∈ tables_1, d.before a0 Z = true) (ws : List Jvm.Cond) (a : Addr) (b_ : Addr) (h0 : Heap) (n0 : Nat) (Z0 : n0 ≤ h0.size) (F_bytes_a : Fld Z h0 a "com/example/liboutlay/liboutlay/core/ByteOutput" "bytes" "[B" (.ref b_)) :
    MetFree l (⟨"com/example/liboutlay/liboutlay/core/ByteOutput", "array", "()[B"⟩ : MethodName) (head1 (Jvm.Cond.code (⟨"com/example/liboutlay/liboutlay/core/ByteOutput", "array", "()[B"⟩ : MethodName) prog_19_method_5_code 1 (some (.array .byte)) :: ws) ({ frames := 0, cells := 0, slots := 0, locals := 0 } : Room)) (fun q_ U => q_ = #[(.ref a)] ∧ Z.Warmed39 U.vm ∧ U.heap = h0) (fun _ _ _ _ _ => True) (fun _ U o U' => ∃ v L, o = .returned v ∧ Q6 Z a b_ h0 n0 v U'.heap L ∧ FrameEnd U o U' L ({ frames := 0, cells := 0, slots := 0, locals := 0 } : Room).cells ({ frames := 0, cells := 0, slots := 0, locals := 0 } : Room).slots) := by
  refine MetFree.of_bodySF (plainFor_of_name pn_0) hisR ?_
  intro p e s m args below meth c s₁ Bd hml0 hP hK
  obtain ⟨rfl, hZ, hh⟩ := hP
  have hx := Bd.exec
  have hby := Bd.bytes
  have hml : c.maxLocals = 1 := hml0
  have hown : s.vm.findClass "com/example/liboutlay/liboutlay/core/ByteOutput" = some m.cls := findClass_of_methodNamed Bd.named
  have hnm := (name_of_methodNamed Bd.named Bd.method).1
  have X0 : Stand p l e ({ frames := 0, cells := 0, slots := 0, locals := 0 } : Room) s m #[(.ref a)] below meth c s₁ [] 0 0 := Stand.of_body Bd
  have e0 : s₁.heap = h0 := by rw [← hh, Bd.state]; rfl
  have N0 := Fr.nil n0
  show own_Go p e below s (Q6 Z a b_ h0 n0) ({ frames := 0, cells := 0, slots := 0, locals := 0 } : Room).cells ({ frames := 0, cells := 0, slots := 0, locals := 0 } : Room).slots (s₁.setTop (entryFrame m #[(.ref a)] 1))
  refine own_via (fun t k => castTop (ef_6 m a) k) ?_
  show own_Go p e below s _ _ _ (s₁.setTop (mkF m 0 #[.val (.ref a)] []))
  refine own_via (fun _ k => XS.aloadN X0.here hx rfl (hb hby d6_0) rfl rfl k) ?_
  show own_Go p e below s _ _ _ (s₁.setTop (mkF m 1 #[.val (.ref a)] [(.ref a)]))
  obtain ⟨T1, X1, e1, st1⟩ := getF X0 hx hZ hown (host := "") (Or.inl (hw _ (List.mem_of_getElem? (i := 10) rfl))) Via.refl e0 F_bytes_a (g := (mkF m 1 #[.val (.ref a)] [(.ref a)])) rfl rfl (hb hby d6_1)
  refine own_via st1 ?_
  show own_Go p e below s _ _ _ (T1.setTop (mkF m 4 #[.val (.ref a)] [(.ref b_)]))
  exact own_goA X1 hx rfl Bd.returns rfl (hb hby d6_4) Bd.notSynchronized (by decide) (by decide) (by rw [e1]; exact ⟨rfl, N0, rfl⟩)
theorem d7_0 : decode prog_19_method_4_code 0 = .ok (.aload_n 0, 1) := by decide +kernel
theorem d7_1 : decode prog_19_method_4_code 1 = .ok (.getfield 34, 3) := by decide +kernel
theorem d7_4 : decode prog_19_method_4_code 4 = .ok (.ireturn, 1) := by decide +kernel
theorem ef_7 (m : MethodId) (x0 : Addr) : entryFrame m #[(.ref x0)] 1 = mkF m 0 #[.val (.ref x0)] [] := by first | (simp [entryFrame, mkF, argsToLocals, Value.category]; done) | rfl
def Q7 (Z : State) (a : Addr) (n_ : Int32) (h0 : Heap) (n0 : Nat) (v : Option Value) (h : Heap) (L : List Loc) : Prop := v = some (.int n_) ∧ Fr n0 L ∧ h = h0
set_option maxRecDepth 65536 in
set_option maxHeartbeats 40000000 in
theorem rm7 (l : Launch) (Z : State) (a0 : Array Value) (hw : ∀ d ∈ tables_1, d.before a0 Z = true) (ws : List Jvm.Cond) (a : Addr) (n_ : Int32) (h0 : Heap) (n0 : Nat) (Z0 : n0 ≤ h0.size) (F_length_a : Fld Z h0 a "com/example/liboutlay/liboutlay/core/ByteOutput" "length" "I" (.int n_)) :
    MetFree l (⟨"com/example/liboutlay/liboutlay/core/ByteOutput", "length", "()I"⟩ : MethodName) (head1 (Jvm.Cond.code (⟨"com/example/liboutlay/liboutlay/core/ByteOutput", "length", "()I"⟩ : MethodName) prog_19_method_4_code 1 (some .int) :: ws) ({ frames := 0, cells := 0, slots := 0, locals := 0 } : Room)) (fun q_ U => q_ = #[(.ref a)] ∧ Z.Warmed39 U.vm ∧ U.heap = h0) (fun _ _ _ _ _ => True) (fun _ U o U' => ∃ v L, o = .returned v ∧ Q7 Z a n_ h0 n0 v U'.heap L ∧ FrameEnd U o U' L ({ frames := 0, cells := 0, slots := 0, locals := 0 } : Room).cells ({ frames := 0, cells := 0, slots := 0, locals := 0 } : Room).slots) := by
  refine MetFree.of_bodySF (plainFor_of_name pn_0) hisR ?_
  intro p e s m args below meth c s₁ Bd hml0 hP hK
  obtain ⟨rfl, hZ, hh⟩ := hP
  have hx := Bd.exec
  have hby := Bd.bytes
  have hml : c.maxLocals = 1 := hml0
  have hown : s.vm.findClass "com/example/liboutlay/liboutlay/core/ByteOutput" = some m.cls := findClass_of_methodNamed Bd.named
  have hnm := (name_of_methodNamed Bd.named Bd.method).1
  have X0 : Stand p l e ({ frames := 0, cells := 0, slots := 0, locals := 0 } : Room) s m #[(.ref a)] below meth c s₁ [] 0 0 := Stand.of_body Bd
  have e0 : s₁.heap = h0 := by rw [← hh, Bd.state]; rfl
  have N0 := Fr.nil n0
  show own_Go p e below s (Q7 Z a n_ h0 n0) ({ frames := 0, cells := 0, slots := 0, locals := 0 } : Room).cells ({ frames := 0, cells := 0, slots := 0, locals := 0 } : Room).slots (s₁.setTop (entryFrame m #[(.ref a)] 1))
  refine own_via (fun t k => castTop (ef_7 m a) k) ?_
  show own_Go p e below s _ _ _ (s₁.setTop (mkF m 0 #[.val (.ref a)] []))
  refine own_via (fun _ k => XS.aloadN X0.here hx rfl (hb hby d7_0) rfl rfl k) ?_
  show own_Go p e below s _ _ _ (s₁.setTop (mkF m 1 #[.val (.ref a)] [(.ref a)]))
  obtain ⟨T1, X1, e1, st1⟩ := getF X0 hx hZ hown (host := "") (Or.inl (hw _ (List.mem_of_getElem? (i := 17) rfl))) Via.refl e0 F_length_a (g := (mkF m 1 #[.val (.ref a)] [(.ref a)])) rfl rfl (hb hby d7_1)
  refine own_via st1 ?_
  show own_Go p e below s _ _ _ (T1.setTop (mkF m 4 #[.val (.ref a)] [(.int n_)]))
  exact own_goI X1 hx Bd.returns (hb hby d7_4) Bd.notSynchronized (by decide) (by decide) (by rw [e1]; exact ⟨rfl, N0, rfl⟩)
theorem d3_0 : decode prog_19_method_10_code 0 = .ok (.aload_n 0, 1) := by decide +kernel
theorem d3_1 : decode prog_19_method_10_code 1 = .ok (.getfield 7, 3) := by decide +kernel
theorem d3_4 : decode prog_19_method_10_code 4 = .ok (.aload_n 0, 1) := by decide +kernel
theorem d3_5 : decode prog_19_method_10_code 5 = .ok (.dup, 1) := by decide +kernel
theorem d3_6 : decode prog_19_method_10_code 6 = .ok (.getfield 34, 3) := by decide +kernel
theorem d3_9 : decode prog_19_method_10_code 9 = .ok (.dup_x1, 1) := by decide +kernel
theorem d3_10 : decode prog_19_method_10_code 10 = .ok (.iconst 1, 1) := by decide +kernel
theorem d3_11 : decode prog_19_method_10_code 11 = .ok (.iadd, 1) := by decide +kernel
theorem d3_12 : decode prog_19_method_10_code 12 = .ok (.putfield 34, 3) := by decide +kernel
theorem d3_15 : decode prog_19_method_10_code 15 = .ok (.iload_n 1, 1) := by decide +kernel
theorem d3_16 : decode prog_19_method_10_code 16 = .ok (.i2b, 1) := by decide +kernel
theorem d3_17 : decode prog_19_method_10_code 17 = .ok (.bastore, 1) := by decide +kernel
theorem d3_18 : decode prog_19_method_10_code 18 = .ok (.return_, 1) := by decide +kernel
theorem ef_3 (m : MethodId) (x0 : Addr) (x1 : Int32) : entryFrame m #[(.ref x0), (.int x1)] 2 = mkF m 0 #[.val (.ref x0), .val (.int x1)] [] := by first | (simp [entryFrame, mkF, argsToLocals, Value.category]; done) | rfl
def Q3 (Z : State) (a : Addr) (pv_ : Int32) (b_ : Addr) (n_ : Int32) (k_ : ClassId) (z_ : Int32) (vs_ : List Value) (d_ : Value) (i_ : Nat) (h0 : Heap) (n0 : Nat) (v : Option Value) (h : Heap) (L : List Loc) : Prop := v = none ∧ Fr n0 L ∧ Keep h0 h [a, b_] ∧ Exa Z h a "com/example/liboutlay/liboutlay/core/ByteOutput" ∧ Fld Z h a "com/example/liboutlay/liboutlay/core/ByteOutput" "bytes" "[B" (.ref b_) ∧ Fld Z h a "com/example/liboutlay/liboutlay/core/ByteOutput" "length" "I" (.int (n_ + (1 : Int32))) ∧ Arv Z h b_ k_ .byte z_ (vs_.set i_ (.int (nar .byte (o_i2b pv_)))) d_
set_option maxRecDepth 65536 in
set_option maxHeartbeats 40000000 in
theorem rm3 (l : Launch) (Z : State) (a0 : Array Value) (hw : ∀ d ∈ tables_1, d.before a0 Z = true) (ws : List Jvm.Cond) (a : Addr) (pv_ : Int32) (b_ : Addr) (n_ : Int32) (k_ : ClassId) (z_ : Int32) (vs_ : List Value) (d_ : Value) (i_ : Nat) (h0 : Heap) (n0 : Nat) (Z0 : n0 ≤ h0.size) (E_a : Exa Z h0 a "com/example/liboutlay/liboutlay/core/ByteOutput") (F_bytes_a : Fld Z h0 a "com/example/liboutlay/liboutlay/core/ByteOutput" "bytes" "[B" (.ref b_)) (F_length_a : Fld Z h0 a "com/example/liboutlay/liboutlay/core/ByteOutput" "length" "I" (.int n_)) (V_b_ : Arv Z h0 b_ k_ .byte z_ vs_ d_) (g_a : n0 ≤ a) (g_b_ : n0 ≤ b_) (ne_a_b_ : a ≠ b_) (hp7 : ¬ n_ < 0 ∧ n_ < z_) (hp8 : n_.toNatClampNeg = i_) (hp9 : i_ < vs_.length) :
    MetFree l (⟨"com/example/liboutlay/liboutlay/core/ByteOutput", "put", "(I)V"⟩ : MethodName) (head1 (Jvm.Cond.code (⟨"com/example/liboutlay/liboutlay/core/ByteOutput", "put", "(I)V"⟩ : MethodName) prog_19_method_10_code 2 none :: ws) ({ frames := 0, cells := 0, slots := 0, locals := 0 } : Room)) (fun q_ U => q_ = #[(.ref a), (.int pv_)] ∧ Z.Warmed39 U.vm ∧ U.heap = h0) (fun _ _ _ _ _ => True) (fun _ U o U' => ∃ v L, o = .returned v ∧ Q3 Z a pv_ b_ n_ k_ z_ vs_ d_ i_ h0 n0 v U'.heap L ∧ FrameEnd U o U' L ({ frames := 0, cells := 0, slots := 0, locals := 0 } : Room).cells ({ frames := 0, cells := 0, slots := 0, locals := 0 } : Room).slots) := by
  refine MetFree.of_bodySF (plainFor_of_name pn_0) hisR ?_
  intro p e s m args below meth c s₁ Bd hml0 hP hK
  obtain ⟨rfl, hZ, hh⟩ := hP
  have hx := Bd.exec
  have hby := Bd.bytes
  have hml : c.maxLocals = 2 := hml0
  have hown : s.vm.findClass "com/example/liboutlay/liboutlay/core/ByteOutput" = some m.cls := findClass_of_methodNamed Bd.named
  have hnm := (name_of_methodNamed Bd.named Bd.method).1
  have X0 : Stand p l e ({ frames := 0, cells := 0, slots := 0, locals := 0 } : Room) s m #[(.ref a), (.int pv_)] below meth c s₁ [] 0 0 := Stand.of_body Bd
  have e0 : s₁.heap = h0 := by rw [← hh, Bd.state]; rfl
  have N0 := Fr.nil n0
  show own_Go p e below s (Q3 Z a pv_ b_ n_ k_ z_ vs_ d_ i_ h0 n0) ({ frames := 0, cells := 0, slots := 0, locals := 0 } : Room).cells ({ frames := 0, cells := 0, slots := 0, locals := 0 } : Room).slots (s₁.setTop (entryFrame m #[(.ref a), (.int pv_)] 2))
  refine own_via (fun t k => castTop (ef_3 m a pv_) k) ?_
  have K0 : Keep h0 h0 [a, b_] := Keep.refl _ _
  show own_Go p e below s _ _ _ (s₁.setTop (mkF m 0 #[.val (.ref a), .val (.int pv_)] []))
  refine own_via (fun _ k => XS.aloadN X0.here hx rfl (hb hby d3_0) rfl rfl k) ?_
  show own_Go p e below s _ _ _ (s₁.setTop (mkF m 1 #[.val (.ref a), .val (.int pv_)] [(.ref a)]))
  obtain ⟨T1, X1, e1, st1⟩ := getF X0 hx hZ hown (host := "") (Or.inl (hw _ (List.mem_of_getElem? (i := 10) rfl))) Via.refl e0 F_bytes_a (g := (mkF m 1 #[.val (.ref a), .val (.int pv_)] [(.ref a)])) rfl rfl (hb hby d3_1)
  refine own_via st1 ?_
  show own_Go p e below s _ _ _ (T1.setTop (mkF m 4 #[.val (.ref a), .val (.int pv_)] [(.ref b_)]))
  refine own_via (fun _ k => XS.aloadN X1.here hx rfl (hb hby d3_4) rfl rfl k) ?_
  show own_Go p e below s _ _ _ (T1.setTop (mkF m 5 #[.val (.ref a), .val (.int pv_)] [(.ref a), (.ref b_)]))
  refine own_via (fun _ k => XS.dup X1.here hx rfl (hb hby d3_5) rfl rfl k) ?_
  show own_Go p e below s _ _ _ (T1.setTop (mkF m 6 #[.val (.ref a), .val (.int pv_)] [(.ref a), (.ref a), (.ref b_)]))
  obtain ⟨T2, X2, e2, st2⟩ := getF X1 hx hZ hown (host := "") (Or.inl (hw _ (List.mem_of_getElem? (i := 17) rfl))) Via.refl e1 F_length_a (g := (mkF m 6 #[.val (.ref a), .val (.int pv_)] [(.ref a), (.ref a), (.ref b_)])) rfl rfl (hb hby d3_6)
  refine own_via st2 ?_
  show own_Go p e below s _ _ _ (T2.setTop (mkF m 9 #[.val (.ref a), .val (.int pv_)] [(.int n_), (.ref a), (.ref b_)]))
  refine own_via (fun _ k => XS.dupX1 X2.here hx rfl (hb hby d3_9) rfl rfl rfl k) ?_
  show own_Go p e below s _ _ _ (T2.setTop (mkF m 10 #[.val (.ref a), .val (.int pv_)] [(.int n_), (.ref a), (.int n_), (.ref b_)]))
  refine own_via (fun _ k => XS.iconst X2.here hx rfl (hb hby d3_10) k) ?_
  show own_Go p e below s _ _ _ (T2.setTop (mkF m 11 #[.val (.ref a), .val (.int pv_)] [(.int (1 : Int32)), (.int n_), (.ref a), (.int n_), (.ref b_)]))
  refine own_via (fun _ k => XS.iadd X2.here hx rfl (hb hby d3_11) rfl k) ?_
  show own_Go p e below s _ _ _ (T2.setTop (mkF m 12 #[.val (.ref a), .val (.int pv_)] [(.int (n_ + (1 : Int32))), (.ref a), (.int n_), (.ref b_)]))
  obtain ⟨T3, h3, X3, e3, W3, st3⟩ := putF X2 hx hZ hown (host := "") (Or.inl (hw _ (List.mem_of_getElem? (i := 17) rfl))) Via.refl e2 F_length_a E_a (Or.inl (hw _ (List.mem_of_getElem? (i := 18) rfl))) (hw _ (List.mem_of_getElem? (i := 1) rfl)) (ty := .int) (by decide) rfl rfl (g := (mkF m 12 #[.val (.ref a), .val (.int pv_)] [(.int (n_ + (1 : Int32))), (.ref a), (.int n_), (.ref b_)])) rfl rfl (hb hby d3_12)
  have N3 := Fr.snoc X3 N0 g_a
  have Fw3 := F_length_a.same W3
  have Z3 : n0 ≤ h3.size := Nat.le_trans Z0 (Keep.of_wr W3).1
  have K3 : Keep h0 h3 [a, b_] := K0.wr W3 (Or.inl (List.mem_of_getElem? (i := 0) rfl))
  refine own_via st3 ?_
  show own_Go p e below s _ _ _ (T3.setTop (mkF m 15 #[.val (.ref a), .val (.int pv_)] [(.int n_), (.ref b_)]))
  refine own_via (fun _ k => XS.iloadN X3.here hx rfl (hb hby d3_15) rfl k) ?_
  show own_Go p e below s _ _ _ (T3.setTop (mkF m 16 #[.val (.ref a), .val (.int pv_)] [(.int pv_), (.int n_), (.ref b_)]))
  refine own_via (fun _ k => XS.i2b X3.here hx rfl (hb hby d3_16) rfl k) ?_
  show own_Go p e below s _ _ _ (T3.setTop (mkF m 17 #[.val (.ref a), .val (.int pv_)] [(.int (o_i2b pv_)), (.int n_), (.ref b_)]))
  have F5 := (V_b_.other W3 (Ne.symm ne_a_b_))
  obtain ⟨cl4, Ar4, q4, S4, M4, H4, G4⟩ := (id F5)
  have hin4 : ¬ (n_ < 0 ∨ cl4.slots.size ≤ (n_).toNatClampNeg) := inb_of S4 hp7
  obtain ⟨T4, h4, X4, e4, W4, st4⟩ := stB X3 hx hZ e3 Ar4 (j := n_) hin4 (g := (mkF m 17 #[.val (.ref a), .val (.int pv_)] [(.int (o_i2b pv_)), (.int n_), (.ref b_)])) rfl rfl (hb hby d3_17)
  have V4 : Arv Z h4 b_ k_ .byte z_ (vs_.set i_ (.int (nar .byte (o_i2b pv_)))) d_ := Arv.set Ar4 q4 S4 M4 H4 G4 (fits_nar_byte _) W4 i_ hp8 hp9
  have N4 := Fr.snoc X4 N3 g_b_
  have Z4 : n0 ≤ h4.size := Nat.le_trans Z3 (Keep.of_wr W4).1
  have K4 : Keep h0 h4 [a, b_] := K3.wr W4 (Or.inl (List.mem_of_getElem? (i := 1) rfl))
  refine own_via st4 ?_
  show own_Go p e below s _ _ _ (T4.setTop (mkF m 18 #[.val (.ref a), .val (.int pv_)] []))
  have F6 := ((E_a.wr W3).wr W4)
  have F7 := ((F_bytes_a.other W3 (Or.inr (slot_ne (Or.inl (hw _ (List.mem_of_getElem? (i := 11) rfl))) (Or.inl (hw _ (List.mem_of_getElem? (i := 18) rfl))) (by decide) (t := (.array .byte)) (t' := .int) (by decide) (by decide)))).other W4 (Or.inl ne_a_b_))
  have F8 := (Fw3.other W4 (Or.inl ne_a_b_))
  exact own_goV X4 hx Bd.returns (hb hby d3_18) Bd.notSynchronized (by decide) (by decide) (by rw [e4]; exact ⟨rfl, N4, K4, F6, F7, F8, V4⟩)

def own_B (x : Int32) : Int32 := nar .byte (o_i2b x)
def own_enc : Nat → Int64 → Nat → List Value → Nat × List Value
  | 0, z, i, vs => (i + 1, vs.set i (.int (nar .byte (o_i2b (o_l2i z)))))
  | f + 1, z, i, vs => if (z &&& (-128 : Int64)) = (0 : Int64) then (i + 1, vs.set i (.int (nar .byte (o_i2b (o_l2i z))))) else own_enc f (o_lushr z (7 : Int32)) (i + 1) (vs.set i (.int (nar .byte (o_i2b ((o_l2i (z &&& (127 : Int64))) ||| (128 : Int32))))))
theorem own_and128 (z : Int64) : (z &&& (-128 : Int64)) = (0 : Int64) ↔ own_N z < 128 := by
  have h : own_N (z &&& (-128 : Int64)) = 128 * (own_N z / 128) := by
    rw [own_N_and, show own_N (-128 : Int64) = 0 + 2 ^ 7 * (2 ^ 57 - 1) from rfl]
    have hs : own_N z = own_N z % 128 + 2 ^ 7 * (own_N z / 128) := by omega
    rw [hs, own_and_split (k := 7) (by omega) (by decide), own_mask, Nat.and_zero]
    have := own_N_lt z
    omega
  rw [own_N_inj, h, show own_N (0 : Int64) = 0 from rfl]
  omega
theorem own_nat32 {n : Int32} {i : Nat} (h : n.toInt = i) : ¬ n < 0 ∧ n.toNatClampNeg = i := by
  constructor
  · rw [Int32.lt_iff_toInt_lt]; simp only [Int32.reduceToInt]; omega
  · simp only [Int32.toNatClampNeg]; omega
theorem own_lt11 {n : Int32} {i : Nat} (h : n.toInt = i) (hi : i < 11) : n < (11 : Int32) := by
  rw [Int32.lt_iff_toInt_lt]; simp only [Int32.reduceToInt]; omega
theorem own_up1 {n : Int32} {i : Nat} (h : n.toInt = i) (hi : i < 11) : (n + (1 : Int32)).toInt = ((i + 1 : Nat) : Int) := by
  have := c_iadd n 1; have := rng32 (n + 1); simp only [Int32.reduceToInt] at *; omega
theorem own_sh7 {z : Int64} {f : Nat} (h : own_N z < 2 ^ (7 * (f + 2))) : own_N (o_lushr z (7 : Int32)) < 2 ^ (7 * (f + 1)) := by
  rw [own_N_lushr z 7 7 rfl]
  apply Nat.div_lt_of_lt_mul
  rw [← Nat.pow_add]
  have : 7 + 7 * (f + 1) = 7 * (f + 2) := by omega
  rw [this]; exact h
theorem own_nz {z : Int64} (h : own_N z < 2 ^ (7 * (0 + 1))) : (z &&& (-128 : Int64)) = (0 : Int64) := (own_and128 z).mpr (by simpa using h)

theorem d4_0 : decode prog_19_method_11_code 0 = .ok (.lload_n 1, 1) := by decide +kernel
theorem d4_1 : decode prog_19_method_11_code 1 = .ok (.iconst 1, 1) := by decide +kernel
theorem d4_2 : decode prog_19_method_11_code 2 = .ok (.lshl, 1) := by decide +kernel
theorem d4_3 : decode prog_19_method_11_code 3 = .ok (.lload_n 1, 1) := by decide +kernel
theorem d4_4 : decode prog_19_method_11_code 4 = .ok (.bipush 63, 2) := by decide +kernel
theorem d4_6 : decode prog_19_method_11_code 6 = .ok (.lshr, 1) := by decide +kernel
theorem d4_7 : decode prog_19_method_11_code 7 = .ok (.lxor, 1) := by decide +kernel
theorem d4_8 : decode prog_19_method_11_code 8 = .ok (.lstore_n 3, 1) := by decide +kernel
theorem d4_9 : decode prog_19_method_11_code 9 = .ok (.lload_n 3, 1) := by decide +kernel
theorem d4_10 : decode prog_19_method_11_code 10 = .ok (.ldc2_w 64, 3) := by decide +kernel
theorem d4_13 : decode prog_19_method_11_code 13 = .ok (.land, 1) := by decide +kernel
theorem d4_14 : decode prog_19_method_11_code 14 = .ok (.lconst 0, 1) := by decide +kernel
theorem d4_15 : decode prog_19_method_11_code 15 = .ok (.lcmp, 1) := by decide +kernel
theorem d4_16 : decode prog_19_method_11_code 16 = .ok (.ifCond .eq 25, 3) := by decide +kernel
theorem d4_41 : decode prog_19_method_11_code 41 = .ok (.aload_n 0, 1) := by decide +kernel
theorem d4_42 : decode prog_19_method_11_code 42 = .ok (.lload_n 3, 1) := by decide +kernel
theorem d4_43 : decode prog_19_method_11_code 43 = .ok (.l2i, 1) := by decide +kernel
theorem pd_0 : parseMethodDescriptor "(I)V" = some ⟨[.int], none⟩ := by decide +kernel
theorem d4_44 : decode prog_19_method_11_code 44 = .ok (.invokevirtual 68, 3) := by decide +kernel
theorem d4_47 : decode prog_19_method_11_code 47 = .ok (.return_, 1) := by decide +kernel
theorem d4_19 : decode prog_19_method_11_code 19 = .ok (.aload_n 0, 1) := by decide +kernel
theorem d4_20 : decode prog_19_method_11_code 20 = .ok (.lload_n 3, 1) := by decide +kernel
theorem d4_21 : decode prog_19_method_11_code 21 = .ok (.ldc2_w 66, 3) := by decide +kernel
theorem d4_24 : decode prog_19_method_11_code 24 = .ok (.land, 1) := by decide +kernel
theorem d4_25 : decode prog_19_method_11_code 25 = .ok (.l2i, 1) := by decide +kernel
theorem d4_26 : decode prog_19_method_11_code 26 = .ok (.sipush 128, 3) := by decide +kernel
theorem d4_29 : decode prog_19_method_11_code 29 = .ok (.ior, 1) := by decide +kernel
theorem d4_30 : decode prog_19_method_11_code 30 = .ok (.invokevirtual 68, 3) := by decide +kernel
theorem d4_33 : decode prog_19_method_11_code 33 = .ok (.lload_n 3, 1) := by decide +kernel
theorem d4_34 : decode prog_19_method_11_code 34 = .ok (.bipush 7, 2) := by decide +kernel
theorem d4_36 : decode prog_19_method_11_code 36 = .ok (.lushr, 1) := by decide +kernel
theorem d4_37 : decode prog_19_method_11_code 37 = .ok (.lstore_n 3, 1) := by decide +kernel
theorem d4_38 : decode prog_19_method_11_code 38 = .ok (.goto (-29), 3) := by decide +kernel
theorem ef_4 (m : MethodId) (x0 : Addr) (x1 : Int64) : entryFrame m #[(.ref x0), (.long x1)] 5 = mkF m 0 #[.val (.ref x0), .val (.long x1), .second, .unset, .unset] [] := by first | (simp [entryFrame, mkF, argsToLocals, Value.category]; done) | rfl
def Q4 (Z : State) (a : Addr) (pv_ : Int64) (b_ : Addr) (n0_ : Int32) (k_ : ClassId) (vs0_ : List Value) (d_ : Value) (i0_ : Nat) (h0 : Heap) (n0 : Nat) (v : Option Value) (h : Heap) (L : List Loc) : Prop := ∃ nf : Int32, v = none ∧ Fr n0 L ∧ Keep h0 h [a, b_] ∧ Exa Z h a "com/example/liboutlay/liboutlay/core/ByteOutput" ∧ Fld Z h a "com/example/liboutlay/liboutlay/core/ByteOutput" "bytes" "[B" (.ref b_) ∧ Fld Z h a "com/example/liboutlay/liboutlay/core/ByteOutput" "length" "I" (.int nf) ∧ Arv Z h b_ k_ .byte (11 : Int32) (((own_enc 9 ((o_lshl pv_ (1 : Int32)) ^^^ (o_lshr pv_ (63 : Int32))) i0_ vs0_)).2) d_ ∧ nf.toInt = (((own_enc 9 ((o_lshl pv_ (1 : Int32)) ^^^ (o_lshr pv_ (63 : Int32))) i0_ vs0_)).1 : Int)
set_option maxRecDepth 65536 in
set_option maxHeartbeats 40000000 in
theorem rm4 (l : Launch) (Z : State) (a0 : Array Value) (hw : ∀ d ∈ tables_1, d.before a0 Z = true) (ws : List Jvm.Cond) (a : Addr) (pv_ : Int64) (b_ : Addr) (n0_ : Int32) (k_ : ClassId) (vs0_ : List Value) (d_ : Value) (i0_ : Nat) (h0 : Heap) (n0 : Nat) (Z0 : n0 ≤ h0.size) (E_a : Exa Z h0 a "com/example/liboutlay/liboutlay/core/ByteOutput") (F_bytes_a : Fld Z h0 a "com/example/liboutlay/liboutlay/core/ByteOutput" "bytes" "[B" (.ref b_)) (F_length_a : Fld Z h0 a "com/example/liboutlay/liboutlay/core/ByteOutput" "length" "I" (.int n0_)) (V_b_ : Arv Z h0 b_ k_ .byte (11 : Int32) vs0_ d_) (g_a : n0 ≤ a) (g_b_ : n0 ≤ b_) (ne_a_b_ : a ≠ b_) (hp7 : n0_.toInt = (i0_ : Int)) (hp8 : i0_ + 9 < 11) (hp9 : vs0_.length = 11) :
    MetFree l (⟨"com/example/liboutlay/liboutlay/core/ByteOutput", "number", "(J)V"⟩ : MethodName) (head1 (Jvm.Cond.code (⟨"com/example/liboutlay/liboutlay/core/ByteOutput", "number", "(J)V"⟩ : MethodName) prog_19_method_11_code 5 none :: ws) ({ frames := 1, cells := 0, slots := 0, locals := 13 } : Room)) (fun q_ U => q_ = #[(.ref a), (.long pv_)] ∧ Z.Warmed39 U.vm ∧ U.heap = h0) (fun _ _ _ _ _ => True) (fun _ U o U' => ∃ v L, o = .returned v ∧ Q4 Z a pv_ b_ n0_ k_ vs0_ d_ i0_ h0 n0 v U'.heap L ∧ FrameEnd U o U' L ({ frames := 1, cells := 0, slots := 0, locals := 13 } : Room).cells ({ frames := 1, cells := 0, slots := 0, locals := 13 } : Room).slots) := by
  refine MetFree.of_bodySF (plainFor_of_name pn_0) hisR ?_
  intro p e s m args below meth c s₁ Bd hml0 hP hK
  obtain ⟨rfl, hZ, hh⟩ := hP
  have hx := Bd.exec
  have hby := Bd.bytes
  have hml : c.maxLocals = 5 := hml0
  have hown : s.vm.findClass "com/example/liboutlay/liboutlay/core/ByteOutput" = some m.cls := findClass_of_methodNamed Bd.named
  have hnm := (name_of_methodNamed Bd.named Bd.method).1
  have X0 : Stand p l e ({ frames := 1, cells := 0, slots := 0, locals := 13 } : Room) s m #[(.ref a), (.long pv_)] below meth c s₁ [] 0 0 := Stand.of_body Bd
  have e0 : s₁.heap = h0 := by rw [← hh, Bd.state]; rfl
  have N0 := Fr.nil n0
  show own_Go p e below s (Q4 Z a pv_ b_ n0_ k_ vs0_ d_ i0_ h0 n0) ({ frames := 1, cells := 0, slots := 0, locals := 13 } : Room).cells ({ frames := 1, cells := 0, slots := 0, locals := 13 } : Room).slots (s₁.setTop (entryFrame m #[(.ref a), (.long pv_)] 5))
  refine own_via (fun t k => castTop (ef_4 m a pv_) k) ?_
  have K0 : Keep h0 h0 [a, b_] := Keep.refl _ _
  show own_Go p e below s _ _ _ (s₁.setTop (mkF m 0 #[.val (.ref a), .val (.long pv_), .second, .unset, .unset] []))
  refine own_via (fun _ k => XS.lloadN X0.here hx rfl (hb hby d4_0) rfl k) ?_
  show own_Go p e below s _ _ _ (s₁.setTop (mkF m 1 #[.val (.ref a), .val (.long pv_), .second, .unset, .unset] [(.long pv_)]))
  refine own_via (fun _ k => XS.iconst X0.here hx rfl (hb hby d4_1) k) ?_
  show own_Go p e below s _ _ _ (s₁.setTop (mkF m 2 #[.val (.ref a), .val (.long pv_), .second, .unset, .unset] [(.int (1 : Int32)), (.long pv_)]))
  refine own_via (fun _ k => XS.lshl X0.here hx rfl (hb hby d4_2) rfl k) ?_
  show own_Go p e below s _ _ _ (s₁.setTop (mkF m 3 #[.val (.ref a), .val (.long pv_), .second, .unset, .unset] [(.long (o_lshl pv_ (1 : Int32)))]))
  refine own_via (fun _ k => XS.lloadN X0.here hx rfl (hb hby d4_3) rfl k) ?_
  show own_Go p e below s _ _ _ (s₁.setTop (mkF m 4 #[.val (.ref a), .val (.long pv_), .second, .unset, .unset] [(.long pv_), (.long (o_lshl pv_ (1 : Int32)))]))
  refine own_via (fun _ k => XS.bipush X0.here hx rfl (hb hby d4_4) k) ?_
  show own_Go p e below s _ _ _ (s₁.setTop (mkF m 6 #[.val (.ref a), .val (.long pv_), .second, .unset, .unset] [(.int (63 : Int32)), (.long pv_), (.long (o_lshl pv_ (1 : Int32)))]))
  refine own_via (fun _ k => XS.lshr X0.here hx rfl (hb hby d4_6) rfl k) ?_
  show own_Go p e below s _ _ _ (s₁.setTop (mkF m 7 #[.val (.ref a), .val (.long pv_), .second, .unset, .unset] [(.long (o_lshr pv_ (63 : Int32))), (.long (o_lshl pv_ (1 : Int32)))]))
  refine own_via (fun _ k => XS.lxor X0.here hx rfl (hb hby d4_7) rfl k) ?_
  show own_Go p e below s _ _ _ (s₁.setTop (mkF m 8 #[.val (.ref a), .val (.long pv_), .second, .unset, .unset] [(.long ((o_lshl pv_ (1 : Int32)) ^^^ (o_lshr pv_ (63 : Int32))))]))
  refine own_via (fun _ k => XS.lstoreN X0.here hx rfl (hb hby d4_8) rfl (l' := #[.val (.ref a), .val (.long pv_), .second, .val (.long ((o_lshl pv_ (1 : Int32)) ^^^ (o_lshr pv_ (63 : Int32)))), .second]) rfl k) ?_
  show own_Go p e below s _ _ _ (s₁.setTop (mkF m 9 #[.val (.ref a), .val (.long pv_), .second, .val (.long ((o_lshl pv_ (1 : Int32)) ^^^ (o_lshr pv_ (63 : Int32)))), .second] []))
  have loop : ∀ (f_ : Nat) (z_ : Int64) (n_ : Int32) (i_ : Nat) (vs_ : List Value) (T1 : State) (lo1 : List Loc) (h1 : Heap), Stand p l e ({ frames := 1, cells := 0, slots := 0, locals := 13 } : Room) s m #[(.ref a), (.long pv_)] below meth c T1 lo1 0 0 → T1.heap = h1 → Fr n0 lo1 → n0 ≤ h1.size → Keep h0 h1 [a, b_] → Exa Z h1 a "com/example/liboutlay/liboutlay/core/ByteOutput" → Fld Z h1 a "com/example/liboutlay/liboutlay/core/ByteOutput" "bytes" "[B" (.ref b_) → Fld Z h1 a "com/example/liboutlay/liboutlay/core/ByteOutput" "length" "I" (.int n_) → Arv Z h1 b_ k_ .byte (11 : Int32) vs_ d_ → n_.toInt = (i_ : Int) → i_ + f_ < 11 → vs_.length = 11 → own_N z_ < 2 ^ (7 * (f_ + 1)) → own_enc f_ z_ i_ vs_ = (own_enc 9 ((o_lshl pv_ (1 : Int32)) ^^^ (o_lshr pv_ (63 : Int32))) i0_ vs0_) → own_Go p e below s (Q4 Z a pv_ b_ n0_ k_ vs0_ d_ i0_ h0 n0) ({ frames := 1, cells := 0, slots := 0, locals := 13 } : Room).cells ({ frames := 1, cells := 0, slots := 0, locals := 13 } : Room).slots (T1.setTop (mkF m 9 #[.val (.ref a), .val (.long pv_), .second, .val (.long z_), .second] [])) := by
    intro f_
    induction f_ with
    | zero =>
      intro z_ n_ i_ vs_ T1 lo1 h1 X1 e1 N1 Z1 K1 F2 F3 F4 F5 hn hi hl hz hr
      show own_Go p e below s _ _ _ (T1.setTop (mkF m 9 #[.val (.ref a), .val (.long pv_), .second, .val (.long z_), .second] []))
      refine own_via (fun _ k => XS.lloadN X1.here hx rfl (hb hby d4_9) rfl k) ?_
      show own_Go p e below s _ _ _ (T1.setTop (mkF m 10 #[.val (.ref a), .val (.long pv_), .second, .val (.long z_), .second] [(.long z_)]))
      refine own_via (fun _ k => X1.ldc2Long hx hown (mvT hZ (hw _ (List.mem_of_getElem? (i := 24) rfl))) (g := (mkF m 10 #[.val (.ref a), .val (.long pv_), .second, .val (.long z_), .second] [(.long z_)])) rfl (hb hby d4_10) _ k) ?_
      show own_Go p e below s _ _ _ (T1.setTop (mkF m 13 #[.val (.ref a), .val (.long pv_), .second, .val (.long z_), .second] [(.long (-128 : Int64)), (.long z_)]))
      refine own_via (fun _ k => XS.land X1.here hx rfl (hb hby d4_13) rfl k) ?_
      show own_Go p e below s _ _ _ (T1.setTop (mkF m 14 #[.val (.ref a), .val (.long pv_), .second, .val (.long z_), .second] [(.long (z_ &&& (-128 : Int64)))]))
      refine own_via (fun _ k => XS.lconst X1.here hx rfl (hb hby d4_14) k) ?_
      show own_Go p e below s _ _ _ (T1.setTop (mkF m 15 #[.val (.ref a), .val (.long pv_), .second, .val (.long z_), .second] [(.long (0 : Int64)), (.long (z_ &&& (-128 : Int64)))]))
      refine own_via (fun _ k => XS.lcmp X1.here hx rfl (hb hby d4_15) rfl k) ?_
      show own_Go p e below s _ _ _ (T1.setTop (mkF m 16 #[.val (.ref a), .val (.long pv_), .second, .val (.long z_), .second] [(.int (lcmpW (z_ &&& (-128 : Int64)) (0 : Int64)))]))
      have hc6 : (z_ &&& (-128 : Int64)) = (0 : Int64) := own_nz hz
      refine own_via (fun _ k => XS.ifYes X1.here hx rfl (pc0 := 16) (pc' := 41) rfl (hb hby d4_16) rfl (Jvm.Free.XT.ll_eq_t hc6) (by decide) (by decide) k) ?_
      show own_Go p e below s _ _ _ (T1.setTop (mkF m 41 #[.val (.ref a), .val (.long pv_), .second, .val (.long z_), .second] []))
      refine own_via (fun _ k => XS.aloadN X1.here hx rfl (hb hby d4_41) rfl rfl k) ?_
      show own_Go p e below s _ _ _ (T1.setTop (mkF m 42 #[.val (.ref a), .val (.long pv_), .second, .val (.long z_), .second] [(.ref a)]))
      refine own_via (fun _ k => XS.lloadN X1.here hx rfl (hb hby d4_42) rfl k) ?_
      show own_Go p e below s _ _ _ (T1.setTop (mkF m 43 #[.val (.ref a), .val (.long pv_), .second, .val (.long z_), .second] [(.long z_), (.ref a)]))
      refine own_via (fun _ k => XS.l2i X1.here hx rfl (hb hby d4_43) rfl k) ?_
      show own_Go p e below s _ _ _ (T1.setTop (mkF m 44 #[.val (.ref a), .val (.long pv_), .second, .val (.long z_), .second] [(.int (o_l2i z_)), (.ref a)]))
      obtain ⟨cq7, kq7, qa7, qb7, qc7⟩ := isOf hZ e1 F2
      obtain ⟨_, _, ⟨T7, L7, k7, n7⟩, -, X7, ⟨Lc7, hQ7, l7, y7, z7⟩, st7⟩ := X1.virtualBack hx (y := (⟨"com/example/liboutlay/liboutlay/core/ByteOutput", "put", "(I)V"⟩ : MethodName)) (z := (⟨"com/example/liboutlay/liboutlay/core/ByteOutput", "put", "(I)V"⟩ : MethodName)) hown (mvT hZ (hw _ (List.mem_of_getElem? (i := 25) rfl))) (mvT hZ (hw _ (List.mem_of_getElem? (i := 13) rfl))) (notFace_of_selects (args := #[]) (mvT hZ (hw _ (List.mem_of_getElem? (i := 15) rfl)))) (mvT hZ (hw _ (List.mem_of_getElem? (i := 15) rfl))) (mvT hZ (hw _ (List.mem_of_getElem? (i := 14) rfl))) (by decide) (backOf (W := 0) (rm3 l Z a0 hw [] a (o_l2i z_) b_ n_ k_ (11 : Int32) vs_ d_ i_ h1 n0 Z1 F2 F3 F4 F5 g_a g_b_ ne_a_b_ ⟨(own_nat32 hn).1, own_lt11 hn (by omega)⟩ (own_nat32 hn).2 (by rw [hl]; omega)) hZ (hw _ (List.mem_of_getElem? (i := 16) rfl)) (hw _ (List.mem_of_getElem? (i := 2) rfl)) (by decide) (by decide)) qa7 qc7 (g := (mkF m 44 #[.val (.ref a), .val (.long pv_), .second, .val (.long z_), .second] [(.int (o_l2i z_)), (.ref a)])) rfl (by rw [hml]; rfl) (Steps.refl _) (argsL := [(.int (o_l2i z_))]) (rest := []) (lenOf pd_0 rfl) rfl (by show 2 * 0 + _ ≤ _; exact Nat.le_of_eq rfl) (hb hby d4_44) (fun _ _ => ⟨rfl, e1, (by decide : 0 + 0 ≤ _), (by decide : 0 + 0 ≤ _)⟩)
      dsimp only [Pt.U, Pt.locs, Pt.cells, Pt.slots] at X7 l7 y7 z7 st7 hQ7
      subst l7 y7 z7
      obtain ⟨h7, e7⟩ : ∃ h, T7.heap = h := ⟨_, rfl⟩
      rw [e7] at hQ7
      obtain ⟨rfl, N7q, Kq7, F8, F9, F10, F11⟩ := hQ7
      have Z7 : n0 ≤ h7.size := Nat.le_trans Z1 Kq7.1
      have K7 : Keep h0 h7 [a, b_] := K1.trans Kq7 (allS (Or.inl (List.mem_of_getElem? (i := 0) rfl)) (allS (Or.inl (List.mem_of_getElem? (i := 1) rfl)) all0))
      have N7 := Fr.app N1 N7q
      refine own_viaT st7 ?_
      show own_Go p e below s _ _ _ (T7.setTop (mkF m 47 #[.val (.ref a), .val (.long pv_), .second, .val (.long z_), .second] []))
      have hR12 : (own_enc 9 ((o_lshl pv_ (1 : Int32)) ^^^ (o_lshr pv_ (63 : Int32))) i0_ vs0_) = (i_ + 1, vs_.set i_ (.int (nar .byte (o_i2b (o_l2i z_))))) := by rw [← hr, own_enc]
      exact own_goV X7 hx Bd.returns (hb hby d4_47) Bd.notSynchronized (by decide) (by decide) (by rw [e7]; exact ⟨(n_ + (1 : Int32)), rfl, N7, K7, F8, F9, F10, (by rw [hR12]; exact F11), (by rw [hR12]; exact own_up1 hn (by omega))⟩)
    | succ f_ ih =>
      intro z_ n_ i_ vs_ T1 lo1 h1 X1 e1 N1 Z1 K1 F2 F3 F4 F5 hn hi hl hz hr
      show own_Go p e below s _ _ _ (T1.setTop (mkF m 9 #[.val (.ref a), .val (.long pv_), .second, .val (.long z_), .second] []))
      refine own_via (fun _ k => XS.lloadN X1.here hx rfl (hb hby d4_9) rfl k) ?_
      show own_Go p e below s _ _ _ (T1.setTop (mkF m 10 #[.val (.ref a), .val (.long pv_), .second, .val (.long z_), .second] [(.long z_)]))
      refine own_via (fun _ k => X1.ldc2Long hx hown (mvT hZ (hw _ (List.mem_of_getElem? (i := 24) rfl))) (g := (mkF m 10 #[.val (.ref a), .val (.long pv_), .second, .val (.long z_), .second] [(.long z_)])) rfl (hb hby d4_10) _ k) ?_
      show own_Go p e below s _ _ _ (T1.setTop (mkF m 13 #[.val (.ref a), .val (.long pv_), .second, .val (.long z_), .second] [(.long (-128 : Int64)), (.long z_)]))
      refine own_via (fun _ k => XS.land X1.here hx rfl (hb hby d4_13) rfl k) ?_
      show own_Go p e below s _ _ _ (T1.setTop (mkF m 14 #[.val (.ref a), .val (.long pv_), .second, .val (.long z_), .second] [(.long (z_ &&& (-128 : Int64)))]))
      refine own_via (fun _ k => XS.lconst X1.here hx rfl (hb hby d4_14) k) ?_
      show own_Go p e below s _ _ _ (T1.setTop (mkF m 15 #[.val (.ref a), .val (.long pv_), .second, .val (.long z_), .second] [(.long (0 : Int64)), (.long (z_ &&& (-128 : Int64)))]))
      refine own_via (fun _ k => XS.lcmp X1.here hx rfl (hb hby d4_15) rfl k) ?_
      show own_Go p e below s _ _ _ (T1.setTop (mkF m 16 #[.val (.ref a), .val (.long pv_), .second, .val (.long z_), .second] [(.int (lcmpW (z_ &&& (-128 : Int64)) (0 : Int64)))]))
      by_cases hc13 : (z_ &&& (-128 : Int64)) = (0 : Int64)
      · refine own_via (fun _ k => XS.ifYes X1.here hx rfl (pc0 := 16) (pc' := 41) rfl (hb hby d4_16) rfl (Jvm.Free.XT.ll_eq_t hc13) (by decide) (by decide) k) ?_
        show own_Go p e below s _ _ _ (T1.setTop (mkF m 41 #[.val (.ref a), .val (.long pv_), .second, .val (.long z_), .second] []))
        refine own_via (fun _ k => XS.aloadN X1.here hx rfl (hb hby d4_41) rfl rfl k) ?_
        show own_Go p e below s _ _ _ (T1.setTop (mkF m 42 #[.val (.ref a), .val (.long pv_), .second, .val (.long z_), .second] [(.ref a)]))
        refine own_via (fun _ k => XS.lloadN X1.here hx rfl (hb hby d4_42) rfl k) ?_
        show own_Go p e below s _ _ _ (T1.setTop (mkF m 43 #[.val (.ref a), .val (.long pv_), .second, .val (.long z_), .second] [(.long z_), (.ref a)]))
        refine own_via (fun _ k => XS.l2i X1.here hx rfl (hb hby d4_43) rfl k) ?_
        show own_Go p e below s _ _ _ (T1.setTop (mkF m 44 #[.val (.ref a), .val (.long pv_), .second, .val (.long z_), .second] [(.int (o_l2i z_)), (.ref a)]))
        obtain ⟨cq14, kq14, qa14, qb14, qc14⟩ := isOf hZ e1 F2
        obtain ⟨_, _, ⟨T14, L14, k14, n14⟩, -, X14, ⟨Lc14, hQ14, l14, y14, z14⟩, st14⟩ := X1.virtualBack hx (y := (⟨"com/example/liboutlay/liboutlay/core/ByteOutput", "put", "(I)V"⟩ : MethodName)) (z := (⟨"com/example/liboutlay/liboutlay/core/ByteOutput", "put", "(I)V"⟩ : MethodName)) hown (mvT hZ (hw _ (List.mem_of_getElem? (i := 25) rfl))) (mvT hZ (hw _ (List.mem_of_getElem? (i := 13) rfl))) (notFace_of_selects (args := #[]) (mvT hZ (hw _ (List.mem_of_getElem? (i := 15) rfl)))) (mvT hZ (hw _ (List.mem_of_getElem? (i := 15) rfl))) (mvT hZ (hw _ (List.mem_of_getElem? (i := 14) rfl))) (by decide) (backOf (W := 0) (rm3 l Z a0 hw [] a (o_l2i z_) b_ n_ k_ (11 : Int32) vs_ d_ i_ h1 n0 Z1 F2 F3 F4 F5 g_a g_b_ ne_a_b_ ⟨(own_nat32 hn).1, own_lt11 hn (by omega)⟩ (own_nat32 hn).2 (by rw [hl]; omega)) hZ (hw _ (List.mem_of_getElem? (i := 16) rfl)) (hw _ (List.mem_of_getElem? (i := 2) rfl)) (by decide) (by decide)) qa14 qc14 (g := (mkF m 44 #[.val (.ref a), .val (.long pv_), .second, .val (.long z_), .second] [(.int (o_l2i z_)), (.ref a)])) rfl (by rw [hml]; rfl) (Steps.refl _) (argsL := [(.int (o_l2i z_))]) (rest := []) (lenOf pd_0 rfl) rfl (by show 2 * 0 + _ ≤ _; exact Nat.le_of_eq rfl) (hb hby d4_44) (fun _ _ => ⟨rfl, e1, (by decide : 0 + 0 ≤ _), (by decide : 0 + 0 ≤ _)⟩)
        dsimp only [Pt.U, Pt.locs, Pt.cells, Pt.slots] at X14 l14 y14 z14 st14 hQ14
        subst l14 y14 z14
        obtain ⟨h14, e14⟩ : ∃ h, T14.heap = h := ⟨_, rfl⟩
        rw [e14] at hQ14
        obtain ⟨rfl, N14q, Kq14, F15, F16, F17, F18⟩ := hQ14
        have Z14 : n0 ≤ h14.size := Nat.le_trans Z1 Kq14.1
        have K14 : Keep h0 h14 [a, b_] := K1.trans Kq14 (allS (Or.inl (List.mem_of_getElem? (i := 0) rfl)) (allS (Or.inl (List.mem_of_getElem? (i := 1) rfl)) all0))
        have N14 := Fr.app N1 N14q
        refine own_viaT st14 ?_
        show own_Go p e below s _ _ _ (T14.setTop (mkF m 47 #[.val (.ref a), .val (.long pv_), .second, .val (.long z_), .second] []))
        have hR19 : (own_enc 9 ((o_lshl pv_ (1 : Int32)) ^^^ (o_lshr pv_ (63 : Int32))) i0_ vs0_) = (i_ + 1, vs_.set i_ (.int (nar .byte (o_i2b (o_l2i z_))))) := by rw [← hr, own_enc, if_pos hc13]
        exact own_goV X14 hx Bd.returns (hb hby d4_47) Bd.notSynchronized (by decide) (by decide) (by rw [e14]; exact ⟨(n_ + (1 : Int32)), rfl, N14, K14, F15, F16, F17, (by rw [hR19]; exact F18), (by rw [hR19]; exact own_up1 hn (by omega))⟩)
      · refine own_via (fun _ k => XS.ifNo X1.here hx rfl (hb hby d4_16) rfl (Jvm.Free.XT.ll_eq_f hc13) k) ?_
        show own_Go p e below s _ _ _ (T1.setTop (mkF m 19 #[.val (.ref a), .val (.long pv_), .second, .val (.long z_), .second] []))
        refine own_via (fun _ k => XS.aloadN X1.here hx rfl (hb hby d4_19) rfl rfl k) ?_
        show own_Go p e below s _ _ _ (T1.setTop (mkF m 20 #[.val (.ref a), .val (.long pv_), .second, .val (.long z_), .second] [(.ref a)]))
        refine own_via (fun _ k => XS.lloadN X1.here hx rfl (hb hby d4_20) rfl k) ?_
        show own_Go p e below s _ _ _ (T1.setTop (mkF m 21 #[.val (.ref a), .val (.long pv_), .second, .val (.long z_), .second] [(.long z_), (.ref a)]))
        refine own_via (fun _ k => X1.ldc2Long hx hown (mvT hZ (hw _ (List.mem_of_getElem? (i := 45) rfl))) (g := (mkF m 21 #[.val (.ref a), .val (.long pv_), .second, .val (.long z_), .second] [(.long z_), (.ref a)])) rfl (hb hby d4_21) _ k) ?_
        show own_Go p e below s _ _ _ (T1.setTop (mkF m 24 #[.val (.ref a), .val (.long pv_), .second, .val (.long z_), .second] [(.long (127 : Int64)), (.long z_), (.ref a)]))
        refine own_via (fun _ k => XS.land X1.here hx rfl (hb hby d4_24) rfl k) ?_
        show own_Go p e below s _ _ _ (T1.setTop (mkF m 25 #[.val (.ref a), .val (.long pv_), .second, .val (.long z_), .second] [(.long (z_ &&& (127 : Int64))), (.ref a)]))
        refine own_via (fun _ k => XS.l2i X1.here hx rfl (hb hby d4_25) rfl k) ?_
        show own_Go p e below s _ _ _ (T1.setTop (mkF m 26 #[.val (.ref a), .val (.long pv_), .second, .val (.long z_), .second] [(.int (o_l2i (z_ &&& (127 : Int64)))), (.ref a)]))
        refine own_via (fun _ k => XS.sipush X1.here hx rfl (hb hby d4_26) k) ?_
        show own_Go p e below s _ _ _ (T1.setTop (mkF m 29 #[.val (.ref a), .val (.long pv_), .second, .val (.long z_), .second] [(.int (128 : Int32)), (.int (o_l2i (z_ &&& (127 : Int64)))), (.ref a)]))
        refine own_via (fun _ k => XS.ior X1.here hx rfl (hb hby d4_29) rfl k) ?_
        show own_Go p e below s _ _ _ (T1.setTop (mkF m 30 #[.val (.ref a), .val (.long pv_), .second, .val (.long z_), .second] [(.int ((o_l2i (z_ &&& (127 : Int64))) ||| (128 : Int32))), (.ref a)]))
        obtain ⟨cq20, kq20, qa20, qb20, qc20⟩ := isOf hZ e1 F2
        obtain ⟨_, _, ⟨T20, L20, k20, n20⟩, -, X20, ⟨Lc20, hQ20, l20, y20, z20⟩, st20⟩ := X1.virtualBack hx (y := (⟨"com/example/liboutlay/liboutlay/core/ByteOutput", "put", "(I)V"⟩ : MethodName)) (z := (⟨"com/example/liboutlay/liboutlay/core/ByteOutput", "put", "(I)V"⟩ : MethodName)) hown (mvT hZ (hw _ (List.mem_of_getElem? (i := 25) rfl))) (mvT hZ (hw _ (List.mem_of_getElem? (i := 13) rfl))) (notFace_of_selects (args := #[]) (mvT hZ (hw _ (List.mem_of_getElem? (i := 15) rfl)))) (mvT hZ (hw _ (List.mem_of_getElem? (i := 15) rfl))) (mvT hZ (hw _ (List.mem_of_getElem? (i := 14) rfl))) (by decide) (backOf (W := 0) (rm3 l Z a0 hw [] a ((o_l2i (z_ &&& (127 : Int64))) ||| (128 : Int32)) b_ n_ k_ (11 : Int32) vs_ d_ i_ h1 n0 Z1 F2 F3 F4 F5 g_a g_b_ ne_a_b_ ⟨(own_nat32 hn).1, own_lt11 hn (by omega)⟩ (own_nat32 hn).2 (by rw [hl]; omega)) hZ (hw _ (List.mem_of_getElem? (i := 16) rfl)) (hw _ (List.mem_of_getElem? (i := 2) rfl)) (by decide) (by decide)) qa20 qc20 (g := (mkF m 30 #[.val (.ref a), .val (.long pv_), .second, .val (.long z_), .second] [(.int ((o_l2i (z_ &&& (127 : Int64))) ||| (128 : Int32))), (.ref a)])) rfl (by rw [hml]; rfl) (Steps.refl _) (argsL := [(.int ((o_l2i (z_ &&& (127 : Int64))) ||| (128 : Int32)))]) (rest := []) (lenOf pd_0 rfl) rfl (by show 2 * 0 + _ ≤ _; exact Nat.le_of_eq rfl) (hb hby d4_30) (fun _ _ => ⟨rfl, e1, (by decide : 0 + 0 ≤ _), (by decide : 0 + 0 ≤ _)⟩)
        dsimp only [Pt.U, Pt.locs, Pt.cells, Pt.slots] at X20 l20 y20 z20 st20 hQ20
        subst l20 y20 z20
        obtain ⟨h20, e20⟩ : ∃ h, T20.heap = h := ⟨_, rfl⟩
        rw [e20] at hQ20
        obtain ⟨rfl, N20q, Kq20, F21, F22, F23, F24⟩ := hQ20
        have Z20 : n0 ≤ h20.size := Nat.le_trans Z1 Kq20.1
        have K20 : Keep h0 h20 [a, b_] := K1.trans Kq20 (allS (Or.inl (List.mem_of_getElem? (i := 0) rfl)) (allS (Or.inl (List.mem_of_getElem? (i := 1) rfl)) all0))
        have N20 := Fr.app N1 N20q
        refine own_viaT st20 ?_
        show own_Go p e below s _ _ _ (T20.setTop (mkF m 33 #[.val (.ref a), .val (.long pv_), .second, .val (.long z_), .second] []))
        refine own_via (fun _ k => XS.lloadN X20.here hx rfl (hb hby d4_33) rfl k) ?_
        show own_Go p e below s _ _ _ (T20.setTop (mkF m 34 #[.val (.ref a), .val (.long pv_), .second, .val (.long z_), .second] [(.long z_)]))
        refine own_via (fun _ k => XS.bipush X20.here hx rfl (hb hby d4_34) k) ?_
        show own_Go p e below s _ _ _ (T20.setTop (mkF m 36 #[.val (.ref a), .val (.long pv_), .second, .val (.long z_), .second] [(.int (7 : Int32)), (.long z_)]))
        refine own_via (fun _ k => XS.lushr X20.here hx rfl (hb hby d4_36) rfl k) ?_
        show own_Go p e below s _ _ _ (T20.setTop (mkF m 37 #[.val (.ref a), .val (.long pv_), .second, .val (.long z_), .second] [(.long (o_lushr z_ (7 : Int32)))]))
        refine own_via (fun _ k => XS.lstoreN X20.here hx rfl (hb hby d4_37) rfl (l' := #[.val (.ref a), .val (.long pv_), .second, .val (.long (o_lushr z_ (7 : Int32))), .second]) rfl k) ?_
        show own_Go p e below s _ _ _ (T20.setTop (mkF m 38 #[.val (.ref a), .val (.long pv_), .second, .val (.long (o_lushr z_ (7 : Int32))), .second] []))
        refine own_via (fun _ k => XS.goto X20.here hx rfl (pc0 := 38) (pc' := 9) rfl (hb hby d4_38) (by decide) (by decide) k) ?_
        show own_Go p e below s _ _ _ (T20.setTop (mkF m 9 #[.val (.ref a), .val (.long pv_), .second, .val (.long (o_lushr z_ (7 : Int32))), .second] []))
        exact ih (o_lushr z_ (7 : Int32)) (n_ + (1 : Int32)) (i_ + 1) (vs_.set i_ (.int (nar .byte (o_i2b ((o_l2i (z_ &&& (127 : Int64))) ||| (128 : Int32)))))) _ _ _ X20 e20 N20 Z20 K20 F21 F22 F23 F24 (own_up1 hn (by omega)) (by omega) (by rw [List.length_set]; exact hl) (own_sh7 hz) (by rw [← hr, own_enc, if_neg hc13])
  exact loop 9 ((o_lshl pv_ (1 : Int32)) ^^^ (o_lshr pv_ (63 : Int32))) n0_ i0_ vs0_ _ _ _ X0 e0 N0 Z0 K0 E_a F_bytes_a F_length_a V_b_ (hp7) (by omega) (hp9) (Nat.lt_of_lt_of_le (own_N_lt _) (by decide)) (rfl)
theorem d5_0 : decode method_3_code 0 = .ok (.lload_n 0, 1) := by decide +kernel
theorem d5_1 : decode method_3_code 1 = .ok (.bipush 7, 2) := by decide +kernel
theorem d5_3 : decode method_3_code 3 = .ok (.lushr, 1) := by decide +kernel
theorem d5_4 : decode method_3_code 4 = .ok (.lconst 0, 1) := by decide +kernel
theorem d5_5 : decode method_3_code 5 = .ok (.lcmp, 1) := by decide +kernel
theorem d5_6 : decode method_3_code 6 = .ok (.ifCond .ne 5, 3) := by decide +kernel
theorem d5_9 : decode method_3_code 9 = .ok (.iconst 1, 1) := by decide +kernel
theorem d5_10 : decode method_3_code 10 = .ok (.ireturn, 1) := by decide +kernel
theorem d5_11 : decode method_3_code 11 = .ok (.lload_n 0, 1) := by decide +kernel
theorem d5_12 : decode method_3_code 12 = .ok (.bipush 14, 2) := by decide +kernel
theorem d5_14 : decode method_3_code 14 = .ok (.lushr, 1) := by decide +kernel
theorem d5_15 : decode method_3_code 15 = .ok (.lconst 0, 1) := by decide +kernel
theorem d5_16 : decode method_3_code 16 = .ok (.lcmp, 1) := by decide +kernel
theorem d5_17 : decode method_3_code 17 = .ok (.ifCond .ne 5, 3) := by decide +kernel
theorem d5_20 : decode method_3_code 20 = .ok (.iconst 2, 1) := by decide +kernel
theorem d5_21 : decode method_3_code 21 = .ok (.ireturn, 1) := by decide +kernel
theorem d5_22 : decode method_3_code 22 = .ok (.lload_n 0, 1) := by decide +kernel
theorem d5_23 : decode method_3_code 23 = .ok (.bipush 21, 2) := by decide +kernel
theorem d5_25 : decode method_3_code 25 = .ok (.lushr, 1) := by decide +kernel
theorem d5_26 : decode method_3_code 26 = .ok (.lconst 0, 1) := by decide +kernel
theorem d5_27 : decode method_3_code 27 = .ok (.lcmp, 1) := by decide +kernel
theorem d5_28 : decode method_3_code 28 = .ok (.ifCond .ne 5, 3) := by decide +kernel
theorem d5_31 : decode method_3_code 31 = .ok (.iconst 3, 1) := by decide +kernel
theorem d5_32 : decode method_3_code 32 = .ok (.ireturn, 1) := by decide +kernel
theorem d5_33 : decode method_3_code 33 = .ok (.lload_n 0, 1) := by decide +kernel
theorem d5_34 : decode method_3_code 34 = .ok (.bipush 28, 2) := by decide +kernel
theorem d5_36 : decode method_3_code 36 = .ok (.lushr, 1) := by decide +kernel
theorem d5_37 : decode method_3_code 37 = .ok (.lconst 0, 1) := by decide +kernel
theorem d5_38 : decode method_3_code 38 = .ok (.lcmp, 1) := by decide +kernel
theorem d5_39 : decode method_3_code 39 = .ok (.ifCond .ne 5, 3) := by decide +kernel
theorem d5_42 : decode method_3_code 42 = .ok (.iconst 4, 1) := by decide +kernel
theorem d5_43 : decode method_3_code 43 = .ok (.ireturn, 1) := by decide +kernel
theorem d5_44 : decode method_3_code 44 = .ok (.lload_n 0, 1) := by decide +kernel
theorem d5_45 : decode method_3_code 45 = .ok (.bipush 35, 2) := by decide +kernel
theorem d5_47 : decode method_3_code 47 = .ok (.lushr, 1) := by decide +kernel
theorem d5_48 : decode method_3_code 48 = .ok (.lconst 0, 1) := by decide +kernel
theorem d5_49 : decode method_3_code 49 = .ok (.lcmp, 1) := by decide +kernel
theorem d5_50 : decode method_3_code 50 = .ok (.ifCond .ne 5, 3) := by decide +kernel
theorem d5_53 : decode method_3_code 53 = .ok (.iconst 5, 1) := by decide +kernel
theorem d5_54 : decode method_3_code 54 = .ok (.ireturn, 1) := by decide +kernel
theorem d5_55 : decode method_3_code 55 = .ok (.lload_n 0, 1) := by decide +kernel
theorem d5_56 : decode method_3_code 56 = .ok (.bipush 42, 2) := by decide +kernel
theorem d5_58 : decode method_3_code 58 = .ok (.lushr, 1) := by decide +kernel
theorem d5_59 : decode method_3_code 59 = .ok (.lconst 0, 1) := by decide +kernel
theorem d5_60 : decode method_3_code 60 = .ok (.lcmp, 1) := by decide +kernel
theorem d5_61 : decode method_3_code 61 = .ok (.ifCond .ne 6, 3) := by decide +kernel
theorem d5_64 : decode method_3_code 64 = .ok (.bipush 6, 2) := by decide +kernel
theorem d5_66 : decode method_3_code 66 = .ok (.ireturn, 1) := by decide +kernel
theorem d5_67 : decode method_3_code 67 = .ok (.lload_n 0, 1) := by decide +kernel
theorem d5_68 : decode method_3_code 68 = .ok (.bipush 49, 2) := by decide +kernel
theorem d5_70 : decode method_3_code 70 = .ok (.lushr, 1) := by decide +kernel
theorem d5_71 : decode method_3_code 71 = .ok (.lconst 0, 1) := by decide +kernel
theorem d5_72 : decode method_3_code 72 = .ok (.lcmp, 1) := by decide +kernel
theorem d5_73 : decode method_3_code 73 = .ok (.ifCond .ne 6, 3) := by decide +kernel
theorem d5_76 : decode method_3_code 76 = .ok (.bipush 7, 2) := by decide +kernel
theorem d5_78 : decode method_3_code 78 = .ok (.ireturn, 1) := by decide +kernel
theorem d5_79 : decode method_3_code 79 = .ok (.lload_n 0, 1) := by decide +kernel
theorem d5_80 : decode method_3_code 80 = .ok (.bipush 56, 2) := by decide +kernel
theorem d5_82 : decode method_3_code 82 = .ok (.lushr, 1) := by decide +kernel
theorem d5_83 : decode method_3_code 83 = .ok (.lconst 0, 1) := by decide +kernel
theorem d5_84 : decode method_3_code 84 = .ok (.lcmp, 1) := by decide +kernel
theorem d5_85 : decode method_3_code 85 = .ok (.ifCond .ne 6, 3) := by decide +kernel
theorem d5_88 : decode method_3_code 88 = .ok (.bipush 8, 2) := by decide +kernel
theorem d5_90 : decode method_3_code 90 = .ok (.ireturn, 1) := by decide +kernel
theorem d5_91 : decode method_3_code 91 = .ok (.lload_n 0, 1) := by decide +kernel
theorem d5_92 : decode method_3_code 92 = .ok (.bipush 63, 2) := by decide +kernel
theorem d5_94 : decode method_3_code 94 = .ok (.lushr, 1) := by decide +kernel
theorem d5_95 : decode method_3_code 95 = .ok (.lconst 0, 1) := by decide +kernel
theorem d5_96 : decode method_3_code 96 = .ok (.lcmp, 1) := by decide +kernel
theorem d5_97 : decode method_3_code 97 = .ok (.ifCond .ne 6, 3) := by decide +kernel
theorem d5_100 : decode method_3_code 100 = .ok (.bipush 9, 2) := by decide +kernel
theorem d5_102 : decode method_3_code 102 = .ok (.ireturn, 1) := by decide +kernel
theorem d5_103 : decode method_3_code 103 = .ok (.bipush 10, 2) := by decide +kernel
theorem d5_105 : decode method_3_code 105 = .ok (.ireturn, 1) := by decide +kernel
def own_gr (p0 : Int64) : Int32 := (if (o_lushr p0 (7 : Int32)) = (0 : Int64) then (1 : Int32) else (if (o_lushr p0 (14 : Int32)) = (0 : Int64) then (2 : Int32) else (if (o_lushr p0 (21 : Int32)) = (0 : Int64) then (3 : Int32) else (if (o_lushr p0 (28 : Int32)) = (0 : Int64) then (4 : Int32) else (if (o_lushr p0 (35 : Int32)) = (0 : Int64) then (5 : Int32) else (if (o_lushr p0 (42 : Int32)) = (0 : Int64) then (6 : Int32) else (if (o_lushr p0 (49 : Int32)) = (0 : Int64) then (7 : Int32) else (if (o_lushr p0 (56 : Int32)) = (0 : Int64) then (8 : Int32) else (if (o_lushr p0 (63 : Int32)) = (0 : Int64) then (9 : Int32) else (10 : Int32))))))))))
theorem pn_1 : plainName "com/example/liboutlay/liboutlay/core/ByteOutputNumberPinLaw" = true := by first | (simp [plainName, overriddenIn]; done) | decide +kernel
theorem ef_5 (m : MethodId) (x0 : Int64) : entryFrame m #[(.long x0)] 2 = mkF m 0 #[.val (.long x0), .second] [] := by first | (simp [entryFrame, mkF, argsToLocals, Value.category]; done) | rfl
def Q5 (Z : State) (p0 : Int64) (h0 : Heap) (n0 : Nat) (v : Option Value) (h : Heap) (L : List Loc) : Prop := v = some (.int (own_gr p0)) ∧ Fr n0 L ∧ h = h0
set_option maxRecDepth 65536 in
set_option maxHeartbeats 40000000 in
theorem rm5 (l : Launch) (Z : State) (a0 : Array Value) (hw : ∀ d ∈ tables_1, d.before a0 Z = true) (ws : List Jvm.Cond) (p0 : Int64) (h0 : Heap) (n0 : Nat) (Z0 : n0 ≤ h0.size) :
    MetFree l (⟨"com/example/liboutlay/liboutlay/core/ByteOutputNumberPinLaw", "groups", "(J)I"⟩ : MethodName) (head1 (Jvm.Cond.code (⟨"com/example/liboutlay/liboutlay/core/ByteOutputNumberPinLaw", "groups", "(J)I"⟩ : MethodName) method_3_code 2 (some .int) :: ws) ({ frames := 0, cells := 0, slots := 0, locals := 0 } : Room)) (fun q_ U => q_ = #[(.long p0)] ∧ Z.Warmed39 U.vm ∧ U.heap = h0) (fun _ _ _ _ _ => True) (fun _ U o U' => ∃ v L, o = .returned v ∧ Q5 Z p0 h0 n0 v U'.heap L ∧ FrameEnd U o U' L ({ frames := 0, cells := 0, slots := 0, locals := 0 } : Room).cells ({ frames := 0, cells := 0, slots := 0, locals := 0 } : Room).slots) := by
  refine MetFree.of_bodySF (plainFor_of_name pn_1) hisR ?_
  intro p e s m args below meth c s₁ Bd hml0 hP hK
  obtain ⟨rfl, hZ, hh⟩ := hP
  have hx := Bd.exec
  have hby := Bd.bytes
  have hml : c.maxLocals = 2 := hml0
  have hown : s.vm.findClass "com/example/liboutlay/liboutlay/core/ByteOutputNumberPinLaw" = some m.cls := findClass_of_methodNamed Bd.named
  have hnm := (name_of_methodNamed Bd.named Bd.method).1
  have X0 : Stand p l e ({ frames := 0, cells := 0, slots := 0, locals := 0 } : Room) s m #[(.long p0)] below meth c s₁ [] 0 0 := Stand.of_body Bd
  have e0 : s₁.heap = h0 := by rw [← hh, Bd.state]; rfl
  have N0 := Fr.nil n0
  show own_Go p e below s (Q5 Z p0 h0 n0) ({ frames := 0, cells := 0, slots := 0, locals := 0 } : Room).cells ({ frames := 0, cells := 0, slots := 0, locals := 0 } : Room).slots (s₁.setTop (entryFrame m #[(.long p0)] 2))
  refine own_via (fun t k => castTop (ef_5 m p0) k) ?_
  show own_Go p e below s _ _ _ (s₁.setTop (mkF m 0 #[.val (.long p0), .second] []))
  refine own_via (fun _ k => XS.lloadN X0.here hx rfl (hb hby d5_0) rfl k) ?_
  show own_Go p e below s _ _ _ (s₁.setTop (mkF m 1 #[.val (.long p0), .second] [(.long p0)]))
  refine own_via (fun _ k => XS.bipush X0.here hx rfl (hb hby d5_1) k) ?_
  show own_Go p e below s _ _ _ (s₁.setTop (mkF m 3 #[.val (.long p0), .second] [(.int (7 : Int32)), (.long p0)]))
  refine own_via (fun _ k => XS.lushr X0.here hx rfl (hb hby d5_3) rfl k) ?_
  show own_Go p e below s _ _ _ (s₁.setTop (mkF m 4 #[.val (.long p0), .second] [(.long (o_lushr p0 (7 : Int32)))]))
  refine own_via (fun _ k => XS.lconst X0.here hx rfl (hb hby d5_4) k) ?_
  show own_Go p e below s _ _ _ (s₁.setTop (mkF m 5 #[.val (.long p0), .second] [(.long (0 : Int64)), (.long (o_lushr p0 (7 : Int32)))]))
  refine own_via (fun _ k => XS.lcmp X0.here hx rfl (hb hby d5_5) rfl k) ?_
  show own_Go p e below s _ _ _ (s₁.setTop (mkF m 6 #[.val (.long p0), .second] [(.int (lcmpW (o_lushr p0 (7 : Int32)) (0 : Int64)))]))
  by_cases hc1 : (o_lushr p0 (7 : Int32)) = (0 : Int64)
  · refine own_via (fun _ k => XS.ifNo X0.here hx rfl (hb hby d5_6) rfl (Jvm.Free.XT.ll_ne_f hc1) k) ?_
    show own_Go p e below s _ _ _ (s₁.setTop (mkF m 9 #[.val (.long p0), .second] []))
    refine own_via (fun _ k => XS.iconst X0.here hx rfl (hb hby d5_9) k) ?_
    show own_Go p e below s _ _ _ (s₁.setTop (mkF m 10 #[.val (.long p0), .second] [(.int (1 : Int32))]))
    exact own_goI X0 hx Bd.returns (hb hby d5_10) Bd.notSynchronized (by decide) (by decide) (by rw [e0]; exact ⟨by rw [own_gr, if_pos hc1] <;> rfl, N0, rfl⟩)
  · refine own_via (fun _ k => XS.ifYes X0.here hx rfl (pc0 := 6) (pc' := 11) rfl (hb hby d5_6) rfl (Jvm.Free.XT.ll_ne_t hc1) (by decide) (by decide) k) ?_
    show own_Go p e below s _ _ _ (s₁.setTop (mkF m 11 #[.val (.long p0), .second] []))
    refine own_via (fun _ k => XS.lloadN X0.here hx rfl (hb hby d5_11) rfl k) ?_
    show own_Go p e below s _ _ _ (s₁.setTop (mkF m 12 #[.val (.long p0), .second] [(.long p0)]))
    refine own_via (fun _ k => XS.bipush X0.here hx rfl (hb hby d5_12) k) ?_
    show own_Go p e below s _ _ _ (s₁.setTop (mkF m 14 #[.val (.long p0), .second] [(.int (14 : Int32)), (.long p0)]))
    refine own_via (fun _ k => XS.lushr X0.here hx rfl (hb hby d5_14) rfl k) ?_
    show own_Go p e below s _ _ _ (s₁.setTop (mkF m 15 #[.val (.long p0), .second] [(.long (o_lushr p0 (14 : Int32)))]))
    refine own_via (fun _ k => XS.lconst X0.here hx rfl (hb hby d5_15) k) ?_
    show own_Go p e below s _ _ _ (s₁.setTop (mkF m 16 #[.val (.long p0), .second] [(.long (0 : Int64)), (.long (o_lushr p0 (14 : Int32)))]))
    refine own_via (fun _ k => XS.lcmp X0.here hx rfl (hb hby d5_16) rfl k) ?_
    show own_Go p e below s _ _ _ (s₁.setTop (mkF m 17 #[.val (.long p0), .second] [(.int (lcmpW (o_lushr p0 (14 : Int32)) (0 : Int64)))]))
    by_cases hc2 : (o_lushr p0 (14 : Int32)) = (0 : Int64)
    · refine own_via (fun _ k => XS.ifNo X0.here hx rfl (hb hby d5_17) rfl (Jvm.Free.XT.ll_ne_f hc2) k) ?_
      show own_Go p e below s _ _ _ (s₁.setTop (mkF m 20 #[.val (.long p0), .second] []))
      refine own_via (fun _ k => XS.iconst X0.here hx rfl (hb hby d5_20) k) ?_
      show own_Go p e below s _ _ _ (s₁.setTop (mkF m 21 #[.val (.long p0), .second] [(.int (2 : Int32))]))
      exact own_goI X0 hx Bd.returns (hb hby d5_21) Bd.notSynchronized (by decide) (by decide) (by rw [e0]; exact ⟨by rw [own_gr, if_neg hc1, if_pos hc2] <;> rfl, N0, rfl⟩)
    · refine own_via (fun _ k => XS.ifYes X0.here hx rfl (pc0 := 17) (pc' := 22) rfl (hb hby d5_17) rfl (Jvm.Free.XT.ll_ne_t hc2) (by decide) (by decide) k) ?_
      show own_Go p e below s _ _ _ (s₁.setTop (mkF m 22 #[.val (.long p0), .second] []))
      refine own_via (fun _ k => XS.lloadN X0.here hx rfl (hb hby d5_22) rfl k) ?_
      show own_Go p e below s _ _ _ (s₁.setTop (mkF m 23 #[.val (.long p0), .second] [(.long p0)]))
      refine own_via (fun _ k => XS.bipush X0.here hx rfl (hb hby d5_23) k) ?_
      show own_Go p e below s _ _ _ (s₁.setTop (mkF m 25 #[.val (.long p0), .second] [(.int (21 : Int32)), (.long p0)]))
      refine own_via (fun _ k => XS.lushr X0.here hx rfl (hb hby d5_25) rfl k) ?_
      show own_Go p e below s _ _ _ (s₁.setTop (mkF m 26 #[.val (.long p0), .second] [(.long (o_lushr p0 (21 : Int32)))]))
      refine own_via (fun _ k => XS.lconst X0.here hx rfl (hb hby d5_26) k) ?_
      show own_Go p e below s _ _ _ (s₁.setTop (mkF m 27 #[.val (.long p0), .second] [(.long (0 : Int64)), (.long (o_lushr p0 (21 : Int32)))]))
      refine own_via (fun _ k => XS.lcmp X0.here hx rfl (hb hby d5_27) rfl k) ?_
      show own_Go p e below s _ _ _ (s₁.setTop (mkF m 28 #[.val (.long p0), .second] [(.int (lcmpW (o_lushr p0 (21 : Int32)) (0 : Int64)))]))
      by_cases hc3 : (o_lushr p0 (21 : Int32)) = (0 : Int64)
      · refine own_via (fun _ k => XS.ifNo X0.here hx rfl (hb hby d5_28) rfl (Jvm.Free.XT.ll_ne_f hc3) k) ?_
        show own_Go p e below s _ _ _ (s₁.setTop (mkF m 31 #[.val (.long p0), .second] []))
        refine own_via (fun _ k => XS.iconst X0.here hx rfl (hb hby d5_31) k) ?_
        show own_Go p e below s _ _ _ (s₁.setTop (mkF m 32 #[.val (.long p0), .second] [(.int (3 : Int32))]))
        exact own_goI X0 hx Bd.returns (hb hby d5_32) Bd.notSynchronized (by decide) (by decide) (by rw [e0]; exact ⟨by rw [own_gr, if_neg hc1, if_neg hc2, if_pos hc3] <;> rfl, N0, rfl⟩)
      · refine own_via (fun _ k => XS.ifYes X0.here hx rfl (pc0 := 28) (pc' := 33) rfl (hb hby d5_28) rfl (Jvm.Free.XT.ll_ne_t hc3) (by decide) (by decide) k) ?_
        show own_Go p e below s _ _ _ (s₁.setTop (mkF m 33 #[.val (.long p0), .second] []))
        refine own_via (fun _ k => XS.lloadN X0.here hx rfl (hb hby d5_33) rfl k) ?_
        show own_Go p e below s _ _ _ (s₁.setTop (mkF m 34 #[.val (.long p0), .second] [(.long p0)]))
        refine own_via (fun _ k => XS.bipush X0.here hx rfl (hb hby d5_34) k) ?_
        show own_Go p e below s _ _ _ (s₁.setTop (mkF m 36 #[.val (.long p0), .second] [(.int (28 : Int32)), (.long p0)]))
        refine own_via (fun _ k => XS.lushr X0.here hx rfl (hb hby d5_36) rfl k) ?_
        show own_Go p e below s _ _ _ (s₁.setTop (mkF m 37 #[.val (.long p0), .second] [(.long (o_lushr p0 (28 : Int32)))]))
        refine own_via (fun _ k => XS.lconst X0.here hx rfl (hb hby d5_37) k) ?_
        show own_Go p e below s _ _ _ (s₁.setTop (mkF m 38 #[.val (.long p0), .second] [(.long (0 : Int64)), (.long (o_lushr p0 (28 : Int32)))]))
        refine own_via (fun _ k => XS.lcmp X0.here hx rfl (hb hby d5_38) rfl k) ?_
        show own_Go p e below s _ _ _ (s₁.setTop (mkF m 39 #[.val (.long p0), .second] [(.int (lcmpW (o_lushr p0 (28 : Int32)) (0 : Int64)))]))
        by_cases hc4 : (o_lushr p0 (28 : Int32)) = (0 : Int64)
        · refine own_via (fun _ k => XS.ifNo X0.here hx rfl (hb hby d5_39) rfl (Jvm.Free.XT.ll_ne_f hc4) k) ?_
          show own_Go p e below s _ _ _ (s₁.setTop (mkF m 42 #[.val (.long p0), .second] []))
          refine own_via (fun _ k => XS.iconst X0.here hx rfl (hb hby d5_42) k) ?_
          show own_Go p e below s _ _ _ (s₁.setTop (mkF m 43 #[.val (.long p0), .second] [(.int (4 : Int32))]))
          exact own_goI X0 hx Bd.returns (hb hby d5_43) Bd.notSynchronized (by decide) (by decide) (by rw [e0]; exact ⟨by rw [own_gr, if_neg hc1, if_neg hc2, if_neg hc3, if_pos hc4] <;> rfl, N0, rfl⟩)
        · refine own_via (fun _ k => XS.ifYes X0.here hx rfl (pc0 := 39) (pc' := 44) rfl (hb hby d5_39) rfl (Jvm.Free.XT.ll_ne_t hc4) (by decide) (by decide) k) ?_
          show own_Go p e below s _ _ _ (s₁.setTop (mkF m 44 #[.val (.long p0), .second] []))
          refine own_via (fun _ k => XS.lloadN X0.here hx rfl (hb hby d5_44) rfl k) ?_
          show own_Go p e below s _ _ _ (s₁.setTop (mkF m 45 #[.val (.long p0), .second] [(.long p0)]))
          refine own_via (fun _ k => XS.bipush X0.here hx rfl (hb hby d5_45) k) ?_
          show own_Go p e below s _ _ _ (s₁.setTop (mkF m 47 #[.val (.long p0), .second] [(.int (35 : Int32)), (.long p0)]))
          refine own_via (fun _ k => XS.lushr X0.here hx rfl (hb hby d5_47) rfl k) ?_
          show own_Go p e below s _ _ _ (s₁.setTop (mkF m 48 #[.val (.long p0), .second] [(.long (o_lushr p0 (35 : Int32)))]))
          refine own_via (fun _ k => XS.lconst X0.here hx rfl (hb hby d5_48) k) ?_
          show own_Go p e below s _ _ _ (s₁.setTop (mkF m 49 #[.val (.long p0), .second] [(.long (0 : Int64)), (.long (o_lushr p0 (35 : Int32)))]))
          refine own_via (fun _ k => XS.lcmp X0.here hx rfl (hb hby d5_49) rfl k) ?_
          show own_Go p e below s _ _ _ (s₁.setTop (mkF m 50 #[.val (.long p0), .second] [(.int (lcmpW (o_lushr p0 (35 : Int32)) (0 : Int64)))]))
          by_cases hc5 : (o_lushr p0 (35 : Int32)) = (0 : Int64)
          · refine own_via (fun _ k => XS.ifNo X0.here hx rfl (hb hby d5_50) rfl (Jvm.Free.XT.ll_ne_f hc5) k) ?_
            show own_Go p e below s _ _ _ (s₁.setTop (mkF m 53 #[.val (.long p0), .second] []))
            refine own_via (fun _ k => XS.iconst X0.here hx rfl (hb hby d5_53) k) ?_
            show own_Go p e below s _ _ _ (s₁.setTop (mkF m 54 #[.val (.long p0), .second] [(.int (5 : Int32))]))
            exact own_goI X0 hx Bd.returns (hb hby d5_54) Bd.notSynchronized (by decide) (by decide) (by rw [e0]; exact ⟨by rw [own_gr, if_neg hc1, if_neg hc2, if_neg hc3, if_neg hc4, if_pos hc5] <;> rfl, N0, rfl⟩)
          · refine own_via (fun _ k => XS.ifYes X0.here hx rfl (pc0 := 50) (pc' := 55) rfl (hb hby d5_50) rfl (Jvm.Free.XT.ll_ne_t hc5) (by decide) (by decide) k) ?_
            show own_Go p e below s _ _ _ (s₁.setTop (mkF m 55 #[.val (.long p0), .second] []))
            refine own_via (fun _ k => XS.lloadN X0.here hx rfl (hb hby d5_55) rfl k) ?_
            show own_Go p e below s _ _ _ (s₁.setTop (mkF m 56 #[.val (.long p0), .second] [(.long p0)]))
            refine own_via (fun _ k => XS.bipush X0.here hx rfl (hb hby d5_56) k) ?_
            show own_Go p e below s _ _ _ (s₁.setTop (mkF m 58 #[.val (.long p0), .second] [(.int (42 : Int32)), (.long p0)]))
            refine own_via (fun _ k => XS.lushr X0.here hx rfl (hb hby d5_58) rfl k) ?_
            show own_Go p e below s _ _ _ (s₁.setTop (mkF m 59 #[.val (.long p0), .second] [(.long (o_lushr p0 (42 : Int32)))]))
            refine own_via (fun _ k => XS.lconst X0.here hx rfl (hb hby d5_59) k) ?_
            show own_Go p e below s _ _ _ (s₁.setTop (mkF m 60 #[.val (.long p0), .second] [(.long (0 : Int64)), (.long (o_lushr p0 (42 : Int32)))]))
            refine own_via (fun _ k => XS.lcmp X0.here hx rfl (hb hby d5_60) rfl k) ?_
            show own_Go p e below s _ _ _ (s₁.setTop (mkF m 61 #[.val (.long p0), .second] [(.int (lcmpW (o_lushr p0 (42 : Int32)) (0 : Int64)))]))
            by_cases hc6 : (o_lushr p0 (42 : Int32)) = (0 : Int64)
            · refine own_via (fun _ k => XS.ifNo X0.here hx rfl (hb hby d5_61) rfl (Jvm.Free.XT.ll_ne_f hc6) k) ?_
              show own_Go p e below s _ _ _ (s₁.setTop (mkF m 64 #[.val (.long p0), .second] []))
              refine own_via (fun _ k => XS.bipush X0.here hx rfl (hb hby d5_64) k) ?_
              show own_Go p e below s _ _ _ (s₁.setTop (mkF m 66 #[.val (.long p0), .second] [(.int (6 : Int32))]))
              exact own_goI X0 hx Bd.returns (hb hby d5_66) Bd.notSynchronized (by decide) (by decide) (by rw [e0]; exact ⟨by rw [own_gr, if_neg hc1, if_neg hc2, if_neg hc3, if_neg hc4, if_neg hc5, if_pos hc6] <;> rfl, N0, rfl⟩)
            · refine own_via (fun _ k => XS.ifYes X0.here hx rfl (pc0 := 61) (pc' := 67) rfl (hb hby d5_61) rfl (Jvm.Free.XT.ll_ne_t hc6) (by decide) (by decide) k) ?_
              show own_Go p e below s _ _ _ (s₁.setTop (mkF m 67 #[.val (.long p0), .second] []))
              refine own_via (fun _ k => XS.lloadN X0.here hx rfl (hb hby d5_67) rfl k) ?_
              show own_Go p e below s _ _ _ (s₁.setTop (mkF m 68 #[.val (.long p0), .second] [(.long p0)]))
              refine own_via (fun _ k => XS.bipush X0.here hx rfl (hb hby d5_68) k) ?_
              show own_Go p e below s _ _ _ (s₁.setTop (mkF m 70 #[.val (.long p0), .second] [(.int (49 : Int32)), (.long p0)]))
              refine own_via (fun _ k => XS.lushr X0.here hx rfl (hb hby d5_70) rfl k) ?_
              show own_Go p e below s _ _ _ (s₁.setTop (mkF m 71 #[.val (.long p0), .second] [(.long (o_lushr p0 (49 : Int32)))]))
              refine own_via (fun _ k => XS.lconst X0.here hx rfl (hb hby d5_71) k) ?_
              show own_Go p e below s _ _ _ (s₁.setTop (mkF m 72 #[.val (.long p0), .second] [(.long (0 : Int64)), (.long (o_lushr p0 (49 : Int32)))]))
              refine own_via (fun _ k => XS.lcmp X0.here hx rfl (hb hby d5_72) rfl k) ?_
              show own_Go p e below s _ _ _ (s₁.setTop (mkF m 73 #[.val (.long p0), .second] [(.int (lcmpW (o_lushr p0 (49 : Int32)) (0 : Int64)))]))
              by_cases hc7 : (o_lushr p0 (49 : Int32)) = (0 : Int64)
              · refine own_via (fun _ k => XS.ifNo X0.here hx rfl (hb hby d5_73) rfl (Jvm.Free.XT.ll_ne_f hc7) k) ?_
                show own_Go p e below s _ _ _ (s₁.setTop (mkF m 76 #[.val (.long p0), .second] []))
                refine own_via (fun _ k => XS.bipush X0.here hx rfl (hb hby d5_76) k) ?_
                show own_Go p e below s _ _ _ (s₁.setTop (mkF m 78 #[.val (.long p0), .second] [(.int (7 : Int32))]))
                exact own_goI X0 hx Bd.returns (hb hby d5_78) Bd.notSynchronized (by decide) (by decide) (by rw [e0]; exact ⟨by rw [own_gr, if_neg hc1, if_neg hc2, if_neg hc3, if_neg hc4, if_neg hc5, if_neg hc6, if_pos hc7] <;> rfl, N0, rfl⟩)
              · refine own_via (fun _ k => XS.ifYes X0.here hx rfl (pc0 := 73) (pc' := 79) rfl (hb hby d5_73) rfl (Jvm.Free.XT.ll_ne_t hc7) (by decide) (by decide) k) ?_
                show own_Go p e below s _ _ _ (s₁.setTop (mkF m 79 #[.val (.long p0), .second] []))
                refine own_via (fun _ k => XS.lloadN X0.here hx rfl (hb hby d5_79) rfl k) ?_
                show own_Go p e below s _ _ _ (s₁.setTop (mkF m 80 #[.val (.long p0), .second] [(.long p0)]))
                refine own_via (fun _ k => XS.bipush X0.here hx rfl (hb hby d5_80) k) ?_
                show own_Go p e below s _ _ _ (s₁.setTop (mkF m 82 #[.val (.long p0), .second] [(.int (56 : Int32)), (.long p0)]))
                refine own_via (fun _ k => XS.lushr X0.here hx rfl (hb hby d5_82) rfl k) ?_
                show own_Go p e below s _ _ _ (s₁.setTop (mkF m 83 #[.val (.long p0), .second] [(.long (o_lushr p0 (56 : Int32)))]))
                refine own_via (fun _ k => XS.lconst X0.here hx rfl (hb hby d5_83) k) ?_
                show own_Go p e below s _ _ _ (s₁.setTop (mkF m 84 #[.val (.long p0), .second] [(.long (0 : Int64)), (.long (o_lushr p0 (56 : Int32)))]))
                refine own_via (fun _ k => XS.lcmp X0.here hx rfl (hb hby d5_84) rfl k) ?_
                show own_Go p e below s _ _ _ (s₁.setTop (mkF m 85 #[.val (.long p0), .second] [(.int (lcmpW (o_lushr p0 (56 : Int32)) (0 : Int64)))]))
                by_cases hc8 : (o_lushr p0 (56 : Int32)) = (0 : Int64)
                · refine own_via (fun _ k => XS.ifNo X0.here hx rfl (hb hby d5_85) rfl (Jvm.Free.XT.ll_ne_f hc8) k) ?_
                  show own_Go p e below s _ _ _ (s₁.setTop (mkF m 88 #[.val (.long p0), .second] []))
                  refine own_via (fun _ k => XS.bipush X0.here hx rfl (hb hby d5_88) k) ?_
                  show own_Go p e below s _ _ _ (s₁.setTop (mkF m 90 #[.val (.long p0), .second] [(.int (8 : Int32))]))
                  exact own_goI X0 hx Bd.returns (hb hby d5_90) Bd.notSynchronized (by decide) (by decide) (by rw [e0]; exact ⟨by rw [own_gr, if_neg hc1, if_neg hc2, if_neg hc3, if_neg hc4, if_neg hc5, if_neg hc6, if_neg hc7, if_pos hc8] <;> rfl, N0, rfl⟩)
                · refine own_via (fun _ k => XS.ifYes X0.here hx rfl (pc0 := 85) (pc' := 91) rfl (hb hby d5_85) rfl (Jvm.Free.XT.ll_ne_t hc8) (by decide) (by decide) k) ?_
                  show own_Go p e below s _ _ _ (s₁.setTop (mkF m 91 #[.val (.long p0), .second] []))
                  refine own_via (fun _ k => XS.lloadN X0.here hx rfl (hb hby d5_91) rfl k) ?_
                  show own_Go p e below s _ _ _ (s₁.setTop (mkF m 92 #[.val (.long p0), .second] [(.long p0)]))
                  refine own_via (fun _ k => XS.bipush X0.here hx rfl (hb hby d5_92) k) ?_
                  show own_Go p e below s _ _ _ (s₁.setTop (mkF m 94 #[.val (.long p0), .second] [(.int (63 : Int32)), (.long p0)]))
                  refine own_via (fun _ k => XS.lushr X0.here hx rfl (hb hby d5_94) rfl k) ?_
                  show own_Go p e below s _ _ _ (s₁.setTop (mkF m 95 #[.val (.long p0), .second] [(.long (o_lushr p0 (63 : Int32)))]))
                  refine own_via (fun _ k => XS.lconst X0.here hx rfl (hb hby d5_95) k) ?_
                  show own_Go p e below s _ _ _ (s₁.setTop (mkF m 96 #[.val (.long p0), .second] [(.long (0 : Int64)), (.long (o_lushr p0 (63 : Int32)))]))
                  refine own_via (fun _ k => XS.lcmp X0.here hx rfl (hb hby d5_96) rfl k) ?_
                  show own_Go p e below s _ _ _ (s₁.setTop (mkF m 97 #[.val (.long p0), .second] [(.int (lcmpW (o_lushr p0 (63 : Int32)) (0 : Int64)))]))
                  by_cases hc9 : (o_lushr p0 (63 : Int32)) = (0 : Int64)
                  · refine own_via (fun _ k => XS.ifNo X0.here hx rfl (hb hby d5_97) rfl (Jvm.Free.XT.ll_ne_f hc9) k) ?_
                    show own_Go p e below s _ _ _ (s₁.setTop (mkF m 100 #[.val (.long p0), .second] []))
                    refine own_via (fun _ k => XS.bipush X0.here hx rfl (hb hby d5_100) k) ?_
                    show own_Go p e below s _ _ _ (s₁.setTop (mkF m 102 #[.val (.long p0), .second] [(.int (9 : Int32))]))
                    exact own_goI X0 hx Bd.returns (hb hby d5_102) Bd.notSynchronized (by decide) (by decide) (by rw [e0]; exact ⟨by rw [own_gr, if_neg hc1, if_neg hc2, if_neg hc3, if_neg hc4, if_neg hc5, if_neg hc6, if_neg hc7, if_neg hc8, if_pos hc9] <;> rfl, N0, rfl⟩)
                  · refine own_via (fun _ k => XS.ifYes X0.here hx rfl (pc0 := 97) (pc' := 103) rfl (hb hby d5_97) rfl (Jvm.Free.XT.ll_ne_t hc9) (by decide) (by decide) k) ?_
                    show own_Go p e below s _ _ _ (s₁.setTop (mkF m 103 #[.val (.long p0), .second] []))
                    refine own_via (fun _ k => XS.bipush X0.here hx rfl (hb hby d5_103) k) ?_
                    show own_Go p e below s _ _ _ (s₁.setTop (mkF m 105 #[.val (.long p0), .second] [(.int (10 : Int32))]))
                    exact own_goI X0 hx Bd.returns (hb hby d5_105) Bd.notSynchronized (by decide) (by decide) (by rw [e0]; exact ⟨by rw [own_gr, if_neg hc1, if_neg hc2, if_neg hc3, if_neg hc4, if_neg hc5, if_neg hc6, if_neg hc7, if_neg hc8, if_neg hc9] <;> rfl, N0, rfl⟩)
theorem d8_0 : decode method_4_code 0 = .ok (.iload 4, 2) := by decide +kernel
theorem d8_2 : decode method_4_code 2 = .ok (.iconst 1, 1) := by decide +kernel
theorem d8_3 : decode method_4_code 3 = .ok (.iadd, 1) := by decide +kernel
theorem d8_4 : decode method_4_code 4 = .ok (.istore 5, 2) := by decide +kernel
theorem d8_6 : decode method_4_code 6 = .ok (.iload 4, 2) := by decide +kernel
theorem d8_8 : decode method_4_code 8 = .ok (.iload_n 3, 1) := by decide +kernel
theorem d8_9 : decode method_4_code 9 = .ok (.if_icmp .lt 16, 3) := by decide +kernel
theorem d8_25 : decode method_4_code 25 = .ok (.lload_n 1, 1) := by decide +kernel
theorem d8_26 : decode method_4_code 26 = .ok (.bipush 7, 2) := by decide +kernel
theorem d8_28 : decode method_4_code 28 = .ok (.iload 4, 2) := by decide +kernel
theorem d8_30 : decode method_4_code 30 = .ok (.imul, 1) := by decide +kernel
theorem d8_31 : decode method_4_code 31 = .ok (.lushr, 1) := by decide +kernel
theorem d8_32 : decode method_4_code 32 = .ok (.ldc2_w 39, 3) := by decide +kernel
theorem d8_35 : decode method_4_code 35 = .ok (.land, 1) := by decide +kernel
theorem d8_36 : decode method_4_code 36 = .ok (.l2i, 1) := by decide +kernel
theorem d8_37 : decode method_4_code 37 = .ok (.istore 6, 2) := by decide +kernel
theorem d8_39 : decode method_4_code 39 = .ok (.iload 4, 2) := by decide +kernel
theorem d8_41 : decode method_4_code 41 = .ok (.iload_n 3, 1) := by decide +kernel
theorem d8_42 : decode method_4_code 42 = .ok (.iconst 1, 1) := by decide +kernel
theorem d8_43 : decode method_4_code 43 = .ok (.isub, 1) := by decide +kernel
theorem d8_44 : decode method_4_code 44 = .ok (.if_icmp .ge 12, 3) := by decide +kernel
theorem d8_47 : decode method_4_code 47 = .ok (.iload 6, 2) := by decide +kernel
theorem d8_49 : decode method_4_code 49 = .ok (.sipush 128, 3) := by decide +kernel
theorem d8_52 : decode method_4_code 52 = .ok (.ior, 1) := by decide +kernel
theorem d8_53 : decode method_4_code 53 = .ok (.goto 5, 3) := by decide +kernel
theorem d8_56 : decode method_4_code 56 = .ok (.iload 6, 2) := by decide +kernel
theorem d8_58 : decode method_4_code 58 = .ok (.istore 7, 2) := by decide +kernel
theorem d8_60 : decode method_4_code 60 = .ok (.aload_n 0, 1) := by decide +kernel
theorem d8_61 : decode method_4_code 61 = .ok (.iload 5, 2) := by decide +kernel
theorem d8_63 : decode method_4_code 63 = .ok (.baload, 1) := by decide +kernel
theorem d8_64 : decode method_4_code 64 = .ok (.iload 7, 2) := by decide +kernel
theorem d8_66 : decode method_4_code 66 = .ok (.i2b, 1) := by decide +kernel
theorem d8_67 : decode method_4_code 67 = .ok (.if_icmp .ne 7, 3) := by decide +kernel
theorem d8_70 : decode method_4_code 70 = .ok (.iconst 1, 1) := by decide +kernel
theorem d8_71 : decode method_4_code 71 = .ok (.goto 4, 3) := by decide +kernel
theorem d8_75 : decode method_4_code 75 = .ok (.ireturn, 1) := by decide +kernel
theorem d8_74 : decode method_4_code 74 = .ok (.iconst 0, 1) := by decide +kernel
theorem d8_12 : decode method_4_code 12 = .ok (.aload_n 0, 1) := by decide +kernel
theorem d8_13 : decode method_4_code 13 = .ok (.iload 5, 2) := by decide +kernel
theorem d8_15 : decode method_4_code 15 = .ok (.baload, 1) := by decide +kernel
theorem d8_16 : decode method_4_code 16 = .ok (.ifCond .ne 7, 3) := by decide +kernel
theorem d8_19 : decode method_4_code 19 = .ok (.iconst 1, 1) := by decide +kernel
theorem d8_20 : decode method_4_code 20 = .ok (.goto 4, 3) := by decide +kernel
theorem d8_24 : decode method_4_code 24 = .ok (.ireturn, 1) := by decide +kernel
theorem d8_23 : decode method_4_code 23 = .ok (.iconst 0, 1) := by decide +kernel
def own_ok (w_ : Int32) (z_ : Int64) (n_ : Int32) (i_ : Int32) : Int32 := (if i_ < n_ then (if w_ = (o_i2b (if i_ < (n_ - (1 : Int32)) then ((o_l2i ((o_lushr z_ ((7 : Int32) * i_)) &&& (127 : Int64))) ||| (128 : Int32)) else (o_l2i ((o_lushr z_ ((7 : Int32) * i_)) &&& (127 : Int64))))) then (1 : Int32) else (0 : Int32)) else (if w_ = (0 : Int32) then (1 : Int32) else (0 : Int32)))
theorem ef_8 (m : MethodId) (x0 : Addr) (x1 : Int64) (x2 : Int32) (x3 : Int32) : entryFrame m #[(.ref x0), (.long x1), (.int x2), (.int x3)] 8 = mkF m 0 #[.val (.ref x0), .val (.long x1), .second, .val (.int x2), .val (.int x3), .unset, .unset, .unset] [] := by first | (simp [entryFrame, mkF, argsToLocals, Value.category]; done) | rfl
def Q8 (Z : State) (a_ : Addr) (z_ : Int64) (n_ : Int32) (i_ : Int32) (k_ : ClassId) (zz_ : Int32) (vs_ : List Value) (d_ : Value) (w_ : Int32) (h0 : Heap) (n0 : Nat) (v : Option Value) (h : Heap) (L : List Loc) : Prop := v = some (.int (own_ok w_ z_ n_ i_)) ∧ Fr n0 L ∧ h = h0
set_option maxRecDepth 65536 in
set_option maxHeartbeats 40000000 in
theorem rm8 (l : Launch) (Z : State) (a0 : Array Value) (hw : ∀ d ∈ tables_1, d.before a0 Z = true) (ws : List Jvm.Cond) (a_ : Addr) (z_ : Int64) (n_ : Int32) (i_ : Int32) (k_ : ClassId) (zz_ : Int32) (vs_ : List Value) (d_ : Value) (w_ : Int32) (h0 : Heap) (n0 : Nat) (Z0 : n0 ≤ h0.size) (V_a_ : Arv Z h0 a_ k_ .byte zz_ vs_ d_) (hp1 : ¬ (i_ + (1 : Int32)) < 0 ∧ (i_ + (1 : Int32)) < zz_) (hp2 : vs_.getD ((i_ + (1 : Int32))).toNatClampNeg d_ = (.int w_)) :
    MetFree l (⟨"com/example/liboutlay/liboutlay/core/ByteOutputNumberPinLaw", "ok", "([BJII)Z"⟩ : MethodName) (head1 (Jvm.Cond.code (⟨"com/example/liboutlay/liboutlay/core/ByteOutputNumberPinLaw", "ok", "([BJII)Z"⟩ : MethodName) method_4_code 8 (some .boolean) :: ws) ({ frames := 0, cells := 0, slots := 0, locals := 0 } : Room)) (fun q_ U => q_ = #[(.ref a_), (.long z_), (.int n_), (.int i_)] ∧ Z.Warmed39 U.vm ∧ U.heap = h0) (fun _ _ _ _ _ => True) (fun _ U o U' => ∃ v L, o = .returned v ∧ Q8 Z a_ z_ n_ i_ k_ zz_ vs_ d_ w_ h0 n0 v U'.heap L ∧ FrameEnd U o U' L ({ frames := 0, cells := 0, slots := 0, locals := 0 } : Room).cells ({ frames := 0, cells := 0, slots := 0, locals := 0 } : Room).slots) := by
  refine MetFree.of_bodySF (plainFor_of_name pn_1) hisR ?_
  intro p e s m args below meth c s₁ Bd hml0 hP hK
  obtain ⟨rfl, hZ, hh⟩ := hP
  have hx := Bd.exec
  have hby := Bd.bytes
  have hml : c.maxLocals = 8 := hml0
  have hown : s.vm.findClass "com/example/liboutlay/liboutlay/core/ByteOutputNumberPinLaw" = some m.cls := findClass_of_methodNamed Bd.named
  have hnm := (name_of_methodNamed Bd.named Bd.method).1
  have X0 : Stand p l e ({ frames := 0, cells := 0, slots := 0, locals := 0 } : Room) s m #[(.ref a_), (.long z_), (.int n_), (.int i_)] below meth c s₁ [] 0 0 := Stand.of_body Bd
  have e0 : s₁.heap = h0 := by rw [← hh, Bd.state]; rfl
  have N0 := Fr.nil n0
  show own_Go p e below s (Q8 Z a_ z_ n_ i_ k_ zz_ vs_ d_ w_ h0 n0) ({ frames := 0, cells := 0, slots := 0, locals := 0 } : Room).cells ({ frames := 0, cells := 0, slots := 0, locals := 0 } : Room).slots (s₁.setTop (entryFrame m #[(.ref a_), (.long z_), (.int n_), (.int i_)] 8))
  refine own_via (fun t k => castTop (ef_8 m a_ z_ n_ i_) k) ?_
  show own_Go p e below s _ _ _ (s₁.setTop (mkF m 0 #[.val (.ref a_), .val (.long z_), .second, .val (.int n_), .val (.int i_), .unset, .unset, .unset] []))
  refine own_via (fun _ k => XS.iload X0.here hx rfl (hb hby d8_0) rfl k) ?_
  show own_Go p e below s _ _ _ (s₁.setTop (mkF m 2 #[.val (.ref a_), .val (.long z_), .second, .val (.int n_), .val (.int i_), .unset, .unset, .unset] [(.int i_)]))
  refine own_via (fun _ k => XS.iconst X0.here hx rfl (hb hby d8_2) k) ?_
  show own_Go p e below s _ _ _ (s₁.setTop (mkF m 3 #[.val (.ref a_), .val (.long z_), .second, .val (.int n_), .val (.int i_), .unset, .unset, .unset] [(.int (1 : Int32)), (.int i_)]))
  refine own_via (fun _ k => XS.iadd X0.here hx rfl (hb hby d8_3) rfl k) ?_
  show own_Go p e below s _ _ _ (s₁.setTop (mkF m 4 #[.val (.ref a_), .val (.long z_), .second, .val (.int n_), .val (.int i_), .unset, .unset, .unset] [(.int (i_ + (1 : Int32)))]))
  refine own_via (fun _ k => XS.istore X0.here hx rfl (hb hby d8_4) rfl (l' := #[.val (.ref a_), .val (.long z_), .second, .val (.int n_), .val (.int i_), .val (.int (i_ + (1 : Int32))), .unset, .unset]) rfl k) ?_
  show own_Go p e below s _ _ _ (s₁.setTop (mkF m 6 #[.val (.ref a_), .val (.long z_), .second, .val (.int n_), .val (.int i_), .val (.int (i_ + (1 : Int32))), .unset, .unset] []))
  refine own_via (fun _ k => XS.iload X0.here hx rfl (hb hby d8_6) rfl k) ?_
  show own_Go p e below s _ _ _ (s₁.setTop (mkF m 8 #[.val (.ref a_), .val (.long z_), .second, .val (.int n_), .val (.int i_), .val (.int (i_ + (1 : Int32))), .unset, .unset] [(.int i_)]))
  refine own_via (fun _ k => XS.iloadN X0.here hx rfl (hb hby d8_8) rfl k) ?_
  show own_Go p e below s _ _ _ (s₁.setTop (mkF m 9 #[.val (.ref a_), .val (.long z_), .second, .val (.int n_), .val (.int i_), .val (.int (i_ + (1 : Int32))), .unset, .unset] [(.int n_), (.int i_)]))
  by_cases hc1 : i_ < n_
  · refine own_via (fun _ k => XS.icmpYes X0.here hx rfl (pc0 := 9) (pc' := 25) rfl (hb hby d8_9) rfl (Jvm.Free.XT.ii_lt_t hc1) (by decide) (by decide) k) ?_
    show own_Go p e below s _ _ _ (s₁.setTop (mkF m 25 #[.val (.ref a_), .val (.long z_), .second, .val (.int n_), .val (.int i_), .val (.int (i_ + (1 : Int32))), .unset, .unset] []))
    refine own_via (fun _ k => XS.lloadN X0.here hx rfl (hb hby d8_25) rfl k) ?_
    show own_Go p e below s _ _ _ (s₁.setTop (mkF m 26 #[.val (.ref a_), .val (.long z_), .second, .val (.int n_), .val (.int i_), .val (.int (i_ + (1 : Int32))), .unset, .unset] [(.long z_)]))
    refine own_via (fun _ k => XS.bipush X0.here hx rfl (hb hby d8_26) k) ?_
    show own_Go p e below s _ _ _ (s₁.setTop (mkF m 28 #[.val (.ref a_), .val (.long z_), .second, .val (.int n_), .val (.int i_), .val (.int (i_ + (1 : Int32))), .unset, .unset] [(.int (7 : Int32)), (.long z_)]))
    refine own_via (fun _ k => XS.iload X0.here hx rfl (hb hby d8_28) rfl k) ?_
    show own_Go p e below s _ _ _ (s₁.setTop (mkF m 30 #[.val (.ref a_), .val (.long z_), .second, .val (.int n_), .val (.int i_), .val (.int (i_ + (1 : Int32))), .unset, .unset] [(.int i_), (.int (7 : Int32)), (.long z_)]))
    refine own_via (fun _ k => XS.imul X0.here hx rfl (hb hby d8_30) rfl k) ?_
    show own_Go p e below s _ _ _ (s₁.setTop (mkF m 31 #[.val (.ref a_), .val (.long z_), .second, .val (.int n_), .val (.int i_), .val (.int (i_ + (1 : Int32))), .unset, .unset] [(.int ((7 : Int32) * i_)), (.long z_)]))
    refine own_via (fun _ k => XS.lushr X0.here hx rfl (hb hby d8_31) rfl k) ?_
    show own_Go p e below s _ _ _ (s₁.setTop (mkF m 32 #[.val (.ref a_), .val (.long z_), .second, .val (.int n_), .val (.int i_), .val (.int (i_ + (1 : Int32))), .unset, .unset] [(.long (o_lushr z_ ((7 : Int32) * i_)))]))
    refine own_via (fun _ k => X0.ldc2Long hx hown (mvT hZ (hw _ (List.mem_of_getElem? (i := 44) rfl))) (g := (mkF m 32 #[.val (.ref a_), .val (.long z_), .second, .val (.int n_), .val (.int i_), .val (.int (i_ + (1 : Int32))), .unset, .unset] [(.long (o_lushr z_ ((7 : Int32) * i_)))])) rfl (hb hby d8_32) _ k) ?_
    show own_Go p e below s _ _ _ (s₁.setTop (mkF m 35 #[.val (.ref a_), .val (.long z_), .second, .val (.int n_), .val (.int i_), .val (.int (i_ + (1 : Int32))), .unset, .unset] [(.long (127 : Int64)), (.long (o_lushr z_ ((7 : Int32) * i_)))]))
    refine own_via (fun _ k => XS.land X0.here hx rfl (hb hby d8_35) rfl k) ?_
    show own_Go p e below s _ _ _ (s₁.setTop (mkF m 36 #[.val (.ref a_), .val (.long z_), .second, .val (.int n_), .val (.int i_), .val (.int (i_ + (1 : Int32))), .unset, .unset] [(.long ((o_lushr z_ ((7 : Int32) * i_)) &&& (127 : Int64)))]))
    refine own_via (fun _ k => XS.l2i X0.here hx rfl (hb hby d8_36) rfl k) ?_
    show own_Go p e below s _ _ _ (s₁.setTop (mkF m 37 #[.val (.ref a_), .val (.long z_), .second, .val (.int n_), .val (.int i_), .val (.int (i_ + (1 : Int32))), .unset, .unset] [(.int (o_l2i ((o_lushr z_ ((7 : Int32) * i_)) &&& (127 : Int64))))]))
    refine own_via (fun _ k => XS.istore X0.here hx rfl (hb hby d8_37) rfl (l' := #[.val (.ref a_), .val (.long z_), .second, .val (.int n_), .val (.int i_), .val (.int (i_ + (1 : Int32))), .val (.int (o_l2i ((o_lushr z_ ((7 : Int32) * i_)) &&& (127 : Int64)))), .unset]) rfl k) ?_
    show own_Go p e below s _ _ _ (s₁.setTop (mkF m 39 #[.val (.ref a_), .val (.long z_), .second, .val (.int n_), .val (.int i_), .val (.int (i_ + (1 : Int32))), .val (.int (o_l2i ((o_lushr z_ ((7 : Int32) * i_)) &&& (127 : Int64)))), .unset] []))
    have st2 : ∀ t, Steps p.tables e below (s₁.setTop (mkF m 58 #[.val (.ref a_), .val (.long z_), .second, .val (.int n_), .val (.int i_), .val (.int (i_ + (1 : Int32))), .val (.int (o_l2i ((o_lushr z_ ((7 : Int32) * i_)) &&& (127 : Int64)))), .unset] [(.int (if i_ < (n_ - (1 : Int32)) then ((o_l2i ((o_lushr z_ ((7 : Int32) * i_)) &&& (127 : Int64))) ||| (128 : Int32)) else (o_l2i ((o_lushr z_ ((7 : Int32) * i_)) &&& (127 : Int64)))))])) t → Steps p.tables e below (s₁.setTop (mkF m 39 #[.val (.ref a_), .val (.long z_), .second, .val (.int n_), .val (.int i_), .val (.int (i_ + (1 : Int32))), .val (.int (o_l2i ((o_lushr z_ ((7 : Int32) * i_)) &&& (127 : Int64)))), .unset] [])) t := by
      intro t k
      refine XS.iload X0.here hx rfl (hb hby d8_39) rfl ?_
      show Steps p.tables e below (s₁.setTop (mkF m 41 #[.val (.ref a_), .val (.long z_), .second, .val (.int n_), .val (.int i_), .val (.int (i_ + (1 : Int32))), .val (.int (o_l2i ((o_lushr z_ ((7 : Int32) * i_)) &&& (127 : Int64)))), .unset] [(.int i_)])) t
      refine XS.iloadN X0.here hx rfl (hb hby d8_41) rfl ?_
      show Steps p.tables e below (s₁.setTop (mkF m 42 #[.val (.ref a_), .val (.long z_), .second, .val (.int n_), .val (.int i_), .val (.int (i_ + (1 : Int32))), .val (.int (o_l2i ((o_lushr z_ ((7 : Int32) * i_)) &&& (127 : Int64)))), .unset] [(.int n_), (.int i_)])) t
      refine XS.iconst X0.here hx rfl (hb hby d8_42) ?_
      show Steps p.tables e below (s₁.setTop (mkF m 43 #[.val (.ref a_), .val (.long z_), .second, .val (.int n_), .val (.int i_), .val (.int (i_ + (1 : Int32))), .val (.int (o_l2i ((o_lushr z_ ((7 : Int32) * i_)) &&& (127 : Int64)))), .unset] [(.int (1 : Int32)), (.int n_), (.int i_)])) t
      refine XS.isub X0.here hx rfl (hb hby d8_43) rfl ?_
      show Steps p.tables e below (s₁.setTop (mkF m 44 #[.val (.ref a_), .val (.long z_), .second, .val (.int n_), .val (.int i_), .val (.int (i_ + (1 : Int32))), .val (.int (o_l2i ((o_lushr z_ ((7 : Int32) * i_)) &&& (127 : Int64)))), .unset] [(.int (n_ - (1 : Int32))), (.int i_)])) t
      by_cases hq3 : i_ < (n_ - (1 : Int32))
      · refine XS.icmpNo X0.here hx rfl (hb hby d8_44) rfl (Jvm.Free.XT.ii_ge_f hq3) ?_
        show Steps p.tables e below (s₁.setTop (mkF m 47 #[.val (.ref a_), .val (.long z_), .second, .val (.int n_), .val (.int i_), .val (.int (i_ + (1 : Int32))), .val (.int (o_l2i ((o_lushr z_ ((7 : Int32) * i_)) &&& (127 : Int64)))), .unset] [])) t
        refine XS.iload X0.here hx rfl (hb hby d8_47) rfl ?_
        show Steps p.tables e below (s₁.setTop (mkF m 49 #[.val (.ref a_), .val (.long z_), .second, .val (.int n_), .val (.int i_), .val (.int (i_ + (1 : Int32))), .val (.int (o_l2i ((o_lushr z_ ((7 : Int32) * i_)) &&& (127 : Int64)))), .unset] [(.int (o_l2i ((o_lushr z_ ((7 : Int32) * i_)) &&& (127 : Int64))))])) t
        refine XS.sipush X0.here hx rfl (hb hby d8_49) ?_
        show Steps p.tables e below (s₁.setTop (mkF m 52 #[.val (.ref a_), .val (.long z_), .second, .val (.int n_), .val (.int i_), .val (.int (i_ + (1 : Int32))), .val (.int (o_l2i ((o_lushr z_ ((7 : Int32) * i_)) &&& (127 : Int64)))), .unset] [(.int (128 : Int32)), (.int (o_l2i ((o_lushr z_ ((7 : Int32) * i_)) &&& (127 : Int64))))])) t
        refine XS.ior X0.here hx rfl (hb hby d8_52) rfl ?_
        show Steps p.tables e below (s₁.setTop (mkF m 53 #[.val (.ref a_), .val (.long z_), .second, .val (.int n_), .val (.int i_), .val (.int (i_ + (1 : Int32))), .val (.int (o_l2i ((o_lushr z_ ((7 : Int32) * i_)) &&& (127 : Int64)))), .unset] [(.int ((o_l2i ((o_lushr z_ ((7 : Int32) * i_)) &&& (127 : Int64))) ||| (128 : Int32)))])) t
        refine XS.goto X0.here hx rfl (pc0 := 53) (pc' := 58) rfl (hb hby d8_53) (by decide) (by decide) ?_
        show Steps p.tables e below (s₁.setTop (mkF m 58 #[.val (.ref a_), .val (.long z_), .second, .val (.int n_), .val (.int i_), .val (.int (i_ + (1 : Int32))), .val (.int (o_l2i ((o_lushr z_ ((7 : Int32) * i_)) &&& (127 : Int64)))), .unset] [(.int ((o_l2i ((o_lushr z_ ((7 : Int32) * i_)) &&& (127 : Int64))) ||| (128 : Int32)))])) t
        simp only [if_pos hq3] at k
        exact k
      · refine XS.icmpYes X0.here hx rfl (pc0 := 44) (pc' := 56) rfl (hb hby d8_44) rfl (Jvm.Free.XT.ii_ge_t hq3) (by decide) (by decide) ?_
        show Steps p.tables e below (s₁.setTop (mkF m 56 #[.val (.ref a_), .val (.long z_), .second, .val (.int n_), .val (.int i_), .val (.int (i_ + (1 : Int32))), .val (.int (o_l2i ((o_lushr z_ ((7 : Int32) * i_)) &&& (127 : Int64)))), .unset] [])) t
        refine XS.iload X0.here hx rfl (hb hby d8_56) rfl ?_
        show Steps p.tables e below (s₁.setTop (mkF m 58 #[.val (.ref a_), .val (.long z_), .second, .val (.int n_), .val (.int i_), .val (.int (i_ + (1 : Int32))), .val (.int (o_l2i ((o_lushr z_ ((7 : Int32) * i_)) &&& (127 : Int64)))), .unset] [(.int (o_l2i ((o_lushr z_ ((7 : Int32) * i_)) &&& (127 : Int64))))])) t
        simp only [if_neg hq3] at k
        exact k
    refine own_via st2 ?_
    show own_Go p e below s _ _ _ (s₁.setTop (mkF m 58 #[.val (.ref a_), .val (.long z_), .second, .val (.int n_), .val (.int i_), .val (.int (i_ + (1 : Int32))), .val (.int (o_l2i ((o_lushr z_ ((7 : Int32) * i_)) &&& (127 : Int64)))), .unset] [(.int (if i_ < (n_ - (1 : Int32)) then ((o_l2i ((o_lushr z_ ((7 : Int32) * i_)) &&& (127 : Int64))) ||| (128 : Int32)) else (o_l2i ((o_lushr z_ ((7 : Int32) * i_)) &&& (127 : Int64)))))]))
    refine own_via (fun _ k => XS.istore X0.here hx rfl (hb hby d8_58) rfl (l' := #[.val (.ref a_), .val (.long z_), .second, .val (.int n_), .val (.int i_), .val (.int (i_ + (1 : Int32))), .val (.int (o_l2i ((o_lushr z_ ((7 : Int32) * i_)) &&& (127 : Int64)))), .val (.int (if i_ < (n_ - (1 : Int32)) then ((o_l2i ((o_lushr z_ ((7 : Int32) * i_)) &&& (127 : Int64))) ||| (128 : Int32)) else (o_l2i ((o_lushr z_ ((7 : Int32) * i_)) &&& (127 : Int64)))))]) rfl k) ?_
    show own_Go p e below s _ _ _ (s₁.setTop (mkF m 60 #[.val (.ref a_), .val (.long z_), .second, .val (.int n_), .val (.int i_), .val (.int (i_ + (1 : Int32))), .val (.int (o_l2i ((o_lushr z_ ((7 : Int32) * i_)) &&& (127 : Int64)))), .val (.int (if i_ < (n_ - (1 : Int32)) then ((o_l2i ((o_lushr z_ ((7 : Int32) * i_)) &&& (127 : Int64))) ||| (128 : Int32)) else (o_l2i ((o_lushr z_ ((7 : Int32) * i_)) &&& (127 : Int64)))))] []))
    refine own_via (fun _ k => XS.aloadN X0.here hx rfl (hb hby d8_60) rfl rfl k) ?_
    show own_Go p e below s _ _ _ (s₁.setTop (mkF m 61 #[.val (.ref a_), .val (.long z_), .second, .val (.int n_), .val (.int i_), .val (.int (i_ + (1 : Int32))), .val (.int (o_l2i ((o_lushr z_ ((7 : Int32) * i_)) &&& (127 : Int64)))), .val (.int (if i_ < (n_ - (1 : Int32)) then ((o_l2i ((o_lushr z_ ((7 : Int32) * i_)) &&& (127 : Int64))) ||| (128 : Int32)) else (o_l2i ((o_lushr z_ ((7 : Int32) * i_)) &&& (127 : Int64)))))] [(.ref a_)]))
    refine own_via (fun _ k => XS.iload X0.here hx rfl (hb hby d8_61) rfl k) ?_
    show own_Go p e below s _ _ _ (s₁.setTop (mkF m 63 #[.val (.ref a_), .val (.long z_), .second, .val (.int n_), .val (.int i_), .val (.int (i_ + (1 : Int32))), .val (.int (o_l2i ((o_lushr z_ ((7 : Int32) * i_)) &&& (127 : Int64)))), .val (.int (if i_ < (n_ - (1 : Int32)) then ((o_l2i ((o_lushr z_ ((7 : Int32) * i_)) &&& (127 : Int64))) ||| (128 : Int32)) else (o_l2i ((o_lushr z_ ((7 : Int32) * i_)) &&& (127 : Int64)))))] [(.int (i_ + (1 : Int32))), (.ref a_)]))
    obtain ⟨cl4, Ar4, q4, S4, M4, H4, G4⟩ := (id V_a_)
    have hin4 : ¬ ((i_ + (1 : Int32)) < 0 ∨ cl4.slots.size ≤ ((i_ + (1 : Int32))).toNatClampNeg) := inb_of S4 hp1
    have hat4 : cl4.slots[((i_ + (1 : Int32))).toNatClampNeg]? = some (.int w_) := Has.at H4 hin4 hp2
    refine own_via (fun _ k => X0.baloadBytes hx (j := (i_ + (1 : Int32))) (v := (.int w_)) (by rw [e0]; exact Ar4.1) (State.isArrayOf_alike hZ.alike Ar4.2.1) Ar4.2.2 hin4 hat4 (g := (mkF m 63 #[.val (.ref a_), .val (.long z_), .second, .val (.int n_), .val (.int i_), .val (.int (i_ + (1 : Int32))), .val (.int (o_l2i ((o_lushr z_ ((7 : Int32) * i_)) &&& (127 : Int64)))), .val (.int (if i_ < (n_ - (1 : Int32)) then ((o_l2i ((o_lushr z_ ((7 : Int32) * i_)) &&& (127 : Int64))) ||| (128 : Int32)) else (o_l2i ((o_lushr z_ ((7 : Int32) * i_)) &&& (127 : Int64)))))] [(.int (i_ + (1 : Int32))), (.ref a_)])) rfl rfl (hb hby d8_63) _ k) ?_
    show own_Go p e below s _ _ _ (s₁.setTop (mkF m 64 #[.val (.ref a_), .val (.long z_), .second, .val (.int n_), .val (.int i_), .val (.int (i_ + (1 : Int32))), .val (.int (o_l2i ((o_lushr z_ ((7 : Int32) * i_)) &&& (127 : Int64)))), .val (.int (if i_ < (n_ - (1 : Int32)) then ((o_l2i ((o_lushr z_ ((7 : Int32) * i_)) &&& (127 : Int64))) ||| (128 : Int32)) else (o_l2i ((o_lushr z_ ((7 : Int32) * i_)) &&& (127 : Int64)))))] [(.int w_)]))
    refine own_via (fun _ k => XS.iload X0.here hx rfl (hb hby d8_64) rfl k) ?_
    show own_Go p e below s _ _ _ (s₁.setTop (mkF m 66 #[.val (.ref a_), .val (.long z_), .second, .val (.int n_), .val (.int i_), .val (.int (i_ + (1 : Int32))), .val (.int (o_l2i ((o_lushr z_ ((7 : Int32) * i_)) &&& (127 : Int64)))), .val (.int (if i_ < (n_ - (1 : Int32)) then ((o_l2i ((o_lushr z_ ((7 : Int32) * i_)) &&& (127 : Int64))) ||| (128 : Int32)) else (o_l2i ((o_lushr z_ ((7 : Int32) * i_)) &&& (127 : Int64)))))] [(.int (if i_ < (n_ - (1 : Int32)) then ((o_l2i ((o_lushr z_ ((7 : Int32) * i_)) &&& (127 : Int64))) ||| (128 : Int32)) else (o_l2i ((o_lushr z_ ((7 : Int32) * i_)) &&& (127 : Int64))))), (.int w_)]))
    refine own_via (fun _ k => XS.i2b X0.here hx rfl (hb hby d8_66) rfl k) ?_
    show own_Go p e below s _ _ _ (s₁.setTop (mkF m 67 #[.val (.ref a_), .val (.long z_), .second, .val (.int n_), .val (.int i_), .val (.int (i_ + (1 : Int32))), .val (.int (o_l2i ((o_lushr z_ ((7 : Int32) * i_)) &&& (127 : Int64)))), .val (.int (if i_ < (n_ - (1 : Int32)) then ((o_l2i ((o_lushr z_ ((7 : Int32) * i_)) &&& (127 : Int64))) ||| (128 : Int32)) else (o_l2i ((o_lushr z_ ((7 : Int32) * i_)) &&& (127 : Int64)))))] [(.int (o_i2b (if i_ < (n_ - (1 : Int32)) then ((o_l2i ((o_lushr z_ ((7 : Int32) * i_)) &&& (127 : Int64))) ||| (128 : Int32)) else (o_l2i ((o_lushr z_ ((7 : Int32) * i_)) &&& (127 : Int64)))))), (.int w_)]))
    by_cases hc5 : w_ = (o_i2b (if i_ < (n_ - (1 : Int32)) then ((o_l2i ((o_lushr z_ ((7 : Int32) * i_)) &&& (127 : Int64))) ||| (128 : Int32)) else (o_l2i ((o_lushr z_ ((7 : Int32) * i_)) &&& (127 : Int64)))))
    · refine own_via (fun _ k => XS.icmpNo X0.here hx rfl (hb hby d8_67) rfl (Jvm.Free.XT.ii_ne_f hc5) k) ?_
      show own_Go p e below s _ _ _ (s₁.setTop (mkF m 70 #[.val (.ref a_), .val (.long z_), .second, .val (.int n_), .val (.int i_), .val (.int (i_ + (1 : Int32))), .val (.int (o_l2i ((o_lushr z_ ((7 : Int32) * i_)) &&& (127 : Int64)))), .val (.int (if i_ < (n_ - (1 : Int32)) then ((o_l2i ((o_lushr z_ ((7 : Int32) * i_)) &&& (127 : Int64))) ||| (128 : Int32)) else (o_l2i ((o_lushr z_ ((7 : Int32) * i_)) &&& (127 : Int64)))))] []))
      refine own_via (fun _ k => XS.iconst X0.here hx rfl (hb hby d8_70) k) ?_
      show own_Go p e below s _ _ _ (s₁.setTop (mkF m 71 #[.val (.ref a_), .val (.long z_), .second, .val (.int n_), .val (.int i_), .val (.int (i_ + (1 : Int32))), .val (.int (o_l2i ((o_lushr z_ ((7 : Int32) * i_)) &&& (127 : Int64)))), .val (.int (if i_ < (n_ - (1 : Int32)) then ((o_l2i ((o_lushr z_ ((7 : Int32) * i_)) &&& (127 : Int64))) ||| (128 : Int32)) else (o_l2i ((o_lushr z_ ((7 : Int32) * i_)) &&& (127 : Int64)))))] [(.int (1 : Int32))]))
      refine own_via (fun _ k => XS.goto X0.here hx rfl (pc0 := 71) (pc' := 75) rfl (hb hby d8_71) (by decide) (by decide) k) ?_
      show own_Go p e below s _ _ _ (s₁.setTop (mkF m 75 #[.val (.ref a_), .val (.long z_), .second, .val (.int n_), .val (.int i_), .val (.int (i_ + (1 : Int32))), .val (.int (o_l2i ((o_lushr z_ ((7 : Int32) * i_)) &&& (127 : Int64)))), .val (.int (if i_ < (n_ - (1 : Int32)) then ((o_l2i ((o_lushr z_ ((7 : Int32) * i_)) &&& (127 : Int64))) ||| (128 : Int32)) else (o_l2i ((o_lushr z_ ((7 : Int32) * i_)) &&& (127 : Int64)))))] [(.int (1 : Int32))]))
      exact own_goN X0 hx (t := .boolean) Bd.returns (by simp) (hb hby d8_75) Bd.notSynchronized (by decide) (by decide) (by rw [e0]; exact ⟨by rw [own_ok, if_pos hc1, if_pos hc5] <;> rfl, N0, rfl⟩)
    · refine own_via (fun _ k => XS.icmpYes X0.here hx rfl (pc0 := 67) (pc' := 74) rfl (hb hby d8_67) rfl (Jvm.Free.XT.ii_ne_t hc5) (by decide) (by decide) k) ?_
      show own_Go p e below s _ _ _ (s₁.setTop (mkF m 74 #[.val (.ref a_), .val (.long z_), .second, .val (.int n_), .val (.int i_), .val (.int (i_ + (1 : Int32))), .val (.int (o_l2i ((o_lushr z_ ((7 : Int32) * i_)) &&& (127 : Int64)))), .val (.int (if i_ < (n_ - (1 : Int32)) then ((o_l2i ((o_lushr z_ ((7 : Int32) * i_)) &&& (127 : Int64))) ||| (128 : Int32)) else (o_l2i ((o_lushr z_ ((7 : Int32) * i_)) &&& (127 : Int64)))))] []))
      refine own_via (fun _ k => XS.iconst X0.here hx rfl (hb hby d8_74) k) ?_
      show own_Go p e below s _ _ _ (s₁.setTop (mkF m 75 #[.val (.ref a_), .val (.long z_), .second, .val (.int n_), .val (.int i_), .val (.int (i_ + (1 : Int32))), .val (.int (o_l2i ((o_lushr z_ ((7 : Int32) * i_)) &&& (127 : Int64)))), .val (.int (if i_ < (n_ - (1 : Int32)) then ((o_l2i ((o_lushr z_ ((7 : Int32) * i_)) &&& (127 : Int64))) ||| (128 : Int32)) else (o_l2i ((o_lushr z_ ((7 : Int32) * i_)) &&& (127 : Int64)))))] [(.int (0 : Int32))]))
      exact own_goN X0 hx (t := .boolean) Bd.returns (by simp) (hb hby d8_75) Bd.notSynchronized (by decide) (by decide) (by rw [e0]; exact ⟨by rw [own_ok, if_pos hc1, if_neg hc5] <;> rfl, N0, rfl⟩)
  · refine own_via (fun _ k => XS.icmpNo X0.here hx rfl (hb hby d8_9) rfl (Jvm.Free.XT.ii_lt_f hc1) k) ?_
    show own_Go p e below s _ _ _ (s₁.setTop (mkF m 12 #[.val (.ref a_), .val (.long z_), .second, .val (.int n_), .val (.int i_), .val (.int (i_ + (1 : Int32))), .unset, .unset] []))
    refine own_via (fun _ k => XS.aloadN X0.here hx rfl (hb hby d8_12) rfl rfl k) ?_
    show own_Go p e below s _ _ _ (s₁.setTop (mkF m 13 #[.val (.ref a_), .val (.long z_), .second, .val (.int n_), .val (.int i_), .val (.int (i_ + (1 : Int32))), .unset, .unset] [(.ref a_)]))
    refine own_via (fun _ k => XS.iload X0.here hx rfl (hb hby d8_13) rfl k) ?_
    show own_Go p e below s _ _ _ (s₁.setTop (mkF m 15 #[.val (.ref a_), .val (.long z_), .second, .val (.int n_), .val (.int i_), .val (.int (i_ + (1 : Int32))), .unset, .unset] [(.int (i_ + (1 : Int32))), (.ref a_)]))
    obtain ⟨cl6, Ar6, q6, S6, M6, H6, G6⟩ := (id V_a_)
    have hin6 : ¬ ((i_ + (1 : Int32)) < 0 ∨ cl6.slots.size ≤ ((i_ + (1 : Int32))).toNatClampNeg) := inb_of S6 hp1
    have hat6 : cl6.slots[((i_ + (1 : Int32))).toNatClampNeg]? = some (.int w_) := Has.at H6 hin6 hp2
    refine own_via (fun _ k => X0.baloadBytes hx (j := (i_ + (1 : Int32))) (v := (.int w_)) (by rw [e0]; exact Ar6.1) (State.isArrayOf_alike hZ.alike Ar6.2.1) Ar6.2.2 hin6 hat6 (g := (mkF m 15 #[.val (.ref a_), .val (.long z_), .second, .val (.int n_), .val (.int i_), .val (.int (i_ + (1 : Int32))), .unset, .unset] [(.int (i_ + (1 : Int32))), (.ref a_)])) rfl rfl (hb hby d8_15) _ k) ?_
    show own_Go p e below s _ _ _ (s₁.setTop (mkF m 16 #[.val (.ref a_), .val (.long z_), .second, .val (.int n_), .val (.int i_), .val (.int (i_ + (1 : Int32))), .unset, .unset] [(.int w_)]))
    by_cases hc7 : w_ = (0 : Int32)
    · refine own_via (fun _ k => XS.ifNo X0.here hx rfl (hb hby d8_16) rfl (Jvm.Free.XT.i0_ne_f hc7) k) ?_
      show own_Go p e below s _ _ _ (s₁.setTop (mkF m 19 #[.val (.ref a_), .val (.long z_), .second, .val (.int n_), .val (.int i_), .val (.int (i_ + (1 : Int32))), .unset, .unset] []))
      refine own_via (fun _ k => XS.iconst X0.here hx rfl (hb hby d8_19) k) ?_
      show own_Go p e below s _ _ _ (s₁.setTop (mkF m 20 #[.val (.ref a_), .val (.long z_), .second, .val (.int n_), .val (.int i_), .val (.int (i_ + (1 : Int32))), .unset, .unset] [(.int (1 : Int32))]))
      refine own_via (fun _ k => XS.goto X0.here hx rfl (pc0 := 20) (pc' := 24) rfl (hb hby d8_20) (by decide) (by decide) k) ?_
      show own_Go p e below s _ _ _ (s₁.setTop (mkF m 24 #[.val (.ref a_), .val (.long z_), .second, .val (.int n_), .val (.int i_), .val (.int (i_ + (1 : Int32))), .unset, .unset] [(.int (1 : Int32))]))
      exact own_goN X0 hx (t := .boolean) Bd.returns (by simp) (hb hby d8_24) Bd.notSynchronized (by decide) (by decide) (by rw [e0]; exact ⟨by rw [own_ok, if_neg hc1, if_pos hc7] <;> rfl, N0, rfl⟩)
    · refine own_via (fun _ k => XS.ifYes X0.here hx rfl (pc0 := 16) (pc' := 23) rfl (hb hby d8_16) rfl (Jvm.Free.XT.i0_ne_t hc7) (by decide) (by decide) k) ?_
      show own_Go p e below s _ _ _ (s₁.setTop (mkF m 23 #[.val (.ref a_), .val (.long z_), .second, .val (.int n_), .val (.int i_), .val (.int (i_ + (1 : Int32))), .unset, .unset] []))
      refine own_via (fun _ k => XS.iconst X0.here hx rfl (hb hby d8_23) k) ?_
      show own_Go p e below s _ _ _ (s₁.setTop (mkF m 24 #[.val (.ref a_), .val (.long z_), .second, .val (.int n_), .val (.int i_), .val (.int (i_ + (1 : Int32))), .unset, .unset] [(.int (0 : Int32))]))
      exact own_goN X0 hx (t := .boolean) Bd.returns (by simp) (hb hby d8_24) Bd.notSynchronized (by decide) (by decide) (by rw [e0]; exact ⟨by rw [own_ok, if_neg hc1, if_neg hc7] <;> rfl, N0, rfl⟩)

def own_at : Nat → Int64 → Nat → Int32
  | 0, z, 0 => nar .byte (o_i2b (o_l2i z))
  | 0, _, _ + 1 => 0
  | _ + 1, z, 0 => if (z &&& (-128 : Int64)) = (0 : Int64) then nar .byte (o_i2b (o_l2i z)) else nar .byte (o_i2b ((o_l2i (z &&& (127 : Int64))) ||| (128 : Int32)))
  | f + 1, z, k + 1 => if (z &&& (-128 : Int64)) = (0 : Int64) then 0 else own_at f (o_lushr z (7 : Int32)) k
theorem own_getD_set (vs : List Value) (i j : Nat) (x d : Value) : (vs.set i x).getD j d = if i = j ∧ i < vs.length then x else vs.getD j d := by
  simp only [List.getD_eq_getElem?_getD, List.getElem?_set]
  by_cases h : i = j
  · subst h
    by_cases h2 : i < vs.length
    · simp [h2]
    · simp [h2]
  · simp [h]
theorem own_enc_lt (d : Value) : ∀ (f : Nat) (z : Int64) (i : Nat) (vs : List Value) (j : Nat), j < i → (own_enc f z i vs).2.getD j d = vs.getD j d
  | 0, z, i, vs, j, h => by
    simp only [own_enc]; rw [own_getD_set, if_neg (by omega)]
  | f + 1, z, i, vs, j, h => by
    simp only [own_enc]
    split
    · rw [own_getD_set, if_neg (by omega)]
    · rw [own_enc_lt d f _ (i + 1) _ j (by omega), own_getD_set, if_neg (by omega)]
theorem own_enc_get : ∀ (f : Nat) (z : Int64) (i : Nat) (vs : List Value) (k : Nat), i + f < vs.length → (∀ j, i ≤ j → vs.getD j (.int 0) = .int 0) → (own_enc f z i vs).2.getD (i + k) (.int 0) = .int (own_at f z k)
  | 0, z, i, vs, 0, hl, hz => by
    simp only [own_enc, own_at]; rw [own_getD_set, if_pos (by omega)]
  | 0, z, i, vs, k + 1, hl, hz => by
    simp only [own_enc, own_at]; rw [own_getD_set, if_neg (by omega)]; exact hz _ (by omega)
  | f + 1, z, i, vs, 0, hl, hz => by
    simp only [own_enc, own_at]
    split
    · rw [own_getD_set, if_pos (by omega)]
    · rw [show i + 0 = i from rfl, own_enc_lt (.int 0) f _ (i + 1) _ i (by omega), own_getD_set, if_pos (by omega)]
  | f + 1, z, i, vs, k + 1, hl, hz => by
    simp only [own_enc, own_at]
    split
    · rw [own_getD_set, if_neg (by omega)]; exact hz _ (by omega)
    · rw [show i + (k + 1) = (i + 1) + k by omega]
      exact own_enc_get f _ (i + 1) _ k (by rw [List.length_set]; omega) (fun j hj => by rw [own_getD_set, if_neg (by omega)]; exact hz _ (by omega))
theorem own_get (p : Int32) (z : Int64) (k : Nat) (hk : k < 10) : (own_enc 9 z 1 [(.int (nar .byte (o_i2b p))), (.int (0 : Int32)), (.int (0 : Int32)), (.int (0 : Int32)), (.int (0 : Int32)), (.int (0 : Int32)), (.int (0 : Int32)), (.int (0 : Int32)), (.int (0 : Int32)), (.int (0 : Int32)), (.int (0 : Int32))]).2.getD (1 + k) (.int 0) = .int (own_at 9 z k) := by
  refine own_enc_get 9 z 1 _ k (by simp) (fun j hj => ?_)
  match j, hj with
  | 1, _ => rfl
  | 2, _ => rfl
  | 3, _ => rfl
  | 4, _ => rfl
  | 5, _ => rfl
  | 6, _ => rfl
  | 7, _ => rfl
  | 8, _ => rfl
  | 9, _ => rfl
  | 10, _ => rfl
  | n + 11, _ => rfl
theorem own_get0 (p : Int32) (z : Int64) : (own_enc 9 z 1 [(.int (nar .byte (o_i2b p))), (.int (0 : Int32)), (.int (0 : Int32)), (.int (0 : Int32)), (.int (0 : Int32)), (.int (0 : Int32)), (.int (0 : Int32)), (.int (0 : Int32)), (.int (0 : Int32)), (.int (0 : Int32)), (.int (0 : Int32))]).2.getD 0 (.int 0) = .int (nar .byte (o_i2b p)) := own_enc_lt _ 9 z 1 _ 0 (by decide)
def own_c : Nat → Int64 → Nat
  | 0, _ => 1
  | f + 1, z => if (z &&& (-128 : Int64)) = (0 : Int64) then 1 else own_c f (o_lushr z (7 : Int32)) + 1
theorem own_enc_c : ∀ (f : Nat) (z : Int64) (i : Nat) (vs : List Value), (own_enc f z i vs).1 = i + own_c f z
  | 0, z, i, vs => rfl
  | f + 1, z, i, vs => by
    simp only [own_enc, own_c]
    split
    · rfl
    · rw [own_enc_c f]; omega
theorem own_zig (p : Int64) : ((o_lshl p (1 : Int32)) ^^^ (o_lshr p (63 : Int32))) = (if p < (0 : Int64) then (((-(p + (1 : Int64))) * (2 : Int64)) + (1 : Int64)) else (p * (2 : Int64))) := by
  have e1 : o_lshl p (1 : Int32) = p * 2 := shlmL (by decide)
  have e2 : (o_lshr p (63 : Int32)).toInt = p.toInt / (2 ^ 63 : Nat) := c_lshr p 63 63 (by decide)
  have r := rng64 p
  split
  · rename_i h
    rw [Int64.lt_iff_toInt_lt] at h
    have e3 : o_lshr p (63 : Int32) = -1 := by
      apply Int64.toInt_inj.mp; rw [e2]; simp only [Int64.reduceToInt] at *; omega
    rw [e1, e3]
    apply Int64.toBitVec_inj.mp
    apply BitVec.eq_of_toNat_eq
    have q : own_N (p * 2 ^^^ (-1 : Int64)) = 18446744073709551615 - own_N (p * 2) := by
      show ((p * 2).toBitVec ^^^ BitVec.allOnes 64).toNat = _
      rw [BitVec.xor_allOnes, BitVec.toNat_not]
    show own_N _ = own_N _
    rw [q, own_N_mul, own_N_add, own_N_mul]
    have q2 : own_N (-(p + 1)) = (18446744073709551616 - own_N (p + 1)) % 18446744073709551616 := by
      show (-(p + 1).toBitVec).toNat = _
      rw [BitVec.toNat_neg]
    rw [q2, own_N_add, show own_N (2 : Int64) = 2 from rfl, show own_N (1 : Int64) = 1 from rfl]
    have := own_N_lt p
    have := own_N_int p
    split at this <;> omega
  · rename_i h
    rw [Int64.lt_iff_toInt_lt] at h
    have e3 : o_lshr p (63 : Int32) = 0 := by
      apply Int64.toInt_inj.mp; rw [e2]; simp only [Int64.reduceToInt] at *; omega
    rw [e1, e3, Int64.xor_zero]
theorem own_lz (z : Int64) (q : Int32) (k : Nat) (hk : own_n q % 64 = k) : (o_lushr z q = (0 : Int64)) ↔ own_N z < 2 ^ k := by
  rw [own_N_inj, own_N_lushr z q k hk, show own_N (0 : Int64) = 0 from rfl, Nat.div_eq_zero_iff]
  have := Nat.two_pow_pos k
  omega
def own_G (N : Nat) : Nat := if N < 2 ^ 7 then 1 else if N < 2 ^ 14 then 2 else if N < 2 ^ 21 then 3 else if N < 2 ^ 28 then 4 else if N < 2 ^ 35 then 5 else if N < 2 ^ 42 then 6 else if N < 2 ^ 49 then 7 else if N < 2 ^ 56 then 8 else if N < 2 ^ 63 then 9 else 10
theorem own_gr_G (z : Int64) : (own_gr z).toInt = (own_G (own_N z) : Int) := by
  unfold own_gr own_G
  simp only [own_lz z 7 7 rfl, own_lz z 14 14 rfl, own_lz z 21 21 rfl, own_lz z 28 28 rfl, own_lz z 35 35 rfl, own_lz z 42 42 rfl, own_lz z 49 49 rfl, own_lz z 56 56 rfl, own_lz z 63 63 rfl]
  (repeat' split) <;> rfl
theorem own_c_step (f : Nat) (z : Int64) : own_c (f + 1) z = if own_N z < 128 then 1 else own_c f (o_lushr z (7 : Int32)) + 1 := by
  simp only [own_c, own_and128]
set_option maxHeartbeats 2000000 in
theorem own_c_G (z : Int64) : own_c 9 z = own_G (own_N z) := by
  have hz := own_N_lt z
  have a1 := own_N_lushr z 7 7 rfl
  generalize hq1 : o_lushr z (7 : Int32) = z1 at a1
  have a2 := own_N_lushr z1 7 7 rfl
  generalize hq2 : o_lushr z1 (7 : Int32) = z2 at a2
  have a3 := own_N_lushr z2 7 7 rfl
  generalize hq3 : o_lushr z2 (7 : Int32) = z3 at a3
  have a4 := own_N_lushr z3 7 7 rfl
  generalize hq4 : o_lushr z3 (7 : Int32) = z4 at a4
  have a5 := own_N_lushr z4 7 7 rfl
  generalize hq5 : o_lushr z4 (7 : Int32) = z5 at a5
  have a6 := own_N_lushr z5 7 7 rfl
  generalize hq6 : o_lushr z5 (7 : Int32) = z6 at a6
  have a7 := own_N_lushr z6 7 7 rfl
  generalize hq7 : o_lushr z6 (7 : Int32) = z7 at a7
  have a8 := own_N_lushr z7 7 7 rfl
  generalize hq8 : o_lushr z7 (7 : Int32) = z8 at a8
  rw [own_c_step, hq1, own_c_step, hq2, own_c_step, hq3, own_c_step, hq4, own_c_step, hq5, own_c_step, hq6, own_c_step, hq7, own_c_step, hq8, own_c_step]
  simp only [own_c, own_G]
  generalize own_N z = N at *
  generalize own_N z1 = N1 at *
  generalize own_N z2 = N2 at *
  generalize own_N z3 = N3 at *
  generalize own_N z4 = N4 at *
  generalize own_N z5 = N5 at *
  generalize own_N z6 = N6 at *
  generalize own_N z7 = N7 at *
  generalize own_N z8 = N8 at *
  by_cases c0 : N < 128
  · (rw [if_pos c0, if_pos (show N < 2 ^ 7 by omega)]) <;> rfl
  rw [if_neg c0, if_neg (show ¬ N < 2 ^ 7 by omega)]
  by_cases c1 : N1 < 128
  · (rw [if_pos c1, if_pos (show N < 2 ^ 14 by omega)]) <;> rfl
  rw [if_neg c1, if_neg (show ¬ N < 2 ^ 14 by omega)]
  by_cases c2 : N2 < 128
  · (rw [if_pos c2, if_pos (show N < 2 ^ 21 by omega)]) <;> rfl
  rw [if_neg c2, if_neg (show ¬ N < 2 ^ 21 by omega)]
  by_cases c3 : N3 < 128
  · (rw [if_pos c3, if_pos (show N < 2 ^ 28 by omega)]) <;> rfl
  rw [if_neg c3, if_neg (show ¬ N < 2 ^ 28 by omega)]
  by_cases c4 : N4 < 128
  · (rw [if_pos c4, if_pos (show N < 2 ^ 35 by omega)]) <;> rfl
  rw [if_neg c4, if_neg (show ¬ N < 2 ^ 35 by omega)]
  by_cases c5 : N5 < 128
  · (rw [if_pos c5, if_pos (show N < 2 ^ 42 by omega)]) <;> rfl
  rw [if_neg c5, if_neg (show ¬ N < 2 ^ 42 by omega)]
  by_cases c6 : N6 < 128
  · (rw [if_pos c6, if_pos (show N < 2 ^ 49 by omega)]) <;> rfl
  rw [if_neg c6, if_neg (show ¬ N < 2 ^ 49 by omega)]
  by_cases c7 : N7 < 128
  · (rw [if_pos c7, if_pos (show N < 2 ^ 56 by omega)]) <;> rfl
  rw [if_neg c7, if_neg (show ¬ N < 2 ^ 56 by omega)]
  by_cases c8 : N8 < 128
  · (rw [if_pos c8, if_pos (show N < 2 ^ 63 by omega)]) <;> rfl
  (rw [if_neg c8, if_neg (show ¬ N < 2 ^ 63 by omega)]) <;> rfl
theorem own_G_rng (N : Nat) : 1 ≤ own_G N ∧ own_G N ≤ 10 := by unfold own_G; (repeat' split) <;> omega
theorem own_len1 {p : Int64} {q : Int32} {nf v6 : Int32} {v4 : Int64} (h : nf.toInt = ((own_enc 9 ((o_lshl p (1 : Int32)) ^^^ (o_lshr p (63 : Int32))) 1 [(.int (nar .byte (o_i2b q))), (.int (0 : Int32)), (.int (0 : Int32)), (.int (0 : Int32)), (.int (0 : Int32)), (.int (0 : Int32)), (.int (0 : Int32)), (.int (0 : Int32)), (.int (0 : Int32)), (.int (0 : Int32)), (.int (0 : Int32))]).1 : Int)) (h4 : (if p < (0 : Int64) then (((-(p + (1 : Int64))) * (2 : Int64)) + (1 : Int64)) else (p * (2 : Int64))) = v4) (h6 : own_gr v4 = v6) : nf = ((1 : Int32) + v6) := by
  rw [own_enc_c, own_zig, h4, own_c_G] at h
  apply Int32.toInt_inj.mp
  have g := own_gr_G v4
  rw [h6] at g
  have r := own_G_rng (own_N v4)
  have a := c_iadd 1 v6
  have r2 := rng32 (1 + v6)
  simp only [Int32.reduceToInt] at *
  omega
def own_sh : Int64 → Nat → Int64
  | z, 0 => z
  | z, k + 1 => own_sh (o_lushr z (7 : Int32)) k
theorem own_sh_N : ∀ (k : Nat) (z : Int64), own_N (own_sh z k) = own_N z / 2 ^ (7 * k)
  | 0, z => by simp [own_sh]
  | k + 1, z => by
    rw [own_sh, own_sh_N k, own_N_lushr z 7 7 rfl, Nat.div_div_eq_div_mul, ← Nat.pow_add]; congr 2; omega
theorem own_at_spec : ∀ (f : Nat) (z : Int64) (k : Nat), k ≤ f → own_N z < 2 ^ (7 * (f + 1)) → own_at f z k = if 0 < k ∧ own_N z < 2 ^ (7 * k) then 0 else if own_N z < 2 ^ (7 * (k + 1)) then nar .byte (o_i2b (o_l2i (own_sh z k))) else nar .byte (o_i2b ((o_l2i (own_sh z k &&& (127 : Int64))) ||| (128 : Int32)))
  | 0, z, 0, _, h => by
    rw [if_neg (by omega), if_pos h]; rfl
  | 0, z, k + 1, hk, h => by omega
  | f + 1, z, 0, _, h => by
    rw [if_neg (by omega)]
    (simp only [own_at, own_and128, own_sh]) <;> rfl
  | f + 1, z, k + 1, hk, h => by
    have h7 := own_N_lushr z 7 7 rfl
    have e1 : own_N (o_lushr z (7 : Int32)) < 2 ^ (7 * (f + 1)) := own_sh7 h
    have p1 : 2 ^ (7 * (k + 1)) = 128 * 2 ^ (7 * k) := by rw [show 7 * (k + 1) = 7 + 7 * k by omega, Nat.pow_add]
    have p2 : 2 ^ (7 * (k + 1 + 1)) = 128 * 2 ^ (7 * (k + 1)) := by rw [show 7 * (k + 1 + 1) = 7 + 7 * (k + 1) by omega, Nat.pow_add]
    have q0 := Nat.two_pow_pos (7 * k)
    simp only [own_at, own_and128]
    by_cases c1 : own_N z < 128
    · rw [if_pos c1, if_pos ⟨by omega, by rw [p1]; omega⟩]
    · rw [if_neg c1, own_at_spec f _ k (by omega) e1]
      have t1 : (own_N (o_lushr z (7 : Int32)) < 2 ^ (7 * k)) ↔ own_N z < 2 ^ (7 * (k + 1)) := by rw [h7, p1, Nat.div_lt_iff_lt_mul (by decide), Nat.mul_comm]
      have t2 : (own_N (o_lushr z (7 : Int32)) < 2 ^ (7 * (k + 1))) ↔ own_N z < 2 ^ (7 * (k + 1 + 1)) := by rw [h7, p2, Nat.div_lt_iff_lt_mul (by decide), Nat.mul_comm]
      simp only [t1, t2, own_sh]
      by_cases c2 : own_N z < 2 ^ (7 * (k + 1))
      · have hk0 : 0 < k := by
          rcases Nat.eq_zero_or_pos k with rfl | q
          · exact absurd (by simpa using c2) c1
          · exact q
        rw [if_pos ⟨hk0, c2⟩, if_pos ⟨by omega, c2⟩]
      · rw [if_neg (show ¬ (0 < k ∧ own_N z < 2 ^ (7 * (k + 1))) from fun q => c2 q.2), if_neg (show ¬ (0 < k + 1 ∧ own_N z < 2 ^ (7 * (k + 1))) from fun q => c2 q.2)]
theorem own_okk {z : Int64} {v6 : Int32} (k : Nat) (i : Int32) (hk : k ≤ 9) (h6 : own_gr z = v6) (hi : (i < v6) ↔ ¬ (0 < k ∧ own_N z < 2 ^ (7 * k))) (hj : (i < v6 - (1 : Int32)) ↔ ¬ own_N z < 2 ^ (7 * (k + 1))) (hq : own_n ((7 : Int32) * i) % 64 = 7 * k) : ¬ own_ok (own_at 9 z k) z v6 i = (0 : Int32) := by
  have hN := own_N_lt z
  have es : o_lushr z ((7 : Int32) * i) = own_sh z k := by rw [own_N_inj, own_sh_N, own_N_lushr z _ (7 * k) hq]
  unfold own_ok
  rw [es, own_at_spec 9 z k hk (Nat.lt_of_lt_of_le hN (by decide))]
  by_cases c1 : 0 < k ∧ own_N z < 2 ^ (7 * k)
  · rw [if_pos c1, if_neg (fun q => (hi.mp q) c1), if_pos rfl]; decide
  · rw [if_neg c1, if_pos (hi.mpr c1)]
    by_cases c2 : own_N z < 2 ^ (7 * (k + 1))
    · rw [if_pos c2, if_neg (fun q => (hj.mp q) c2)]
      have e : own_sh z k &&& (127 : Int64) = own_sh z k := by
        rw [own_N_inj, own_N_and, show own_N (127 : Int64) = 2 ^ 7 - 1 from rfl, own_mask, own_sh_N]
        apply Nat.mod_eq_of_lt
        rw [Nat.div_lt_iff_lt_mul (Nat.two_pow_pos _), ← Nat.pow_add]
        rw [show 7 + 7 * k = 7 * (k + 1) by omega]; exact c2
      rw [e, own_nb, if_pos rfl]; decide
    · rw [if_neg c2, if_pos (hj.mpr c2), own_nb, if_pos rfl]; decide

set_option maxHeartbeats 2000000 in
theorem own_k0 {p : Int64} {v6 : Int32} {v4 : Int64} (h4 : (if p < (0 : Int64) then (((-(p + (1 : Int64))) * (2 : Int64)) + (1 : Int64)) else (p * (2 : Int64))) = v4) (h6 : own_gr v4 = v6) : ¬ own_ok (own_at 9 ((o_lshl p (1 : Int32)) ^^^ (o_lshr p (63 : Int32))) 0) v4 v6 (0 : Int32) = (0 : Int32) := by
  rw [own_zig, h4]
  have g := own_gr_G v4
  rw [h6] at g
  have r := own_G_rng (own_N v4)
  have a := c_isub v6 1
  have r2 := rng32 (v6 - 1)
  simp only [Int32.reduceToInt] at a
  refine own_okk 0 0 (by decide) h6 ?_ ?_ (by decide)
  · rw [Int32.lt_iff_toInt_lt, g]
    simp only [Int32.reduceToInt, own_G]
    (repeat' split) <;> omega
  · rw [Int32.lt_iff_toInt_lt]
    have : (v6 - 1).toInt = v6.toInt - 1 := by omega
    rw [this, g]
    have := own_N_lt v4
    simp only [Int32.reduceToInt, own_G]
    (repeat' split) <;> omega

set_option maxHeartbeats 2000000 in
theorem own_k1 {p : Int64} {v6 : Int32} {v4 : Int64} (h4 : (if p < (0 : Int64) then (((-(p + (1 : Int64))) * (2 : Int64)) + (1 : Int64)) else (p * (2 : Int64))) = v4) (h6 : own_gr v4 = v6) : ¬ own_ok (own_at 9 ((o_lshl p (1 : Int32)) ^^^ (o_lshr p (63 : Int32))) 1) v4 v6 (1 : Int32) = (0 : Int32) := by
  rw [own_zig, h4]
  have g := own_gr_G v4
  rw [h6] at g
  have r := own_G_rng (own_N v4)
  have a := c_isub v6 1
  have r2 := rng32 (v6 - 1)
  simp only [Int32.reduceToInt] at a
  refine own_okk 1 1 (by decide) h6 ?_ ?_ (by decide)
  · rw [Int32.lt_iff_toInt_lt, g]
    simp only [Int32.reduceToInt, own_G]
    (repeat' split) <;> omega
  · rw [Int32.lt_iff_toInt_lt]
    have : (v6 - 1).toInt = v6.toInt - 1 := by omega
    rw [this, g]
    have := own_N_lt v4
    simp only [Int32.reduceToInt, own_G]
    (repeat' split) <;> omega

set_option maxHeartbeats 2000000 in
theorem own_k2 {p : Int64} {v6 : Int32} {v4 : Int64} (h4 : (if p < (0 : Int64) then (((-(p + (1 : Int64))) * (2 : Int64)) + (1 : Int64)) else (p * (2 : Int64))) = v4) (h6 : own_gr v4 = v6) : ¬ own_ok (own_at 9 ((o_lshl p (1 : Int32)) ^^^ (o_lshr p (63 : Int32))) 2) v4 v6 (2 : Int32) = (0 : Int32) := by
  rw [own_zig, h4]
  have g := own_gr_G v4
  rw [h6] at g
  have r := own_G_rng (own_N v4)
  have a := c_isub v6 1
  have r2 := rng32 (v6 - 1)
  simp only [Int32.reduceToInt] at a
  refine own_okk 2 2 (by decide) h6 ?_ ?_ (by decide)
  · rw [Int32.lt_iff_toInt_lt, g]
    simp only [Int32.reduceToInt, own_G]
    (repeat' split) <;> omega
  · rw [Int32.lt_iff_toInt_lt]
    have : (v6 - 1).toInt = v6.toInt - 1 := by omega
    rw [this, g]
    have := own_N_lt v4
    simp only [Int32.reduceToInt, own_G]
    (repeat' split) <;> omega

set_option maxHeartbeats 2000000 in
theorem own_k3 {p : Int64} {v6 : Int32} {v4 : Int64} (h4 : (if p < (0 : Int64) then (((-(p + (1 : Int64))) * (2 : Int64)) + (1 : Int64)) else (p * (2 : Int64))) = v4) (h6 : own_gr v4 = v6) : ¬ own_ok (own_at 9 ((o_lshl p (1 : Int32)) ^^^ (o_lshr p (63 : Int32))) 3) v4 v6 (3 : Int32) = (0 : Int32) := by
  rw [own_zig, h4]
  have g := own_gr_G v4
  rw [h6] at g
  have r := own_G_rng (own_N v4)
  have a := c_isub v6 1
  have r2 := rng32 (v6 - 1)
  simp only [Int32.reduceToInt] at a
  refine own_okk 3 3 (by decide) h6 ?_ ?_ (by decide)
  · rw [Int32.lt_iff_toInt_lt, g]
    simp only [Int32.reduceToInt, own_G]
    (repeat' split) <;> omega
  · rw [Int32.lt_iff_toInt_lt]
    have : (v6 - 1).toInt = v6.toInt - 1 := by omega
    rw [this, g]
    have := own_N_lt v4
    simp only [Int32.reduceToInt, own_G]
    (repeat' split) <;> omega

set_option maxHeartbeats 2000000 in
theorem own_k4 {p : Int64} {v6 : Int32} {v4 : Int64} (h4 : (if p < (0 : Int64) then (((-(p + (1 : Int64))) * (2 : Int64)) + (1 : Int64)) else (p * (2 : Int64))) = v4) (h6 : own_gr v4 = v6) : ¬ own_ok (own_at 9 ((o_lshl p (1 : Int32)) ^^^ (o_lshr p (63 : Int32))) 4) v4 v6 (4 : Int32) = (0 : Int32) := by
  rw [own_zig, h4]
  have g := own_gr_G v4
  rw [h6] at g
  have r := own_G_rng (own_N v4)
  have a := c_isub v6 1
  have r2 := rng32 (v6 - 1)
  simp only [Int32.reduceToInt] at a
  refine own_okk 4 4 (by decide) h6 ?_ ?_ (by decide)
  · rw [Int32.lt_iff_toInt_lt, g]
    simp only [Int32.reduceToInt, own_G]
    (repeat' split) <;> omega
  · rw [Int32.lt_iff_toInt_lt]
    have : (v6 - 1).toInt = v6.toInt - 1 := by omega
    rw [this, g]
    have := own_N_lt v4
    simp only [Int32.reduceToInt, own_G]
    (repeat' split) <;> omega

set_option maxHeartbeats 2000000 in
theorem own_k5 {p : Int64} {v6 : Int32} {v4 : Int64} (h4 : (if p < (0 : Int64) then (((-(p + (1 : Int64))) * (2 : Int64)) + (1 : Int64)) else (p * (2 : Int64))) = v4) (h6 : own_gr v4 = v6) : ¬ own_ok (own_at 9 ((o_lshl p (1 : Int32)) ^^^ (o_lshr p (63 : Int32))) 5) v4 v6 (5 : Int32) = (0 : Int32) := by
  rw [own_zig, h4]
  have g := own_gr_G v4
  rw [h6] at g
  have r := own_G_rng (own_N v4)
  have a := c_isub v6 1
  have r2 := rng32 (v6 - 1)
  simp only [Int32.reduceToInt] at a
  refine own_okk 5 5 (by decide) h6 ?_ ?_ (by decide)
  · rw [Int32.lt_iff_toInt_lt, g]
    simp only [Int32.reduceToInt, own_G]
    (repeat' split) <;> omega
  · rw [Int32.lt_iff_toInt_lt]
    have : (v6 - 1).toInt = v6.toInt - 1 := by omega
    rw [this, g]
    have := own_N_lt v4
    simp only [Int32.reduceToInt, own_G]
    (repeat' split) <;> omega

set_option maxHeartbeats 2000000 in
theorem own_k6 {p : Int64} {v6 : Int32} {v4 : Int64} (h4 : (if p < (0 : Int64) then (((-(p + (1 : Int64))) * (2 : Int64)) + (1 : Int64)) else (p * (2 : Int64))) = v4) (h6 : own_gr v4 = v6) : ¬ own_ok (own_at 9 ((o_lshl p (1 : Int32)) ^^^ (o_lshr p (63 : Int32))) 6) v4 v6 (6 : Int32) = (0 : Int32) := by
  rw [own_zig, h4]
  have g := own_gr_G v4
  rw [h6] at g
  have r := own_G_rng (own_N v4)
  have a := c_isub v6 1
  have r2 := rng32 (v6 - 1)
  simp only [Int32.reduceToInt] at a
  refine own_okk 6 6 (by decide) h6 ?_ ?_ (by decide)
  · rw [Int32.lt_iff_toInt_lt, g]
    simp only [Int32.reduceToInt, own_G]
    (repeat' split) <;> omega
  · rw [Int32.lt_iff_toInt_lt]
    have : (v6 - 1).toInt = v6.toInt - 1 := by omega
    rw [this, g]
    have := own_N_lt v4
    simp only [Int32.reduceToInt, own_G]
    (repeat' split) <;> omega

set_option maxHeartbeats 2000000 in
theorem own_k7 {p : Int64} {v6 : Int32} {v4 : Int64} (h4 : (if p < (0 : Int64) then (((-(p + (1 : Int64))) * (2 : Int64)) + (1 : Int64)) else (p * (2 : Int64))) = v4) (h6 : own_gr v4 = v6) : ¬ own_ok (own_at 9 ((o_lshl p (1 : Int32)) ^^^ (o_lshr p (63 : Int32))) 7) v4 v6 (7 : Int32) = (0 : Int32) := by
  rw [own_zig, h4]
  have g := own_gr_G v4
  rw [h6] at g
  have r := own_G_rng (own_N v4)
  have a := c_isub v6 1
  have r2 := rng32 (v6 - 1)
  simp only [Int32.reduceToInt] at a
  refine own_okk 7 7 (by decide) h6 ?_ ?_ (by decide)
  · rw [Int32.lt_iff_toInt_lt, g]
    simp only [Int32.reduceToInt, own_G]
    (repeat' split) <;> omega
  · rw [Int32.lt_iff_toInt_lt]
    have : (v6 - 1).toInt = v6.toInt - 1 := by omega
    rw [this, g]
    have := own_N_lt v4
    simp only [Int32.reduceToInt, own_G]
    (repeat' split) <;> omega

set_option maxHeartbeats 2000000 in
theorem own_k8 {p : Int64} {v6 : Int32} {v4 : Int64} (h4 : (if p < (0 : Int64) then (((-(p + (1 : Int64))) * (2 : Int64)) + (1 : Int64)) else (p * (2 : Int64))) = v4) (h6 : own_gr v4 = v6) : ¬ own_ok (own_at 9 ((o_lshl p (1 : Int32)) ^^^ (o_lshr p (63 : Int32))) 8) v4 v6 (8 : Int32) = (0 : Int32) := by
  rw [own_zig, h4]
  have g := own_gr_G v4
  rw [h6] at g
  have r := own_G_rng (own_N v4)
  have a := c_isub v6 1
  have r2 := rng32 (v6 - 1)
  simp only [Int32.reduceToInt] at a
  refine own_okk 8 8 (by decide) h6 ?_ ?_ (by decide)
  · rw [Int32.lt_iff_toInt_lt, g]
    simp only [Int32.reduceToInt, own_G]
    (repeat' split) <;> omega
  · rw [Int32.lt_iff_toInt_lt]
    have : (v6 - 1).toInt = v6.toInt - 1 := by omega
    rw [this, g]
    have := own_N_lt v4
    simp only [Int32.reduceToInt, own_G]
    (repeat' split) <;> omega

set_option maxHeartbeats 2000000 in
theorem own_k9 {p : Int64} {v6 : Int32} {v4 : Int64} (h4 : (if p < (0 : Int64) then (((-(p + (1 : Int64))) * (2 : Int64)) + (1 : Int64)) else (p * (2 : Int64))) = v4) (h6 : own_gr v4 = v6) : ¬ own_ok (own_at 9 ((o_lshl p (1 : Int32)) ^^^ (o_lshr p (63 : Int32))) 9) v4 v6 (9 : Int32) = (0 : Int32) := by
  rw [own_zig, h4]
  have g := own_gr_G v4
  rw [h6] at g
  have r := own_G_rng (own_N v4)
  have a := c_isub v6 1
  have r2 := rng32 (v6 - 1)
  simp only [Int32.reduceToInt] at a
  refine own_okk 9 9 (by decide) h6 ?_ ?_ (by decide)
  · rw [Int32.lt_iff_toInt_lt, g]
    simp only [Int32.reduceToInt, own_G]
    (repeat' split) <;> omega
  · rw [Int32.lt_iff_toInt_lt]
    have : (v6 - 1).toInt = v6.toInt - 1 := by omega
    rw [this, g]
    have := own_N_lt v4
    simp only [Int32.reduceToInt, own_G]
    (repeat' split) <;> omega

theorem pd_1 : parseMethodDescriptor "(J)V" = some ⟨[.long], none⟩ := by decide +kernel
theorem pd_2 : parseMethodDescriptor "(J)I" = some ⟨[.long], some .int⟩ := by decide +kernel
theorem pd_3 : parseMethodDescriptor "()[B" = some ⟨[], some (.array .byte)⟩ := by decide +kernel
theorem pd_4 : parseMethodDescriptor "()I" = some ⟨[], some .int⟩ := by decide +kernel
theorem pd_5 : parseMethodDescriptor "([BJII)Z" = some ⟨[(.array .byte), .long, .int, .int], some .boolean⟩ := by decide +kernel
theorem ef_0 (m : MethodId) (x0 : Int64) (x1 : Int32) : entryFrame m #[(.long x0), (.int x1)] maxLocals = mkF m 0 #[.val (.long x0), .second, .val (.int x1), .unset, .unset, .unset, .unset, .unset] [] := by first | (simp [entryFrame, mkF, argsToLocals, Value.category, maxLocals]; done) | rfl
def Q0 (Z : State) (p0 : Int64) (p1 : Int32) (h0 : Heap) (n0 : Nat) (v : Option Value) (h : Heap) (L : List Loc) : Prop := v = some (.int 1) ∧ Fr n0 L
set_option maxRecDepth 65536 in
set_option maxHeartbeats 40000000 in
theorem rm0 (l : Launch) (Z : State) (a0 : Array Value) (hw : ∀ d ∈ tables_1, d.before a0 Z = true) (ws : List Jvm.Cond) (p0 : Int64) (p1 : Int32) (h0 : Heap) (n0 : Nat) (Z0 : n0 ≤ h0.size) :
    MetFree l x (head1 (Jvm.Cond.code x code maxLocals ret :: ws) room_1) (fun q_ U => q_ = #[(.long p0), (.int p1)] ∧ Z.Warmed39 U.vm ∧ U.heap = h0) (fun _ _ _ _ _ => True) (fun _ U o U' => ∃ v L, o = .returned v ∧ Q0 Z p0 p1 h0 n0 v U'.heap L ∧ FrameEnd U o U' L room_1.cells room_1.slots) := by
  refine MetFree.of_bodySF (plainFor_of_name pn_1) hisR ?_
  intro p e s m args below meth c s₁ Bd hml0 hP hK
  obtain ⟨rfl, hZ, hh⟩ := hP
  have hx := Bd.exec
  have hby := Bd.bytes
  have hml : c.maxLocals = 8 := hml0
  have hown : s.vm.findClass "com/example/liboutlay/liboutlay/core/ByteOutputNumberPinLaw" = some m.cls := findClass_of_methodNamed Bd.named
  have hnm := (name_of_methodNamed Bd.named Bd.method).1
  have X0 : Stand p l e room_1 s m #[(.long p0), (.int p1)] below meth c s₁ [] 0 0 := Stand.of_body Bd
  have e0 : s₁.heap = h0 := by rw [← hh, Bd.state]; rfl
  have N0 := Fr.nil n0
  show own_Go p e below s (Q0 Z p0 p1 h0 n0) room_1.cells room_1.slots (s₁.setTop (entryFrame m #[(.long p0), (.int p1)] maxLocals))
  refine own_via (fun t k => castTop (ef_0 m p0 p1) k) ?_
  show own_Go p e below s _ _ _ (s₁.setTop (mkF m 0 #[.val (.long p0), .second, .val (.int p1), .unset, .unset, .unset, .unset, .unset] []))
  obtain ⟨T1, h1, X1, e1, E1, A1, D1, -, st1⟩ := newO X0 hx hZ hown (hw _ (List.mem_of_getElem? (i := 0) rfl)) (hw _ (List.mem_of_getElem? (i := 1) rfl)) (hw _ (List.mem_of_getElem? (i := 2) rfl)) e0 (g := (mkF m 0 #[.val (.long p0), .second, .val (.int p1), .unset, .unset, .unset, .unset, .unset] [])) rfl (hb hby at_0) (by decide) (by decide)
  obtain ⟨b1, gg1⟩ : ∃ z, z = h0.size := ⟨_, rfl⟩
  rw [← gg1] at A1 D1 st1
  have g_b1 : n0 ≤ b1 := Nat.le_trans Z0 (Nat.le_of_eq gg1.symm)
  have Z1 : n0 ≤ h1.size := Nat.le_trans Z0 E1.1
  have F2 : Fld Z h1 b1 "com/example/liboutlay/liboutlay/core/ByteOutput" "bytes" "[B" .null := D1 (Or.inl (hw _ (List.mem_of_getElem? (i := 11) rfl))) (ty := (.array .byte)) (by decide)
  have F3 : Fld Z h1 b1 "com/example/liboutlay/liboutlay/core/ByteOutput" "length" "I" (.int (0 : Int32)) := D1 (Or.inl (hw _ (List.mem_of_getElem? (i := 18) rfl))) (ty := .int) (by decide)
  refine own_via st1 ?_
  show own_Go p e below s _ _ _ (T1.setTop (mkF m 3 #[.val (.long p0), .second, .val (.int p1), .unset, .unset, .unset, .unset, .unset] [(.ref b1)]))
  refine own_via (fun _ k => XS.dup X1.here hx rfl (hb hby at_3) rfl rfl k) ?_
  show own_Go p e below s _ _ _ (T1.setTop (mkF m 4 #[.val (.long p0), .second, .val (.int p1), .unset, .unset, .unset, .unset, .unset] [(.ref b1), (.ref b1)]))
  refine own_via (fun _ k => XS.bipush X1.here hx rfl (hb hby at_4) k) ?_
  show own_Go p e below s _ _ _ (T1.setTop (mkF m 6 #[.val (.long p0), .second, .val (.int p1), .unset, .unset, .unset, .unset, .unset] [(.int (11 : Int32)), (.ref b1), (.ref b1)]))
  obtain ⟨_, _, ⟨T4, L4, k4, n4⟩, -, X4, ⟨Lc4, hQ4, l4, y4, z4⟩, st4⟩ := X1.specialBack hx (y := (⟨"com/example/liboutlay/liboutlay/core/ByteOutput", "<init>", "(I)V"⟩ : MethodName)) rfl hown (mvT hZ (hw _ (List.mem_of_getElem? (i := 3) rfl))) (mvT hZ (hw _ (List.mem_of_getElem? (i := 4) rfl))) (mvT hZ (hw _ (List.mem_of_getElem? (i := 5) rfl))) (by decide) (backOf (W := 1) (rm1 l Z a0 hw [] b1 (11 : Int32) h1 n0 Z1 A1 F2 F3 g_b1 (by first | decide | (simp; done)) (by first | decide | (simp; done))) hZ (hw _ (List.mem_of_getElem? (i := 5) rfl)) (hw _ (List.mem_of_getElem? (i := 2) rfl)) (by decide) (by decide)) (g := (mkF m 6 #[.val (.long p0), .second, .val (.int p1), .unset, .unset, .unset, .unset, .unset] [(.int (11 : Int32)), (.ref b1), (.ref b1)])) rfl (by rw [hml]; rfl) (Steps.refl _) (a := b1) (argsL := [(.int (11 : Int32))]) (rest := [(.ref b1)]) (lenOf pd_0 rfl) rfl (by show 2 * 0 + _ ≤ _; exact Nat.le_of_eq rfl) (hb hby at_6) (fun _ _ => ⟨rfl, e1, (by decide : 1 + 1 ≤ _), (by decide : 2 + 11 ≤ _)⟩)
  dsimp only [Pt.U, Pt.locs, Pt.cells, Pt.slots] at X4 l4 y4 z4 st4 hQ4
  subst l4 y4 z4
  obtain ⟨h4, e4⟩ : ∃ h, T4.heap = h := ⟨_, rfl⟩
  rw [e4] at hQ4
  obtain ⟨b_4, k_4, rfl, N4q, Kq4, F5, F6, F7, F8, F9⟩ := hQ4
  have ne_b1_b_4 : b1 ≠ b_4 := Nat.ne_of_lt (Nat.lt_of_lt_of_le A1.lt F5)
  have g_b_4 : n0 ≤ b_4 := Nat.le_trans Z1 F5
  have Z4 : n0 ≤ h4.size := Nat.le_trans Z1 Kq4.1
  have N4 := Fr.app N0 N4q
  refine own_viaT st4 ?_
  show own_Go p e below s _ _ _ (T4.setTop (mkF m 9 #[.val (.long p0), .second, .val (.int p1), .unset, .unset, .unset, .unset, .unset] [(.ref b1)]))
  refine own_via (fun _ k => XS.astoreN X4.here hx rfl (hb hby at_9) rfl rfl (l' := #[.val (.long p0), .second, .val (.int p1), .val (.ref b1), .unset, .unset, .unset, .unset]) rfl k) ?_
  show own_Go p e below s _ _ _ (T4.setTop (mkF m 10 #[.val (.long p0), .second, .val (.int p1), .val (.ref b1), .unset, .unset, .unset, .unset] []))
  refine own_via (fun _ k => XS.aloadN X4.here hx rfl (hb hby at_10) rfl rfl k) ?_
  show own_Go p e below s _ _ _ (T4.setTop (mkF m 11 #[.val (.long p0), .second, .val (.int p1), .val (.ref b1), .unset, .unset, .unset, .unset] [(.ref b1)]))
  refine own_via (fun _ k => XS.iloadN X4.here hx rfl (hb hby at_11) rfl k) ?_
  show own_Go p e below s _ _ _ (T4.setTop (mkF m 12 #[.val (.long p0), .second, .val (.int p1), .val (.ref b1), .unset, .unset, .unset, .unset] [(.int p1), (.ref b1)]))
  obtain ⟨cq10, kq10, qa10, qb10, qc10⟩ := isOf hZ e4 F6
  obtain ⟨_, _, ⟨T10, L10, k10, n10⟩, -, X10, ⟨Lc10, hQ10, l10, y10, z10⟩, st10⟩ := X4.virtualBack hx (y := (⟨"com/example/liboutlay/liboutlay/core/ByteOutput", "put", "(I)V"⟩ : MethodName)) (z := (⟨"com/example/liboutlay/liboutlay/core/ByteOutput", "put", "(I)V"⟩ : MethodName)) hown (mvT hZ (hw _ (List.mem_of_getElem? (i := 12) rfl))) (mvT hZ (hw _ (List.mem_of_getElem? (i := 13) rfl))) (notFace_of_selects (args := #[]) (mvT hZ (hw _ (List.mem_of_getElem? (i := 15) rfl)))) (mvT hZ (hw _ (List.mem_of_getElem? (i := 15) rfl))) (mvT hZ (hw _ (List.mem_of_getElem? (i := 14) rfl))) (by decide) (backOf (W := 0) (rm3 l Z a0 hw [] b1 p1 b_4 (0 : Int32) k_4 (11 : Int32) [(.int (0 : Int32)), (.int (0 : Int32)), (.int (0 : Int32)), (.int (0 : Int32)), (.int (0 : Int32)), (.int (0 : Int32)), (.int (0 : Int32)), (.int (0 : Int32)), (.int (0 : Int32)), (.int (0 : Int32)), (.int (0 : Int32))] (.int (0 : Int32)) 0 h4 n0 Z4 F6 F7 F8 F9 g_b1 g_b_4 ne_b1_b_4 (by first | decide | (simp; done)) (by first | decide | (simp; done)) (by first | decide | (simp; done))) hZ (hw _ (List.mem_of_getElem? (i := 16) rfl)) (hw _ (List.mem_of_getElem? (i := 2) rfl)) (by decide) (by decide)) qa10 qc10 (g := (mkF m 12 #[.val (.long p0), .second, .val (.int p1), .val (.ref b1), .unset, .unset, .unset, .unset] [(.int p1), (.ref b1)])) rfl (by rw [hml]; rfl) (Steps.refl _) (argsL := [(.int p1)]) (rest := []) (lenOf pd_0 rfl) rfl (by show 2 * 0 + _ ≤ _; exact Nat.le_of_eq rfl) (hb hby at_12) (fun _ _ => ⟨rfl, e4, (by decide : 2 + 0 ≤ _), (by decide : 13 + 0 ≤ _)⟩)
  dsimp only [Pt.U, Pt.locs, Pt.cells, Pt.slots] at X10 l10 y10 z10 st10 hQ10
  subst l10 y10 z10
  obtain ⟨h10, e10⟩ : ∃ h, T10.heap = h := ⟨_, rfl⟩
  rw [e10] at hQ10
  obtain ⟨rfl, N10q, Kq10, F11, F12, F13, F14⟩ := hQ10
  have Z10 : n0 ≤ h10.size := Nat.le_trans Z4 Kq10.1
  have F15 : Fld Z h10 b1 "com/example/liboutlay/liboutlay/core/ByteOutput" "length" "I" (.int (1 : Int32)) := F13
  have F16 : Arv Z h10 b_4 k_4 .byte (11 : Int32) [(.int (nar .byte (o_i2b p1))), (.int (0 : Int32)), (.int (0 : Int32)), (.int (0 : Int32)), (.int (0 : Int32)), (.int (0 : Int32)), (.int (0 : Int32)), (.int (0 : Int32)), (.int (0 : Int32)), (.int (0 : Int32)), (.int (0 : Int32))] (.int (0 : Int32)) := F14
  have N10 := Fr.app N4 N10q
  refine own_viaT st10 ?_
  show own_Go p e below s _ _ _ (T10.setTop (mkF m 15 #[.val (.long p0), .second, .val (.int p1), .val (.ref b1), .unset, .unset, .unset, .unset] []))
  refine own_via (fun _ k => XS.aloadN X10.here hx rfl (hb hby at_15) rfl rfl k) ?_
  show own_Go p e below s _ _ _ (T10.setTop (mkF m 16 #[.val (.long p0), .second, .val (.int p1), .val (.ref b1), .unset, .unset, .unset, .unset] [(.ref b1)]))
  refine own_via (fun _ k => XS.lloadN X10.here hx rfl (hb hby at_16) rfl k) ?_
  show own_Go p e below s _ _ _ (T10.setTop (mkF m 17 #[.val (.long p0), .second, .val (.int p1), .val (.ref b1), .unset, .unset, .unset, .unset] [(.long p0), (.ref b1)]))
  obtain ⟨cq17, kq17, qa17, qb17, qc17⟩ := isOf hZ e10 F11
  obtain ⟨_, _, ⟨T17, L17, k17, n17⟩, -, X17, ⟨Lc17, hQ17, l17, y17, z17⟩, st17⟩ := X10.virtualBack hx (y := (⟨"com/example/liboutlay/liboutlay/core/ByteOutput", "number", "(J)V"⟩ : MethodName)) (z := (⟨"com/example/liboutlay/liboutlay/core/ByteOutput", "number", "(J)V"⟩ : MethodName)) hown (mvT hZ (hw _ (List.mem_of_getElem? (i := 19) rfl))) (mvT hZ (hw _ (List.mem_of_getElem? (i := 20) rfl))) (notFace_of_selects (args := #[]) (mvT hZ (hw _ (List.mem_of_getElem? (i := 22) rfl)))) (mvT hZ (hw _ (List.mem_of_getElem? (i := 22) rfl))) (mvT hZ (hw _ (List.mem_of_getElem? (i := 21) rfl))) (by decide) (backOf (W := 0) (rm4 l Z a0 hw [] b1 p0 b_4 (1 : Int32) k_4 [(.int (nar .byte (o_i2b p1))), (.int (0 : Int32)), (.int (0 : Int32)), (.int (0 : Int32)), (.int (0 : Int32)), (.int (0 : Int32)), (.int (0 : Int32)), (.int (0 : Int32)), (.int (0 : Int32)), (.int (0 : Int32)), (.int (0 : Int32))] (.int (0 : Int32)) 1 h10 n0 Z10 F11 F12 F15 F16 g_b1 g_b_4 ne_b1_b_4 (by decide) (by decide) rfl) hZ (hw _ (List.mem_of_getElem? (i := 23) rfl)) (hw _ (List.mem_of_getElem? (i := 2) rfl)) (by decide) (by decide)) qa17 qc17 (g := (mkF m 17 #[.val (.long p0), .second, .val (.int p1), .val (.ref b1), .unset, .unset, .unset, .unset] [(.long p0), (.ref b1)])) rfl (by rw [hml]; rfl) (Steps.refl _) (argsL := [(.long p0)]) (rest := []) (lenOf pd_1 rfl) rfl (by show 2 * 0 + _ ≤ _; exact Nat.le_of_eq rfl) (hb hby at_17) (fun _ _ => ⟨rfl, e10, (by decide : 2 + 0 ≤ _), (by decide : 13 + 0 ≤ _)⟩)
  dsimp only [Pt.U, Pt.locs, Pt.cells, Pt.slots] at X17 l17 y17 z17 st17 hQ17
  subst l17 y17 z17
  obtain ⟨h17, e17⟩ : ∃ h, T17.heap = h := ⟨_, rfl⟩
  rw [e17] at hQ17
  obtain ⟨nf17, rfl, N17q, Kq17, F18, F19, F20, F21, F22⟩ := hQ17
  have Z17 : n0 ≤ h17.size := Nat.le_trans Z10 Kq17.1
  have N17 := Fr.app N10 N17q
  refine own_viaT st17 ?_
  show own_Go p e below s _ _ _ (T17.setTop (mkF m 20 #[.val (.long p0), .second, .val (.int p1), .val (.ref b1), .unset, .unset, .unset, .unset] []))
  have st23 : ∀ t, Steps p.tables e below (T17.setTop (mkF m 44 #[.val (.long p0), .second, .val (.int p1), .val (.ref b1), .unset, .unset, .unset, .unset] [(.long (if p0 < (0 : Int64) then (((-(p0 + (1 : Int64))) * (2 : Int64)) + (1 : Int64)) else (p0 * (2 : Int64))))])) t → Steps p.tables e below (T17.setTop (mkF m 20 #[.val (.long p0), .second, .val (.int p1), .val (.ref b1), .unset, .unset, .unset, .unset] [])) t := by
    intro t k
    refine XS.lloadN X17.here hx rfl (hb hby at_20) rfl ?_
    show Steps p.tables e below (T17.setTop (mkF m 21 #[.val (.long p0), .second, .val (.int p1), .val (.ref b1), .unset, .unset, .unset, .unset] [(.long p0)])) t
    refine XS.lconst X17.here hx rfl (hb hby at_21) ?_
    show Steps p.tables e below (T17.setTop (mkF m 22 #[.val (.long p0), .second, .val (.int p1), .val (.ref b1), .unset, .unset, .unset, .unset] [(.long (0 : Int64)), (.long p0)])) t
    refine XS.lcmp X17.here hx rfl (hb hby at_22) rfl ?_
    show Steps p.tables e below (T17.setTop (mkF m 23 #[.val (.long p0), .second, .val (.int p1), .val (.ref b1), .unset, .unset, .unset, .unset] [(.int (lcmpW p0 (0 : Int64)))])) t
    by_cases hq24 : p0 < (0 : Int64)
    · refine XS.ifYes X17.here hx rfl (pc0 := 23) (pc' := 34) rfl (hb hby at_23) rfl (Jvm.Free.XT.ll_lt_t hq24) (by decide) (by decide) ?_
      show Steps p.tables e below (T17.setTop (mkF m 34 #[.val (.long p0), .second, .val (.int p1), .val (.ref b1), .unset, .unset, .unset, .unset] [])) t
      refine XS.lloadN X17.here hx rfl (hb hby at_34) rfl ?_
      show Steps p.tables e below (T17.setTop (mkF m 35 #[.val (.long p0), .second, .val (.int p1), .val (.ref b1), .unset, .unset, .unset, .unset] [(.long p0)])) t
      refine XS.lconst X17.here hx rfl (hb hby at_35) ?_
      show Steps p.tables e below (T17.setTop (mkF m 36 #[.val (.long p0), .second, .val (.int p1), .val (.ref b1), .unset, .unset, .unset, .unset] [(.long (1 : Int64)), (.long p0)])) t
      refine XS.ladd X17.here hx rfl (hb hby at_36) rfl ?_
      show Steps p.tables e below (T17.setTop (mkF m 37 #[.val (.long p0), .second, .val (.int p1), .val (.ref b1), .unset, .unset, .unset, .unset] [(.long (p0 + (1 : Int64)))])) t
      refine XS.lneg X17.here hx rfl (hb hby at_37) rfl ?_
      show Steps p.tables e below (T17.setTop (mkF m 38 #[.val (.long p0), .second, .val (.int p1), .val (.ref b1), .unset, .unset, .unset, .unset] [(.long (-(p0 + (1 : Int64))))])) t
      refine X17.ldc2Long hx hown (mvT hZ (hw _ (List.mem_of_getElem? (i := 26) rfl))) (g := (mkF m 38 #[.val (.long p0), .second, .val (.int p1), .val (.ref b1), .unset, .unset, .unset, .unset] [(.long (-(p0 + (1 : Int64))))])) rfl (hb hby at_38) _ ?_
      show Steps p.tables e below (T17.setTop (mkF m 41 #[.val (.long p0), .second, .val (.int p1), .val (.ref b1), .unset, .unset, .unset, .unset] [(.long (2 : Int64)), (.long (-(p0 + (1 : Int64))))])) t
      refine XS.lmul X17.here hx rfl (hb hby at_41) rfl ?_
      show Steps p.tables e below (T17.setTop (mkF m 42 #[.val (.long p0), .second, .val (.int p1), .val (.ref b1), .unset, .unset, .unset, .unset] [(.long ((-(p0 + (1 : Int64))) * (2 : Int64)))])) t
      refine XS.lconst X17.here hx rfl (hb hby at_42) ?_
      show Steps p.tables e below (T17.setTop (mkF m 43 #[.val (.long p0), .second, .val (.int p1), .val (.ref b1), .unset, .unset, .unset, .unset] [(.long (1 : Int64)), (.long ((-(p0 + (1 : Int64))) * (2 : Int64)))])) t
      refine XS.ladd X17.here hx rfl (hb hby at_43) rfl ?_
      show Steps p.tables e below (T17.setTop (mkF m 44 #[.val (.long p0), .second, .val (.int p1), .val (.ref b1), .unset, .unset, .unset, .unset] [(.long (((-(p0 + (1 : Int64))) * (2 : Int64)) + (1 : Int64)))])) t
      simp only [if_pos hq24] at k
      exact k
    · refine XS.ifNo X17.here hx rfl (hb hby at_23) rfl (Jvm.Free.XT.ll_lt_f hq24) ?_
      show Steps p.tables e below (T17.setTop (mkF m 26 #[.val (.long p0), .second, .val (.int p1), .val (.ref b1), .unset, .unset, .unset, .unset] [])) t
      refine XS.lloadN X17.here hx rfl (hb hby at_26) rfl ?_
      show Steps p.tables e below (T17.setTop (mkF m 27 #[.val (.long p0), .second, .val (.int p1), .val (.ref b1), .unset, .unset, .unset, .unset] [(.long p0)])) t
      refine X17.ldc2Long hx hown (mvT hZ (hw _ (List.mem_of_getElem? (i := 26) rfl))) (g := (mkF m 27 #[.val (.long p0), .second, .val (.int p1), .val (.ref b1), .unset, .unset, .unset, .unset] [(.long p0)])) rfl (hb hby at_27) _ ?_
      show Steps p.tables e below (T17.setTop (mkF m 30 #[.val (.long p0), .second, .val (.int p1), .val (.ref b1), .unset, .unset, .unset, .unset] [(.long (2 : Int64)), (.long p0)])) t
      refine XS.lmul X17.here hx rfl (hb hby at_30) rfl ?_
      show Steps p.tables e below (T17.setTop (mkF m 31 #[.val (.long p0), .second, .val (.int p1), .val (.ref b1), .unset, .unset, .unset, .unset] [(.long (p0 * (2 : Int64)))])) t
      refine XS.goto X17.here hx rfl (pc0 := 31) (pc' := 44) rfl (hb hby at_31) (by decide) (by decide) ?_
      show Steps p.tables e below (T17.setTop (mkF m 44 #[.val (.long p0), .second, .val (.int p1), .val (.ref b1), .unset, .unset, .unset, .unset] [(.long (p0 * (2 : Int64)))])) t
      simp only [if_neg hq24] at k
      exact k
  refine own_via st23 ?_
  show own_Go p e below s _ _ _ (T17.setTop (mkF m 44 #[.val (.long p0), .second, .val (.int p1), .val (.ref b1), .unset, .unset, .unset, .unset] [(.long (if p0 < (0 : Int64) then (((-(p0 + (1 : Int64))) * (2 : Int64)) + (1 : Int64)) else (p0 * (2 : Int64))))]))
  refine own_via (fun _ k => XS.lstore X17.here hx rfl (hb hby at_44) rfl (l' := #[.val (.long p0), .second, .val (.int p1), .val (.ref b1), .val (.long (if p0 < (0 : Int64) then (((-(p0 + (1 : Int64))) * (2 : Int64)) + (1 : Int64)) else (p0 * (2 : Int64)))), .second, .unset, .unset]) rfl k) ?_
  show own_Go p e below s _ _ _ (T17.setTop (mkF m 46 #[.val (.long p0), .second, .val (.int p1), .val (.ref b1), .val (.long (if p0 < (0 : Int64) then (((-(p0 + (1 : Int64))) * (2 : Int64)) + (1 : Int64)) else (p0 * (2 : Int64)))), .second, .unset, .unset] []))
  generalize hv25 : (if p0 < (0 : Int64) then (((-(p0 + (1 : Int64))) * (2 : Int64)) + (1 : Int64)) else (p0 * (2 : Int64))) = v25
  show own_Go p e below s _ _ _ (T17.setTop (mkF m 46 #[.val (.long p0), .second, .val (.int p1), .val (.ref b1), .val (.long v25), .second, .unset, .unset] []))
  refine own_via (fun _ k => XS.lload X17.here hx rfl (hb hby at_46) rfl k) ?_
  show own_Go p e below s _ _ _ (T17.setTop (mkF m 48 #[.val (.long p0), .second, .val (.int p1), .val (.ref b1), .val (.long v25), .second, .unset, .unset] [(.long v25)]))
  obtain ⟨_, _, ⟨T26, L26, k26, n26⟩, -, X26, ⟨Lc26, hQ26, l26, y26, z26⟩, st26⟩ := Jvm.LawKit.callS X17 hx (y := (⟨"com/example/liboutlay/liboutlay/core/ByteOutputNumberPinLaw", "groups", "(J)I"⟩ : MethodName)) hown (mvT hZ (hw _ (List.mem_of_getElem? (i := 27) rfl))) (mvT hZ (hw _ (List.mem_of_getElem? (i := 28) rfl))) (mvT hZ (hw _ (List.mem_of_getElem? (i := 29) rfl))) (mvT hZ (hw _ (List.mem_of_getElem? (i := 30) rfl))) (by decide) (backOf (W := 0) (rm5 l Z a0 hw [] v25 h17 n0 Z17 ) hZ (hw _ (List.mem_of_getElem? (i := 30) rfl)) (hw _ (List.mem_of_getElem? (i := 29) rfl)) (by decide) (by decide)) (g := (mkF m 48 #[.val (.long p0), .second, .val (.int p1), .val (.ref b1), .val (.long v25), .second, .unset, .unset] [(.long v25)])) rfl (by rw [hml]; rfl) (argsL := [(.long v25)]) (rest := []) (lenOf pd_2 rfl) rfl (by show 2 * 0 + _ ≤ _; exact Nat.le_of_eq rfl) (hb hby at_48) (fun _ _ => ⟨rfl, e17, (by decide : 2 + 0 ≤ _), (by decide : 13 + 0 ≤ _)⟩)
  dsimp only [Pt.U, Pt.locs, Pt.cells, Pt.slots] at X26 l26 y26 z26 st26 hQ26
  subst l26 y26 z26
  obtain ⟨rfl, N26q, e26⟩ := hQ26
  have N26 := Fr.app N17 N26q
  refine own_via st26 ?_
  show own_Go p e below s _ _ _ (T26.setTop (mkF m 51 #[.val (.long p0), .second, .val (.int p1), .val (.ref b1), .val (.long v25), .second, .unset, .unset] [(.int (own_gr v25))]))
  refine own_via (fun _ k => XS.istore X26.here hx rfl (hb hby at_51) rfl (l' := #[.val (.long p0), .second, .val (.int p1), .val (.ref b1), .val (.long v25), .second, .val (.int (own_gr v25)), .unset]) rfl k) ?_
  show own_Go p e below s _ _ _ (T26.setTop (mkF m 53 #[.val (.long p0), .second, .val (.int p1), .val (.ref b1), .val (.long v25), .second, .val (.int (own_gr v25)), .unset] []))
  generalize hv27 : (own_gr v25) = v27
  show own_Go p e below s _ _ _ (T26.setTop (mkF m 53 #[.val (.long p0), .second, .val (.int p1), .val (.ref b1), .val (.long v25), .second, .val (.int v27), .unset] []))
  refine own_via (fun _ k => XS.aloadN X26.here hx rfl (hb hby at_53) rfl rfl k) ?_
  show own_Go p e below s _ _ _ (T26.setTop (mkF m 54 #[.val (.long p0), .second, .val (.int p1), .val (.ref b1), .val (.long v25), .second, .val (.int v27), .unset] [(.ref b1)]))
  obtain ⟨cq28, kq28, qa28, qb28, qc28⟩ := isOf hZ e26 F18
  obtain ⟨_, _, ⟨T28, L28, k28, n28⟩, -, X28, ⟨Lc28, hQ28, l28, y28, z28⟩, st28⟩ := X26.virtualBack hx (y := (⟨"com/example/liboutlay/liboutlay/core/ByteOutput", "array", "()[B"⟩ : MethodName)) (z := (⟨"com/example/liboutlay/liboutlay/core/ByteOutput", "array", "()[B"⟩ : MethodName)) hown (mvT hZ (hw _ (List.mem_of_getElem? (i := 31) rfl))) (mvT hZ (hw _ (List.mem_of_getElem? (i := 32) rfl))) (notFace_of_selects (args := #[]) (mvT hZ (hw _ (List.mem_of_getElem? (i := 34) rfl)))) (mvT hZ (hw _ (List.mem_of_getElem? (i := 34) rfl))) (mvT hZ (hw _ (List.mem_of_getElem? (i := 33) rfl))) (by decide) (backOf (W := 0) (rm6 l Z a0 hw [] b1 b_4 h17 n0 Z17 F19) hZ (hw _ (List.mem_of_getElem? (i := 35) rfl)) (hw _ (List.mem_of_getElem? (i := 2) rfl)) (by decide) (by decide)) qa28 qc28 (g := (mkF m 54 #[.val (.long p0), .second, .val (.int p1), .val (.ref b1), .val (.long v25), .second, .val (.int v27), .unset] [(.ref b1)])) rfl (by rw [hml]; rfl) (Steps.refl _) (argsL := []) (rest := []) (lenOf pd_3 rfl) rfl (by show 2 * 0 + _ ≤ _; exact Nat.le_of_eq rfl) (hb hby at_54) (fun _ _ => ⟨rfl, e26, (by decide : 2 + 0 ≤ _), (by decide : 13 + 0 ≤ _)⟩)
  dsimp only [Pt.U, Pt.locs, Pt.cells, Pt.slots] at X28 l28 y28 z28 st28 hQ28
  subst l28 y28 z28
  obtain ⟨rfl, N28q, e28⟩ := hQ28
  have N28 := Fr.app N26 N28q
  refine own_viaT st28 ?_
  show own_Go p e below s _ _ _ (T28.setTop (mkF m 57 #[.val (.long p0), .second, .val (.int p1), .val (.ref b1), .val (.long v25), .second, .val (.int v27), .unset] [(.ref b_4)]))
  refine own_via (fun _ k => XS.astore X28.here hx rfl (hb hby at_57) rfl rfl (l' := #[.val (.long p0), .second, .val (.int p1), .val (.ref b1), .val (.long v25), .second, .val (.int v27), .val (.ref b_4)]) rfl k) ?_
  show own_Go p e below s _ _ _ (T28.setTop (mkF m 59 #[.val (.long p0), .second, .val (.int p1), .val (.ref b1), .val (.long v25), .second, .val (.int v27), .val (.ref b_4)] []))
  refine own_via (fun _ k => XS.aload X28.here hx rfl (hb hby at_59) rfl rfl k) ?_
  show own_Go p e below s _ _ _ (T28.setTop (mkF m 61 #[.val (.long p0), .second, .val (.int p1), .val (.ref b1), .val (.long v25), .second, .val (.int v27), .val (.ref b_4)] [(.ref b_4)]))
  obtain ⟨cl29, Ar29, q29, S29, M29, H29, G29⟩ := (id F21)
  refine own_via (fun _ k => X28.arraylength hx (by rw [e28]; exact Ar29.1) (State.isArrayOf_alike hZ.alike Ar29.2.1) (g := (mkF m 61 #[.val (.long p0), .second, .val (.int p1), .val (.ref b1), .val (.long v25), .second, .val (.int v27), .val (.ref b_4)] [(.ref b_4)])) rfl rfl (hb hby at_61) _ (by rw [len_of S29 M29]; exact k)) ?_
  show own_Go p e below s _ _ _ (T28.setTop (mkF m 62 #[.val (.long p0), .second, .val (.int p1), .val (.ref b1), .val (.long v25), .second, .val (.int v27), .val (.ref b_4)] [(.int (11 : Int32))]))
  refine own_via (fun _ k => XS.bipush X28.here hx rfl (hb hby at_62) k) ?_
  show own_Go p e below s _ _ _ (T28.setTop (mkF m 64 #[.val (.long p0), .second, .val (.int p1), .val (.ref b1), .val (.long v25), .second, .val (.int v27), .val (.ref b_4)] [(.int (11 : Int32)), (.int (11 : Int32))]))
  refine own_via (fun _ k => XS.icmpYes X28.here hx rfl (pc0 := 64) (pc' := 69) rfl (hb hby at_64) rfl (Jvm.Free.XT.ii_eq_t (by decide)) (by decide) (by decide) k) ?_
  show own_Go p e below s _ _ _ (T28.setTop (mkF m 69 #[.val (.long p0), .second, .val (.int p1), .val (.ref b1), .val (.long v25), .second, .val (.int v27), .val (.ref b_4)] []))
  refine own_via (fun _ k => XS.aloadN X28.here hx rfl (hb hby at_69) rfl rfl k) ?_
  show own_Go p e below s _ _ _ (T28.setTop (mkF m 70 #[.val (.long p0), .second, .val (.int p1), .val (.ref b1), .val (.long v25), .second, .val (.int v27), .val (.ref b_4)] [(.ref b1)]))
  obtain ⟨cq30, kq30, qa30, qb30, qc30⟩ := isOf hZ e28 F18
  obtain ⟨_, _, ⟨T30, L30, k30, n30⟩, -, X30, ⟨Lc30, hQ30, l30, y30, z30⟩, st30⟩ := X28.virtualBack hx (y := (⟨"com/example/liboutlay/liboutlay/core/ByteOutput", "length", "()I"⟩ : MethodName)) (z := (⟨"com/example/liboutlay/liboutlay/core/ByteOutput", "length", "()I"⟩ : MethodName)) hown (mvT hZ (hw _ (List.mem_of_getElem? (i := 36) rfl))) (mvT hZ (hw _ (List.mem_of_getElem? (i := 37) rfl))) (notFace_of_selects (args := #[]) (mvT hZ (hw _ (List.mem_of_getElem? (i := 39) rfl)))) (mvT hZ (hw _ (List.mem_of_getElem? (i := 39) rfl))) (mvT hZ (hw _ (List.mem_of_getElem? (i := 38) rfl))) (by decide) (backOf (W := 0) (rm7 l Z a0 hw [] b1 nf17 h17 n0 Z17 F20) hZ (hw _ (List.mem_of_getElem? (i := 40) rfl)) (hw _ (List.mem_of_getElem? (i := 2) rfl)) (by decide) (by decide)) qa30 qc30 (g := (mkF m 70 #[.val (.long p0), .second, .val (.int p1), .val (.ref b1), .val (.long v25), .second, .val (.int v27), .val (.ref b_4)] [(.ref b1)])) rfl (by rw [hml]; rfl) (Steps.refl _) (argsL := []) (rest := []) (lenOf pd_4 rfl) rfl (by show 2 * 0 + _ ≤ _; exact Nat.le_of_eq rfl) (hb hby at_70) (fun _ _ => ⟨rfl, e28, (by decide : 2 + 0 ≤ _), (by decide : 13 + 0 ≤ _)⟩)
  dsimp only [Pt.U, Pt.locs, Pt.cells, Pt.slots] at X30 l30 y30 z30 st30 hQ30
  subst l30 y30 z30
  obtain ⟨rfl, N30q, e30⟩ := hQ30
  have N30 := Fr.app N28 N30q
  refine own_viaT st30 ?_
  show own_Go p e below s _ _ _ (T30.setTop (mkF m 73 #[.val (.long p0), .second, .val (.int p1), .val (.ref b1), .val (.long v25), .second, .val (.int v27), .val (.ref b_4)] [(.int nf17)]))
  refine own_via (fun _ k => XS.iconst X30.here hx rfl (hb hby at_73) k) ?_
  show own_Go p e below s _ _ _ (T30.setTop (mkF m 74 #[.val (.long p0), .second, .val (.int p1), .val (.ref b1), .val (.long v25), .second, .val (.int v27), .val (.ref b_4)] [(.int (1 : Int32)), (.int nf17)]))
  refine own_via (fun _ k => XS.iload X30.here hx rfl (hb hby at_74) rfl k) ?_
  show own_Go p e below s _ _ _ (T30.setTop (mkF m 76 #[.val (.long p0), .second, .val (.int p1), .val (.ref b1), .val (.long v25), .second, .val (.int v27), .val (.ref b_4)] [(.int v27), (.int (1 : Int32)), (.int nf17)]))
  refine own_via (fun _ k => XS.iadd X30.here hx rfl (hb hby at_76) rfl k) ?_
  show own_Go p e below s _ _ _ (T30.setTop (mkF m 77 #[.val (.long p0), .second, .val (.int p1), .val (.ref b1), .val (.long v25), .second, .val (.int v27), .val (.ref b_4)] [(.int ((1 : Int32) + v27)), (.int nf17)]))
  have hc31 : nf17 = ((1 : Int32) + v27) := own_len1 F22 hv25 hv27
  refine own_via (fun _ k => XS.icmpYes X30.here hx rfl (pc0 := 77) (pc' := 82) rfl (hb hby at_77) rfl (Jvm.Free.XT.ii_eq_t hc31) (by decide) (by decide) k) ?_
  show own_Go p e below s _ _ _ (T30.setTop (mkF m 82 #[.val (.long p0), .second, .val (.int p1), .val (.ref b1), .val (.long v25), .second, .val (.int v27), .val (.ref b_4)] []))
  refine own_via (fun _ k => XS.aload X30.here hx rfl (hb hby at_82) rfl rfl k) ?_
  show own_Go p e below s _ _ _ (T30.setTop (mkF m 84 #[.val (.long p0), .second, .val (.int p1), .val (.ref b1), .val (.long v25), .second, .val (.int v27), .val (.ref b_4)] [(.ref b_4)]))
  refine own_via (fun _ k => XS.iconst X30.here hx rfl (hb hby at_84) k) ?_
  show own_Go p e below s _ _ _ (T30.setTop (mkF m 85 #[.val (.long p0), .second, .val (.int p1), .val (.ref b1), .val (.long v25), .second, .val (.int v27), .val (.ref b_4)] [(.int (0 : Int32)), (.ref b_4)]))
  obtain ⟨cl32, Ar32, q32, S32, M32, H32, G32⟩ := (id F21)
  have hin32 : ¬ ((0 : Int32) < 0 ∨ cl32.slots.size ≤ ((0 : Int32)).toNatClampNeg) := inb_of S32 ⟨by decide, by decide⟩
  have hat32 : cl32.slots[((0 : Int32)).toNatClampNeg]? = some (.int (nar .byte (o_i2b p1))) := Has.at H32 hin32 (own_get0 p1 ((o_lshl p0 (1 : Int32)) ^^^ (o_lshr p0 (63 : Int32))))
  refine own_via (fun _ k => X30.baloadBytes hx (j := (0 : Int32)) (v := (.int (nar .byte (o_i2b p1)))) (by rw [e30]; exact Ar32.1) (State.isArrayOf_alike hZ.alike Ar32.2.1) Ar32.2.2 hin32 hat32 (g := (mkF m 85 #[.val (.long p0), .second, .val (.int p1), .val (.ref b1), .val (.long v25), .second, .val (.int v27), .val (.ref b_4)] [(.int (0 : Int32)), (.ref b_4)])) rfl rfl (hb hby at_85) _ k) ?_
  show own_Go p e below s _ _ _ (T30.setTop (mkF m 86 #[.val (.long p0), .second, .val (.int p1), .val (.ref b1), .val (.long v25), .second, .val (.int v27), .val (.ref b_4)] [(.int (nar .byte (o_i2b p1)))]))
  refine own_via (fun _ k => XS.iloadN X30.here hx rfl (hb hby at_86) rfl k) ?_
  show own_Go p e below s _ _ _ (T30.setTop (mkF m 87 #[.val (.long p0), .second, .val (.int p1), .val (.ref b1), .val (.long v25), .second, .val (.int v27), .val (.ref b_4)] [(.int p1), (.int (nar .byte (o_i2b p1)))]))
  refine own_via (fun _ k => XS.i2b X30.here hx rfl (hb hby at_87) rfl k) ?_
  show own_Go p e below s _ _ _ (T30.setTop (mkF m 88 #[.val (.long p0), .second, .val (.int p1), .val (.ref b1), .val (.long v25), .second, .val (.int v27), .val (.ref b_4)] [(.int (o_i2b p1)), (.int (nar .byte (o_i2b p1)))]))
  have hc33 : (nar .byte (o_i2b p1)) = (o_i2b p1) := own_nb p1
  refine own_via (fun _ k => XS.icmpYes X30.here hx rfl (pc0 := 88) (pc' := 93) rfl (hb hby at_88) rfl (Jvm.Free.XT.ii_eq_t hc33) (by decide) (by decide) k) ?_
  show own_Go p e below s _ _ _ (T30.setTop (mkF m 93 #[.val (.long p0), .second, .val (.int p1), .val (.ref b1), .val (.long v25), .second, .val (.int v27), .val (.ref b_4)] []))
  refine own_via (fun _ k => XS.aload X30.here hx rfl (hb hby at_93) rfl rfl k) ?_
  show own_Go p e below s _ _ _ (T30.setTop (mkF m 95 #[.val (.long p0), .second, .val (.int p1), .val (.ref b1), .val (.long v25), .second, .val (.int v27), .val (.ref b_4)] [(.ref b_4)]))
  refine own_via (fun _ k => XS.lload X30.here hx rfl (hb hby at_95) rfl k) ?_
  show own_Go p e below s _ _ _ (T30.setTop (mkF m 97 #[.val (.long p0), .second, .val (.int p1), .val (.ref b1), .val (.long v25), .second, .val (.int v27), .val (.ref b_4)] [(.long v25), (.ref b_4)]))
  refine own_via (fun _ k => XS.iload X30.here hx rfl (hb hby at_97) rfl k) ?_
  show own_Go p e below s _ _ _ (T30.setTop (mkF m 99 #[.val (.long p0), .second, .val (.int p1), .val (.ref b1), .val (.long v25), .second, .val (.int v27), .val (.ref b_4)] [(.int v27), (.long v25), (.ref b_4)]))
  refine own_via (fun _ k => XS.iconst X30.here hx rfl (hb hby at_99) k) ?_
  show own_Go p e below s _ _ _ (T30.setTop (mkF m 100 #[.val (.long p0), .second, .val (.int p1), .val (.ref b1), .val (.long v25), .second, .val (.int v27), .val (.ref b_4)] [(.int (0 : Int32)), (.int v27), (.long v25), (.ref b_4)]))
  obtain ⟨_, _, ⟨T34, L34, k34, n34⟩, -, X34, ⟨Lc34, hQ34, l34, y34, z34⟩, st34⟩ := Jvm.LawKit.callS X30 hx (y := (⟨"com/example/liboutlay/liboutlay/core/ByteOutputNumberPinLaw", "ok", "([BJII)Z"⟩ : MethodName)) hown (mvT hZ (hw _ (List.mem_of_getElem? (i := 41) rfl))) (mvT hZ (hw _ (List.mem_of_getElem? (i := 42) rfl))) (mvT hZ (hw _ (List.mem_of_getElem? (i := 29) rfl))) (mvT hZ (hw _ (List.mem_of_getElem? (i := 43) rfl))) (by decide) (backOf (W := 0) (rm8 l Z a0 hw [] b_4 v25 v27 (0 : Int32) k_4 (11 : Int32) (((own_enc 9 ((o_lshl p0 (1 : Int32)) ^^^ (o_lshr p0 (63 : Int32))) 1 [(.int (nar .byte (o_i2b p1))), (.int (0 : Int32)), (.int (0 : Int32)), (.int (0 : Int32)), (.int (0 : Int32)), (.int (0 : Int32)), (.int (0 : Int32)), (.int (0 : Int32)), (.int (0 : Int32)), (.int (0 : Int32)), (.int (0 : Int32))])).2) (.int (0 : Int32)) (own_at 9 ((o_lshl p0 (1 : Int32)) ^^^ (o_lshr p0 (63 : Int32))) 0) h17 n0 Z17 F21 ⟨by decide, by decide⟩ (own_get p1 ((o_lshl p0 (1 : Int32)) ^^^ (o_lshr p0 (63 : Int32))) 0 (by decide))) hZ (hw _ (List.mem_of_getElem? (i := 43) rfl)) (hw _ (List.mem_of_getElem? (i := 29) rfl)) (by decide) (by decide)) (g := (mkF m 100 #[.val (.long p0), .second, .val (.int p1), .val (.ref b1), .val (.long v25), .second, .val (.int v27), .val (.ref b_4)] [(.int (0 : Int32)), (.int v27), (.long v25), (.ref b_4)])) rfl (by rw [hml]; rfl) (argsL := [(.ref b_4), (.long v25), (.int v27), (.int (0 : Int32))]) (rest := []) (lenOf pd_5 rfl) rfl (by show 2 * 0 + _ ≤ _; exact Nat.le_of_eq rfl) (hb hby at_100) (fun _ _ => ⟨rfl, e30, (by decide : 2 + 0 ≤ _), (by decide : 13 + 0 ≤ _)⟩)
  dsimp only [Pt.U, Pt.locs, Pt.cells, Pt.slots] at X34 l34 y34 z34 st34 hQ34
  subst l34 y34 z34
  obtain ⟨rfl, N34q, e34⟩ := hQ34
  have N34 := Fr.app N30 N34q
  refine own_via st34 ?_
  show own_Go p e below s _ _ _ (T34.setTop (mkF m 103 #[.val (.long p0), .second, .val (.int p1), .val (.ref b1), .val (.long v25), .second, .val (.int v27), .val (.ref b_4)] [(.int (own_ok (own_at 9 ((o_lshl p0 (1 : Int32)) ^^^ (o_lshr p0 (63 : Int32))) 0) v25 v27 (0 : Int32)))]))
  have hc35 : ¬ ((own_ok (own_at 9 ((o_lshl p0 (1 : Int32)) ^^^ (o_lshr p0 (63 : Int32))) 0) v25 v27 (0 : Int32)) = (0 : Int32)) := own_k0 hv25 hv27
  refine own_via (fun _ k => XS.ifNo X34.here hx rfl (hb hby at_103) rfl (Jvm.Free.XT.i0_eq_f hc35) k) ?_
  show own_Go p e below s _ _ _ (T34.setTop (mkF m 106 #[.val (.long p0), .second, .val (.int p1), .val (.ref b1), .val (.long v25), .second, .val (.int v27), .val (.ref b_4)] []))
  refine own_via (fun _ k => XS.aload X34.here hx rfl (hb hby at_106) rfl rfl k) ?_
  show own_Go p e below s _ _ _ (T34.setTop (mkF m 108 #[.val (.long p0), .second, .val (.int p1), .val (.ref b1), .val (.long v25), .second, .val (.int v27), .val (.ref b_4)] [(.ref b_4)]))
  refine own_via (fun _ k => XS.lload X34.here hx rfl (hb hby at_108) rfl k) ?_
  show own_Go p e below s _ _ _ (T34.setTop (mkF m 110 #[.val (.long p0), .second, .val (.int p1), .val (.ref b1), .val (.long v25), .second, .val (.int v27), .val (.ref b_4)] [(.long v25), (.ref b_4)]))
  refine own_via (fun _ k => XS.iload X34.here hx rfl (hb hby at_110) rfl k) ?_
  show own_Go p e below s _ _ _ (T34.setTop (mkF m 112 #[.val (.long p0), .second, .val (.int p1), .val (.ref b1), .val (.long v25), .second, .val (.int v27), .val (.ref b_4)] [(.int v27), (.long v25), (.ref b_4)]))
  refine own_via (fun _ k => XS.iconst X34.here hx rfl (hb hby at_112) k) ?_
  show own_Go p e below s _ _ _ (T34.setTop (mkF m 113 #[.val (.long p0), .second, .val (.int p1), .val (.ref b1), .val (.long v25), .second, .val (.int v27), .val (.ref b_4)] [(.int (1 : Int32)), (.int v27), (.long v25), (.ref b_4)]))
  obtain ⟨_, _, ⟨T36, L36, k36, n36⟩, -, X36, ⟨Lc36, hQ36, l36, y36, z36⟩, st36⟩ := Jvm.LawKit.callS X34 hx (y := (⟨"com/example/liboutlay/liboutlay/core/ByteOutputNumberPinLaw", "ok", "([BJII)Z"⟩ : MethodName)) hown (mvT hZ (hw _ (List.mem_of_getElem? (i := 41) rfl))) (mvT hZ (hw _ (List.mem_of_getElem? (i := 42) rfl))) (mvT hZ (hw _ (List.mem_of_getElem? (i := 29) rfl))) (mvT hZ (hw _ (List.mem_of_getElem? (i := 43) rfl))) (by decide) (backOf (W := 0) (rm8 l Z a0 hw [] b_4 v25 v27 (1 : Int32) k_4 (11 : Int32) (((own_enc 9 ((o_lshl p0 (1 : Int32)) ^^^ (o_lshr p0 (63 : Int32))) 1 [(.int (nar .byte (o_i2b p1))), (.int (0 : Int32)), (.int (0 : Int32)), (.int (0 : Int32)), (.int (0 : Int32)), (.int (0 : Int32)), (.int (0 : Int32)), (.int (0 : Int32)), (.int (0 : Int32)), (.int (0 : Int32)), (.int (0 : Int32))])).2) (.int (0 : Int32)) (own_at 9 ((o_lshl p0 (1 : Int32)) ^^^ (o_lshr p0 (63 : Int32))) 1) h17 n0 Z17 F21 ⟨by decide, by decide⟩ (own_get p1 ((o_lshl p0 (1 : Int32)) ^^^ (o_lshr p0 (63 : Int32))) 1 (by decide))) hZ (hw _ (List.mem_of_getElem? (i := 43) rfl)) (hw _ (List.mem_of_getElem? (i := 29) rfl)) (by decide) (by decide)) (g := (mkF m 113 #[.val (.long p0), .second, .val (.int p1), .val (.ref b1), .val (.long v25), .second, .val (.int v27), .val (.ref b_4)] [(.int (1 : Int32)), (.int v27), (.long v25), (.ref b_4)])) rfl (by rw [hml]; rfl) (argsL := [(.ref b_4), (.long v25), (.int v27), (.int (1 : Int32))]) (rest := []) (lenOf pd_5 rfl) rfl (by show 2 * 0 + _ ≤ _; exact Nat.le_of_eq rfl) (hb hby at_113) (fun _ _ => ⟨rfl, e34, (by decide : 2 + 0 ≤ _), (by decide : 13 + 0 ≤ _)⟩)
  dsimp only [Pt.U, Pt.locs, Pt.cells, Pt.slots] at X36 l36 y36 z36 st36 hQ36
  subst l36 y36 z36
  obtain ⟨rfl, N36q, e36⟩ := hQ36
  have N36 := Fr.app N34 N36q
  refine own_via st36 ?_
  show own_Go p e below s _ _ _ (T36.setTop (mkF m 116 #[.val (.long p0), .second, .val (.int p1), .val (.ref b1), .val (.long v25), .second, .val (.int v27), .val (.ref b_4)] [(.int (own_ok (own_at 9 ((o_lshl p0 (1 : Int32)) ^^^ (o_lshr p0 (63 : Int32))) 1) v25 v27 (1 : Int32)))]))
  have hc37 : ¬ ((own_ok (own_at 9 ((o_lshl p0 (1 : Int32)) ^^^ (o_lshr p0 (63 : Int32))) 1) v25 v27 (1 : Int32)) = (0 : Int32)) := own_k1 hv25 hv27
  refine own_via (fun _ k => XS.ifNo X36.here hx rfl (hb hby at_116) rfl (Jvm.Free.XT.i0_eq_f hc37) k) ?_
  show own_Go p e below s _ _ _ (T36.setTop (mkF m 119 #[.val (.long p0), .second, .val (.int p1), .val (.ref b1), .val (.long v25), .second, .val (.int v27), .val (.ref b_4)] []))
  refine own_via (fun _ k => XS.aload X36.here hx rfl (hb hby at_119) rfl rfl k) ?_
  show own_Go p e below s _ _ _ (T36.setTop (mkF m 121 #[.val (.long p0), .second, .val (.int p1), .val (.ref b1), .val (.long v25), .second, .val (.int v27), .val (.ref b_4)] [(.ref b_4)]))
  refine own_via (fun _ k => XS.lload X36.here hx rfl (hb hby at_121) rfl k) ?_
  show own_Go p e below s _ _ _ (T36.setTop (mkF m 123 #[.val (.long p0), .second, .val (.int p1), .val (.ref b1), .val (.long v25), .second, .val (.int v27), .val (.ref b_4)] [(.long v25), (.ref b_4)]))
  refine own_via (fun _ k => XS.iload X36.here hx rfl (hb hby at_123) rfl k) ?_
  show own_Go p e below s _ _ _ (T36.setTop (mkF m 125 #[.val (.long p0), .second, .val (.int p1), .val (.ref b1), .val (.long v25), .second, .val (.int v27), .val (.ref b_4)] [(.int v27), (.long v25), (.ref b_4)]))
  refine own_via (fun _ k => XS.iconst X36.here hx rfl (hb hby at_125) k) ?_
  show own_Go p e below s _ _ _ (T36.setTop (mkF m 126 #[.val (.long p0), .second, .val (.int p1), .val (.ref b1), .val (.long v25), .second, .val (.int v27), .val (.ref b_4)] [(.int (2 : Int32)), (.int v27), (.long v25), (.ref b_4)]))
  obtain ⟨_, _, ⟨T38, L38, k38, n38⟩, -, X38, ⟨Lc38, hQ38, l38, y38, z38⟩, st38⟩ := Jvm.LawKit.callS X36 hx (y := (⟨"com/example/liboutlay/liboutlay/core/ByteOutputNumberPinLaw", "ok", "([BJII)Z"⟩ : MethodName)) hown (mvT hZ (hw _ (List.mem_of_getElem? (i := 41) rfl))) (mvT hZ (hw _ (List.mem_of_getElem? (i := 42) rfl))) (mvT hZ (hw _ (List.mem_of_getElem? (i := 29) rfl))) (mvT hZ (hw _ (List.mem_of_getElem? (i := 43) rfl))) (by decide) (backOf (W := 0) (rm8 l Z a0 hw [] b_4 v25 v27 (2 : Int32) k_4 (11 : Int32) (((own_enc 9 ((o_lshl p0 (1 : Int32)) ^^^ (o_lshr p0 (63 : Int32))) 1 [(.int (nar .byte (o_i2b p1))), (.int (0 : Int32)), (.int (0 : Int32)), (.int (0 : Int32)), (.int (0 : Int32)), (.int (0 : Int32)), (.int (0 : Int32)), (.int (0 : Int32)), (.int (0 : Int32)), (.int (0 : Int32)), (.int (0 : Int32))])).2) (.int (0 : Int32)) (own_at 9 ((o_lshl p0 (1 : Int32)) ^^^ (o_lshr p0 (63 : Int32))) 2) h17 n0 Z17 F21 ⟨by decide, by decide⟩ (own_get p1 ((o_lshl p0 (1 : Int32)) ^^^ (o_lshr p0 (63 : Int32))) 2 (by decide))) hZ (hw _ (List.mem_of_getElem? (i := 43) rfl)) (hw _ (List.mem_of_getElem? (i := 29) rfl)) (by decide) (by decide)) (g := (mkF m 126 #[.val (.long p0), .second, .val (.int p1), .val (.ref b1), .val (.long v25), .second, .val (.int v27), .val (.ref b_4)] [(.int (2 : Int32)), (.int v27), (.long v25), (.ref b_4)])) rfl (by rw [hml]; rfl) (argsL := [(.ref b_4), (.long v25), (.int v27), (.int (2 : Int32))]) (rest := []) (lenOf pd_5 rfl) rfl (by show 2 * 0 + _ ≤ _; exact Nat.le_of_eq rfl) (hb hby at_126) (fun _ _ => ⟨rfl, e36, (by decide : 2 + 0 ≤ _), (by decide : 13 + 0 ≤ _)⟩)
  dsimp only [Pt.U, Pt.locs, Pt.cells, Pt.slots] at X38 l38 y38 z38 st38 hQ38
  subst l38 y38 z38
  obtain ⟨rfl, N38q, e38⟩ := hQ38
  have N38 := Fr.app N36 N38q
  refine own_via st38 ?_
  show own_Go p e below s _ _ _ (T38.setTop (mkF m 129 #[.val (.long p0), .second, .val (.int p1), .val (.ref b1), .val (.long v25), .second, .val (.int v27), .val (.ref b_4)] [(.int (own_ok (own_at 9 ((o_lshl p0 (1 : Int32)) ^^^ (o_lshr p0 (63 : Int32))) 2) v25 v27 (2 : Int32)))]))
  have hc39 : ¬ ((own_ok (own_at 9 ((o_lshl p0 (1 : Int32)) ^^^ (o_lshr p0 (63 : Int32))) 2) v25 v27 (2 : Int32)) = (0 : Int32)) := own_k2 hv25 hv27
  refine own_via (fun _ k => XS.ifNo X38.here hx rfl (hb hby at_129) rfl (Jvm.Free.XT.i0_eq_f hc39) k) ?_
  show own_Go p e below s _ _ _ (T38.setTop (mkF m 132 #[.val (.long p0), .second, .val (.int p1), .val (.ref b1), .val (.long v25), .second, .val (.int v27), .val (.ref b_4)] []))
  refine own_via (fun _ k => XS.aload X38.here hx rfl (hb hby at_132) rfl rfl k) ?_
  show own_Go p e below s _ _ _ (T38.setTop (mkF m 134 #[.val (.long p0), .second, .val (.int p1), .val (.ref b1), .val (.long v25), .second, .val (.int v27), .val (.ref b_4)] [(.ref b_4)]))
  refine own_via (fun _ k => XS.lload X38.here hx rfl (hb hby at_134) rfl k) ?_
  show own_Go p e below s _ _ _ (T38.setTop (mkF m 136 #[.val (.long p0), .second, .val (.int p1), .val (.ref b1), .val (.long v25), .second, .val (.int v27), .val (.ref b_4)] [(.long v25), (.ref b_4)]))
  refine own_via (fun _ k => XS.iload X38.here hx rfl (hb hby at_136) rfl k) ?_
  show own_Go p e below s _ _ _ (T38.setTop (mkF m 138 #[.val (.long p0), .second, .val (.int p1), .val (.ref b1), .val (.long v25), .second, .val (.int v27), .val (.ref b_4)] [(.int v27), (.long v25), (.ref b_4)]))
  refine own_via (fun _ k => XS.iconst X38.here hx rfl (hb hby at_138) k) ?_
  show own_Go p e below s _ _ _ (T38.setTop (mkF m 139 #[.val (.long p0), .second, .val (.int p1), .val (.ref b1), .val (.long v25), .second, .val (.int v27), .val (.ref b_4)] [(.int (3 : Int32)), (.int v27), (.long v25), (.ref b_4)]))
  obtain ⟨_, _, ⟨T40, L40, k40, n40⟩, -, X40, ⟨Lc40, hQ40, l40, y40, z40⟩, st40⟩ := Jvm.LawKit.callS X38 hx (y := (⟨"com/example/liboutlay/liboutlay/core/ByteOutputNumberPinLaw", "ok", "([BJII)Z"⟩ : MethodName)) hown (mvT hZ (hw _ (List.mem_of_getElem? (i := 41) rfl))) (mvT hZ (hw _ (List.mem_of_getElem? (i := 42) rfl))) (mvT hZ (hw _ (List.mem_of_getElem? (i := 29) rfl))) (mvT hZ (hw _ (List.mem_of_getElem? (i := 43) rfl))) (by decide) (backOf (W := 0) (rm8 l Z a0 hw [] b_4 v25 v27 (3 : Int32) k_4 (11 : Int32) (((own_enc 9 ((o_lshl p0 (1 : Int32)) ^^^ (o_lshr p0 (63 : Int32))) 1 [(.int (nar .byte (o_i2b p1))), (.int (0 : Int32)), (.int (0 : Int32)), (.int (0 : Int32)), (.int (0 : Int32)), (.int (0 : Int32)), (.int (0 : Int32)), (.int (0 : Int32)), (.int (0 : Int32)), (.int (0 : Int32)), (.int (0 : Int32))])).2) (.int (0 : Int32)) (own_at 9 ((o_lshl p0 (1 : Int32)) ^^^ (o_lshr p0 (63 : Int32))) 3) h17 n0 Z17 F21 ⟨by decide, by decide⟩ (own_get p1 ((o_lshl p0 (1 : Int32)) ^^^ (o_lshr p0 (63 : Int32))) 3 (by decide))) hZ (hw _ (List.mem_of_getElem? (i := 43) rfl)) (hw _ (List.mem_of_getElem? (i := 29) rfl)) (by decide) (by decide)) (g := (mkF m 139 #[.val (.long p0), .second, .val (.int p1), .val (.ref b1), .val (.long v25), .second, .val (.int v27), .val (.ref b_4)] [(.int (3 : Int32)), (.int v27), (.long v25), (.ref b_4)])) rfl (by rw [hml]; rfl) (argsL := [(.ref b_4), (.long v25), (.int v27), (.int (3 : Int32))]) (rest := []) (lenOf pd_5 rfl) rfl (by show 2 * 0 + _ ≤ _; exact Nat.le_of_eq rfl) (hb hby at_139) (fun _ _ => ⟨rfl, e38, (by decide : 2 + 0 ≤ _), (by decide : 13 + 0 ≤ _)⟩)
  dsimp only [Pt.U, Pt.locs, Pt.cells, Pt.slots] at X40 l40 y40 z40 st40 hQ40
  subst l40 y40 z40
  obtain ⟨rfl, N40q, e40⟩ := hQ40
  have N40 := Fr.app N38 N40q
  refine own_via st40 ?_
  show own_Go p e below s _ _ _ (T40.setTop (mkF m 142 #[.val (.long p0), .second, .val (.int p1), .val (.ref b1), .val (.long v25), .second, .val (.int v27), .val (.ref b_4)] [(.int (own_ok (own_at 9 ((o_lshl p0 (1 : Int32)) ^^^ (o_lshr p0 (63 : Int32))) 3) v25 v27 (3 : Int32)))]))
  have hc41 : ¬ ((own_ok (own_at 9 ((o_lshl p0 (1 : Int32)) ^^^ (o_lshr p0 (63 : Int32))) 3) v25 v27 (3 : Int32)) = (0 : Int32)) := own_k3 hv25 hv27
  refine own_via (fun _ k => XS.ifNo X40.here hx rfl (hb hby at_142) rfl (Jvm.Free.XT.i0_eq_f hc41) k) ?_
  show own_Go p e below s _ _ _ (T40.setTop (mkF m 145 #[.val (.long p0), .second, .val (.int p1), .val (.ref b1), .val (.long v25), .second, .val (.int v27), .val (.ref b_4)] []))
  refine own_via (fun _ k => XS.aload X40.here hx rfl (hb hby at_145) rfl rfl k) ?_
  show own_Go p e below s _ _ _ (T40.setTop (mkF m 147 #[.val (.long p0), .second, .val (.int p1), .val (.ref b1), .val (.long v25), .second, .val (.int v27), .val (.ref b_4)] [(.ref b_4)]))
  refine own_via (fun _ k => XS.lload X40.here hx rfl (hb hby at_147) rfl k) ?_
  show own_Go p e below s _ _ _ (T40.setTop (mkF m 149 #[.val (.long p0), .second, .val (.int p1), .val (.ref b1), .val (.long v25), .second, .val (.int v27), .val (.ref b_4)] [(.long v25), (.ref b_4)]))
  refine own_via (fun _ k => XS.iload X40.here hx rfl (hb hby at_149) rfl k) ?_
  show own_Go p e below s _ _ _ (T40.setTop (mkF m 151 #[.val (.long p0), .second, .val (.int p1), .val (.ref b1), .val (.long v25), .second, .val (.int v27), .val (.ref b_4)] [(.int v27), (.long v25), (.ref b_4)]))
  refine own_via (fun _ k => XS.iconst X40.here hx rfl (hb hby at_151) k) ?_
  show own_Go p e below s _ _ _ (T40.setTop (mkF m 152 #[.val (.long p0), .second, .val (.int p1), .val (.ref b1), .val (.long v25), .second, .val (.int v27), .val (.ref b_4)] [(.int (4 : Int32)), (.int v27), (.long v25), (.ref b_4)]))
  obtain ⟨_, _, ⟨T42, L42, k42, n42⟩, -, X42, ⟨Lc42, hQ42, l42, y42, z42⟩, st42⟩ := Jvm.LawKit.callS X40 hx (y := (⟨"com/example/liboutlay/liboutlay/core/ByteOutputNumberPinLaw", "ok", "([BJII)Z"⟩ : MethodName)) hown (mvT hZ (hw _ (List.mem_of_getElem? (i := 41) rfl))) (mvT hZ (hw _ (List.mem_of_getElem? (i := 42) rfl))) (mvT hZ (hw _ (List.mem_of_getElem? (i := 29) rfl))) (mvT hZ (hw _ (List.mem_of_getElem? (i := 43) rfl))) (by decide) (backOf (W := 0) (rm8 l Z a0 hw [] b_4 v25 v27 (4 : Int32) k_4 (11 : Int32) (((own_enc 9 ((o_lshl p0 (1 : Int32)) ^^^ (o_lshr p0 (63 : Int32))) 1 [(.int (nar .byte (o_i2b p1))), (.int (0 : Int32)), (.int (0 : Int32)), (.int (0 : Int32)), (.int (0 : Int32)), (.int (0 : Int32)), (.int (0 : Int32)), (.int (0 : Int32)), (.int (0 : Int32)), (.int (0 : Int32)), (.int (0 : Int32))])).2) (.int (0 : Int32)) (own_at 9 ((o_lshl p0 (1 : Int32)) ^^^ (o_lshr p0 (63 : Int32))) 4) h17 n0 Z17 F21 ⟨by decide, by decide⟩ (own_get p1 ((o_lshl p0 (1 : Int32)) ^^^ (o_lshr p0 (63 : Int32))) 4 (by decide))) hZ (hw _ (List.mem_of_getElem? (i := 43) rfl)) (hw _ (List.mem_of_getElem? (i := 29) rfl)) (by decide) (by decide)) (g := (mkF m 152 #[.val (.long p0), .second, .val (.int p1), .val (.ref b1), .val (.long v25), .second, .val (.int v27), .val (.ref b_4)] [(.int (4 : Int32)), (.int v27), (.long v25), (.ref b_4)])) rfl (by rw [hml]; rfl) (argsL := [(.ref b_4), (.long v25), (.int v27), (.int (4 : Int32))]) (rest := []) (lenOf pd_5 rfl) rfl (by show 2 * 0 + _ ≤ _; exact Nat.le_of_eq rfl) (hb hby at_152) (fun _ _ => ⟨rfl, e40, (by decide : 2 + 0 ≤ _), (by decide : 13 + 0 ≤ _)⟩)
  dsimp only [Pt.U, Pt.locs, Pt.cells, Pt.slots] at X42 l42 y42 z42 st42 hQ42
  subst l42 y42 z42
  obtain ⟨rfl, N42q, e42⟩ := hQ42
  have N42 := Fr.app N40 N42q
  refine own_via st42 ?_
  show own_Go p e below s _ _ _ (T42.setTop (mkF m 155 #[.val (.long p0), .second, .val (.int p1), .val (.ref b1), .val (.long v25), .second, .val (.int v27), .val (.ref b_4)] [(.int (own_ok (own_at 9 ((o_lshl p0 (1 : Int32)) ^^^ (o_lshr p0 (63 : Int32))) 4) v25 v27 (4 : Int32)))]))
  have hc43 : ¬ ((own_ok (own_at 9 ((o_lshl p0 (1 : Int32)) ^^^ (o_lshr p0 (63 : Int32))) 4) v25 v27 (4 : Int32)) = (0 : Int32)) := own_k4 hv25 hv27
  refine own_via (fun _ k => XS.ifNo X42.here hx rfl (hb hby at_155) rfl (Jvm.Free.XT.i0_eq_f hc43) k) ?_
  show own_Go p e below s _ _ _ (T42.setTop (mkF m 158 #[.val (.long p0), .second, .val (.int p1), .val (.ref b1), .val (.long v25), .second, .val (.int v27), .val (.ref b_4)] []))
  refine own_via (fun _ k => XS.aload X42.here hx rfl (hb hby at_158) rfl rfl k) ?_
  show own_Go p e below s _ _ _ (T42.setTop (mkF m 160 #[.val (.long p0), .second, .val (.int p1), .val (.ref b1), .val (.long v25), .second, .val (.int v27), .val (.ref b_4)] [(.ref b_4)]))
  refine own_via (fun _ k => XS.lload X42.here hx rfl (hb hby at_160) rfl k) ?_
  show own_Go p e below s _ _ _ (T42.setTop (mkF m 162 #[.val (.long p0), .second, .val (.int p1), .val (.ref b1), .val (.long v25), .second, .val (.int v27), .val (.ref b_4)] [(.long v25), (.ref b_4)]))
  refine own_via (fun _ k => XS.iload X42.here hx rfl (hb hby at_162) rfl k) ?_
  show own_Go p e below s _ _ _ (T42.setTop (mkF m 164 #[.val (.long p0), .second, .val (.int p1), .val (.ref b1), .val (.long v25), .second, .val (.int v27), .val (.ref b_4)] [(.int v27), (.long v25), (.ref b_4)]))
  refine own_via (fun _ k => XS.iconst X42.here hx rfl (hb hby at_164) k) ?_
  show own_Go p e below s _ _ _ (T42.setTop (mkF m 165 #[.val (.long p0), .second, .val (.int p1), .val (.ref b1), .val (.long v25), .second, .val (.int v27), .val (.ref b_4)] [(.int (5 : Int32)), (.int v27), (.long v25), (.ref b_4)]))
  obtain ⟨_, _, ⟨T44, L44, k44, n44⟩, -, X44, ⟨Lc44, hQ44, l44, y44, z44⟩, st44⟩ := Jvm.LawKit.callS X42 hx (y := (⟨"com/example/liboutlay/liboutlay/core/ByteOutputNumberPinLaw", "ok", "([BJII)Z"⟩ : MethodName)) hown (mvT hZ (hw _ (List.mem_of_getElem? (i := 41) rfl))) (mvT hZ (hw _ (List.mem_of_getElem? (i := 42) rfl))) (mvT hZ (hw _ (List.mem_of_getElem? (i := 29) rfl))) (mvT hZ (hw _ (List.mem_of_getElem? (i := 43) rfl))) (by decide) (backOf (W := 0) (rm8 l Z a0 hw [] b_4 v25 v27 (5 : Int32) k_4 (11 : Int32) (((own_enc 9 ((o_lshl p0 (1 : Int32)) ^^^ (o_lshr p0 (63 : Int32))) 1 [(.int (nar .byte (o_i2b p1))), (.int (0 : Int32)), (.int (0 : Int32)), (.int (0 : Int32)), (.int (0 : Int32)), (.int (0 : Int32)), (.int (0 : Int32)), (.int (0 : Int32)), (.int (0 : Int32)), (.int (0 : Int32)), (.int (0 : Int32))])).2) (.int (0 : Int32)) (own_at 9 ((o_lshl p0 (1 : Int32)) ^^^ (o_lshr p0 (63 : Int32))) 5) h17 n0 Z17 F21 ⟨by decide, by decide⟩ (own_get p1 ((o_lshl p0 (1 : Int32)) ^^^ (o_lshr p0 (63 : Int32))) 5 (by decide))) hZ (hw _ (List.mem_of_getElem? (i := 43) rfl)) (hw _ (List.mem_of_getElem? (i := 29) rfl)) (by decide) (by decide)) (g := (mkF m 165 #[.val (.long p0), .second, .val (.int p1), .val (.ref b1), .val (.long v25), .second, .val (.int v27), .val (.ref b_4)] [(.int (5 : Int32)), (.int v27), (.long v25), (.ref b_4)])) rfl (by rw [hml]; rfl) (argsL := [(.ref b_4), (.long v25), (.int v27), (.int (5 : Int32))]) (rest := []) (lenOf pd_5 rfl) rfl (by show 2 * 0 + _ ≤ _; exact Nat.le_of_eq rfl) (hb hby at_165) (fun _ _ => ⟨rfl, e42, (by decide : 2 + 0 ≤ _), (by decide : 13 + 0 ≤ _)⟩)
  dsimp only [Pt.U, Pt.locs, Pt.cells, Pt.slots] at X44 l44 y44 z44 st44 hQ44
  subst l44 y44 z44
  obtain ⟨rfl, N44q, e44⟩ := hQ44
  have N44 := Fr.app N42 N44q
  refine own_via st44 ?_
  show own_Go p e below s _ _ _ (T44.setTop (mkF m 168 #[.val (.long p0), .second, .val (.int p1), .val (.ref b1), .val (.long v25), .second, .val (.int v27), .val (.ref b_4)] [(.int (own_ok (own_at 9 ((o_lshl p0 (1 : Int32)) ^^^ (o_lshr p0 (63 : Int32))) 5) v25 v27 (5 : Int32)))]))
  have hc45 : ¬ ((own_ok (own_at 9 ((o_lshl p0 (1 : Int32)) ^^^ (o_lshr p0 (63 : Int32))) 5) v25 v27 (5 : Int32)) = (0 : Int32)) := own_k5 hv25 hv27
  refine own_via (fun _ k => XS.ifNo X44.here hx rfl (hb hby at_168) rfl (Jvm.Free.XT.i0_eq_f hc45) k) ?_
  show own_Go p e below s _ _ _ (T44.setTop (mkF m 171 #[.val (.long p0), .second, .val (.int p1), .val (.ref b1), .val (.long v25), .second, .val (.int v27), .val (.ref b_4)] []))
  refine own_via (fun _ k => XS.aload X44.here hx rfl (hb hby at_171) rfl rfl k) ?_
  show own_Go p e below s _ _ _ (T44.setTop (mkF m 173 #[.val (.long p0), .second, .val (.int p1), .val (.ref b1), .val (.long v25), .second, .val (.int v27), .val (.ref b_4)] [(.ref b_4)]))
  refine own_via (fun _ k => XS.lload X44.here hx rfl (hb hby at_173) rfl k) ?_
  show own_Go p e below s _ _ _ (T44.setTop (mkF m 175 #[.val (.long p0), .second, .val (.int p1), .val (.ref b1), .val (.long v25), .second, .val (.int v27), .val (.ref b_4)] [(.long v25), (.ref b_4)]))
  refine own_via (fun _ k => XS.iload X44.here hx rfl (hb hby at_175) rfl k) ?_
  show own_Go p e below s _ _ _ (T44.setTop (mkF m 177 #[.val (.long p0), .second, .val (.int p1), .val (.ref b1), .val (.long v25), .second, .val (.int v27), .val (.ref b_4)] [(.int v27), (.long v25), (.ref b_4)]))
  refine own_via (fun _ k => XS.bipush X44.here hx rfl (hb hby at_177) k) ?_
  show own_Go p e below s _ _ _ (T44.setTop (mkF m 179 #[.val (.long p0), .second, .val (.int p1), .val (.ref b1), .val (.long v25), .second, .val (.int v27), .val (.ref b_4)] [(.int (6 : Int32)), (.int v27), (.long v25), (.ref b_4)]))
  obtain ⟨_, _, ⟨T46, L46, k46, n46⟩, -, X46, ⟨Lc46, hQ46, l46, y46, z46⟩, st46⟩ := Jvm.LawKit.callS X44 hx (y := (⟨"com/example/liboutlay/liboutlay/core/ByteOutputNumberPinLaw", "ok", "([BJII)Z"⟩ : MethodName)) hown (mvT hZ (hw _ (List.mem_of_getElem? (i := 41) rfl))) (mvT hZ (hw _ (List.mem_of_getElem? (i := 42) rfl))) (mvT hZ (hw _ (List.mem_of_getElem? (i := 29) rfl))) (mvT hZ (hw _ (List.mem_of_getElem? (i := 43) rfl))) (by decide) (backOf (W := 0) (rm8 l Z a0 hw [] b_4 v25 v27 (6 : Int32) k_4 (11 : Int32) (((own_enc 9 ((o_lshl p0 (1 : Int32)) ^^^ (o_lshr p0 (63 : Int32))) 1 [(.int (nar .byte (o_i2b p1))), (.int (0 : Int32)), (.int (0 : Int32)), (.int (0 : Int32)), (.int (0 : Int32)), (.int (0 : Int32)), (.int (0 : Int32)), (.int (0 : Int32)), (.int (0 : Int32)), (.int (0 : Int32)), (.int (0 : Int32))])).2) (.int (0 : Int32)) (own_at 9 ((o_lshl p0 (1 : Int32)) ^^^ (o_lshr p0 (63 : Int32))) 6) h17 n0 Z17 F21 ⟨by decide, by decide⟩ (own_get p1 ((o_lshl p0 (1 : Int32)) ^^^ (o_lshr p0 (63 : Int32))) 6 (by decide))) hZ (hw _ (List.mem_of_getElem? (i := 43) rfl)) (hw _ (List.mem_of_getElem? (i := 29) rfl)) (by decide) (by decide)) (g := (mkF m 179 #[.val (.long p0), .second, .val (.int p1), .val (.ref b1), .val (.long v25), .second, .val (.int v27), .val (.ref b_4)] [(.int (6 : Int32)), (.int v27), (.long v25), (.ref b_4)])) rfl (by rw [hml]; rfl) (argsL := [(.ref b_4), (.long v25), (.int v27), (.int (6 : Int32))]) (rest := []) (lenOf pd_5 rfl) rfl (by show 2 * 0 + _ ≤ _; exact Nat.le_of_eq rfl) (hb hby at_179) (fun _ _ => ⟨rfl, e44, (by decide : 2 + 0 ≤ _), (by decide : 13 + 0 ≤ _)⟩)
  dsimp only [Pt.U, Pt.locs, Pt.cells, Pt.slots] at X46 l46 y46 z46 st46 hQ46
  subst l46 y46 z46
  obtain ⟨rfl, N46q, e46⟩ := hQ46
  have N46 := Fr.app N44 N46q
  refine own_via st46 ?_
  show own_Go p e below s _ _ _ (T46.setTop (mkF m 182 #[.val (.long p0), .second, .val (.int p1), .val (.ref b1), .val (.long v25), .second, .val (.int v27), .val (.ref b_4)] [(.int (own_ok (own_at 9 ((o_lshl p0 (1 : Int32)) ^^^ (o_lshr p0 (63 : Int32))) 6) v25 v27 (6 : Int32)))]))
  have hc47 : ¬ ((own_ok (own_at 9 ((o_lshl p0 (1 : Int32)) ^^^ (o_lshr p0 (63 : Int32))) 6) v25 v27 (6 : Int32)) = (0 : Int32)) := own_k6 hv25 hv27
  refine own_via (fun _ k => XS.ifNo X46.here hx rfl (hb hby at_182) rfl (Jvm.Free.XT.i0_eq_f hc47) k) ?_
  show own_Go p e below s _ _ _ (T46.setTop (mkF m 185 #[.val (.long p0), .second, .val (.int p1), .val (.ref b1), .val (.long v25), .second, .val (.int v27), .val (.ref b_4)] []))
  refine own_via (fun _ k => XS.aload X46.here hx rfl (hb hby at_185) rfl rfl k) ?_
  show own_Go p e below s _ _ _ (T46.setTop (mkF m 187 #[.val (.long p0), .second, .val (.int p1), .val (.ref b1), .val (.long v25), .second, .val (.int v27), .val (.ref b_4)] [(.ref b_4)]))
  refine own_via (fun _ k => XS.lload X46.here hx rfl (hb hby at_187) rfl k) ?_
  show own_Go p e below s _ _ _ (T46.setTop (mkF m 189 #[.val (.long p0), .second, .val (.int p1), .val (.ref b1), .val (.long v25), .second, .val (.int v27), .val (.ref b_4)] [(.long v25), (.ref b_4)]))
  refine own_via (fun _ k => XS.iload X46.here hx rfl (hb hby at_189) rfl k) ?_
  show own_Go p e below s _ _ _ (T46.setTop (mkF m 191 #[.val (.long p0), .second, .val (.int p1), .val (.ref b1), .val (.long v25), .second, .val (.int v27), .val (.ref b_4)] [(.int v27), (.long v25), (.ref b_4)]))
  refine own_via (fun _ k => XS.bipush X46.here hx rfl (hb hby at_191) k) ?_
  show own_Go p e below s _ _ _ (T46.setTop (mkF m 193 #[.val (.long p0), .second, .val (.int p1), .val (.ref b1), .val (.long v25), .second, .val (.int v27), .val (.ref b_4)] [(.int (7 : Int32)), (.int v27), (.long v25), (.ref b_4)]))
  obtain ⟨_, _, ⟨T48, L48, k48, n48⟩, -, X48, ⟨Lc48, hQ48, l48, y48, z48⟩, st48⟩ := Jvm.LawKit.callS X46 hx (y := (⟨"com/example/liboutlay/liboutlay/core/ByteOutputNumberPinLaw", "ok", "([BJII)Z"⟩ : MethodName)) hown (mvT hZ (hw _ (List.mem_of_getElem? (i := 41) rfl))) (mvT hZ (hw _ (List.mem_of_getElem? (i := 42) rfl))) (mvT hZ (hw _ (List.mem_of_getElem? (i := 29) rfl))) (mvT hZ (hw _ (List.mem_of_getElem? (i := 43) rfl))) (by decide) (backOf (W := 0) (rm8 l Z a0 hw [] b_4 v25 v27 (7 : Int32) k_4 (11 : Int32) (((own_enc 9 ((o_lshl p0 (1 : Int32)) ^^^ (o_lshr p0 (63 : Int32))) 1 [(.int (nar .byte (o_i2b p1))), (.int (0 : Int32)), (.int (0 : Int32)), (.int (0 : Int32)), (.int (0 : Int32)), (.int (0 : Int32)), (.int (0 : Int32)), (.int (0 : Int32)), (.int (0 : Int32)), (.int (0 : Int32)), (.int (0 : Int32))])).2) (.int (0 : Int32)) (own_at 9 ((o_lshl p0 (1 : Int32)) ^^^ (o_lshr p0 (63 : Int32))) 7) h17 n0 Z17 F21 ⟨by decide, by decide⟩ (own_get p1 ((o_lshl p0 (1 : Int32)) ^^^ (o_lshr p0 (63 : Int32))) 7 (by decide))) hZ (hw _ (List.mem_of_getElem? (i := 43) rfl)) (hw _ (List.mem_of_getElem? (i := 29) rfl)) (by decide) (by decide)) (g := (mkF m 193 #[.val (.long p0), .second, .val (.int p1), .val (.ref b1), .val (.long v25), .second, .val (.int v27), .val (.ref b_4)] [(.int (7 : Int32)), (.int v27), (.long v25), (.ref b_4)])) rfl (by rw [hml]; rfl) (argsL := [(.ref b_4), (.long v25), (.int v27), (.int (7 : Int32))]) (rest := []) (lenOf pd_5 rfl) rfl (by show 2 * 0 + _ ≤ _; exact Nat.le_of_eq rfl) (hb hby at_193) (fun _ _ => ⟨rfl, e46, (by decide : 2 + 0 ≤ _), (by decide : 13 + 0 ≤ _)⟩)
  dsimp only [Pt.U, Pt.locs, Pt.cells, Pt.slots] at X48 l48 y48 z48 st48 hQ48
  subst l48 y48 z48
  obtain ⟨rfl, N48q, e48⟩ := hQ48
  have N48 := Fr.app N46 N48q
  refine own_via st48 ?_
  show own_Go p e below s _ _ _ (T48.setTop (mkF m 196 #[.val (.long p0), .second, .val (.int p1), .val (.ref b1), .val (.long v25), .second, .val (.int v27), .val (.ref b_4)] [(.int (own_ok (own_at 9 ((o_lshl p0 (1 : Int32)) ^^^ (o_lshr p0 (63 : Int32))) 7) v25 v27 (7 : Int32)))]))
  have hc49 : ¬ ((own_ok (own_at 9 ((o_lshl p0 (1 : Int32)) ^^^ (o_lshr p0 (63 : Int32))) 7) v25 v27 (7 : Int32)) = (0 : Int32)) := own_k7 hv25 hv27
  refine own_via (fun _ k => XS.ifNo X48.here hx rfl (hb hby at_196) rfl (Jvm.Free.XT.i0_eq_f hc49) k) ?_
  show own_Go p e below s _ _ _ (T48.setTop (mkF m 199 #[.val (.long p0), .second, .val (.int p1), .val (.ref b1), .val (.long v25), .second, .val (.int v27), .val (.ref b_4)] []))
  refine own_via (fun _ k => XS.aload X48.here hx rfl (hb hby at_199) rfl rfl k) ?_
  show own_Go p e below s _ _ _ (T48.setTop (mkF m 201 #[.val (.long p0), .second, .val (.int p1), .val (.ref b1), .val (.long v25), .second, .val (.int v27), .val (.ref b_4)] [(.ref b_4)]))
  refine own_via (fun _ k => XS.lload X48.here hx rfl (hb hby at_201) rfl k) ?_
  show own_Go p e below s _ _ _ (T48.setTop (mkF m 203 #[.val (.long p0), .second, .val (.int p1), .val (.ref b1), .val (.long v25), .second, .val (.int v27), .val (.ref b_4)] [(.long v25), (.ref b_4)]))
  refine own_via (fun _ k => XS.iload X48.here hx rfl (hb hby at_203) rfl k) ?_
  show own_Go p e below s _ _ _ (T48.setTop (mkF m 205 #[.val (.long p0), .second, .val (.int p1), .val (.ref b1), .val (.long v25), .second, .val (.int v27), .val (.ref b_4)] [(.int v27), (.long v25), (.ref b_4)]))
  refine own_via (fun _ k => XS.bipush X48.here hx rfl (hb hby at_205) k) ?_
  show own_Go p e below s _ _ _ (T48.setTop (mkF m 207 #[.val (.long p0), .second, .val (.int p1), .val (.ref b1), .val (.long v25), .second, .val (.int v27), .val (.ref b_4)] [(.int (8 : Int32)), (.int v27), (.long v25), (.ref b_4)]))
  obtain ⟨_, _, ⟨T50, L50, k50, n50⟩, -, X50, ⟨Lc50, hQ50, l50, y50, z50⟩, st50⟩ := Jvm.LawKit.callS X48 hx (y := (⟨"com/example/liboutlay/liboutlay/core/ByteOutputNumberPinLaw", "ok", "([BJII)Z"⟩ : MethodName)) hown (mvT hZ (hw _ (List.mem_of_getElem? (i := 41) rfl))) (mvT hZ (hw _ (List.mem_of_getElem? (i := 42) rfl))) (mvT hZ (hw _ (List.mem_of_getElem? (i := 29) rfl))) (mvT hZ (hw _ (List.mem_of_getElem? (i := 43) rfl))) (by decide) (backOf (W := 0) (rm8 l Z a0 hw [] b_4 v25 v27 (8 : Int32) k_4 (11 : Int32) (((own_enc 9 ((o_lshl p0 (1 : Int32)) ^^^ (o_lshr p0 (63 : Int32))) 1 [(.int (nar .byte (o_i2b p1))), (.int (0 : Int32)), (.int (0 : Int32)), (.int (0 : Int32)), (.int (0 : Int32)), (.int (0 : Int32)), (.int (0 : Int32)), (.int (0 : Int32)), (.int (0 : Int32)), (.int (0 : Int32)), (.int (0 : Int32))])).2) (.int (0 : Int32)) (own_at 9 ((o_lshl p0 (1 : Int32)) ^^^ (o_lshr p0 (63 : Int32))) 8) h17 n0 Z17 F21 ⟨by decide, by decide⟩ (own_get p1 ((o_lshl p0 (1 : Int32)) ^^^ (o_lshr p0 (63 : Int32))) 8 (by decide))) hZ (hw _ (List.mem_of_getElem? (i := 43) rfl)) (hw _ (List.mem_of_getElem? (i := 29) rfl)) (by decide) (by decide)) (g := (mkF m 207 #[.val (.long p0), .second, .val (.int p1), .val (.ref b1), .val (.long v25), .second, .val (.int v27), .val (.ref b_4)] [(.int (8 : Int32)), (.int v27), (.long v25), (.ref b_4)])) rfl (by rw [hml]; rfl) (argsL := [(.ref b_4), (.long v25), (.int v27), (.int (8 : Int32))]) (rest := []) (lenOf pd_5 rfl) rfl (by show 2 * 0 + _ ≤ _; exact Nat.le_of_eq rfl) (hb hby at_207) (fun _ _ => ⟨rfl, e48, (by decide : 2 + 0 ≤ _), (by decide : 13 + 0 ≤ _)⟩)
  dsimp only [Pt.U, Pt.locs, Pt.cells, Pt.slots] at X50 l50 y50 z50 st50 hQ50
  subst l50 y50 z50
  obtain ⟨rfl, N50q, e50⟩ := hQ50
  have N50 := Fr.app N48 N50q
  refine own_via st50 ?_
  show own_Go p e below s _ _ _ (T50.setTop (mkF m 210 #[.val (.long p0), .second, .val (.int p1), .val (.ref b1), .val (.long v25), .second, .val (.int v27), .val (.ref b_4)] [(.int (own_ok (own_at 9 ((o_lshl p0 (1 : Int32)) ^^^ (o_lshr p0 (63 : Int32))) 8) v25 v27 (8 : Int32)))]))
  have hc51 : ¬ ((own_ok (own_at 9 ((o_lshl p0 (1 : Int32)) ^^^ (o_lshr p0 (63 : Int32))) 8) v25 v27 (8 : Int32)) = (0 : Int32)) := own_k8 hv25 hv27
  refine own_via (fun _ k => XS.ifNo X50.here hx rfl (hb hby at_210) rfl (Jvm.Free.XT.i0_eq_f hc51) k) ?_
  show own_Go p e below s _ _ _ (T50.setTop (mkF m 213 #[.val (.long p0), .second, .val (.int p1), .val (.ref b1), .val (.long v25), .second, .val (.int v27), .val (.ref b_4)] []))
  refine own_via (fun _ k => XS.aload X50.here hx rfl (hb hby at_213) rfl rfl k) ?_
  show own_Go p e below s _ _ _ (T50.setTop (mkF m 215 #[.val (.long p0), .second, .val (.int p1), .val (.ref b1), .val (.long v25), .second, .val (.int v27), .val (.ref b_4)] [(.ref b_4)]))
  refine own_via (fun _ k => XS.lload X50.here hx rfl (hb hby at_215) rfl k) ?_
  show own_Go p e below s _ _ _ (T50.setTop (mkF m 217 #[.val (.long p0), .second, .val (.int p1), .val (.ref b1), .val (.long v25), .second, .val (.int v27), .val (.ref b_4)] [(.long v25), (.ref b_4)]))
  refine own_via (fun _ k => XS.iload X50.here hx rfl (hb hby at_217) rfl k) ?_
  show own_Go p e below s _ _ _ (T50.setTop (mkF m 219 #[.val (.long p0), .second, .val (.int p1), .val (.ref b1), .val (.long v25), .second, .val (.int v27), .val (.ref b_4)] [(.int v27), (.long v25), (.ref b_4)]))
  refine own_via (fun _ k => XS.bipush X50.here hx rfl (hb hby at_219) k) ?_
  show own_Go p e below s _ _ _ (T50.setTop (mkF m 221 #[.val (.long p0), .second, .val (.int p1), .val (.ref b1), .val (.long v25), .second, .val (.int v27), .val (.ref b_4)] [(.int (9 : Int32)), (.int v27), (.long v25), (.ref b_4)]))
  obtain ⟨_, _, ⟨T52, L52, k52, n52⟩, -, X52, ⟨Lc52, hQ52, l52, y52, z52⟩, st52⟩ := Jvm.LawKit.callS X50 hx (y := (⟨"com/example/liboutlay/liboutlay/core/ByteOutputNumberPinLaw", "ok", "([BJII)Z"⟩ : MethodName)) hown (mvT hZ (hw _ (List.mem_of_getElem? (i := 41) rfl))) (mvT hZ (hw _ (List.mem_of_getElem? (i := 42) rfl))) (mvT hZ (hw _ (List.mem_of_getElem? (i := 29) rfl))) (mvT hZ (hw _ (List.mem_of_getElem? (i := 43) rfl))) (by decide) (backOf (W := 0) (rm8 l Z a0 hw [] b_4 v25 v27 (9 : Int32) k_4 (11 : Int32) (((own_enc 9 ((o_lshl p0 (1 : Int32)) ^^^ (o_lshr p0 (63 : Int32))) 1 [(.int (nar .byte (o_i2b p1))), (.int (0 : Int32)), (.int (0 : Int32)), (.int (0 : Int32)), (.int (0 : Int32)), (.int (0 : Int32)), (.int (0 : Int32)), (.int (0 : Int32)), (.int (0 : Int32)), (.int (0 : Int32)), (.int (0 : Int32))])).2) (.int (0 : Int32)) (own_at 9 ((o_lshl p0 (1 : Int32)) ^^^ (o_lshr p0 (63 : Int32))) 9) h17 n0 Z17 F21 ⟨by decide, by decide⟩ (own_get p1 ((o_lshl p0 (1 : Int32)) ^^^ (o_lshr p0 (63 : Int32))) 9 (by decide))) hZ (hw _ (List.mem_of_getElem? (i := 43) rfl)) (hw _ (List.mem_of_getElem? (i := 29) rfl)) (by decide) (by decide)) (g := (mkF m 221 #[.val (.long p0), .second, .val (.int p1), .val (.ref b1), .val (.long v25), .second, .val (.int v27), .val (.ref b_4)] [(.int (9 : Int32)), (.int v27), (.long v25), (.ref b_4)])) rfl (by rw [hml]; rfl) (argsL := [(.ref b_4), (.long v25), (.int v27), (.int (9 : Int32))]) (rest := []) (lenOf pd_5 rfl) rfl (by show 2 * 0 + _ ≤ _; exact Nat.le_of_eq rfl) (hb hby at_221) (fun _ _ => ⟨rfl, e50, (by decide : 2 + 0 ≤ _), (by decide : 13 + 0 ≤ _)⟩)
  dsimp only [Pt.U, Pt.locs, Pt.cells, Pt.slots] at X52 l52 y52 z52 st52 hQ52
  subst l52 y52 z52
  obtain ⟨rfl, N52q, e52⟩ := hQ52
  have N52 := Fr.app N50 N52q
  refine own_via st52 ?_
  show own_Go p e below s _ _ _ (T52.setTop (mkF m 224 #[.val (.long p0), .second, .val (.int p1), .val (.ref b1), .val (.long v25), .second, .val (.int v27), .val (.ref b_4)] [(.int (own_ok (own_at 9 ((o_lshl p0 (1 : Int32)) ^^^ (o_lshr p0 (63 : Int32))) 9) v25 v27 (9 : Int32)))]))
  have hc53 : ¬ ((own_ok (own_at 9 ((o_lshl p0 (1 : Int32)) ^^^ (o_lshr p0 (63 : Int32))) 9) v25 v27 (9 : Int32)) = (0 : Int32)) := own_k9 hv25 hv27
  refine own_via (fun _ k => XS.ifNo X52.here hx rfl (hb hby at_224) rfl (Jvm.Free.XT.i0_eq_f hc53) k) ?_
  show own_Go p e below s _ _ _ (T52.setTop (mkF m 227 #[.val (.long p0), .second, .val (.int p1), .val (.ref b1), .val (.long v25), .second, .val (.int v27), .val (.ref b_4)] []))
  refine own_via (fun _ k => XS.iconst X52.here hx rfl (hb hby at_227) k) ?_
  show own_Go p e below s _ _ _ (T52.setTop (mkF m 228 #[.val (.long p0), .second, .val (.int p1), .val (.ref b1), .val (.long v25), .second, .val (.int v27), .val (.ref b_4)] [(.int (1 : Int32))]))
  refine own_via (fun _ k => XS.goto X52.here hx rfl (pc0 := 228) (pc' := 232) rfl (hb hby at_228) (by decide) (by decide) k) ?_
  show own_Go p e below s _ _ _ (T52.setTop (mkF m 232 #[.val (.long p0), .second, .val (.int p1), .val (.ref b1), .val (.long v25), .second, .val (.int v27), .val (.ref b_4)] [(.int (1 : Int32))]))
  exact own_goN X52 hx (t := .boolean) Bd.returns (by simp) (hb hby at_232) Bd.notSynchronized (by decide) (by decide) (by rw [e52]; exact ⟨rfl, N52⟩)
set_option maxRecDepth 65536 in
set_option maxHeartbeats 40000000 in
theorem comes_1 {Post : Tables → Env → Array Value → State → Outcome → State → Prop} (hpost : ∀ tb e args s v u, (limb_1_1.after args s (.returned v) u = true ∧ limb_1_2.after args s (.returned v) u = true ∧ True) → FrameEnd s (.returned v) u (Jvm.fieldLocs frame_1_writes args s ++ Jvm.arrayLocs frame_1_arrays args s ++ Jvm.staticLocs frame_1_statics s) 16 128 → Post tb e args s (.returned v) u) :
    ArmFor flags0 classFile x code maxLocals ret World_1 tables_1 room_1 Calls_1 rest_1 Pre_1 Post := by
  intro l hfl _ _ p e ha hc hk s m args below hf hA hF happ hP
  obtain ⟨hcalls, hrest, hpre⟩ := hP
  obtain ⟨-, -, -, hnamed, -, -, -, hat⟩ := (Spec.applies_iff hf).mp happ
  obtain ⟨hg, hn⟩ := and_e (Cond.before_iff.mp (show (Jvm.Cond.and given_1 narrow_1).before args s = true from hpre))
  obtain ⟨g1, g2⟩ := and_e hg
  obtain ⟨g3, g4⟩ := and_e g2
  obtain ⟨w0, w1, rfl⟩ : ∃ w0 w1 : Value, args = #[w0, w1] := by
    have hs : args.size = 2 := by simpa [Cond.value, given_1] using g1
    obtain ⟨L⟩ := args
    match L, hs with
    | [w0, w1], _ => exact ⟨w0, w1, rfl⟩
  have hw := fun d (hd : d ∈ tables_1) => atoms_spec (ws := Jvm.Cond.code x code maxLocals ret :: tables_1) hat d (List.mem_cons_of_mem _ hd)
  have hfit : Fit s := fun {y c} hc i hi => by
    obtain ⟨ha, rfl⟩ := Array.getElem?_eq_some_iff.mp hc
    have q := List.all_eq_true.mp ((Array.all_eq_true_iff_forall_mem.mp hF) _ (Array.getElem_mem ha)) i (List.mem_range.mpr hi)
    simpa [Array.getElem?_eq_getElem hi] using q
  obtain ⟨i0, ei0⟩ := isL_v g3
  obtain rfl : w0 = (.long i0) := Option.some.inj ei0
  obtain ⟨i1, ei1⟩ := is_v g4
  obtain rfl : w1 = (.int i1) := Option.some.inj ei1
  obtain ⟨n, o, h1, h2, h3, _, L, rfl, ⟨rfl, N⟩, hq⟩ := rm0 l s _ hw tables_1 i0 i1 s.heap s.heap.size (Nat.le_refl _)  p e ha hc hk s m _ below hf ((Spec.applies_iff_loose hf).mp happ).1 ⟨rfl, State.Warmed39.refl s, rfl⟩ trivial
  refine ⟨n, _, h1, h2, h3, hpost _ _ _ _ _ _ ⟨Cond.after_iff.mpr rfl, Cond.after_iff.mpr (eq_i res_at (Term.int_eval (1)) rfl), trivial⟩ ⟨hq.1, hq.2.1, (hq.2.2.sift fun y hy => Or.inr (N y hy)).mono (by decide) (by decide)⟩⟩
theorem main_1_1 : Claimed_1_1 := comes_1 fun _ _ _ _ _ _ h hF => ⟨h.1, hF⟩
theorem main_1_2 : Claimed_1_2 := comes_1 fun _ _ _ _ _ _ h hF => ⟨h.2.1, hF⟩
end Jvm.Pilot.@@N@@
namespace Jvm.Pilot.@@N@@
open Jvm Jvm.ClassFile Sem Op Lib Jvm.Free Jvm.Stand Jvm.Pilot.@@N@@.Jvm.D
/-! MADE BY PROGRAM (witnessworld.py) out of the Statement's table words and the real class files: 9 classes; the members and pool entries that the words name. The judged class is class 1, her method 1. -/
namespace start1
open Jvm.ClassFile
def u (s : String) : CpInfo := .utf8 (stringToUtf16 s)
/-- a pool by its gaps: so many unusable entries, then the entry; so many at the end -/
def gap : Nat → List CpInfo → List CpInfo
  | 0, r => r
  | n + 1, r => .unusable :: gap n r
def poolList (es : List (Nat × CpInfo)) (last : Nat) : List CpInfo := es.foldr (fun e r => gap e.1 (e.2 :: r)) (gap last [])
def pool (es : List (Nat × CpInfo)) (last : Nat) : Array CpInfo := ⟨poolList es last⟩
def fileOf (pool : Array CpInfo) (this : Nat) (attrs : Array Attribute := #[]) (ms : Array MethodInfo := #[]) (fl : Nat := 33) (sup : Nat := 0) (ifs : Array Nat := #[]) (fds : Array FieldInfo := #[]) : ClassFile where
  minorVersion := 0
  majorVersion := 65
  constantPool := pool
  accessFlags := fl
  thisClass := this
  superClass := sup
  interfaces := ifs
  fields := fds
  methods := ms
  attributes := attrs
def plain (name : String) (sup : Option ClassId) : Class where
  name := name
  kind := .ordinary
  loader := none
  accessFlags := 33
  super := sup
  interfaces := #[]
  cf := none
  fields := #[]
  methods := #[]
  instanceTypes := #[]
  staticTypes := #[]
  resolved := #[]
  callSites := []
  init := .initialized
  statics := none
  mirror := none

def pool0 : Array CpInfo := pool [(5, u "<init>"), (0, u "()V"), (1, .class_ 10), (1, u "java/lang/Object")] 113

def k0c0 : Code := { maxStack := 0, maxLocals := 1, code := object_method_1_code, exceptionTable := #[], attributes := #[] }
def k0m0 : Method := { name := "<init>", desc := "()V", sig := { parameters := [], returnType := none }, accessFlags := 1, code := some k0c0 }
/-- java/lang/Object -/
def k0 : Class := { plain "java/lang/Object" none with
  accessFlags := 33
  interfaces := #[]
  cf := some (fileOf pool0 8 #[] #[{ accessFlags := 1, nameIndex := 5, descriptorIndex := 6, attributes := #[] }] 33 0 #[] #[])
  fields := #[]
  methods := #[k0m0]
  instanceTypes := #[]
  staticTypes := #[]
  resolved := Array.replicate 124 none
  statics := none }

def pool1 : Array CpInfo := pool [(2, .class_ 4), (1, u "java/lang/Object"), (0, u "<init>"), (0, u "()V"), (0, .class_ 8), (0, u "com/example/liboutlay/liboutlay/core/ByteOutput"), (0, .methodref 7 10), (0, .nameAndType 5 11), (0, u "(I)V"), (0, .methodref 7 13), (0, .nameAndType 14 11), (0, u "put"), (0, .methodref 7 16), (0, .nameAndType 17 18), (0, u "number"), (0, u "(J)V"), (0, .long 2), (1, .methodref 22 23), (0, .class_ 24), (0, .nameAndType 25 26), (0, u "com/example/liboutlay/liboutlay/core/ByteOutputNumberPinLaw"), (0, u "groups"), (0, u "(J)I"), (0, .methodref 7 28), (0, .nameAndType 29 30), (0, u "array"), (0, u "()[B"), (0, .methodref 7 32), (0, .nameAndType 33 34), (0, u "length"), (0, u "()I"), (0, .methodref 22 36), (0, .nameAndType 37 38), (0, u "ok"), (0, u "([BJII)Z"), (0, .long 127), (3, u "law"), (0, u "(JI)Z")] 5

def k1m0 : Method := { name := "<init>", desc := "()V", sig := { parameters := [], returnType := none }, accessFlags := 1, code := none }
def k1c1 : Code := { maxStack := 5, maxLocals := 8, code := code, exceptionTable := #[], attributes := #[] }
def k1m1 : Method := { name := "law", desc := "(JI)Z", sig := { parameters := [.long, .int], returnType := some .boolean }, accessFlags := 9, code := some k1c1 }
def k1c2 : Code := { maxStack := 4, maxLocals := 2, code := method_3_code, exceptionTable := #[], attributes := #[] }
def k1m2 : Method := { name := "groups", desc := "(J)I", sig := { parameters := [.long], returnType := some .int }, accessFlags := 10, code := some k1c2 }
def k1c3 : Code := { maxStack := 4, maxLocals := 8, code := method_4_code, exceptionTable := #[], attributes := #[] }
def k1m3 : Method := { name := "ok", desc := "([BJII)Z", sig := { parameters := [(.array .byte), .long, .int, .int], returnType := some .boolean }, accessFlags := 10, code := some k1c3 }
/-- com/example/liboutlay/liboutlay/core/ByteOutputNumberPinLaw -/
def k1 : Class := { plain "com/example/liboutlay/liboutlay/core/ByteOutputNumberPinLaw" (some 0) with
  accessFlags := 49
  interfaces := #[]
  cf := some (fileOf pool1 22 #[] #[{ accessFlags := 1, nameIndex := 5, descriptorIndex := 6, attributes := #[] }, { accessFlags := 9, nameIndex := 43, descriptorIndex := 44, attributes := #[] }, { accessFlags := 10, nameIndex := 25, descriptorIndex := 26, attributes := #[] }, { accessFlags := 10, nameIndex := 37, descriptorIndex := 38, attributes := #[] }] 49 2 #[] #[])
  fields := #[]
  methods := #[k1m0, k1m1, k1m2, k1m3]
  instanceTypes := #[]
  staticTypes := #[]
  resolved := Array.replicate 50 none
  statics := none }

def pool2 : Array CpInfo := pool [(1, .methodref 2 3), (0, .class_ 4), (0, .nameAndType 5 6), (0, u "java/lang/Object"), (0, u "<init>"), (0, u "()V"), (0, .fieldref 8 9), (0, .class_ 10), (0, .nameAndType 11 12), (0, u "com/example/liboutlay/liboutlay/core/ByteOutput"), (0, u "bytes"), (0, u "[B"), (21, .fieldref 8 35), (0, .nameAndType 36 37), (0, u "length"), (0, u "I"), (3, u "()I"), (22, .long 18446744073709551488), (1, .long 127), (1, .methodref 8 69), (0, .nameAndType 70 71), (0, u "put"), (0, u "(I)V"), (11, u "number"), (0, u "(J)V"), (34, u "()[B"), (0, u "DIVIDED"), (2, u "WIDE_NUMERATOR"), (1, u "WIDE_DIVISOR"), (6, u "array")] 9

def k2c0 : Code := { maxStack := 2, maxLocals := 2, code := prog_19_method_1_code, exceptionTable := #[], attributes := #[] }
def k2m0 : Method := { name := "<init>", desc := "(I)V", sig := { parameters := [.int], returnType := none }, accessFlags := 0, code := some k2c0 }
def k2c1 : Code := { maxStack := 1, maxLocals := 1, code := prog_19_method_4_code, exceptionTable := #[], attributes := #[] }
def k2m1 : Method := { name := "length", desc := "()I", sig := { parameters := [], returnType := some .int }, accessFlags := 0, code := some k2c1 }
def k2c2 : Code := { maxStack := 1, maxLocals := 1, code := prog_19_method_5_code, exceptionTable := #[], attributes := #[] }
def k2m2 : Method := { name := "array", desc := "()[B", sig := { parameters := [], returnType := some (.array .byte) }, accessFlags := 0, code := some k2c2 }
def k2c3 : Code := { maxStack := 5, maxLocals := 2, code := prog_19_method_10_code, exceptionTable := #[], attributes := #[] }
def k2m3 : Method := { name := "put", desc := "(I)V", sig := { parameters := [.int], returnType := none }, accessFlags := 0, code := some k2c3 }
def k2c4 : Code := { maxStack := 5, maxLocals := 5, code := prog_19_method_11_code, exceptionTable := #[], attributes := #[] }
def k2m4 : Method := { name := "number", desc := "(J)V", sig := { parameters := [.long], returnType := none }, accessFlags := 0, code := some k2c4 }
/-- com/example/liboutlay/liboutlay/core/ByteOutput -/
def k2 : Class := { plain "com/example/liboutlay/liboutlay/core/ByteOutput" (some 0) with
  accessFlags := 48
  interfaces := #[]
  cf := some (fileOf pool2 8 #[] #[{ accessFlags := 0, nameIndex := 5, descriptorIndex := 71, attributes := #[] }, { accessFlags := 0, nameIndex := 36, descriptorIndex := 41, attributes := #[] }, { accessFlags := 0, nameIndex := 132, descriptorIndex := 119, attributes := #[] }, { accessFlags := 0, nameIndex := 70, descriptorIndex := 71, attributes := #[] }, { accessFlags := 0, nameIndex := 83, descriptorIndex := 84, attributes := #[] }] 48 2 #[] #[{ accessFlags := 24, nameIndex := 120, descriptorIndex := 37, attributes := #[] }, { accessFlags := 24, nameIndex := 123, descriptorIndex := 37, attributes := #[] }, { accessFlags := 24, nameIndex := 125, descriptorIndex := 37, attributes := #[] }, { accessFlags := 2, nameIndex := 11, descriptorIndex := 12, attributes := #[] }, { accessFlags := 2, nameIndex := 36, descriptorIndex := 37, attributes := #[] }])
  fields := #[{ name := "DIVIDED", type := .int, accessFlags := 24, slot := 0, constantValue := 0 }, { name := "WIDE_NUMERATOR", type := .int, accessFlags := 24, slot := 1, constantValue := 0 }, { name := "WIDE_DIVISOR", type := .int, accessFlags := 24, slot := 2, constantValue := 0 }, { name := "bytes", type := (.array .byte), accessFlags := 2, slot := 0, constantValue := 0 }, { name := "length", type := .int, accessFlags := 2, slot := 1, constantValue := 0 }]
  methods := #[k2m0, k2m1, k2m2, k2m3, k2m4]
  instanceTypes := #[(.array .byte), .int]
  staticTypes := #[.int, .int, .int]
  resolved := Array.replicate 142 none
  statics := none }

def pool3 : Array CpInfo := pool [(1, u "java/lang/Cloneable"), (0, .class_ 1), (0, u "java/lang/Object"), (0, .class_ 3)] 3

/-- java/lang/Cloneable -/
def k3 : Class := { plain "java/lang/Cloneable" (some 0) with
  accessFlags := 1537
  interfaces := #[]
  cf := some (fileOf pool3 2 #[] #[] 1537 4 #[] #[])
  fields := #[]
  methods := #[]
  instanceTypes := #[]
  staticTypes := #[]
  resolved := Array.replicate 8 none
  statics := none }

def pool4 : Array CpInfo := pool [(1, u "java/io/Serializable"), (0, .class_ 1), (0, u "java/lang/Object"), (0, .class_ 3)] 3

/-- java/io/Serializable -/
def k4 : Class := { plain "java/io/Serializable" (some 0) with
  accessFlags := 1537
  interfaces := #[]
  cf := some (fileOf pool4 2 #[] #[] 1537 4 #[] #[])
  fields := #[]
  methods := #[]
  instanceTypes := #[]
  staticTypes := #[]
  resolved := Array.replicate 8 none
  statics := none }

/-- the primitive byte -/
def k5 : Class := { plain "byte" none with kind := .primitive 'B', accessFlags := 0x411 }
/-- [B -/
def k6 : Class := { plain "[B" (some 0) with kind := .array 5 .byte, interfaces := #[3, 4], accessFlags := 1041 }

/-- the primitive int -/
def k7 : Class := { plain "int" none with kind := .primitive 'I', accessFlags := 0x411 }
/-- [I -/
def k8 : Class := { plain "[I" (some 0) with kind := .array 7 .int, interfaces := #[3, 4], accessFlags := 1041 }

def heap : Heap := #[]
def classes : Array Class := #[k0, k1, k2, k3, k4, k5, k6, k7, k8]
def interned : List (Array UInt16 × Addr) := []
def slotsUsed : Nat := 0
def theMethod : MethodId := ⟨1, 1⟩
def args0 : Array Value := #[.long 300, .int 6]
def aboutOver (below : List Frame) : State where
  vm := { classes := classes, interned := interned.toArray }
  heap := heap
  slotsUsed := slotsUsed
  threads := #[{ frames := .invoking theMethod args0 :: below }]
def below0 : List Frame := [.native { method := ⟨0, 0⟩, args := #[] }]
def about1 : State := aboutOver below0
def p0 : Program := .bare "" "" ""
def e0 : Env := launch0.env 0 0 0
theorem w_frames : about1.frames = Frame.invoking theMethod args0 :: below0 := rfl
set_option maxRecDepth 65536 in
theorem w_args : argsFit about1.vm theMethod args0 = true := by decide +kernel
set_option maxRecDepth 65536 in
theorem w_heap : heapFits about1 = true := by decide +kernel
set_option maxRecDepth 65536 in
theorem w_runnable : about1.curStatus? = some .runnable := by decide +kernel
set_option maxRecDepth 65536 in
theorem w_alone : about1.alone = true := by decide +kernel
set_option maxRecDepth 65536 in
theorem w_named : about1.methodNamed? x = some theMethod := by decide +kernel
set_option maxRecDepth 65536 in
theorem w_hears : about1.hears theMethod below0 = true := by decide +kernel
set_option maxRecDepth 65536 in
theorem w_ripe : about1.ripe theMethod args0 below0 = true := by decide +kernel
theorem w_running : about1.status = .running := rfl
set_option maxRecDepth 65536 in
theorem w_room : about1.hasRoom e0.platform room_1 = true :=
  launch0.hasRoom_least _ room_1 (by decide +kernel) (by decide +kernel) (by decide +kernel) (by decide +kernel) (by decide +kernel) (by decide +kernel)
theorem allAtoms_all (ts : List Jvm.Cond) (a : Array Jvm.Value) (st : Jvm.State) : (allAtoms ts).before a st = ts.all (fun c => c.before a st) := by
  induction ts with
  | nil => rfl
  | cons c t ih =>
    show (Jvm.Cond.and c (allAtoms t)).before a st = _
    rw [Jvm.Cond.before_and, ih, List.all_cons]
def words1 : List Jvm.Cond := Jvm.Cond.code x code maxLocals ret :: tables_1
/-- a 'code' word, met by the world's own term for the bytes: nothing is compared byte by byte -/
theorem code_word {y : MethodName} {bytes : ByteArray} {mx : Nat} {rt : Option FieldType} {a : Array Value} {s : State} {m : MethodId} {meth : Method} {c : Code} (h1 : s.methodNamed? y = some m) (h2 : s.vm.method? m = some meth) (h3 : meth.code = some c) (h4 : c.code = bytes)
    (h5 : (c.maxLocals == mx && c.exceptionTable.isEmpty && decide (c.maxStack ≤ mostOperands) && decide (meth.sig.returnType = rt) && !meth.locks && decide (parseMethodDescriptor y.desc = some meth.sig)) = true) : (Jvm.Cond.code y bytes mx rt).before a s = true := by
  simp only [Bool.and_eq_true, beq_iff_eq, Bool.not_eq_true', decide_eq_true_eq] at h5
  obtain ⟨⟨⟨⟨⟨g1, g2⟩, g3⟩, g4⟩, g5⟩, g6⟩ := h5
  simp [Cond.before, Cond.holds, Cond.value, h1, h2, h3, h4, g1, g2, g3, g4, g5, g6]
def isCode : Jvm.Cond → Bool
  | .code _ _ _ _ => true
  | _ => false
theorem all_split {L : List Jvm.Cond} {P : Jvm.Cond → Bool} (h1 : L.all (fun c => isCode c || P c) = true) (h2 : ∀ c ∈ L.filter isCode, P c = true) : L.all P = true := by
  refine List.all_eq_true.mpr fun c hc => ?_
  have h := List.all_eq_true.mp h1 c hc
  rcases Bool.eq_false_or_eq_true (isCode c) with hi | hi
  · exact h2 c (List.mem_filter.mpr ⟨hc, hi⟩)
  · simpa [hi] using h
set_option maxRecDepth 65536 in
theorem w_c0 : (Jvm.Cond.code x code maxLocals ret).before args0 about1 = true := code_word (m := ⟨1, 1⟩) (meth := k1m1) (c := k1c1) (by decide +kernel) rfl rfl rfl (by decide +kernel)
set_option maxRecDepth 65536 in
theorem w_c1 : (Jvm.Cond.code ({ cls := "com/example/liboutlay/liboutlay/core/ByteOutput", name := "<init>", desc := "(I)V" } : Jvm.MethodName) prog_19_method_1_code (2 : Nat) (Option.none : Option Jvm.ClassFile.FieldType)).before args0 about1 = true := code_word (m := ⟨2, 0⟩) (meth := k2m0) (c := k2c0) (by decide +kernel) rfl rfl rfl (by decide +kernel)
set_option maxRecDepth 65536 in
theorem w_c2 : (Jvm.Cond.code ({ cls := "java/lang/Object", name := "<init>", desc := "()V" } : Jvm.MethodName) object_method_1_code (1 : Nat) (Option.none : Option Jvm.ClassFile.FieldType)).before args0 about1 = true := code_word (m := ⟨0, 0⟩) (meth := k0m0) (c := k0c0) (by decide +kernel) rfl rfl rfl (by decide +kernel)
set_option maxRecDepth 65536 in
theorem w_c3 : (Jvm.Cond.code ({ cls := "com/example/liboutlay/liboutlay/core/ByteOutput", name := "put", desc := "(I)V" } : Jvm.MethodName) prog_19_method_10_code (2 : Nat) (Option.none : Option Jvm.ClassFile.FieldType)).before args0 about1 = true := code_word (m := ⟨2, 3⟩) (meth := k2m3) (c := k2c3) (by decide +kernel) rfl rfl rfl (by decide +kernel)
set_option maxRecDepth 65536 in
theorem w_c4 : (Jvm.Cond.code ({ cls := "com/example/liboutlay/liboutlay/core/ByteOutput", name := "number", desc := "(J)V" } : Jvm.MethodName) prog_19_method_11_code (5 : Nat) (Option.none : Option Jvm.ClassFile.FieldType)).before args0 about1 = true := code_word (m := ⟨2, 4⟩) (meth := k2m4) (c := k2c4) (by decide +kernel) rfl rfl rfl (by decide +kernel)
set_option maxRecDepth 65536 in
theorem w_c5 : (Jvm.Cond.code ({ cls := "com/example/liboutlay/liboutlay/core/ByteOutputNumberPinLaw", name := "groups", desc := "(J)I" } : Jvm.MethodName) method_3_code (2 : Nat) (Option.some Jvm.ClassFile.FieldType.int)).before args0 about1 = true := code_word (m := ⟨1, 2⟩) (meth := k1m2) (c := k1c2) (by decide +kernel) rfl rfl rfl (by decide +kernel)
set_option maxRecDepth 65536 in
theorem w_c6 : (Jvm.Cond.code ({ cls := "com/example/liboutlay/liboutlay/core/ByteOutput", name := "array", desc := "()[B" } : Jvm.MethodName) prog_19_method_5_code (1 : Nat) (Option.some (Jvm.ClassFile.FieldType.array Jvm.ClassFile.FieldType.byte))).before args0 about1 = true := code_word (m := ⟨2, 2⟩) (meth := k2m2) (c := k2c2) (by decide +kernel) rfl rfl rfl (by decide +kernel)
set_option maxRecDepth 65536 in
theorem w_c7 : (Jvm.Cond.code ({ cls := "com/example/liboutlay/liboutlay/core/ByteOutput", name := "length", desc := "()I" } : Jvm.MethodName) prog_19_method_4_code (1 : Nat) (Option.some Jvm.ClassFile.FieldType.int)).before args0 about1 = true := code_word (m := ⟨2, 1⟩) (meth := k2m1) (c := k2c1) (by decide +kernel) rfl rfl rfl (by decide +kernel)
set_option maxRecDepth 65536 in
theorem w_c8 : (Jvm.Cond.code ({ cls := "com/example/liboutlay/liboutlay/core/ByteOutputNumberPinLaw", name := "ok", desc := "([BJII)Z" } : Jvm.MethodName) method_4_code (8 : Nat) (Option.some Jvm.ClassFile.FieldType.boolean)).before args0 about1 = true := code_word (m := ⟨1, 3⟩) (meth := k1m3) (c := k1c3) (by decide +kernel) rfl rfl rfl (by decide +kernel)
def codes1 : List Jvm.Cond := [Jvm.Cond.code x code maxLocals ret, Jvm.Cond.code ({ cls := "com/example/liboutlay/liboutlay/core/ByteOutput", name := "<init>", desc := "(I)V" } : Jvm.MethodName) prog_19_method_1_code (2 : Nat) (Option.none : Option Jvm.ClassFile.FieldType), Jvm.Cond.code ({ cls := "java/lang/Object", name := "<init>", desc := "()V" } : Jvm.MethodName) object_method_1_code (1 : Nat) (Option.none : Option Jvm.ClassFile.FieldType), Jvm.Cond.code ({ cls := "com/example/liboutlay/liboutlay/core/ByteOutput", name := "put", desc := "(I)V" } : Jvm.MethodName) prog_19_method_10_code (2 : Nat) (Option.none : Option Jvm.ClassFile.FieldType), Jvm.Cond.code ({ cls := "com/example/liboutlay/liboutlay/core/ByteOutput", name := "number", desc := "(J)V" } : Jvm.MethodName) prog_19_method_11_code (5 : Nat) (Option.none : Option Jvm.ClassFile.FieldType), Jvm.Cond.code ({ cls := "com/example/liboutlay/liboutlay/core/ByteOutputNumberPinLaw", name := "groups", desc := "(J)I" } : Jvm.MethodName) method_3_code (2 : Nat) (Option.some Jvm.ClassFile.FieldType.int), Jvm.Cond.code ({ cls := "com/example/liboutlay/liboutlay/core/ByteOutput", name := "array", desc := "()[B" } : Jvm.MethodName) prog_19_method_5_code (1 : Nat) (Option.some (Jvm.ClassFile.FieldType.array Jvm.ClassFile.FieldType.byte)), Jvm.Cond.code ({ cls := "com/example/liboutlay/liboutlay/core/ByteOutput", name := "length", desc := "()I" } : Jvm.MethodName) prog_19_method_4_code (1 : Nat) (Option.some Jvm.ClassFile.FieldType.int), Jvm.Cond.code ({ cls := "com/example/liboutlay/liboutlay/core/ByteOutputNumberPinLaw", name := "ok", desc := "([BJII)Z" } : Jvm.MethodName) method_4_code (8 : Nat) (Option.some Jvm.ClassFile.FieldType.boolean)]
set_option maxRecDepth 65536 in
theorem codes_eq : words1.filter isCode = codes1 := rfl
theorem w_codes : ∀ c ∈ words1.filter isCode, c.before args0 about1 = true := by
  rw [codes_eq]
  intro c hc
  simp only [codes1, List.mem_cons, List.not_mem_nil, or_false] at hc
  rcases hc with rfl | rfl | rfl | rfl | rfl | rfl | rfl | rfl | rfl
  · exact w_c0
  · exact w_c1
  · exact w_c2
  · exact w_c3
  · exact w_c4
  · exact w_c5
  · exact w_c6
  · exact w_c7
  · exact w_c8
set_option maxRecDepth 65536 in
theorem w_t1 : (words1.take 24).all (fun c => isCode c || c.before args0 about1) = true := by decide +kernel
set_option maxRecDepth 65536 in
theorem w_t2 : (words1.drop 24).all (fun c => isCode c || c.before args0 about1) = true := by decide +kernel
theorem w_tables : (allAtoms (Jvm.Cond.code x code maxLocals ret :: tables_1)).before args0 about1 = true := by
  rw [allAtoms_all]
  show words1.all (fun c => c.before args0 about1) = true
  refine all_split ?_ w_codes
  rw [← List.take_append_drop 24 words1, List.all_append, w_t1, w_t2]
  rfl
set_option maxRecDepth 65536 in
theorem w_case : (Jvm.Cond.and given_1 narrow_1).before args0 about1 = true := by decide +kernel
theorem w_applies : (headSpec (Jvm.Cond.code x code maxLocals ret :: tables_1) room_1).applies x e0.platform about1 = true :=
  (Spec.applies_iff w_frames).mpr ⟨w_running, w_runnable, w_alone, w_named, w_hears, w_ripe, w_room, w_tables⟩
theorem atStart : AtStart classFile x code maxLocals ret World_1 tables_1 room_1 Calls_1 rest_1 Pre_1 launch0 p0 e0 about1 theMethod args0 below0 :=
  ⟨lists_1, trivial, launch0.admits_env _ _ _, launch0.least_env, fairChoices_fair.cas, fairChoices_fair.clock, w_frames, w_args, w_heap, w_applies, trivial, trivial, w_case⟩
end start1
theorem witness_1 : WitnessClaimed_1 := ⟨start1.p0, start1.e0, start1.about1, start1.theMethod, start1.args0, start1.below0, start1.atStart⟩
end Jvm.Pilot.@@N@@
