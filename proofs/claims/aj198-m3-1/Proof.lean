import JvmDerived
import JvmDerived.Pilot.@@N@@Statement
import JvmDerived.Pilot.@@N@@Code
set_option linter.unusedVariables false
set_option linter.unusedSimpArgs false
namespace Jvm.Pilot.@@N@@
open Jvm Jvm.ClassFile Sem Op Lib Jvm.Free Jvm.Stand Jvm.LawKit Jvm.RoadKit Bundle Jvm.Pilot.@@N@@.Jvm.D
section OwnGo
variable {p : Program} {l : Launch} {e : Env} {R : Room} {s : State} {m : MethodId} {args : Array Value} {below : List Frame} {meth : Method} {c : Code} {T : State} {locs : List Loc} {cells slots : Nat}
/-- from S the run ends, returned, with Q -/
def own_Go (p : Program) (e : Env) (below : List Frame) (s : State) (Q : Option Value → Heap → List Loc → Prop) (cs ss : Nat) (S : State) : Prop :=
  ∃ (U : State) (o : Outcome), Steps p.tables e below S U ∧ U.status = .running ∧ Ended U below o ∧ ∃ v L, o = .returned v ∧ Q v U.heap L ∧ FrameEnd s o U L cs ss
variable {Q : Option Value → Heap → List Loc → Prop} {cs ss : Nat} {S S' : State}
theorem own_via (st : ∀ t, Steps p.tables e below S' t → Steps p.tables e below S t) (k : own_Go p e below s Q cs ss S') : own_Go p e below s Q cs ss S := by
  obtain ⟨U, o, h, r⟩ := k; exact ⟨U, o, st U h, r⟩
theorem own_viaT (st : Steps p.tables e below S S') (k : own_Go p e below s Q cs ss S') : own_Go p e below s Q cs ss S := own_via (fun _ h => st.trans h) k
theorem own_goV (X : Stand p l e R s m args below meth c T locs cells slots) (hx : p.tables.exec = Jvm.exec) {pc : Nat} {Ls : Array Slot} (hret : meth.sig.returnType = none) (hd : decode c.code pc = .ok (.return_, 1)) (hk : meth.locks = false) (hc : cells ≤ cs) (hs : slots ≤ ss) (hQ : Q none T.heap locs) :
    own_Go p e below s Q cs ss (T.setTop (mkF m pc Ls [])) := by
  obtain ⟨fs, hr, hrun, hended, hW, hsame⟩ := X.leave (v := none) (fun _ => rfl) hk
  exact ⟨_, _, X.returnOut hx hret hd hr, hrun, hended, _, _, rfl, hQ, ⟨_, rfl⟩, hW, hsame.mono hc hs⟩
theorem own_goN (X : Stand p l e R s m args below meth c T locs cells slots) (hx : p.tables.exec = Jvm.exec) {pc : Nat} {Ls : Array Slot} {z : Int32} {t : FieldType} {rest : List Value} (hret : meth.sig.returnType = some t) (ht : t = .boolean ∨ t = .byte ∨ t = .char ∨ t = .short) (hd : decode c.code pc = .ok (.ireturn, 1)) (hk : meth.locks = false) (hc : cells ≤ cs) (hs : slots ≤ ss) (hQ : Q (some (.int (nar t z))) T.heap locs) :
    own_Go p e below s Q cs ss (T.setTop (mkF m pc Ls (.int z :: rest))) := by
  obtain ⟨fs, hr, hrun, hended, hW, hsame⟩ := X.leave (v := some (.int (nar t z))) (fun h => by rw [hret] at h; cases h) hk
  exact ⟨_, _, retN X hx hret ht hd hr, hrun, hended, _, _, rfl, hQ, ⟨_, rfl⟩, hW, hsame.mono hc hs⟩
theorem own_goI (X : Stand p l e R s m args below meth c T locs cells slots) (hx : p.tables.exec = Jvm.exec) {pc : Nat} {Ls : Array Slot} {z : Int32} (hret : meth.sig.returnType = some .int) (hd : decode c.code pc = .ok (.ireturn, 1)) (hk : meth.locks = false) (hc : cells ≤ cs) (hs : slots ≤ ss) (hQ : Q (some (.int z)) T.heap locs) :
    own_Go p e below s Q cs ss (T.setTop (mkF m pc Ls [.int z])) := by
  obtain ⟨fs, hr, hrun, hended, hW, hsame⟩ := X.leave (v := some (.int z)) (fun h => by rw [hret] at h; cases h) hk
  exact ⟨_, _, X.ireturnOut hx hret rfl (Or.inl rfl) hd hr, hrun, hended, _, _, rfl, hQ, ⟨_, rfl⟩, hW, hsame.mono hc hs⟩
theorem own_goJ (X : Stand p l e R s m args below meth c T locs cells slots) (hx : p.tables.exec = Jvm.exec) {pc : Nat} {Ls : Array Slot} {z : Int64} (hret : meth.sig.returnType = some .long) (hd : decode c.code pc = .ok (.lreturn, 1)) (hk : meth.locks = false) (hc : cells ≤ cs) (hs : slots ≤ ss) (hQ : Q (some (.long z)) T.heap locs) :
    own_Go p e below s Q cs ss (T.setTop (mkF m pc Ls [.long z])) := by
  obtain ⟨fs, hr, hrun, hended, hW, hsame⟩ := X.leave (v := some (.long z)) (fun h => by rw [hret] at h; cases h) hk
  exact ⟨_, _, X.lreturnOut hx hret hd hr, hrun, hended, _, _, rfl, hQ, ⟨_, rfl⟩, hW, hsame.mono hc hs⟩
theorem own_goA (X : Stand p l e R s m args below meth c T locs cells slots) (hx : p.tables.exec = Jvm.exec) {pc : Nat} {Ls : Array Slot} {w : Value} {t : FieldType} (hw : w.isRef = true) (hret : meth.sig.returnType = some t) (ht : t.isReference = true) (hd : decode c.code pc = .ok (.areturn, 1)) (hk : meth.locks = false) (hc : cells ≤ cs) (hs : slots ≤ ss) (hQ : Q (some w) T.heap locs) :
    own_Go p e below s Q cs ss (T.setTop (mkF m pc Ls [w])) := by
  obtain ⟨fs, hr, hrun, hended, hW, hsame⟩ := X.leave (v := some w) (fun h => by rw [hret] at h; cases h) hk
  exact ⟨_, _, X.areturnOut hx hw hret ht hd hr, hrun, hended, _, _, rfl, hQ, ⟨_, rfl⟩, hW, hsame.mono hc hs⟩
theorem own_selP {s : State} {args : Array Value} {y y' : MethodName} (hs : (Cond.selects y'.cls y' y').before args s = true) (hc : y'.cls = y.cls) (hpriv : s.PrivateAt y) (hinst : (Cond.instanceMethod y).before args s = true) (hy : y.cls ≠ "java/lang/invoke/MethodHandle" ∧ y.cls ≠ "java/lang/invoke/VarHandle") : (Cond.selects y.cls y y).before args s = true := by
  obtain ⟨c2, r2, m2, -, -, q3, -, kP, hkP, hkPi⟩ := Cond.selects_spec hs
  exact selects_self_of_private (hc ▸ findClass_of_methodNamed q3) hkP hkPi hpriv hinst hy
end OwnGo
def o_i2l (x : Int32) : Int64 := x.toInt64
def o_l2i (x : Int64) : Int32 := x.toInt32
def o_i2b (x : Int32) : Int32 := x.toInt8.toInt32
def o_i2s (x : Int32) : Int32 := x.toInt16.toInt32
def o_i2c (x : Int32) : Int32 := x.toUInt32.toUInt16.toUInt32.toInt32
def o_ishl (x y : Int32) : Int32 := x <<< (y &&& 31)
def o_ishr (x y : Int32) : Int32 := x >>> (y &&& 31)
def o_iushr (x y : Int32) : Int32 := (x.toUInt32 >>> (y &&& 31).toUInt32).toInt32
def o_lshl (x : Int64) (y : Int32) : Int64 := x <<< (y &&& 0x3f).toInt64
def o_lshr (x : Int64) (y : Int32) : Int64 := x >>> (y &&& 0x3f).toInt64
def o_lushr (x : Int64) (y : Int32) : Int64 := (x.toUInt64 >>> (y &&& 0x3f).toInt64.toUInt64).toInt64
def o_irem (x y : Int32) : Int32 := x - (x / y) * y
def o_lrem (x y : Int64) : Int64 := x - (x / y) * y
def o_d0 : UInt64 := FP.dconst0
def o_d1 : UInt64 := FP.dconst1
section OwnNums
/-- the unsigned number behind an int, a long -/
abbrev own_n (x : Int32) : Nat := x.toBitVec.toNat
abbrev own_N (x : Int64) : Nat := x.toBitVec.toNat
theorem own_n_lt (x : Int32) : own_n x < 4294967296 := x.toBitVec.isLt
theorem own_N_lt (x : Int64) : own_N x < 18446744073709551616 := x.toBitVec.isLt
theorem own_n_inj {x y : Int32} : x = y ↔ own_n x = own_n y := ⟨fun h => by rw [h], fun h => Int32.toBitVec_inj.mp (BitVec.eq_of_toNat_eq h)⟩
theorem own_N_inj {x y : Int64} : x = y ↔ own_N x = own_N y := ⟨fun h => by rw [h], fun h => Int64.toBitVec_inj.mp (BitVec.eq_of_toNat_eq h)⟩
theorem own_n_int (x : Int32) : x.toInt = if own_n x < 2147483648 then (own_n x : Int) else (own_n x : Int) - 4294967296 := by
  have h := BitVec.toInt_eq_toNat_cond x.toBitVec
  have h2 : x.toBitVec.toInt = x.toInt := rfl
  rw [← h2, h]; simp only [own_n]; split <;> split <;> omega
theorem own_N_int (x : Int64) : x.toInt = if own_N x < 9223372036854775808 then (own_N x : Int) else (own_N x : Int) - 18446744073709551616 := by
  have h := BitVec.toInt_eq_toNat_cond x.toBitVec
  have h2 : x.toBitVec.toInt = x.toInt := rfl
  rw [← h2, h]; simp only [own_N]; split <;> split <;> omega
theorem own_n_add (x y : Int32) : own_n (x + y) = (own_n x + own_n y) % 4294967296 := by simp only [own_n, Int32.toBitVec_add, BitVec.toNat_add]
theorem own_N_add (x y : Int64) : own_N (x + y) = (own_N x + own_N y) % 18446744073709551616 := by simp only [own_N, Int64.toBitVec_add, BitVec.toNat_add]
theorem own_n_sub (x y : Int32) : own_n (x - y) = (4294967296 - own_n y + own_n x) % 4294967296 := by simp only [own_n, Int32.toBitVec_sub, BitVec.toNat_sub]
theorem own_N_sub (x y : Int64) : own_N (x - y) = (18446744073709551616 - own_N y + own_N x) % 18446744073709551616 := by simp only [own_N, Int64.toBitVec_sub, BitVec.toNat_sub]
theorem own_n_mul (x y : Int32) : own_n (x * y) = (own_n x * own_n y) % 4294967296 := by simp only [own_n, Int32.toBitVec_mul, BitVec.toNat_mul]
theorem own_N_mul (x y : Int64) : own_N (x * y) = (own_N x * own_N y) % 18446744073709551616 := by simp only [own_N, Int64.toBitVec_mul, BitVec.toNat_mul]
theorem own_n_and (x y : Int32) : own_n (x &&& y) = own_n x &&& own_n y := by simp only [own_n, Int32.toBitVec_and, BitVec.toNat_and]
theorem own_N_and (x y : Int64) : own_N (x &&& y) = own_N x &&& own_N y := by simp only [own_N, Int64.toBitVec_and, BitVec.toNat_and]
theorem own_n_or (x y : Int32) : own_n (x ||| y) = own_n x ||| own_n y := by simp only [own_n, Int32.toBitVec_or, BitVec.toNat_or]
theorem own_N_or (x y : Int64) : own_N (x ||| y) = own_N x ||| own_N y := by simp only [own_N, Int64.toBitVec_or, BitVec.toNat_or]
theorem own_n_xor (x y : Int32) : own_n (x ^^^ y) = own_n x ^^^ own_n y := by simp only [own_n, Int32.toBitVec_xor, BitVec.toNat_xor]
theorem own_N_xor (x y : Int64) : own_N (x ^^^ y) = own_N x ^^^ own_N y := by simp only [own_N, Int64.toBitVec_xor, BitVec.toNat_xor]
theorem own_N_lushr (x : Int64) (q : Int32) (k : Nat) (hk : own_n q % 64 = k) : own_N (o_lushr x q) = own_N x / 2 ^ k := by
  have h1 := (sm64 q k hk).1
  have h2 := (sm64 q k hk).2
  show (x.toBitVec >>> ((q &&& 0x3f).toInt64.toBitVec % 64)).toNat = _
  rw [h1]
  have h3 : (BitVec.ofNat 64 k % 64).toNat = k := by
    rw [BitVec.toNat_umod, BitVec.toNat_ofNat]; simp; omega
  rw [BitVec.ushiftRight_eq', BitVec.toNat_ushiftRight, h3, Nat.shiftRight_eq_div_pow]
theorem own_N_lshl (x : Int64) (q : Int32) (k : Nat) (hk : own_n q % 64 = k) : own_N (o_lshl x q) = own_N x * 2 ^ k % 18446744073709551616 := by
  have h1 := (sm64 q k hk).1
  have h2 := (sm64 q k hk).2
  show (x.toBitVec <<< ((q &&& 0x3f).toInt64.toBitVec.smod 64)).toNat = _
  rw [h1, BitVec.shiftLeft_eq', smod64 k h2, BitVec.toNat_shiftLeft, Nat.shiftLeft_eq]
theorem own_n_iushr (x : Int32) (q : Int32) (k : Nat) (hk : own_n q % 32 = k) : own_n (o_iushr x q) = own_n x / 2 ^ k := by
  have h1 : (q &&& 31).toBitVec.toNat = k := by
    show (q.toBitVec &&& (31 : Int32).toBitVec).toNat = _
    rw [BitVec.toNat_and]
    show q.toBitVec.toNat &&& (2 ^ 5 - 1) = k
    rw [Nat.and_two_pow_sub_one_eq_mod]; exact hk
  have h2 : k < 32 := by omega
  show (x.toBitVec >>> ((q &&& 31).toBitVec % 32)).toNat = _
  have h3 : ((q &&& 31).toBitVec % 32).toNat = k := by
    rw [BitVec.toNat_umod, h1]; simp; omega
  rw [BitVec.ushiftRight_eq', BitVec.toNat_ushiftRight, h3, Nat.shiftRight_eq_div_pow]
theorem own_n_ishl (x : Int32) (q : Int32) (k : Nat) (hk : own_n q % 32 = k) : own_n (o_ishl x q) = own_n x * 2 ^ k % 4294967296 := by
  have h1 : (q &&& 31).toBitVec.toNat = k := by
    show (q.toBitVec &&& (31 : Int32).toBitVec).toNat = _
    rw [BitVec.toNat_and]
    show q.toBitVec.toNat &&& (2 ^ 5 - 1) = k
    rw [Nat.and_two_pow_sub_one_eq_mod]; exact hk
  have h2 : k < 32 := by omega
  show (x.toBitVec <<< ((q &&& 31).toBitVec.smod 32)).toNat = _
  have h4 : (q &&& 31).toBitVec = BitVec.ofNat 32 k := by apply BitVec.eq_of_toNat_eq; rw [h1, BitVec.toNat_ofNat]; omega
  have h5 : ∀ k : Fin 32, ((BitVec.ofNat 32 k.val).smod 32).toNat = k.val := by decide +kernel
  rw [h4, BitVec.shiftLeft_eq', h5 ⟨k, h2⟩, BitVec.toNat_shiftLeft, Nat.shiftLeft_eq]
theorem own_n_mod (x y : Int32) (h : (x.toInt - y.toInt) % 256 = 0) : own_n x % 256 = own_n y % 256 := by
  have h1 := own_n_int x; have h2 := own_n_int y; have h3 := own_n_lt x; have h4 := own_n_lt y
  split at h1 <;> split at h2 <;> omega
theorem own_i2b_n (x : Int32) : own_n (o_i2b x) % 256 = own_n x % 256 := own_n_mod _ _ (c_i2b x).1
theorem own_nb (x : Int32) : nar .byte (o_i2b x) = o_i2b x := by simp [nar, o_i2b]
theorem own_n_ff (x : Int32) : own_n (x &&& 255) = own_n x % 256 := by
  rw [own_n_and]; show own_n x &&& (2 ^ 8 - 1) = _; rw [Nat.and_two_pow_sub_one_eq_mod]
theorem own_i2l (x : Int32) : (o_i2l x).toInt = x.toInt := Int32.toInt_toInt64 x
theorem own_N_i2l (x : Int32) (h : 0 ≤ x.toInt) : own_N (o_i2l x) = own_n x := by
  have h1 := own_i2l x
  rw [own_N_int, own_n_int] at h1
  have h2 := own_n_lt x
  have h3 := own_N_lt (o_i2l x)
  have h4 := own_n_int x
  split at h1 <;> split at h1 <;> omega
theorem own_mask (x : Nat) (k : Nat) : x &&& (2 ^ k - 1) = x % 2 ^ k := Nat.and_two_pow_sub_one_eq_mod x k
theorem own_and_split {k a A m M : Nat} (ha : a < 2 ^ k) (hm : m < 2 ^ k) : (a + 2 ^ k * A) &&& (m + 2 ^ k * M) = (a &&& m) + 2 ^ k * (A &&& M) := by
  have hp : 0 < 2 ^ k := Nat.two_pow_pos k
  have h1 : ((a + 2 ^ k * A) &&& (m + 2 ^ k * M)) / 2 ^ k = A &&& M := by
    rw [Nat.and_div_two_pow, Nat.add_mul_div_left _ _ hp, Nat.add_mul_div_left _ _ hp, Nat.div_eq_of_lt ha, Nat.div_eq_of_lt hm]; simp
  have h2 : ((a + 2 ^ k * A) &&& (m + 2 ^ k * M)) % 2 ^ k = a &&& m := by
    rw [Nat.and_mod_two_pow, Nat.add_mul_mod_self_left, Nat.add_mul_mod_self_left, Nat.mod_eq_of_lt ha, Nat.mod_eq_of_lt hm]
  have h3 := Nat.div_add_mod ((a + 2 ^ k * A) &&& (m + 2 ^ k * M)) (2 ^ k)
  rw [h1, h2] at h3; omega
theorem own_or_add {k a A : Nat} (ha : a < 2 ^ k) : a ||| (A * 2 ^ k) = a + A * 2 ^ k := by
  rw [Nat.or_comm, ← Nat.shiftLeft_eq, ← Nat.shiftLeft_add_eq_or_of_lt ha]; omega
end OwnNums
theorem d1_0 : decode prog_51_method_1_code 0 = .ok (.aload_n 0, 1) := by decide +kernel
theorem d1_1 : decode prog_51_method_1_code 1 = .ok (.invokespecial 1, 3) := by decide +kernel
theorem d1_4 : decode prog_51_method_1_code 4 = .ok (.aload_n 0, 1) := by decide +kernel
theorem d1_5 : decode prog_51_method_1_code 5 = .ok (.iconst 0, 1) := by decide +kernel
theorem d1_6 : decode prog_51_method_1_code 6 = .ok (.newarray .byte, 2) := by decide +kernel
theorem d1_8 : decode prog_51_method_1_code 8 = .ok (.putfield 7, 3) := by decide +kernel
theorem d1_11 : decode prog_51_method_1_code 11 = .ok (.return_, 1) := by decide +kernel
theorem pn_0 : plainName "com/example/greenbelt/greenbelt/io/FrameInput" = true := by first | (simp [plainName, overriddenIn]; done) | decide +kernel
theorem ef_1 (m : MethodId) (x0 : Addr) : entryFrame m #[(.ref x0)] 1 = mkF m 0 #[.val (.ref x0)] [] := by first | (simp [entryFrame, mkF, argsToLocals, Value.category]; done) | rfl
def Q1 (Z : State) (a : Addr) (h0 : Heap) (n0 : Nat) (v : Option Value) (h : Heap) (L : List Loc) : Prop := ∃ b_ : Addr, v = none ∧ Fr n0 L ∧ Keep h0 h [a] ∧ h0.size ≤ b_ ∧ Exa Z h a "com/example/greenbelt/greenbelt/io/FrameInput" ∧ Fld Z h a "com/example/greenbelt/greenbelt/io/FrameInput" "bytes" "[B" (.ref b_) ∧ Fld Z h a "com/example/greenbelt/greenbelt/io/FrameInput" "position" "I" (.int (0 : Int32)) ∧ Fld Z h a "com/example/greenbelt/greenbelt/io/FrameInput" "end" "I" (.int (0 : Int32))
set_option maxRecDepth 65536 in
set_option maxHeartbeats 40000000 in
theorem rm1 (l : Launch) (Z : State) (a0 : Array Value) (hw : ∀ d ∈ tables_1, d.before a0 Z = true) (ws : List Jvm.Cond) (a : Addr) (h0 : Heap) (n0 : Nat) (Z0 : n0 ≤ h0.size) (E_a : Exa Z h0 a "com/example/greenbelt/greenbelt/io/FrameInput") (F_bytes_a : Fld Z h0 a "com/example/greenbelt/greenbelt/io/FrameInput" "bytes" "[B" .null) (F_position_a : Fld Z h0 a "com/example/greenbelt/greenbelt/io/FrameInput" "position" "I" (.int (0 : Int32))) (F_end_a : Fld Z h0 a "com/example/greenbelt/greenbelt/io/FrameInput" "end" "I" (.int (0 : Int32))) (g_a : n0 ≤ a) :
    MetFree l (⟨"com/example/greenbelt/greenbelt/io/FrameInput", "<init>", "()V"⟩ : MethodName) (head1 (Jvm.Cond.code (⟨"com/example/greenbelt/greenbelt/io/FrameInput", "<init>", "()V"⟩ : MethodName) prog_51_method_1_code 1 none :: ws) ({ frames := 1, cells := 1, slots := 0, locals := 12 } : Room)) (fun q_ U => q_ = #[(.ref a)] ∧ Z.Warmed39 U.vm ∧ U.heap = h0) (fun _ _ _ _ _ => True) (fun _ U o U' => ∃ v L, o = .returned v ∧ Q1 Z a h0 n0 v U'.heap L ∧ FrameEnd U o U' L ({ frames := 1, cells := 1, slots := 0, locals := 12 } : Room).cells ({ frames := 1, cells := 1, slots := 0, locals := 12 } : Room).slots) := by
  refine MetFree.of_bodySF (plainFor_of_name pn_0) hisR ?_
  intro p e s m args below meth c s₁ Bd hml0 hP hK
  obtain ⟨rfl, hZ, hh⟩ := hP
  have hx := Bd.exec
  have hby := Bd.bytes
  have hml : c.maxLocals = 1 := hml0
  have hown : s.vm.findClass "com/example/greenbelt/greenbelt/io/FrameInput" = some m.cls := findClass_of_methodNamed Bd.named
  have hnm := (name_of_methodNamed Bd.named Bd.method).1
  have X0 : Stand p l e ({ frames := 1, cells := 1, slots := 0, locals := 12 } : Room) s m #[(.ref a)] below meth c s₁ [] 0 0 := Stand.of_body Bd
  have e0 : s₁.heap = h0 := by rw [← hh, Bd.state]; rfl
  have N0 := Fr.nil n0
  show own_Go p e below s (Q1 Z a h0 n0) ({ frames := 1, cells := 1, slots := 0, locals := 12 } : Room).cells ({ frames := 1, cells := 1, slots := 0, locals := 12 } : Room).slots (s₁.setTop (entryFrame m #[(.ref a)] 1))
  refine own_via (fun t k => castTop (ef_1 m a) k) ?_
  have K0 : Keep h0 h0 [a] := Keep.refl _ _
  show own_Go p e below s _ _ _ (s₁.setTop (mkF m 0 #[.val (.ref a)] []))
  refine own_via (fun _ k => XS.aloadN X0.here hx rfl (hb hby d1_0) rfl rfl k) ?_
  show own_Go p e below s _ _ _ (s₁.setTop (mkF m 1 #[.val (.ref a)] [(.ref a)]))
  obtain ⟨T1, X1, e1, st1⟩ := initO X0 hx hZ hown (hw _ (List.mem_of_getElem? (i := 8) rfl)) (hw _ (List.mem_of_getElem? (i := 9) rfl)) (hw _ (List.mem_of_getElem? (i := 10) rfl)) e0 (g := (mkF m 1 #[.val (.ref a)] [(.ref a)])) rfl (by rw [hml]; rfl) rfl (hb hby d1_1) (by decide) (W := 0) (by show 2 * 0 + _ ≤ _; exact Nat.le_of_eq rfl) (by decide)
  refine own_via st1 ?_
  show own_Go p e below s _ _ _ (T1.setTop (mkF m 4 #[.val (.ref a)] []))
  refine own_via (fun _ k => XS.aloadN X1.here hx rfl (hb hby d1_4) rfl rfl k) ?_
  show own_Go p e below s _ _ _ (T1.setTop (mkF m 5 #[.val (.ref a)] [(.ref a)]))
  refine own_via (fun _ k => XS.iconst X1.here hx rfl (hb hby d1_5) k) ?_
  show own_Go p e below s _ _ _ (T1.setTop (mkF m 6 #[.val (.ref a)] [(.int (0 : Int32)), (.ref a)]))
  obtain ⟨T2, h2, k2, X2, e2, E2, A2, st2⟩ := newP X1 hx hZ (hw _ (List.mem_of_getElem? (i := 0) rfl)) e1 (g := (mkF m 6 #[.val (.ref a)] [(.int (0 : Int32)), (.ref a)])) rfl (hb hby d1_6) rfl (by decide) (cap := 0) (by decide) (by decide) (by decide) (by decide)
  obtain ⟨b2, gg2⟩ : ∃ z, z = h0.size := ⟨_, rfl⟩
  rw [← gg2] at A2 st2
  have ne_a_b2 : a ≠ b2 := Nat.ne_of_lt (Nat.lt_of_lt_of_le E_a.lt (Nat.le_of_eq gg2.symm))
  have g_b2 : n0 ≤ b2 := Nat.le_trans Z0 (Nat.le_of_eq gg2.symm)
  have sz_b2 : h0.size ≤ b2 := Nat.le_trans K0.1 (Nat.le_of_eq gg2.symm)
  have Z2 : n0 ≤ h2.size := Nat.le_trans Z0 E2.1
  have K2 : Keep h0 h2 [a] := K0.ext E2
  have V2 : Arv Z h2 b2 k2 .byte (0 : Int32) [] (.int (0 : Int32)) := (Arv.new A2 (by decide)).pad (pad_rep [] (.int (0 : Int32)) 0)
  refine own_via st2 ?_
  show own_Go p e below s _ _ _ (T2.setTop (mkF m 8 #[.val (.ref a)] [(.ref b2), (.ref a)]))
  have F3 := (E_a.ext E2)
  have F4 := (F_bytes_a.ext E2)
  obtain ⟨T5, h5, X5, e5, W5, st5⟩ := putF X2 hx hZ hown (host := "") (Or.inl (hw _ (List.mem_of_getElem? (i := 11) rfl))) Via.refl e2 F4 F3 (Or.inl (hw _ (List.mem_of_getElem? (i := 12) rfl))) (hw _ (List.mem_of_getElem? (i := 3) rfl)) (ty := (.array .byte)) (by decide) rfl rfl (g := (mkF m 8 #[.val (.ref a)] [(.ref b2), (.ref a)])) rfl rfl (hb hby d1_8)
  have N5 := Fr.snoc X5 N0 g_a
  have Fw5 := F4.same W5
  have Z5 : n0 ≤ h5.size := Nat.le_trans Z2 (Keep.of_wr W5).1
  have K5 : Keep h0 h5 [a] := K2.wr W5 (Or.inl (List.mem_of_getElem? (i := 0) rfl))
  refine own_via st5 ?_
  show own_Go p e below s _ _ _ (T5.setTop (mkF m 11 #[.val (.ref a)] []))
  have F6 := (F3.wr W5)
  have F7 := ((F_position_a.ext E2).other W5 (Or.inr (slot_ne (Or.inl (hw _ (List.mem_of_getElem? (i := 27) rfl))) (Or.inl (hw _ (List.mem_of_getElem? (i := 12) rfl))) (by decide) (t := .int) (t' := (.array .byte)) (by decide) (by decide))))
  have F8 := ((F_end_a.ext E2).other W5 (Or.inr (slot_ne (Or.inl (hw _ (List.mem_of_getElem? (i := 29) rfl))) (Or.inl (hw _ (List.mem_of_getElem? (i := 12) rfl))) (by decide) (t := .int) (t' := (.array .byte)) (by decide) (by decide))))
  exact own_goV X5 hx Bd.returns (hb hby d1_11) Bd.notSynchronized (by decide) (by decide) (by rw [e5]; exact ⟨b2, rfl, N5, K5, sz_b2, F6, Fw5, F7, F8⟩)
theorem d5_0 : decode jdk_41_method_13_code 0 = .ok (.iload_n 2, 1) := by decide +kernel
theorem d5_1 : decode jdk_41_method_13_code 1 = .ok (.iload_n 0, 1) := by decide +kernel
theorem d5_2 : decode jdk_41_method_13_code 2 = .ok (.ior, 1) := by decide +kernel
theorem d5_3 : decode jdk_41_method_13_code 3 = .ok (.iload_n 1, 1) := by decide +kernel
theorem d5_4 : decode jdk_41_method_13_code 4 = .ok (.ior, 1) := by decide +kernel
theorem d5_5 : decode jdk_41_method_13_code 5 = .ok (.ifCond .lt 10, 3) := by decide +kernel
theorem d5_8 : decode jdk_41_method_13_code 8 = .ok (.iload_n 1, 1) := by decide +kernel
theorem d5_9 : decode jdk_41_method_13_code 9 = .ok (.iload_n 2, 1) := by decide +kernel
theorem d5_10 : decode jdk_41_method_13_code 10 = .ok (.iload_n 0, 1) := by decide +kernel
theorem d5_11 : decode jdk_41_method_13_code 11 = .ok (.isub, 1) := by decide +kernel
theorem d5_12 : decode jdk_41_method_13_code 12 = .ok (.if_icmp .le 11, 3) := by decide +kernel
theorem d5_23 : decode jdk_41_method_13_code 23 = .ok (.iload_n 0, 1) := by decide +kernel
theorem d5_24 : decode jdk_41_method_13_code 24 = .ok (.ireturn, 1) := by decide +kernel
theorem pn_1 : plainName "jdk/internal/util/Preconditions" = true := by first | (simp [plainName, overriddenIn]; done) | decide +kernel
theorem ef_5 (m : MethodId) (x0 : Int32) (x1 : Int32) (x2 : Int32) : entryFrame m #[(.int x0), (.int x1), (.int x2), .null] 4 = mkF m 0 #[.val (.int x0), .val (.int x1), .val (.int x2), .val .null] [] := by first | (simp [entryFrame, mkF, argsToLocals, Value.category]; done) | rfl
def Q5 (Z : State) (po : Int32) (ps : Int32) (pl : Int32) (h0 : Heap) (n0 : Nat) (v : Option Value) (h : Heap) (L : List Loc) : Prop := v = some (.int po) ∧ Fr n0 L ∧ h = h0
set_option maxRecDepth 65536 in
set_option maxHeartbeats 40000000 in
theorem rm5 (l : Launch) (Z : State) (a0 : Array Value) (hw : ∀ d ∈ tables_1, d.before a0 Z = true) (ws : List Jvm.Cond) (po : Int32) (ps : Int32) (pl : Int32) (h0 : Heap) (n0 : Nat) (Z0 : n0 ≤ h0.size) (hp0 : ¬ ((pl ||| po) ||| ps) < (0 : Int32)) (hp1 : ¬ (pl - po) < ps) :
    MetFree l (⟨"jdk/internal/util/Preconditions", "checkFromIndexSize", "(IIILjava/util/function/BiFunction;)I"⟩ : MethodName) (head1 (Jvm.Cond.code (⟨"jdk/internal/util/Preconditions", "checkFromIndexSize", "(IIILjava/util/function/BiFunction;)I"⟩ : MethodName) jdk_41_method_13_code 4 (some .int) :: ws) ({ frames := 0, cells := 0, slots := 0, locals := 0 } : Room)) (fun q_ U => q_ = #[(.int po), (.int ps), (.int pl), .null] ∧ Z.Warmed39 U.vm ∧ U.heap = h0) (fun _ _ _ _ _ => True) (fun _ U o U' => ∃ v L, o = .returned v ∧ Q5 Z po ps pl h0 n0 v U'.heap L ∧ FrameEnd U o U' L ({ frames := 0, cells := 0, slots := 0, locals := 0 } : Room).cells ({ frames := 0, cells := 0, slots := 0, locals := 0 } : Room).slots) := by
  refine MetFree.of_bodySF (plainFor_of_name pn_1) hisR ?_
  intro p e s m args below meth c s₁ Bd hml0 hP hK
  obtain ⟨rfl, hZ, hh⟩ := hP
  have hx := Bd.exec
  have hby := Bd.bytes
  have hml : c.maxLocals = 4 := hml0
  have hown : s.vm.findClass "jdk/internal/util/Preconditions" = some m.cls := findClass_of_methodNamed Bd.named
  have hnm := (name_of_methodNamed Bd.named Bd.method).1
  have X0 : Stand p l e ({ frames := 0, cells := 0, slots := 0, locals := 0 } : Room) s m #[(.int po), (.int ps), (.int pl), .null] below meth c s₁ [] 0 0 := Stand.of_body Bd
  have e0 : s₁.heap = h0 := by rw [← hh, Bd.state]; rfl
  have N0 := Fr.nil n0
  show own_Go p e below s (Q5 Z po ps pl h0 n0) ({ frames := 0, cells := 0, slots := 0, locals := 0 } : Room).cells ({ frames := 0, cells := 0, slots := 0, locals := 0 } : Room).slots (s₁.setTop (entryFrame m #[(.int po), (.int ps), (.int pl), .null] 4))
  refine own_via (fun t k => castTop (ef_5 m po ps pl) k) ?_
  show own_Go p e below s _ _ _ (s₁.setTop (mkF m 0 #[.val (.int po), .val (.int ps), .val (.int pl), .val .null] []))
  refine own_via (fun _ k => XS.iloadN X0.here hx rfl (hb hby d5_0) rfl k) ?_
  show own_Go p e below s _ _ _ (s₁.setTop (mkF m 1 #[.val (.int po), .val (.int ps), .val (.int pl), .val .null] [(.int pl)]))
  refine own_via (fun _ k => XS.iloadN X0.here hx rfl (hb hby d5_1) rfl k) ?_
  show own_Go p e below s _ _ _ (s₁.setTop (mkF m 2 #[.val (.int po), .val (.int ps), .val (.int pl), .val .null] [(.int po), (.int pl)]))
  refine own_via (fun _ k => XS.ior X0.here hx rfl (hb hby d5_2) rfl k) ?_
  show own_Go p e below s _ _ _ (s₁.setTop (mkF m 3 #[.val (.int po), .val (.int ps), .val (.int pl), .val .null] [(.int (pl ||| po))]))
  refine own_via (fun _ k => XS.iloadN X0.here hx rfl (hb hby d5_3) rfl k) ?_
  show own_Go p e below s _ _ _ (s₁.setTop (mkF m 4 #[.val (.int po), .val (.int ps), .val (.int pl), .val .null] [(.int ps), (.int (pl ||| po))]))
  refine own_via (fun _ k => XS.ior X0.here hx rfl (hb hby d5_4) rfl k) ?_
  show own_Go p e below s _ _ _ (s₁.setTop (mkF m 5 #[.val (.int po), .val (.int ps), .val (.int pl), .val .null] [(.int ((pl ||| po) ||| ps))]))
  have hc1 : ¬ (((pl ||| po) ||| ps) < (0 : Int32)) := hp0
  refine own_via (fun _ k => XS.ifNo X0.here hx rfl (hb hby d5_5) rfl (Jvm.Free.XT.i0_lt_f hc1) k) ?_
  show own_Go p e below s _ _ _ (s₁.setTop (mkF m 8 #[.val (.int po), .val (.int ps), .val (.int pl), .val .null] []))
  refine own_via (fun _ k => XS.iloadN X0.here hx rfl (hb hby d5_8) rfl k) ?_
  show own_Go p e below s _ _ _ (s₁.setTop (mkF m 9 #[.val (.int po), .val (.int ps), .val (.int pl), .val .null] [(.int ps)]))
  refine own_via (fun _ k => XS.iloadN X0.here hx rfl (hb hby d5_9) rfl k) ?_
  show own_Go p e below s _ _ _ (s₁.setTop (mkF m 10 #[.val (.int po), .val (.int ps), .val (.int pl), .val .null] [(.int pl), (.int ps)]))
  refine own_via (fun _ k => XS.iloadN X0.here hx rfl (hb hby d5_10) rfl k) ?_
  show own_Go p e below s _ _ _ (s₁.setTop (mkF m 11 #[.val (.int po), .val (.int ps), .val (.int pl), .val .null] [(.int po), (.int pl), (.int ps)]))
  refine own_via (fun _ k => XS.isub X0.here hx rfl (hb hby d5_11) rfl k) ?_
  show own_Go p e below s _ _ _ (s₁.setTop (mkF m 12 #[.val (.int po), .val (.int ps), .val (.int pl), .val .null] [(.int (pl - po)), (.int ps)]))
  have hc2 : ¬ ((pl - po) < ps) := hp1
  refine own_via (fun _ k => XS.icmpYes X0.here hx rfl (pc0 := 12) (pc' := 23) rfl (hb hby d5_12) rfl (Jvm.Free.XT.ii_le_t hc2) (by decide) (by decide) k) ?_
  show own_Go p e below s _ _ _ (s₁.setTop (mkF m 23 #[.val (.int po), .val (.int ps), .val (.int pl), .val .null] []))
  refine own_via (fun _ k => XS.iloadN X0.here hx rfl (hb hby d5_23) rfl k) ?_
  show own_Go p e below s _ _ _ (s₁.setTop (mkF m 24 #[.val (.int po), .val (.int ps), .val (.int pl), .val .null] [(.int po)]))
  exact own_goI X0 hx Bd.returns (hb hby d5_24) Bd.notSynchronized (by decide) (by decide) (by rw [e0]; exact ⟨rfl, N0, rfl⟩)
theorem d4_0 : decode jdk_31_method_19_code 0 = .ok (.iload_n 0, 1) := by decide +kernel
theorem d4_1 : decode jdk_31_method_19_code 1 = .ok (.iload_n 1, 1) := by decide +kernel
theorem d4_2 : decode jdk_31_method_19_code 2 = .ok (.iload_n 2, 1) := by decide +kernel
theorem d4_3 : decode jdk_31_method_19_code 3 = .ok (.aconst_null, 1) := by decide +kernel
theorem pd_0 : parseMethodDescriptor "(IIILjava/util/function/BiFunction;)I" = some ⟨[.int, .int, .int, (.object "java/util/function/BiFunction")], some .int⟩ := by decide +kernel
theorem d4_4 : decode jdk_31_method_19_code 4 = .ok (.invokestatic 115, 3) := by decide +kernel
theorem d4_7 : decode jdk_31_method_19_code 7 = .ok (.ireturn, 1) := by decide +kernel
theorem pn_2 : plainName "java/util/Objects" = true := by first | (simp [plainName, overriddenIn]; done) | decide +kernel
theorem ef_4 (m : MethodId) (x0 : Int32) (x1 : Int32) (x2 : Int32) : entryFrame m #[(.int x0), (.int x1), (.int x2)] 3 = mkF m 0 #[.val (.int x0), .val (.int x1), .val (.int x2)] [] := by first | (simp [entryFrame, mkF, argsToLocals, Value.category]; done) | rfl
def Q4 (Z : State) (po : Int32) (ps : Int32) (pl : Int32) (h0 : Heap) (n0 : Nat) (v : Option Value) (h : Heap) (L : List Loc) : Prop := v = some (.int po) ∧ Fr n0 L ∧ h = h0
set_option maxRecDepth 65536 in
set_option maxHeartbeats 40000000 in
theorem rm4 (l : Launch) (Z : State) (a0 : Array Value) (hw : ∀ d ∈ tables_1, d.before a0 Z = true) (ws : List Jvm.Cond) (po : Int32) (ps : Int32) (pl : Int32) (h0 : Heap) (n0 : Nat) (Z0 : n0 ≤ h0.size) (hp0 : ¬ ((pl ||| po) ||| ps) < (0 : Int32)) (hp1 : ¬ (pl - po) < ps) :
    MetFree l (⟨"java/util/Objects", "checkFromIndexSize", "(III)I"⟩ : MethodName) (head1 (Jvm.Cond.code (⟨"java/util/Objects", "checkFromIndexSize", "(III)I"⟩ : MethodName) jdk_31_method_19_code 3 (some .int) :: ws) ({ frames := 1, cells := 0, slots := 0, locals := 15 } : Room)) (fun q_ U => q_ = #[(.int po), (.int ps), (.int pl)] ∧ Z.Warmed39 U.vm ∧ U.heap = h0) (fun _ _ _ _ _ => True) (fun _ U o U' => ∃ v L, o = .returned v ∧ Q4 Z po ps pl h0 n0 v U'.heap L ∧ FrameEnd U o U' L ({ frames := 1, cells := 0, slots := 0, locals := 15 } : Room).cells ({ frames := 1, cells := 0, slots := 0, locals := 15 } : Room).slots) := by
  refine MetFree.of_bodySF (plainFor_of_name pn_2) hisR ?_
  intro p e s m args below meth c s₁ Bd hml0 hP hK
  obtain ⟨rfl, hZ, hh⟩ := hP
  have hx := Bd.exec
  have hby := Bd.bytes
  have hml : c.maxLocals = 3 := hml0
  have hown : s.vm.findClass "java/util/Objects" = some m.cls := findClass_of_methodNamed Bd.named
  have hnm := (name_of_methodNamed Bd.named Bd.method).1
  have X0 : Stand p l e ({ frames := 1, cells := 0, slots := 0, locals := 15 } : Room) s m #[(.int po), (.int ps), (.int pl)] below meth c s₁ [] 0 0 := Stand.of_body Bd
  have e0 : s₁.heap = h0 := by rw [← hh, Bd.state]; rfl
  have N0 := Fr.nil n0
  show own_Go p e below s (Q4 Z po ps pl h0 n0) ({ frames := 1, cells := 0, slots := 0, locals := 15 } : Room).cells ({ frames := 1, cells := 0, slots := 0, locals := 15 } : Room).slots (s₁.setTop (entryFrame m #[(.int po), (.int ps), (.int pl)] 3))
  refine own_via (fun t k => castTop (ef_4 m po ps pl) k) ?_
  show own_Go p e below s _ _ _ (s₁.setTop (mkF m 0 #[.val (.int po), .val (.int ps), .val (.int pl)] []))
  refine own_via (fun _ k => XS.iloadN X0.here hx rfl (hb hby d4_0) rfl k) ?_
  show own_Go p e below s _ _ _ (s₁.setTop (mkF m 1 #[.val (.int po), .val (.int ps), .val (.int pl)] [(.int po)]))
  refine own_via (fun _ k => XS.iloadN X0.here hx rfl (hb hby d4_1) rfl k) ?_
  show own_Go p e below s _ _ _ (s₁.setTop (mkF m 2 #[.val (.int po), .val (.int ps), .val (.int pl)] [(.int ps), (.int po)]))
  refine own_via (fun _ k => XS.iloadN X0.here hx rfl (hb hby d4_2) rfl k) ?_
  show own_Go p e below s _ _ _ (s₁.setTop (mkF m 3 #[.val (.int po), .val (.int ps), .val (.int pl)] [(.int pl), (.int ps), (.int po)]))
  refine own_via (fun _ k => XS.aconstNull X0.here hx rfl (hb hby d4_3) k) ?_
  show own_Go p e below s _ _ _ (s₁.setTop (mkF m 4 #[.val (.int po), .val (.int ps), .val (.int pl)] [.null, (.int pl), (.int ps), (.int po)]))
  obtain ⟨_, _, ⟨T1, L1, k1, n1⟩, -, X1, ⟨Lc1, hQ1, l1, y1, z1⟩, st1⟩ := Jvm.LawKit.callS X0 hx (y := (⟨"jdk/internal/util/Preconditions", "checkFromIndexSize", "(IIILjava/util/function/BiFunction;)I"⟩ : MethodName)) hown (mvT hZ (hw _ (List.mem_of_getElem? (i := 22) rfl))) (mvT hZ (hw _ (List.mem_of_getElem? (i := 23) rfl))) (mvT hZ (hw _ (List.mem_of_getElem? (i := 24) rfl))) (mvT hZ (hw _ (List.mem_of_getElem? (i := 25) rfl))) (by decide) (backOf (W := 0) (rm5 l Z a0 hw [] po ps pl h0 n0 Z0 hp0 hp1) hZ (hw _ (List.mem_of_getElem? (i := 25) rfl)) (hw _ (List.mem_of_getElem? (i := 24) rfl)) (by decide) (by decide)) (g := (mkF m 4 #[.val (.int po), .val (.int ps), .val (.int pl)] [.null, (.int pl), (.int ps), (.int po)])) rfl (by rw [hml]; rfl) (argsL := [(.int po), (.int ps), (.int pl), .null]) (rest := []) (lenOf pd_0 rfl) rfl (by show 2 * 0 + _ ≤ _; exact Nat.le_of_eq rfl) (hb hby d4_4) (fun _ _ => ⟨rfl, e0, (by decide : 0 + 0 ≤ _), (by decide : 0 + 0 ≤ _)⟩)
  dsimp only [Pt.U, Pt.locs, Pt.cells, Pt.slots] at X1 l1 y1 z1 st1 hQ1
  subst l1 y1 z1
  obtain ⟨rfl, N1q, e1⟩ := hQ1
  have N1 := Fr.app N0 N1q
  refine own_via st1 ?_
  show own_Go p e below s _ _ _ (T1.setTop (mkF m 7 #[.val (.int po), .val (.int ps), .val (.int pl)] [(.int po)]))
  exact own_goI X1 hx Bd.returns (hb hby d4_7) Bd.notSynchronized (by decide) (by decide) (by rw [e1]; exact ⟨rfl, N1, rfl⟩)
theorem d3_0 : decode prog_51_method_2_code 0 = .ok (.iconst 0, 1) := by decide +kernel
theorem d3_1 : decode prog_51_method_2_code 1 = .ok (.iload_n 2, 1) := by decide +kernel
theorem d3_2 : decode prog_51_method_2_code 2 = .ok (.aload_n 1, 1) := by decide +kernel
theorem d3_3 : decode prog_51_method_2_code 3 = .ok (.arraylength, 1) := by decide +kernel
theorem pd_1 : parseMethodDescriptor "(III)I" = some ⟨[.int, .int, .int], some .int⟩ := by decide +kernel
theorem d3_4 : decode prog_51_method_2_code 4 = .ok (.invokestatic 13, 3) := by decide +kernel
theorem d3_7 : decode prog_51_method_2_code 7 = .ok (.pop, 1) := by decide +kernel
theorem d3_8 : decode prog_51_method_2_code 8 = .ok (.aload_n 0, 1) := by decide +kernel
theorem d3_9 : decode prog_51_method_2_code 9 = .ok (.aload_n 1, 1) := by decide +kernel
theorem d3_10 : decode prog_51_method_2_code 10 = .ok (.putfield 7, 3) := by decide +kernel
theorem d3_13 : decode prog_51_method_2_code 13 = .ok (.aload_n 0, 1) := by decide +kernel
theorem d3_14 : decode prog_51_method_2_code 14 = .ok (.iconst 0, 1) := by decide +kernel
theorem d3_15 : decode prog_51_method_2_code 15 = .ok (.putfield 19, 3) := by decide +kernel
theorem d3_18 : decode prog_51_method_2_code 18 = .ok (.aload_n 0, 1) := by decide +kernel
theorem d3_19 : decode prog_51_method_2_code 19 = .ok (.iload_n 2, 1) := by decide +kernel
theorem d3_20 : decode prog_51_method_2_code 20 = .ok (.putfield 23, 3) := by decide +kernel
theorem d3_23 : decode prog_51_method_2_code 23 = .ok (.return_, 1) := by decide +kernel
theorem ef_3 (m : MethodId) (x0 : Addr) (x1 : Addr) (x2 : Int32) : entryFrame m #[(.ref x0), (.ref x1), (.int x2)] 3 = mkF m 0 #[.val (.ref x0), .val (.ref x1), .val (.int x2)] [] := by first | (simp [entryFrame, mkF, argsToLocals, Value.category]; done) | rfl
def Q3 (Z : State) (a : Addr) (b : Addr) (pl_ : Int32) (ob_ : Value) (k_ : ClassId) (z_ : Int32) (vs_ : List Value) (d_ : Value) (h0 : Heap) (n0 : Nat) (v : Option Value) (h : Heap) (L : List Loc) : Prop := v = none ∧ Fr n0 L ∧ Keep h0 h [a] ∧ Exa Z h a "com/example/greenbelt/greenbelt/io/FrameInput" ∧ Fld Z h a "com/example/greenbelt/greenbelt/io/FrameInput" "bytes" "[B" (.ref b) ∧ Fld Z h a "com/example/greenbelt/greenbelt/io/FrameInput" "position" "I" (.int (0 : Int32)) ∧ Fld Z h a "com/example/greenbelt/greenbelt/io/FrameInput" "end" "I" (.int pl_)
set_option maxRecDepth 65536 in
set_option maxHeartbeats 40000000 in
theorem rm3 (l : Launch) (Z : State) (a0 : Array Value) (hw : ∀ d ∈ tables_1, d.before a0 Z = true) (ws : List Jvm.Cond) (a : Addr) (b : Addr) (pl_ : Int32) (ob_ : Value) (k_ : ClassId) (z_ : Int32) (vs_ : List Value) (d_ : Value) (h0 : Heap) (n0 : Nat) (Z0 : n0 ≤ h0.size) (E_a : Exa Z h0 a "com/example/greenbelt/greenbelt/io/FrameInput") (F_bytes_a : Fld Z h0 a "com/example/greenbelt/greenbelt/io/FrameInput" "bytes" "[B" ob_) (F_position_a : Fld Z h0 a "com/example/greenbelt/greenbelt/io/FrameInput" "position" "I" (.int (0 : Int32))) (F_end_a : Fld Z h0 a "com/example/greenbelt/greenbelt/io/FrameInput" "end" "I" (.int (0 : Int32))) (V_b : Arv Z h0 b k_ .byte z_ vs_ d_) (g_a : n0 ≤ a) (hp6 : ¬ ((z_ ||| (0 : Int32)) ||| pl_) < (0 : Int32)) (hp7 : ¬ (z_ - (0 : Int32)) < pl_) :
    MetFree l (⟨"com/example/greenbelt/greenbelt/io/FrameInput", "reset", "([BI)V"⟩ : MethodName) (head1 (Jvm.Cond.code (⟨"com/example/greenbelt/greenbelt/io/FrameInput", "reset", "([BI)V"⟩ : MethodName) prog_51_method_2_code 3 none :: ws) ({ frames := 2, cells := 0, slots := 0, locals := 29 } : Room)) (fun q_ U => q_ = #[(.ref a), (.ref b), (.int pl_)] ∧ Z.Warmed39 U.vm ∧ U.heap = h0) (fun _ _ _ _ _ => True) (fun _ U o U' => ∃ v L, o = .returned v ∧ Q3 Z a b pl_ ob_ k_ z_ vs_ d_ h0 n0 v U'.heap L ∧ FrameEnd U o U' L ({ frames := 2, cells := 0, slots := 0, locals := 29 } : Room).cells ({ frames := 2, cells := 0, slots := 0, locals := 29 } : Room).slots) := by
  refine MetFree.of_bodySF (plainFor_of_name pn_0) hisR ?_
  intro p e s m args below meth c s₁ Bd hml0 hP hK
  obtain ⟨rfl, hZ, hh⟩ := hP
  have hx := Bd.exec
  have hby := Bd.bytes
  have hml : c.maxLocals = 3 := hml0
  have hown : s.vm.findClass "com/example/greenbelt/greenbelt/io/FrameInput" = some m.cls := findClass_of_methodNamed Bd.named
  have hnm := (name_of_methodNamed Bd.named Bd.method).1
  have X0 : Stand p l e ({ frames := 2, cells := 0, slots := 0, locals := 29 } : Room) s m #[(.ref a), (.ref b), (.int pl_)] below meth c s₁ [] 0 0 := Stand.of_body Bd
  have e0 : s₁.heap = h0 := by rw [← hh, Bd.state]; rfl
  have N0 := Fr.nil n0
  show own_Go p e below s (Q3 Z a b pl_ ob_ k_ z_ vs_ d_ h0 n0) ({ frames := 2, cells := 0, slots := 0, locals := 29 } : Room).cells ({ frames := 2, cells := 0, slots := 0, locals := 29 } : Room).slots (s₁.setTop (entryFrame m #[(.ref a), (.ref b), (.int pl_)] 3))
  refine own_via (fun t k => castTop (ef_3 m a b pl_) k) ?_
  have K0 : Keep h0 h0 [a] := Keep.refl _ _
  show own_Go p e below s _ _ _ (s₁.setTop (mkF m 0 #[.val (.ref a), .val (.ref b), .val (.int pl_)] []))
  refine own_via (fun _ k => XS.iconst X0.here hx rfl (hb hby d3_0) k) ?_
  show own_Go p e below s _ _ _ (s₁.setTop (mkF m 1 #[.val (.ref a), .val (.ref b), .val (.int pl_)] [(.int (0 : Int32))]))
  refine own_via (fun _ k => XS.iloadN X0.here hx rfl (hb hby d3_1) rfl k) ?_
  show own_Go p e below s _ _ _ (s₁.setTop (mkF m 2 #[.val (.ref a), .val (.ref b), .val (.int pl_)] [(.int pl_), (.int (0 : Int32))]))
  refine own_via (fun _ k => XS.aloadN X0.here hx rfl (hb hby d3_2) rfl rfl k) ?_
  show own_Go p e below s _ _ _ (s₁.setTop (mkF m 3 #[.val (.ref a), .val (.ref b), .val (.int pl_)] [(.ref b), (.int pl_), (.int (0 : Int32))]))
  obtain ⟨cl1, Ar1, q1, S1, M1, H1, G1⟩ := (id V_b)
  refine own_via (fun _ k => X0.arraylength hx (by rw [e0]; exact Ar1.1) (State.isArrayOf_alike hZ.alike Ar1.2.1) (g := (mkF m 3 #[.val (.ref a), .val (.ref b), .val (.int pl_)] [(.ref b), (.int pl_), (.int (0 : Int32))])) rfl rfl (hb hby d3_3) _ (by rw [len_of S1 M1]; exact k)) ?_
  show own_Go p e below s _ _ _ (s₁.setTop (mkF m 4 #[.val (.ref a), .val (.ref b), .val (.int pl_)] [(.int z_), (.int pl_), (.int (0 : Int32))]))
  obtain ⟨_, _, ⟨T2, L2, k2, n2⟩, -, X2, ⟨Lc2, hQ2, l2, y2, z2⟩, st2⟩ := Jvm.LawKit.callS X0 hx (y := (⟨"java/util/Objects", "checkFromIndexSize", "(III)I"⟩ : MethodName)) hown (mvT hZ (hw _ (List.mem_of_getElem? (i := 18) rfl))) (mvT hZ (hw _ (List.mem_of_getElem? (i := 19) rfl))) (mvT hZ (hw _ (List.mem_of_getElem? (i := 20) rfl))) (mvT hZ (hw _ (List.mem_of_getElem? (i := 21) rfl))) (by decide) (backOf (W := 0) (rm4 l Z a0 hw [] (0 : Int32) pl_ z_ h0 n0 Z0 hp6 hp7) hZ (hw _ (List.mem_of_getElem? (i := 21) rfl)) (hw _ (List.mem_of_getElem? (i := 20) rfl)) (by decide) (by decide)) (g := (mkF m 4 #[.val (.ref a), .val (.ref b), .val (.int pl_)] [(.int z_), (.int pl_), (.int (0 : Int32))])) rfl (by rw [hml]; rfl) (argsL := [(.int (0 : Int32)), (.int pl_), (.int z_)]) (rest := []) (lenOf pd_1 rfl) rfl (by show 2 * 0 + _ ≤ _; exact Nat.le_of_eq rfl) (hb hby d3_4) (fun _ _ => ⟨rfl, e0, (by decide : 0 + 0 ≤ _), (by decide : 0 + 0 ≤ _)⟩)
  dsimp only [Pt.U, Pt.locs, Pt.cells, Pt.slots] at X2 l2 y2 z2 st2 hQ2
  subst l2 y2 z2
  obtain ⟨rfl, N2q, e2⟩ := hQ2
  have N2 := Fr.app N0 N2q
  refine own_via st2 ?_
  show own_Go p e below s _ _ _ (T2.setTop (mkF m 7 #[.val (.ref a), .val (.ref b), .val (.int pl_)] [(.int (0 : Int32))]))
  refine own_via (fun _ k => XS.pop X2.here hx rfl (hb hby d3_7) rfl rfl k) ?_
  show own_Go p e below s _ _ _ (T2.setTop (mkF m 8 #[.val (.ref a), .val (.ref b), .val (.int pl_)] []))
  refine own_via (fun _ k => XS.aloadN X2.here hx rfl (hb hby d3_8) rfl rfl k) ?_
  show own_Go p e below s _ _ _ (T2.setTop (mkF m 9 #[.val (.ref a), .val (.ref b), .val (.int pl_)] [(.ref a)]))
  refine own_via (fun _ k => XS.aloadN X2.here hx rfl (hb hby d3_9) rfl rfl k) ?_
  show own_Go p e below s _ _ _ (T2.setTop (mkF m 10 #[.val (.ref a), .val (.ref b), .val (.int pl_)] [(.ref b), (.ref a)]))
  obtain ⟨T3, h3, X3, e3, W3, st3⟩ := putF X2 hx hZ hown (host := "") (Or.inl (hw _ (List.mem_of_getElem? (i := 11) rfl))) Via.refl e2 F_bytes_a E_a (Or.inl (hw _ (List.mem_of_getElem? (i := 12) rfl))) (hw _ (List.mem_of_getElem? (i := 3) rfl)) (ty := (.array .byte)) (by decide) rfl rfl (g := (mkF m 10 #[.val (.ref a), .val (.ref b), .val (.int pl_)] [(.ref b), (.ref a)])) rfl rfl (hb hby d3_10)
  have N3 := Fr.snoc X3 N2 g_a
  have Fw3 := F_bytes_a.same W3
  have Z3 : n0 ≤ h3.size := Nat.le_trans Z0 (Keep.of_wr W3).1
  have K3 : Keep h0 h3 [a] := K0.wr W3 (Or.inl (List.mem_of_getElem? (i := 0) rfl))
  refine own_via st3 ?_
  show own_Go p e below s _ _ _ (T3.setTop (mkF m 13 #[.val (.ref a), .val (.ref b), .val (.int pl_)] []))
  refine own_via (fun _ k => XS.aloadN X3.here hx rfl (hb hby d3_13) rfl rfl k) ?_
  show own_Go p e below s _ _ _ (T3.setTop (mkF m 14 #[.val (.ref a), .val (.ref b), .val (.int pl_)] [(.ref a)]))
  refine own_via (fun _ k => XS.iconst X3.here hx rfl (hb hby d3_14) k) ?_
  show own_Go p e below s _ _ _ (T3.setTop (mkF m 15 #[.val (.ref a), .val (.ref b), .val (.int pl_)] [(.int (0 : Int32)), (.ref a)]))
  have F4 := (E_a.wr W3)
  have F5 := (F_position_a.other W3 (Or.inr (slot_ne (Or.inl (hw _ (List.mem_of_getElem? (i := 27) rfl))) (Or.inl (hw _ (List.mem_of_getElem? (i := 12) rfl))) (by decide) (t := .int) (t' := (.array .byte)) (by decide) (by decide))))
  obtain ⟨T6, h6, X6, e6, W6, st6⟩ := putF X3 hx hZ hown (host := "") (Or.inl (hw _ (List.mem_of_getElem? (i := 26) rfl))) Via.refl e3 F5 F4 (Or.inl (hw _ (List.mem_of_getElem? (i := 27) rfl))) (hw _ (List.mem_of_getElem? (i := 3) rfl)) (ty := .int) (by decide) rfl rfl (g := (mkF m 15 #[.val (.ref a), .val (.ref b), .val (.int pl_)] [(.int (0 : Int32)), (.ref a)])) rfl rfl (hb hby d3_15)
  have N6 := Fr.snoc X6 N3 g_a
  have Fw6 := F5.same W6
  have Z6 : n0 ≤ h6.size := Nat.le_trans Z3 (Keep.of_wr W6).1
  have K6 : Keep h0 h6 [a] := K3.wr W6 (Or.inl (List.mem_of_getElem? (i := 0) rfl))
  refine own_via st6 ?_
  show own_Go p e below s _ _ _ (T6.setTop (mkF m 18 #[.val (.ref a), .val (.ref b), .val (.int pl_)] []))
  refine own_via (fun _ k => XS.aloadN X6.here hx rfl (hb hby d3_18) rfl rfl k) ?_
  show own_Go p e below s _ _ _ (T6.setTop (mkF m 19 #[.val (.ref a), .val (.ref b), .val (.int pl_)] [(.ref a)]))
  refine own_via (fun _ k => XS.iloadN X6.here hx rfl (hb hby d3_19) rfl k) ?_
  show own_Go p e below s _ _ _ (T6.setTop (mkF m 20 #[.val (.ref a), .val (.ref b), .val (.int pl_)] [(.int pl_), (.ref a)]))
  have F7 := (F4.wr W6)
  have F8 := ((F_end_a.other W3 (Or.inr (slot_ne (Or.inl (hw _ (List.mem_of_getElem? (i := 29) rfl))) (Or.inl (hw _ (List.mem_of_getElem? (i := 12) rfl))) (by decide) (t := .int) (t' := (.array .byte)) (by decide) (by decide)))).other W6 (Or.inr (slot_ne (Or.inl (hw _ (List.mem_of_getElem? (i := 29) rfl))) (Or.inl (hw _ (List.mem_of_getElem? (i := 27) rfl))) (by decide) (t := .int) (t' := .int) (by decide) (by decide))))
  obtain ⟨T9, h9, X9, e9, W9, st9⟩ := putF X6 hx hZ hown (host := "") (Or.inl (hw _ (List.mem_of_getElem? (i := 28) rfl))) Via.refl e6 F8 F7 (Or.inl (hw _ (List.mem_of_getElem? (i := 29) rfl))) (hw _ (List.mem_of_getElem? (i := 3) rfl)) (ty := .int) (by decide) rfl rfl (g := (mkF m 20 #[.val (.ref a), .val (.ref b), .val (.int pl_)] [(.int pl_), (.ref a)])) rfl rfl (hb hby d3_20)
  have N9 := Fr.snoc X9 N6 g_a
  have Fw9 := F8.same W9
  have Z9 : n0 ≤ h9.size := Nat.le_trans Z6 (Keep.of_wr W9).1
  have K9 : Keep h0 h9 [a] := K6.wr W9 (Or.inl (List.mem_of_getElem? (i := 0) rfl))
  refine own_via st9 ?_
  show own_Go p e below s _ _ _ (T9.setTop (mkF m 23 #[.val (.ref a), .val (.ref b), .val (.int pl_)] []))
  have F10 := (F7.wr W9)
  have F11 := ((Fw3.other W6 (Or.inr (slot_ne (Or.inl (hw _ (List.mem_of_getElem? (i := 12) rfl))) (Or.inl (hw _ (List.mem_of_getElem? (i := 27) rfl))) (by decide) (t := (.array .byte)) (t' := .int) (by decide) (by decide)))).other W9 (Or.inr (slot_ne (Or.inl (hw _ (List.mem_of_getElem? (i := 12) rfl))) (Or.inl (hw _ (List.mem_of_getElem? (i := 29) rfl))) (by decide) (t := (.array .byte)) (t' := .int) (by decide) (by decide))))
  have F12 := (Fw6.other W9 (Or.inr (slot_ne (Or.inl (hw _ (List.mem_of_getElem? (i := 27) rfl))) (Or.inl (hw _ (List.mem_of_getElem? (i := 29) rfl))) (by decide) (t := .int) (t' := .int) (by decide) (by decide))))
  exact own_goV X9 hx Bd.returns (hb hby d3_23) Bd.notSynchronized (by decide) (by decide) (by rw [e9]; exact ⟨rfl, N9, K9, F10, F11, F12, Fw9⟩)
theorem d7_0 : decode prog_51_method_3_code 0 = .ok (.aload_n 0, 1) := by decide +kernel
theorem d7_1 : decode prog_51_method_3_code 1 = .ok (.getfield 23, 3) := by decide +kernel
theorem d7_4 : decode prog_51_method_3_code 4 = .ok (.aload_n 0, 1) := by decide +kernel
theorem d7_5 : decode prog_51_method_3_code 5 = .ok (.getfield 19, 3) := by decide +kernel
theorem d7_8 : decode prog_51_method_3_code 8 = .ok (.isub, 1) := by decide +kernel
theorem d7_9 : decode prog_51_method_3_code 9 = .ok (.ireturn, 1) := by decide +kernel
theorem ef_7 (m : MethodId) (x0 : Addr) : entryFrame m #[(.ref x0)] 1 = mkF m 0 #[.val (.ref x0)] [] := by first | (simp [entryFrame, mkF, argsToLocals, Value.category]; done) | rfl
def Q7 (Z : State) (a : Addr) (e_ : Int32) (q_ : Int32) (h0 : Heap) (n0 : Nat) (v : Option Value) (h : Heap) (L : List Loc) : Prop := v = some (.int (e_ - q_)) ∧ Fr n0 L ∧ h = h0
set_option maxRecDepth 65536 in
set_option maxHeartbeats 40000000 in
theorem rm7 (l : Launch) (Z : State) (a0 : Array Value) (hw : ∀ d ∈ tables_1, d.before a0 Z = true) (ws : List Jvm.Cond) (a : Addr) (e_ : Int32) (q_ : Int32) (h0 : Heap) (n0 : Nat) (Z0 : n0 ≤ h0.size) (F_end_a : Fld Z h0 a "com/example/greenbelt/greenbelt/io/FrameInput" "end" "I" (.int e_)) (F_position_a : Fld Z h0 a "com/example/greenbelt/greenbelt/io/FrameInput" "position" "I" (.int q_)) :
    MetFree l (⟨"com/example/greenbelt/greenbelt/io/FrameInput", "remaining", "()I"⟩ : MethodName) (head1 (Jvm.Cond.code (⟨"com/example/greenbelt/greenbelt/io/FrameInput", "remaining", "()I"⟩ : MethodName) prog_51_method_3_code 1 (some .int) :: ws) ({ frames := 0, cells := 0, slots := 0, locals := 0 } : Room)) (fun q_ U => q_ = #[(.ref a)] ∧ Z.Warmed39 U.vm ∧ U.heap = h0) (fun _ _ _ _ _ => True) (fun _ U o U' => ∃ v L, o = .returned v ∧ Q7 Z a e_ q_ h0 n0 v U'.heap L ∧ FrameEnd U o U' L ({ frames := 0, cells := 0, slots := 0, locals := 0 } : Room).cells ({ frames := 0, cells := 0, slots := 0, locals := 0 } : Room).slots) := by
  refine MetFree.of_bodySF (plainFor_of_name pn_0) hisR ?_
  intro p e s m args below meth c s₁ Bd hml0 hP hK
  obtain ⟨rfl, hZ, hh⟩ := hP
  have hx := Bd.exec
  have hby := Bd.bytes
  have hml : c.maxLocals = 1 := hml0
  have hown : s.vm.findClass "com/example/greenbelt/greenbelt/io/FrameInput" = some m.cls := findClass_of_methodNamed Bd.named
  have hnm := (name_of_methodNamed Bd.named Bd.method).1
  have X0 : Stand p l e ({ frames := 0, cells := 0, slots := 0, locals := 0 } : Room) s m #[(.ref a)] below meth c s₁ [] 0 0 := Stand.of_body Bd
  have e0 : s₁.heap = h0 := by rw [← hh, Bd.state]; rfl
  have N0 := Fr.nil n0
  show own_Go p e below s (Q7 Z a e_ q_ h0 n0) ({ frames := 0, cells := 0, slots := 0, locals := 0 } : Room).cells ({ frames := 0, cells := 0, slots := 0, locals := 0 } : Room).slots (s₁.setTop (entryFrame m #[(.ref a)] 1))
  refine own_via (fun t k => castTop (ef_7 m a) k) ?_
  show own_Go p e below s _ _ _ (s₁.setTop (mkF m 0 #[.val (.ref a)] []))
  refine own_via (fun _ k => XS.aloadN X0.here hx rfl (hb hby d7_0) rfl rfl k) ?_
  show own_Go p e below s _ _ _ (s₁.setTop (mkF m 1 #[.val (.ref a)] [(.ref a)]))
  obtain ⟨T1, X1, e1, st1⟩ := getF X0 hx hZ hown (host := "") (Or.inl (hw _ (List.mem_of_getElem? (i := 28) rfl))) Via.refl e0 F_end_a (g := (mkF m 1 #[.val (.ref a)] [(.ref a)])) rfl rfl (hb hby d7_1)
  refine own_via st1 ?_
  show own_Go p e below s _ _ _ (T1.setTop (mkF m 4 #[.val (.ref a)] [(.int e_)]))
  refine own_via (fun _ k => XS.aloadN X1.here hx rfl (hb hby d7_4) rfl rfl k) ?_
  show own_Go p e below s _ _ _ (T1.setTop (mkF m 5 #[.val (.ref a)] [(.ref a), (.int e_)]))
  obtain ⟨T2, X2, e2, st2⟩ := getF X1 hx hZ hown (host := "") (Or.inl (hw _ (List.mem_of_getElem? (i := 26) rfl))) Via.refl e1 F_position_a (g := (mkF m 5 #[.val (.ref a)] [(.ref a), (.int e_)])) rfl rfl (hb hby d7_5)
  refine own_via st2 ?_
  show own_Go p e below s _ _ _ (T2.setTop (mkF m 8 #[.val (.ref a)] [(.int q_), (.int e_)]))
  refine own_via (fun _ k => XS.isub X2.here hx rfl (hb hby d7_8) rfl k) ?_
  show own_Go p e below s _ _ _ (T2.setTop (mkF m 9 #[.val (.ref a)] [(.int (e_ - q_))]))
  exact own_goI X2 hx Bd.returns (hb hby d7_9) Bd.notSynchronized (by decide) (by decide) (by rw [e2]; exact ⟨rfl, N0, rfl⟩)
theorem d8_0 : decode jdk_29_method_69_code 0 = .ok (.iload_n 0, 1) := by decide +kernel
theorem d8_1 : decode jdk_29_method_69_code 1 = .ok (.iload_n 1, 1) := by decide +kernel
theorem d8_2 : decode jdk_29_method_69_code 2 = .ok (.if_icmp .gt 7, 3) := by decide +kernel
theorem d8_9 : decode jdk_29_method_69_code 9 = .ok (.iload_n 1, 1) := by decide +kernel
theorem d8_10 : decode jdk_29_method_69_code 10 = .ok (.ireturn, 1) := by decide +kernel
theorem d8_5 : decode jdk_29_method_69_code 5 = .ok (.iload_n 0, 1) := by decide +kernel
theorem d8_6 : decode jdk_29_method_69_code 6 = .ok (.goto 4, 3) := by decide +kernel
def own_min (p0 : Int32) (p1 : Int32) : Int32 := (if p1 < p0 then p1 else p0)
theorem ef_8 (m : MethodId) (x0 : Int32) (x1 : Int32) : entryFrame m #[(.int x0), (.int x1)] 2 = mkF m 0 #[.val (.int x0), .val (.int x1)] [] := by first | (simp [entryFrame, mkF, argsToLocals, Value.category]; done) | rfl
def Q8 (Z : State) (p0 : Int32) (p1 : Int32) (h0 : Heap) (n0 : Nat) (v : Option Value) (h : Heap) (L : List Loc) : Prop := v = some (.int (own_min p0 p1)) ∧ Fr n0 L ∧ h = h0
set_option maxRecDepth 65536 in
set_option maxHeartbeats 40000000 in
theorem rm8 (l : Launch) (Z : State) (a0 : Array Value) (hw : ∀ d ∈ tables_1, d.before a0 Z = true) (ws : List Jvm.Cond) (p0 : Int32) (p1 : Int32) (h0 : Heap) (n0 : Nat) (Z0 : n0 ≤ h0.size) :
    MetFree l (⟨"java/lang/Math", "min", "(II)I"⟩ : MethodName) (head1 (Jvm.Cond.code (⟨"java/lang/Math", "min", "(II)I"⟩ : MethodName) jdk_29_method_69_code 2 (some .int) :: ws) ({ frames := 0, cells := 0, slots := 0, locals := 0 } : Room)) (fun q_ U => q_ = #[(.int p0), (.int p1)] ∧ Z.Warmed39 U.vm ∧ U.heap = h0) (fun _ _ _ _ _ => True) (fun _ U o U' => ∃ v L, o = .returned v ∧ Q8 Z p0 p1 h0 n0 v U'.heap L ∧ FrameEnd U o U' L ({ frames := 0, cells := 0, slots := 0, locals := 0 } : Room).cells ({ frames := 0, cells := 0, slots := 0, locals := 0 } : Room).slots) := by
  refine MetFree.of_bodySF (Jvm.Free.JP.mathPlain rfl (by decide +kernel)) hisR ?_
  intro p e s m args below meth c s₁ Bd hml0 hP hK
  obtain ⟨rfl, hZ, hh⟩ := hP
  have hx := Bd.exec
  have hby := Bd.bytes
  have hml : c.maxLocals = 2 := hml0
  have hown : s.vm.findClass "java/lang/Math" = some m.cls := findClass_of_methodNamed Bd.named
  have hnm := (name_of_methodNamed Bd.named Bd.method).1
  have X0 : Stand p l e ({ frames := 0, cells := 0, slots := 0, locals := 0 } : Room) s m #[(.int p0), (.int p1)] below meth c s₁ [] 0 0 := Stand.of_body Bd
  have e0 : s₁.heap = h0 := by rw [← hh, Bd.state]; rfl
  have N0 := Fr.nil n0
  show own_Go p e below s (Q8 Z p0 p1 h0 n0) ({ frames := 0, cells := 0, slots := 0, locals := 0 } : Room).cells ({ frames := 0, cells := 0, slots := 0, locals := 0 } : Room).slots (s₁.setTop (entryFrame m #[(.int p0), (.int p1)] 2))
  refine own_via (fun t k => castTop (ef_8 m p0 p1) k) ?_
  show own_Go p e below s _ _ _ (s₁.setTop (mkF m 0 #[.val (.int p0), .val (.int p1)] []))
  refine own_via (fun _ k => XS.iloadN X0.here hx rfl (hb hby d8_0) rfl k) ?_
  show own_Go p e below s _ _ _ (s₁.setTop (mkF m 1 #[.val (.int p0), .val (.int p1)] [(.int p0)]))
  refine own_via (fun _ k => XS.iloadN X0.here hx rfl (hb hby d8_1) rfl k) ?_
  show own_Go p e below s _ _ _ (s₁.setTop (mkF m 2 #[.val (.int p0), .val (.int p1)] [(.int p1), (.int p0)]))
  by_cases hc1 : p1 < p0
  · refine own_via (fun _ k => XS.icmpYes X0.here hx rfl (pc0 := 2) (pc' := 9) rfl (hb hby d8_2) rfl (Jvm.Free.XT.ii_gt_t hc1) (by decide) (by decide) k) ?_
    show own_Go p e below s _ _ _ (s₁.setTop (mkF m 9 #[.val (.int p0), .val (.int p1)] []))
    refine own_via (fun _ k => XS.iloadN X0.here hx rfl (hb hby d8_9) rfl k) ?_
    show own_Go p e below s _ _ _ (s₁.setTop (mkF m 10 #[.val (.int p0), .val (.int p1)] [(.int p1)]))
    exact own_goI X0 hx Bd.returns (hb hby d8_10) Bd.notSynchronized (by decide) (by decide) (by rw [e0]; exact ⟨by rw [own_min, if_pos hc1] <;> rfl, N0, rfl⟩)
  · refine own_via (fun _ k => XS.icmpNo X0.here hx rfl (hb hby d8_2) rfl (Jvm.Free.XT.ii_gt_f hc1) k) ?_
    show own_Go p e below s _ _ _ (s₁.setTop (mkF m 5 #[.val (.int p0), .val (.int p1)] []))
    refine own_via (fun _ k => XS.iloadN X0.here hx rfl (hb hby d8_5) rfl k) ?_
    show own_Go p e below s _ _ _ (s₁.setTop (mkF m 6 #[.val (.int p0), .val (.int p1)] [(.int p0)]))
    refine own_via (fun _ k => XS.goto X0.here hx rfl (pc0 := 6) (pc' := 10) rfl (hb hby d8_6) (by decide) (by decide) k) ?_
    show own_Go p e below s _ _ _ (s₁.setTop (mkF m 10 #[.val (.int p0), .val (.int p1)] [(.int p0)]))
    exact own_goI X0 hx Bd.returns (hb hby d8_10) Bd.notSynchronized (by decide) (by decide) (by rw [e0]; exact ⟨by rw [own_min, if_neg hc1] <;> rfl, N0, rfl⟩)
theorem d9_0 : decode jdk_29_method_65_code 0 = .ok (.iload_n 0, 1) := by decide +kernel
theorem d9_1 : decode jdk_29_method_65_code 1 = .ok (.iload_n 1, 1) := by decide +kernel
theorem d9_2 : decode jdk_29_method_65_code 2 = .ok (.if_icmp .lt 7, 3) := by decide +kernel
theorem d9_9 : decode jdk_29_method_65_code 9 = .ok (.iload_n 1, 1) := by decide +kernel
theorem d9_10 : decode jdk_29_method_65_code 10 = .ok (.ireturn, 1) := by decide +kernel
theorem d9_5 : decode jdk_29_method_65_code 5 = .ok (.iload_n 0, 1) := by decide +kernel
theorem d9_6 : decode jdk_29_method_65_code 6 = .ok (.goto 4, 3) := by decide +kernel
def own_max (p0 : Int32) (p1 : Int32) : Int32 := (if p0 < p1 then p1 else p0)
theorem ef_9 (m : MethodId) (x0 : Int32) (x1 : Int32) : entryFrame m #[(.int x0), (.int x1)] 2 = mkF m 0 #[.val (.int x0), .val (.int x1)] [] := by first | (simp [entryFrame, mkF, argsToLocals, Value.category]; done) | rfl
def Q9 (Z : State) (p0 : Int32) (p1 : Int32) (h0 : Heap) (n0 : Nat) (v : Option Value) (h : Heap) (L : List Loc) : Prop := v = some (.int (own_max p0 p1)) ∧ Fr n0 L ∧ h = h0
set_option maxRecDepth 65536 in
set_option maxHeartbeats 40000000 in
theorem rm9 (l : Launch) (Z : State) (a0 : Array Value) (hw : ∀ d ∈ tables_1, d.before a0 Z = true) (ws : List Jvm.Cond) (p0 : Int32) (p1 : Int32) (h0 : Heap) (n0 : Nat) (Z0 : n0 ≤ h0.size) :
    MetFree l (⟨"java/lang/Math", "max", "(II)I"⟩ : MethodName) (head1 (Jvm.Cond.code (⟨"java/lang/Math", "max", "(II)I"⟩ : MethodName) jdk_29_method_65_code 2 (some .int) :: ws) ({ frames := 0, cells := 0, slots := 0, locals := 0 } : Room)) (fun q_ U => q_ = #[(.int p0), (.int p1)] ∧ Z.Warmed39 U.vm ∧ U.heap = h0) (fun _ _ _ _ _ => True) (fun _ U o U' => ∃ v L, o = .returned v ∧ Q9 Z p0 p1 h0 n0 v U'.heap L ∧ FrameEnd U o U' L ({ frames := 0, cells := 0, slots := 0, locals := 0 } : Room).cells ({ frames := 0, cells := 0, slots := 0, locals := 0 } : Room).slots) := by
  refine MetFree.of_bodySF (Jvm.Free.JP.mathPlain rfl (by decide +kernel)) hisR ?_
  intro p e s m args below meth c s₁ Bd hml0 hP hK
  obtain ⟨rfl, hZ, hh⟩ := hP
  have hx := Bd.exec
  have hby := Bd.bytes
  have hml : c.maxLocals = 2 := hml0
  have hown : s.vm.findClass "java/lang/Math" = some m.cls := findClass_of_methodNamed Bd.named
  have hnm := (name_of_methodNamed Bd.named Bd.method).1
  have X0 : Stand p l e ({ frames := 0, cells := 0, slots := 0, locals := 0 } : Room) s m #[(.int p0), (.int p1)] below meth c s₁ [] 0 0 := Stand.of_body Bd
  have e0 : s₁.heap = h0 := by rw [← hh, Bd.state]; rfl
  have N0 := Fr.nil n0
  show own_Go p e below s (Q9 Z p0 p1 h0 n0) ({ frames := 0, cells := 0, slots := 0, locals := 0 } : Room).cells ({ frames := 0, cells := 0, slots := 0, locals := 0 } : Room).slots (s₁.setTop (entryFrame m #[(.int p0), (.int p1)] 2))
  refine own_via (fun t k => castTop (ef_9 m p0 p1) k) ?_
  show own_Go p e below s _ _ _ (s₁.setTop (mkF m 0 #[.val (.int p0), .val (.int p1)] []))
  refine own_via (fun _ k => XS.iloadN X0.here hx rfl (hb hby d9_0) rfl k) ?_
  show own_Go p e below s _ _ _ (s₁.setTop (mkF m 1 #[.val (.int p0), .val (.int p1)] [(.int p0)]))
  refine own_via (fun _ k => XS.iloadN X0.here hx rfl (hb hby d9_1) rfl k) ?_
  show own_Go p e below s _ _ _ (s₁.setTop (mkF m 2 #[.val (.int p0), .val (.int p1)] [(.int p1), (.int p0)]))
  by_cases hc1 : p0 < p1
  · refine own_via (fun _ k => XS.icmpYes X0.here hx rfl (pc0 := 2) (pc' := 9) rfl (hb hby d9_2) rfl (Jvm.Free.XT.ii_lt_t hc1) (by decide) (by decide) k) ?_
    show own_Go p e below s _ _ _ (s₁.setTop (mkF m 9 #[.val (.int p0), .val (.int p1)] []))
    refine own_via (fun _ k => XS.iloadN X0.here hx rfl (hb hby d9_9) rfl k) ?_
    show own_Go p e below s _ _ _ (s₁.setTop (mkF m 10 #[.val (.int p0), .val (.int p1)] [(.int p1)]))
    exact own_goI X0 hx Bd.returns (hb hby d9_10) Bd.notSynchronized (by decide) (by decide) (by rw [e0]; exact ⟨by rw [own_max, if_pos hc1] <;> rfl, N0, rfl⟩)
  · refine own_via (fun _ k => XS.icmpNo X0.here hx rfl (hb hby d9_2) rfl (Jvm.Free.XT.ii_lt_f hc1) k) ?_
    show own_Go p e below s _ _ _ (s₁.setTop (mkF m 5 #[.val (.int p0), .val (.int p1)] []))
    refine own_via (fun _ k => XS.iloadN X0.here hx rfl (hb hby d9_5) rfl k) ?_
    show own_Go p e below s _ _ _ (s₁.setTop (mkF m 6 #[.val (.int p0), .val (.int p1)] [(.int p0)]))
    refine own_via (fun _ k => XS.goto X0.here hx rfl (pc0 := 6) (pc' := 10) rfl (hb hby d9_6) (by decide) (by decide) k) ?_
    show own_Go p e below s _ _ _ (s₁.setTop (mkF m 10 #[.val (.int p0), .val (.int p1)] [(.int p0)]))
    exact own_goI X0 hx Bd.returns (hb hby d9_10) Bd.notSynchronized (by decide) (by decide) (by rw [e0]; exact ⟨by rw [own_max, if_neg hc1] <;> rfl, N0, rfl⟩)

theorem own_minl {x y : Int32} (h : ¬ y < x) : own_min x y = x := by unfold own_min; rw [if_neg h]
theorem own_maxr {x : Int32} (h : ¬ x < 0) : own_max 0 x = x := by
  unfold own_max
  split
  · rfl
  · simp only [Int32.lt_iff_toInt_lt, ← Int32.toInt_inj, Int32.reduceToInt] at *; omega

theorem d6_0 : decode prog_51_method_6_code 0 = .ok (.iconst 0, 1) := by decide +kernel
theorem d6_1 : decode prog_51_method_6_code 1 = .ok (.iload_n 1, 1) := by decide +kernel
theorem d6_2 : decode prog_51_method_6_code 2 = .ok (.aload_n 0, 1) := by decide +kernel
theorem pd_2 : parseMethodDescriptor "()I" = some ⟨[], some .int⟩ := by decide +kernel
theorem d6_3 : decode prog_51_method_6_code 3 = .ok (.invokevirtual 40, 3) := by decide +kernel
theorem pd_3 : parseMethodDescriptor "(II)I" = some ⟨[.int, .int], some .int⟩ := by decide +kernel
theorem d6_6 : decode prog_51_method_6_code 6 = .ok (.invokestatic 44, 3) := by decide +kernel
theorem d6_9 : decode prog_51_method_6_code 9 = .ok (.invokestatic 50, 3) := by decide +kernel
theorem d6_12 : decode prog_51_method_6_code 12 = .ok (.istore_n 2, 1) := by decide +kernel
theorem d6_13 : decode prog_51_method_6_code 13 = .ok (.aload_n 0, 1) := by decide +kernel
theorem d6_14 : decode prog_51_method_6_code 14 = .ok (.dup, 1) := by decide +kernel
theorem d6_15 : decode prog_51_method_6_code 15 = .ok (.getfield 19, 3) := by decide +kernel
theorem d6_18 : decode prog_51_method_6_code 18 = .ok (.iload_n 2, 1) := by decide +kernel
theorem d6_19 : decode prog_51_method_6_code 19 = .ok (.iadd, 1) := by decide +kernel
theorem d6_20 : decode prog_51_method_6_code 20 = .ok (.putfield 19, 3) := by decide +kernel
theorem d6_23 : decode prog_51_method_6_code 23 = .ok (.iload_n 2, 1) := by decide +kernel
theorem d6_24 : decode prog_51_method_6_code 24 = .ok (.ireturn, 1) := by decide +kernel
theorem ef_6 (m : MethodId) (x0 : Addr) (x1 : Int32) : entryFrame m #[(.ref x0), (.int x1)] 3 = mkF m 0 #[.val (.ref x0), .val (.int x1), .unset] [] := by first | (simp [entryFrame, mkF, argsToLocals, Value.category]; done) | rfl
def Q6 (Z : State) (a : Addr) (pn_ : Int32) (e_ : Int32) (q_ : Int32) (ob_ : Value) (h0 : Heap) (n0 : Nat) (v : Option Value) (h : Heap) (L : List Loc) : Prop := v = some (.int pn_) ∧ Fr n0 L ∧ Keep h0 h [a] ∧ Exa Z h a "com/example/greenbelt/greenbelt/io/FrameInput" ∧ Fld Z h a "com/example/greenbelt/greenbelt/io/FrameInput" "bytes" "[B" ob_ ∧ Fld Z h a "com/example/greenbelt/greenbelt/io/FrameInput" "position" "I" (.int (q_ + pn_)) ∧ Fld Z h a "com/example/greenbelt/greenbelt/io/FrameInput" "end" "I" (.int e_)
set_option maxRecDepth 65536 in
set_option maxHeartbeats 40000000 in
theorem rm6 (l : Launch) (Z : State) (a0 : Array Value) (hw : ∀ d ∈ tables_1, d.before a0 Z = true) (ws : List Jvm.Cond) (a : Addr) (pn_ : Int32) (e_ : Int32) (q_ : Int32) (ob_ : Value) (h0 : Heap) (n0 : Nat) (Z0 : n0 ≤ h0.size) (E_a : Exa Z h0 a "com/example/greenbelt/greenbelt/io/FrameInput") (F_bytes_a : Fld Z h0 a "com/example/greenbelt/greenbelt/io/FrameInput" "bytes" "[B" ob_) (F_position_a : Fld Z h0 a "com/example/greenbelt/greenbelt/io/FrameInput" "position" "I" (.int q_)) (F_end_a : Fld Z h0 a "com/example/greenbelt/greenbelt/io/FrameInput" "end" "I" (.int e_)) (g_a : n0 ≤ a) (hp5 : ¬ pn_ < (0 : Int32)) (hp6 : ¬ (e_ - q_) < pn_) :
    MetFree l (⟨"com/example/greenbelt/greenbelt/io/FrameInput", "skipBytes", "(I)I"⟩ : MethodName) (head1 (Jvm.Cond.code (⟨"com/example/greenbelt/greenbelt/io/FrameInput", "skipBytes", "(I)I"⟩ : MethodName) prog_51_method_6_code 3 (some .int) :: ws) ({ frames := 1, cells := 0, slots := 0, locals := 14 } : Room)) (fun q_ U => q_ = #[(.ref a), (.int pn_)] ∧ Z.Warmed39 U.vm ∧ U.heap = h0) (fun _ _ _ _ _ => True) (fun _ U o U' => ∃ v L, o = .returned v ∧ Q6 Z a pn_ e_ q_ ob_ h0 n0 v U'.heap L ∧ FrameEnd U o U' L ({ frames := 1, cells := 0, slots := 0, locals := 14 } : Room).cells ({ frames := 1, cells := 0, slots := 0, locals := 14 } : Room).slots) := by
  refine MetFree.of_bodySF (plainFor_of_name pn_0) hisR ?_
  intro p e s m args below meth c s₁ Bd hml0 hP hK
  obtain ⟨rfl, hZ, hh⟩ := hP
  have hx := Bd.exec
  have hby := Bd.bytes
  have hml : c.maxLocals = 3 := hml0
  have hown : s.vm.findClass "com/example/greenbelt/greenbelt/io/FrameInput" = some m.cls := findClass_of_methodNamed Bd.named
  have hnm := (name_of_methodNamed Bd.named Bd.method).1
  have X0 : Stand p l e ({ frames := 1, cells := 0, slots := 0, locals := 14 } : Room) s m #[(.ref a), (.int pn_)] below meth c s₁ [] 0 0 := Stand.of_body Bd
  have e0 : s₁.heap = h0 := by rw [← hh, Bd.state]; rfl
  have N0 := Fr.nil n0
  show own_Go p e below s (Q6 Z a pn_ e_ q_ ob_ h0 n0) ({ frames := 1, cells := 0, slots := 0, locals := 14 } : Room).cells ({ frames := 1, cells := 0, slots := 0, locals := 14 } : Room).slots (s₁.setTop (entryFrame m #[(.ref a), (.int pn_)] 3))
  refine own_via (fun t k => castTop (ef_6 m a pn_) k) ?_
  have K0 : Keep h0 h0 [a] := Keep.refl _ _
  show own_Go p e below s _ _ _ (s₁.setTop (mkF m 0 #[.val (.ref a), .val (.int pn_), .unset] []))
  refine own_via (fun _ k => XS.iconst X0.here hx rfl (hb hby d6_0) k) ?_
  show own_Go p e below s _ _ _ (s₁.setTop (mkF m 1 #[.val (.ref a), .val (.int pn_), .unset] [(.int (0 : Int32))]))
  refine own_via (fun _ k => XS.iloadN X0.here hx rfl (hb hby d6_1) rfl k) ?_
  show own_Go p e below s _ _ _ (s₁.setTop (mkF m 2 #[.val (.ref a), .val (.int pn_), .unset] [(.int pn_), (.int (0 : Int32))]))
  refine own_via (fun _ k => XS.aloadN X0.here hx rfl (hb hby d6_2) rfl rfl k) ?_
  show own_Go p e below s _ _ _ (s₁.setTop (mkF m 3 #[.val (.ref a), .val (.int pn_), .unset] [(.ref a), (.int pn_), (.int (0 : Int32))]))
  obtain ⟨cq1, kq1, qa1, qb1, qc1⟩ := isOf hZ e0 E_a
  obtain ⟨_, _, ⟨T1, L1, k1, n1⟩, -, X1, ⟨Lc1, hQ1, l1, y1, z1⟩, st1⟩ := X0.virtualBack hx (y := (⟨"com/example/greenbelt/greenbelt/io/FrameInput", "remaining", "()I"⟩ : MethodName)) (z := (⟨"com/example/greenbelt/greenbelt/io/FrameInput", "remaining", "()I"⟩ : MethodName)) hown (mvT hZ (hw _ (List.mem_of_getElem? (i := 35) rfl))) (mvT hZ (hw _ (List.mem_of_getElem? (i := 36) rfl))) (notFace_of_selects (args := #[]) (mvT hZ (hw _ (List.mem_of_getElem? (i := 38) rfl)))) (mvT hZ (hw _ (List.mem_of_getElem? (i := 38) rfl))) (mvT hZ (hw _ (List.mem_of_getElem? (i := 37) rfl))) (by decide) (backOf (W := 2) (rm7 l Z a0 hw [] a e_ q_ h0 n0 Z0 F_end_a F_position_a) hZ (hw _ (List.mem_of_getElem? (i := 39) rfl)) (hw _ (List.mem_of_getElem? (i := 4) rfl)) (by decide) (by decide)) qa1 qc1 (g := (mkF m 3 #[.val (.ref a), .val (.int pn_), .unset] [(.ref a), (.int pn_), (.int (0 : Int32))])) rfl (by rw [hml]; rfl) (Steps.refl _) (argsL := []) (rest := [(.int pn_), (.int (0 : Int32))]) (lenOf pd_2 rfl) rfl (by show 2 * 0 + _ ≤ _; exact Nat.le_of_eq rfl) (hb hby d6_3) (fun _ _ => ⟨rfl, e0, (by decide : 0 + 0 ≤ _), (by decide : 0 + 0 ≤ _)⟩)
  dsimp only [Pt.U, Pt.locs, Pt.cells, Pt.slots] at X1 l1 y1 z1 st1 hQ1
  subst l1 y1 z1
  obtain ⟨rfl, N1q, e1⟩ := hQ1
  have N1 := Fr.app N0 N1q
  refine own_viaT st1 ?_
  show own_Go p e below s _ _ _ (T1.setTop (mkF m 6 #[.val (.ref a), .val (.int pn_), .unset] [(.int (e_ - q_)), (.int pn_), (.int (0 : Int32))]))
  obtain ⟨_, _, ⟨T2, L2, k2, n2⟩, -, X2, ⟨Lc2, hQ2, l2, y2, z2⟩, st2⟩ := Jvm.LawKit.callS X1 hx (y := (⟨"java/lang/Math", "min", "(II)I"⟩ : MethodName)) hown (mvT hZ (hw _ (List.mem_of_getElem? (i := 40) rfl))) (mvT hZ (hw _ (List.mem_of_getElem? (i := 41) rfl))) (mvT hZ (hw _ (List.mem_of_getElem? (i := 42) rfl))) (mvT hZ (hw _ (List.mem_of_getElem? (i := 43) rfl))) (by decide) (backOf (W := 1) (rm8 l Z a0 hw [] pn_ (e_ - q_) h0 n0 Z0 ) hZ (hw _ (List.mem_of_getElem? (i := 43) rfl)) (hw _ (List.mem_of_getElem? (i := 42) rfl)) (by decide) (by decide)) (g := (mkF m 6 #[.val (.ref a), .val (.int pn_), .unset] [(.int (e_ - q_)), (.int pn_), (.int (0 : Int32))])) rfl (by rw [hml]; rfl) (argsL := [(.int pn_), (.int (e_ - q_))]) (rest := [(.int (0 : Int32))]) (lenOf pd_3 rfl) rfl (by show 2 * 0 + _ ≤ _; exact Nat.le_of_eq rfl) (hb hby d6_6) (fun _ _ => ⟨rfl, e1, (by decide : 0 + 0 ≤ _), (by decide : 0 + 0 ≤ _)⟩)
  dsimp only [Pt.U, Pt.locs, Pt.cells, Pt.slots] at X2 l2 y2 z2 st2 hQ2
  subst l2 y2 z2
  obtain ⟨rfl, N2q, e2⟩ := hQ2
  have N2 := Fr.app N1 N2q
  refine own_via st2 ?_
  show own_Go p e below s _ _ _ (T2.setTop (mkF m 9 #[.val (.ref a), .val (.int pn_), .unset] [(.int (own_min pn_ (e_ - q_))), (.int (0 : Int32))]))
  rw [show (own_min pn_ (e_ - q_)) = pn_ from own_minl hp6]
  show own_Go p e below s _ _ _ (T2.setTop (mkF m 9 #[.val (.ref a), .val (.int pn_), .unset] [(.int pn_), (.int (0 : Int32))]))
  obtain ⟨_, _, ⟨T3, L3, k3, n3⟩, -, X3, ⟨Lc3, hQ3, l3, y3, z3⟩, st3⟩ := Jvm.LawKit.callS X2 hx (y := (⟨"java/lang/Math", "max", "(II)I"⟩ : MethodName)) hown (mvT hZ (hw _ (List.mem_of_getElem? (i := 44) rfl))) (mvT hZ (hw _ (List.mem_of_getElem? (i := 45) rfl))) (mvT hZ (hw _ (List.mem_of_getElem? (i := 42) rfl))) (mvT hZ (hw _ (List.mem_of_getElem? (i := 46) rfl))) (by decide) (backOf (W := 0) (rm9 l Z a0 hw [] (0 : Int32) pn_ h0 n0 Z0 ) hZ (hw _ (List.mem_of_getElem? (i := 46) rfl)) (hw _ (List.mem_of_getElem? (i := 42) rfl)) (by decide) (by decide)) (g := (mkF m 9 #[.val (.ref a), .val (.int pn_), .unset] [(.int pn_), (.int (0 : Int32))])) rfl (by rw [hml]; rfl) (argsL := [(.int (0 : Int32)), (.int pn_)]) (rest := []) (lenOf pd_3 rfl) rfl (by show 2 * 0 + _ ≤ _; exact Nat.le_of_eq rfl) (hb hby d6_9) (fun _ _ => ⟨rfl, e2, (by decide : 0 + 0 ≤ _), (by decide : 0 + 0 ≤ _)⟩)
  dsimp only [Pt.U, Pt.locs, Pt.cells, Pt.slots] at X3 l3 y3 z3 st3 hQ3
  subst l3 y3 z3
  obtain ⟨rfl, N3q, e3⟩ := hQ3
  have N3 := Fr.app N2 N3q
  refine own_via st3 ?_
  show own_Go p e below s _ _ _ (T3.setTop (mkF m 12 #[.val (.ref a), .val (.int pn_), .unset] [(.int (own_max (0 : Int32) pn_))]))
  rw [show (own_max (0 : Int32) pn_) = pn_ from own_maxr hp5]
  show own_Go p e below s _ _ _ (T3.setTop (mkF m 12 #[.val (.ref a), .val (.int pn_), .unset] [(.int pn_)]))
  refine own_via (fun _ k => XS.istoreN X3.here hx rfl (hb hby d6_12) rfl (l' := #[.val (.ref a), .val (.int pn_), .val (.int pn_)]) rfl k) ?_
  show own_Go p e below s _ _ _ (T3.setTop (mkF m 13 #[.val (.ref a), .val (.int pn_), .val (.int pn_)] []))
  refine own_via (fun _ k => XS.aloadN X3.here hx rfl (hb hby d6_13) rfl rfl k) ?_
  show own_Go p e below s _ _ _ (T3.setTop (mkF m 14 #[.val (.ref a), .val (.int pn_), .val (.int pn_)] [(.ref a)]))
  refine own_via (fun _ k => XS.dup X3.here hx rfl (hb hby d6_14) rfl rfl k) ?_
  show own_Go p e below s _ _ _ (T3.setTop (mkF m 15 #[.val (.ref a), .val (.int pn_), .val (.int pn_)] [(.ref a), (.ref a)]))
  obtain ⟨T4, X4, e4, st4⟩ := getF X3 hx hZ hown (host := "") (Or.inl (hw _ (List.mem_of_getElem? (i := 26) rfl))) Via.refl e3 F_position_a (g := (mkF m 15 #[.val (.ref a), .val (.int pn_), .val (.int pn_)] [(.ref a), (.ref a)])) rfl rfl (hb hby d6_15)
  refine own_via st4 ?_
  show own_Go p e below s _ _ _ (T4.setTop (mkF m 18 #[.val (.ref a), .val (.int pn_), .val (.int pn_)] [(.int q_), (.ref a)]))
  refine own_via (fun _ k => XS.iloadN X4.here hx rfl (hb hby d6_18) rfl k) ?_
  show own_Go p e below s _ _ _ (T4.setTop (mkF m 19 #[.val (.ref a), .val (.int pn_), .val (.int pn_)] [(.int pn_), (.int q_), (.ref a)]))
  refine own_via (fun _ k => XS.iadd X4.here hx rfl (hb hby d6_19) rfl k) ?_
  show own_Go p e below s _ _ _ (T4.setTop (mkF m 20 #[.val (.ref a), .val (.int pn_), .val (.int pn_)] [(.int (q_ + pn_)), (.ref a)]))
  obtain ⟨T5, h5, X5, e5, W5, st5⟩ := putF X4 hx hZ hown (host := "") (Or.inl (hw _ (List.mem_of_getElem? (i := 26) rfl))) Via.refl e4 F_position_a E_a (Or.inl (hw _ (List.mem_of_getElem? (i := 27) rfl))) (hw _ (List.mem_of_getElem? (i := 3) rfl)) (ty := .int) (by decide) rfl rfl (g := (mkF m 20 #[.val (.ref a), .val (.int pn_), .val (.int pn_)] [(.int (q_ + pn_)), (.ref a)])) rfl rfl (hb hby d6_20)
  have N5 := Fr.snoc X5 N3 g_a
  have Fw5 := F_position_a.same W5
  have Z5 : n0 ≤ h5.size := Nat.le_trans Z0 (Keep.of_wr W5).1
  have K5 : Keep h0 h5 [a] := K0.wr W5 (Or.inl (List.mem_of_getElem? (i := 0) rfl))
  refine own_via st5 ?_
  show own_Go p e below s _ _ _ (T5.setTop (mkF m 23 #[.val (.ref a), .val (.int pn_), .val (.int pn_)] []))
  refine own_via (fun _ k => XS.iloadN X5.here hx rfl (hb hby d6_23) rfl k) ?_
  show own_Go p e below s _ _ _ (T5.setTop (mkF m 24 #[.val (.ref a), .val (.int pn_), .val (.int pn_)] [(.int pn_)]))
  have F6 := (E_a.wr W5)
  have F7 := (F_bytes_a.other W5 (Or.inr (slot_ne (Or.inl (hw _ (List.mem_of_getElem? (i := 12) rfl))) (Or.inl (hw _ (List.mem_of_getElem? (i := 27) rfl))) (by decide) (t := (.array .byte)) (t' := .int) (by decide) (by decide))))
  have F8 := (F_end_a.other W5 (Or.inr (slot_ne (Or.inl (hw _ (List.mem_of_getElem? (i := 29) rfl))) (Or.inl (hw _ (List.mem_of_getElem? (i := 27) rfl))) (by decide) (t := .int) (t' := .int) (by decide) (by decide))))
  exact own_goI X5 hx Bd.returns (hb hby d6_24) Bd.notSynchronized (by decide) (by decide) (by rw [e5]; exact ⟨rfl, N5, K5, F6, F7, Fw5, F8⟩)
theorem d11_0 : decode prog_51_method_20_code 0 = .ok (.iload_n 1, 1) := by decide +kernel
theorem d11_1 : decode prog_51_method_20_code 1 = .ok (.aload_n 0, 1) := by decide +kernel
theorem d11_2 : decode prog_51_method_20_code 2 = .ok (.invokevirtual 40, 3) := by decide +kernel
theorem d11_5 : decode prog_51_method_20_code 5 = .ok (.if_icmp .le 22, 3) := by decide +kernel
theorem d11_27 : decode prog_51_method_20_code 27 = .ok (.aload_n 0, 1) := by decide +kernel
theorem d11_28 : decode prog_51_method_20_code 28 = .ok (.getfield 19, 3) := by decide +kernel
theorem d11_31 : decode prog_51_method_20_code 31 = .ok (.istore_n 2, 1) := by decide +kernel
theorem d11_32 : decode prog_51_method_20_code 32 = .ok (.aload_n 0, 1) := by decide +kernel
theorem d11_33 : decode prog_51_method_20_code 33 = .ok (.dup, 1) := by decide +kernel
theorem d11_34 : decode prog_51_method_20_code 34 = .ok (.getfield 19, 3) := by decide +kernel
theorem d11_37 : decode prog_51_method_20_code 37 = .ok (.iload_n 1, 1) := by decide +kernel
theorem d11_38 : decode prog_51_method_20_code 38 = .ok (.iadd, 1) := by decide +kernel
theorem d11_39 : decode prog_51_method_20_code 39 = .ok (.putfield 19, 3) := by decide +kernel
theorem d11_42 : decode prog_51_method_20_code 42 = .ok (.iload_n 2, 1) := by decide +kernel
theorem d11_43 : decode prog_51_method_20_code 43 = .ok (.ireturn, 1) := by decide +kernel
theorem ef_11 (m : MethodId) (x0 : Addr) (x1 : Int32) : entryFrame m #[(.ref x0), (.int x1)] 3 = mkF m 0 #[.val (.ref x0), .val (.int x1), .unset] [] := by first | (simp [entryFrame, mkF, argsToLocals, Value.category]; done) | rfl
def Q11 (Z : State) (a : Addr) (pn_ : Int32) (e_ : Int32) (q_ : Int32) (ob_ : Value) (h0 : Heap) (n0 : Nat) (v : Option Value) (h : Heap) (L : List Loc) : Prop := v = some (.int q_) ∧ Fr n0 L ∧ Keep h0 h [a] ∧ Exa Z h a "com/example/greenbelt/greenbelt/io/FrameInput" ∧ Fld Z h a "com/example/greenbelt/greenbelt/io/FrameInput" "bytes" "[B" ob_ ∧ Fld Z h a "com/example/greenbelt/greenbelt/io/FrameInput" "position" "I" (.int (q_ + pn_)) ∧ Fld Z h a "com/example/greenbelt/greenbelt/io/FrameInput" "end" "I" (.int e_)
set_option maxRecDepth 65536 in
set_option maxHeartbeats 40000000 in
theorem rm11 (l : Launch) (Z : State) (a0 : Array Value) (hw : ∀ d ∈ tables_1, d.before a0 Z = true) (ws : List Jvm.Cond) (a : Addr) (pn_ : Int32) (e_ : Int32) (q_ : Int32) (ob_ : Value) (h0 : Heap) (n0 : Nat) (Z0 : n0 ≤ h0.size) (E_a : Exa Z h0 a "com/example/greenbelt/greenbelt/io/FrameInput") (F_bytes_a : Fld Z h0 a "com/example/greenbelt/greenbelt/io/FrameInput" "bytes" "[B" ob_) (F_position_a : Fld Z h0 a "com/example/greenbelt/greenbelt/io/FrameInput" "position" "I" (.int q_)) (F_end_a : Fld Z h0 a "com/example/greenbelt/greenbelt/io/FrameInput" "end" "I" (.int e_)) (g_a : n0 ≤ a) (hp5 : ¬ (e_ - q_) < pn_) :
    MetFree l (⟨"com/example/greenbelt/greenbelt/io/FrameInput", "take", "(I)I"⟩ : MethodName) (head1 (Jvm.Cond.code (⟨"com/example/greenbelt/greenbelt/io/FrameInput", "take", "(I)I"⟩ : MethodName) prog_51_method_20_code 3 (some .int) :: ws) ({ frames := 1, cells := 0, slots := 0, locals := 13 } : Room)) (fun q_ U => q_ = #[(.ref a), (.int pn_)] ∧ Z.Warmed39 U.vm ∧ U.heap = h0) (fun _ _ _ _ _ => True) (fun _ U o U' => ∃ v L, o = .returned v ∧ Q11 Z a pn_ e_ q_ ob_ h0 n0 v U'.heap L ∧ FrameEnd U o U' L ({ frames := 1, cells := 0, slots := 0, locals := 13 } : Room).cells ({ frames := 1, cells := 0, slots := 0, locals := 13 } : Room).slots) := by
  refine MetFree.of_bodySF (plainFor_of_name pn_0) hisR ?_
  intro p e s m args below meth c s₁ Bd hml0 hP hK
  obtain ⟨rfl, hZ, hh⟩ := hP
  have hx := Bd.exec
  have hby := Bd.bytes
  have hml : c.maxLocals = 3 := hml0
  have hown : s.vm.findClass "com/example/greenbelt/greenbelt/io/FrameInput" = some m.cls := findClass_of_methodNamed Bd.named
  have hnm := (name_of_methodNamed Bd.named Bd.method).1
  have X0 : Stand p l e ({ frames := 1, cells := 0, slots := 0, locals := 13 } : Room) s m #[(.ref a), (.int pn_)] below meth c s₁ [] 0 0 := Stand.of_body Bd
  have e0 : s₁.heap = h0 := by rw [← hh, Bd.state]; rfl
  have N0 := Fr.nil n0
  show own_Go p e below s (Q11 Z a pn_ e_ q_ ob_ h0 n0) ({ frames := 1, cells := 0, slots := 0, locals := 13 } : Room).cells ({ frames := 1, cells := 0, slots := 0, locals := 13 } : Room).slots (s₁.setTop (entryFrame m #[(.ref a), (.int pn_)] 3))
  refine own_via (fun t k => castTop (ef_11 m a pn_) k) ?_
  have K0 : Keep h0 h0 [a] := Keep.refl _ _
  show own_Go p e below s _ _ _ (s₁.setTop (mkF m 0 #[.val (.ref a), .val (.int pn_), .unset] []))
  refine own_via (fun _ k => XS.iloadN X0.here hx rfl (hb hby d11_0) rfl k) ?_
  show own_Go p e below s _ _ _ (s₁.setTop (mkF m 1 #[.val (.ref a), .val (.int pn_), .unset] [(.int pn_)]))
  refine own_via (fun _ k => XS.aloadN X0.here hx rfl (hb hby d11_1) rfl rfl k) ?_
  show own_Go p e below s _ _ _ (s₁.setTop (mkF m 2 #[.val (.ref a), .val (.int pn_), .unset] [(.ref a), (.int pn_)]))
  obtain ⟨cq1, kq1, qa1, qb1, qc1⟩ := isOf hZ e0 E_a
  obtain ⟨_, _, ⟨T1, L1, k1, n1⟩, -, X1, ⟨Lc1, hQ1, l1, y1, z1⟩, st1⟩ := X0.virtualBack hx (y := (⟨"com/example/greenbelt/greenbelt/io/FrameInput", "remaining", "()I"⟩ : MethodName)) (z := (⟨"com/example/greenbelt/greenbelt/io/FrameInput", "remaining", "()I"⟩ : MethodName)) hown (mvT hZ (hw _ (List.mem_of_getElem? (i := 35) rfl))) (mvT hZ (hw _ (List.mem_of_getElem? (i := 36) rfl))) (notFace_of_selects (args := #[]) (mvT hZ (hw _ (List.mem_of_getElem? (i := 38) rfl)))) (mvT hZ (hw _ (List.mem_of_getElem? (i := 38) rfl))) (mvT hZ (hw _ (List.mem_of_getElem? (i := 37) rfl))) (by decide) (backOf (W := 1) (rm7 l Z a0 hw [] a e_ q_ h0 n0 Z0 F_end_a F_position_a) hZ (hw _ (List.mem_of_getElem? (i := 39) rfl)) (hw _ (List.mem_of_getElem? (i := 4) rfl)) (by decide) (by decide)) qa1 qc1 (g := (mkF m 2 #[.val (.ref a), .val (.int pn_), .unset] [(.ref a), (.int pn_)])) rfl (by rw [hml]; rfl) (Steps.refl _) (argsL := []) (rest := [(.int pn_)]) (lenOf pd_2 rfl) rfl (by show 2 * 0 + _ ≤ _; exact Nat.le_of_eq rfl) (hb hby d11_2) (fun _ _ => ⟨rfl, e0, (by decide : 0 + 0 ≤ _), (by decide : 0 + 0 ≤ _)⟩)
  dsimp only [Pt.U, Pt.locs, Pt.cells, Pt.slots] at X1 l1 y1 z1 st1 hQ1
  subst l1 y1 z1
  obtain ⟨rfl, N1q, e1⟩ := hQ1
  have N1 := Fr.app N0 N1q
  refine own_viaT st1 ?_
  show own_Go p e below s _ _ _ (T1.setTop (mkF m 5 #[.val (.ref a), .val (.int pn_), .unset] [(.int (e_ - q_)), (.int pn_)]))
  have hc2 : ¬ ((e_ - q_) < pn_) := hp5
  refine own_via (fun _ k => XS.icmpYes X1.here hx rfl (pc0 := 5) (pc' := 27) rfl (hb hby d11_5) rfl (Jvm.Free.XT.ii_le_t hc2) (by decide) (by decide) k) ?_
  show own_Go p e below s _ _ _ (T1.setTop (mkF m 27 #[.val (.ref a), .val (.int pn_), .unset] []))
  refine own_via (fun _ k => XS.aloadN X1.here hx rfl (hb hby d11_27) rfl rfl k) ?_
  show own_Go p e below s _ _ _ (T1.setTop (mkF m 28 #[.val (.ref a), .val (.int pn_), .unset] [(.ref a)]))
  obtain ⟨T3, X3, e3, st3⟩ := getF X1 hx hZ hown (host := "") (Or.inl (hw _ (List.mem_of_getElem? (i := 26) rfl))) Via.refl e1 F_position_a (g := (mkF m 28 #[.val (.ref a), .val (.int pn_), .unset] [(.ref a)])) rfl rfl (hb hby d11_28)
  refine own_via st3 ?_
  show own_Go p e below s _ _ _ (T3.setTop (mkF m 31 #[.val (.ref a), .val (.int pn_), .unset] [(.int q_)]))
  refine own_via (fun _ k => XS.istoreN X3.here hx rfl (hb hby d11_31) rfl (l' := #[.val (.ref a), .val (.int pn_), .val (.int q_)]) rfl k) ?_
  show own_Go p e below s _ _ _ (T3.setTop (mkF m 32 #[.val (.ref a), .val (.int pn_), .val (.int q_)] []))
  refine own_via (fun _ k => XS.aloadN X3.here hx rfl (hb hby d11_32) rfl rfl k) ?_
  show own_Go p e below s _ _ _ (T3.setTop (mkF m 33 #[.val (.ref a), .val (.int pn_), .val (.int q_)] [(.ref a)]))
  refine own_via (fun _ k => XS.dup X3.here hx rfl (hb hby d11_33) rfl rfl k) ?_
  show own_Go p e below s _ _ _ (T3.setTop (mkF m 34 #[.val (.ref a), .val (.int pn_), .val (.int q_)] [(.ref a), (.ref a)]))
  obtain ⟨T4, X4, e4, st4⟩ := getF X3 hx hZ hown (host := "") (Or.inl (hw _ (List.mem_of_getElem? (i := 26) rfl))) Via.refl e3 F_position_a (g := (mkF m 34 #[.val (.ref a), .val (.int pn_), .val (.int q_)] [(.ref a), (.ref a)])) rfl rfl (hb hby d11_34)
  refine own_via st4 ?_
  show own_Go p e below s _ _ _ (T4.setTop (mkF m 37 #[.val (.ref a), .val (.int pn_), .val (.int q_)] [(.int q_), (.ref a)]))
  refine own_via (fun _ k => XS.iloadN X4.here hx rfl (hb hby d11_37) rfl k) ?_
  show own_Go p e below s _ _ _ (T4.setTop (mkF m 38 #[.val (.ref a), .val (.int pn_), .val (.int q_)] [(.int pn_), (.int q_), (.ref a)]))
  refine own_via (fun _ k => XS.iadd X4.here hx rfl (hb hby d11_38) rfl k) ?_
  show own_Go p e below s _ _ _ (T4.setTop (mkF m 39 #[.val (.ref a), .val (.int pn_), .val (.int q_)] [(.int (q_ + pn_)), (.ref a)]))
  obtain ⟨T5, h5, X5, e5, W5, st5⟩ := putF X4 hx hZ hown (host := "") (Or.inl (hw _ (List.mem_of_getElem? (i := 26) rfl))) Via.refl e4 F_position_a E_a (Or.inl (hw _ (List.mem_of_getElem? (i := 27) rfl))) (hw _ (List.mem_of_getElem? (i := 3) rfl)) (ty := .int) (by decide) rfl rfl (g := (mkF m 39 #[.val (.ref a), .val (.int pn_), .val (.int q_)] [(.int (q_ + pn_)), (.ref a)])) rfl rfl (hb hby d11_39)
  have N5 := Fr.snoc X5 N1 g_a
  have Fw5 := F_position_a.same W5
  have Z5 : n0 ≤ h5.size := Nat.le_trans Z0 (Keep.of_wr W5).1
  have K5 : Keep h0 h5 [a] := K0.wr W5 (Or.inl (List.mem_of_getElem? (i := 0) rfl))
  refine own_via st5 ?_
  show own_Go p e below s _ _ _ (T5.setTop (mkF m 42 #[.val (.ref a), .val (.int pn_), .val (.int q_)] []))
  refine own_via (fun _ k => XS.iloadN X5.here hx rfl (hb hby d11_42) rfl k) ?_
  show own_Go p e below s _ _ _ (T5.setTop (mkF m 43 #[.val (.ref a), .val (.int pn_), .val (.int q_)] [(.int q_)]))
  have F6 := (E_a.wr W5)
  have F7 := (F_bytes_a.other W5 (Or.inr (slot_ne (Or.inl (hw _ (List.mem_of_getElem? (i := 12) rfl))) (Or.inl (hw _ (List.mem_of_getElem? (i := 27) rfl))) (by decide) (t := (.array .byte)) (t' := .int) (by decide) (by decide))))
  have F8 := (F_end_a.other W5 (Or.inr (slot_ne (Or.inl (hw _ (List.mem_of_getElem? (i := 29) rfl))) (Or.inl (hw _ (List.mem_of_getElem? (i := 27) rfl))) (by decide) (t := .int) (t' := .int) (by decide) (by decide))))
  exact own_goI X5 hx Bd.returns (hb hby d11_43) Bd.notSynchronized (by decide) (by decide) (by rw [e5]; exact ⟨rfl, N5, K5, F6, F7, Fw5, F8⟩)
theorem d10_0 : decode prog_51_method_11_code 0 = .ok (.aload_n 0, 1) := by decide +kernel
theorem d10_1 : decode prog_51_method_11_code 1 = .ok (.iconst 2, 1) := by decide +kernel
theorem pd_4 : parseMethodDescriptor "(I)I" = some ⟨[.int], some .int⟩ := by decide +kernel
theorem d10_2 : decode prog_51_method_11_code 2 = .ok (.invokevirtual 30, 3) := by decide +kernel
theorem d10_5 : decode prog_51_method_11_code 5 = .ok (.istore_n 1, 1) := by decide +kernel
theorem d10_6 : decode prog_51_method_11_code 6 = .ok (.aload_n 0, 1) := by decide +kernel
theorem d10_7 : decode prog_51_method_11_code 7 = .ok (.getfield 7, 3) := by decide +kernel
theorem d10_10 : decode prog_51_method_11_code 10 = .ok (.iload_n 1, 1) := by decide +kernel
theorem d10_11 : decode prog_51_method_11_code 11 = .ok (.baload, 1) := by decide +kernel
theorem d10_12 : decode prog_51_method_11_code 12 = .ok (.sipush 255, 3) := by decide +kernel
theorem d10_15 : decode prog_51_method_11_code 15 = .ok (.iand, 1) := by decide +kernel
theorem d10_16 : decode prog_51_method_11_code 16 = .ok (.bipush 8, 2) := by decide +kernel
theorem d10_18 : decode prog_51_method_11_code 18 = .ok (.ishl, 1) := by decide +kernel
theorem d10_19 : decode prog_51_method_11_code 19 = .ok (.aload_n 0, 1) := by decide +kernel
theorem d10_20 : decode prog_51_method_11_code 20 = .ok (.getfield 7, 3) := by decide +kernel
theorem d10_23 : decode prog_51_method_11_code 23 = .ok (.iload_n 1, 1) := by decide +kernel
theorem d10_24 : decode prog_51_method_11_code 24 = .ok (.iconst 1, 1) := by decide +kernel
theorem d10_25 : decode prog_51_method_11_code 25 = .ok (.iadd, 1) := by decide +kernel
theorem d10_26 : decode prog_51_method_11_code 26 = .ok (.baload, 1) := by decide +kernel
theorem d10_27 : decode prog_51_method_11_code 27 = .ok (.sipush 255, 3) := by decide +kernel
theorem d10_30 : decode prog_51_method_11_code 30 = .ok (.iand, 1) := by decide +kernel
theorem d10_31 : decode prog_51_method_11_code 31 = .ok (.ior, 1) := by decide +kernel
theorem d10_32 : decode prog_51_method_11_code 32 = .ok (.ireturn, 1) := by decide +kernel
theorem ef_10 (m : MethodId) (x0 : Addr) : entryFrame m #[(.ref x0)] 2 = mkF m 0 #[.val (.ref x0), .unset] [] := by first | (simp [entryFrame, mkF, argsToLocals, Value.category]; done) | rfl
def Q10 (Z : State) (a : Addr) (b_ : Addr) (q_ : Int32) (e_ : Int32) (k_ : ClassId) (z_ : Int32) (vs_ : List Value) (d_ : Value) (u0 : Int32) (u1 : Int32) (h0 : Heap) (n0 : Nat) (v : Option Value) (h : Heap) (L : List Loc) : Prop := v = some (.int ((o_ishl (u0 &&& (255 : Int32)) (8 : Int32)) ||| (u1 &&& (255 : Int32)))) ∧ Fr n0 L ∧ Keep h0 h [a] ∧ Exa Z h a "com/example/greenbelt/greenbelt/io/FrameInput" ∧ Fld Z h a "com/example/greenbelt/greenbelt/io/FrameInput" "bytes" "[B" (.ref b_) ∧ Fld Z h a "com/example/greenbelt/greenbelt/io/FrameInput" "position" "I" (.int (q_ + (2 : Int32))) ∧ Fld Z h a "com/example/greenbelt/greenbelt/io/FrameInput" "end" "I" (.int e_)
set_option maxRecDepth 65536 in
set_option maxHeartbeats 40000000 in
theorem rm10 (l : Launch) (Z : State) (a0 : Array Value) (hw : ∀ d ∈ tables_1, d.before a0 Z = true) (ws : List Jvm.Cond) (a : Addr) (b_ : Addr) (q_ : Int32) (e_ : Int32) (k_ : ClassId) (z_ : Int32) (vs_ : List Value) (d_ : Value) (u0 : Int32) (u1 : Int32) (h0 : Heap) (n0 : Nat) (Z0 : n0 ≤ h0.size) (E_a : Exa Z h0 a "com/example/greenbelt/greenbelt/io/FrameInput") (F_bytes_a : Fld Z h0 a "com/example/greenbelt/greenbelt/io/FrameInput" "bytes" "[B" (.ref b_)) (F_position_a : Fld Z h0 a "com/example/greenbelt/greenbelt/io/FrameInput" "position" "I" (.int q_)) (F_end_a : Fld Z h0 a "com/example/greenbelt/greenbelt/io/FrameInput" "end" "I" (.int e_)) (g_a : n0 ≤ a) (V_b_ : Arv Z h0 b_ k_ .byte z_ vs_ d_) (hp6 : ¬ (e_ - q_) < (2 : Int32)) (hp7 : ¬ q_ < 0 ∧ q_ < z_) (hp8 : ¬ (q_ + (1 : Int32)) < 0 ∧ (q_ + (1 : Int32)) < z_) (hp9 : vs_.getD (q_).toNatClampNeg d_ = (.int u0)) (hp10 : vs_.getD ((q_ + (1 : Int32))).toNatClampNeg d_ = (.int u1)) (ne_b__a : b_ ≠ a) :
    MetFree l (⟨"com/example/greenbelt/greenbelt/io/FrameInput", "readUnsignedShort", "()I"⟩ : MethodName) (head1 (Jvm.Cond.code (⟨"com/example/greenbelt/greenbelt/io/FrameInput", "readUnsignedShort", "()I"⟩ : MethodName) prog_51_method_11_code 2 (some .int) :: ws) ({ frames := 2, cells := 0, slots := 0, locals := 27 } : Room)) (fun q_ U => q_ = #[(.ref a)] ∧ Z.Warmed39 U.vm ∧ U.heap = h0) (fun _ _ _ _ _ => True) (fun _ U o U' => ∃ v L, o = .returned v ∧ Q10 Z a b_ q_ e_ k_ z_ vs_ d_ u0 u1 h0 n0 v U'.heap L ∧ FrameEnd U o U' L ({ frames := 2, cells := 0, slots := 0, locals := 27 } : Room).cells ({ frames := 2, cells := 0, slots := 0, locals := 27 } : Room).slots) := by
  refine MetFree.of_bodySF (plainFor_of_name pn_0) hisR ?_
  intro p e s m args below meth c s₁ Bd hml0 hP hK
  obtain ⟨rfl, hZ, hh⟩ := hP
  have hx := Bd.exec
  have hby := Bd.bytes
  have hml : c.maxLocals = 2 := hml0
  have hown : s.vm.findClass "com/example/greenbelt/greenbelt/io/FrameInput" = some m.cls := findClass_of_methodNamed Bd.named
  have hnm := (name_of_methodNamed Bd.named Bd.method).1
  have X0 : Stand p l e ({ frames := 2, cells := 0, slots := 0, locals := 27 } : Room) s m #[(.ref a)] below meth c s₁ [] 0 0 := Stand.of_body Bd
  have e0 : s₁.heap = h0 := by rw [← hh, Bd.state]; rfl
  have N0 := Fr.nil n0
  show own_Go p e below s (Q10 Z a b_ q_ e_ k_ z_ vs_ d_ u0 u1 h0 n0) ({ frames := 2, cells := 0, slots := 0, locals := 27 } : Room).cells ({ frames := 2, cells := 0, slots := 0, locals := 27 } : Room).slots (s₁.setTop (entryFrame m #[(.ref a)] 2))
  refine own_via (fun t k => castTop (ef_10 m a) k) ?_
  have K0 : Keep h0 h0 [a] := Keep.refl _ _
  show own_Go p e below s _ _ _ (s₁.setTop (mkF m 0 #[.val (.ref a), .unset] []))
  refine own_via (fun _ k => XS.aloadN X0.here hx rfl (hb hby d10_0) rfl rfl k) ?_
  show own_Go p e below s _ _ _ (s₁.setTop (mkF m 1 #[.val (.ref a), .unset] [(.ref a)]))
  refine own_via (fun _ k => XS.iconst X0.here hx rfl (hb hby d10_1) k) ?_
  show own_Go p e below s _ _ _ (s₁.setTop (mkF m 2 #[.val (.ref a), .unset] [(.int (2 : Int32)), (.ref a)]))
  obtain ⟨cq1, qa1, qb1⟩ := E_a.cell
  obtain ⟨_, _, ⟨T1, L1, k1, n1⟩, -, X1, ⟨Lc1, hQ1, l1, y1, z1⟩, st1⟩ := X0.privateBack hx (y := (⟨"com/example/greenbelt/greenbelt/io/FrameInput", "take", "(I)I"⟩ : MethodName)) hown (mvT hZ (hw _ (List.mem_of_getElem? (i := 52) rfl))) (mvT hZ (hw _ (List.mem_of_getElem? (i := 53) rfl))) (own_selP (y' := (⟨"com/example/greenbelt/greenbelt/io/FrameInput", "reset", "([BI)V"⟩ : MethodName)) (mvT hZ (hw _ (List.mem_of_getElem? (i := 16) rfl))) rfl (Cond.privateMethod_at (mvP hZ (hw _ (List.mem_of_getElem? (i := 54) rfl)) (args := #[]))) (mvT hZ (hw _ (List.mem_of_getElem? (i := 53) rfl))) (by decide)) (Cond.privateMethod_at (mvP hZ (hw _ (List.mem_of_getElem? (i := 54) rfl)) (args := #[]))) (mvT hZ (hw _ (List.mem_of_getElem? (i := 55) rfl))) (by decide) (backOf (W := 0) (rm11 l Z a0 hw [] a (2 : Int32) e_ q_ (.ref b_) h0 n0 Z0 E_a F_bytes_a F_position_a F_end_a g_a hp6) hZ (hw _ (List.mem_of_getElem? (i := 55) rfl)) (hw _ (List.mem_of_getElem? (i := 4) rfl)) (by decide) (by decide)) (g := (mkF m 2 #[.val (.ref a), .unset] [(.int (2 : Int32)), (.ref a)])) rfl (by rw [hml]; rfl) (Steps.refl _) (a := a) (by rw [e0]; exact qa1) qb1 (argsL := [(.int (2 : Int32))]) (rest := []) (lenOf pd_4 rfl) rfl (by show 2 * 0 + _ ≤ _; exact Nat.le_of_eq rfl) (hb hby d10_2) (fun _ _ => ⟨rfl, e0, (by decide : 0 + 0 ≤ _), (by decide : 0 + 0 ≤ _)⟩)
  dsimp only [Pt.U, Pt.locs, Pt.cells, Pt.slots] at X1 l1 y1 z1 st1 hQ1
  subst l1 y1 z1
  obtain ⟨h1, e1⟩ : ∃ h, T1.heap = h := ⟨_, rfl⟩
  rw [e1] at hQ1
  obtain ⟨rfl, N1q, Kq1, F2, F3, F4, F5⟩ := hQ1
  have Z1 : n0 ≤ h1.size := Nat.le_trans Z0 Kq1.1
  have K1 : Keep h0 h1 [a] := K0.trans Kq1 (allS (Or.inl (List.mem_of_getElem? (i := 0) rfl)) all0)
  have N1 := Fr.app N0 N1q
  refine own_viaT st1 ?_
  show own_Go p e below s _ _ _ (T1.setTop (mkF m 5 #[.val (.ref a), .unset] [(.int q_)]))
  refine own_via (fun _ k => XS.istoreN X1.here hx rfl (hb hby d10_5) rfl (l' := #[.val (.ref a), .val (.int q_)]) rfl k) ?_
  show own_Go p e below s _ _ _ (T1.setTop (mkF m 6 #[.val (.ref a), .val (.int q_)] []))
  refine own_via (fun _ k => XS.aloadN X1.here hx rfl (hb hby d10_6) rfl rfl k) ?_
  show own_Go p e below s _ _ _ (T1.setTop (mkF m 7 #[.val (.ref a), .val (.int q_)] [(.ref a)]))
  obtain ⟨T6, X6, e6, st6⟩ := getF X1 hx hZ hown (host := "") (Or.inl (hw _ (List.mem_of_getElem? (i := 11) rfl))) Via.refl e1 F3 (g := (mkF m 7 #[.val (.ref a), .val (.int q_)] [(.ref a)])) rfl rfl (hb hby d10_7)
  refine own_via st6 ?_
  show own_Go p e below s _ _ _ (T6.setTop (mkF m 10 #[.val (.ref a), .val (.int q_)] [(.ref b_)]))
  refine own_via (fun _ k => XS.iloadN X6.here hx rfl (hb hby d10_10) rfl k) ?_
  show own_Go p e below s _ _ _ (T6.setTop (mkF m 11 #[.val (.ref a), .val (.int q_)] [(.int q_), (.ref b_)]))
  have F8 := (V_b_.keep Kq1 (ninS ne_b__a nin0))
  obtain ⟨cl7, Ar7, q7, S7, M7, H7, G7⟩ := (id F8)
  have hin7 : ¬ (q_ < 0 ∨ cl7.slots.size ≤ (q_).toNatClampNeg) := inb_of S7 hp7
  have hat7 : cl7.slots[(q_).toNatClampNeg]? = some (.int u0) := Has.at H7 hin7 hp9
  refine own_via (fun _ k => X6.baloadBytes hx (j := q_) (v := (.int u0)) (by rw [e6]; exact Ar7.1) (State.isArrayOf_alike hZ.alike Ar7.2.1) Ar7.2.2 hin7 hat7 (g := (mkF m 11 #[.val (.ref a), .val (.int q_)] [(.int q_), (.ref b_)])) rfl rfl (hb hby d10_11) _ k) ?_
  show own_Go p e below s _ _ _ (T6.setTop (mkF m 12 #[.val (.ref a), .val (.int q_)] [(.int u0)]))
  refine own_via (fun _ k => XS.sipush X6.here hx rfl (hb hby d10_12) k) ?_
  show own_Go p e below s _ _ _ (T6.setTop (mkF m 15 #[.val (.ref a), .val (.int q_)] [(.int (255 : Int32)), (.int u0)]))
  refine own_via (fun _ k => XS.iand X6.here hx rfl (hb hby d10_15) rfl k) ?_
  show own_Go p e below s _ _ _ (T6.setTop (mkF m 16 #[.val (.ref a), .val (.int q_)] [(.int (u0 &&& (255 : Int32)))]))
  refine own_via (fun _ k => XS.bipush X6.here hx rfl (hb hby d10_16) k) ?_
  show own_Go p e below s _ _ _ (T6.setTop (mkF m 18 #[.val (.ref a), .val (.int q_)] [(.int (8 : Int32)), (.int (u0 &&& (255 : Int32)))]))
  refine own_via (fun _ k => XS.ishl X6.here hx rfl (hb hby d10_18) rfl k) ?_
  show own_Go p e below s _ _ _ (T6.setTop (mkF m 19 #[.val (.ref a), .val (.int q_)] [(.int (o_ishl (u0 &&& (255 : Int32)) (8 : Int32)))]))
  refine own_via (fun _ k => XS.aloadN X6.here hx rfl (hb hby d10_19) rfl rfl k) ?_
  show own_Go p e below s _ _ _ (T6.setTop (mkF m 20 #[.val (.ref a), .val (.int q_)] [(.ref a), (.int (o_ishl (u0 &&& (255 : Int32)) (8 : Int32)))]))
  obtain ⟨T9, X9, e9, st9⟩ := getF X6 hx hZ hown (host := "") (Or.inl (hw _ (List.mem_of_getElem? (i := 11) rfl))) Via.refl e6 F3 (g := (mkF m 20 #[.val (.ref a), .val (.int q_)] [(.ref a), (.int (o_ishl (u0 &&& (255 : Int32)) (8 : Int32)))])) rfl rfl (hb hby d10_20)
  refine own_via st9 ?_
  show own_Go p e below s _ _ _ (T9.setTop (mkF m 23 #[.val (.ref a), .val (.int q_)] [(.ref b_), (.int (o_ishl (u0 &&& (255 : Int32)) (8 : Int32)))]))
  refine own_via (fun _ k => XS.iloadN X9.here hx rfl (hb hby d10_23) rfl k) ?_
  show own_Go p e below s _ _ _ (T9.setTop (mkF m 24 #[.val (.ref a), .val (.int q_)] [(.int q_), (.ref b_), (.int (o_ishl (u0 &&& (255 : Int32)) (8 : Int32)))]))
  refine own_via (fun _ k => XS.iconst X9.here hx rfl (hb hby d10_24) k) ?_
  show own_Go p e below s _ _ _ (T9.setTop (mkF m 25 #[.val (.ref a), .val (.int q_)] [(.int (1 : Int32)), (.int q_), (.ref b_), (.int (o_ishl (u0 &&& (255 : Int32)) (8 : Int32)))]))
  refine own_via (fun _ k => XS.iadd X9.here hx rfl (hb hby d10_25) rfl k) ?_
  show own_Go p e below s _ _ _ (T9.setTop (mkF m 26 #[.val (.ref a), .val (.int q_)] [(.int (q_ + (1 : Int32))), (.ref b_), (.int (o_ishl (u0 &&& (255 : Int32)) (8 : Int32)))]))
  obtain ⟨cl10, Ar10, q10, S10, M10, H10, G10⟩ := (id F8)
  have hin10 : ¬ ((q_ + (1 : Int32)) < 0 ∨ cl10.slots.size ≤ ((q_ + (1 : Int32))).toNatClampNeg) := inb_of S10 hp8
  have hat10 : cl10.slots[((q_ + (1 : Int32))).toNatClampNeg]? = some (.int u1) := Has.at H10 hin10 hp10
  refine own_via (fun _ k => X9.baloadBytes hx (j := (q_ + (1 : Int32))) (v := (.int u1)) (by rw [e9]; exact Ar10.1) (State.isArrayOf_alike hZ.alike Ar10.2.1) Ar10.2.2 hin10 hat10 (g := (mkF m 26 #[.val (.ref a), .val (.int q_)] [(.int (q_ + (1 : Int32))), (.ref b_), (.int (o_ishl (u0 &&& (255 : Int32)) (8 : Int32)))])) rfl rfl (hb hby d10_26) _ k) ?_
  show own_Go p e below s _ _ _ (T9.setTop (mkF m 27 #[.val (.ref a), .val (.int q_)] [(.int u1), (.int (o_ishl (u0 &&& (255 : Int32)) (8 : Int32)))]))
  refine own_via (fun _ k => XS.sipush X9.here hx rfl (hb hby d10_27) k) ?_
  show own_Go p e below s _ _ _ (T9.setTop (mkF m 30 #[.val (.ref a), .val (.int q_)] [(.int (255 : Int32)), (.int u1), (.int (o_ishl (u0 &&& (255 : Int32)) (8 : Int32)))]))
  refine own_via (fun _ k => XS.iand X9.here hx rfl (hb hby d10_30) rfl k) ?_
  show own_Go p e below s _ _ _ (T9.setTop (mkF m 31 #[.val (.ref a), .val (.int q_)] [(.int (u1 &&& (255 : Int32))), (.int (o_ishl (u0 &&& (255 : Int32)) (8 : Int32)))]))
  refine own_via (fun _ k => XS.ior X9.here hx rfl (hb hby d10_31) rfl k) ?_
  show own_Go p e below s _ _ _ (T9.setTop (mkF m 32 #[.val (.ref a), .val (.int q_)] [(.int ((o_ishl (u0 &&& (255 : Int32)) (8 : Int32)) ||| (u1 &&& (255 : Int32))))]))
  exact own_goI X9 hx Bd.returns (hb hby d10_32) Bd.notSynchronized (by decide) (by decide) (by rw [e9]; exact ⟨rfl, N1, K1, F2, F3, F4, F5⟩)

theorem own_len (x : Int32) {v : Int32} (h : ((2 : Int32) + (o_irem (x &&& (2147483647 : Int32)) (3 : Int32))) = v) : v = (2 : Int32) ∨ v = (3 : Int32) ∨ v = (4 : Int32) := by
  have m0 := (c_and x 2147483647 (by decide)).1
  have m1 : o_irem (x &&& (2147483647 : Int32)) (3 : Int32) = (x &&& (2147483647 : Int32)) % 3 := irem_eq_mod _ _
  have m2 := (c_irem (x &&& (2147483647 : Int32)) 3 3 rfl).1 m0
  rw [← m1] at m2
  have m3 := c_iadd 2 (o_irem (x &&& (2147483647 : Int32)) (3 : Int32))
  rw [h] at m3
  have := rng32 v
  simp only [← Int32.toInt_inj, Int32.reduceToInt] at *
  omega
theorem own_sk (x n : Int32) {v : Int32} (h : (o_irem (x &&& (2147483647 : Int32)) n) = v) (hn : n = 1 ∨ n = 2 ∨ n = 3) : v = (0 : Int32) ∨ (v = (1 : Int32) ∧ n ≠ 1) ∨ (v = (2 : Int32) ∧ n = 3) := by
  have m0 := (c_and x 2147483647 (by decide)).1
  have m1 : o_irem (x &&& (2147483647 : Int32)) n = (x &&& (2147483647 : Int32)) % n := irem_eq_mod _ _
  rcases hn with rfl | rfl | rfl
  · have m2 := (c_irem (x &&& (2147483647 : Int32)) 1 1 rfl).1 m0
    rw [← m1, h] at m2
    left; simp only [← Int32.toInt_inj, Int32.reduceToInt] at *; omega
  · have m2 := (c_irem (x &&& (2147483647 : Int32)) 2 2 rfl).1 m0
    rw [← m1, h] at m2
    have : v = 0 ∨ v = 1 := by simp only [← Int32.toInt_inj, Int32.reduceToInt] at *; omega
    rcases this with q | q
    · exact Or.inl q
    · exact Or.inr (Or.inl ⟨q, by decide⟩)
  · have m2 := (c_irem (x &&& (2147483647 : Int32)) 3 3 rfl).1 m0
    rw [← m1, h] at m2
    have : v = 0 ∨ v = 1 ∨ v = 2 := by simp only [← Int32.toInt_inj, Int32.reduceToInt] at *; omega
    rcases this with q | q | q
    · exact Or.inl q
    · exact Or.inr (Or.inl ⟨q, by decide⟩)
    · exact Or.inr (Or.inr ⟨q, rfl⟩)
theorem own_sk1 (x : Int32) {v : Int32} (h : (o_irem (x &&& (2147483647 : Int32)) 1) = v) : v = (0 : Int32) := by
  rcases own_sk x 1 h (by decide) with q | ⟨-, q⟩ | ⟨-, q⟩
  · exact q
  · exact absurd rfl q
  · exact absurd q (by decide)
theorem own_sk2 (x : Int32) {v : Int32} (h : (o_irem (x &&& (2147483647 : Int32)) 2) = v) : v = (0 : Int32) ∨ v = (1 : Int32) := by
  rcases own_sk x 2 h (by decide) with q | ⟨q, -⟩ | ⟨-, q⟩
  · exact Or.inl q
  · exact Or.inr q
  · exact absurd q (by decide)
theorem own_sk3 (x : Int32) {v : Int32} (h : (o_irem (x &&& (2147483647 : Int32)) 3) = v) : v = (0 : Int32) ∨ v = (1 : Int32) ∨ v = (2 : Int32) := by
  rcases own_sk x 3 h (by decide) with q | ⟨q, -⟩ | ⟨q, -⟩
  · exact Or.inl q
  · exact Or.inr (Or.inl q)
  · exact Or.inr (Or.inr q)
theorem own_two (a x y : Int32) (q : Int32) (k : Nat) (hk : own_n q % 32 = k) (hk2 : k ≤ 16) (hx : own_n x % 256 = own_n a / 2 ^ (k + 8) % 256) (hy : own_n y % 256 = own_n a / 2 ^ k % 256) : ((o_ishl ((nar .byte (o_i2b x)) &&& (255 : Int32)) (8 : Int32)) ||| ((nar .byte (o_i2b y)) &&& (255 : Int32))) = (o_iushr a q) &&& (65535 : Int32) := by
  rw [own_nb, own_nb, own_n_inj, own_n_or, own_n_ishl _ 8 8 rfl, own_n_ff, own_n_ff, own_i2b_n, own_i2b_n, hx, hy, own_n_and, own_n_iushr a q k hk, show own_n (65535 : Int32) = 2 ^ 16 - 1 from rfl, own_mask]
  have h1 : own_n a / 2 ^ (k + 8) % 256 * 2 ^ 8 % 4294967296 = own_n a / 2 ^ (k + 8) % 256 * 2 ^ 8 := Nat.mod_eq_of_lt (by omega)
  rw [h1, Nat.or_comm, own_or_add (k := 8) (by omega), Nat.pow_add, ← Nat.div_div_eq_div_mul]
  omega
theorem own_rg {a q v w : Int32} (h : ((o_iushr a q) &&& (65535 : Int32)) = w) (h2 : v = w) : ¬ v < (0 : Int32) ∧ ¬ (65535 : Int32) < v := by
  subst h2 h
  have := c_and (o_iushr a q) 65535 (by decide)
  simp only [Int32.lt_iff_toInt_lt, Int32.reduceToInt] at *
  omega
theorem own_t0 (a : Int32) : ((o_ishl ((nar .byte (o_i2b (o_iushr a (24 : Int32)))) &&& (255 : Int32)) (8 : Int32)) ||| ((nar .byte (o_i2b (o_iushr a (16 : Int32)))) &&& (255 : Int32))) = (o_iushr a (16 : Int32)) &&& (65535 : Int32) := own_two a _ _ 16 16 rfl (by decide) (by rw [own_n_iushr a 24 24 rfl]) (by rw [own_n_iushr a 16 16 rfl])
theorem own_t1 (a : Int32) : ((o_ishl ((nar .byte (o_i2b (o_iushr a (16 : Int32)))) &&& (255 : Int32)) (8 : Int32)) ||| ((nar .byte (o_i2b (o_iushr a (8 : Int32)))) &&& (255 : Int32))) = (o_iushr a (8 : Int32)) &&& (65535 : Int32) := own_two a _ _ 8 8 rfl (by decide) (by rw [own_n_iushr a 16 16 rfl]) (by rw [own_n_iushr a 8 8 rfl])
theorem own_t2 (a : Int32) : ((o_ishl ((nar .byte (o_i2b (o_iushr a (8 : Int32)))) &&& (255 : Int32)) (8 : Int32)) ||| ((nar .byte (o_i2b a)) &&& (255 : Int32))) = (o_iushr a (0 : Int32)) &&& (65535 : Int32) := own_two a _ _ 0 0 rfl (by decide) (by rw [own_n_iushr a 8 8 rfl]) (by simp)

theorem pd_5 : parseMethodDescriptor "()V" = some ⟨[], none⟩ := by decide +kernel
theorem pd_6 : parseMethodDescriptor "([BI)V" = some ⟨[(.array .byte), .int], none⟩ := by decide +kernel
theorem pn_3 : plainName "com/example/greenbelt/greenbelt/io/FrameInputReadUnsignedShortPinLaw" = true := by first | (simp [plainName, overriddenIn]; done) | decide +kernel
theorem ef_0 (m : MethodId) (x0 : Int32) (x1 : Int32) (x2 : Int32) : entryFrame m #[(.int x0), (.int x1), (.int x2)] maxLocals = mkF m 0 #[.val (.int x0), .val (.int x1), .val (.int x2), .unset, .unset, .unset, .unset, .unset, .unset, .unset, .unset] [] := by first | (simp [entryFrame, mkF, argsToLocals, Value.category, maxLocals]; done) | rfl
def Q0 (Z : State) (p0 : Int32) (p1 : Int32) (p2 : Int32) (h0 : Heap) (n0 : Nat) (v : Option Value) (h : Heap) (L : List Loc) : Prop := v = some (.int 1) ∧ Fr n0 L
set_option maxRecDepth 65536 in
set_option maxHeartbeats 40000000 in
theorem rm0 (l : Launch) (Z : State) (a0 : Array Value) (hw : ∀ d ∈ tables_1, d.before a0 Z = true) (ws : List Jvm.Cond) (p0 : Int32) (p1 : Int32) (p2 : Int32) (h0 : Heap) (n0 : Nat) (Z0 : n0 ≤ h0.size) :
    MetFree l x (head1 (Jvm.Cond.code x code maxLocals ret :: ws) room_1) (fun q_ U => q_ = #[(.int p0), (.int p1), (.int p2)] ∧ Z.Warmed39 U.vm ∧ U.heap = h0) (fun _ _ _ _ _ => True) (fun _ U o U' => ∃ v L, o = .returned v ∧ Q0 Z p0 p1 p2 h0 n0 v U'.heap L ∧ FrameEnd U o U' L room_1.cells room_1.slots) := by
  refine MetFree.of_bodySF (plainFor_of_name pn_3) hisR ?_
  intro p e s m args below meth c s₁ Bd hml0 hP hK
  obtain ⟨rfl, hZ, hh⟩ := hP
  have hx := Bd.exec
  have hby := Bd.bytes
  have hml : c.maxLocals = 11 := hml0
  have hown : s.vm.findClass "com/example/greenbelt/greenbelt/io/FrameInputReadUnsignedShortPinLaw" = some m.cls := findClass_of_methodNamed Bd.named
  have hnm := (name_of_methodNamed Bd.named Bd.method).1
  have X0 : Stand p l e room_1 s m #[(.int p0), (.int p1), (.int p2)] below meth c s₁ [] 0 0 := Stand.of_body Bd
  have e0 : s₁.heap = h0 := by rw [← hh, Bd.state]; rfl
  have N0 := Fr.nil n0
  show own_Go p e below s (Q0 Z p0 p1 p2 h0 n0) room_1.cells room_1.slots (s₁.setTop (entryFrame m #[(.int p0), (.int p1), (.int p2)] maxLocals))
  refine own_via (fun t k => castTop (ef_0 m p0 p1 p2) k) ?_
  show own_Go p e below s _ _ _ (s₁.setTop (mkF m 0 #[.val (.int p0), .val (.int p1), .val (.int p2), .unset, .unset, .unset, .unset, .unset, .unset, .unset, .unset] []))
  refine own_via (fun _ k => XS.iconst X0.here hx rfl (hb hby at_0) k) ?_
  show own_Go p e below s _ _ _ (s₁.setTop (mkF m 1 #[.val (.int p0), .val (.int p1), .val (.int p2), .unset, .unset, .unset, .unset, .unset, .unset, .unset, .unset] [(.int (4 : Int32))]))
  obtain ⟨T1, h1, k1, X1, e1, E1, A1, st1⟩ := newP X0 hx hZ (hw _ (List.mem_of_getElem? (i := 0) rfl)) e0 (g := (mkF m 1 #[.val (.int p0), .val (.int p1), .val (.int p2), .unset, .unset, .unset, .unset, .unset, .unset, .unset, .unset] [(.int (4 : Int32))])) rfl (hb hby at_1) rfl (by decide) (cap := 4) (by decide) (by decide) (by decide) (by decide)
  obtain ⟨b1, gg1⟩ : ∃ z, z = h0.size := ⟨_, rfl⟩
  rw [← gg1] at A1 st1
  have g_b1 : n0 ≤ b1 := Nat.le_trans Z0 (Nat.le_of_eq gg1.symm)
  have Z1 : n0 ≤ h1.size := Nat.le_trans Z0 E1.1
  have V1 : Arv Z h1 b1 k1 .byte (4 : Int32) [(.int (0 : Int32)), (.int (0 : Int32)), (.int (0 : Int32)), (.int (0 : Int32))] (.int (0 : Int32)) := (Arv.new A1 (by decide)).pad (pad_rep [] (.int (0 : Int32)) 4)
  refine own_via st1 ?_
  show own_Go p e below s _ _ _ (T1.setTop (mkF m 3 #[.val (.int p0), .val (.int p1), .val (.int p2), .unset, .unset, .unset, .unset, .unset, .unset, .unset, .unset] [(.ref b1)]))
  refine own_via (fun _ k => XS.astoreN X1.here hx rfl (hb hby at_3) rfl rfl (l' := #[.val (.int p0), .val (.int p1), .val (.int p2), .val (.ref b1), .unset, .unset, .unset, .unset, .unset, .unset, .unset]) rfl k) ?_
  show own_Go p e below s _ _ _ (T1.setTop (mkF m 4 #[.val (.int p0), .val (.int p1), .val (.int p2), .val (.ref b1), .unset, .unset, .unset, .unset, .unset, .unset, .unset] []))
  refine own_via (fun _ k => XS.aloadN X1.here hx rfl (hb hby at_4) rfl rfl k) ?_
  show own_Go p e below s _ _ _ (T1.setTop (mkF m 5 #[.val (.int p0), .val (.int p1), .val (.int p2), .val (.ref b1), .unset, .unset, .unset, .unset, .unset, .unset, .unset] [(.ref b1)]))
  refine own_via (fun _ k => XS.iconst X1.here hx rfl (hb hby at_5) k) ?_
  show own_Go p e below s _ _ _ (T1.setTop (mkF m 6 #[.val (.int p0), .val (.int p1), .val (.int p2), .val (.ref b1), .unset, .unset, .unset, .unset, .unset, .unset, .unset] [(.int (0 : Int32)), (.ref b1)]))
  refine own_via (fun _ k => XS.iloadN X1.here hx rfl (hb hby at_6) rfl k) ?_
  show own_Go p e below s _ _ _ (T1.setTop (mkF m 7 #[.val (.int p0), .val (.int p1), .val (.int p2), .val (.ref b1), .unset, .unset, .unset, .unset, .unset, .unset, .unset] [(.int p0), (.int (0 : Int32)), (.ref b1)]))
  refine own_via (fun _ k => XS.bipush X1.here hx rfl (hb hby at_7) k) ?_
  show own_Go p e below s _ _ _ (T1.setTop (mkF m 9 #[.val (.int p0), .val (.int p1), .val (.int p2), .val (.ref b1), .unset, .unset, .unset, .unset, .unset, .unset, .unset] [(.int (24 : Int32)), (.int p0), (.int (0 : Int32)), (.ref b1)]))
  refine own_via (fun _ k => XS.iushr X1.here hx rfl (hb hby at_9) rfl k) ?_
  show own_Go p e below s _ _ _ (T1.setTop (mkF m 10 #[.val (.int p0), .val (.int p1), .val (.int p2), .val (.ref b1), .unset, .unset, .unset, .unset, .unset, .unset, .unset] [(.int (o_iushr p0 (24 : Int32))), (.int (0 : Int32)), (.ref b1)]))
  refine own_via (fun _ k => XS.i2b X1.here hx rfl (hb hby at_10) rfl k) ?_
  show own_Go p e below s _ _ _ (T1.setTop (mkF m 11 #[.val (.int p0), .val (.int p1), .val (.int p2), .val (.ref b1), .unset, .unset, .unset, .unset, .unset, .unset, .unset] [(.int (o_i2b (o_iushr p0 (24 : Int32)))), (.int (0 : Int32)), (.ref b1)]))
  obtain ⟨cl2, Ar2, q2, S2, M2, H2, G2⟩ := (id V1)
  have hin2 : ¬ ((0 : Int32) < 0 ∨ cl2.slots.size ≤ ((0 : Int32)).toNatClampNeg) := inb_of S2 ⟨by decide, by decide⟩
  obtain ⟨T2, h2, X2, e2, W2, st2⟩ := stB X1 hx hZ e1 Ar2 (j := (0 : Int32)) hin2 (g := (mkF m 11 #[.val (.int p0), .val (.int p1), .val (.int p2), .val (.ref b1), .unset, .unset, .unset, .unset, .unset, .unset, .unset] [(.int (o_i2b (o_iushr p0 (24 : Int32)))), (.int (0 : Int32)), (.ref b1)])) rfl rfl (hb hby at_11)
  have V2 : Arv Z h2 b1 k1 .byte (4 : Int32) [(.int (nar .byte (o_i2b (o_iushr p0 (24 : Int32))))), (.int (0 : Int32)), (.int (0 : Int32)), (.int (0 : Int32))] (.int (0 : Int32)) := Arv.set Ar2 q2 S2 M2 H2 G2 (fits_nar_byte _) W2 0 rfl (Nat.le_of_ble_eq_true rfl)
  have N2 := Fr.snoc X2 N0 g_b1
  have Z2 : n0 ≤ h2.size := Nat.le_trans Z1 (Keep.of_wr W2).1
  refine own_via st2 ?_
  show own_Go p e below s _ _ _ (T2.setTop (mkF m 12 #[.val (.int p0), .val (.int p1), .val (.int p2), .val (.ref b1), .unset, .unset, .unset, .unset, .unset, .unset, .unset] []))
  refine own_via (fun _ k => XS.aloadN X2.here hx rfl (hb hby at_12) rfl rfl k) ?_
  show own_Go p e below s _ _ _ (T2.setTop (mkF m 13 #[.val (.int p0), .val (.int p1), .val (.int p2), .val (.ref b1), .unset, .unset, .unset, .unset, .unset, .unset, .unset] [(.ref b1)]))
  refine own_via (fun _ k => XS.iconst X2.here hx rfl (hb hby at_13) k) ?_
  show own_Go p e below s _ _ _ (T2.setTop (mkF m 14 #[.val (.int p0), .val (.int p1), .val (.int p2), .val (.ref b1), .unset, .unset, .unset, .unset, .unset, .unset, .unset] [(.int (1 : Int32)), (.ref b1)]))
  refine own_via (fun _ k => XS.iloadN X2.here hx rfl (hb hby at_14) rfl k) ?_
  show own_Go p e below s _ _ _ (T2.setTop (mkF m 15 #[.val (.int p0), .val (.int p1), .val (.int p2), .val (.ref b1), .unset, .unset, .unset, .unset, .unset, .unset, .unset] [(.int p0), (.int (1 : Int32)), (.ref b1)]))
  refine own_via (fun _ k => XS.bipush X2.here hx rfl (hb hby at_15) k) ?_
  show own_Go p e below s _ _ _ (T2.setTop (mkF m 17 #[.val (.int p0), .val (.int p1), .val (.int p2), .val (.ref b1), .unset, .unset, .unset, .unset, .unset, .unset, .unset] [(.int (16 : Int32)), (.int p0), (.int (1 : Int32)), (.ref b1)]))
  refine own_via (fun _ k => XS.iushr X2.here hx rfl (hb hby at_17) rfl k) ?_
  show own_Go p e below s _ _ _ (T2.setTop (mkF m 18 #[.val (.int p0), .val (.int p1), .val (.int p2), .val (.ref b1), .unset, .unset, .unset, .unset, .unset, .unset, .unset] [(.int (o_iushr p0 (16 : Int32))), (.int (1 : Int32)), (.ref b1)]))
  refine own_via (fun _ k => XS.i2b X2.here hx rfl (hb hby at_18) rfl k) ?_
  show own_Go p e below s _ _ _ (T2.setTop (mkF m 19 #[.val (.int p0), .val (.int p1), .val (.int p2), .val (.ref b1), .unset, .unset, .unset, .unset, .unset, .unset, .unset] [(.int (o_i2b (o_iushr p0 (16 : Int32)))), (.int (1 : Int32)), (.ref b1)]))
  obtain ⟨cl3, Ar3, q3, S3, M3, H3, G3⟩ := (id V2)
  have hin3 : ¬ ((1 : Int32) < 0 ∨ cl3.slots.size ≤ ((1 : Int32)).toNatClampNeg) := inb_of S3 ⟨by decide, by decide⟩
  obtain ⟨T3, h3, X3, e3, W3, st3⟩ := stB X2 hx hZ e2 Ar3 (j := (1 : Int32)) hin3 (g := (mkF m 19 #[.val (.int p0), .val (.int p1), .val (.int p2), .val (.ref b1), .unset, .unset, .unset, .unset, .unset, .unset, .unset] [(.int (o_i2b (o_iushr p0 (16 : Int32)))), (.int (1 : Int32)), (.ref b1)])) rfl rfl (hb hby at_19)
  have V3 : Arv Z h3 b1 k1 .byte (4 : Int32) [(.int (nar .byte (o_i2b (o_iushr p0 (24 : Int32))))), (.int (nar .byte (o_i2b (o_iushr p0 (16 : Int32))))), (.int (0 : Int32)), (.int (0 : Int32))] (.int (0 : Int32)) := Arv.set Ar3 q3 S3 M3 H3 G3 (fits_nar_byte _) W3 1 rfl (Nat.le_of_ble_eq_true rfl)
  have N3 := Fr.snoc X3 N2 g_b1
  have Z3 : n0 ≤ h3.size := Nat.le_trans Z2 (Keep.of_wr W3).1
  refine own_via st3 ?_
  show own_Go p e below s _ _ _ (T3.setTop (mkF m 20 #[.val (.int p0), .val (.int p1), .val (.int p2), .val (.ref b1), .unset, .unset, .unset, .unset, .unset, .unset, .unset] []))
  refine own_via (fun _ k => XS.aloadN X3.here hx rfl (hb hby at_20) rfl rfl k) ?_
  show own_Go p e below s _ _ _ (T3.setTop (mkF m 21 #[.val (.int p0), .val (.int p1), .val (.int p2), .val (.ref b1), .unset, .unset, .unset, .unset, .unset, .unset, .unset] [(.ref b1)]))
  refine own_via (fun _ k => XS.iconst X3.here hx rfl (hb hby at_21) k) ?_
  show own_Go p e below s _ _ _ (T3.setTop (mkF m 22 #[.val (.int p0), .val (.int p1), .val (.int p2), .val (.ref b1), .unset, .unset, .unset, .unset, .unset, .unset, .unset] [(.int (2 : Int32)), (.ref b1)]))
  refine own_via (fun _ k => XS.iloadN X3.here hx rfl (hb hby at_22) rfl k) ?_
  show own_Go p e below s _ _ _ (T3.setTop (mkF m 23 #[.val (.int p0), .val (.int p1), .val (.int p2), .val (.ref b1), .unset, .unset, .unset, .unset, .unset, .unset, .unset] [(.int p0), (.int (2 : Int32)), (.ref b1)]))
  refine own_via (fun _ k => XS.bipush X3.here hx rfl (hb hby at_23) k) ?_
  show own_Go p e below s _ _ _ (T3.setTop (mkF m 25 #[.val (.int p0), .val (.int p1), .val (.int p2), .val (.ref b1), .unset, .unset, .unset, .unset, .unset, .unset, .unset] [(.int (8 : Int32)), (.int p0), (.int (2 : Int32)), (.ref b1)]))
  refine own_via (fun _ k => XS.iushr X3.here hx rfl (hb hby at_25) rfl k) ?_
  show own_Go p e below s _ _ _ (T3.setTop (mkF m 26 #[.val (.int p0), .val (.int p1), .val (.int p2), .val (.ref b1), .unset, .unset, .unset, .unset, .unset, .unset, .unset] [(.int (o_iushr p0 (8 : Int32))), (.int (2 : Int32)), (.ref b1)]))
  refine own_via (fun _ k => XS.i2b X3.here hx rfl (hb hby at_26) rfl k) ?_
  show own_Go p e below s _ _ _ (T3.setTop (mkF m 27 #[.val (.int p0), .val (.int p1), .val (.int p2), .val (.ref b1), .unset, .unset, .unset, .unset, .unset, .unset, .unset] [(.int (o_i2b (o_iushr p0 (8 : Int32)))), (.int (2 : Int32)), (.ref b1)]))
  obtain ⟨cl4, Ar4, q4, S4, M4, H4, G4⟩ := (id V3)
  have hin4 : ¬ ((2 : Int32) < 0 ∨ cl4.slots.size ≤ ((2 : Int32)).toNatClampNeg) := inb_of S4 ⟨by decide, by decide⟩
  obtain ⟨T4, h4, X4, e4, W4, st4⟩ := stB X3 hx hZ e3 Ar4 (j := (2 : Int32)) hin4 (g := (mkF m 27 #[.val (.int p0), .val (.int p1), .val (.int p2), .val (.ref b1), .unset, .unset, .unset, .unset, .unset, .unset, .unset] [(.int (o_i2b (o_iushr p0 (8 : Int32)))), (.int (2 : Int32)), (.ref b1)])) rfl rfl (hb hby at_27)
  have V4 : Arv Z h4 b1 k1 .byte (4 : Int32) [(.int (nar .byte (o_i2b (o_iushr p0 (24 : Int32))))), (.int (nar .byte (o_i2b (o_iushr p0 (16 : Int32))))), (.int (nar .byte (o_i2b (o_iushr p0 (8 : Int32))))), (.int (0 : Int32))] (.int (0 : Int32)) := Arv.set Ar4 q4 S4 M4 H4 G4 (fits_nar_byte _) W4 2 rfl (Nat.le_of_ble_eq_true rfl)
  have N4 := Fr.snoc X4 N3 g_b1
  have Z4 : n0 ≤ h4.size := Nat.le_trans Z3 (Keep.of_wr W4).1
  refine own_via st4 ?_
  show own_Go p e below s _ _ _ (T4.setTop (mkF m 28 #[.val (.int p0), .val (.int p1), .val (.int p2), .val (.ref b1), .unset, .unset, .unset, .unset, .unset, .unset, .unset] []))
  refine own_via (fun _ k => XS.aloadN X4.here hx rfl (hb hby at_28) rfl rfl k) ?_
  show own_Go p e below s _ _ _ (T4.setTop (mkF m 29 #[.val (.int p0), .val (.int p1), .val (.int p2), .val (.ref b1), .unset, .unset, .unset, .unset, .unset, .unset, .unset] [(.ref b1)]))
  refine own_via (fun _ k => XS.iconst X4.here hx rfl (hb hby at_29) k) ?_
  show own_Go p e below s _ _ _ (T4.setTop (mkF m 30 #[.val (.int p0), .val (.int p1), .val (.int p2), .val (.ref b1), .unset, .unset, .unset, .unset, .unset, .unset, .unset] [(.int (3 : Int32)), (.ref b1)]))
  refine own_via (fun _ k => XS.iloadN X4.here hx rfl (hb hby at_30) rfl k) ?_
  show own_Go p e below s _ _ _ (T4.setTop (mkF m 31 #[.val (.int p0), .val (.int p1), .val (.int p2), .val (.ref b1), .unset, .unset, .unset, .unset, .unset, .unset, .unset] [(.int p0), (.int (3 : Int32)), (.ref b1)]))
  refine own_via (fun _ k => XS.i2b X4.here hx rfl (hb hby at_31) rfl k) ?_
  show own_Go p e below s _ _ _ (T4.setTop (mkF m 32 #[.val (.int p0), .val (.int p1), .val (.int p2), .val (.ref b1), .unset, .unset, .unset, .unset, .unset, .unset, .unset] [(.int (o_i2b p0)), (.int (3 : Int32)), (.ref b1)]))
  obtain ⟨cl5, Ar5, q5, S5, M5, H5, G5⟩ := (id V4)
  have hin5 : ¬ ((3 : Int32) < 0 ∨ cl5.slots.size ≤ ((3 : Int32)).toNatClampNeg) := inb_of S5 ⟨by decide, by decide⟩
  obtain ⟨T5, h5, X5, e5, W5, st5⟩ := stB X4 hx hZ e4 Ar5 (j := (3 : Int32)) hin5 (g := (mkF m 32 #[.val (.int p0), .val (.int p1), .val (.int p2), .val (.ref b1), .unset, .unset, .unset, .unset, .unset, .unset, .unset] [(.int (o_i2b p0)), (.int (3 : Int32)), (.ref b1)])) rfl rfl (hb hby at_32)
  have V5 : Arv Z h5 b1 k1 .byte (4 : Int32) [(.int (nar .byte (o_i2b (o_iushr p0 (24 : Int32))))), (.int (nar .byte (o_i2b (o_iushr p0 (16 : Int32))))), (.int (nar .byte (o_i2b (o_iushr p0 (8 : Int32))))), (.int (nar .byte (o_i2b p0)))] (.int (0 : Int32)) := Arv.set Ar5 q5 S5 M5 H5 G5 (fits_nar_byte _) W5 3 rfl (Nat.le_of_ble_eq_true rfl)
  have N5 := Fr.snoc X5 N4 g_b1
  have Z5 : n0 ≤ h5.size := Nat.le_trans Z4 (Keep.of_wr W5).1
  refine own_via st5 ?_
  show own_Go p e below s _ _ _ (T5.setTop (mkF m 33 #[.val (.int p0), .val (.int p1), .val (.int p2), .val (.ref b1), .unset, .unset, .unset, .unset, .unset, .unset, .unset] []))
  refine own_via (fun _ k => XS.iconst X5.here hx rfl (hb hby at_33) k) ?_
  show own_Go p e below s _ _ _ (T5.setTop (mkF m 34 #[.val (.int p0), .val (.int p1), .val (.int p2), .val (.ref b1), .unset, .unset, .unset, .unset, .unset, .unset, .unset] [(.int (2 : Int32))]))
  refine own_via (fun _ k => XS.iloadN X5.here hx rfl (hb hby at_34) rfl k) ?_
  show own_Go p e below s _ _ _ (T5.setTop (mkF m 35 #[.val (.int p0), .val (.int p1), .val (.int p2), .val (.ref b1), .unset, .unset, .unset, .unset, .unset, .unset, .unset] [(.int p1), (.int (2 : Int32))]))
  refine own_via (fun _ k => X5.ldcInt hx hown (mvT hZ (hw _ (List.mem_of_getElem? (i := 1) rfl))) (g := (mkF m 35 #[.val (.int p0), .val (.int p1), .val (.int p2), .val (.ref b1), .unset, .unset, .unset, .unset, .unset, .unset, .unset] [(.int p1), (.int (2 : Int32))])) rfl (hb hby at_35) _ k) ?_
  show own_Go p e below s _ _ _ (T5.setTop (mkF m 37 #[.val (.int p0), .val (.int p1), .val (.int p2), .val (.ref b1), .unset, .unset, .unset, .unset, .unset, .unset, .unset] [(.int (2147483647 : Int32)), (.int p1), (.int (2 : Int32))]))
  refine own_via (fun _ k => XS.iand X5.here hx rfl (hb hby at_37) rfl k) ?_
  show own_Go p e below s _ _ _ (T5.setTop (mkF m 38 #[.val (.int p0), .val (.int p1), .val (.int p2), .val (.ref b1), .unset, .unset, .unset, .unset, .unset, .unset, .unset] [(.int (p1 &&& (2147483647 : Int32))), (.int (2 : Int32))]))
  refine own_via (fun _ k => XS.iconst X5.here hx rfl (hb hby at_38) k) ?_
  show own_Go p e below s _ _ _ (T5.setTop (mkF m 39 #[.val (.int p0), .val (.int p1), .val (.int p2), .val (.ref b1), .unset, .unset, .unset, .unset, .unset, .unset, .unset] [(.int (3 : Int32)), (.int (p1 &&& (2147483647 : Int32))), (.int (2 : Int32))]))
  refine own_via (fun _ k => XS.irem X5.here hx rfl (hb hby at_39) rfl (by decide) k) ?_
  show own_Go p e below s _ _ _ (T5.setTop (mkF m 40 #[.val (.int p0), .val (.int p1), .val (.int p2), .val (.ref b1), .unset, .unset, .unset, .unset, .unset, .unset, .unset] [(.int (o_irem (p1 &&& (2147483647 : Int32)) (3 : Int32))), (.int (2 : Int32))]))
  refine own_via (fun _ k => XS.iadd X5.here hx rfl (hb hby at_40) rfl k) ?_
  show own_Go p e below s _ _ _ (T5.setTop (mkF m 41 #[.val (.int p0), .val (.int p1), .val (.int p2), .val (.ref b1), .unset, .unset, .unset, .unset, .unset, .unset, .unset] [(.int ((2 : Int32) + (o_irem (p1 &&& (2147483647 : Int32)) (3 : Int32))))]))
  refine own_via (fun _ k => XS.istore X5.here hx rfl (hb hby at_41) rfl (l' := #[.val (.int p0), .val (.int p1), .val (.int p2), .val (.ref b1), .val (.int ((2 : Int32) + (o_irem (p1 &&& (2147483647 : Int32)) (3 : Int32)))), .unset, .unset, .unset, .unset, .unset, .unset]) rfl k) ?_
  show own_Go p e below s _ _ _ (T5.setTop (mkF m 43 #[.val (.int p0), .val (.int p1), .val (.int p2), .val (.ref b1), .val (.int ((2 : Int32) + (o_irem (p1 &&& (2147483647 : Int32)) (3 : Int32)))), .unset, .unset, .unset, .unset, .unset, .unset] []))
  generalize hv6 : ((2 : Int32) + (o_irem (p1 &&& (2147483647 : Int32)) (3 : Int32))) = v6
  show own_Go p e below s _ _ _ (T5.setTop (mkF m 43 #[.val (.int p0), .val (.int p1), .val (.int p2), .val (.ref b1), .val (.int v6), .unset, .unset, .unset, .unset, .unset, .unset] []))
  rcases (own_len p1 hv6) with rfl | rfl | rfl
  · show own_Go p e below s _ _ _ (T5.setTop (mkF m 43 #[.val (.int p0), .val (.int p1), .val (.int p2), .val (.ref b1), .val (.int (2 : Int32)), .unset, .unset, .unset, .unset, .unset, .unset] []))
    refine own_via (fun _ k => XS.iloadN X5.here hx rfl (hb hby at_43) rfl k) ?_
    show own_Go p e below s _ _ _ (T5.setTop (mkF m 44 #[.val (.int p0), .val (.int p1), .val (.int p2), .val (.ref b1), .val (.int (2 : Int32)), .unset, .unset, .unset, .unset, .unset, .unset] [(.int p2)]))
    refine own_via (fun _ k => X5.ldcInt hx hown (mvT hZ (hw _ (List.mem_of_getElem? (i := 1) rfl))) (g := (mkF m 44 #[.val (.int p0), .val (.int p1), .val (.int p2), .val (.ref b1), .val (.int (2 : Int32)), .unset, .unset, .unset, .unset, .unset, .unset] [(.int p2)])) rfl (hb hby at_44) _ k) ?_
    show own_Go p e below s _ _ _ (T5.setTop (mkF m 46 #[.val (.int p0), .val (.int p1), .val (.int p2), .val (.ref b1), .val (.int (2 : Int32)), .unset, .unset, .unset, .unset, .unset, .unset] [(.int (2147483647 : Int32)), (.int p2)]))
    refine own_via (fun _ k => XS.iand X5.here hx rfl (hb hby at_46) rfl k) ?_
    show own_Go p e below s _ _ _ (T5.setTop (mkF m 47 #[.val (.int p0), .val (.int p1), .val (.int p2), .val (.ref b1), .val (.int (2 : Int32)), .unset, .unset, .unset, .unset, .unset, .unset] [(.int (p2 &&& (2147483647 : Int32)))]))
    refine own_via (fun _ k => XS.iload X5.here hx rfl (hb hby at_47) rfl k) ?_
    show own_Go p e below s _ _ _ (T5.setTop (mkF m 49 #[.val (.int p0), .val (.int p1), .val (.int p2), .val (.ref b1), .val (.int (2 : Int32)), .unset, .unset, .unset, .unset, .unset, .unset] [(.int (2 : Int32)), (.int (p2 &&& (2147483647 : Int32)))]))
    refine own_via (fun _ k => XS.iconst X5.here hx rfl (hb hby at_49) k) ?_
    show own_Go p e below s _ _ _ (T5.setTop (mkF m 50 #[.val (.int p0), .val (.int p1), .val (.int p2), .val (.ref b1), .val (.int (2 : Int32)), .unset, .unset, .unset, .unset, .unset, .unset] [(.int (1 : Int32)), (.int (2 : Int32)), (.int (p2 &&& (2147483647 : Int32)))]))
    refine own_via (fun _ k => XS.isub X5.here hx rfl (hb hby at_50) rfl k) ?_
    show own_Go p e below s _ _ _ (T5.setTop (mkF m 51 #[.val (.int p0), .val (.int p1), .val (.int p2), .val (.ref b1), .val (.int (2 : Int32)), .unset, .unset, .unset, .unset, .unset, .unset] [(.int (1 : Int32)), (.int (p2 &&& (2147483647 : Int32)))]))
    refine own_via (fun _ k => XS.irem X5.here hx rfl (hb hby at_51) rfl (by decide) k) ?_
    show own_Go p e below s _ _ _ (T5.setTop (mkF m 52 #[.val (.int p0), .val (.int p1), .val (.int p2), .val (.ref b1), .val (.int (2 : Int32)), .unset, .unset, .unset, .unset, .unset, .unset] [(.int (o_irem (p2 &&& (2147483647 : Int32)) (1 : Int32)))]))
    refine own_via (fun _ k => XS.istore X5.here hx rfl (hb hby at_52) rfl (l' := #[.val (.int p0), .val (.int p1), .val (.int p2), .val (.ref b1), .val (.int (2 : Int32)), .val (.int (o_irem (p2 &&& (2147483647 : Int32)) (1 : Int32))), .unset, .unset, .unset, .unset, .unset]) rfl k) ?_
    show own_Go p e below s _ _ _ (T5.setTop (mkF m 54 #[.val (.int p0), .val (.int p1), .val (.int p2), .val (.ref b1), .val (.int (2 : Int32)), .val (.int (o_irem (p2 &&& (2147483647 : Int32)) (1 : Int32))), .unset, .unset, .unset, .unset, .unset] []))
    generalize hv7 : (o_irem (p2 &&& (2147483647 : Int32)) (1 : Int32)) = v7
    show own_Go p e below s _ _ _ (T5.setTop (mkF m 54 #[.val (.int p0), .val (.int p1), .val (.int p2), .val (.ref b1), .val (.int (2 : Int32)), .val (.int v7), .unset, .unset, .unset, .unset, .unset] []))
    rcases (own_sk1 p2 hv7) with rfl
    · show own_Go p e below s _ _ _ (T5.setTop (mkF m 54 #[.val (.int p0), .val (.int p1), .val (.int p2), .val (.ref b1), .val (.int (2 : Int32)), .val (.int (0 : Int32)), .unset, .unset, .unset, .unset, .unset] []))
      obtain ⟨T8, h8, X8, e8, E8, A8, D8, -, st8⟩ := newO X5 hx hZ hown (hw _ (List.mem_of_getElem? (i := 2) rfl)) (hw _ (List.mem_of_getElem? (i := 3) rfl)) (hw _ (List.mem_of_getElem? (i := 4) rfl)) e5 (g := (mkF m 54 #[.val (.int p0), .val (.int p1), .val (.int p2), .val (.ref b1), .val (.int (2 : Int32)), .val (.int (0 : Int32)), .unset, .unset, .unset, .unset, .unset] [])) rfl (hb hby at_54) (by decide) (by decide)
      obtain ⟨b8, gg8⟩ : ∃ z, z = h5.size := ⟨_, rfl⟩
      rw [← gg8] at A8 D8 st8
      have ne_b1_b8 : b1 ≠ b8 := Nat.ne_of_lt (Nat.lt_of_lt_of_le V5.lt (Nat.le_of_eq gg8.symm))
      have g_b8 : n0 ≤ b8 := Nat.le_trans Z5 (Nat.le_of_eq gg8.symm)
      have Z8 : n0 ≤ h8.size := Nat.le_trans Z5 E8.1
      have F9 : Fld Z h8 b8 "com/example/greenbelt/greenbelt/io/FrameInput" "bytes" "[B" .null := D8 (Or.inl (hw _ (List.mem_of_getElem? (i := 12) rfl))) (ty := (.array .byte)) (by decide)
      have F10 : Fld Z h8 b8 "com/example/greenbelt/greenbelt/io/FrameInput" "position" "I" (.int (0 : Int32)) := D8 (Or.inl (hw _ (List.mem_of_getElem? (i := 27) rfl))) (ty := .int) (by decide)
      have F11 : Fld Z h8 b8 "com/example/greenbelt/greenbelt/io/FrameInput" "end" "I" (.int (0 : Int32)) := D8 (Or.inl (hw _ (List.mem_of_getElem? (i := 29) rfl))) (ty := .int) (by decide)
      refine own_via st8 ?_
      show own_Go p e below s _ _ _ (T8.setTop (mkF m 57 #[.val (.int p0), .val (.int p1), .val (.int p2), .val (.ref b1), .val (.int (2 : Int32)), .val (.int (0 : Int32)), .unset, .unset, .unset, .unset, .unset] [(.ref b8)]))
      refine own_via (fun _ k => XS.dup X8.here hx rfl (hb hby at_57) rfl rfl k) ?_
      show own_Go p e below s _ _ _ (T8.setTop (mkF m 58 #[.val (.int p0), .val (.int p1), .val (.int p2), .val (.ref b1), .val (.int (2 : Int32)), .val (.int (0 : Int32)), .unset, .unset, .unset, .unset, .unset] [(.ref b8), (.ref b8)]))
      obtain ⟨_, _, ⟨T12, L12, k12, n12⟩, -, X12, ⟨Lc12, hQ12, l12, y12, z12⟩, st12⟩ := X8.specialBack hx (y := (⟨"com/example/greenbelt/greenbelt/io/FrameInput", "<init>", "()V"⟩ : MethodName)) rfl hown (mvT hZ (hw _ (List.mem_of_getElem? (i := 5) rfl))) (mvT hZ (hw _ (List.mem_of_getElem? (i := 6) rfl))) (mvT hZ (hw _ (List.mem_of_getElem? (i := 7) rfl))) (by decide) (backOf (W := 1) (rm1 l Z a0 hw [] b8 h8 n0 Z8 A8 F9 F10 F11 g_b8) hZ (hw _ (List.mem_of_getElem? (i := 7) rfl)) (hw _ (List.mem_of_getElem? (i := 4) rfl)) (by decide) (by decide)) (g := (mkF m 58 #[.val (.int p0), .val (.int p1), .val (.int p2), .val (.ref b1), .val (.int (2 : Int32)), .val (.int (0 : Int32)), .unset, .unset, .unset, .unset, .unset] [(.ref b8), (.ref b8)])) rfl (by rw [hml]; rfl) (Steps.refl _) (a := b8) (argsL := []) (rest := [(.ref b8)]) (lenOf pd_5 rfl) rfl (by show 2 * 0 + _ ≤ _; exact Nat.le_of_eq rfl) (hb hby at_58) (fun _ _ => ⟨rfl, e8, (by decide : 2 + 1 ≤ _), (by decide : 7 + 0 ≤ _)⟩)
      dsimp only [Pt.U, Pt.locs, Pt.cells, Pt.slots] at X12 l12 y12 z12 st12 hQ12
      subst l12 y12 z12
      obtain ⟨h12, e12⟩ : ∃ h, T12.heap = h := ⟨_, rfl⟩
      rw [e12] at hQ12
      obtain ⟨b_12, rfl, N12q, Kq12, F13, F14, F15, F16, F17⟩ := hQ12
      have ne_b1_b_12 : b1 ≠ b_12 := Nat.ne_of_lt (Nat.lt_of_lt_of_le (V5.ext E8).lt F13)
      have ne_b8_b_12 : b8 ≠ b_12 := Nat.ne_of_lt (Nat.lt_of_lt_of_le A8.lt F13)
      have g_b_12 : n0 ≤ b_12 := Nat.le_trans Z8 F13
      have Z12 : n0 ≤ h12.size := Nat.le_trans Z8 Kq12.1
      have N12 := Fr.app N5 N12q
      refine own_viaT st12 ?_
      show own_Go p e below s _ _ _ (T12.setTop (mkF m 61 #[.val (.int p0), .val (.int p1), .val (.int p2), .val (.ref b1), .val (.int (2 : Int32)), .val (.int (0 : Int32)), .unset, .unset, .unset, .unset, .unset] [(.ref b8)]))
      refine own_via (fun _ k => XS.astore X12.here hx rfl (hb hby at_61) rfl rfl (l' := #[.val (.int p0), .val (.int p1), .val (.int p2), .val (.ref b1), .val (.int (2 : Int32)), .val (.int (0 : Int32)), .val (.ref b8), .unset, .unset, .unset, .unset]) rfl k) ?_
      show own_Go p e below s _ _ _ (T12.setTop (mkF m 63 #[.val (.int p0), .val (.int p1), .val (.int p2), .val (.ref b1), .val (.int (2 : Int32)), .val (.int (0 : Int32)), .val (.ref b8), .unset, .unset, .unset, .unset] []))
      refine own_via (fun _ k => XS.aload X12.here hx rfl (hb hby at_63) rfl rfl k) ?_
      show own_Go p e below s _ _ _ (T12.setTop (mkF m 65 #[.val (.int p0), .val (.int p1), .val (.int p2), .val (.ref b1), .val (.int (2 : Int32)), .val (.int (0 : Int32)), .val (.ref b8), .unset, .unset, .unset, .unset] [(.ref b8)]))
      refine own_via (fun _ k => XS.aloadN X12.here hx rfl (hb hby at_65) rfl rfl k) ?_
      show own_Go p e below s _ _ _ (T12.setTop (mkF m 66 #[.val (.int p0), .val (.int p1), .val (.int p2), .val (.ref b1), .val (.int (2 : Int32)), .val (.int (0 : Int32)), .val (.ref b8), .unset, .unset, .unset, .unset] [(.ref b1), (.ref b8)]))
      refine own_via (fun _ k => XS.iload X12.here hx rfl (hb hby at_66) rfl k) ?_
      show own_Go p e below s _ _ _ (T12.setTop (mkF m 68 #[.val (.int p0), .val (.int p1), .val (.int p2), .val (.ref b1), .val (.int (2 : Int32)), .val (.int (0 : Int32)), .val (.ref b8), .unset, .unset, .unset, .unset] [(.int (2 : Int32)), (.ref b1), (.ref b8)]))
      have F19 := ((V5.ext E8).keep Kq12 (ninS ne_b1_b8 nin0))
      obtain ⟨cq18, kq18, qa18, qb18, qc18⟩ := isOf hZ e12 F14
      obtain ⟨_, _, ⟨T18, L18, k18, n18⟩, -, X18, ⟨Lc18, hQ18, l18, y18, z18⟩, st18⟩ := X12.virtualBack hx (y := (⟨"com/example/greenbelt/greenbelt/io/FrameInput", "reset", "([BI)V"⟩ : MethodName)) (z := (⟨"com/example/greenbelt/greenbelt/io/FrameInput", "reset", "([BI)V"⟩ : MethodName)) hown (mvT hZ (hw _ (List.mem_of_getElem? (i := 13) rfl))) (mvT hZ (hw _ (List.mem_of_getElem? (i := 14) rfl))) (notFace_of_selects (args := #[]) (mvT hZ (hw _ (List.mem_of_getElem? (i := 16) rfl)))) (mvT hZ (hw _ (List.mem_of_getElem? (i := 16) rfl))) (mvT hZ (hw _ (List.mem_of_getElem? (i := 15) rfl))) (by decide) (backOf (W := 0) (rm3 l Z a0 hw [] b8 b1 (2 : Int32) (.ref b_12) k1 (4 : Int32) [(.int (nar .byte (o_i2b (o_iushr p0 (24 : Int32))))), (.int (nar .byte (o_i2b (o_iushr p0 (16 : Int32))))), (.int (nar .byte (o_i2b (o_iushr p0 (8 : Int32))))), (.int (nar .byte (o_i2b p0)))] (.int (0 : Int32)) h12 n0 Z12 F14 F15 F16 F17 F19 g_b8 (by first | decide | (simp; done)) (by first | decide | (simp; done))) hZ (hw _ (List.mem_of_getElem? (i := 17) rfl)) (hw _ (List.mem_of_getElem? (i := 4) rfl)) (by decide) (by decide)) qa18 qc18 (g := (mkF m 68 #[.val (.int p0), .val (.int p1), .val (.int p2), .val (.ref b1), .val (.int (2 : Int32)), .val (.int (0 : Int32)), .val (.ref b8), .unset, .unset, .unset, .unset] [(.int (2 : Int32)), (.ref b1), (.ref b8)])) rfl (by rw [hml]; rfl) (Steps.refl _) (argsL := [(.ref b1), (.int (2 : Int32))]) (rest := []) (lenOf pd_6 rfl) rfl (by show 2 * 0 + _ ≤ _; exact Nat.le_of_eq rfl) (hb hby at_68) (fun _ _ => ⟨rfl, e12, (by decide : 3 + 0 ≤ _), (by decide : 7 + 0 ≤ _)⟩)
      dsimp only [Pt.U, Pt.locs, Pt.cells, Pt.slots] at X18 l18 y18 z18 st18 hQ18
      subst l18 y18 z18
      obtain ⟨h18, e18⟩ : ∃ h, T18.heap = h := ⟨_, rfl⟩
      rw [e18] at hQ18
      obtain ⟨rfl, N18q, Kq18, F20, F21, F22, F23⟩ := hQ18
      have Z18 : n0 ≤ h18.size := Nat.le_trans Z12 Kq18.1
      have N18 := Fr.app N12 N18q
      refine own_viaT st18 ?_
      show own_Go p e below s _ _ _ (T18.setTop (mkF m 71 #[.val (.int p0), .val (.int p1), .val (.int p2), .val (.ref b1), .val (.int (2 : Int32)), .val (.int (0 : Int32)), .val (.ref b8), .unset, .unset, .unset, .unset] []))
      refine own_via (fun _ k => XS.aload X18.here hx rfl (hb hby at_71) rfl rfl k) ?_
      show own_Go p e below s _ _ _ (T18.setTop (mkF m 73 #[.val (.int p0), .val (.int p1), .val (.int p2), .val (.ref b1), .val (.int (2 : Int32)), .val (.int (0 : Int32)), .val (.ref b8), .unset, .unset, .unset, .unset] [(.ref b8)]))
      refine own_via (fun _ k => XS.iload X18.here hx rfl (hb hby at_73) rfl k) ?_
      show own_Go p e below s _ _ _ (T18.setTop (mkF m 75 #[.val (.int p0), .val (.int p1), .val (.int p2), .val (.ref b1), .val (.int (2 : Int32)), .val (.int (0 : Int32)), .val (.ref b8), .unset, .unset, .unset, .unset] [(.int (0 : Int32)), (.ref b8)]))
      obtain ⟨cq24, kq24, qa24, qb24, qc24⟩ := isOf hZ e18 F20
      obtain ⟨_, _, ⟨T24, L24, k24, n24⟩, -, X24, ⟨Lc24, hQ24, l24, y24, z24⟩, st24⟩ := X18.virtualBack hx (y := (⟨"com/example/greenbelt/greenbelt/io/FrameInput", "skipBytes", "(I)I"⟩ : MethodName)) (z := (⟨"com/example/greenbelt/greenbelt/io/FrameInput", "skipBytes", "(I)I"⟩ : MethodName)) hown (mvT hZ (hw _ (List.mem_of_getElem? (i := 30) rfl))) (mvT hZ (hw _ (List.mem_of_getElem? (i := 31) rfl))) (notFace_of_selects (args := #[]) (mvT hZ (hw _ (List.mem_of_getElem? (i := 33) rfl)))) (mvT hZ (hw _ (List.mem_of_getElem? (i := 33) rfl))) (mvT hZ (hw _ (List.mem_of_getElem? (i := 32) rfl))) (by decide) (backOf (W := 0) (rm6 l Z a0 hw [] b8 (0 : Int32) (2 : Int32) (0 : Int32) (.ref b1) h18 n0 Z18 F20 F21 F22 F23 g_b8 (by first | decide | (simp; done)) (by first | decide | (simp; done))) hZ (hw _ (List.mem_of_getElem? (i := 34) rfl)) (hw _ (List.mem_of_getElem? (i := 4) rfl)) (by decide) (by decide)) qa24 qc24 (g := (mkF m 75 #[.val (.int p0), .val (.int p1), .val (.int p2), .val (.ref b1), .val (.int (2 : Int32)), .val (.int (0 : Int32)), .val (.ref b8), .unset, .unset, .unset, .unset] [(.int (0 : Int32)), (.ref b8)])) rfl (by rw [hml]; rfl) (Steps.refl _) (argsL := [(.int (0 : Int32))]) (rest := []) (lenOf pd_4 rfl) rfl (by show 2 * 0 + _ ≤ _; exact Nat.le_of_eq rfl) (hb hby at_75) (fun _ _ => ⟨rfl, e18, (by decide : 3 + 0 ≤ _), (by decide : 7 + 0 ≤ _)⟩)
      dsimp only [Pt.U, Pt.locs, Pt.cells, Pt.slots] at X24 l24 y24 z24 st24 hQ24
      subst l24 y24 z24
      obtain ⟨h24, e24⟩ : ∃ h, T24.heap = h := ⟨_, rfl⟩
      rw [e24] at hQ24
      obtain ⟨rfl, N24q, Kq24, F25, F26, F27, F28⟩ := hQ24
      have Z24 : n0 ≤ h24.size := Nat.le_trans Z18 Kq24.1
      have F29 : Fld Z h24 b8 "com/example/greenbelt/greenbelt/io/FrameInput" "position" "I" (.int (0 : Int32)) := F27
      have N24 := Fr.app N18 N24q
      refine own_viaT st24 ?_
      show own_Go p e below s _ _ _ (T24.setTop (mkF m 78 #[.val (.int p0), .val (.int p1), .val (.int p2), .val (.ref b1), .val (.int (2 : Int32)), .val (.int (0 : Int32)), .val (.ref b8), .unset, .unset, .unset, .unset] [(.int (0 : Int32))]))
      refine own_via (fun _ k => XS.istore X24.here hx rfl (hb hby at_78) rfl (l' := #[.val (.int p0), .val (.int p1), .val (.int p2), .val (.ref b1), .val (.int (2 : Int32)), .val (.int (0 : Int32)), .val (.ref b8), .val (.int (0 : Int32)), .unset, .unset, .unset]) rfl k) ?_
      show own_Go p e below s _ _ _ (T24.setTop (mkF m 80 #[.val (.int p0), .val (.int p1), .val (.int p2), .val (.ref b1), .val (.int (2 : Int32)), .val (.int (0 : Int32)), .val (.ref b8), .val (.int (0 : Int32)), .unset, .unset, .unset] []))
      refine own_via (fun _ k => XS.iload X24.here hx rfl (hb hby at_80) rfl k) ?_
      show own_Go p e below s _ _ _ (T24.setTop (mkF m 82 #[.val (.int p0), .val (.int p1), .val (.int p2), .val (.ref b1), .val (.int (2 : Int32)), .val (.int (0 : Int32)), .val (.ref b8), .val (.int (0 : Int32)), .unset, .unset, .unset] [(.int (0 : Int32))]))
      refine own_via (fun _ k => XS.iload X24.here hx rfl (hb hby at_82) rfl k) ?_
      show own_Go p e below s _ _ _ (T24.setTop (mkF m 84 #[.val (.int p0), .val (.int p1), .val (.int p2), .val (.ref b1), .val (.int (2 : Int32)), .val (.int (0 : Int32)), .val (.ref b8), .val (.int (0 : Int32)), .unset, .unset, .unset] [(.int (0 : Int32)), (.int (0 : Int32))]))
      refine own_via (fun _ k => XS.icmpYes X24.here hx rfl (pc0 := 84) (pc' := 89) rfl (hb hby at_84) rfl (Jvm.Free.XT.ii_eq_t (by decide)) (by decide) (by decide) k) ?_
      show own_Go p e below s _ _ _ (T24.setTop (mkF m 89 #[.val (.int p0), .val (.int p1), .val (.int p2), .val (.ref b1), .val (.int (2 : Int32)), .val (.int (0 : Int32)), .val (.ref b8), .val (.int (0 : Int32)), .unset, .unset, .unset] []))
      refine own_via (fun _ k => XS.aload X24.here hx rfl (hb hby at_89) rfl rfl k) ?_
      show own_Go p e below s _ _ _ (T24.setTop (mkF m 91 #[.val (.int p0), .val (.int p1), .val (.int p2), .val (.ref b1), .val (.int (2 : Int32)), .val (.int (0 : Int32)), .val (.ref b8), .val (.int (0 : Int32)), .unset, .unset, .unset] [(.ref b8)]))
      have F31 := ((F19.keep Kq18 (ninS ne_b1_b8 nin0)).keep Kq24 (ninS ne_b1_b8 nin0))
      obtain ⟨cq30, kq30, qa30, qb30, qc30⟩ := isOf hZ e24 F25
      obtain ⟨_, _, ⟨T30, L30, k30, n30⟩, -, X30, ⟨Lc30, hQ30, l30, y30, z30⟩, st30⟩ := X24.virtualBack hx (y := (⟨"com/example/greenbelt/greenbelt/io/FrameInput", "readUnsignedShort", "()I"⟩ : MethodName)) (z := (⟨"com/example/greenbelt/greenbelt/io/FrameInput", "readUnsignedShort", "()I"⟩ : MethodName)) hown (mvT hZ (hw _ (List.mem_of_getElem? (i := 47) rfl))) (mvT hZ (hw _ (List.mem_of_getElem? (i := 48) rfl))) (notFace_of_selects (args := #[]) (mvT hZ (hw _ (List.mem_of_getElem? (i := 50) rfl)))) (mvT hZ (hw _ (List.mem_of_getElem? (i := 50) rfl))) (mvT hZ (hw _ (List.mem_of_getElem? (i := 49) rfl))) (by decide) (backOf (W := 0) (rm10 l Z a0 hw [] b8 b1 (0 : Int32) (2 : Int32) k1 (4 : Int32) [(.int (nar .byte (o_i2b (o_iushr p0 (24 : Int32))))), (.int (nar .byte (o_i2b (o_iushr p0 (16 : Int32))))), (.int (nar .byte (o_i2b (o_iushr p0 (8 : Int32))))), (.int (nar .byte (o_i2b p0)))] (.int (0 : Int32)) (nar .byte (o_i2b (o_iushr p0 (24 : Int32)))) (nar .byte (o_i2b (o_iushr p0 (16 : Int32)))) h24 n0 Z24 F25 F26 F29 F28 g_b8 F31 (by decide) (by decide) (by decide) rfl rfl ne_b1_b8) hZ (hw _ (List.mem_of_getElem? (i := 51) rfl)) (hw _ (List.mem_of_getElem? (i := 4) rfl)) (by decide) (by decide)) qa30 qc30 (g := (mkF m 91 #[.val (.int p0), .val (.int p1), .val (.int p2), .val (.ref b1), .val (.int (2 : Int32)), .val (.int (0 : Int32)), .val (.ref b8), .val (.int (0 : Int32)), .unset, .unset, .unset] [(.ref b8)])) rfl (by rw [hml]; rfl) (Steps.refl _) (argsL := []) (rest := []) (lenOf pd_2 rfl) rfl (by show 2 * 0 + _ ≤ _; exact Nat.le_of_eq rfl) (hb hby at_91) (fun _ _ => ⟨rfl, e24, (by decide : 3 + 0 ≤ _), (by decide : 7 + 0 ≤ _)⟩)
      dsimp only [Pt.U, Pt.locs, Pt.cells, Pt.slots] at X30 l30 y30 z30 st30 hQ30
      subst l30 y30 z30
      obtain ⟨h30, e30⟩ : ∃ h, T30.heap = h := ⟨_, rfl⟩
      rw [e30] at hQ30
      obtain ⟨rfl, N30q, Kq30, F32, F33, F34, F35⟩ := hQ30
      have Z30 : n0 ≤ h30.size := Nat.le_trans Z24 Kq30.1
      have F36 : Fld Z h30 b8 "com/example/greenbelt/greenbelt/io/FrameInput" "position" "I" (.int (2 : Int32)) := F34
      have N30 := Fr.app N24 N30q
      refine own_viaT st30 ?_
      show own_Go p e below s _ _ _ (T30.setTop (mkF m 94 #[.val (.int p0), .val (.int p1), .val (.int p2), .val (.ref b1), .val (.int (2 : Int32)), .val (.int (0 : Int32)), .val (.ref b8), .val (.int (0 : Int32)), .unset, .unset, .unset] [(.int ((o_ishl ((nar .byte (o_i2b (o_iushr p0 (24 : Int32)))) &&& (255 : Int32)) (8 : Int32)) ||| ((nar .byte (o_i2b (o_iushr p0 (16 : Int32)))) &&& (255 : Int32))))]))
      refine own_via (fun _ k => XS.istore X30.here hx rfl (hb hby at_94) rfl (l' := #[.val (.int p0), .val (.int p1), .val (.int p2), .val (.ref b1), .val (.int (2 : Int32)), .val (.int (0 : Int32)), .val (.ref b8), .val (.int (0 : Int32)), .val (.int ((o_ishl ((nar .byte (o_i2b (o_iushr p0 (24 : Int32)))) &&& (255 : Int32)) (8 : Int32)) ||| ((nar .byte (o_i2b (o_iushr p0 (16 : Int32)))) &&& (255 : Int32)))), .unset, .unset]) rfl k) ?_
      show own_Go p e below s _ _ _ (T30.setTop (mkF m 96 #[.val (.int p0), .val (.int p1), .val (.int p2), .val (.ref b1), .val (.int (2 : Int32)), .val (.int (0 : Int32)), .val (.ref b8), .val (.int (0 : Int32)), .val (.int ((o_ishl ((nar .byte (o_i2b (o_iushr p0 (24 : Int32)))) &&& (255 : Int32)) (8 : Int32)) ||| ((nar .byte (o_i2b (o_iushr p0 (16 : Int32)))) &&& (255 : Int32)))), .unset, .unset] []))
      generalize hv37 : ((o_ishl ((nar .byte (o_i2b (o_iushr p0 (24 : Int32)))) &&& (255 : Int32)) (8 : Int32)) ||| ((nar .byte (o_i2b (o_iushr p0 (16 : Int32)))) &&& (255 : Int32))) = v37
      show own_Go p e below s _ _ _ (T30.setTop (mkF m 96 #[.val (.int p0), .val (.int p1), .val (.int p2), .val (.ref b1), .val (.int (2 : Int32)), .val (.int (0 : Int32)), .val (.ref b8), .val (.int (0 : Int32)), .val (.int v37), .unset, .unset] []))
      refine own_via (fun _ k => XS.bipush X30.here hx rfl (hb hby at_96) k) ?_
      show own_Go p e below s _ _ _ (T30.setTop (mkF m 98 #[.val (.int p0), .val (.int p1), .val (.int p2), .val (.ref b1), .val (.int (2 : Int32)), .val (.int (0 : Int32)), .val (.ref b8), .val (.int (0 : Int32)), .val (.int v37), .unset, .unset] [(.int (16 : Int32))]))
      refine own_via (fun _ k => XS.bipush X30.here hx rfl (hb hby at_98) k) ?_
      show own_Go p e below s _ _ _ (T30.setTop (mkF m 100 #[.val (.int p0), .val (.int p1), .val (.int p2), .val (.ref b1), .val (.int (2 : Int32)), .val (.int (0 : Int32)), .val (.ref b8), .val (.int (0 : Int32)), .val (.int v37), .unset, .unset] [(.int (8 : Int32)), (.int (16 : Int32))]))
      refine own_via (fun _ k => XS.iload X30.here hx rfl (hb hby at_100) rfl k) ?_
      show own_Go p e below s _ _ _ (T30.setTop (mkF m 102 #[.val (.int p0), .val (.int p1), .val (.int p2), .val (.ref b1), .val (.int (2 : Int32)), .val (.int (0 : Int32)), .val (.ref b8), .val (.int (0 : Int32)), .val (.int v37), .unset, .unset] [(.int (0 : Int32)), (.int (8 : Int32)), (.int (16 : Int32))]))
      refine own_via (fun _ k => XS.imul X30.here hx rfl (hb hby at_102) rfl k) ?_
      show own_Go p e below s _ _ _ (T30.setTop (mkF m 103 #[.val (.int p0), .val (.int p1), .val (.int p2), .val (.ref b1), .val (.int (2 : Int32)), .val (.int (0 : Int32)), .val (.ref b8), .val (.int (0 : Int32)), .val (.int v37), .unset, .unset] [(.int (0 : Int32)), (.int (16 : Int32))]))
      refine own_via (fun _ k => XS.isub X30.here hx rfl (hb hby at_103) rfl k) ?_
      show own_Go p e below s _ _ _ (T30.setTop (mkF m 104 #[.val (.int p0), .val (.int p1), .val (.int p2), .val (.ref b1), .val (.int (2 : Int32)), .val (.int (0 : Int32)), .val (.ref b8), .val (.int (0 : Int32)), .val (.int v37), .unset, .unset] [(.int (16 : Int32))]))
      refine own_via (fun _ k => XS.istore X30.here hx rfl (hb hby at_104) rfl (l' := #[.val (.int p0), .val (.int p1), .val (.int p2), .val (.ref b1), .val (.int (2 : Int32)), .val (.int (0 : Int32)), .val (.ref b8), .val (.int (0 : Int32)), .val (.int v37), .val (.int (16 : Int32)), .unset]) rfl k) ?_
      show own_Go p e below s _ _ _ (T30.setTop (mkF m 106 #[.val (.int p0), .val (.int p1), .val (.int p2), .val (.ref b1), .val (.int (2 : Int32)), .val (.int (0 : Int32)), .val (.ref b8), .val (.int (0 : Int32)), .val (.int v37), .val (.int (16 : Int32)), .unset] []))
      refine own_via (fun _ k => XS.iloadN X30.here hx rfl (hb hby at_106) rfl k) ?_
      show own_Go p e below s _ _ _ (T30.setTop (mkF m 107 #[.val (.int p0), .val (.int p1), .val (.int p2), .val (.ref b1), .val (.int (2 : Int32)), .val (.int (0 : Int32)), .val (.ref b8), .val (.int (0 : Int32)), .val (.int v37), .val (.int (16 : Int32)), .unset] [(.int p0)]))
      refine own_via (fun _ k => XS.iload X30.here hx rfl (hb hby at_107) rfl k) ?_
      show own_Go p e below s _ _ _ (T30.setTop (mkF m 109 #[.val (.int p0), .val (.int p1), .val (.int p2), .val (.ref b1), .val (.int (2 : Int32)), .val (.int (0 : Int32)), .val (.ref b8), .val (.int (0 : Int32)), .val (.int v37), .val (.int (16 : Int32)), .unset] [(.int (16 : Int32)), (.int p0)]))
      refine own_via (fun _ k => XS.iushr X30.here hx rfl (hb hby at_109) rfl k) ?_
      show own_Go p e below s _ _ _ (T30.setTop (mkF m 110 #[.val (.int p0), .val (.int p1), .val (.int p2), .val (.ref b1), .val (.int (2 : Int32)), .val (.int (0 : Int32)), .val (.ref b8), .val (.int (0 : Int32)), .val (.int v37), .val (.int (16 : Int32)), .unset] [(.int (o_iushr p0 (16 : Int32)))]))
      refine own_via (fun _ k => X30.ldcInt hx hown (mvT hZ (hw _ (List.mem_of_getElem? (i := 56) rfl))) (g := (mkF m 110 #[.val (.int p0), .val (.int p1), .val (.int p2), .val (.ref b1), .val (.int (2 : Int32)), .val (.int (0 : Int32)), .val (.ref b8), .val (.int (0 : Int32)), .val (.int v37), .val (.int (16 : Int32)), .unset] [(.int (o_iushr p0 (16 : Int32)))])) rfl (hb hby at_110) _ k) ?_
      show own_Go p e below s _ _ _ (T30.setTop (mkF m 112 #[.val (.int p0), .val (.int p1), .val (.int p2), .val (.ref b1), .val (.int (2 : Int32)), .val (.int (0 : Int32)), .val (.ref b8), .val (.int (0 : Int32)), .val (.int v37), .val (.int (16 : Int32)), .unset] [(.int (65535 : Int32)), (.int (o_iushr p0 (16 : Int32)))]))
      refine own_via (fun _ k => XS.iand X30.here hx rfl (hb hby at_112) rfl k) ?_
      show own_Go p e below s _ _ _ (T30.setTop (mkF m 113 #[.val (.int p0), .val (.int p1), .val (.int p2), .val (.ref b1), .val (.int (2 : Int32)), .val (.int (0 : Int32)), .val (.ref b8), .val (.int (0 : Int32)), .val (.int v37), .val (.int (16 : Int32)), .unset] [(.int ((o_iushr p0 (16 : Int32)) &&& (65535 : Int32)))]))
      refine own_via (fun _ k => XS.istore X30.here hx rfl (hb hby at_113) rfl (l' := #[.val (.int p0), .val (.int p1), .val (.int p2), .val (.ref b1), .val (.int (2 : Int32)), .val (.int (0 : Int32)), .val (.ref b8), .val (.int (0 : Int32)), .val (.int v37), .val (.int (16 : Int32)), .val (.int ((o_iushr p0 (16 : Int32)) &&& (65535 : Int32)))]) rfl k) ?_
      show own_Go p e below s _ _ _ (T30.setTop (mkF m 115 #[.val (.int p0), .val (.int p1), .val (.int p2), .val (.ref b1), .val (.int (2 : Int32)), .val (.int (0 : Int32)), .val (.ref b8), .val (.int (0 : Int32)), .val (.int v37), .val (.int (16 : Int32)), .val (.int ((o_iushr p0 (16 : Int32)) &&& (65535 : Int32)))] []))
      generalize hv38 : ((o_iushr p0 (16 : Int32)) &&& (65535 : Int32)) = v38
      show own_Go p e below s _ _ _ (T30.setTop (mkF m 115 #[.val (.int p0), .val (.int p1), .val (.int p2), .val (.ref b1), .val (.int (2 : Int32)), .val (.int (0 : Int32)), .val (.ref b8), .val (.int (0 : Int32)), .val (.int v37), .val (.int (16 : Int32)), .val (.int v38)] []))
      refine own_via (fun _ k => XS.iload X30.here hx rfl (hb hby at_115) rfl k) ?_
      show own_Go p e below s _ _ _ (T30.setTop (mkF m 117 #[.val (.int p0), .val (.int p1), .val (.int p2), .val (.ref b1), .val (.int (2 : Int32)), .val (.int (0 : Int32)), .val (.ref b8), .val (.int (0 : Int32)), .val (.int v37), .val (.int (16 : Int32)), .val (.int v38)] [(.int v37)]))
      refine own_via (fun _ k => XS.iload X30.here hx rfl (hb hby at_117) rfl k) ?_
      show own_Go p e below s _ _ _ (T30.setTop (mkF m 119 #[.val (.int p0), .val (.int p1), .val (.int p2), .val (.ref b1), .val (.int (2 : Int32)), .val (.int (0 : Int32)), .val (.ref b8), .val (.int (0 : Int32)), .val (.int v37), .val (.int (16 : Int32)), .val (.int v38)] [(.int v38), (.int v37)]))
      have hh39 : v37 = v38 := by rw [← hv37, ← hv38]; exact own_t0 p0
      have hc40 : v37 = v38 := hh39
      refine own_via (fun _ k => XS.icmpYes X30.here hx rfl (pc0 := 119) (pc' := 124) rfl (hb hby at_119) rfl (Jvm.Free.XT.ii_eq_t hc40) (by decide) (by decide) k) ?_
      show own_Go p e below s _ _ _ (T30.setTop (mkF m 124 #[.val (.int p0), .val (.int p1), .val (.int p2), .val (.ref b1), .val (.int (2 : Int32)), .val (.int (0 : Int32)), .val (.ref b8), .val (.int (0 : Int32)), .val (.int v37), .val (.int (16 : Int32)), .val (.int v38)] []))
      refine own_via (fun _ k => XS.iload X30.here hx rfl (hb hby at_124) rfl k) ?_
      show own_Go p e below s _ _ _ (T30.setTop (mkF m 126 #[.val (.int p0), .val (.int p1), .val (.int p2), .val (.ref b1), .val (.int (2 : Int32)), .val (.int (0 : Int32)), .val (.ref b8), .val (.int (0 : Int32)), .val (.int v37), .val (.int (16 : Int32)), .val (.int v38)] [(.int v37)]))
      have hc41 : ¬ (v37 < (0 : Int32)) := (own_rg hv38 hh39).1
      refine own_via (fun _ k => XS.ifNo X30.here hx rfl (hb hby at_126) rfl (Jvm.Free.XT.i0_lt_f hc41) k) ?_
      show own_Go p e below s _ _ _ (T30.setTop (mkF m 129 #[.val (.int p0), .val (.int p1), .val (.int p2), .val (.ref b1), .val (.int (2 : Int32)), .val (.int (0 : Int32)), .val (.ref b8), .val (.int (0 : Int32)), .val (.int v37), .val (.int (16 : Int32)), .val (.int v38)] []))
      refine own_via (fun _ k => XS.iload X30.here hx rfl (hb hby at_129) rfl k) ?_
      show own_Go p e below s _ _ _ (T30.setTop (mkF m 131 #[.val (.int p0), .val (.int p1), .val (.int p2), .val (.ref b1), .val (.int (2 : Int32)), .val (.int (0 : Int32)), .val (.ref b8), .val (.int (0 : Int32)), .val (.int v37), .val (.int (16 : Int32)), .val (.int v38)] [(.int v37)]))
      refine own_via (fun _ k => X30.ldcInt hx hown (mvT hZ (hw _ (List.mem_of_getElem? (i := 56) rfl))) (g := (mkF m 131 #[.val (.int p0), .val (.int p1), .val (.int p2), .val (.ref b1), .val (.int (2 : Int32)), .val (.int (0 : Int32)), .val (.ref b8), .val (.int (0 : Int32)), .val (.int v37), .val (.int (16 : Int32)), .val (.int v38)] [(.int v37)])) rfl (hb hby at_131) _ k) ?_
      show own_Go p e below s _ _ _ (T30.setTop (mkF m 133 #[.val (.int p0), .val (.int p1), .val (.int p2), .val (.ref b1), .val (.int (2 : Int32)), .val (.int (0 : Int32)), .val (.ref b8), .val (.int (0 : Int32)), .val (.int v37), .val (.int (16 : Int32)), .val (.int v38)] [(.int (65535 : Int32)), (.int v37)]))
      have hc42 : ¬ ((65535 : Int32) < v37) := (own_rg hv38 hh39).2
      refine own_via (fun _ k => XS.icmpYes X30.here hx rfl (pc0 := 133) (pc' := 138) rfl (hb hby at_133) rfl (Jvm.Free.XT.ii_le_t hc42) (by decide) (by decide) k) ?_
      show own_Go p e below s _ _ _ (T30.setTop (mkF m 138 #[.val (.int p0), .val (.int p1), .val (.int p2), .val (.ref b1), .val (.int (2 : Int32)), .val (.int (0 : Int32)), .val (.ref b8), .val (.int (0 : Int32)), .val (.int v37), .val (.int (16 : Int32)), .val (.int v38)] []))
      refine own_via (fun _ k => XS.aload X30.here hx rfl (hb hby at_138) rfl rfl k) ?_
      show own_Go p e below s _ _ _ (T30.setTop (mkF m 140 #[.val (.int p0), .val (.int p1), .val (.int p2), .val (.ref b1), .val (.int (2 : Int32)), .val (.int (0 : Int32)), .val (.ref b8), .val (.int (0 : Int32)), .val (.int v37), .val (.int (16 : Int32)), .val (.int v38)] [(.ref b8)]))
      obtain ⟨cq43, kq43, qa43, qb43, qc43⟩ := isOf hZ e30 F32
      obtain ⟨_, _, ⟨T43, L43, k43, n43⟩, -, X43, ⟨Lc43, hQ43, l43, y43, z43⟩, st43⟩ := X30.virtualBack hx (y := (⟨"com/example/greenbelt/greenbelt/io/FrameInput", "remaining", "()I"⟩ : MethodName)) (z := (⟨"com/example/greenbelt/greenbelt/io/FrameInput", "remaining", "()I"⟩ : MethodName)) hown (mvT hZ (hw _ (List.mem_of_getElem? (i := 57) rfl))) (mvT hZ (hw _ (List.mem_of_getElem? (i := 36) rfl))) (notFace_of_selects (args := #[]) (mvT hZ (hw _ (List.mem_of_getElem? (i := 38) rfl)))) (mvT hZ (hw _ (List.mem_of_getElem? (i := 38) rfl))) (mvT hZ (hw _ (List.mem_of_getElem? (i := 37) rfl))) (by decide) (backOf (W := 0) (rm7 l Z a0 hw [] b8 (2 : Int32) (2 : Int32) h30 n0 Z30 F35 F36) hZ (hw _ (List.mem_of_getElem? (i := 39) rfl)) (hw _ (List.mem_of_getElem? (i := 4) rfl)) (by decide) (by decide)) qa43 qc43 (g := (mkF m 140 #[.val (.int p0), .val (.int p1), .val (.int p2), .val (.ref b1), .val (.int (2 : Int32)), .val (.int (0 : Int32)), .val (.ref b8), .val (.int (0 : Int32)), .val (.int v37), .val (.int (16 : Int32)), .val (.int v38)] [(.ref b8)])) rfl (by rw [hml]; rfl) (Steps.refl _) (argsL := []) (rest := []) (lenOf pd_2 rfl) rfl (by show 2 * 0 + _ ≤ _; exact Nat.le_of_eq rfl) (hb hby at_140) (fun _ _ => ⟨rfl, e30, (by decide : 3 + 0 ≤ _), (by decide : 7 + 0 ≤ _)⟩)
      dsimp only [Pt.U, Pt.locs, Pt.cells, Pt.slots] at X43 l43 y43 z43 st43 hQ43
      subst l43 y43 z43
      obtain ⟨rfl, N43q, e43⟩ := hQ43
      have N43 := Fr.app N30 N43q
      refine own_viaT st43 ?_
      show own_Go p e below s _ _ _ (T43.setTop (mkF m 143 #[.val (.int p0), .val (.int p1), .val (.int p2), .val (.ref b1), .val (.int (2 : Int32)), .val (.int (0 : Int32)), .val (.ref b8), .val (.int (0 : Int32)), .val (.int v37), .val (.int (16 : Int32)), .val (.int v38)] [(.int (0 : Int32))]))
      refine own_via (fun _ k => XS.iload X43.here hx rfl (hb hby at_143) rfl k) ?_
      show own_Go p e below s _ _ _ (T43.setTop (mkF m 145 #[.val (.int p0), .val (.int p1), .val (.int p2), .val (.ref b1), .val (.int (2 : Int32)), .val (.int (0 : Int32)), .val (.ref b8), .val (.int (0 : Int32)), .val (.int v37), .val (.int (16 : Int32)), .val (.int v38)] [(.int (2 : Int32)), (.int (0 : Int32))]))
      refine own_via (fun _ k => XS.iload X43.here hx rfl (hb hby at_145) rfl k) ?_
      show own_Go p e below s _ _ _ (T43.setTop (mkF m 147 #[.val (.int p0), .val (.int p1), .val (.int p2), .val (.ref b1), .val (.int (2 : Int32)), .val (.int (0 : Int32)), .val (.ref b8), .val (.int (0 : Int32)), .val (.int v37), .val (.int (16 : Int32)), .val (.int v38)] [(.int (0 : Int32)), (.int (2 : Int32)), (.int (0 : Int32))]))
      refine own_via (fun _ k => XS.isub X43.here hx rfl (hb hby at_147) rfl k) ?_
      show own_Go p e below s _ _ _ (T43.setTop (mkF m 148 #[.val (.int p0), .val (.int p1), .val (.int p2), .val (.ref b1), .val (.int (2 : Int32)), .val (.int (0 : Int32)), .val (.ref b8), .val (.int (0 : Int32)), .val (.int v37), .val (.int (16 : Int32)), .val (.int v38)] [(.int (2 : Int32)), (.int (0 : Int32))]))
      refine own_via (fun _ k => XS.iconst X43.here hx rfl (hb hby at_148) k) ?_
      show own_Go p e below s _ _ _ (T43.setTop (mkF m 149 #[.val (.int p0), .val (.int p1), .val (.int p2), .val (.ref b1), .val (.int (2 : Int32)), .val (.int (0 : Int32)), .val (.ref b8), .val (.int (0 : Int32)), .val (.int v37), .val (.int (16 : Int32)), .val (.int v38)] [(.int (2 : Int32)), (.int (2 : Int32)), (.int (0 : Int32))]))
      refine own_via (fun _ k => XS.isub X43.here hx rfl (hb hby at_149) rfl k) ?_
      show own_Go p e below s _ _ _ (T43.setTop (mkF m 150 #[.val (.int p0), .val (.int p1), .val (.int p2), .val (.ref b1), .val (.int (2 : Int32)), .val (.int (0 : Int32)), .val (.ref b8), .val (.int (0 : Int32)), .val (.int v37), .val (.int (16 : Int32)), .val (.int v38)] [(.int (0 : Int32)), (.int (0 : Int32))]))
      refine own_via (fun _ k => XS.icmpNo X43.here hx rfl (hb hby at_150) rfl (Jvm.Free.XT.ii_ne_f (by decide)) k) ?_
      show own_Go p e below s _ _ _ (T43.setTop (mkF m 153 #[.val (.int p0), .val (.int p1), .val (.int p2), .val (.ref b1), .val (.int (2 : Int32)), .val (.int (0 : Int32)), .val (.ref b8), .val (.int (0 : Int32)), .val (.int v37), .val (.int (16 : Int32)), .val (.int v38)] []))
      refine own_via (fun _ k => XS.iconst X43.here hx rfl (hb hby at_153) k) ?_
      show own_Go p e below s _ _ _ (T43.setTop (mkF m 154 #[.val (.int p0), .val (.int p1), .val (.int p2), .val (.ref b1), .val (.int (2 : Int32)), .val (.int (0 : Int32)), .val (.ref b8), .val (.int (0 : Int32)), .val (.int v37), .val (.int (16 : Int32)), .val (.int v38)] [(.int (1 : Int32))]))
      refine own_via (fun _ k => XS.goto X43.here hx rfl (pc0 := 154) (pc' := 158) rfl (hb hby at_154) (by decide) (by decide) k) ?_
      show own_Go p e below s _ _ _ (T43.setTop (mkF m 158 #[.val (.int p0), .val (.int p1), .val (.int p2), .val (.ref b1), .val (.int (2 : Int32)), .val (.int (0 : Int32)), .val (.ref b8), .val (.int (0 : Int32)), .val (.int v37), .val (.int (16 : Int32)), .val (.int v38)] [(.int (1 : Int32))]))
      exact own_goN X43 hx (t := .boolean) Bd.returns (by simp) (hb hby at_158) Bd.notSynchronized (by decide) (by decide) (by rw [e43]; exact ⟨rfl, N43⟩)
  · show own_Go p e below s _ _ _ (T5.setTop (mkF m 43 #[.val (.int p0), .val (.int p1), .val (.int p2), .val (.ref b1), .val (.int (3 : Int32)), .unset, .unset, .unset, .unset, .unset, .unset] []))
    refine own_via (fun _ k => XS.iloadN X5.here hx rfl (hb hby at_43) rfl k) ?_
    show own_Go p e below s _ _ _ (T5.setTop (mkF m 44 #[.val (.int p0), .val (.int p1), .val (.int p2), .val (.ref b1), .val (.int (3 : Int32)), .unset, .unset, .unset, .unset, .unset, .unset] [(.int p2)]))
    refine own_via (fun _ k => X5.ldcInt hx hown (mvT hZ (hw _ (List.mem_of_getElem? (i := 1) rfl))) (g := (mkF m 44 #[.val (.int p0), .val (.int p1), .val (.int p2), .val (.ref b1), .val (.int (3 : Int32)), .unset, .unset, .unset, .unset, .unset, .unset] [(.int p2)])) rfl (hb hby at_44) _ k) ?_
    show own_Go p e below s _ _ _ (T5.setTop (mkF m 46 #[.val (.int p0), .val (.int p1), .val (.int p2), .val (.ref b1), .val (.int (3 : Int32)), .unset, .unset, .unset, .unset, .unset, .unset] [(.int (2147483647 : Int32)), (.int p2)]))
    refine own_via (fun _ k => XS.iand X5.here hx rfl (hb hby at_46) rfl k) ?_
    show own_Go p e below s _ _ _ (T5.setTop (mkF m 47 #[.val (.int p0), .val (.int p1), .val (.int p2), .val (.ref b1), .val (.int (3 : Int32)), .unset, .unset, .unset, .unset, .unset, .unset] [(.int (p2 &&& (2147483647 : Int32)))]))
    refine own_via (fun _ k => XS.iload X5.here hx rfl (hb hby at_47) rfl k) ?_
    show own_Go p e below s _ _ _ (T5.setTop (mkF m 49 #[.val (.int p0), .val (.int p1), .val (.int p2), .val (.ref b1), .val (.int (3 : Int32)), .unset, .unset, .unset, .unset, .unset, .unset] [(.int (3 : Int32)), (.int (p2 &&& (2147483647 : Int32)))]))
    refine own_via (fun _ k => XS.iconst X5.here hx rfl (hb hby at_49) k) ?_
    show own_Go p e below s _ _ _ (T5.setTop (mkF m 50 #[.val (.int p0), .val (.int p1), .val (.int p2), .val (.ref b1), .val (.int (3 : Int32)), .unset, .unset, .unset, .unset, .unset, .unset] [(.int (1 : Int32)), (.int (3 : Int32)), (.int (p2 &&& (2147483647 : Int32)))]))
    refine own_via (fun _ k => XS.isub X5.here hx rfl (hb hby at_50) rfl k) ?_
    show own_Go p e below s _ _ _ (T5.setTop (mkF m 51 #[.val (.int p0), .val (.int p1), .val (.int p2), .val (.ref b1), .val (.int (3 : Int32)), .unset, .unset, .unset, .unset, .unset, .unset] [(.int (2 : Int32)), (.int (p2 &&& (2147483647 : Int32)))]))
    refine own_via (fun _ k => XS.irem X5.here hx rfl (hb hby at_51) rfl (by decide) k) ?_
    show own_Go p e below s _ _ _ (T5.setTop (mkF m 52 #[.val (.int p0), .val (.int p1), .val (.int p2), .val (.ref b1), .val (.int (3 : Int32)), .unset, .unset, .unset, .unset, .unset, .unset] [(.int (o_irem (p2 &&& (2147483647 : Int32)) (2 : Int32)))]))
    refine own_via (fun _ k => XS.istore X5.here hx rfl (hb hby at_52) rfl (l' := #[.val (.int p0), .val (.int p1), .val (.int p2), .val (.ref b1), .val (.int (3 : Int32)), .val (.int (o_irem (p2 &&& (2147483647 : Int32)) (2 : Int32))), .unset, .unset, .unset, .unset, .unset]) rfl k) ?_
    show own_Go p e below s _ _ _ (T5.setTop (mkF m 54 #[.val (.int p0), .val (.int p1), .val (.int p2), .val (.ref b1), .val (.int (3 : Int32)), .val (.int (o_irem (p2 &&& (2147483647 : Int32)) (2 : Int32))), .unset, .unset, .unset, .unset, .unset] []))
    generalize hv44 : (o_irem (p2 &&& (2147483647 : Int32)) (2 : Int32)) = v44
    show own_Go p e below s _ _ _ (T5.setTop (mkF m 54 #[.val (.int p0), .val (.int p1), .val (.int p2), .val (.ref b1), .val (.int (3 : Int32)), .val (.int v44), .unset, .unset, .unset, .unset, .unset] []))
    rcases (own_sk2 p2 hv44) with rfl | rfl
    · show own_Go p e below s _ _ _ (T5.setTop (mkF m 54 #[.val (.int p0), .val (.int p1), .val (.int p2), .val (.ref b1), .val (.int (3 : Int32)), .val (.int (0 : Int32)), .unset, .unset, .unset, .unset, .unset] []))
      obtain ⟨T45, h45, X45, e45, E45, A45, D45, -, st45⟩ := newO X5 hx hZ hown (hw _ (List.mem_of_getElem? (i := 2) rfl)) (hw _ (List.mem_of_getElem? (i := 3) rfl)) (hw _ (List.mem_of_getElem? (i := 4) rfl)) e5 (g := (mkF m 54 #[.val (.int p0), .val (.int p1), .val (.int p2), .val (.ref b1), .val (.int (3 : Int32)), .val (.int (0 : Int32)), .unset, .unset, .unset, .unset, .unset] [])) rfl (hb hby at_54) (by decide) (by decide)
      obtain ⟨b45, gg45⟩ : ∃ z, z = h5.size := ⟨_, rfl⟩
      rw [← gg45] at A45 D45 st45
      have ne_b1_b45 : b1 ≠ b45 := Nat.ne_of_lt (Nat.lt_of_lt_of_le V5.lt (Nat.le_of_eq gg45.symm))
      have g_b45 : n0 ≤ b45 := Nat.le_trans Z5 (Nat.le_of_eq gg45.symm)
      have Z45 : n0 ≤ h45.size := Nat.le_trans Z5 E45.1
      have F46 : Fld Z h45 b45 "com/example/greenbelt/greenbelt/io/FrameInput" "bytes" "[B" .null := D45 (Or.inl (hw _ (List.mem_of_getElem? (i := 12) rfl))) (ty := (.array .byte)) (by decide)
      have F47 : Fld Z h45 b45 "com/example/greenbelt/greenbelt/io/FrameInput" "position" "I" (.int (0 : Int32)) := D45 (Or.inl (hw _ (List.mem_of_getElem? (i := 27) rfl))) (ty := .int) (by decide)
      have F48 : Fld Z h45 b45 "com/example/greenbelt/greenbelt/io/FrameInput" "end" "I" (.int (0 : Int32)) := D45 (Or.inl (hw _ (List.mem_of_getElem? (i := 29) rfl))) (ty := .int) (by decide)
      refine own_via st45 ?_
      show own_Go p e below s _ _ _ (T45.setTop (mkF m 57 #[.val (.int p0), .val (.int p1), .val (.int p2), .val (.ref b1), .val (.int (3 : Int32)), .val (.int (0 : Int32)), .unset, .unset, .unset, .unset, .unset] [(.ref b45)]))
      refine own_via (fun _ k => XS.dup X45.here hx rfl (hb hby at_57) rfl rfl k) ?_
      show own_Go p e below s _ _ _ (T45.setTop (mkF m 58 #[.val (.int p0), .val (.int p1), .val (.int p2), .val (.ref b1), .val (.int (3 : Int32)), .val (.int (0 : Int32)), .unset, .unset, .unset, .unset, .unset] [(.ref b45), (.ref b45)]))
      obtain ⟨_, _, ⟨T49, L49, k49, n49⟩, -, X49, ⟨Lc49, hQ49, l49, y49, z49⟩, st49⟩ := X45.specialBack hx (y := (⟨"com/example/greenbelt/greenbelt/io/FrameInput", "<init>", "()V"⟩ : MethodName)) rfl hown (mvT hZ (hw _ (List.mem_of_getElem? (i := 5) rfl))) (mvT hZ (hw _ (List.mem_of_getElem? (i := 6) rfl))) (mvT hZ (hw _ (List.mem_of_getElem? (i := 7) rfl))) (by decide) (backOf (W := 1) (rm1 l Z a0 hw [] b45 h45 n0 Z45 A45 F46 F47 F48 g_b45) hZ (hw _ (List.mem_of_getElem? (i := 7) rfl)) (hw _ (List.mem_of_getElem? (i := 4) rfl)) (by decide) (by decide)) (g := (mkF m 58 #[.val (.int p0), .val (.int p1), .val (.int p2), .val (.ref b1), .val (.int (3 : Int32)), .val (.int (0 : Int32)), .unset, .unset, .unset, .unset, .unset] [(.ref b45), (.ref b45)])) rfl (by rw [hml]; rfl) (Steps.refl _) (a := b45) (argsL := []) (rest := [(.ref b45)]) (lenOf pd_5 rfl) rfl (by show 2 * 0 + _ ≤ _; exact Nat.le_of_eq rfl) (hb hby at_58) (fun _ _ => ⟨rfl, e45, (by decide : 2 + 1 ≤ _), (by decide : 7 + 0 ≤ _)⟩)
      dsimp only [Pt.U, Pt.locs, Pt.cells, Pt.slots] at X49 l49 y49 z49 st49 hQ49
      subst l49 y49 z49
      obtain ⟨h49, e49⟩ : ∃ h, T49.heap = h := ⟨_, rfl⟩
      rw [e49] at hQ49
      obtain ⟨b_49, rfl, N49q, Kq49, F50, F51, F52, F53, F54⟩ := hQ49
      have ne_b1_b_49 : b1 ≠ b_49 := Nat.ne_of_lt (Nat.lt_of_lt_of_le (V5.ext E45).lt F50)
      have ne_b45_b_49 : b45 ≠ b_49 := Nat.ne_of_lt (Nat.lt_of_lt_of_le A45.lt F50)
      have g_b_49 : n0 ≤ b_49 := Nat.le_trans Z45 F50
      have Z49 : n0 ≤ h49.size := Nat.le_trans Z45 Kq49.1
      have N49 := Fr.app N5 N49q
      refine own_viaT st49 ?_
      show own_Go p e below s _ _ _ (T49.setTop (mkF m 61 #[.val (.int p0), .val (.int p1), .val (.int p2), .val (.ref b1), .val (.int (3 : Int32)), .val (.int (0 : Int32)), .unset, .unset, .unset, .unset, .unset] [(.ref b45)]))
      refine own_via (fun _ k => XS.astore X49.here hx rfl (hb hby at_61) rfl rfl (l' := #[.val (.int p0), .val (.int p1), .val (.int p2), .val (.ref b1), .val (.int (3 : Int32)), .val (.int (0 : Int32)), .val (.ref b45), .unset, .unset, .unset, .unset]) rfl k) ?_
      show own_Go p e below s _ _ _ (T49.setTop (mkF m 63 #[.val (.int p0), .val (.int p1), .val (.int p2), .val (.ref b1), .val (.int (3 : Int32)), .val (.int (0 : Int32)), .val (.ref b45), .unset, .unset, .unset, .unset] []))
      refine own_via (fun _ k => XS.aload X49.here hx rfl (hb hby at_63) rfl rfl k) ?_
      show own_Go p e below s _ _ _ (T49.setTop (mkF m 65 #[.val (.int p0), .val (.int p1), .val (.int p2), .val (.ref b1), .val (.int (3 : Int32)), .val (.int (0 : Int32)), .val (.ref b45), .unset, .unset, .unset, .unset] [(.ref b45)]))
      refine own_via (fun _ k => XS.aloadN X49.here hx rfl (hb hby at_65) rfl rfl k) ?_
      show own_Go p e below s _ _ _ (T49.setTop (mkF m 66 #[.val (.int p0), .val (.int p1), .val (.int p2), .val (.ref b1), .val (.int (3 : Int32)), .val (.int (0 : Int32)), .val (.ref b45), .unset, .unset, .unset, .unset] [(.ref b1), (.ref b45)]))
      refine own_via (fun _ k => XS.iload X49.here hx rfl (hb hby at_66) rfl k) ?_
      show own_Go p e below s _ _ _ (T49.setTop (mkF m 68 #[.val (.int p0), .val (.int p1), .val (.int p2), .val (.ref b1), .val (.int (3 : Int32)), .val (.int (0 : Int32)), .val (.ref b45), .unset, .unset, .unset, .unset] [(.int (3 : Int32)), (.ref b1), (.ref b45)]))
      have F56 := ((V5.ext E45).keep Kq49 (ninS ne_b1_b45 nin0))
      obtain ⟨cq55, kq55, qa55, qb55, qc55⟩ := isOf hZ e49 F51
      obtain ⟨_, _, ⟨T55, L55, k55, n55⟩, -, X55, ⟨Lc55, hQ55, l55, y55, z55⟩, st55⟩ := X49.virtualBack hx (y := (⟨"com/example/greenbelt/greenbelt/io/FrameInput", "reset", "([BI)V"⟩ : MethodName)) (z := (⟨"com/example/greenbelt/greenbelt/io/FrameInput", "reset", "([BI)V"⟩ : MethodName)) hown (mvT hZ (hw _ (List.mem_of_getElem? (i := 13) rfl))) (mvT hZ (hw _ (List.mem_of_getElem? (i := 14) rfl))) (notFace_of_selects (args := #[]) (mvT hZ (hw _ (List.mem_of_getElem? (i := 16) rfl)))) (mvT hZ (hw _ (List.mem_of_getElem? (i := 16) rfl))) (mvT hZ (hw _ (List.mem_of_getElem? (i := 15) rfl))) (by decide) (backOf (W := 0) (rm3 l Z a0 hw [] b45 b1 (3 : Int32) (.ref b_49) k1 (4 : Int32) [(.int (nar .byte (o_i2b (o_iushr p0 (24 : Int32))))), (.int (nar .byte (o_i2b (o_iushr p0 (16 : Int32))))), (.int (nar .byte (o_i2b (o_iushr p0 (8 : Int32))))), (.int (nar .byte (o_i2b p0)))] (.int (0 : Int32)) h49 n0 Z49 F51 F52 F53 F54 F56 g_b45 (by first | decide | (simp; done)) (by first | decide | (simp; done))) hZ (hw _ (List.mem_of_getElem? (i := 17) rfl)) (hw _ (List.mem_of_getElem? (i := 4) rfl)) (by decide) (by decide)) qa55 qc55 (g := (mkF m 68 #[.val (.int p0), .val (.int p1), .val (.int p2), .val (.ref b1), .val (.int (3 : Int32)), .val (.int (0 : Int32)), .val (.ref b45), .unset, .unset, .unset, .unset] [(.int (3 : Int32)), (.ref b1), (.ref b45)])) rfl (by rw [hml]; rfl) (Steps.refl _) (argsL := [(.ref b1), (.int (3 : Int32))]) (rest := []) (lenOf pd_6 rfl) rfl (by show 2 * 0 + _ ≤ _; exact Nat.le_of_eq rfl) (hb hby at_68) (fun _ _ => ⟨rfl, e49, (by decide : 3 + 0 ≤ _), (by decide : 7 + 0 ≤ _)⟩)
      dsimp only [Pt.U, Pt.locs, Pt.cells, Pt.slots] at X55 l55 y55 z55 st55 hQ55
      subst l55 y55 z55
      obtain ⟨h55, e55⟩ : ∃ h, T55.heap = h := ⟨_, rfl⟩
      rw [e55] at hQ55
      obtain ⟨rfl, N55q, Kq55, F57, F58, F59, F60⟩ := hQ55
      have Z55 : n0 ≤ h55.size := Nat.le_trans Z49 Kq55.1
      have N55 := Fr.app N49 N55q
      refine own_viaT st55 ?_
      show own_Go p e below s _ _ _ (T55.setTop (mkF m 71 #[.val (.int p0), .val (.int p1), .val (.int p2), .val (.ref b1), .val (.int (3 : Int32)), .val (.int (0 : Int32)), .val (.ref b45), .unset, .unset, .unset, .unset] []))
      refine own_via (fun _ k => XS.aload X55.here hx rfl (hb hby at_71) rfl rfl k) ?_
      show own_Go p e below s _ _ _ (T55.setTop (mkF m 73 #[.val (.int p0), .val (.int p1), .val (.int p2), .val (.ref b1), .val (.int (3 : Int32)), .val (.int (0 : Int32)), .val (.ref b45), .unset, .unset, .unset, .unset] [(.ref b45)]))
      refine own_via (fun _ k => XS.iload X55.here hx rfl (hb hby at_73) rfl k) ?_
      show own_Go p e below s _ _ _ (T55.setTop (mkF m 75 #[.val (.int p0), .val (.int p1), .val (.int p2), .val (.ref b1), .val (.int (3 : Int32)), .val (.int (0 : Int32)), .val (.ref b45), .unset, .unset, .unset, .unset] [(.int (0 : Int32)), (.ref b45)]))
      obtain ⟨cq61, kq61, qa61, qb61, qc61⟩ := isOf hZ e55 F57
      obtain ⟨_, _, ⟨T61, L61, k61, n61⟩, -, X61, ⟨Lc61, hQ61, l61, y61, z61⟩, st61⟩ := X55.virtualBack hx (y := (⟨"com/example/greenbelt/greenbelt/io/FrameInput", "skipBytes", "(I)I"⟩ : MethodName)) (z := (⟨"com/example/greenbelt/greenbelt/io/FrameInput", "skipBytes", "(I)I"⟩ : MethodName)) hown (mvT hZ (hw _ (List.mem_of_getElem? (i := 30) rfl))) (mvT hZ (hw _ (List.mem_of_getElem? (i := 31) rfl))) (notFace_of_selects (args := #[]) (mvT hZ (hw _ (List.mem_of_getElem? (i := 33) rfl)))) (mvT hZ (hw _ (List.mem_of_getElem? (i := 33) rfl))) (mvT hZ (hw _ (List.mem_of_getElem? (i := 32) rfl))) (by decide) (backOf (W := 0) (rm6 l Z a0 hw [] b45 (0 : Int32) (3 : Int32) (0 : Int32) (.ref b1) h55 n0 Z55 F57 F58 F59 F60 g_b45 (by first | decide | (simp; done)) (by first | decide | (simp; done))) hZ (hw _ (List.mem_of_getElem? (i := 34) rfl)) (hw _ (List.mem_of_getElem? (i := 4) rfl)) (by decide) (by decide)) qa61 qc61 (g := (mkF m 75 #[.val (.int p0), .val (.int p1), .val (.int p2), .val (.ref b1), .val (.int (3 : Int32)), .val (.int (0 : Int32)), .val (.ref b45), .unset, .unset, .unset, .unset] [(.int (0 : Int32)), (.ref b45)])) rfl (by rw [hml]; rfl) (Steps.refl _) (argsL := [(.int (0 : Int32))]) (rest := []) (lenOf pd_4 rfl) rfl (by show 2 * 0 + _ ≤ _; exact Nat.le_of_eq rfl) (hb hby at_75) (fun _ _ => ⟨rfl, e55, (by decide : 3 + 0 ≤ _), (by decide : 7 + 0 ≤ _)⟩)
      dsimp only [Pt.U, Pt.locs, Pt.cells, Pt.slots] at X61 l61 y61 z61 st61 hQ61
      subst l61 y61 z61
      obtain ⟨h61, e61⟩ : ∃ h, T61.heap = h := ⟨_, rfl⟩
      rw [e61] at hQ61
      obtain ⟨rfl, N61q, Kq61, F62, F63, F64, F65⟩ := hQ61
      have Z61 : n0 ≤ h61.size := Nat.le_trans Z55 Kq61.1
      have F66 : Fld Z h61 b45 "com/example/greenbelt/greenbelt/io/FrameInput" "position" "I" (.int (0 : Int32)) := F64
      have N61 := Fr.app N55 N61q
      refine own_viaT st61 ?_
      show own_Go p e below s _ _ _ (T61.setTop (mkF m 78 #[.val (.int p0), .val (.int p1), .val (.int p2), .val (.ref b1), .val (.int (3 : Int32)), .val (.int (0 : Int32)), .val (.ref b45), .unset, .unset, .unset, .unset] [(.int (0 : Int32))]))
      refine own_via (fun _ k => XS.istore X61.here hx rfl (hb hby at_78) rfl (l' := #[.val (.int p0), .val (.int p1), .val (.int p2), .val (.ref b1), .val (.int (3 : Int32)), .val (.int (0 : Int32)), .val (.ref b45), .val (.int (0 : Int32)), .unset, .unset, .unset]) rfl k) ?_
      show own_Go p e below s _ _ _ (T61.setTop (mkF m 80 #[.val (.int p0), .val (.int p1), .val (.int p2), .val (.ref b1), .val (.int (3 : Int32)), .val (.int (0 : Int32)), .val (.ref b45), .val (.int (0 : Int32)), .unset, .unset, .unset] []))
      refine own_via (fun _ k => XS.iload X61.here hx rfl (hb hby at_80) rfl k) ?_
      show own_Go p e below s _ _ _ (T61.setTop (mkF m 82 #[.val (.int p0), .val (.int p1), .val (.int p2), .val (.ref b1), .val (.int (3 : Int32)), .val (.int (0 : Int32)), .val (.ref b45), .val (.int (0 : Int32)), .unset, .unset, .unset] [(.int (0 : Int32))]))
      refine own_via (fun _ k => XS.iload X61.here hx rfl (hb hby at_82) rfl k) ?_
      show own_Go p e below s _ _ _ (T61.setTop (mkF m 84 #[.val (.int p0), .val (.int p1), .val (.int p2), .val (.ref b1), .val (.int (3 : Int32)), .val (.int (0 : Int32)), .val (.ref b45), .val (.int (0 : Int32)), .unset, .unset, .unset] [(.int (0 : Int32)), (.int (0 : Int32))]))
      refine own_via (fun _ k => XS.icmpYes X61.here hx rfl (pc0 := 84) (pc' := 89) rfl (hb hby at_84) rfl (Jvm.Free.XT.ii_eq_t (by decide)) (by decide) (by decide) k) ?_
      show own_Go p e below s _ _ _ (T61.setTop (mkF m 89 #[.val (.int p0), .val (.int p1), .val (.int p2), .val (.ref b1), .val (.int (3 : Int32)), .val (.int (0 : Int32)), .val (.ref b45), .val (.int (0 : Int32)), .unset, .unset, .unset] []))
      refine own_via (fun _ k => XS.aload X61.here hx rfl (hb hby at_89) rfl rfl k) ?_
      show own_Go p e below s _ _ _ (T61.setTop (mkF m 91 #[.val (.int p0), .val (.int p1), .val (.int p2), .val (.ref b1), .val (.int (3 : Int32)), .val (.int (0 : Int32)), .val (.ref b45), .val (.int (0 : Int32)), .unset, .unset, .unset] [(.ref b45)]))
      have F68 := ((F56.keep Kq55 (ninS ne_b1_b45 nin0)).keep Kq61 (ninS ne_b1_b45 nin0))
      obtain ⟨cq67, kq67, qa67, qb67, qc67⟩ := isOf hZ e61 F62
      obtain ⟨_, _, ⟨T67, L67, k67, n67⟩, -, X67, ⟨Lc67, hQ67, l67, y67, z67⟩, st67⟩ := X61.virtualBack hx (y := (⟨"com/example/greenbelt/greenbelt/io/FrameInput", "readUnsignedShort", "()I"⟩ : MethodName)) (z := (⟨"com/example/greenbelt/greenbelt/io/FrameInput", "readUnsignedShort", "()I"⟩ : MethodName)) hown (mvT hZ (hw _ (List.mem_of_getElem? (i := 47) rfl))) (mvT hZ (hw _ (List.mem_of_getElem? (i := 48) rfl))) (notFace_of_selects (args := #[]) (mvT hZ (hw _ (List.mem_of_getElem? (i := 50) rfl)))) (mvT hZ (hw _ (List.mem_of_getElem? (i := 50) rfl))) (mvT hZ (hw _ (List.mem_of_getElem? (i := 49) rfl))) (by decide) (backOf (W := 0) (rm10 l Z a0 hw [] b45 b1 (0 : Int32) (3 : Int32) k1 (4 : Int32) [(.int (nar .byte (o_i2b (o_iushr p0 (24 : Int32))))), (.int (nar .byte (o_i2b (o_iushr p0 (16 : Int32))))), (.int (nar .byte (o_i2b (o_iushr p0 (8 : Int32))))), (.int (nar .byte (o_i2b p0)))] (.int (0 : Int32)) (nar .byte (o_i2b (o_iushr p0 (24 : Int32)))) (nar .byte (o_i2b (o_iushr p0 (16 : Int32)))) h61 n0 Z61 F62 F63 F66 F65 g_b45 F68 (by decide) (by decide) (by decide) rfl rfl ne_b1_b45) hZ (hw _ (List.mem_of_getElem? (i := 51) rfl)) (hw _ (List.mem_of_getElem? (i := 4) rfl)) (by decide) (by decide)) qa67 qc67 (g := (mkF m 91 #[.val (.int p0), .val (.int p1), .val (.int p2), .val (.ref b1), .val (.int (3 : Int32)), .val (.int (0 : Int32)), .val (.ref b45), .val (.int (0 : Int32)), .unset, .unset, .unset] [(.ref b45)])) rfl (by rw [hml]; rfl) (Steps.refl _) (argsL := []) (rest := []) (lenOf pd_2 rfl) rfl (by show 2 * 0 + _ ≤ _; exact Nat.le_of_eq rfl) (hb hby at_91) (fun _ _ => ⟨rfl, e61, (by decide : 3 + 0 ≤ _), (by decide : 7 + 0 ≤ _)⟩)
      dsimp only [Pt.U, Pt.locs, Pt.cells, Pt.slots] at X67 l67 y67 z67 st67 hQ67
      subst l67 y67 z67
      obtain ⟨h67, e67⟩ : ∃ h, T67.heap = h := ⟨_, rfl⟩
      rw [e67] at hQ67
      obtain ⟨rfl, N67q, Kq67, F69, F70, F71, F72⟩ := hQ67
      have Z67 : n0 ≤ h67.size := Nat.le_trans Z61 Kq67.1
      have F73 : Fld Z h67 b45 "com/example/greenbelt/greenbelt/io/FrameInput" "position" "I" (.int (2 : Int32)) := F71
      have N67 := Fr.app N61 N67q
      refine own_viaT st67 ?_
      show own_Go p e below s _ _ _ (T67.setTop (mkF m 94 #[.val (.int p0), .val (.int p1), .val (.int p2), .val (.ref b1), .val (.int (3 : Int32)), .val (.int (0 : Int32)), .val (.ref b45), .val (.int (0 : Int32)), .unset, .unset, .unset] [(.int ((o_ishl ((nar .byte (o_i2b (o_iushr p0 (24 : Int32)))) &&& (255 : Int32)) (8 : Int32)) ||| ((nar .byte (o_i2b (o_iushr p0 (16 : Int32)))) &&& (255 : Int32))))]))
      refine own_via (fun _ k => XS.istore X67.here hx rfl (hb hby at_94) rfl (l' := #[.val (.int p0), .val (.int p1), .val (.int p2), .val (.ref b1), .val (.int (3 : Int32)), .val (.int (0 : Int32)), .val (.ref b45), .val (.int (0 : Int32)), .val (.int ((o_ishl ((nar .byte (o_i2b (o_iushr p0 (24 : Int32)))) &&& (255 : Int32)) (8 : Int32)) ||| ((nar .byte (o_i2b (o_iushr p0 (16 : Int32)))) &&& (255 : Int32)))), .unset, .unset]) rfl k) ?_
      show own_Go p e below s _ _ _ (T67.setTop (mkF m 96 #[.val (.int p0), .val (.int p1), .val (.int p2), .val (.ref b1), .val (.int (3 : Int32)), .val (.int (0 : Int32)), .val (.ref b45), .val (.int (0 : Int32)), .val (.int ((o_ishl ((nar .byte (o_i2b (o_iushr p0 (24 : Int32)))) &&& (255 : Int32)) (8 : Int32)) ||| ((nar .byte (o_i2b (o_iushr p0 (16 : Int32)))) &&& (255 : Int32)))), .unset, .unset] []))
      generalize hv74 : ((o_ishl ((nar .byte (o_i2b (o_iushr p0 (24 : Int32)))) &&& (255 : Int32)) (8 : Int32)) ||| ((nar .byte (o_i2b (o_iushr p0 (16 : Int32)))) &&& (255 : Int32))) = v74
      show own_Go p e below s _ _ _ (T67.setTop (mkF m 96 #[.val (.int p0), .val (.int p1), .val (.int p2), .val (.ref b1), .val (.int (3 : Int32)), .val (.int (0 : Int32)), .val (.ref b45), .val (.int (0 : Int32)), .val (.int v74), .unset, .unset] []))
      refine own_via (fun _ k => XS.bipush X67.here hx rfl (hb hby at_96) k) ?_
      show own_Go p e below s _ _ _ (T67.setTop (mkF m 98 #[.val (.int p0), .val (.int p1), .val (.int p2), .val (.ref b1), .val (.int (3 : Int32)), .val (.int (0 : Int32)), .val (.ref b45), .val (.int (0 : Int32)), .val (.int v74), .unset, .unset] [(.int (16 : Int32))]))
      refine own_via (fun _ k => XS.bipush X67.here hx rfl (hb hby at_98) k) ?_
      show own_Go p e below s _ _ _ (T67.setTop (mkF m 100 #[.val (.int p0), .val (.int p1), .val (.int p2), .val (.ref b1), .val (.int (3 : Int32)), .val (.int (0 : Int32)), .val (.ref b45), .val (.int (0 : Int32)), .val (.int v74), .unset, .unset] [(.int (8 : Int32)), (.int (16 : Int32))]))
      refine own_via (fun _ k => XS.iload X67.here hx rfl (hb hby at_100) rfl k) ?_
      show own_Go p e below s _ _ _ (T67.setTop (mkF m 102 #[.val (.int p0), .val (.int p1), .val (.int p2), .val (.ref b1), .val (.int (3 : Int32)), .val (.int (0 : Int32)), .val (.ref b45), .val (.int (0 : Int32)), .val (.int v74), .unset, .unset] [(.int (0 : Int32)), (.int (8 : Int32)), (.int (16 : Int32))]))
      refine own_via (fun _ k => XS.imul X67.here hx rfl (hb hby at_102) rfl k) ?_
      show own_Go p e below s _ _ _ (T67.setTop (mkF m 103 #[.val (.int p0), .val (.int p1), .val (.int p2), .val (.ref b1), .val (.int (3 : Int32)), .val (.int (0 : Int32)), .val (.ref b45), .val (.int (0 : Int32)), .val (.int v74), .unset, .unset] [(.int (0 : Int32)), (.int (16 : Int32))]))
      refine own_via (fun _ k => XS.isub X67.here hx rfl (hb hby at_103) rfl k) ?_
      show own_Go p e below s _ _ _ (T67.setTop (mkF m 104 #[.val (.int p0), .val (.int p1), .val (.int p2), .val (.ref b1), .val (.int (3 : Int32)), .val (.int (0 : Int32)), .val (.ref b45), .val (.int (0 : Int32)), .val (.int v74), .unset, .unset] [(.int (16 : Int32))]))
      refine own_via (fun _ k => XS.istore X67.here hx rfl (hb hby at_104) rfl (l' := #[.val (.int p0), .val (.int p1), .val (.int p2), .val (.ref b1), .val (.int (3 : Int32)), .val (.int (0 : Int32)), .val (.ref b45), .val (.int (0 : Int32)), .val (.int v74), .val (.int (16 : Int32)), .unset]) rfl k) ?_
      show own_Go p e below s _ _ _ (T67.setTop (mkF m 106 #[.val (.int p0), .val (.int p1), .val (.int p2), .val (.ref b1), .val (.int (3 : Int32)), .val (.int (0 : Int32)), .val (.ref b45), .val (.int (0 : Int32)), .val (.int v74), .val (.int (16 : Int32)), .unset] []))
      refine own_via (fun _ k => XS.iloadN X67.here hx rfl (hb hby at_106) rfl k) ?_
      show own_Go p e below s _ _ _ (T67.setTop (mkF m 107 #[.val (.int p0), .val (.int p1), .val (.int p2), .val (.ref b1), .val (.int (3 : Int32)), .val (.int (0 : Int32)), .val (.ref b45), .val (.int (0 : Int32)), .val (.int v74), .val (.int (16 : Int32)), .unset] [(.int p0)]))
      refine own_via (fun _ k => XS.iload X67.here hx rfl (hb hby at_107) rfl k) ?_
      show own_Go p e below s _ _ _ (T67.setTop (mkF m 109 #[.val (.int p0), .val (.int p1), .val (.int p2), .val (.ref b1), .val (.int (3 : Int32)), .val (.int (0 : Int32)), .val (.ref b45), .val (.int (0 : Int32)), .val (.int v74), .val (.int (16 : Int32)), .unset] [(.int (16 : Int32)), (.int p0)]))
      refine own_via (fun _ k => XS.iushr X67.here hx rfl (hb hby at_109) rfl k) ?_
      show own_Go p e below s _ _ _ (T67.setTop (mkF m 110 #[.val (.int p0), .val (.int p1), .val (.int p2), .val (.ref b1), .val (.int (3 : Int32)), .val (.int (0 : Int32)), .val (.ref b45), .val (.int (0 : Int32)), .val (.int v74), .val (.int (16 : Int32)), .unset] [(.int (o_iushr p0 (16 : Int32)))]))
      refine own_via (fun _ k => X67.ldcInt hx hown (mvT hZ (hw _ (List.mem_of_getElem? (i := 56) rfl))) (g := (mkF m 110 #[.val (.int p0), .val (.int p1), .val (.int p2), .val (.ref b1), .val (.int (3 : Int32)), .val (.int (0 : Int32)), .val (.ref b45), .val (.int (0 : Int32)), .val (.int v74), .val (.int (16 : Int32)), .unset] [(.int (o_iushr p0 (16 : Int32)))])) rfl (hb hby at_110) _ k) ?_
      show own_Go p e below s _ _ _ (T67.setTop (mkF m 112 #[.val (.int p0), .val (.int p1), .val (.int p2), .val (.ref b1), .val (.int (3 : Int32)), .val (.int (0 : Int32)), .val (.ref b45), .val (.int (0 : Int32)), .val (.int v74), .val (.int (16 : Int32)), .unset] [(.int (65535 : Int32)), (.int (o_iushr p0 (16 : Int32)))]))
      refine own_via (fun _ k => XS.iand X67.here hx rfl (hb hby at_112) rfl k) ?_
      show own_Go p e below s _ _ _ (T67.setTop (mkF m 113 #[.val (.int p0), .val (.int p1), .val (.int p2), .val (.ref b1), .val (.int (3 : Int32)), .val (.int (0 : Int32)), .val (.ref b45), .val (.int (0 : Int32)), .val (.int v74), .val (.int (16 : Int32)), .unset] [(.int ((o_iushr p0 (16 : Int32)) &&& (65535 : Int32)))]))
      refine own_via (fun _ k => XS.istore X67.here hx rfl (hb hby at_113) rfl (l' := #[.val (.int p0), .val (.int p1), .val (.int p2), .val (.ref b1), .val (.int (3 : Int32)), .val (.int (0 : Int32)), .val (.ref b45), .val (.int (0 : Int32)), .val (.int v74), .val (.int (16 : Int32)), .val (.int ((o_iushr p0 (16 : Int32)) &&& (65535 : Int32)))]) rfl k) ?_
      show own_Go p e below s _ _ _ (T67.setTop (mkF m 115 #[.val (.int p0), .val (.int p1), .val (.int p2), .val (.ref b1), .val (.int (3 : Int32)), .val (.int (0 : Int32)), .val (.ref b45), .val (.int (0 : Int32)), .val (.int v74), .val (.int (16 : Int32)), .val (.int ((o_iushr p0 (16 : Int32)) &&& (65535 : Int32)))] []))
      generalize hv75 : ((o_iushr p0 (16 : Int32)) &&& (65535 : Int32)) = v75
      show own_Go p e below s _ _ _ (T67.setTop (mkF m 115 #[.val (.int p0), .val (.int p1), .val (.int p2), .val (.ref b1), .val (.int (3 : Int32)), .val (.int (0 : Int32)), .val (.ref b45), .val (.int (0 : Int32)), .val (.int v74), .val (.int (16 : Int32)), .val (.int v75)] []))
      refine own_via (fun _ k => XS.iload X67.here hx rfl (hb hby at_115) rfl k) ?_
      show own_Go p e below s _ _ _ (T67.setTop (mkF m 117 #[.val (.int p0), .val (.int p1), .val (.int p2), .val (.ref b1), .val (.int (3 : Int32)), .val (.int (0 : Int32)), .val (.ref b45), .val (.int (0 : Int32)), .val (.int v74), .val (.int (16 : Int32)), .val (.int v75)] [(.int v74)]))
      refine own_via (fun _ k => XS.iload X67.here hx rfl (hb hby at_117) rfl k) ?_
      show own_Go p e below s _ _ _ (T67.setTop (mkF m 119 #[.val (.int p0), .val (.int p1), .val (.int p2), .val (.ref b1), .val (.int (3 : Int32)), .val (.int (0 : Int32)), .val (.ref b45), .val (.int (0 : Int32)), .val (.int v74), .val (.int (16 : Int32)), .val (.int v75)] [(.int v75), (.int v74)]))
      have hh76 : v74 = v75 := by rw [← hv74, ← hv75]; exact own_t0 p0
      have hc77 : v74 = v75 := hh76
      refine own_via (fun _ k => XS.icmpYes X67.here hx rfl (pc0 := 119) (pc' := 124) rfl (hb hby at_119) rfl (Jvm.Free.XT.ii_eq_t hc77) (by decide) (by decide) k) ?_
      show own_Go p e below s _ _ _ (T67.setTop (mkF m 124 #[.val (.int p0), .val (.int p1), .val (.int p2), .val (.ref b1), .val (.int (3 : Int32)), .val (.int (0 : Int32)), .val (.ref b45), .val (.int (0 : Int32)), .val (.int v74), .val (.int (16 : Int32)), .val (.int v75)] []))
      refine own_via (fun _ k => XS.iload X67.here hx rfl (hb hby at_124) rfl k) ?_
      show own_Go p e below s _ _ _ (T67.setTop (mkF m 126 #[.val (.int p0), .val (.int p1), .val (.int p2), .val (.ref b1), .val (.int (3 : Int32)), .val (.int (0 : Int32)), .val (.ref b45), .val (.int (0 : Int32)), .val (.int v74), .val (.int (16 : Int32)), .val (.int v75)] [(.int v74)]))
      have hc78 : ¬ (v74 < (0 : Int32)) := (own_rg hv75 hh76).1
      refine own_via (fun _ k => XS.ifNo X67.here hx rfl (hb hby at_126) rfl (Jvm.Free.XT.i0_lt_f hc78) k) ?_
      show own_Go p e below s _ _ _ (T67.setTop (mkF m 129 #[.val (.int p0), .val (.int p1), .val (.int p2), .val (.ref b1), .val (.int (3 : Int32)), .val (.int (0 : Int32)), .val (.ref b45), .val (.int (0 : Int32)), .val (.int v74), .val (.int (16 : Int32)), .val (.int v75)] []))
      refine own_via (fun _ k => XS.iload X67.here hx rfl (hb hby at_129) rfl k) ?_
      show own_Go p e below s _ _ _ (T67.setTop (mkF m 131 #[.val (.int p0), .val (.int p1), .val (.int p2), .val (.ref b1), .val (.int (3 : Int32)), .val (.int (0 : Int32)), .val (.ref b45), .val (.int (0 : Int32)), .val (.int v74), .val (.int (16 : Int32)), .val (.int v75)] [(.int v74)]))
      refine own_via (fun _ k => X67.ldcInt hx hown (mvT hZ (hw _ (List.mem_of_getElem? (i := 56) rfl))) (g := (mkF m 131 #[.val (.int p0), .val (.int p1), .val (.int p2), .val (.ref b1), .val (.int (3 : Int32)), .val (.int (0 : Int32)), .val (.ref b45), .val (.int (0 : Int32)), .val (.int v74), .val (.int (16 : Int32)), .val (.int v75)] [(.int v74)])) rfl (hb hby at_131) _ k) ?_
      show own_Go p e below s _ _ _ (T67.setTop (mkF m 133 #[.val (.int p0), .val (.int p1), .val (.int p2), .val (.ref b1), .val (.int (3 : Int32)), .val (.int (0 : Int32)), .val (.ref b45), .val (.int (0 : Int32)), .val (.int v74), .val (.int (16 : Int32)), .val (.int v75)] [(.int (65535 : Int32)), (.int v74)]))
      have hc79 : ¬ ((65535 : Int32) < v74) := (own_rg hv75 hh76).2
      refine own_via (fun _ k => XS.icmpYes X67.here hx rfl (pc0 := 133) (pc' := 138) rfl (hb hby at_133) rfl (Jvm.Free.XT.ii_le_t hc79) (by decide) (by decide) k) ?_
      show own_Go p e below s _ _ _ (T67.setTop (mkF m 138 #[.val (.int p0), .val (.int p1), .val (.int p2), .val (.ref b1), .val (.int (3 : Int32)), .val (.int (0 : Int32)), .val (.ref b45), .val (.int (0 : Int32)), .val (.int v74), .val (.int (16 : Int32)), .val (.int v75)] []))
      refine own_via (fun _ k => XS.aload X67.here hx rfl (hb hby at_138) rfl rfl k) ?_
      show own_Go p e below s _ _ _ (T67.setTop (mkF m 140 #[.val (.int p0), .val (.int p1), .val (.int p2), .val (.ref b1), .val (.int (3 : Int32)), .val (.int (0 : Int32)), .val (.ref b45), .val (.int (0 : Int32)), .val (.int v74), .val (.int (16 : Int32)), .val (.int v75)] [(.ref b45)]))
      obtain ⟨cq80, kq80, qa80, qb80, qc80⟩ := isOf hZ e67 F69
      obtain ⟨_, _, ⟨T80, L80, k80, n80⟩, -, X80, ⟨Lc80, hQ80, l80, y80, z80⟩, st80⟩ := X67.virtualBack hx (y := (⟨"com/example/greenbelt/greenbelt/io/FrameInput", "remaining", "()I"⟩ : MethodName)) (z := (⟨"com/example/greenbelt/greenbelt/io/FrameInput", "remaining", "()I"⟩ : MethodName)) hown (mvT hZ (hw _ (List.mem_of_getElem? (i := 57) rfl))) (mvT hZ (hw _ (List.mem_of_getElem? (i := 36) rfl))) (notFace_of_selects (args := #[]) (mvT hZ (hw _ (List.mem_of_getElem? (i := 38) rfl)))) (mvT hZ (hw _ (List.mem_of_getElem? (i := 38) rfl))) (mvT hZ (hw _ (List.mem_of_getElem? (i := 37) rfl))) (by decide) (backOf (W := 0) (rm7 l Z a0 hw [] b45 (3 : Int32) (2 : Int32) h67 n0 Z67 F72 F73) hZ (hw _ (List.mem_of_getElem? (i := 39) rfl)) (hw _ (List.mem_of_getElem? (i := 4) rfl)) (by decide) (by decide)) qa80 qc80 (g := (mkF m 140 #[.val (.int p0), .val (.int p1), .val (.int p2), .val (.ref b1), .val (.int (3 : Int32)), .val (.int (0 : Int32)), .val (.ref b45), .val (.int (0 : Int32)), .val (.int v74), .val (.int (16 : Int32)), .val (.int v75)] [(.ref b45)])) rfl (by rw [hml]; rfl) (Steps.refl _) (argsL := []) (rest := []) (lenOf pd_2 rfl) rfl (by show 2 * 0 + _ ≤ _; exact Nat.le_of_eq rfl) (hb hby at_140) (fun _ _ => ⟨rfl, e67, (by decide : 3 + 0 ≤ _), (by decide : 7 + 0 ≤ _)⟩)
      dsimp only [Pt.U, Pt.locs, Pt.cells, Pt.slots] at X80 l80 y80 z80 st80 hQ80
      subst l80 y80 z80
      obtain ⟨rfl, N80q, e80⟩ := hQ80
      have N80 := Fr.app N67 N80q
      refine own_viaT st80 ?_
      show own_Go p e below s _ _ _ (T80.setTop (mkF m 143 #[.val (.int p0), .val (.int p1), .val (.int p2), .val (.ref b1), .val (.int (3 : Int32)), .val (.int (0 : Int32)), .val (.ref b45), .val (.int (0 : Int32)), .val (.int v74), .val (.int (16 : Int32)), .val (.int v75)] [(.int (1 : Int32))]))
      refine own_via (fun _ k => XS.iload X80.here hx rfl (hb hby at_143) rfl k) ?_
      show own_Go p e below s _ _ _ (T80.setTop (mkF m 145 #[.val (.int p0), .val (.int p1), .val (.int p2), .val (.ref b1), .val (.int (3 : Int32)), .val (.int (0 : Int32)), .val (.ref b45), .val (.int (0 : Int32)), .val (.int v74), .val (.int (16 : Int32)), .val (.int v75)] [(.int (3 : Int32)), (.int (1 : Int32))]))
      refine own_via (fun _ k => XS.iload X80.here hx rfl (hb hby at_145) rfl k) ?_
      show own_Go p e below s _ _ _ (T80.setTop (mkF m 147 #[.val (.int p0), .val (.int p1), .val (.int p2), .val (.ref b1), .val (.int (3 : Int32)), .val (.int (0 : Int32)), .val (.ref b45), .val (.int (0 : Int32)), .val (.int v74), .val (.int (16 : Int32)), .val (.int v75)] [(.int (0 : Int32)), (.int (3 : Int32)), (.int (1 : Int32))]))
      refine own_via (fun _ k => XS.isub X80.here hx rfl (hb hby at_147) rfl k) ?_
      show own_Go p e below s _ _ _ (T80.setTop (mkF m 148 #[.val (.int p0), .val (.int p1), .val (.int p2), .val (.ref b1), .val (.int (3 : Int32)), .val (.int (0 : Int32)), .val (.ref b45), .val (.int (0 : Int32)), .val (.int v74), .val (.int (16 : Int32)), .val (.int v75)] [(.int (3 : Int32)), (.int (1 : Int32))]))
      refine own_via (fun _ k => XS.iconst X80.here hx rfl (hb hby at_148) k) ?_
      show own_Go p e below s _ _ _ (T80.setTop (mkF m 149 #[.val (.int p0), .val (.int p1), .val (.int p2), .val (.ref b1), .val (.int (3 : Int32)), .val (.int (0 : Int32)), .val (.ref b45), .val (.int (0 : Int32)), .val (.int v74), .val (.int (16 : Int32)), .val (.int v75)] [(.int (2 : Int32)), (.int (3 : Int32)), (.int (1 : Int32))]))
      refine own_via (fun _ k => XS.isub X80.here hx rfl (hb hby at_149) rfl k) ?_
      show own_Go p e below s _ _ _ (T80.setTop (mkF m 150 #[.val (.int p0), .val (.int p1), .val (.int p2), .val (.ref b1), .val (.int (3 : Int32)), .val (.int (0 : Int32)), .val (.ref b45), .val (.int (0 : Int32)), .val (.int v74), .val (.int (16 : Int32)), .val (.int v75)] [(.int (1 : Int32)), (.int (1 : Int32))]))
      refine own_via (fun _ k => XS.icmpNo X80.here hx rfl (hb hby at_150) rfl (Jvm.Free.XT.ii_ne_f (by decide)) k) ?_
      show own_Go p e below s _ _ _ (T80.setTop (mkF m 153 #[.val (.int p0), .val (.int p1), .val (.int p2), .val (.ref b1), .val (.int (3 : Int32)), .val (.int (0 : Int32)), .val (.ref b45), .val (.int (0 : Int32)), .val (.int v74), .val (.int (16 : Int32)), .val (.int v75)] []))
      refine own_via (fun _ k => XS.iconst X80.here hx rfl (hb hby at_153) k) ?_
      show own_Go p e below s _ _ _ (T80.setTop (mkF m 154 #[.val (.int p0), .val (.int p1), .val (.int p2), .val (.ref b1), .val (.int (3 : Int32)), .val (.int (0 : Int32)), .val (.ref b45), .val (.int (0 : Int32)), .val (.int v74), .val (.int (16 : Int32)), .val (.int v75)] [(.int (1 : Int32))]))
      refine own_via (fun _ k => XS.goto X80.here hx rfl (pc0 := 154) (pc' := 158) rfl (hb hby at_154) (by decide) (by decide) k) ?_
      show own_Go p e below s _ _ _ (T80.setTop (mkF m 158 #[.val (.int p0), .val (.int p1), .val (.int p2), .val (.ref b1), .val (.int (3 : Int32)), .val (.int (0 : Int32)), .val (.ref b45), .val (.int (0 : Int32)), .val (.int v74), .val (.int (16 : Int32)), .val (.int v75)] [(.int (1 : Int32))]))
      exact own_goN X80 hx (t := .boolean) Bd.returns (by simp) (hb hby at_158) Bd.notSynchronized (by decide) (by decide) (by rw [e80]; exact ⟨rfl, N80⟩)
    · show own_Go p e below s _ _ _ (T5.setTop (mkF m 54 #[.val (.int p0), .val (.int p1), .val (.int p2), .val (.ref b1), .val (.int (3 : Int32)), .val (.int (1 : Int32)), .unset, .unset, .unset, .unset, .unset] []))
      obtain ⟨T81, h81, X81, e81, E81, A81, D81, -, st81⟩ := newO X5 hx hZ hown (hw _ (List.mem_of_getElem? (i := 2) rfl)) (hw _ (List.mem_of_getElem? (i := 3) rfl)) (hw _ (List.mem_of_getElem? (i := 4) rfl)) e5 (g := (mkF m 54 #[.val (.int p0), .val (.int p1), .val (.int p2), .val (.ref b1), .val (.int (3 : Int32)), .val (.int (1 : Int32)), .unset, .unset, .unset, .unset, .unset] [])) rfl (hb hby at_54) (by decide) (by decide)
      obtain ⟨b81, gg81⟩ : ∃ z, z = h5.size := ⟨_, rfl⟩
      rw [← gg81] at A81 D81 st81
      have ne_b1_b81 : b1 ≠ b81 := Nat.ne_of_lt (Nat.lt_of_lt_of_le V5.lt (Nat.le_of_eq gg81.symm))
      have g_b81 : n0 ≤ b81 := Nat.le_trans Z5 (Nat.le_of_eq gg81.symm)
      have Z81 : n0 ≤ h81.size := Nat.le_trans Z5 E81.1
      have F82 : Fld Z h81 b81 "com/example/greenbelt/greenbelt/io/FrameInput" "bytes" "[B" .null := D81 (Or.inl (hw _ (List.mem_of_getElem? (i := 12) rfl))) (ty := (.array .byte)) (by decide)
      have F83 : Fld Z h81 b81 "com/example/greenbelt/greenbelt/io/FrameInput" "position" "I" (.int (0 : Int32)) := D81 (Or.inl (hw _ (List.mem_of_getElem? (i := 27) rfl))) (ty := .int) (by decide)
      have F84 : Fld Z h81 b81 "com/example/greenbelt/greenbelt/io/FrameInput" "end" "I" (.int (0 : Int32)) := D81 (Or.inl (hw _ (List.mem_of_getElem? (i := 29) rfl))) (ty := .int) (by decide)
      refine own_via st81 ?_
      show own_Go p e below s _ _ _ (T81.setTop (mkF m 57 #[.val (.int p0), .val (.int p1), .val (.int p2), .val (.ref b1), .val (.int (3 : Int32)), .val (.int (1 : Int32)), .unset, .unset, .unset, .unset, .unset] [(.ref b81)]))
      refine own_via (fun _ k => XS.dup X81.here hx rfl (hb hby at_57) rfl rfl k) ?_
      show own_Go p e below s _ _ _ (T81.setTop (mkF m 58 #[.val (.int p0), .val (.int p1), .val (.int p2), .val (.ref b1), .val (.int (3 : Int32)), .val (.int (1 : Int32)), .unset, .unset, .unset, .unset, .unset] [(.ref b81), (.ref b81)]))
      obtain ⟨_, _, ⟨T85, L85, k85, n85⟩, -, X85, ⟨Lc85, hQ85, l85, y85, z85⟩, st85⟩ := X81.specialBack hx (y := (⟨"com/example/greenbelt/greenbelt/io/FrameInput", "<init>", "()V"⟩ : MethodName)) rfl hown (mvT hZ (hw _ (List.mem_of_getElem? (i := 5) rfl))) (mvT hZ (hw _ (List.mem_of_getElem? (i := 6) rfl))) (mvT hZ (hw _ (List.mem_of_getElem? (i := 7) rfl))) (by decide) (backOf (W := 1) (rm1 l Z a0 hw [] b81 h81 n0 Z81 A81 F82 F83 F84 g_b81) hZ (hw _ (List.mem_of_getElem? (i := 7) rfl)) (hw _ (List.mem_of_getElem? (i := 4) rfl)) (by decide) (by decide)) (g := (mkF m 58 #[.val (.int p0), .val (.int p1), .val (.int p2), .val (.ref b1), .val (.int (3 : Int32)), .val (.int (1 : Int32)), .unset, .unset, .unset, .unset, .unset] [(.ref b81), (.ref b81)])) rfl (by rw [hml]; rfl) (Steps.refl _) (a := b81) (argsL := []) (rest := [(.ref b81)]) (lenOf pd_5 rfl) rfl (by show 2 * 0 + _ ≤ _; exact Nat.le_of_eq rfl) (hb hby at_58) (fun _ _ => ⟨rfl, e81, (by decide : 2 + 1 ≤ _), (by decide : 7 + 0 ≤ _)⟩)
      dsimp only [Pt.U, Pt.locs, Pt.cells, Pt.slots] at X85 l85 y85 z85 st85 hQ85
      subst l85 y85 z85
      obtain ⟨h85, e85⟩ : ∃ h, T85.heap = h := ⟨_, rfl⟩
      rw [e85] at hQ85
      obtain ⟨b_85, rfl, N85q, Kq85, F86, F87, F88, F89, F90⟩ := hQ85
      have ne_b1_b_85 : b1 ≠ b_85 := Nat.ne_of_lt (Nat.lt_of_lt_of_le (V5.ext E81).lt F86)
      have ne_b81_b_85 : b81 ≠ b_85 := Nat.ne_of_lt (Nat.lt_of_lt_of_le A81.lt F86)
      have g_b_85 : n0 ≤ b_85 := Nat.le_trans Z81 F86
      have Z85 : n0 ≤ h85.size := Nat.le_trans Z81 Kq85.1
      have N85 := Fr.app N5 N85q
      refine own_viaT st85 ?_
      show own_Go p e below s _ _ _ (T85.setTop (mkF m 61 #[.val (.int p0), .val (.int p1), .val (.int p2), .val (.ref b1), .val (.int (3 : Int32)), .val (.int (1 : Int32)), .unset, .unset, .unset, .unset, .unset] [(.ref b81)]))
      refine own_via (fun _ k => XS.astore X85.here hx rfl (hb hby at_61) rfl rfl (l' := #[.val (.int p0), .val (.int p1), .val (.int p2), .val (.ref b1), .val (.int (3 : Int32)), .val (.int (1 : Int32)), .val (.ref b81), .unset, .unset, .unset, .unset]) rfl k) ?_
      show own_Go p e below s _ _ _ (T85.setTop (mkF m 63 #[.val (.int p0), .val (.int p1), .val (.int p2), .val (.ref b1), .val (.int (3 : Int32)), .val (.int (1 : Int32)), .val (.ref b81), .unset, .unset, .unset, .unset] []))
      refine own_via (fun _ k => XS.aload X85.here hx rfl (hb hby at_63) rfl rfl k) ?_
      show own_Go p e below s _ _ _ (T85.setTop (mkF m 65 #[.val (.int p0), .val (.int p1), .val (.int p2), .val (.ref b1), .val (.int (3 : Int32)), .val (.int (1 : Int32)), .val (.ref b81), .unset, .unset, .unset, .unset] [(.ref b81)]))
      refine own_via (fun _ k => XS.aloadN X85.here hx rfl (hb hby at_65) rfl rfl k) ?_
      show own_Go p e below s _ _ _ (T85.setTop (mkF m 66 #[.val (.int p0), .val (.int p1), .val (.int p2), .val (.ref b1), .val (.int (3 : Int32)), .val (.int (1 : Int32)), .val (.ref b81), .unset, .unset, .unset, .unset] [(.ref b1), (.ref b81)]))
      refine own_via (fun _ k => XS.iload X85.here hx rfl (hb hby at_66) rfl k) ?_
      show own_Go p e below s _ _ _ (T85.setTop (mkF m 68 #[.val (.int p0), .val (.int p1), .val (.int p2), .val (.ref b1), .val (.int (3 : Int32)), .val (.int (1 : Int32)), .val (.ref b81), .unset, .unset, .unset, .unset] [(.int (3 : Int32)), (.ref b1), (.ref b81)]))
      have F92 := ((V5.ext E81).keep Kq85 (ninS ne_b1_b81 nin0))
      obtain ⟨cq91, kq91, qa91, qb91, qc91⟩ := isOf hZ e85 F87
      obtain ⟨_, _, ⟨T91, L91, k91, n91⟩, -, X91, ⟨Lc91, hQ91, l91, y91, z91⟩, st91⟩ := X85.virtualBack hx (y := (⟨"com/example/greenbelt/greenbelt/io/FrameInput", "reset", "([BI)V"⟩ : MethodName)) (z := (⟨"com/example/greenbelt/greenbelt/io/FrameInput", "reset", "([BI)V"⟩ : MethodName)) hown (mvT hZ (hw _ (List.mem_of_getElem? (i := 13) rfl))) (mvT hZ (hw _ (List.mem_of_getElem? (i := 14) rfl))) (notFace_of_selects (args := #[]) (mvT hZ (hw _ (List.mem_of_getElem? (i := 16) rfl)))) (mvT hZ (hw _ (List.mem_of_getElem? (i := 16) rfl))) (mvT hZ (hw _ (List.mem_of_getElem? (i := 15) rfl))) (by decide) (backOf (W := 0) (rm3 l Z a0 hw [] b81 b1 (3 : Int32) (.ref b_85) k1 (4 : Int32) [(.int (nar .byte (o_i2b (o_iushr p0 (24 : Int32))))), (.int (nar .byte (o_i2b (o_iushr p0 (16 : Int32))))), (.int (nar .byte (o_i2b (o_iushr p0 (8 : Int32))))), (.int (nar .byte (o_i2b p0)))] (.int (0 : Int32)) h85 n0 Z85 F87 F88 F89 F90 F92 g_b81 (by first | decide | (simp; done)) (by first | decide | (simp; done))) hZ (hw _ (List.mem_of_getElem? (i := 17) rfl)) (hw _ (List.mem_of_getElem? (i := 4) rfl)) (by decide) (by decide)) qa91 qc91 (g := (mkF m 68 #[.val (.int p0), .val (.int p1), .val (.int p2), .val (.ref b1), .val (.int (3 : Int32)), .val (.int (1 : Int32)), .val (.ref b81), .unset, .unset, .unset, .unset] [(.int (3 : Int32)), (.ref b1), (.ref b81)])) rfl (by rw [hml]; rfl) (Steps.refl _) (argsL := [(.ref b1), (.int (3 : Int32))]) (rest := []) (lenOf pd_6 rfl) rfl (by show 2 * 0 + _ ≤ _; exact Nat.le_of_eq rfl) (hb hby at_68) (fun _ _ => ⟨rfl, e85, (by decide : 3 + 0 ≤ _), (by decide : 7 + 0 ≤ _)⟩)
      dsimp only [Pt.U, Pt.locs, Pt.cells, Pt.slots] at X91 l91 y91 z91 st91 hQ91
      subst l91 y91 z91
      obtain ⟨h91, e91⟩ : ∃ h, T91.heap = h := ⟨_, rfl⟩
      rw [e91] at hQ91
      obtain ⟨rfl, N91q, Kq91, F93, F94, F95, F96⟩ := hQ91
      have Z91 : n0 ≤ h91.size := Nat.le_trans Z85 Kq91.1
      have N91 := Fr.app N85 N91q
      refine own_viaT st91 ?_
      show own_Go p e below s _ _ _ (T91.setTop (mkF m 71 #[.val (.int p0), .val (.int p1), .val (.int p2), .val (.ref b1), .val (.int (3 : Int32)), .val (.int (1 : Int32)), .val (.ref b81), .unset, .unset, .unset, .unset] []))
      refine own_via (fun _ k => XS.aload X91.here hx rfl (hb hby at_71) rfl rfl k) ?_
      show own_Go p e below s _ _ _ (T91.setTop (mkF m 73 #[.val (.int p0), .val (.int p1), .val (.int p2), .val (.ref b1), .val (.int (3 : Int32)), .val (.int (1 : Int32)), .val (.ref b81), .unset, .unset, .unset, .unset] [(.ref b81)]))
      refine own_via (fun _ k => XS.iload X91.here hx rfl (hb hby at_73) rfl k) ?_
      show own_Go p e below s _ _ _ (T91.setTop (mkF m 75 #[.val (.int p0), .val (.int p1), .val (.int p2), .val (.ref b1), .val (.int (3 : Int32)), .val (.int (1 : Int32)), .val (.ref b81), .unset, .unset, .unset, .unset] [(.int (1 : Int32)), (.ref b81)]))
      obtain ⟨cq97, kq97, qa97, qb97, qc97⟩ := isOf hZ e91 F93
      obtain ⟨_, _, ⟨T97, L97, k97, n97⟩, -, X97, ⟨Lc97, hQ97, l97, y97, z97⟩, st97⟩ := X91.virtualBack hx (y := (⟨"com/example/greenbelt/greenbelt/io/FrameInput", "skipBytes", "(I)I"⟩ : MethodName)) (z := (⟨"com/example/greenbelt/greenbelt/io/FrameInput", "skipBytes", "(I)I"⟩ : MethodName)) hown (mvT hZ (hw _ (List.mem_of_getElem? (i := 30) rfl))) (mvT hZ (hw _ (List.mem_of_getElem? (i := 31) rfl))) (notFace_of_selects (args := #[]) (mvT hZ (hw _ (List.mem_of_getElem? (i := 33) rfl)))) (mvT hZ (hw _ (List.mem_of_getElem? (i := 33) rfl))) (mvT hZ (hw _ (List.mem_of_getElem? (i := 32) rfl))) (by decide) (backOf (W := 0) (rm6 l Z a0 hw [] b81 (1 : Int32) (3 : Int32) (0 : Int32) (.ref b1) h91 n0 Z91 F93 F94 F95 F96 g_b81 (by first | decide | (simp; done)) (by first | decide | (simp; done))) hZ (hw _ (List.mem_of_getElem? (i := 34) rfl)) (hw _ (List.mem_of_getElem? (i := 4) rfl)) (by decide) (by decide)) qa97 qc97 (g := (mkF m 75 #[.val (.int p0), .val (.int p1), .val (.int p2), .val (.ref b1), .val (.int (3 : Int32)), .val (.int (1 : Int32)), .val (.ref b81), .unset, .unset, .unset, .unset] [(.int (1 : Int32)), (.ref b81)])) rfl (by rw [hml]; rfl) (Steps.refl _) (argsL := [(.int (1 : Int32))]) (rest := []) (lenOf pd_4 rfl) rfl (by show 2 * 0 + _ ≤ _; exact Nat.le_of_eq rfl) (hb hby at_75) (fun _ _ => ⟨rfl, e91, (by decide : 3 + 0 ≤ _), (by decide : 7 + 0 ≤ _)⟩)
      dsimp only [Pt.U, Pt.locs, Pt.cells, Pt.slots] at X97 l97 y97 z97 st97 hQ97
      subst l97 y97 z97
      obtain ⟨h97, e97⟩ : ∃ h, T97.heap = h := ⟨_, rfl⟩
      rw [e97] at hQ97
      obtain ⟨rfl, N97q, Kq97, F98, F99, F100, F101⟩ := hQ97
      have Z97 : n0 ≤ h97.size := Nat.le_trans Z91 Kq97.1
      have F102 : Fld Z h97 b81 "com/example/greenbelt/greenbelt/io/FrameInput" "position" "I" (.int (1 : Int32)) := F100
      have N97 := Fr.app N91 N97q
      refine own_viaT st97 ?_
      show own_Go p e below s _ _ _ (T97.setTop (mkF m 78 #[.val (.int p0), .val (.int p1), .val (.int p2), .val (.ref b1), .val (.int (3 : Int32)), .val (.int (1 : Int32)), .val (.ref b81), .unset, .unset, .unset, .unset] [(.int (1 : Int32))]))
      refine own_via (fun _ k => XS.istore X97.here hx rfl (hb hby at_78) rfl (l' := #[.val (.int p0), .val (.int p1), .val (.int p2), .val (.ref b1), .val (.int (3 : Int32)), .val (.int (1 : Int32)), .val (.ref b81), .val (.int (1 : Int32)), .unset, .unset, .unset]) rfl k) ?_
      show own_Go p e below s _ _ _ (T97.setTop (mkF m 80 #[.val (.int p0), .val (.int p1), .val (.int p2), .val (.ref b1), .val (.int (3 : Int32)), .val (.int (1 : Int32)), .val (.ref b81), .val (.int (1 : Int32)), .unset, .unset, .unset] []))
      refine own_via (fun _ k => XS.iload X97.here hx rfl (hb hby at_80) rfl k) ?_
      show own_Go p e below s _ _ _ (T97.setTop (mkF m 82 #[.val (.int p0), .val (.int p1), .val (.int p2), .val (.ref b1), .val (.int (3 : Int32)), .val (.int (1 : Int32)), .val (.ref b81), .val (.int (1 : Int32)), .unset, .unset, .unset] [(.int (1 : Int32))]))
      refine own_via (fun _ k => XS.iload X97.here hx rfl (hb hby at_82) rfl k) ?_
      show own_Go p e below s _ _ _ (T97.setTop (mkF m 84 #[.val (.int p0), .val (.int p1), .val (.int p2), .val (.ref b1), .val (.int (3 : Int32)), .val (.int (1 : Int32)), .val (.ref b81), .val (.int (1 : Int32)), .unset, .unset, .unset] [(.int (1 : Int32)), (.int (1 : Int32))]))
      refine own_via (fun _ k => XS.icmpYes X97.here hx rfl (pc0 := 84) (pc' := 89) rfl (hb hby at_84) rfl (Jvm.Free.XT.ii_eq_t (by decide)) (by decide) (by decide) k) ?_
      show own_Go p e below s _ _ _ (T97.setTop (mkF m 89 #[.val (.int p0), .val (.int p1), .val (.int p2), .val (.ref b1), .val (.int (3 : Int32)), .val (.int (1 : Int32)), .val (.ref b81), .val (.int (1 : Int32)), .unset, .unset, .unset] []))
      refine own_via (fun _ k => XS.aload X97.here hx rfl (hb hby at_89) rfl rfl k) ?_
      show own_Go p e below s _ _ _ (T97.setTop (mkF m 91 #[.val (.int p0), .val (.int p1), .val (.int p2), .val (.ref b1), .val (.int (3 : Int32)), .val (.int (1 : Int32)), .val (.ref b81), .val (.int (1 : Int32)), .unset, .unset, .unset] [(.ref b81)]))
      have F104 := ((F92.keep Kq91 (ninS ne_b1_b81 nin0)).keep Kq97 (ninS ne_b1_b81 nin0))
      obtain ⟨cq103, kq103, qa103, qb103, qc103⟩ := isOf hZ e97 F98
      obtain ⟨_, _, ⟨T103, L103, k103, n103⟩, -, X103, ⟨Lc103, hQ103, l103, y103, z103⟩, st103⟩ := X97.virtualBack hx (y := (⟨"com/example/greenbelt/greenbelt/io/FrameInput", "readUnsignedShort", "()I"⟩ : MethodName)) (z := (⟨"com/example/greenbelt/greenbelt/io/FrameInput", "readUnsignedShort", "()I"⟩ : MethodName)) hown (mvT hZ (hw _ (List.mem_of_getElem? (i := 47) rfl))) (mvT hZ (hw _ (List.mem_of_getElem? (i := 48) rfl))) (notFace_of_selects (args := #[]) (mvT hZ (hw _ (List.mem_of_getElem? (i := 50) rfl)))) (mvT hZ (hw _ (List.mem_of_getElem? (i := 50) rfl))) (mvT hZ (hw _ (List.mem_of_getElem? (i := 49) rfl))) (by decide) (backOf (W := 0) (rm10 l Z a0 hw [] b81 b1 (1 : Int32) (3 : Int32) k1 (4 : Int32) [(.int (nar .byte (o_i2b (o_iushr p0 (24 : Int32))))), (.int (nar .byte (o_i2b (o_iushr p0 (16 : Int32))))), (.int (nar .byte (o_i2b (o_iushr p0 (8 : Int32))))), (.int (nar .byte (o_i2b p0)))] (.int (0 : Int32)) (nar .byte (o_i2b (o_iushr p0 (16 : Int32)))) (nar .byte (o_i2b (o_iushr p0 (8 : Int32)))) h97 n0 Z97 F98 F99 F102 F101 g_b81 F104 (by decide) (by decide) (by decide) rfl rfl ne_b1_b81) hZ (hw _ (List.mem_of_getElem? (i := 51) rfl)) (hw _ (List.mem_of_getElem? (i := 4) rfl)) (by decide) (by decide)) qa103 qc103 (g := (mkF m 91 #[.val (.int p0), .val (.int p1), .val (.int p2), .val (.ref b1), .val (.int (3 : Int32)), .val (.int (1 : Int32)), .val (.ref b81), .val (.int (1 : Int32)), .unset, .unset, .unset] [(.ref b81)])) rfl (by rw [hml]; rfl) (Steps.refl _) (argsL := []) (rest := []) (lenOf pd_2 rfl) rfl (by show 2 * 0 + _ ≤ _; exact Nat.le_of_eq rfl) (hb hby at_91) (fun _ _ => ⟨rfl, e97, (by decide : 3 + 0 ≤ _), (by decide : 7 + 0 ≤ _)⟩)
      dsimp only [Pt.U, Pt.locs, Pt.cells, Pt.slots] at X103 l103 y103 z103 st103 hQ103
      subst l103 y103 z103
      obtain ⟨h103, e103⟩ : ∃ h, T103.heap = h := ⟨_, rfl⟩
      rw [e103] at hQ103
      obtain ⟨rfl, N103q, Kq103, F105, F106, F107, F108⟩ := hQ103
      have Z103 : n0 ≤ h103.size := Nat.le_trans Z97 Kq103.1
      have F109 : Fld Z h103 b81 "com/example/greenbelt/greenbelt/io/FrameInput" "position" "I" (.int (3 : Int32)) := F107
      have N103 := Fr.app N97 N103q
      refine own_viaT st103 ?_
      show own_Go p e below s _ _ _ (T103.setTop (mkF m 94 #[.val (.int p0), .val (.int p1), .val (.int p2), .val (.ref b1), .val (.int (3 : Int32)), .val (.int (1 : Int32)), .val (.ref b81), .val (.int (1 : Int32)), .unset, .unset, .unset] [(.int ((o_ishl ((nar .byte (o_i2b (o_iushr p0 (16 : Int32)))) &&& (255 : Int32)) (8 : Int32)) ||| ((nar .byte (o_i2b (o_iushr p0 (8 : Int32)))) &&& (255 : Int32))))]))
      refine own_via (fun _ k => XS.istore X103.here hx rfl (hb hby at_94) rfl (l' := #[.val (.int p0), .val (.int p1), .val (.int p2), .val (.ref b1), .val (.int (3 : Int32)), .val (.int (1 : Int32)), .val (.ref b81), .val (.int (1 : Int32)), .val (.int ((o_ishl ((nar .byte (o_i2b (o_iushr p0 (16 : Int32)))) &&& (255 : Int32)) (8 : Int32)) ||| ((nar .byte (o_i2b (o_iushr p0 (8 : Int32)))) &&& (255 : Int32)))), .unset, .unset]) rfl k) ?_
      show own_Go p e below s _ _ _ (T103.setTop (mkF m 96 #[.val (.int p0), .val (.int p1), .val (.int p2), .val (.ref b1), .val (.int (3 : Int32)), .val (.int (1 : Int32)), .val (.ref b81), .val (.int (1 : Int32)), .val (.int ((o_ishl ((nar .byte (o_i2b (o_iushr p0 (16 : Int32)))) &&& (255 : Int32)) (8 : Int32)) ||| ((nar .byte (o_i2b (o_iushr p0 (8 : Int32)))) &&& (255 : Int32)))), .unset, .unset] []))
      generalize hv110 : ((o_ishl ((nar .byte (o_i2b (o_iushr p0 (16 : Int32)))) &&& (255 : Int32)) (8 : Int32)) ||| ((nar .byte (o_i2b (o_iushr p0 (8 : Int32)))) &&& (255 : Int32))) = v110
      show own_Go p e below s _ _ _ (T103.setTop (mkF m 96 #[.val (.int p0), .val (.int p1), .val (.int p2), .val (.ref b1), .val (.int (3 : Int32)), .val (.int (1 : Int32)), .val (.ref b81), .val (.int (1 : Int32)), .val (.int v110), .unset, .unset] []))
      refine own_via (fun _ k => XS.bipush X103.here hx rfl (hb hby at_96) k) ?_
      show own_Go p e below s _ _ _ (T103.setTop (mkF m 98 #[.val (.int p0), .val (.int p1), .val (.int p2), .val (.ref b1), .val (.int (3 : Int32)), .val (.int (1 : Int32)), .val (.ref b81), .val (.int (1 : Int32)), .val (.int v110), .unset, .unset] [(.int (16 : Int32))]))
      refine own_via (fun _ k => XS.bipush X103.here hx rfl (hb hby at_98) k) ?_
      show own_Go p e below s _ _ _ (T103.setTop (mkF m 100 #[.val (.int p0), .val (.int p1), .val (.int p2), .val (.ref b1), .val (.int (3 : Int32)), .val (.int (1 : Int32)), .val (.ref b81), .val (.int (1 : Int32)), .val (.int v110), .unset, .unset] [(.int (8 : Int32)), (.int (16 : Int32))]))
      refine own_via (fun _ k => XS.iload X103.here hx rfl (hb hby at_100) rfl k) ?_
      show own_Go p e below s _ _ _ (T103.setTop (mkF m 102 #[.val (.int p0), .val (.int p1), .val (.int p2), .val (.ref b1), .val (.int (3 : Int32)), .val (.int (1 : Int32)), .val (.ref b81), .val (.int (1 : Int32)), .val (.int v110), .unset, .unset] [(.int (1 : Int32)), (.int (8 : Int32)), (.int (16 : Int32))]))
      refine own_via (fun _ k => XS.imul X103.here hx rfl (hb hby at_102) rfl k) ?_
      show own_Go p e below s _ _ _ (T103.setTop (mkF m 103 #[.val (.int p0), .val (.int p1), .val (.int p2), .val (.ref b1), .val (.int (3 : Int32)), .val (.int (1 : Int32)), .val (.ref b81), .val (.int (1 : Int32)), .val (.int v110), .unset, .unset] [(.int (8 : Int32)), (.int (16 : Int32))]))
      refine own_via (fun _ k => XS.isub X103.here hx rfl (hb hby at_103) rfl k) ?_
      show own_Go p e below s _ _ _ (T103.setTop (mkF m 104 #[.val (.int p0), .val (.int p1), .val (.int p2), .val (.ref b1), .val (.int (3 : Int32)), .val (.int (1 : Int32)), .val (.ref b81), .val (.int (1 : Int32)), .val (.int v110), .unset, .unset] [(.int (8 : Int32))]))
      refine own_via (fun _ k => XS.istore X103.here hx rfl (hb hby at_104) rfl (l' := #[.val (.int p0), .val (.int p1), .val (.int p2), .val (.ref b1), .val (.int (3 : Int32)), .val (.int (1 : Int32)), .val (.ref b81), .val (.int (1 : Int32)), .val (.int v110), .val (.int (8 : Int32)), .unset]) rfl k) ?_
      show own_Go p e below s _ _ _ (T103.setTop (mkF m 106 #[.val (.int p0), .val (.int p1), .val (.int p2), .val (.ref b1), .val (.int (3 : Int32)), .val (.int (1 : Int32)), .val (.ref b81), .val (.int (1 : Int32)), .val (.int v110), .val (.int (8 : Int32)), .unset] []))
      refine own_via (fun _ k => XS.iloadN X103.here hx rfl (hb hby at_106) rfl k) ?_
      show own_Go p e below s _ _ _ (T103.setTop (mkF m 107 #[.val (.int p0), .val (.int p1), .val (.int p2), .val (.ref b1), .val (.int (3 : Int32)), .val (.int (1 : Int32)), .val (.ref b81), .val (.int (1 : Int32)), .val (.int v110), .val (.int (8 : Int32)), .unset] [(.int p0)]))
      refine own_via (fun _ k => XS.iload X103.here hx rfl (hb hby at_107) rfl k) ?_
      show own_Go p e below s _ _ _ (T103.setTop (mkF m 109 #[.val (.int p0), .val (.int p1), .val (.int p2), .val (.ref b1), .val (.int (3 : Int32)), .val (.int (1 : Int32)), .val (.ref b81), .val (.int (1 : Int32)), .val (.int v110), .val (.int (8 : Int32)), .unset] [(.int (8 : Int32)), (.int p0)]))
      refine own_via (fun _ k => XS.iushr X103.here hx rfl (hb hby at_109) rfl k) ?_
      show own_Go p e below s _ _ _ (T103.setTop (mkF m 110 #[.val (.int p0), .val (.int p1), .val (.int p2), .val (.ref b1), .val (.int (3 : Int32)), .val (.int (1 : Int32)), .val (.ref b81), .val (.int (1 : Int32)), .val (.int v110), .val (.int (8 : Int32)), .unset] [(.int (o_iushr p0 (8 : Int32)))]))
      refine own_via (fun _ k => X103.ldcInt hx hown (mvT hZ (hw _ (List.mem_of_getElem? (i := 56) rfl))) (g := (mkF m 110 #[.val (.int p0), .val (.int p1), .val (.int p2), .val (.ref b1), .val (.int (3 : Int32)), .val (.int (1 : Int32)), .val (.ref b81), .val (.int (1 : Int32)), .val (.int v110), .val (.int (8 : Int32)), .unset] [(.int (o_iushr p0 (8 : Int32)))])) rfl (hb hby at_110) _ k) ?_
      show own_Go p e below s _ _ _ (T103.setTop (mkF m 112 #[.val (.int p0), .val (.int p1), .val (.int p2), .val (.ref b1), .val (.int (3 : Int32)), .val (.int (1 : Int32)), .val (.ref b81), .val (.int (1 : Int32)), .val (.int v110), .val (.int (8 : Int32)), .unset] [(.int (65535 : Int32)), (.int (o_iushr p0 (8 : Int32)))]))
      refine own_via (fun _ k => XS.iand X103.here hx rfl (hb hby at_112) rfl k) ?_
      show own_Go p e below s _ _ _ (T103.setTop (mkF m 113 #[.val (.int p0), .val (.int p1), .val (.int p2), .val (.ref b1), .val (.int (3 : Int32)), .val (.int (1 : Int32)), .val (.ref b81), .val (.int (1 : Int32)), .val (.int v110), .val (.int (8 : Int32)), .unset] [(.int ((o_iushr p0 (8 : Int32)) &&& (65535 : Int32)))]))
      refine own_via (fun _ k => XS.istore X103.here hx rfl (hb hby at_113) rfl (l' := #[.val (.int p0), .val (.int p1), .val (.int p2), .val (.ref b1), .val (.int (3 : Int32)), .val (.int (1 : Int32)), .val (.ref b81), .val (.int (1 : Int32)), .val (.int v110), .val (.int (8 : Int32)), .val (.int ((o_iushr p0 (8 : Int32)) &&& (65535 : Int32)))]) rfl k) ?_
      show own_Go p e below s _ _ _ (T103.setTop (mkF m 115 #[.val (.int p0), .val (.int p1), .val (.int p2), .val (.ref b1), .val (.int (3 : Int32)), .val (.int (1 : Int32)), .val (.ref b81), .val (.int (1 : Int32)), .val (.int v110), .val (.int (8 : Int32)), .val (.int ((o_iushr p0 (8 : Int32)) &&& (65535 : Int32)))] []))
      generalize hv111 : ((o_iushr p0 (8 : Int32)) &&& (65535 : Int32)) = v111
      show own_Go p e below s _ _ _ (T103.setTop (mkF m 115 #[.val (.int p0), .val (.int p1), .val (.int p2), .val (.ref b1), .val (.int (3 : Int32)), .val (.int (1 : Int32)), .val (.ref b81), .val (.int (1 : Int32)), .val (.int v110), .val (.int (8 : Int32)), .val (.int v111)] []))
      refine own_via (fun _ k => XS.iload X103.here hx rfl (hb hby at_115) rfl k) ?_
      show own_Go p e below s _ _ _ (T103.setTop (mkF m 117 #[.val (.int p0), .val (.int p1), .val (.int p2), .val (.ref b1), .val (.int (3 : Int32)), .val (.int (1 : Int32)), .val (.ref b81), .val (.int (1 : Int32)), .val (.int v110), .val (.int (8 : Int32)), .val (.int v111)] [(.int v110)]))
      refine own_via (fun _ k => XS.iload X103.here hx rfl (hb hby at_117) rfl k) ?_
      show own_Go p e below s _ _ _ (T103.setTop (mkF m 119 #[.val (.int p0), .val (.int p1), .val (.int p2), .val (.ref b1), .val (.int (3 : Int32)), .val (.int (1 : Int32)), .val (.ref b81), .val (.int (1 : Int32)), .val (.int v110), .val (.int (8 : Int32)), .val (.int v111)] [(.int v111), (.int v110)]))
      have hh112 : v110 = v111 := by rw [← hv110, ← hv111]; exact own_t1 p0
      have hc113 : v110 = v111 := hh112
      refine own_via (fun _ k => XS.icmpYes X103.here hx rfl (pc0 := 119) (pc' := 124) rfl (hb hby at_119) rfl (Jvm.Free.XT.ii_eq_t hc113) (by decide) (by decide) k) ?_
      show own_Go p e below s _ _ _ (T103.setTop (mkF m 124 #[.val (.int p0), .val (.int p1), .val (.int p2), .val (.ref b1), .val (.int (3 : Int32)), .val (.int (1 : Int32)), .val (.ref b81), .val (.int (1 : Int32)), .val (.int v110), .val (.int (8 : Int32)), .val (.int v111)] []))
      refine own_via (fun _ k => XS.iload X103.here hx rfl (hb hby at_124) rfl k) ?_
      show own_Go p e below s _ _ _ (T103.setTop (mkF m 126 #[.val (.int p0), .val (.int p1), .val (.int p2), .val (.ref b1), .val (.int (3 : Int32)), .val (.int (1 : Int32)), .val (.ref b81), .val (.int (1 : Int32)), .val (.int v110), .val (.int (8 : Int32)), .val (.int v111)] [(.int v110)]))
      have hc114 : ¬ (v110 < (0 : Int32)) := (own_rg hv111 hh112).1
      refine own_via (fun _ k => XS.ifNo X103.here hx rfl (hb hby at_126) rfl (Jvm.Free.XT.i0_lt_f hc114) k) ?_
      show own_Go p e below s _ _ _ (T103.setTop (mkF m 129 #[.val (.int p0), .val (.int p1), .val (.int p2), .val (.ref b1), .val (.int (3 : Int32)), .val (.int (1 : Int32)), .val (.ref b81), .val (.int (1 : Int32)), .val (.int v110), .val (.int (8 : Int32)), .val (.int v111)] []))
      refine own_via (fun _ k => XS.iload X103.here hx rfl (hb hby at_129) rfl k) ?_
      show own_Go p e below s _ _ _ (T103.setTop (mkF m 131 #[.val (.int p0), .val (.int p1), .val (.int p2), .val (.ref b1), .val (.int (3 : Int32)), .val (.int (1 : Int32)), .val (.ref b81), .val (.int (1 : Int32)), .val (.int v110), .val (.int (8 : Int32)), .val (.int v111)] [(.int v110)]))
      refine own_via (fun _ k => X103.ldcInt hx hown (mvT hZ (hw _ (List.mem_of_getElem? (i := 56) rfl))) (g := (mkF m 131 #[.val (.int p0), .val (.int p1), .val (.int p2), .val (.ref b1), .val (.int (3 : Int32)), .val (.int (1 : Int32)), .val (.ref b81), .val (.int (1 : Int32)), .val (.int v110), .val (.int (8 : Int32)), .val (.int v111)] [(.int v110)])) rfl (hb hby at_131) _ k) ?_
      show own_Go p e below s _ _ _ (T103.setTop (mkF m 133 #[.val (.int p0), .val (.int p1), .val (.int p2), .val (.ref b1), .val (.int (3 : Int32)), .val (.int (1 : Int32)), .val (.ref b81), .val (.int (1 : Int32)), .val (.int v110), .val (.int (8 : Int32)), .val (.int v111)] [(.int (65535 : Int32)), (.int v110)]))
      have hc115 : ¬ ((65535 : Int32) < v110) := (own_rg hv111 hh112).2
      refine own_via (fun _ k => XS.icmpYes X103.here hx rfl (pc0 := 133) (pc' := 138) rfl (hb hby at_133) rfl (Jvm.Free.XT.ii_le_t hc115) (by decide) (by decide) k) ?_
      show own_Go p e below s _ _ _ (T103.setTop (mkF m 138 #[.val (.int p0), .val (.int p1), .val (.int p2), .val (.ref b1), .val (.int (3 : Int32)), .val (.int (1 : Int32)), .val (.ref b81), .val (.int (1 : Int32)), .val (.int v110), .val (.int (8 : Int32)), .val (.int v111)] []))
      refine own_via (fun _ k => XS.aload X103.here hx rfl (hb hby at_138) rfl rfl k) ?_
      show own_Go p e below s _ _ _ (T103.setTop (mkF m 140 #[.val (.int p0), .val (.int p1), .val (.int p2), .val (.ref b1), .val (.int (3 : Int32)), .val (.int (1 : Int32)), .val (.ref b81), .val (.int (1 : Int32)), .val (.int v110), .val (.int (8 : Int32)), .val (.int v111)] [(.ref b81)]))
      obtain ⟨cq116, kq116, qa116, qb116, qc116⟩ := isOf hZ e103 F105
      obtain ⟨_, _, ⟨T116, L116, k116, n116⟩, -, X116, ⟨Lc116, hQ116, l116, y116, z116⟩, st116⟩ := X103.virtualBack hx (y := (⟨"com/example/greenbelt/greenbelt/io/FrameInput", "remaining", "()I"⟩ : MethodName)) (z := (⟨"com/example/greenbelt/greenbelt/io/FrameInput", "remaining", "()I"⟩ : MethodName)) hown (mvT hZ (hw _ (List.mem_of_getElem? (i := 57) rfl))) (mvT hZ (hw _ (List.mem_of_getElem? (i := 36) rfl))) (notFace_of_selects (args := #[]) (mvT hZ (hw _ (List.mem_of_getElem? (i := 38) rfl)))) (mvT hZ (hw _ (List.mem_of_getElem? (i := 38) rfl))) (mvT hZ (hw _ (List.mem_of_getElem? (i := 37) rfl))) (by decide) (backOf (W := 0) (rm7 l Z a0 hw [] b81 (3 : Int32) (3 : Int32) h103 n0 Z103 F108 F109) hZ (hw _ (List.mem_of_getElem? (i := 39) rfl)) (hw _ (List.mem_of_getElem? (i := 4) rfl)) (by decide) (by decide)) qa116 qc116 (g := (mkF m 140 #[.val (.int p0), .val (.int p1), .val (.int p2), .val (.ref b1), .val (.int (3 : Int32)), .val (.int (1 : Int32)), .val (.ref b81), .val (.int (1 : Int32)), .val (.int v110), .val (.int (8 : Int32)), .val (.int v111)] [(.ref b81)])) rfl (by rw [hml]; rfl) (Steps.refl _) (argsL := []) (rest := []) (lenOf pd_2 rfl) rfl (by show 2 * 0 + _ ≤ _; exact Nat.le_of_eq rfl) (hb hby at_140) (fun _ _ => ⟨rfl, e103, (by decide : 3 + 0 ≤ _), (by decide : 7 + 0 ≤ _)⟩)
      dsimp only [Pt.U, Pt.locs, Pt.cells, Pt.slots] at X116 l116 y116 z116 st116 hQ116
      subst l116 y116 z116
      obtain ⟨rfl, N116q, e116⟩ := hQ116
      have N116 := Fr.app N103 N116q
      refine own_viaT st116 ?_
      show own_Go p e below s _ _ _ (T116.setTop (mkF m 143 #[.val (.int p0), .val (.int p1), .val (.int p2), .val (.ref b1), .val (.int (3 : Int32)), .val (.int (1 : Int32)), .val (.ref b81), .val (.int (1 : Int32)), .val (.int v110), .val (.int (8 : Int32)), .val (.int v111)] [(.int (0 : Int32))]))
      refine own_via (fun _ k => XS.iload X116.here hx rfl (hb hby at_143) rfl k) ?_
      show own_Go p e below s _ _ _ (T116.setTop (mkF m 145 #[.val (.int p0), .val (.int p1), .val (.int p2), .val (.ref b1), .val (.int (3 : Int32)), .val (.int (1 : Int32)), .val (.ref b81), .val (.int (1 : Int32)), .val (.int v110), .val (.int (8 : Int32)), .val (.int v111)] [(.int (3 : Int32)), (.int (0 : Int32))]))
      refine own_via (fun _ k => XS.iload X116.here hx rfl (hb hby at_145) rfl k) ?_
      show own_Go p e below s _ _ _ (T116.setTop (mkF m 147 #[.val (.int p0), .val (.int p1), .val (.int p2), .val (.ref b1), .val (.int (3 : Int32)), .val (.int (1 : Int32)), .val (.ref b81), .val (.int (1 : Int32)), .val (.int v110), .val (.int (8 : Int32)), .val (.int v111)] [(.int (1 : Int32)), (.int (3 : Int32)), (.int (0 : Int32))]))
      refine own_via (fun _ k => XS.isub X116.here hx rfl (hb hby at_147) rfl k) ?_
      show own_Go p e below s _ _ _ (T116.setTop (mkF m 148 #[.val (.int p0), .val (.int p1), .val (.int p2), .val (.ref b1), .val (.int (3 : Int32)), .val (.int (1 : Int32)), .val (.ref b81), .val (.int (1 : Int32)), .val (.int v110), .val (.int (8 : Int32)), .val (.int v111)] [(.int (2 : Int32)), (.int (0 : Int32))]))
      refine own_via (fun _ k => XS.iconst X116.here hx rfl (hb hby at_148) k) ?_
      show own_Go p e below s _ _ _ (T116.setTop (mkF m 149 #[.val (.int p0), .val (.int p1), .val (.int p2), .val (.ref b1), .val (.int (3 : Int32)), .val (.int (1 : Int32)), .val (.ref b81), .val (.int (1 : Int32)), .val (.int v110), .val (.int (8 : Int32)), .val (.int v111)] [(.int (2 : Int32)), (.int (2 : Int32)), (.int (0 : Int32))]))
      refine own_via (fun _ k => XS.isub X116.here hx rfl (hb hby at_149) rfl k) ?_
      show own_Go p e below s _ _ _ (T116.setTop (mkF m 150 #[.val (.int p0), .val (.int p1), .val (.int p2), .val (.ref b1), .val (.int (3 : Int32)), .val (.int (1 : Int32)), .val (.ref b81), .val (.int (1 : Int32)), .val (.int v110), .val (.int (8 : Int32)), .val (.int v111)] [(.int (0 : Int32)), (.int (0 : Int32))]))
      refine own_via (fun _ k => XS.icmpNo X116.here hx rfl (hb hby at_150) rfl (Jvm.Free.XT.ii_ne_f (by decide)) k) ?_
      show own_Go p e below s _ _ _ (T116.setTop (mkF m 153 #[.val (.int p0), .val (.int p1), .val (.int p2), .val (.ref b1), .val (.int (3 : Int32)), .val (.int (1 : Int32)), .val (.ref b81), .val (.int (1 : Int32)), .val (.int v110), .val (.int (8 : Int32)), .val (.int v111)] []))
      refine own_via (fun _ k => XS.iconst X116.here hx rfl (hb hby at_153) k) ?_
      show own_Go p e below s _ _ _ (T116.setTop (mkF m 154 #[.val (.int p0), .val (.int p1), .val (.int p2), .val (.ref b1), .val (.int (3 : Int32)), .val (.int (1 : Int32)), .val (.ref b81), .val (.int (1 : Int32)), .val (.int v110), .val (.int (8 : Int32)), .val (.int v111)] [(.int (1 : Int32))]))
      refine own_via (fun _ k => XS.goto X116.here hx rfl (pc0 := 154) (pc' := 158) rfl (hb hby at_154) (by decide) (by decide) k) ?_
      show own_Go p e below s _ _ _ (T116.setTop (mkF m 158 #[.val (.int p0), .val (.int p1), .val (.int p2), .val (.ref b1), .val (.int (3 : Int32)), .val (.int (1 : Int32)), .val (.ref b81), .val (.int (1 : Int32)), .val (.int v110), .val (.int (8 : Int32)), .val (.int v111)] [(.int (1 : Int32))]))
      exact own_goN X116 hx (t := .boolean) Bd.returns (by simp) (hb hby at_158) Bd.notSynchronized (by decide) (by decide) (by rw [e116]; exact ⟨rfl, N116⟩)
  · show own_Go p e below s _ _ _ (T5.setTop (mkF m 43 #[.val (.int p0), .val (.int p1), .val (.int p2), .val (.ref b1), .val (.int (4 : Int32)), .unset, .unset, .unset, .unset, .unset, .unset] []))
    refine own_via (fun _ k => XS.iloadN X5.here hx rfl (hb hby at_43) rfl k) ?_
    show own_Go p e below s _ _ _ (T5.setTop (mkF m 44 #[.val (.int p0), .val (.int p1), .val (.int p2), .val (.ref b1), .val (.int (4 : Int32)), .unset, .unset, .unset, .unset, .unset, .unset] [(.int p2)]))
    refine own_via (fun _ k => X5.ldcInt hx hown (mvT hZ (hw _ (List.mem_of_getElem? (i := 1) rfl))) (g := (mkF m 44 #[.val (.int p0), .val (.int p1), .val (.int p2), .val (.ref b1), .val (.int (4 : Int32)), .unset, .unset, .unset, .unset, .unset, .unset] [(.int p2)])) rfl (hb hby at_44) _ k) ?_
    show own_Go p e below s _ _ _ (T5.setTop (mkF m 46 #[.val (.int p0), .val (.int p1), .val (.int p2), .val (.ref b1), .val (.int (4 : Int32)), .unset, .unset, .unset, .unset, .unset, .unset] [(.int (2147483647 : Int32)), (.int p2)]))
    refine own_via (fun _ k => XS.iand X5.here hx rfl (hb hby at_46) rfl k) ?_
    show own_Go p e below s _ _ _ (T5.setTop (mkF m 47 #[.val (.int p0), .val (.int p1), .val (.int p2), .val (.ref b1), .val (.int (4 : Int32)), .unset, .unset, .unset, .unset, .unset, .unset] [(.int (p2 &&& (2147483647 : Int32)))]))
    refine own_via (fun _ k => XS.iload X5.here hx rfl (hb hby at_47) rfl k) ?_
    show own_Go p e below s _ _ _ (T5.setTop (mkF m 49 #[.val (.int p0), .val (.int p1), .val (.int p2), .val (.ref b1), .val (.int (4 : Int32)), .unset, .unset, .unset, .unset, .unset, .unset] [(.int (4 : Int32)), (.int (p2 &&& (2147483647 : Int32)))]))
    refine own_via (fun _ k => XS.iconst X5.here hx rfl (hb hby at_49) k) ?_
    show own_Go p e below s _ _ _ (T5.setTop (mkF m 50 #[.val (.int p0), .val (.int p1), .val (.int p2), .val (.ref b1), .val (.int (4 : Int32)), .unset, .unset, .unset, .unset, .unset, .unset] [(.int (1 : Int32)), (.int (4 : Int32)), (.int (p2 &&& (2147483647 : Int32)))]))
    refine own_via (fun _ k => XS.isub X5.here hx rfl (hb hby at_50) rfl k) ?_
    show own_Go p e below s _ _ _ (T5.setTop (mkF m 51 #[.val (.int p0), .val (.int p1), .val (.int p2), .val (.ref b1), .val (.int (4 : Int32)), .unset, .unset, .unset, .unset, .unset, .unset] [(.int (3 : Int32)), (.int (p2 &&& (2147483647 : Int32)))]))
    refine own_via (fun _ k => XS.irem X5.here hx rfl (hb hby at_51) rfl (by decide) k) ?_
    show own_Go p e below s _ _ _ (T5.setTop (mkF m 52 #[.val (.int p0), .val (.int p1), .val (.int p2), .val (.ref b1), .val (.int (4 : Int32)), .unset, .unset, .unset, .unset, .unset, .unset] [(.int (o_irem (p2 &&& (2147483647 : Int32)) (3 : Int32)))]))
    refine own_via (fun _ k => XS.istore X5.here hx rfl (hb hby at_52) rfl (l' := #[.val (.int p0), .val (.int p1), .val (.int p2), .val (.ref b1), .val (.int (4 : Int32)), .val (.int (o_irem (p2 &&& (2147483647 : Int32)) (3 : Int32))), .unset, .unset, .unset, .unset, .unset]) rfl k) ?_
    show own_Go p e below s _ _ _ (T5.setTop (mkF m 54 #[.val (.int p0), .val (.int p1), .val (.int p2), .val (.ref b1), .val (.int (4 : Int32)), .val (.int (o_irem (p2 &&& (2147483647 : Int32)) (3 : Int32))), .unset, .unset, .unset, .unset, .unset] []))
    generalize hv117 : (o_irem (p2 &&& (2147483647 : Int32)) (3 : Int32)) = v117
    show own_Go p e below s _ _ _ (T5.setTop (mkF m 54 #[.val (.int p0), .val (.int p1), .val (.int p2), .val (.ref b1), .val (.int (4 : Int32)), .val (.int v117), .unset, .unset, .unset, .unset, .unset] []))
    rcases (own_sk3 p2 hv117) with rfl | rfl | rfl
    · show own_Go p e below s _ _ _ (T5.setTop (mkF m 54 #[.val (.int p0), .val (.int p1), .val (.int p2), .val (.ref b1), .val (.int (4 : Int32)), .val (.int (0 : Int32)), .unset, .unset, .unset, .unset, .unset] []))
      obtain ⟨T118, h118, X118, e118, E118, A118, D118, -, st118⟩ := newO X5 hx hZ hown (hw _ (List.mem_of_getElem? (i := 2) rfl)) (hw _ (List.mem_of_getElem? (i := 3) rfl)) (hw _ (List.mem_of_getElem? (i := 4) rfl)) e5 (g := (mkF m 54 #[.val (.int p0), .val (.int p1), .val (.int p2), .val (.ref b1), .val (.int (4 : Int32)), .val (.int (0 : Int32)), .unset, .unset, .unset, .unset, .unset] [])) rfl (hb hby at_54) (by decide) (by decide)
      obtain ⟨b118, gg118⟩ : ∃ z, z = h5.size := ⟨_, rfl⟩
      rw [← gg118] at A118 D118 st118
      have ne_b1_b118 : b1 ≠ b118 := Nat.ne_of_lt (Nat.lt_of_lt_of_le V5.lt (Nat.le_of_eq gg118.symm))
      have g_b118 : n0 ≤ b118 := Nat.le_trans Z5 (Nat.le_of_eq gg118.symm)
      have Z118 : n0 ≤ h118.size := Nat.le_trans Z5 E118.1
      have F119 : Fld Z h118 b118 "com/example/greenbelt/greenbelt/io/FrameInput" "bytes" "[B" .null := D118 (Or.inl (hw _ (List.mem_of_getElem? (i := 12) rfl))) (ty := (.array .byte)) (by decide)
      have F120 : Fld Z h118 b118 "com/example/greenbelt/greenbelt/io/FrameInput" "position" "I" (.int (0 : Int32)) := D118 (Or.inl (hw _ (List.mem_of_getElem? (i := 27) rfl))) (ty := .int) (by decide)
      have F121 : Fld Z h118 b118 "com/example/greenbelt/greenbelt/io/FrameInput" "end" "I" (.int (0 : Int32)) := D118 (Or.inl (hw _ (List.mem_of_getElem? (i := 29) rfl))) (ty := .int) (by decide)
      refine own_via st118 ?_
      show own_Go p e below s _ _ _ (T118.setTop (mkF m 57 #[.val (.int p0), .val (.int p1), .val (.int p2), .val (.ref b1), .val (.int (4 : Int32)), .val (.int (0 : Int32)), .unset, .unset, .unset, .unset, .unset] [(.ref b118)]))
      refine own_via (fun _ k => XS.dup X118.here hx rfl (hb hby at_57) rfl rfl k) ?_
      show own_Go p e below s _ _ _ (T118.setTop (mkF m 58 #[.val (.int p0), .val (.int p1), .val (.int p2), .val (.ref b1), .val (.int (4 : Int32)), .val (.int (0 : Int32)), .unset, .unset, .unset, .unset, .unset] [(.ref b118), (.ref b118)]))
      obtain ⟨_, _, ⟨T122, L122, k122, n122⟩, -, X122, ⟨Lc122, hQ122, l122, y122, z122⟩, st122⟩ := X118.specialBack hx (y := (⟨"com/example/greenbelt/greenbelt/io/FrameInput", "<init>", "()V"⟩ : MethodName)) rfl hown (mvT hZ (hw _ (List.mem_of_getElem? (i := 5) rfl))) (mvT hZ (hw _ (List.mem_of_getElem? (i := 6) rfl))) (mvT hZ (hw _ (List.mem_of_getElem? (i := 7) rfl))) (by decide) (backOf (W := 1) (rm1 l Z a0 hw [] b118 h118 n0 Z118 A118 F119 F120 F121 g_b118) hZ (hw _ (List.mem_of_getElem? (i := 7) rfl)) (hw _ (List.mem_of_getElem? (i := 4) rfl)) (by decide) (by decide)) (g := (mkF m 58 #[.val (.int p0), .val (.int p1), .val (.int p2), .val (.ref b1), .val (.int (4 : Int32)), .val (.int (0 : Int32)), .unset, .unset, .unset, .unset, .unset] [(.ref b118), (.ref b118)])) rfl (by rw [hml]; rfl) (Steps.refl _) (a := b118) (argsL := []) (rest := [(.ref b118)]) (lenOf pd_5 rfl) rfl (by show 2 * 0 + _ ≤ _; exact Nat.le_of_eq rfl) (hb hby at_58) (fun _ _ => ⟨rfl, e118, (by decide : 2 + 1 ≤ _), (by decide : 7 + 0 ≤ _)⟩)
      dsimp only [Pt.U, Pt.locs, Pt.cells, Pt.slots] at X122 l122 y122 z122 st122 hQ122
      subst l122 y122 z122
      obtain ⟨h122, e122⟩ : ∃ h, T122.heap = h := ⟨_, rfl⟩
      rw [e122] at hQ122
      obtain ⟨b_122, rfl, N122q, Kq122, F123, F124, F125, F126, F127⟩ := hQ122
      have ne_b1_b_122 : b1 ≠ b_122 := Nat.ne_of_lt (Nat.lt_of_lt_of_le (V5.ext E118).lt F123)
      have ne_b118_b_122 : b118 ≠ b_122 := Nat.ne_of_lt (Nat.lt_of_lt_of_le A118.lt F123)
      have g_b_122 : n0 ≤ b_122 := Nat.le_trans Z118 F123
      have Z122 : n0 ≤ h122.size := Nat.le_trans Z118 Kq122.1
      have N122 := Fr.app N5 N122q
      refine own_viaT st122 ?_
      show own_Go p e below s _ _ _ (T122.setTop (mkF m 61 #[.val (.int p0), .val (.int p1), .val (.int p2), .val (.ref b1), .val (.int (4 : Int32)), .val (.int (0 : Int32)), .unset, .unset, .unset, .unset, .unset] [(.ref b118)]))
      refine own_via (fun _ k => XS.astore X122.here hx rfl (hb hby at_61) rfl rfl (l' := #[.val (.int p0), .val (.int p1), .val (.int p2), .val (.ref b1), .val (.int (4 : Int32)), .val (.int (0 : Int32)), .val (.ref b118), .unset, .unset, .unset, .unset]) rfl k) ?_
      show own_Go p e below s _ _ _ (T122.setTop (mkF m 63 #[.val (.int p0), .val (.int p1), .val (.int p2), .val (.ref b1), .val (.int (4 : Int32)), .val (.int (0 : Int32)), .val (.ref b118), .unset, .unset, .unset, .unset] []))
      refine own_via (fun _ k => XS.aload X122.here hx rfl (hb hby at_63) rfl rfl k) ?_
      show own_Go p e below s _ _ _ (T122.setTop (mkF m 65 #[.val (.int p0), .val (.int p1), .val (.int p2), .val (.ref b1), .val (.int (4 : Int32)), .val (.int (0 : Int32)), .val (.ref b118), .unset, .unset, .unset, .unset] [(.ref b118)]))
      refine own_via (fun _ k => XS.aloadN X122.here hx rfl (hb hby at_65) rfl rfl k) ?_
      show own_Go p e below s _ _ _ (T122.setTop (mkF m 66 #[.val (.int p0), .val (.int p1), .val (.int p2), .val (.ref b1), .val (.int (4 : Int32)), .val (.int (0 : Int32)), .val (.ref b118), .unset, .unset, .unset, .unset] [(.ref b1), (.ref b118)]))
      refine own_via (fun _ k => XS.iload X122.here hx rfl (hb hby at_66) rfl k) ?_
      show own_Go p e below s _ _ _ (T122.setTop (mkF m 68 #[.val (.int p0), .val (.int p1), .val (.int p2), .val (.ref b1), .val (.int (4 : Int32)), .val (.int (0 : Int32)), .val (.ref b118), .unset, .unset, .unset, .unset] [(.int (4 : Int32)), (.ref b1), (.ref b118)]))
      have F129 := ((V5.ext E118).keep Kq122 (ninS ne_b1_b118 nin0))
      obtain ⟨cq128, kq128, qa128, qb128, qc128⟩ := isOf hZ e122 F124
      obtain ⟨_, _, ⟨T128, L128, k128, n128⟩, -, X128, ⟨Lc128, hQ128, l128, y128, z128⟩, st128⟩ := X122.virtualBack hx (y := (⟨"com/example/greenbelt/greenbelt/io/FrameInput", "reset", "([BI)V"⟩ : MethodName)) (z := (⟨"com/example/greenbelt/greenbelt/io/FrameInput", "reset", "([BI)V"⟩ : MethodName)) hown (mvT hZ (hw _ (List.mem_of_getElem? (i := 13) rfl))) (mvT hZ (hw _ (List.mem_of_getElem? (i := 14) rfl))) (notFace_of_selects (args := #[]) (mvT hZ (hw _ (List.mem_of_getElem? (i := 16) rfl)))) (mvT hZ (hw _ (List.mem_of_getElem? (i := 16) rfl))) (mvT hZ (hw _ (List.mem_of_getElem? (i := 15) rfl))) (by decide) (backOf (W := 0) (rm3 l Z a0 hw [] b118 b1 (4 : Int32) (.ref b_122) k1 (4 : Int32) [(.int (nar .byte (o_i2b (o_iushr p0 (24 : Int32))))), (.int (nar .byte (o_i2b (o_iushr p0 (16 : Int32))))), (.int (nar .byte (o_i2b (o_iushr p0 (8 : Int32))))), (.int (nar .byte (o_i2b p0)))] (.int (0 : Int32)) h122 n0 Z122 F124 F125 F126 F127 F129 g_b118 (by first | decide | (simp; done)) (by first | decide | (simp; done))) hZ (hw _ (List.mem_of_getElem? (i := 17) rfl)) (hw _ (List.mem_of_getElem? (i := 4) rfl)) (by decide) (by decide)) qa128 qc128 (g := (mkF m 68 #[.val (.int p0), .val (.int p1), .val (.int p2), .val (.ref b1), .val (.int (4 : Int32)), .val (.int (0 : Int32)), .val (.ref b118), .unset, .unset, .unset, .unset] [(.int (4 : Int32)), (.ref b1), (.ref b118)])) rfl (by rw [hml]; rfl) (Steps.refl _) (argsL := [(.ref b1), (.int (4 : Int32))]) (rest := []) (lenOf pd_6 rfl) rfl (by show 2 * 0 + _ ≤ _; exact Nat.le_of_eq rfl) (hb hby at_68) (fun _ _ => ⟨rfl, e122, (by decide : 3 + 0 ≤ _), (by decide : 7 + 0 ≤ _)⟩)
      dsimp only [Pt.U, Pt.locs, Pt.cells, Pt.slots] at X128 l128 y128 z128 st128 hQ128
      subst l128 y128 z128
      obtain ⟨h128, e128⟩ : ∃ h, T128.heap = h := ⟨_, rfl⟩
      rw [e128] at hQ128
      obtain ⟨rfl, N128q, Kq128, F130, F131, F132, F133⟩ := hQ128
      have Z128 : n0 ≤ h128.size := Nat.le_trans Z122 Kq128.1
      have N128 := Fr.app N122 N128q
      refine own_viaT st128 ?_
      show own_Go p e below s _ _ _ (T128.setTop (mkF m 71 #[.val (.int p0), .val (.int p1), .val (.int p2), .val (.ref b1), .val (.int (4 : Int32)), .val (.int (0 : Int32)), .val (.ref b118), .unset, .unset, .unset, .unset] []))
      refine own_via (fun _ k => XS.aload X128.here hx rfl (hb hby at_71) rfl rfl k) ?_
      show own_Go p e below s _ _ _ (T128.setTop (mkF m 73 #[.val (.int p0), .val (.int p1), .val (.int p2), .val (.ref b1), .val (.int (4 : Int32)), .val (.int (0 : Int32)), .val (.ref b118), .unset, .unset, .unset, .unset] [(.ref b118)]))
      refine own_via (fun _ k => XS.iload X128.here hx rfl (hb hby at_73) rfl k) ?_
      show own_Go p e below s _ _ _ (T128.setTop (mkF m 75 #[.val (.int p0), .val (.int p1), .val (.int p2), .val (.ref b1), .val (.int (4 : Int32)), .val (.int (0 : Int32)), .val (.ref b118), .unset, .unset, .unset, .unset] [(.int (0 : Int32)), (.ref b118)]))
      obtain ⟨cq134, kq134, qa134, qb134, qc134⟩ := isOf hZ e128 F130
      obtain ⟨_, _, ⟨T134, L134, k134, n134⟩, -, X134, ⟨Lc134, hQ134, l134, y134, z134⟩, st134⟩ := X128.virtualBack hx (y := (⟨"com/example/greenbelt/greenbelt/io/FrameInput", "skipBytes", "(I)I"⟩ : MethodName)) (z := (⟨"com/example/greenbelt/greenbelt/io/FrameInput", "skipBytes", "(I)I"⟩ : MethodName)) hown (mvT hZ (hw _ (List.mem_of_getElem? (i := 30) rfl))) (mvT hZ (hw _ (List.mem_of_getElem? (i := 31) rfl))) (notFace_of_selects (args := #[]) (mvT hZ (hw _ (List.mem_of_getElem? (i := 33) rfl)))) (mvT hZ (hw _ (List.mem_of_getElem? (i := 33) rfl))) (mvT hZ (hw _ (List.mem_of_getElem? (i := 32) rfl))) (by decide) (backOf (W := 0) (rm6 l Z a0 hw [] b118 (0 : Int32) (4 : Int32) (0 : Int32) (.ref b1) h128 n0 Z128 F130 F131 F132 F133 g_b118 (by first | decide | (simp; done)) (by first | decide | (simp; done))) hZ (hw _ (List.mem_of_getElem? (i := 34) rfl)) (hw _ (List.mem_of_getElem? (i := 4) rfl)) (by decide) (by decide)) qa134 qc134 (g := (mkF m 75 #[.val (.int p0), .val (.int p1), .val (.int p2), .val (.ref b1), .val (.int (4 : Int32)), .val (.int (0 : Int32)), .val (.ref b118), .unset, .unset, .unset, .unset] [(.int (0 : Int32)), (.ref b118)])) rfl (by rw [hml]; rfl) (Steps.refl _) (argsL := [(.int (0 : Int32))]) (rest := []) (lenOf pd_4 rfl) rfl (by show 2 * 0 + _ ≤ _; exact Nat.le_of_eq rfl) (hb hby at_75) (fun _ _ => ⟨rfl, e128, (by decide : 3 + 0 ≤ _), (by decide : 7 + 0 ≤ _)⟩)
      dsimp only [Pt.U, Pt.locs, Pt.cells, Pt.slots] at X134 l134 y134 z134 st134 hQ134
      subst l134 y134 z134
      obtain ⟨h134, e134⟩ : ∃ h, T134.heap = h := ⟨_, rfl⟩
      rw [e134] at hQ134
      obtain ⟨rfl, N134q, Kq134, F135, F136, F137, F138⟩ := hQ134
      have Z134 : n0 ≤ h134.size := Nat.le_trans Z128 Kq134.1
      have F139 : Fld Z h134 b118 "com/example/greenbelt/greenbelt/io/FrameInput" "position" "I" (.int (0 : Int32)) := F137
      have N134 := Fr.app N128 N134q
      refine own_viaT st134 ?_
      show own_Go p e below s _ _ _ (T134.setTop (mkF m 78 #[.val (.int p0), .val (.int p1), .val (.int p2), .val (.ref b1), .val (.int (4 : Int32)), .val (.int (0 : Int32)), .val (.ref b118), .unset, .unset, .unset, .unset] [(.int (0 : Int32))]))
      refine own_via (fun _ k => XS.istore X134.here hx rfl (hb hby at_78) rfl (l' := #[.val (.int p0), .val (.int p1), .val (.int p2), .val (.ref b1), .val (.int (4 : Int32)), .val (.int (0 : Int32)), .val (.ref b118), .val (.int (0 : Int32)), .unset, .unset, .unset]) rfl k) ?_
      show own_Go p e below s _ _ _ (T134.setTop (mkF m 80 #[.val (.int p0), .val (.int p1), .val (.int p2), .val (.ref b1), .val (.int (4 : Int32)), .val (.int (0 : Int32)), .val (.ref b118), .val (.int (0 : Int32)), .unset, .unset, .unset] []))
      refine own_via (fun _ k => XS.iload X134.here hx rfl (hb hby at_80) rfl k) ?_
      show own_Go p e below s _ _ _ (T134.setTop (mkF m 82 #[.val (.int p0), .val (.int p1), .val (.int p2), .val (.ref b1), .val (.int (4 : Int32)), .val (.int (0 : Int32)), .val (.ref b118), .val (.int (0 : Int32)), .unset, .unset, .unset] [(.int (0 : Int32))]))
      refine own_via (fun _ k => XS.iload X134.here hx rfl (hb hby at_82) rfl k) ?_
      show own_Go p e below s _ _ _ (T134.setTop (mkF m 84 #[.val (.int p0), .val (.int p1), .val (.int p2), .val (.ref b1), .val (.int (4 : Int32)), .val (.int (0 : Int32)), .val (.ref b118), .val (.int (0 : Int32)), .unset, .unset, .unset] [(.int (0 : Int32)), (.int (0 : Int32))]))
      refine own_via (fun _ k => XS.icmpYes X134.here hx rfl (pc0 := 84) (pc' := 89) rfl (hb hby at_84) rfl (Jvm.Free.XT.ii_eq_t (by decide)) (by decide) (by decide) k) ?_
      show own_Go p e below s _ _ _ (T134.setTop (mkF m 89 #[.val (.int p0), .val (.int p1), .val (.int p2), .val (.ref b1), .val (.int (4 : Int32)), .val (.int (0 : Int32)), .val (.ref b118), .val (.int (0 : Int32)), .unset, .unset, .unset] []))
      refine own_via (fun _ k => XS.aload X134.here hx rfl (hb hby at_89) rfl rfl k) ?_
      show own_Go p e below s _ _ _ (T134.setTop (mkF m 91 #[.val (.int p0), .val (.int p1), .val (.int p2), .val (.ref b1), .val (.int (4 : Int32)), .val (.int (0 : Int32)), .val (.ref b118), .val (.int (0 : Int32)), .unset, .unset, .unset] [(.ref b118)]))
      have F141 := ((F129.keep Kq128 (ninS ne_b1_b118 nin0)).keep Kq134 (ninS ne_b1_b118 nin0))
      obtain ⟨cq140, kq140, qa140, qb140, qc140⟩ := isOf hZ e134 F135
      obtain ⟨_, _, ⟨T140, L140, k140, n140⟩, -, X140, ⟨Lc140, hQ140, l140, y140, z140⟩, st140⟩ := X134.virtualBack hx (y := (⟨"com/example/greenbelt/greenbelt/io/FrameInput", "readUnsignedShort", "()I"⟩ : MethodName)) (z := (⟨"com/example/greenbelt/greenbelt/io/FrameInput", "readUnsignedShort", "()I"⟩ : MethodName)) hown (mvT hZ (hw _ (List.mem_of_getElem? (i := 47) rfl))) (mvT hZ (hw _ (List.mem_of_getElem? (i := 48) rfl))) (notFace_of_selects (args := #[]) (mvT hZ (hw _ (List.mem_of_getElem? (i := 50) rfl)))) (mvT hZ (hw _ (List.mem_of_getElem? (i := 50) rfl))) (mvT hZ (hw _ (List.mem_of_getElem? (i := 49) rfl))) (by decide) (backOf (W := 0) (rm10 l Z a0 hw [] b118 b1 (0 : Int32) (4 : Int32) k1 (4 : Int32) [(.int (nar .byte (o_i2b (o_iushr p0 (24 : Int32))))), (.int (nar .byte (o_i2b (o_iushr p0 (16 : Int32))))), (.int (nar .byte (o_i2b (o_iushr p0 (8 : Int32))))), (.int (nar .byte (o_i2b p0)))] (.int (0 : Int32)) (nar .byte (o_i2b (o_iushr p0 (24 : Int32)))) (nar .byte (o_i2b (o_iushr p0 (16 : Int32)))) h134 n0 Z134 F135 F136 F139 F138 g_b118 F141 (by decide) (by decide) (by decide) rfl rfl ne_b1_b118) hZ (hw _ (List.mem_of_getElem? (i := 51) rfl)) (hw _ (List.mem_of_getElem? (i := 4) rfl)) (by decide) (by decide)) qa140 qc140 (g := (mkF m 91 #[.val (.int p0), .val (.int p1), .val (.int p2), .val (.ref b1), .val (.int (4 : Int32)), .val (.int (0 : Int32)), .val (.ref b118), .val (.int (0 : Int32)), .unset, .unset, .unset] [(.ref b118)])) rfl (by rw [hml]; rfl) (Steps.refl _) (argsL := []) (rest := []) (lenOf pd_2 rfl) rfl (by show 2 * 0 + _ ≤ _; exact Nat.le_of_eq rfl) (hb hby at_91) (fun _ _ => ⟨rfl, e134, (by decide : 3 + 0 ≤ _), (by decide : 7 + 0 ≤ _)⟩)
      dsimp only [Pt.U, Pt.locs, Pt.cells, Pt.slots] at X140 l140 y140 z140 st140 hQ140
      subst l140 y140 z140
      obtain ⟨h140, e140⟩ : ∃ h, T140.heap = h := ⟨_, rfl⟩
      rw [e140] at hQ140
      obtain ⟨rfl, N140q, Kq140, F142, F143, F144, F145⟩ := hQ140
      have Z140 : n0 ≤ h140.size := Nat.le_trans Z134 Kq140.1
      have F146 : Fld Z h140 b118 "com/example/greenbelt/greenbelt/io/FrameInput" "position" "I" (.int (2 : Int32)) := F144
      have N140 := Fr.app N134 N140q
      refine own_viaT st140 ?_
      show own_Go p e below s _ _ _ (T140.setTop (mkF m 94 #[.val (.int p0), .val (.int p1), .val (.int p2), .val (.ref b1), .val (.int (4 : Int32)), .val (.int (0 : Int32)), .val (.ref b118), .val (.int (0 : Int32)), .unset, .unset, .unset] [(.int ((o_ishl ((nar .byte (o_i2b (o_iushr p0 (24 : Int32)))) &&& (255 : Int32)) (8 : Int32)) ||| ((nar .byte (o_i2b (o_iushr p0 (16 : Int32)))) &&& (255 : Int32))))]))
      refine own_via (fun _ k => XS.istore X140.here hx rfl (hb hby at_94) rfl (l' := #[.val (.int p0), .val (.int p1), .val (.int p2), .val (.ref b1), .val (.int (4 : Int32)), .val (.int (0 : Int32)), .val (.ref b118), .val (.int (0 : Int32)), .val (.int ((o_ishl ((nar .byte (o_i2b (o_iushr p0 (24 : Int32)))) &&& (255 : Int32)) (8 : Int32)) ||| ((nar .byte (o_i2b (o_iushr p0 (16 : Int32)))) &&& (255 : Int32)))), .unset, .unset]) rfl k) ?_
      show own_Go p e below s _ _ _ (T140.setTop (mkF m 96 #[.val (.int p0), .val (.int p1), .val (.int p2), .val (.ref b1), .val (.int (4 : Int32)), .val (.int (0 : Int32)), .val (.ref b118), .val (.int (0 : Int32)), .val (.int ((o_ishl ((nar .byte (o_i2b (o_iushr p0 (24 : Int32)))) &&& (255 : Int32)) (8 : Int32)) ||| ((nar .byte (o_i2b (o_iushr p0 (16 : Int32)))) &&& (255 : Int32)))), .unset, .unset] []))
      generalize hv147 : ((o_ishl ((nar .byte (o_i2b (o_iushr p0 (24 : Int32)))) &&& (255 : Int32)) (8 : Int32)) ||| ((nar .byte (o_i2b (o_iushr p0 (16 : Int32)))) &&& (255 : Int32))) = v147
      show own_Go p e below s _ _ _ (T140.setTop (mkF m 96 #[.val (.int p0), .val (.int p1), .val (.int p2), .val (.ref b1), .val (.int (4 : Int32)), .val (.int (0 : Int32)), .val (.ref b118), .val (.int (0 : Int32)), .val (.int v147), .unset, .unset] []))
      refine own_via (fun _ k => XS.bipush X140.here hx rfl (hb hby at_96) k) ?_
      show own_Go p e below s _ _ _ (T140.setTop (mkF m 98 #[.val (.int p0), .val (.int p1), .val (.int p2), .val (.ref b1), .val (.int (4 : Int32)), .val (.int (0 : Int32)), .val (.ref b118), .val (.int (0 : Int32)), .val (.int v147), .unset, .unset] [(.int (16 : Int32))]))
      refine own_via (fun _ k => XS.bipush X140.here hx rfl (hb hby at_98) k) ?_
      show own_Go p e below s _ _ _ (T140.setTop (mkF m 100 #[.val (.int p0), .val (.int p1), .val (.int p2), .val (.ref b1), .val (.int (4 : Int32)), .val (.int (0 : Int32)), .val (.ref b118), .val (.int (0 : Int32)), .val (.int v147), .unset, .unset] [(.int (8 : Int32)), (.int (16 : Int32))]))
      refine own_via (fun _ k => XS.iload X140.here hx rfl (hb hby at_100) rfl k) ?_
      show own_Go p e below s _ _ _ (T140.setTop (mkF m 102 #[.val (.int p0), .val (.int p1), .val (.int p2), .val (.ref b1), .val (.int (4 : Int32)), .val (.int (0 : Int32)), .val (.ref b118), .val (.int (0 : Int32)), .val (.int v147), .unset, .unset] [(.int (0 : Int32)), (.int (8 : Int32)), (.int (16 : Int32))]))
      refine own_via (fun _ k => XS.imul X140.here hx rfl (hb hby at_102) rfl k) ?_
      show own_Go p e below s _ _ _ (T140.setTop (mkF m 103 #[.val (.int p0), .val (.int p1), .val (.int p2), .val (.ref b1), .val (.int (4 : Int32)), .val (.int (0 : Int32)), .val (.ref b118), .val (.int (0 : Int32)), .val (.int v147), .unset, .unset] [(.int (0 : Int32)), (.int (16 : Int32))]))
      refine own_via (fun _ k => XS.isub X140.here hx rfl (hb hby at_103) rfl k) ?_
      show own_Go p e below s _ _ _ (T140.setTop (mkF m 104 #[.val (.int p0), .val (.int p1), .val (.int p2), .val (.ref b1), .val (.int (4 : Int32)), .val (.int (0 : Int32)), .val (.ref b118), .val (.int (0 : Int32)), .val (.int v147), .unset, .unset] [(.int (16 : Int32))]))
      refine own_via (fun _ k => XS.istore X140.here hx rfl (hb hby at_104) rfl (l' := #[.val (.int p0), .val (.int p1), .val (.int p2), .val (.ref b1), .val (.int (4 : Int32)), .val (.int (0 : Int32)), .val (.ref b118), .val (.int (0 : Int32)), .val (.int v147), .val (.int (16 : Int32)), .unset]) rfl k) ?_
      show own_Go p e below s _ _ _ (T140.setTop (mkF m 106 #[.val (.int p0), .val (.int p1), .val (.int p2), .val (.ref b1), .val (.int (4 : Int32)), .val (.int (0 : Int32)), .val (.ref b118), .val (.int (0 : Int32)), .val (.int v147), .val (.int (16 : Int32)), .unset] []))
      refine own_via (fun _ k => XS.iloadN X140.here hx rfl (hb hby at_106) rfl k) ?_
      show own_Go p e below s _ _ _ (T140.setTop (mkF m 107 #[.val (.int p0), .val (.int p1), .val (.int p2), .val (.ref b1), .val (.int (4 : Int32)), .val (.int (0 : Int32)), .val (.ref b118), .val (.int (0 : Int32)), .val (.int v147), .val (.int (16 : Int32)), .unset] [(.int p0)]))
      refine own_via (fun _ k => XS.iload X140.here hx rfl (hb hby at_107) rfl k) ?_
      show own_Go p e below s _ _ _ (T140.setTop (mkF m 109 #[.val (.int p0), .val (.int p1), .val (.int p2), .val (.ref b1), .val (.int (4 : Int32)), .val (.int (0 : Int32)), .val (.ref b118), .val (.int (0 : Int32)), .val (.int v147), .val (.int (16 : Int32)), .unset] [(.int (16 : Int32)), (.int p0)]))
      refine own_via (fun _ k => XS.iushr X140.here hx rfl (hb hby at_109) rfl k) ?_
      show own_Go p e below s _ _ _ (T140.setTop (mkF m 110 #[.val (.int p0), .val (.int p1), .val (.int p2), .val (.ref b1), .val (.int (4 : Int32)), .val (.int (0 : Int32)), .val (.ref b118), .val (.int (0 : Int32)), .val (.int v147), .val (.int (16 : Int32)), .unset] [(.int (o_iushr p0 (16 : Int32)))]))
      refine own_via (fun _ k => X140.ldcInt hx hown (mvT hZ (hw _ (List.mem_of_getElem? (i := 56) rfl))) (g := (mkF m 110 #[.val (.int p0), .val (.int p1), .val (.int p2), .val (.ref b1), .val (.int (4 : Int32)), .val (.int (0 : Int32)), .val (.ref b118), .val (.int (0 : Int32)), .val (.int v147), .val (.int (16 : Int32)), .unset] [(.int (o_iushr p0 (16 : Int32)))])) rfl (hb hby at_110) _ k) ?_
      show own_Go p e below s _ _ _ (T140.setTop (mkF m 112 #[.val (.int p0), .val (.int p1), .val (.int p2), .val (.ref b1), .val (.int (4 : Int32)), .val (.int (0 : Int32)), .val (.ref b118), .val (.int (0 : Int32)), .val (.int v147), .val (.int (16 : Int32)), .unset] [(.int (65535 : Int32)), (.int (o_iushr p0 (16 : Int32)))]))
      refine own_via (fun _ k => XS.iand X140.here hx rfl (hb hby at_112) rfl k) ?_
      show own_Go p e below s _ _ _ (T140.setTop (mkF m 113 #[.val (.int p0), .val (.int p1), .val (.int p2), .val (.ref b1), .val (.int (4 : Int32)), .val (.int (0 : Int32)), .val (.ref b118), .val (.int (0 : Int32)), .val (.int v147), .val (.int (16 : Int32)), .unset] [(.int ((o_iushr p0 (16 : Int32)) &&& (65535 : Int32)))]))
      refine own_via (fun _ k => XS.istore X140.here hx rfl (hb hby at_113) rfl (l' := #[.val (.int p0), .val (.int p1), .val (.int p2), .val (.ref b1), .val (.int (4 : Int32)), .val (.int (0 : Int32)), .val (.ref b118), .val (.int (0 : Int32)), .val (.int v147), .val (.int (16 : Int32)), .val (.int ((o_iushr p0 (16 : Int32)) &&& (65535 : Int32)))]) rfl k) ?_
      show own_Go p e below s _ _ _ (T140.setTop (mkF m 115 #[.val (.int p0), .val (.int p1), .val (.int p2), .val (.ref b1), .val (.int (4 : Int32)), .val (.int (0 : Int32)), .val (.ref b118), .val (.int (0 : Int32)), .val (.int v147), .val (.int (16 : Int32)), .val (.int ((o_iushr p0 (16 : Int32)) &&& (65535 : Int32)))] []))
      generalize hv148 : ((o_iushr p0 (16 : Int32)) &&& (65535 : Int32)) = v148
      show own_Go p e below s _ _ _ (T140.setTop (mkF m 115 #[.val (.int p0), .val (.int p1), .val (.int p2), .val (.ref b1), .val (.int (4 : Int32)), .val (.int (0 : Int32)), .val (.ref b118), .val (.int (0 : Int32)), .val (.int v147), .val (.int (16 : Int32)), .val (.int v148)] []))
      refine own_via (fun _ k => XS.iload X140.here hx rfl (hb hby at_115) rfl k) ?_
      show own_Go p e below s _ _ _ (T140.setTop (mkF m 117 #[.val (.int p0), .val (.int p1), .val (.int p2), .val (.ref b1), .val (.int (4 : Int32)), .val (.int (0 : Int32)), .val (.ref b118), .val (.int (0 : Int32)), .val (.int v147), .val (.int (16 : Int32)), .val (.int v148)] [(.int v147)]))
      refine own_via (fun _ k => XS.iload X140.here hx rfl (hb hby at_117) rfl k) ?_
      show own_Go p e below s _ _ _ (T140.setTop (mkF m 119 #[.val (.int p0), .val (.int p1), .val (.int p2), .val (.ref b1), .val (.int (4 : Int32)), .val (.int (0 : Int32)), .val (.ref b118), .val (.int (0 : Int32)), .val (.int v147), .val (.int (16 : Int32)), .val (.int v148)] [(.int v148), (.int v147)]))
      have hh149 : v147 = v148 := by rw [← hv147, ← hv148]; exact own_t0 p0
      have hc150 : v147 = v148 := hh149
      refine own_via (fun _ k => XS.icmpYes X140.here hx rfl (pc0 := 119) (pc' := 124) rfl (hb hby at_119) rfl (Jvm.Free.XT.ii_eq_t hc150) (by decide) (by decide) k) ?_
      show own_Go p e below s _ _ _ (T140.setTop (mkF m 124 #[.val (.int p0), .val (.int p1), .val (.int p2), .val (.ref b1), .val (.int (4 : Int32)), .val (.int (0 : Int32)), .val (.ref b118), .val (.int (0 : Int32)), .val (.int v147), .val (.int (16 : Int32)), .val (.int v148)] []))
      refine own_via (fun _ k => XS.iload X140.here hx rfl (hb hby at_124) rfl k) ?_
      show own_Go p e below s _ _ _ (T140.setTop (mkF m 126 #[.val (.int p0), .val (.int p1), .val (.int p2), .val (.ref b1), .val (.int (4 : Int32)), .val (.int (0 : Int32)), .val (.ref b118), .val (.int (0 : Int32)), .val (.int v147), .val (.int (16 : Int32)), .val (.int v148)] [(.int v147)]))
      have hc151 : ¬ (v147 < (0 : Int32)) := (own_rg hv148 hh149).1
      refine own_via (fun _ k => XS.ifNo X140.here hx rfl (hb hby at_126) rfl (Jvm.Free.XT.i0_lt_f hc151) k) ?_
      show own_Go p e below s _ _ _ (T140.setTop (mkF m 129 #[.val (.int p0), .val (.int p1), .val (.int p2), .val (.ref b1), .val (.int (4 : Int32)), .val (.int (0 : Int32)), .val (.ref b118), .val (.int (0 : Int32)), .val (.int v147), .val (.int (16 : Int32)), .val (.int v148)] []))
      refine own_via (fun _ k => XS.iload X140.here hx rfl (hb hby at_129) rfl k) ?_
      show own_Go p e below s _ _ _ (T140.setTop (mkF m 131 #[.val (.int p0), .val (.int p1), .val (.int p2), .val (.ref b1), .val (.int (4 : Int32)), .val (.int (0 : Int32)), .val (.ref b118), .val (.int (0 : Int32)), .val (.int v147), .val (.int (16 : Int32)), .val (.int v148)] [(.int v147)]))
      refine own_via (fun _ k => X140.ldcInt hx hown (mvT hZ (hw _ (List.mem_of_getElem? (i := 56) rfl))) (g := (mkF m 131 #[.val (.int p0), .val (.int p1), .val (.int p2), .val (.ref b1), .val (.int (4 : Int32)), .val (.int (0 : Int32)), .val (.ref b118), .val (.int (0 : Int32)), .val (.int v147), .val (.int (16 : Int32)), .val (.int v148)] [(.int v147)])) rfl (hb hby at_131) _ k) ?_
      show own_Go p e below s _ _ _ (T140.setTop (mkF m 133 #[.val (.int p0), .val (.int p1), .val (.int p2), .val (.ref b1), .val (.int (4 : Int32)), .val (.int (0 : Int32)), .val (.ref b118), .val (.int (0 : Int32)), .val (.int v147), .val (.int (16 : Int32)), .val (.int v148)] [(.int (65535 : Int32)), (.int v147)]))
      have hc152 : ¬ ((65535 : Int32) < v147) := (own_rg hv148 hh149).2
      refine own_via (fun _ k => XS.icmpYes X140.here hx rfl (pc0 := 133) (pc' := 138) rfl (hb hby at_133) rfl (Jvm.Free.XT.ii_le_t hc152) (by decide) (by decide) k) ?_
      show own_Go p e below s _ _ _ (T140.setTop (mkF m 138 #[.val (.int p0), .val (.int p1), .val (.int p2), .val (.ref b1), .val (.int (4 : Int32)), .val (.int (0 : Int32)), .val (.ref b118), .val (.int (0 : Int32)), .val (.int v147), .val (.int (16 : Int32)), .val (.int v148)] []))
      refine own_via (fun _ k => XS.aload X140.here hx rfl (hb hby at_138) rfl rfl k) ?_
      show own_Go p e below s _ _ _ (T140.setTop (mkF m 140 #[.val (.int p0), .val (.int p1), .val (.int p2), .val (.ref b1), .val (.int (4 : Int32)), .val (.int (0 : Int32)), .val (.ref b118), .val (.int (0 : Int32)), .val (.int v147), .val (.int (16 : Int32)), .val (.int v148)] [(.ref b118)]))
      obtain ⟨cq153, kq153, qa153, qb153, qc153⟩ := isOf hZ e140 F142
      obtain ⟨_, _, ⟨T153, L153, k153, n153⟩, -, X153, ⟨Lc153, hQ153, l153, y153, z153⟩, st153⟩ := X140.virtualBack hx (y := (⟨"com/example/greenbelt/greenbelt/io/FrameInput", "remaining", "()I"⟩ : MethodName)) (z := (⟨"com/example/greenbelt/greenbelt/io/FrameInput", "remaining", "()I"⟩ : MethodName)) hown (mvT hZ (hw _ (List.mem_of_getElem? (i := 57) rfl))) (mvT hZ (hw _ (List.mem_of_getElem? (i := 36) rfl))) (notFace_of_selects (args := #[]) (mvT hZ (hw _ (List.mem_of_getElem? (i := 38) rfl)))) (mvT hZ (hw _ (List.mem_of_getElem? (i := 38) rfl))) (mvT hZ (hw _ (List.mem_of_getElem? (i := 37) rfl))) (by decide) (backOf (W := 0) (rm7 l Z a0 hw [] b118 (4 : Int32) (2 : Int32) h140 n0 Z140 F145 F146) hZ (hw _ (List.mem_of_getElem? (i := 39) rfl)) (hw _ (List.mem_of_getElem? (i := 4) rfl)) (by decide) (by decide)) qa153 qc153 (g := (mkF m 140 #[.val (.int p0), .val (.int p1), .val (.int p2), .val (.ref b1), .val (.int (4 : Int32)), .val (.int (0 : Int32)), .val (.ref b118), .val (.int (0 : Int32)), .val (.int v147), .val (.int (16 : Int32)), .val (.int v148)] [(.ref b118)])) rfl (by rw [hml]; rfl) (Steps.refl _) (argsL := []) (rest := []) (lenOf pd_2 rfl) rfl (by show 2 * 0 + _ ≤ _; exact Nat.le_of_eq rfl) (hb hby at_140) (fun _ _ => ⟨rfl, e140, (by decide : 3 + 0 ≤ _), (by decide : 7 + 0 ≤ _)⟩)
      dsimp only [Pt.U, Pt.locs, Pt.cells, Pt.slots] at X153 l153 y153 z153 st153 hQ153
      subst l153 y153 z153
      obtain ⟨rfl, N153q, e153⟩ := hQ153
      have N153 := Fr.app N140 N153q
      refine own_viaT st153 ?_
      show own_Go p e below s _ _ _ (T153.setTop (mkF m 143 #[.val (.int p0), .val (.int p1), .val (.int p2), .val (.ref b1), .val (.int (4 : Int32)), .val (.int (0 : Int32)), .val (.ref b118), .val (.int (0 : Int32)), .val (.int v147), .val (.int (16 : Int32)), .val (.int v148)] [(.int (2 : Int32))]))
      refine own_via (fun _ k => XS.iload X153.here hx rfl (hb hby at_143) rfl k) ?_
      show own_Go p e below s _ _ _ (T153.setTop (mkF m 145 #[.val (.int p0), .val (.int p1), .val (.int p2), .val (.ref b1), .val (.int (4 : Int32)), .val (.int (0 : Int32)), .val (.ref b118), .val (.int (0 : Int32)), .val (.int v147), .val (.int (16 : Int32)), .val (.int v148)] [(.int (4 : Int32)), (.int (2 : Int32))]))
      refine own_via (fun _ k => XS.iload X153.here hx rfl (hb hby at_145) rfl k) ?_
      show own_Go p e below s _ _ _ (T153.setTop (mkF m 147 #[.val (.int p0), .val (.int p1), .val (.int p2), .val (.ref b1), .val (.int (4 : Int32)), .val (.int (0 : Int32)), .val (.ref b118), .val (.int (0 : Int32)), .val (.int v147), .val (.int (16 : Int32)), .val (.int v148)] [(.int (0 : Int32)), (.int (4 : Int32)), (.int (2 : Int32))]))
      refine own_via (fun _ k => XS.isub X153.here hx rfl (hb hby at_147) rfl k) ?_
      show own_Go p e below s _ _ _ (T153.setTop (mkF m 148 #[.val (.int p0), .val (.int p1), .val (.int p2), .val (.ref b1), .val (.int (4 : Int32)), .val (.int (0 : Int32)), .val (.ref b118), .val (.int (0 : Int32)), .val (.int v147), .val (.int (16 : Int32)), .val (.int v148)] [(.int (4 : Int32)), (.int (2 : Int32))]))
      refine own_via (fun _ k => XS.iconst X153.here hx rfl (hb hby at_148) k) ?_
      show own_Go p e below s _ _ _ (T153.setTop (mkF m 149 #[.val (.int p0), .val (.int p1), .val (.int p2), .val (.ref b1), .val (.int (4 : Int32)), .val (.int (0 : Int32)), .val (.ref b118), .val (.int (0 : Int32)), .val (.int v147), .val (.int (16 : Int32)), .val (.int v148)] [(.int (2 : Int32)), (.int (4 : Int32)), (.int (2 : Int32))]))
      refine own_via (fun _ k => XS.isub X153.here hx rfl (hb hby at_149) rfl k) ?_
      show own_Go p e below s _ _ _ (T153.setTop (mkF m 150 #[.val (.int p0), .val (.int p1), .val (.int p2), .val (.ref b1), .val (.int (4 : Int32)), .val (.int (0 : Int32)), .val (.ref b118), .val (.int (0 : Int32)), .val (.int v147), .val (.int (16 : Int32)), .val (.int v148)] [(.int (2 : Int32)), (.int (2 : Int32))]))
      refine own_via (fun _ k => XS.icmpNo X153.here hx rfl (hb hby at_150) rfl (Jvm.Free.XT.ii_ne_f (by decide)) k) ?_
      show own_Go p e below s _ _ _ (T153.setTop (mkF m 153 #[.val (.int p0), .val (.int p1), .val (.int p2), .val (.ref b1), .val (.int (4 : Int32)), .val (.int (0 : Int32)), .val (.ref b118), .val (.int (0 : Int32)), .val (.int v147), .val (.int (16 : Int32)), .val (.int v148)] []))
      refine own_via (fun _ k => XS.iconst X153.here hx rfl (hb hby at_153) k) ?_
      show own_Go p e below s _ _ _ (T153.setTop (mkF m 154 #[.val (.int p0), .val (.int p1), .val (.int p2), .val (.ref b1), .val (.int (4 : Int32)), .val (.int (0 : Int32)), .val (.ref b118), .val (.int (0 : Int32)), .val (.int v147), .val (.int (16 : Int32)), .val (.int v148)] [(.int (1 : Int32))]))
      refine own_via (fun _ k => XS.goto X153.here hx rfl (pc0 := 154) (pc' := 158) rfl (hb hby at_154) (by decide) (by decide) k) ?_
      show own_Go p e below s _ _ _ (T153.setTop (mkF m 158 #[.val (.int p0), .val (.int p1), .val (.int p2), .val (.ref b1), .val (.int (4 : Int32)), .val (.int (0 : Int32)), .val (.ref b118), .val (.int (0 : Int32)), .val (.int v147), .val (.int (16 : Int32)), .val (.int v148)] [(.int (1 : Int32))]))
      exact own_goN X153 hx (t := .boolean) Bd.returns (by simp) (hb hby at_158) Bd.notSynchronized (by decide) (by decide) (by rw [e153]; exact ⟨rfl, N153⟩)
    · show own_Go p e below s _ _ _ (T5.setTop (mkF m 54 #[.val (.int p0), .val (.int p1), .val (.int p2), .val (.ref b1), .val (.int (4 : Int32)), .val (.int (1 : Int32)), .unset, .unset, .unset, .unset, .unset] []))
      obtain ⟨T154, h154, X154, e154, E154, A154, D154, -, st154⟩ := newO X5 hx hZ hown (hw _ (List.mem_of_getElem? (i := 2) rfl)) (hw _ (List.mem_of_getElem? (i := 3) rfl)) (hw _ (List.mem_of_getElem? (i := 4) rfl)) e5 (g := (mkF m 54 #[.val (.int p0), .val (.int p1), .val (.int p2), .val (.ref b1), .val (.int (4 : Int32)), .val (.int (1 : Int32)), .unset, .unset, .unset, .unset, .unset] [])) rfl (hb hby at_54) (by decide) (by decide)
      obtain ⟨b154, gg154⟩ : ∃ z, z = h5.size := ⟨_, rfl⟩
      rw [← gg154] at A154 D154 st154
      have ne_b1_b154 : b1 ≠ b154 := Nat.ne_of_lt (Nat.lt_of_lt_of_le V5.lt (Nat.le_of_eq gg154.symm))
      have g_b154 : n0 ≤ b154 := Nat.le_trans Z5 (Nat.le_of_eq gg154.symm)
      have Z154 : n0 ≤ h154.size := Nat.le_trans Z5 E154.1
      have F155 : Fld Z h154 b154 "com/example/greenbelt/greenbelt/io/FrameInput" "bytes" "[B" .null := D154 (Or.inl (hw _ (List.mem_of_getElem? (i := 12) rfl))) (ty := (.array .byte)) (by decide)
      have F156 : Fld Z h154 b154 "com/example/greenbelt/greenbelt/io/FrameInput" "position" "I" (.int (0 : Int32)) := D154 (Or.inl (hw _ (List.mem_of_getElem? (i := 27) rfl))) (ty := .int) (by decide)
      have F157 : Fld Z h154 b154 "com/example/greenbelt/greenbelt/io/FrameInput" "end" "I" (.int (0 : Int32)) := D154 (Or.inl (hw _ (List.mem_of_getElem? (i := 29) rfl))) (ty := .int) (by decide)
      refine own_via st154 ?_
      show own_Go p e below s _ _ _ (T154.setTop (mkF m 57 #[.val (.int p0), .val (.int p1), .val (.int p2), .val (.ref b1), .val (.int (4 : Int32)), .val (.int (1 : Int32)), .unset, .unset, .unset, .unset, .unset] [(.ref b154)]))
      refine own_via (fun _ k => XS.dup X154.here hx rfl (hb hby at_57) rfl rfl k) ?_
      show own_Go p e below s _ _ _ (T154.setTop (mkF m 58 #[.val (.int p0), .val (.int p1), .val (.int p2), .val (.ref b1), .val (.int (4 : Int32)), .val (.int (1 : Int32)), .unset, .unset, .unset, .unset, .unset] [(.ref b154), (.ref b154)]))
      obtain ⟨_, _, ⟨T158, L158, k158, n158⟩, -, X158, ⟨Lc158, hQ158, l158, y158, z158⟩, st158⟩ := X154.specialBack hx (y := (⟨"com/example/greenbelt/greenbelt/io/FrameInput", "<init>", "()V"⟩ : MethodName)) rfl hown (mvT hZ (hw _ (List.mem_of_getElem? (i := 5) rfl))) (mvT hZ (hw _ (List.mem_of_getElem? (i := 6) rfl))) (mvT hZ (hw _ (List.mem_of_getElem? (i := 7) rfl))) (by decide) (backOf (W := 1) (rm1 l Z a0 hw [] b154 h154 n0 Z154 A154 F155 F156 F157 g_b154) hZ (hw _ (List.mem_of_getElem? (i := 7) rfl)) (hw _ (List.mem_of_getElem? (i := 4) rfl)) (by decide) (by decide)) (g := (mkF m 58 #[.val (.int p0), .val (.int p1), .val (.int p2), .val (.ref b1), .val (.int (4 : Int32)), .val (.int (1 : Int32)), .unset, .unset, .unset, .unset, .unset] [(.ref b154), (.ref b154)])) rfl (by rw [hml]; rfl) (Steps.refl _) (a := b154) (argsL := []) (rest := [(.ref b154)]) (lenOf pd_5 rfl) rfl (by show 2 * 0 + _ ≤ _; exact Nat.le_of_eq rfl) (hb hby at_58) (fun _ _ => ⟨rfl, e154, (by decide : 2 + 1 ≤ _), (by decide : 7 + 0 ≤ _)⟩)
      dsimp only [Pt.U, Pt.locs, Pt.cells, Pt.slots] at X158 l158 y158 z158 st158 hQ158
      subst l158 y158 z158
      obtain ⟨h158, e158⟩ : ∃ h, T158.heap = h := ⟨_, rfl⟩
      rw [e158] at hQ158
      obtain ⟨b_158, rfl, N158q, Kq158, F159, F160, F161, F162, F163⟩ := hQ158
      have ne_b1_b_158 : b1 ≠ b_158 := Nat.ne_of_lt (Nat.lt_of_lt_of_le (V5.ext E154).lt F159)
      have ne_b154_b_158 : b154 ≠ b_158 := Nat.ne_of_lt (Nat.lt_of_lt_of_le A154.lt F159)
      have g_b_158 : n0 ≤ b_158 := Nat.le_trans Z154 F159
      have Z158 : n0 ≤ h158.size := Nat.le_trans Z154 Kq158.1
      have N158 := Fr.app N5 N158q
      refine own_viaT st158 ?_
      show own_Go p e below s _ _ _ (T158.setTop (mkF m 61 #[.val (.int p0), .val (.int p1), .val (.int p2), .val (.ref b1), .val (.int (4 : Int32)), .val (.int (1 : Int32)), .unset, .unset, .unset, .unset, .unset] [(.ref b154)]))
      refine own_via (fun _ k => XS.astore X158.here hx rfl (hb hby at_61) rfl rfl (l' := #[.val (.int p0), .val (.int p1), .val (.int p2), .val (.ref b1), .val (.int (4 : Int32)), .val (.int (1 : Int32)), .val (.ref b154), .unset, .unset, .unset, .unset]) rfl k) ?_
      show own_Go p e below s _ _ _ (T158.setTop (mkF m 63 #[.val (.int p0), .val (.int p1), .val (.int p2), .val (.ref b1), .val (.int (4 : Int32)), .val (.int (1 : Int32)), .val (.ref b154), .unset, .unset, .unset, .unset] []))
      refine own_via (fun _ k => XS.aload X158.here hx rfl (hb hby at_63) rfl rfl k) ?_
      show own_Go p e below s _ _ _ (T158.setTop (mkF m 65 #[.val (.int p0), .val (.int p1), .val (.int p2), .val (.ref b1), .val (.int (4 : Int32)), .val (.int (1 : Int32)), .val (.ref b154), .unset, .unset, .unset, .unset] [(.ref b154)]))
      refine own_via (fun _ k => XS.aloadN X158.here hx rfl (hb hby at_65) rfl rfl k) ?_
      show own_Go p e below s _ _ _ (T158.setTop (mkF m 66 #[.val (.int p0), .val (.int p1), .val (.int p2), .val (.ref b1), .val (.int (4 : Int32)), .val (.int (1 : Int32)), .val (.ref b154), .unset, .unset, .unset, .unset] [(.ref b1), (.ref b154)]))
      refine own_via (fun _ k => XS.iload X158.here hx rfl (hb hby at_66) rfl k) ?_
      show own_Go p e below s _ _ _ (T158.setTop (mkF m 68 #[.val (.int p0), .val (.int p1), .val (.int p2), .val (.ref b1), .val (.int (4 : Int32)), .val (.int (1 : Int32)), .val (.ref b154), .unset, .unset, .unset, .unset] [(.int (4 : Int32)), (.ref b1), (.ref b154)]))
      have F165 := ((V5.ext E154).keep Kq158 (ninS ne_b1_b154 nin0))
      obtain ⟨cq164, kq164, qa164, qb164, qc164⟩ := isOf hZ e158 F160
      obtain ⟨_, _, ⟨T164, L164, k164, n164⟩, -, X164, ⟨Lc164, hQ164, l164, y164, z164⟩, st164⟩ := X158.virtualBack hx (y := (⟨"com/example/greenbelt/greenbelt/io/FrameInput", "reset", "([BI)V"⟩ : MethodName)) (z := (⟨"com/example/greenbelt/greenbelt/io/FrameInput", "reset", "([BI)V"⟩ : MethodName)) hown (mvT hZ (hw _ (List.mem_of_getElem? (i := 13) rfl))) (mvT hZ (hw _ (List.mem_of_getElem? (i := 14) rfl))) (notFace_of_selects (args := #[]) (mvT hZ (hw _ (List.mem_of_getElem? (i := 16) rfl)))) (mvT hZ (hw _ (List.mem_of_getElem? (i := 16) rfl))) (mvT hZ (hw _ (List.mem_of_getElem? (i := 15) rfl))) (by decide) (backOf (W := 0) (rm3 l Z a0 hw [] b154 b1 (4 : Int32) (.ref b_158) k1 (4 : Int32) [(.int (nar .byte (o_i2b (o_iushr p0 (24 : Int32))))), (.int (nar .byte (o_i2b (o_iushr p0 (16 : Int32))))), (.int (nar .byte (o_i2b (o_iushr p0 (8 : Int32))))), (.int (nar .byte (o_i2b p0)))] (.int (0 : Int32)) h158 n0 Z158 F160 F161 F162 F163 F165 g_b154 (by first | decide | (simp; done)) (by first | decide | (simp; done))) hZ (hw _ (List.mem_of_getElem? (i := 17) rfl)) (hw _ (List.mem_of_getElem? (i := 4) rfl)) (by decide) (by decide)) qa164 qc164 (g := (mkF m 68 #[.val (.int p0), .val (.int p1), .val (.int p2), .val (.ref b1), .val (.int (4 : Int32)), .val (.int (1 : Int32)), .val (.ref b154), .unset, .unset, .unset, .unset] [(.int (4 : Int32)), (.ref b1), (.ref b154)])) rfl (by rw [hml]; rfl) (Steps.refl _) (argsL := [(.ref b1), (.int (4 : Int32))]) (rest := []) (lenOf pd_6 rfl) rfl (by show 2 * 0 + _ ≤ _; exact Nat.le_of_eq rfl) (hb hby at_68) (fun _ _ => ⟨rfl, e158, (by decide : 3 + 0 ≤ _), (by decide : 7 + 0 ≤ _)⟩)
      dsimp only [Pt.U, Pt.locs, Pt.cells, Pt.slots] at X164 l164 y164 z164 st164 hQ164
      subst l164 y164 z164
      obtain ⟨h164, e164⟩ : ∃ h, T164.heap = h := ⟨_, rfl⟩
      rw [e164] at hQ164
      obtain ⟨rfl, N164q, Kq164, F166, F167, F168, F169⟩ := hQ164
      have Z164 : n0 ≤ h164.size := Nat.le_trans Z158 Kq164.1
      have N164 := Fr.app N158 N164q
      refine own_viaT st164 ?_
      show own_Go p e below s _ _ _ (T164.setTop (mkF m 71 #[.val (.int p0), .val (.int p1), .val (.int p2), .val (.ref b1), .val (.int (4 : Int32)), .val (.int (1 : Int32)), .val (.ref b154), .unset, .unset, .unset, .unset] []))
      refine own_via (fun _ k => XS.aload X164.here hx rfl (hb hby at_71) rfl rfl k) ?_
      show own_Go p e below s _ _ _ (T164.setTop (mkF m 73 #[.val (.int p0), .val (.int p1), .val (.int p2), .val (.ref b1), .val (.int (4 : Int32)), .val (.int (1 : Int32)), .val (.ref b154), .unset, .unset, .unset, .unset] [(.ref b154)]))
      refine own_via (fun _ k => XS.iload X164.here hx rfl (hb hby at_73) rfl k) ?_
      show own_Go p e below s _ _ _ (T164.setTop (mkF m 75 #[.val (.int p0), .val (.int p1), .val (.int p2), .val (.ref b1), .val (.int (4 : Int32)), .val (.int (1 : Int32)), .val (.ref b154), .unset, .unset, .unset, .unset] [(.int (1 : Int32)), (.ref b154)]))
      obtain ⟨cq170, kq170, qa170, qb170, qc170⟩ := isOf hZ e164 F166
      obtain ⟨_, _, ⟨T170, L170, k170, n170⟩, -, X170, ⟨Lc170, hQ170, l170, y170, z170⟩, st170⟩ := X164.virtualBack hx (y := (⟨"com/example/greenbelt/greenbelt/io/FrameInput", "skipBytes", "(I)I"⟩ : MethodName)) (z := (⟨"com/example/greenbelt/greenbelt/io/FrameInput", "skipBytes", "(I)I"⟩ : MethodName)) hown (mvT hZ (hw _ (List.mem_of_getElem? (i := 30) rfl))) (mvT hZ (hw _ (List.mem_of_getElem? (i := 31) rfl))) (notFace_of_selects (args := #[]) (mvT hZ (hw _ (List.mem_of_getElem? (i := 33) rfl)))) (mvT hZ (hw _ (List.mem_of_getElem? (i := 33) rfl))) (mvT hZ (hw _ (List.mem_of_getElem? (i := 32) rfl))) (by decide) (backOf (W := 0) (rm6 l Z a0 hw [] b154 (1 : Int32) (4 : Int32) (0 : Int32) (.ref b1) h164 n0 Z164 F166 F167 F168 F169 g_b154 (by first | decide | (simp; done)) (by first | decide | (simp; done))) hZ (hw _ (List.mem_of_getElem? (i := 34) rfl)) (hw _ (List.mem_of_getElem? (i := 4) rfl)) (by decide) (by decide)) qa170 qc170 (g := (mkF m 75 #[.val (.int p0), .val (.int p1), .val (.int p2), .val (.ref b1), .val (.int (4 : Int32)), .val (.int (1 : Int32)), .val (.ref b154), .unset, .unset, .unset, .unset] [(.int (1 : Int32)), (.ref b154)])) rfl (by rw [hml]; rfl) (Steps.refl _) (argsL := [(.int (1 : Int32))]) (rest := []) (lenOf pd_4 rfl) rfl (by show 2 * 0 + _ ≤ _; exact Nat.le_of_eq rfl) (hb hby at_75) (fun _ _ => ⟨rfl, e164, (by decide : 3 + 0 ≤ _), (by decide : 7 + 0 ≤ _)⟩)
      dsimp only [Pt.U, Pt.locs, Pt.cells, Pt.slots] at X170 l170 y170 z170 st170 hQ170
      subst l170 y170 z170
      obtain ⟨h170, e170⟩ : ∃ h, T170.heap = h := ⟨_, rfl⟩
      rw [e170] at hQ170
      obtain ⟨rfl, N170q, Kq170, F171, F172, F173, F174⟩ := hQ170
      have Z170 : n0 ≤ h170.size := Nat.le_trans Z164 Kq170.1
      have F175 : Fld Z h170 b154 "com/example/greenbelt/greenbelt/io/FrameInput" "position" "I" (.int (1 : Int32)) := F173
      have N170 := Fr.app N164 N170q
      refine own_viaT st170 ?_
      show own_Go p e below s _ _ _ (T170.setTop (mkF m 78 #[.val (.int p0), .val (.int p1), .val (.int p2), .val (.ref b1), .val (.int (4 : Int32)), .val (.int (1 : Int32)), .val (.ref b154), .unset, .unset, .unset, .unset] [(.int (1 : Int32))]))
      refine own_via (fun _ k => XS.istore X170.here hx rfl (hb hby at_78) rfl (l' := #[.val (.int p0), .val (.int p1), .val (.int p2), .val (.ref b1), .val (.int (4 : Int32)), .val (.int (1 : Int32)), .val (.ref b154), .val (.int (1 : Int32)), .unset, .unset, .unset]) rfl k) ?_
      show own_Go p e below s _ _ _ (T170.setTop (mkF m 80 #[.val (.int p0), .val (.int p1), .val (.int p2), .val (.ref b1), .val (.int (4 : Int32)), .val (.int (1 : Int32)), .val (.ref b154), .val (.int (1 : Int32)), .unset, .unset, .unset] []))
      refine own_via (fun _ k => XS.iload X170.here hx rfl (hb hby at_80) rfl k) ?_
      show own_Go p e below s _ _ _ (T170.setTop (mkF m 82 #[.val (.int p0), .val (.int p1), .val (.int p2), .val (.ref b1), .val (.int (4 : Int32)), .val (.int (1 : Int32)), .val (.ref b154), .val (.int (1 : Int32)), .unset, .unset, .unset] [(.int (1 : Int32))]))
      refine own_via (fun _ k => XS.iload X170.here hx rfl (hb hby at_82) rfl k) ?_
      show own_Go p e below s _ _ _ (T170.setTop (mkF m 84 #[.val (.int p0), .val (.int p1), .val (.int p2), .val (.ref b1), .val (.int (4 : Int32)), .val (.int (1 : Int32)), .val (.ref b154), .val (.int (1 : Int32)), .unset, .unset, .unset] [(.int (1 : Int32)), (.int (1 : Int32))]))
      refine own_via (fun _ k => XS.icmpYes X170.here hx rfl (pc0 := 84) (pc' := 89) rfl (hb hby at_84) rfl (Jvm.Free.XT.ii_eq_t (by decide)) (by decide) (by decide) k) ?_
      show own_Go p e below s _ _ _ (T170.setTop (mkF m 89 #[.val (.int p0), .val (.int p1), .val (.int p2), .val (.ref b1), .val (.int (4 : Int32)), .val (.int (1 : Int32)), .val (.ref b154), .val (.int (1 : Int32)), .unset, .unset, .unset] []))
      refine own_via (fun _ k => XS.aload X170.here hx rfl (hb hby at_89) rfl rfl k) ?_
      show own_Go p e below s _ _ _ (T170.setTop (mkF m 91 #[.val (.int p0), .val (.int p1), .val (.int p2), .val (.ref b1), .val (.int (4 : Int32)), .val (.int (1 : Int32)), .val (.ref b154), .val (.int (1 : Int32)), .unset, .unset, .unset] [(.ref b154)]))
      have F177 := ((F165.keep Kq164 (ninS ne_b1_b154 nin0)).keep Kq170 (ninS ne_b1_b154 nin0))
      obtain ⟨cq176, kq176, qa176, qb176, qc176⟩ := isOf hZ e170 F171
      obtain ⟨_, _, ⟨T176, L176, k176, n176⟩, -, X176, ⟨Lc176, hQ176, l176, y176, z176⟩, st176⟩ := X170.virtualBack hx (y := (⟨"com/example/greenbelt/greenbelt/io/FrameInput", "readUnsignedShort", "()I"⟩ : MethodName)) (z := (⟨"com/example/greenbelt/greenbelt/io/FrameInput", "readUnsignedShort", "()I"⟩ : MethodName)) hown (mvT hZ (hw _ (List.mem_of_getElem? (i := 47) rfl))) (mvT hZ (hw _ (List.mem_of_getElem? (i := 48) rfl))) (notFace_of_selects (args := #[]) (mvT hZ (hw _ (List.mem_of_getElem? (i := 50) rfl)))) (mvT hZ (hw _ (List.mem_of_getElem? (i := 50) rfl))) (mvT hZ (hw _ (List.mem_of_getElem? (i := 49) rfl))) (by decide) (backOf (W := 0) (rm10 l Z a0 hw [] b154 b1 (1 : Int32) (4 : Int32) k1 (4 : Int32) [(.int (nar .byte (o_i2b (o_iushr p0 (24 : Int32))))), (.int (nar .byte (o_i2b (o_iushr p0 (16 : Int32))))), (.int (nar .byte (o_i2b (o_iushr p0 (8 : Int32))))), (.int (nar .byte (o_i2b p0)))] (.int (0 : Int32)) (nar .byte (o_i2b (o_iushr p0 (16 : Int32)))) (nar .byte (o_i2b (o_iushr p0 (8 : Int32)))) h170 n0 Z170 F171 F172 F175 F174 g_b154 F177 (by decide) (by decide) (by decide) rfl rfl ne_b1_b154) hZ (hw _ (List.mem_of_getElem? (i := 51) rfl)) (hw _ (List.mem_of_getElem? (i := 4) rfl)) (by decide) (by decide)) qa176 qc176 (g := (mkF m 91 #[.val (.int p0), .val (.int p1), .val (.int p2), .val (.ref b1), .val (.int (4 : Int32)), .val (.int (1 : Int32)), .val (.ref b154), .val (.int (1 : Int32)), .unset, .unset, .unset] [(.ref b154)])) rfl (by rw [hml]; rfl) (Steps.refl _) (argsL := []) (rest := []) (lenOf pd_2 rfl) rfl (by show 2 * 0 + _ ≤ _; exact Nat.le_of_eq rfl) (hb hby at_91) (fun _ _ => ⟨rfl, e170, (by decide : 3 + 0 ≤ _), (by decide : 7 + 0 ≤ _)⟩)
      dsimp only [Pt.U, Pt.locs, Pt.cells, Pt.slots] at X176 l176 y176 z176 st176 hQ176
      subst l176 y176 z176
      obtain ⟨h176, e176⟩ : ∃ h, T176.heap = h := ⟨_, rfl⟩
      rw [e176] at hQ176
      obtain ⟨rfl, N176q, Kq176, F178, F179, F180, F181⟩ := hQ176
      have Z176 : n0 ≤ h176.size := Nat.le_trans Z170 Kq176.1
      have F182 : Fld Z h176 b154 "com/example/greenbelt/greenbelt/io/FrameInput" "position" "I" (.int (3 : Int32)) := F180
      have N176 := Fr.app N170 N176q
      refine own_viaT st176 ?_
      show own_Go p e below s _ _ _ (T176.setTop (mkF m 94 #[.val (.int p0), .val (.int p1), .val (.int p2), .val (.ref b1), .val (.int (4 : Int32)), .val (.int (1 : Int32)), .val (.ref b154), .val (.int (1 : Int32)), .unset, .unset, .unset] [(.int ((o_ishl ((nar .byte (o_i2b (o_iushr p0 (16 : Int32)))) &&& (255 : Int32)) (8 : Int32)) ||| ((nar .byte (o_i2b (o_iushr p0 (8 : Int32)))) &&& (255 : Int32))))]))
      refine own_via (fun _ k => XS.istore X176.here hx rfl (hb hby at_94) rfl (l' := #[.val (.int p0), .val (.int p1), .val (.int p2), .val (.ref b1), .val (.int (4 : Int32)), .val (.int (1 : Int32)), .val (.ref b154), .val (.int (1 : Int32)), .val (.int ((o_ishl ((nar .byte (o_i2b (o_iushr p0 (16 : Int32)))) &&& (255 : Int32)) (8 : Int32)) ||| ((nar .byte (o_i2b (o_iushr p0 (8 : Int32)))) &&& (255 : Int32)))), .unset, .unset]) rfl k) ?_
      show own_Go p e below s _ _ _ (T176.setTop (mkF m 96 #[.val (.int p0), .val (.int p1), .val (.int p2), .val (.ref b1), .val (.int (4 : Int32)), .val (.int (1 : Int32)), .val (.ref b154), .val (.int (1 : Int32)), .val (.int ((o_ishl ((nar .byte (o_i2b (o_iushr p0 (16 : Int32)))) &&& (255 : Int32)) (8 : Int32)) ||| ((nar .byte (o_i2b (o_iushr p0 (8 : Int32)))) &&& (255 : Int32)))), .unset, .unset] []))
      generalize hv183 : ((o_ishl ((nar .byte (o_i2b (o_iushr p0 (16 : Int32)))) &&& (255 : Int32)) (8 : Int32)) ||| ((nar .byte (o_i2b (o_iushr p0 (8 : Int32)))) &&& (255 : Int32))) = v183
      show own_Go p e below s _ _ _ (T176.setTop (mkF m 96 #[.val (.int p0), .val (.int p1), .val (.int p2), .val (.ref b1), .val (.int (4 : Int32)), .val (.int (1 : Int32)), .val (.ref b154), .val (.int (1 : Int32)), .val (.int v183), .unset, .unset] []))
      refine own_via (fun _ k => XS.bipush X176.here hx rfl (hb hby at_96) k) ?_
      show own_Go p e below s _ _ _ (T176.setTop (mkF m 98 #[.val (.int p0), .val (.int p1), .val (.int p2), .val (.ref b1), .val (.int (4 : Int32)), .val (.int (1 : Int32)), .val (.ref b154), .val (.int (1 : Int32)), .val (.int v183), .unset, .unset] [(.int (16 : Int32))]))
      refine own_via (fun _ k => XS.bipush X176.here hx rfl (hb hby at_98) k) ?_
      show own_Go p e below s _ _ _ (T176.setTop (mkF m 100 #[.val (.int p0), .val (.int p1), .val (.int p2), .val (.ref b1), .val (.int (4 : Int32)), .val (.int (1 : Int32)), .val (.ref b154), .val (.int (1 : Int32)), .val (.int v183), .unset, .unset] [(.int (8 : Int32)), (.int (16 : Int32))]))
      refine own_via (fun _ k => XS.iload X176.here hx rfl (hb hby at_100) rfl k) ?_
      show own_Go p e below s _ _ _ (T176.setTop (mkF m 102 #[.val (.int p0), .val (.int p1), .val (.int p2), .val (.ref b1), .val (.int (4 : Int32)), .val (.int (1 : Int32)), .val (.ref b154), .val (.int (1 : Int32)), .val (.int v183), .unset, .unset] [(.int (1 : Int32)), (.int (8 : Int32)), (.int (16 : Int32))]))
      refine own_via (fun _ k => XS.imul X176.here hx rfl (hb hby at_102) rfl k) ?_
      show own_Go p e below s _ _ _ (T176.setTop (mkF m 103 #[.val (.int p0), .val (.int p1), .val (.int p2), .val (.ref b1), .val (.int (4 : Int32)), .val (.int (1 : Int32)), .val (.ref b154), .val (.int (1 : Int32)), .val (.int v183), .unset, .unset] [(.int (8 : Int32)), (.int (16 : Int32))]))
      refine own_via (fun _ k => XS.isub X176.here hx rfl (hb hby at_103) rfl k) ?_
      show own_Go p e below s _ _ _ (T176.setTop (mkF m 104 #[.val (.int p0), .val (.int p1), .val (.int p2), .val (.ref b1), .val (.int (4 : Int32)), .val (.int (1 : Int32)), .val (.ref b154), .val (.int (1 : Int32)), .val (.int v183), .unset, .unset] [(.int (8 : Int32))]))
      refine own_via (fun _ k => XS.istore X176.here hx rfl (hb hby at_104) rfl (l' := #[.val (.int p0), .val (.int p1), .val (.int p2), .val (.ref b1), .val (.int (4 : Int32)), .val (.int (1 : Int32)), .val (.ref b154), .val (.int (1 : Int32)), .val (.int v183), .val (.int (8 : Int32)), .unset]) rfl k) ?_
      show own_Go p e below s _ _ _ (T176.setTop (mkF m 106 #[.val (.int p0), .val (.int p1), .val (.int p2), .val (.ref b1), .val (.int (4 : Int32)), .val (.int (1 : Int32)), .val (.ref b154), .val (.int (1 : Int32)), .val (.int v183), .val (.int (8 : Int32)), .unset] []))
      refine own_via (fun _ k => XS.iloadN X176.here hx rfl (hb hby at_106) rfl k) ?_
      show own_Go p e below s _ _ _ (T176.setTop (mkF m 107 #[.val (.int p0), .val (.int p1), .val (.int p2), .val (.ref b1), .val (.int (4 : Int32)), .val (.int (1 : Int32)), .val (.ref b154), .val (.int (1 : Int32)), .val (.int v183), .val (.int (8 : Int32)), .unset] [(.int p0)]))
      refine own_via (fun _ k => XS.iload X176.here hx rfl (hb hby at_107) rfl k) ?_
      show own_Go p e below s _ _ _ (T176.setTop (mkF m 109 #[.val (.int p0), .val (.int p1), .val (.int p2), .val (.ref b1), .val (.int (4 : Int32)), .val (.int (1 : Int32)), .val (.ref b154), .val (.int (1 : Int32)), .val (.int v183), .val (.int (8 : Int32)), .unset] [(.int (8 : Int32)), (.int p0)]))
      refine own_via (fun _ k => XS.iushr X176.here hx rfl (hb hby at_109) rfl k) ?_
      show own_Go p e below s _ _ _ (T176.setTop (mkF m 110 #[.val (.int p0), .val (.int p1), .val (.int p2), .val (.ref b1), .val (.int (4 : Int32)), .val (.int (1 : Int32)), .val (.ref b154), .val (.int (1 : Int32)), .val (.int v183), .val (.int (8 : Int32)), .unset] [(.int (o_iushr p0 (8 : Int32)))]))
      refine own_via (fun _ k => X176.ldcInt hx hown (mvT hZ (hw _ (List.mem_of_getElem? (i := 56) rfl))) (g := (mkF m 110 #[.val (.int p0), .val (.int p1), .val (.int p2), .val (.ref b1), .val (.int (4 : Int32)), .val (.int (1 : Int32)), .val (.ref b154), .val (.int (1 : Int32)), .val (.int v183), .val (.int (8 : Int32)), .unset] [(.int (o_iushr p0 (8 : Int32)))])) rfl (hb hby at_110) _ k) ?_
      show own_Go p e below s _ _ _ (T176.setTop (mkF m 112 #[.val (.int p0), .val (.int p1), .val (.int p2), .val (.ref b1), .val (.int (4 : Int32)), .val (.int (1 : Int32)), .val (.ref b154), .val (.int (1 : Int32)), .val (.int v183), .val (.int (8 : Int32)), .unset] [(.int (65535 : Int32)), (.int (o_iushr p0 (8 : Int32)))]))
      refine own_via (fun _ k => XS.iand X176.here hx rfl (hb hby at_112) rfl k) ?_
      show own_Go p e below s _ _ _ (T176.setTop (mkF m 113 #[.val (.int p0), .val (.int p1), .val (.int p2), .val (.ref b1), .val (.int (4 : Int32)), .val (.int (1 : Int32)), .val (.ref b154), .val (.int (1 : Int32)), .val (.int v183), .val (.int (8 : Int32)), .unset] [(.int ((o_iushr p0 (8 : Int32)) &&& (65535 : Int32)))]))
      refine own_via (fun _ k => XS.istore X176.here hx rfl (hb hby at_113) rfl (l' := #[.val (.int p0), .val (.int p1), .val (.int p2), .val (.ref b1), .val (.int (4 : Int32)), .val (.int (1 : Int32)), .val (.ref b154), .val (.int (1 : Int32)), .val (.int v183), .val (.int (8 : Int32)), .val (.int ((o_iushr p0 (8 : Int32)) &&& (65535 : Int32)))]) rfl k) ?_
      show own_Go p e below s _ _ _ (T176.setTop (mkF m 115 #[.val (.int p0), .val (.int p1), .val (.int p2), .val (.ref b1), .val (.int (4 : Int32)), .val (.int (1 : Int32)), .val (.ref b154), .val (.int (1 : Int32)), .val (.int v183), .val (.int (8 : Int32)), .val (.int ((o_iushr p0 (8 : Int32)) &&& (65535 : Int32)))] []))
      generalize hv184 : ((o_iushr p0 (8 : Int32)) &&& (65535 : Int32)) = v184
      show own_Go p e below s _ _ _ (T176.setTop (mkF m 115 #[.val (.int p0), .val (.int p1), .val (.int p2), .val (.ref b1), .val (.int (4 : Int32)), .val (.int (1 : Int32)), .val (.ref b154), .val (.int (1 : Int32)), .val (.int v183), .val (.int (8 : Int32)), .val (.int v184)] []))
      refine own_via (fun _ k => XS.iload X176.here hx rfl (hb hby at_115) rfl k) ?_
      show own_Go p e below s _ _ _ (T176.setTop (mkF m 117 #[.val (.int p0), .val (.int p1), .val (.int p2), .val (.ref b1), .val (.int (4 : Int32)), .val (.int (1 : Int32)), .val (.ref b154), .val (.int (1 : Int32)), .val (.int v183), .val (.int (8 : Int32)), .val (.int v184)] [(.int v183)]))
      refine own_via (fun _ k => XS.iload X176.here hx rfl (hb hby at_117) rfl k) ?_
      show own_Go p e below s _ _ _ (T176.setTop (mkF m 119 #[.val (.int p0), .val (.int p1), .val (.int p2), .val (.ref b1), .val (.int (4 : Int32)), .val (.int (1 : Int32)), .val (.ref b154), .val (.int (1 : Int32)), .val (.int v183), .val (.int (8 : Int32)), .val (.int v184)] [(.int v184), (.int v183)]))
      have hh185 : v183 = v184 := by rw [← hv183, ← hv184]; exact own_t1 p0
      have hc186 : v183 = v184 := hh185
      refine own_via (fun _ k => XS.icmpYes X176.here hx rfl (pc0 := 119) (pc' := 124) rfl (hb hby at_119) rfl (Jvm.Free.XT.ii_eq_t hc186) (by decide) (by decide) k) ?_
      show own_Go p e below s _ _ _ (T176.setTop (mkF m 124 #[.val (.int p0), .val (.int p1), .val (.int p2), .val (.ref b1), .val (.int (4 : Int32)), .val (.int (1 : Int32)), .val (.ref b154), .val (.int (1 : Int32)), .val (.int v183), .val (.int (8 : Int32)), .val (.int v184)] []))
      refine own_via (fun _ k => XS.iload X176.here hx rfl (hb hby at_124) rfl k) ?_
      show own_Go p e below s _ _ _ (T176.setTop (mkF m 126 #[.val (.int p0), .val (.int p1), .val (.int p2), .val (.ref b1), .val (.int (4 : Int32)), .val (.int (1 : Int32)), .val (.ref b154), .val (.int (1 : Int32)), .val (.int v183), .val (.int (8 : Int32)), .val (.int v184)] [(.int v183)]))
      have hc187 : ¬ (v183 < (0 : Int32)) := (own_rg hv184 hh185).1
      refine own_via (fun _ k => XS.ifNo X176.here hx rfl (hb hby at_126) rfl (Jvm.Free.XT.i0_lt_f hc187) k) ?_
      show own_Go p e below s _ _ _ (T176.setTop (mkF m 129 #[.val (.int p0), .val (.int p1), .val (.int p2), .val (.ref b1), .val (.int (4 : Int32)), .val (.int (1 : Int32)), .val (.ref b154), .val (.int (1 : Int32)), .val (.int v183), .val (.int (8 : Int32)), .val (.int v184)] []))
      refine own_via (fun _ k => XS.iload X176.here hx rfl (hb hby at_129) rfl k) ?_
      show own_Go p e below s _ _ _ (T176.setTop (mkF m 131 #[.val (.int p0), .val (.int p1), .val (.int p2), .val (.ref b1), .val (.int (4 : Int32)), .val (.int (1 : Int32)), .val (.ref b154), .val (.int (1 : Int32)), .val (.int v183), .val (.int (8 : Int32)), .val (.int v184)] [(.int v183)]))
      refine own_via (fun _ k => X176.ldcInt hx hown (mvT hZ (hw _ (List.mem_of_getElem? (i := 56) rfl))) (g := (mkF m 131 #[.val (.int p0), .val (.int p1), .val (.int p2), .val (.ref b1), .val (.int (4 : Int32)), .val (.int (1 : Int32)), .val (.ref b154), .val (.int (1 : Int32)), .val (.int v183), .val (.int (8 : Int32)), .val (.int v184)] [(.int v183)])) rfl (hb hby at_131) _ k) ?_
      show own_Go p e below s _ _ _ (T176.setTop (mkF m 133 #[.val (.int p0), .val (.int p1), .val (.int p2), .val (.ref b1), .val (.int (4 : Int32)), .val (.int (1 : Int32)), .val (.ref b154), .val (.int (1 : Int32)), .val (.int v183), .val (.int (8 : Int32)), .val (.int v184)] [(.int (65535 : Int32)), (.int v183)]))
      have hc188 : ¬ ((65535 : Int32) < v183) := (own_rg hv184 hh185).2
      refine own_via (fun _ k => XS.icmpYes X176.here hx rfl (pc0 := 133) (pc' := 138) rfl (hb hby at_133) rfl (Jvm.Free.XT.ii_le_t hc188) (by decide) (by decide) k) ?_
      show own_Go p e below s _ _ _ (T176.setTop (mkF m 138 #[.val (.int p0), .val (.int p1), .val (.int p2), .val (.ref b1), .val (.int (4 : Int32)), .val (.int (1 : Int32)), .val (.ref b154), .val (.int (1 : Int32)), .val (.int v183), .val (.int (8 : Int32)), .val (.int v184)] []))
      refine own_via (fun _ k => XS.aload X176.here hx rfl (hb hby at_138) rfl rfl k) ?_
      show own_Go p e below s _ _ _ (T176.setTop (mkF m 140 #[.val (.int p0), .val (.int p1), .val (.int p2), .val (.ref b1), .val (.int (4 : Int32)), .val (.int (1 : Int32)), .val (.ref b154), .val (.int (1 : Int32)), .val (.int v183), .val (.int (8 : Int32)), .val (.int v184)] [(.ref b154)]))
      obtain ⟨cq189, kq189, qa189, qb189, qc189⟩ := isOf hZ e176 F178
      obtain ⟨_, _, ⟨T189, L189, k189, n189⟩, -, X189, ⟨Lc189, hQ189, l189, y189, z189⟩, st189⟩ := X176.virtualBack hx (y := (⟨"com/example/greenbelt/greenbelt/io/FrameInput", "remaining", "()I"⟩ : MethodName)) (z := (⟨"com/example/greenbelt/greenbelt/io/FrameInput", "remaining", "()I"⟩ : MethodName)) hown (mvT hZ (hw _ (List.mem_of_getElem? (i := 57) rfl))) (mvT hZ (hw _ (List.mem_of_getElem? (i := 36) rfl))) (notFace_of_selects (args := #[]) (mvT hZ (hw _ (List.mem_of_getElem? (i := 38) rfl)))) (mvT hZ (hw _ (List.mem_of_getElem? (i := 38) rfl))) (mvT hZ (hw _ (List.mem_of_getElem? (i := 37) rfl))) (by decide) (backOf (W := 0) (rm7 l Z a0 hw [] b154 (4 : Int32) (3 : Int32) h176 n0 Z176 F181 F182) hZ (hw _ (List.mem_of_getElem? (i := 39) rfl)) (hw _ (List.mem_of_getElem? (i := 4) rfl)) (by decide) (by decide)) qa189 qc189 (g := (mkF m 140 #[.val (.int p0), .val (.int p1), .val (.int p2), .val (.ref b1), .val (.int (4 : Int32)), .val (.int (1 : Int32)), .val (.ref b154), .val (.int (1 : Int32)), .val (.int v183), .val (.int (8 : Int32)), .val (.int v184)] [(.ref b154)])) rfl (by rw [hml]; rfl) (Steps.refl _) (argsL := []) (rest := []) (lenOf pd_2 rfl) rfl (by show 2 * 0 + _ ≤ _; exact Nat.le_of_eq rfl) (hb hby at_140) (fun _ _ => ⟨rfl, e176, (by decide : 3 + 0 ≤ _), (by decide : 7 + 0 ≤ _)⟩)
      dsimp only [Pt.U, Pt.locs, Pt.cells, Pt.slots] at X189 l189 y189 z189 st189 hQ189
      subst l189 y189 z189
      obtain ⟨rfl, N189q, e189⟩ := hQ189
      have N189 := Fr.app N176 N189q
      refine own_viaT st189 ?_
      show own_Go p e below s _ _ _ (T189.setTop (mkF m 143 #[.val (.int p0), .val (.int p1), .val (.int p2), .val (.ref b1), .val (.int (4 : Int32)), .val (.int (1 : Int32)), .val (.ref b154), .val (.int (1 : Int32)), .val (.int v183), .val (.int (8 : Int32)), .val (.int v184)] [(.int (1 : Int32))]))
      refine own_via (fun _ k => XS.iload X189.here hx rfl (hb hby at_143) rfl k) ?_
      show own_Go p e below s _ _ _ (T189.setTop (mkF m 145 #[.val (.int p0), .val (.int p1), .val (.int p2), .val (.ref b1), .val (.int (4 : Int32)), .val (.int (1 : Int32)), .val (.ref b154), .val (.int (1 : Int32)), .val (.int v183), .val (.int (8 : Int32)), .val (.int v184)] [(.int (4 : Int32)), (.int (1 : Int32))]))
      refine own_via (fun _ k => XS.iload X189.here hx rfl (hb hby at_145) rfl k) ?_
      show own_Go p e below s _ _ _ (T189.setTop (mkF m 147 #[.val (.int p0), .val (.int p1), .val (.int p2), .val (.ref b1), .val (.int (4 : Int32)), .val (.int (1 : Int32)), .val (.ref b154), .val (.int (1 : Int32)), .val (.int v183), .val (.int (8 : Int32)), .val (.int v184)] [(.int (1 : Int32)), (.int (4 : Int32)), (.int (1 : Int32))]))
      refine own_via (fun _ k => XS.isub X189.here hx rfl (hb hby at_147) rfl k) ?_
      show own_Go p e below s _ _ _ (T189.setTop (mkF m 148 #[.val (.int p0), .val (.int p1), .val (.int p2), .val (.ref b1), .val (.int (4 : Int32)), .val (.int (1 : Int32)), .val (.ref b154), .val (.int (1 : Int32)), .val (.int v183), .val (.int (8 : Int32)), .val (.int v184)] [(.int (3 : Int32)), (.int (1 : Int32))]))
      refine own_via (fun _ k => XS.iconst X189.here hx rfl (hb hby at_148) k) ?_
      show own_Go p e below s _ _ _ (T189.setTop (mkF m 149 #[.val (.int p0), .val (.int p1), .val (.int p2), .val (.ref b1), .val (.int (4 : Int32)), .val (.int (1 : Int32)), .val (.ref b154), .val (.int (1 : Int32)), .val (.int v183), .val (.int (8 : Int32)), .val (.int v184)] [(.int (2 : Int32)), (.int (3 : Int32)), (.int (1 : Int32))]))
      refine own_via (fun _ k => XS.isub X189.here hx rfl (hb hby at_149) rfl k) ?_
      show own_Go p e below s _ _ _ (T189.setTop (mkF m 150 #[.val (.int p0), .val (.int p1), .val (.int p2), .val (.ref b1), .val (.int (4 : Int32)), .val (.int (1 : Int32)), .val (.ref b154), .val (.int (1 : Int32)), .val (.int v183), .val (.int (8 : Int32)), .val (.int v184)] [(.int (1 : Int32)), (.int (1 : Int32))]))
      refine own_via (fun _ k => XS.icmpNo X189.here hx rfl (hb hby at_150) rfl (Jvm.Free.XT.ii_ne_f (by decide)) k) ?_
      show own_Go p e below s _ _ _ (T189.setTop (mkF m 153 #[.val (.int p0), .val (.int p1), .val (.int p2), .val (.ref b1), .val (.int (4 : Int32)), .val (.int (1 : Int32)), .val (.ref b154), .val (.int (1 : Int32)), .val (.int v183), .val (.int (8 : Int32)), .val (.int v184)] []))
      refine own_via (fun _ k => XS.iconst X189.here hx rfl (hb hby at_153) k) ?_
      show own_Go p e below s _ _ _ (T189.setTop (mkF m 154 #[.val (.int p0), .val (.int p1), .val (.int p2), .val (.ref b1), .val (.int (4 : Int32)), .val (.int (1 : Int32)), .val (.ref b154), .val (.int (1 : Int32)), .val (.int v183), .val (.int (8 : Int32)), .val (.int v184)] [(.int (1 : Int32))]))
      refine own_via (fun _ k => XS.goto X189.here hx rfl (pc0 := 154) (pc' := 158) rfl (hb hby at_154) (by decide) (by decide) k) ?_
      show own_Go p e below s _ _ _ (T189.setTop (mkF m 158 #[.val (.int p0), .val (.int p1), .val (.int p2), .val (.ref b1), .val (.int (4 : Int32)), .val (.int (1 : Int32)), .val (.ref b154), .val (.int (1 : Int32)), .val (.int v183), .val (.int (8 : Int32)), .val (.int v184)] [(.int (1 : Int32))]))
      exact own_goN X189 hx (t := .boolean) Bd.returns (by simp) (hb hby at_158) Bd.notSynchronized (by decide) (by decide) (by rw [e189]; exact ⟨rfl, N189⟩)
    · show own_Go p e below s _ _ _ (T5.setTop (mkF m 54 #[.val (.int p0), .val (.int p1), .val (.int p2), .val (.ref b1), .val (.int (4 : Int32)), .val (.int (2 : Int32)), .unset, .unset, .unset, .unset, .unset] []))
      obtain ⟨T190, h190, X190, e190, E190, A190, D190, -, st190⟩ := newO X5 hx hZ hown (hw _ (List.mem_of_getElem? (i := 2) rfl)) (hw _ (List.mem_of_getElem? (i := 3) rfl)) (hw _ (List.mem_of_getElem? (i := 4) rfl)) e5 (g := (mkF m 54 #[.val (.int p0), .val (.int p1), .val (.int p2), .val (.ref b1), .val (.int (4 : Int32)), .val (.int (2 : Int32)), .unset, .unset, .unset, .unset, .unset] [])) rfl (hb hby at_54) (by decide) (by decide)
      obtain ⟨b190, gg190⟩ : ∃ z, z = h5.size := ⟨_, rfl⟩
      rw [← gg190] at A190 D190 st190
      have ne_b1_b190 : b1 ≠ b190 := Nat.ne_of_lt (Nat.lt_of_lt_of_le V5.lt (Nat.le_of_eq gg190.symm))
      have g_b190 : n0 ≤ b190 := Nat.le_trans Z5 (Nat.le_of_eq gg190.symm)
      have Z190 : n0 ≤ h190.size := Nat.le_trans Z5 E190.1
      have F191 : Fld Z h190 b190 "com/example/greenbelt/greenbelt/io/FrameInput" "bytes" "[B" .null := D190 (Or.inl (hw _ (List.mem_of_getElem? (i := 12) rfl))) (ty := (.array .byte)) (by decide)
      have F192 : Fld Z h190 b190 "com/example/greenbelt/greenbelt/io/FrameInput" "position" "I" (.int (0 : Int32)) := D190 (Or.inl (hw _ (List.mem_of_getElem? (i := 27) rfl))) (ty := .int) (by decide)
      have F193 : Fld Z h190 b190 "com/example/greenbelt/greenbelt/io/FrameInput" "end" "I" (.int (0 : Int32)) := D190 (Or.inl (hw _ (List.mem_of_getElem? (i := 29) rfl))) (ty := .int) (by decide)
      refine own_via st190 ?_
      show own_Go p e below s _ _ _ (T190.setTop (mkF m 57 #[.val (.int p0), .val (.int p1), .val (.int p2), .val (.ref b1), .val (.int (4 : Int32)), .val (.int (2 : Int32)), .unset, .unset, .unset, .unset, .unset] [(.ref b190)]))
      refine own_via (fun _ k => XS.dup X190.here hx rfl (hb hby at_57) rfl rfl k) ?_
      show own_Go p e below s _ _ _ (T190.setTop (mkF m 58 #[.val (.int p0), .val (.int p1), .val (.int p2), .val (.ref b1), .val (.int (4 : Int32)), .val (.int (2 : Int32)), .unset, .unset, .unset, .unset, .unset] [(.ref b190), (.ref b190)]))
      obtain ⟨_, _, ⟨T194, L194, k194, n194⟩, -, X194, ⟨Lc194, hQ194, l194, y194, z194⟩, st194⟩ := X190.specialBack hx (y := (⟨"com/example/greenbelt/greenbelt/io/FrameInput", "<init>", "()V"⟩ : MethodName)) rfl hown (mvT hZ (hw _ (List.mem_of_getElem? (i := 5) rfl))) (mvT hZ (hw _ (List.mem_of_getElem? (i := 6) rfl))) (mvT hZ (hw _ (List.mem_of_getElem? (i := 7) rfl))) (by decide) (backOf (W := 1) (rm1 l Z a0 hw [] b190 h190 n0 Z190 A190 F191 F192 F193 g_b190) hZ (hw _ (List.mem_of_getElem? (i := 7) rfl)) (hw _ (List.mem_of_getElem? (i := 4) rfl)) (by decide) (by decide)) (g := (mkF m 58 #[.val (.int p0), .val (.int p1), .val (.int p2), .val (.ref b1), .val (.int (4 : Int32)), .val (.int (2 : Int32)), .unset, .unset, .unset, .unset, .unset] [(.ref b190), (.ref b190)])) rfl (by rw [hml]; rfl) (Steps.refl _) (a := b190) (argsL := []) (rest := [(.ref b190)]) (lenOf pd_5 rfl) rfl (by show 2 * 0 + _ ≤ _; exact Nat.le_of_eq rfl) (hb hby at_58) (fun _ _ => ⟨rfl, e190, (by decide : 2 + 1 ≤ _), (by decide : 7 + 0 ≤ _)⟩)
      dsimp only [Pt.U, Pt.locs, Pt.cells, Pt.slots] at X194 l194 y194 z194 st194 hQ194
      subst l194 y194 z194
      obtain ⟨h194, e194⟩ : ∃ h, T194.heap = h := ⟨_, rfl⟩
      rw [e194] at hQ194
      obtain ⟨b_194, rfl, N194q, Kq194, F195, F196, F197, F198, F199⟩ := hQ194
      have ne_b1_b_194 : b1 ≠ b_194 := Nat.ne_of_lt (Nat.lt_of_lt_of_le (V5.ext E190).lt F195)
      have ne_b190_b_194 : b190 ≠ b_194 := Nat.ne_of_lt (Nat.lt_of_lt_of_le A190.lt F195)
      have g_b_194 : n0 ≤ b_194 := Nat.le_trans Z190 F195
      have Z194 : n0 ≤ h194.size := Nat.le_trans Z190 Kq194.1
      have N194 := Fr.app N5 N194q
      refine own_viaT st194 ?_
      show own_Go p e below s _ _ _ (T194.setTop (mkF m 61 #[.val (.int p0), .val (.int p1), .val (.int p2), .val (.ref b1), .val (.int (4 : Int32)), .val (.int (2 : Int32)), .unset, .unset, .unset, .unset, .unset] [(.ref b190)]))
      refine own_via (fun _ k => XS.astore X194.here hx rfl (hb hby at_61) rfl rfl (l' := #[.val (.int p0), .val (.int p1), .val (.int p2), .val (.ref b1), .val (.int (4 : Int32)), .val (.int (2 : Int32)), .val (.ref b190), .unset, .unset, .unset, .unset]) rfl k) ?_
      show own_Go p e below s _ _ _ (T194.setTop (mkF m 63 #[.val (.int p0), .val (.int p1), .val (.int p2), .val (.ref b1), .val (.int (4 : Int32)), .val (.int (2 : Int32)), .val (.ref b190), .unset, .unset, .unset, .unset] []))
      refine own_via (fun _ k => XS.aload X194.here hx rfl (hb hby at_63) rfl rfl k) ?_
      show own_Go p e below s _ _ _ (T194.setTop (mkF m 65 #[.val (.int p0), .val (.int p1), .val (.int p2), .val (.ref b1), .val (.int (4 : Int32)), .val (.int (2 : Int32)), .val (.ref b190), .unset, .unset, .unset, .unset] [(.ref b190)]))
      refine own_via (fun _ k => XS.aloadN X194.here hx rfl (hb hby at_65) rfl rfl k) ?_
      show own_Go p e below s _ _ _ (T194.setTop (mkF m 66 #[.val (.int p0), .val (.int p1), .val (.int p2), .val (.ref b1), .val (.int (4 : Int32)), .val (.int (2 : Int32)), .val (.ref b190), .unset, .unset, .unset, .unset] [(.ref b1), (.ref b190)]))
      refine own_via (fun _ k => XS.iload X194.here hx rfl (hb hby at_66) rfl k) ?_
      show own_Go p e below s _ _ _ (T194.setTop (mkF m 68 #[.val (.int p0), .val (.int p1), .val (.int p2), .val (.ref b1), .val (.int (4 : Int32)), .val (.int (2 : Int32)), .val (.ref b190), .unset, .unset, .unset, .unset] [(.int (4 : Int32)), (.ref b1), (.ref b190)]))
      have F201 := ((V5.ext E190).keep Kq194 (ninS ne_b1_b190 nin0))
      obtain ⟨cq200, kq200, qa200, qb200, qc200⟩ := isOf hZ e194 F196
      obtain ⟨_, _, ⟨T200, L200, k200, n200⟩, -, X200, ⟨Lc200, hQ200, l200, y200, z200⟩, st200⟩ := X194.virtualBack hx (y := (⟨"com/example/greenbelt/greenbelt/io/FrameInput", "reset", "([BI)V"⟩ : MethodName)) (z := (⟨"com/example/greenbelt/greenbelt/io/FrameInput", "reset", "([BI)V"⟩ : MethodName)) hown (mvT hZ (hw _ (List.mem_of_getElem? (i := 13) rfl))) (mvT hZ (hw _ (List.mem_of_getElem? (i := 14) rfl))) (notFace_of_selects (args := #[]) (mvT hZ (hw _ (List.mem_of_getElem? (i := 16) rfl)))) (mvT hZ (hw _ (List.mem_of_getElem? (i := 16) rfl))) (mvT hZ (hw _ (List.mem_of_getElem? (i := 15) rfl))) (by decide) (backOf (W := 0) (rm3 l Z a0 hw [] b190 b1 (4 : Int32) (.ref b_194) k1 (4 : Int32) [(.int (nar .byte (o_i2b (o_iushr p0 (24 : Int32))))), (.int (nar .byte (o_i2b (o_iushr p0 (16 : Int32))))), (.int (nar .byte (o_i2b (o_iushr p0 (8 : Int32))))), (.int (nar .byte (o_i2b p0)))] (.int (0 : Int32)) h194 n0 Z194 F196 F197 F198 F199 F201 g_b190 (by first | decide | (simp; done)) (by first | decide | (simp; done))) hZ (hw _ (List.mem_of_getElem? (i := 17) rfl)) (hw _ (List.mem_of_getElem? (i := 4) rfl)) (by decide) (by decide)) qa200 qc200 (g := (mkF m 68 #[.val (.int p0), .val (.int p1), .val (.int p2), .val (.ref b1), .val (.int (4 : Int32)), .val (.int (2 : Int32)), .val (.ref b190), .unset, .unset, .unset, .unset] [(.int (4 : Int32)), (.ref b1), (.ref b190)])) rfl (by rw [hml]; rfl) (Steps.refl _) (argsL := [(.ref b1), (.int (4 : Int32))]) (rest := []) (lenOf pd_6 rfl) rfl (by show 2 * 0 + _ ≤ _; exact Nat.le_of_eq rfl) (hb hby at_68) (fun _ _ => ⟨rfl, e194, (by decide : 3 + 0 ≤ _), (by decide : 7 + 0 ≤ _)⟩)
      dsimp only [Pt.U, Pt.locs, Pt.cells, Pt.slots] at X200 l200 y200 z200 st200 hQ200
      subst l200 y200 z200
      obtain ⟨h200, e200⟩ : ∃ h, T200.heap = h := ⟨_, rfl⟩
      rw [e200] at hQ200
      obtain ⟨rfl, N200q, Kq200, F202, F203, F204, F205⟩ := hQ200
      have Z200 : n0 ≤ h200.size := Nat.le_trans Z194 Kq200.1
      have N200 := Fr.app N194 N200q
      refine own_viaT st200 ?_
      show own_Go p e below s _ _ _ (T200.setTop (mkF m 71 #[.val (.int p0), .val (.int p1), .val (.int p2), .val (.ref b1), .val (.int (4 : Int32)), .val (.int (2 : Int32)), .val (.ref b190), .unset, .unset, .unset, .unset] []))
      refine own_via (fun _ k => XS.aload X200.here hx rfl (hb hby at_71) rfl rfl k) ?_
      show own_Go p e below s _ _ _ (T200.setTop (mkF m 73 #[.val (.int p0), .val (.int p1), .val (.int p2), .val (.ref b1), .val (.int (4 : Int32)), .val (.int (2 : Int32)), .val (.ref b190), .unset, .unset, .unset, .unset] [(.ref b190)]))
      refine own_via (fun _ k => XS.iload X200.here hx rfl (hb hby at_73) rfl k) ?_
      show own_Go p e below s _ _ _ (T200.setTop (mkF m 75 #[.val (.int p0), .val (.int p1), .val (.int p2), .val (.ref b1), .val (.int (4 : Int32)), .val (.int (2 : Int32)), .val (.ref b190), .unset, .unset, .unset, .unset] [(.int (2 : Int32)), (.ref b190)]))
      obtain ⟨cq206, kq206, qa206, qb206, qc206⟩ := isOf hZ e200 F202
      obtain ⟨_, _, ⟨T206, L206, k206, n206⟩, -, X206, ⟨Lc206, hQ206, l206, y206, z206⟩, st206⟩ := X200.virtualBack hx (y := (⟨"com/example/greenbelt/greenbelt/io/FrameInput", "skipBytes", "(I)I"⟩ : MethodName)) (z := (⟨"com/example/greenbelt/greenbelt/io/FrameInput", "skipBytes", "(I)I"⟩ : MethodName)) hown (mvT hZ (hw _ (List.mem_of_getElem? (i := 30) rfl))) (mvT hZ (hw _ (List.mem_of_getElem? (i := 31) rfl))) (notFace_of_selects (args := #[]) (mvT hZ (hw _ (List.mem_of_getElem? (i := 33) rfl)))) (mvT hZ (hw _ (List.mem_of_getElem? (i := 33) rfl))) (mvT hZ (hw _ (List.mem_of_getElem? (i := 32) rfl))) (by decide) (backOf (W := 0) (rm6 l Z a0 hw [] b190 (2 : Int32) (4 : Int32) (0 : Int32) (.ref b1) h200 n0 Z200 F202 F203 F204 F205 g_b190 (by first | decide | (simp; done)) (by first | decide | (simp; done))) hZ (hw _ (List.mem_of_getElem? (i := 34) rfl)) (hw _ (List.mem_of_getElem? (i := 4) rfl)) (by decide) (by decide)) qa206 qc206 (g := (mkF m 75 #[.val (.int p0), .val (.int p1), .val (.int p2), .val (.ref b1), .val (.int (4 : Int32)), .val (.int (2 : Int32)), .val (.ref b190), .unset, .unset, .unset, .unset] [(.int (2 : Int32)), (.ref b190)])) rfl (by rw [hml]; rfl) (Steps.refl _) (argsL := [(.int (2 : Int32))]) (rest := []) (lenOf pd_4 rfl) rfl (by show 2 * 0 + _ ≤ _; exact Nat.le_of_eq rfl) (hb hby at_75) (fun _ _ => ⟨rfl, e200, (by decide : 3 + 0 ≤ _), (by decide : 7 + 0 ≤ _)⟩)
      dsimp only [Pt.U, Pt.locs, Pt.cells, Pt.slots] at X206 l206 y206 z206 st206 hQ206
      subst l206 y206 z206
      obtain ⟨h206, e206⟩ : ∃ h, T206.heap = h := ⟨_, rfl⟩
      rw [e206] at hQ206
      obtain ⟨rfl, N206q, Kq206, F207, F208, F209, F210⟩ := hQ206
      have Z206 : n0 ≤ h206.size := Nat.le_trans Z200 Kq206.1
      have F211 : Fld Z h206 b190 "com/example/greenbelt/greenbelt/io/FrameInput" "position" "I" (.int (2 : Int32)) := F209
      have N206 := Fr.app N200 N206q
      refine own_viaT st206 ?_
      show own_Go p e below s _ _ _ (T206.setTop (mkF m 78 #[.val (.int p0), .val (.int p1), .val (.int p2), .val (.ref b1), .val (.int (4 : Int32)), .val (.int (2 : Int32)), .val (.ref b190), .unset, .unset, .unset, .unset] [(.int (2 : Int32))]))
      refine own_via (fun _ k => XS.istore X206.here hx rfl (hb hby at_78) rfl (l' := #[.val (.int p0), .val (.int p1), .val (.int p2), .val (.ref b1), .val (.int (4 : Int32)), .val (.int (2 : Int32)), .val (.ref b190), .val (.int (2 : Int32)), .unset, .unset, .unset]) rfl k) ?_
      show own_Go p e below s _ _ _ (T206.setTop (mkF m 80 #[.val (.int p0), .val (.int p1), .val (.int p2), .val (.ref b1), .val (.int (4 : Int32)), .val (.int (2 : Int32)), .val (.ref b190), .val (.int (2 : Int32)), .unset, .unset, .unset] []))
      refine own_via (fun _ k => XS.iload X206.here hx rfl (hb hby at_80) rfl k) ?_
      show own_Go p e below s _ _ _ (T206.setTop (mkF m 82 #[.val (.int p0), .val (.int p1), .val (.int p2), .val (.ref b1), .val (.int (4 : Int32)), .val (.int (2 : Int32)), .val (.ref b190), .val (.int (2 : Int32)), .unset, .unset, .unset] [(.int (2 : Int32))]))
      refine own_via (fun _ k => XS.iload X206.here hx rfl (hb hby at_82) rfl k) ?_
      show own_Go p e below s _ _ _ (T206.setTop (mkF m 84 #[.val (.int p0), .val (.int p1), .val (.int p2), .val (.ref b1), .val (.int (4 : Int32)), .val (.int (2 : Int32)), .val (.ref b190), .val (.int (2 : Int32)), .unset, .unset, .unset] [(.int (2 : Int32)), (.int (2 : Int32))]))
      refine own_via (fun _ k => XS.icmpYes X206.here hx rfl (pc0 := 84) (pc' := 89) rfl (hb hby at_84) rfl (Jvm.Free.XT.ii_eq_t (by decide)) (by decide) (by decide) k) ?_
      show own_Go p e below s _ _ _ (T206.setTop (mkF m 89 #[.val (.int p0), .val (.int p1), .val (.int p2), .val (.ref b1), .val (.int (4 : Int32)), .val (.int (2 : Int32)), .val (.ref b190), .val (.int (2 : Int32)), .unset, .unset, .unset] []))
      refine own_via (fun _ k => XS.aload X206.here hx rfl (hb hby at_89) rfl rfl k) ?_
      show own_Go p e below s _ _ _ (T206.setTop (mkF m 91 #[.val (.int p0), .val (.int p1), .val (.int p2), .val (.ref b1), .val (.int (4 : Int32)), .val (.int (2 : Int32)), .val (.ref b190), .val (.int (2 : Int32)), .unset, .unset, .unset] [(.ref b190)]))
      have F213 := ((F201.keep Kq200 (ninS ne_b1_b190 nin0)).keep Kq206 (ninS ne_b1_b190 nin0))
      obtain ⟨cq212, kq212, qa212, qb212, qc212⟩ := isOf hZ e206 F207
      obtain ⟨_, _, ⟨T212, L212, k212, n212⟩, -, X212, ⟨Lc212, hQ212, l212, y212, z212⟩, st212⟩ := X206.virtualBack hx (y := (⟨"com/example/greenbelt/greenbelt/io/FrameInput", "readUnsignedShort", "()I"⟩ : MethodName)) (z := (⟨"com/example/greenbelt/greenbelt/io/FrameInput", "readUnsignedShort", "()I"⟩ : MethodName)) hown (mvT hZ (hw _ (List.mem_of_getElem? (i := 47) rfl))) (mvT hZ (hw _ (List.mem_of_getElem? (i := 48) rfl))) (notFace_of_selects (args := #[]) (mvT hZ (hw _ (List.mem_of_getElem? (i := 50) rfl)))) (mvT hZ (hw _ (List.mem_of_getElem? (i := 50) rfl))) (mvT hZ (hw _ (List.mem_of_getElem? (i := 49) rfl))) (by decide) (backOf (W := 0) (rm10 l Z a0 hw [] b190 b1 (2 : Int32) (4 : Int32) k1 (4 : Int32) [(.int (nar .byte (o_i2b (o_iushr p0 (24 : Int32))))), (.int (nar .byte (o_i2b (o_iushr p0 (16 : Int32))))), (.int (nar .byte (o_i2b (o_iushr p0 (8 : Int32))))), (.int (nar .byte (o_i2b p0)))] (.int (0 : Int32)) (nar .byte (o_i2b (o_iushr p0 (8 : Int32)))) (nar .byte (o_i2b p0)) h206 n0 Z206 F207 F208 F211 F210 g_b190 F213 (by decide) (by decide) (by decide) rfl rfl ne_b1_b190) hZ (hw _ (List.mem_of_getElem? (i := 51) rfl)) (hw _ (List.mem_of_getElem? (i := 4) rfl)) (by decide) (by decide)) qa212 qc212 (g := (mkF m 91 #[.val (.int p0), .val (.int p1), .val (.int p2), .val (.ref b1), .val (.int (4 : Int32)), .val (.int (2 : Int32)), .val (.ref b190), .val (.int (2 : Int32)), .unset, .unset, .unset] [(.ref b190)])) rfl (by rw [hml]; rfl) (Steps.refl _) (argsL := []) (rest := []) (lenOf pd_2 rfl) rfl (by show 2 * 0 + _ ≤ _; exact Nat.le_of_eq rfl) (hb hby at_91) (fun _ _ => ⟨rfl, e206, (by decide : 3 + 0 ≤ _), (by decide : 7 + 0 ≤ _)⟩)
      dsimp only [Pt.U, Pt.locs, Pt.cells, Pt.slots] at X212 l212 y212 z212 st212 hQ212
      subst l212 y212 z212
      obtain ⟨h212, e212⟩ : ∃ h, T212.heap = h := ⟨_, rfl⟩
      rw [e212] at hQ212
      obtain ⟨rfl, N212q, Kq212, F214, F215, F216, F217⟩ := hQ212
      have Z212 : n0 ≤ h212.size := Nat.le_trans Z206 Kq212.1
      have F218 : Fld Z h212 b190 "com/example/greenbelt/greenbelt/io/FrameInput" "position" "I" (.int (4 : Int32)) := F216
      have N212 := Fr.app N206 N212q
      refine own_viaT st212 ?_
      show own_Go p e below s _ _ _ (T212.setTop (mkF m 94 #[.val (.int p0), .val (.int p1), .val (.int p2), .val (.ref b1), .val (.int (4 : Int32)), .val (.int (2 : Int32)), .val (.ref b190), .val (.int (2 : Int32)), .unset, .unset, .unset] [(.int ((o_ishl ((nar .byte (o_i2b (o_iushr p0 (8 : Int32)))) &&& (255 : Int32)) (8 : Int32)) ||| ((nar .byte (o_i2b p0)) &&& (255 : Int32))))]))
      refine own_via (fun _ k => XS.istore X212.here hx rfl (hb hby at_94) rfl (l' := #[.val (.int p0), .val (.int p1), .val (.int p2), .val (.ref b1), .val (.int (4 : Int32)), .val (.int (2 : Int32)), .val (.ref b190), .val (.int (2 : Int32)), .val (.int ((o_ishl ((nar .byte (o_i2b (o_iushr p0 (8 : Int32)))) &&& (255 : Int32)) (8 : Int32)) ||| ((nar .byte (o_i2b p0)) &&& (255 : Int32)))), .unset, .unset]) rfl k) ?_
      show own_Go p e below s _ _ _ (T212.setTop (mkF m 96 #[.val (.int p0), .val (.int p1), .val (.int p2), .val (.ref b1), .val (.int (4 : Int32)), .val (.int (2 : Int32)), .val (.ref b190), .val (.int (2 : Int32)), .val (.int ((o_ishl ((nar .byte (o_i2b (o_iushr p0 (8 : Int32)))) &&& (255 : Int32)) (8 : Int32)) ||| ((nar .byte (o_i2b p0)) &&& (255 : Int32)))), .unset, .unset] []))
      generalize hv219 : ((o_ishl ((nar .byte (o_i2b (o_iushr p0 (8 : Int32)))) &&& (255 : Int32)) (8 : Int32)) ||| ((nar .byte (o_i2b p0)) &&& (255 : Int32))) = v219
      show own_Go p e below s _ _ _ (T212.setTop (mkF m 96 #[.val (.int p0), .val (.int p1), .val (.int p2), .val (.ref b1), .val (.int (4 : Int32)), .val (.int (2 : Int32)), .val (.ref b190), .val (.int (2 : Int32)), .val (.int v219), .unset, .unset] []))
      refine own_via (fun _ k => XS.bipush X212.here hx rfl (hb hby at_96) k) ?_
      show own_Go p e below s _ _ _ (T212.setTop (mkF m 98 #[.val (.int p0), .val (.int p1), .val (.int p2), .val (.ref b1), .val (.int (4 : Int32)), .val (.int (2 : Int32)), .val (.ref b190), .val (.int (2 : Int32)), .val (.int v219), .unset, .unset] [(.int (16 : Int32))]))
      refine own_via (fun _ k => XS.bipush X212.here hx rfl (hb hby at_98) k) ?_
      show own_Go p e below s _ _ _ (T212.setTop (mkF m 100 #[.val (.int p0), .val (.int p1), .val (.int p2), .val (.ref b1), .val (.int (4 : Int32)), .val (.int (2 : Int32)), .val (.ref b190), .val (.int (2 : Int32)), .val (.int v219), .unset, .unset] [(.int (8 : Int32)), (.int (16 : Int32))]))
      refine own_via (fun _ k => XS.iload X212.here hx rfl (hb hby at_100) rfl k) ?_
      show own_Go p e below s _ _ _ (T212.setTop (mkF m 102 #[.val (.int p0), .val (.int p1), .val (.int p2), .val (.ref b1), .val (.int (4 : Int32)), .val (.int (2 : Int32)), .val (.ref b190), .val (.int (2 : Int32)), .val (.int v219), .unset, .unset] [(.int (2 : Int32)), (.int (8 : Int32)), (.int (16 : Int32))]))
      refine own_via (fun _ k => XS.imul X212.here hx rfl (hb hby at_102) rfl k) ?_
      show own_Go p e below s _ _ _ (T212.setTop (mkF m 103 #[.val (.int p0), .val (.int p1), .val (.int p2), .val (.ref b1), .val (.int (4 : Int32)), .val (.int (2 : Int32)), .val (.ref b190), .val (.int (2 : Int32)), .val (.int v219), .unset, .unset] [(.int (16 : Int32)), (.int (16 : Int32))]))
      refine own_via (fun _ k => XS.isub X212.here hx rfl (hb hby at_103) rfl k) ?_
      show own_Go p e below s _ _ _ (T212.setTop (mkF m 104 #[.val (.int p0), .val (.int p1), .val (.int p2), .val (.ref b1), .val (.int (4 : Int32)), .val (.int (2 : Int32)), .val (.ref b190), .val (.int (2 : Int32)), .val (.int v219), .unset, .unset] [(.int (0 : Int32))]))
      refine own_via (fun _ k => XS.istore X212.here hx rfl (hb hby at_104) rfl (l' := #[.val (.int p0), .val (.int p1), .val (.int p2), .val (.ref b1), .val (.int (4 : Int32)), .val (.int (2 : Int32)), .val (.ref b190), .val (.int (2 : Int32)), .val (.int v219), .val (.int (0 : Int32)), .unset]) rfl k) ?_
      show own_Go p e below s _ _ _ (T212.setTop (mkF m 106 #[.val (.int p0), .val (.int p1), .val (.int p2), .val (.ref b1), .val (.int (4 : Int32)), .val (.int (2 : Int32)), .val (.ref b190), .val (.int (2 : Int32)), .val (.int v219), .val (.int (0 : Int32)), .unset] []))
      refine own_via (fun _ k => XS.iloadN X212.here hx rfl (hb hby at_106) rfl k) ?_
      show own_Go p e below s _ _ _ (T212.setTop (mkF m 107 #[.val (.int p0), .val (.int p1), .val (.int p2), .val (.ref b1), .val (.int (4 : Int32)), .val (.int (2 : Int32)), .val (.ref b190), .val (.int (2 : Int32)), .val (.int v219), .val (.int (0 : Int32)), .unset] [(.int p0)]))
      refine own_via (fun _ k => XS.iload X212.here hx rfl (hb hby at_107) rfl k) ?_
      show own_Go p e below s _ _ _ (T212.setTop (mkF m 109 #[.val (.int p0), .val (.int p1), .val (.int p2), .val (.ref b1), .val (.int (4 : Int32)), .val (.int (2 : Int32)), .val (.ref b190), .val (.int (2 : Int32)), .val (.int v219), .val (.int (0 : Int32)), .unset] [(.int (0 : Int32)), (.int p0)]))
      refine own_via (fun _ k => XS.iushr X212.here hx rfl (hb hby at_109) rfl k) ?_
      show own_Go p e below s _ _ _ (T212.setTop (mkF m 110 #[.val (.int p0), .val (.int p1), .val (.int p2), .val (.ref b1), .val (.int (4 : Int32)), .val (.int (2 : Int32)), .val (.ref b190), .val (.int (2 : Int32)), .val (.int v219), .val (.int (0 : Int32)), .unset] [(.int (o_iushr p0 (0 : Int32)))]))
      refine own_via (fun _ k => X212.ldcInt hx hown (mvT hZ (hw _ (List.mem_of_getElem? (i := 56) rfl))) (g := (mkF m 110 #[.val (.int p0), .val (.int p1), .val (.int p2), .val (.ref b1), .val (.int (4 : Int32)), .val (.int (2 : Int32)), .val (.ref b190), .val (.int (2 : Int32)), .val (.int v219), .val (.int (0 : Int32)), .unset] [(.int (o_iushr p0 (0 : Int32)))])) rfl (hb hby at_110) _ k) ?_
      show own_Go p e below s _ _ _ (T212.setTop (mkF m 112 #[.val (.int p0), .val (.int p1), .val (.int p2), .val (.ref b1), .val (.int (4 : Int32)), .val (.int (2 : Int32)), .val (.ref b190), .val (.int (2 : Int32)), .val (.int v219), .val (.int (0 : Int32)), .unset] [(.int (65535 : Int32)), (.int (o_iushr p0 (0 : Int32)))]))
      refine own_via (fun _ k => XS.iand X212.here hx rfl (hb hby at_112) rfl k) ?_
      show own_Go p e below s _ _ _ (T212.setTop (mkF m 113 #[.val (.int p0), .val (.int p1), .val (.int p2), .val (.ref b1), .val (.int (4 : Int32)), .val (.int (2 : Int32)), .val (.ref b190), .val (.int (2 : Int32)), .val (.int v219), .val (.int (0 : Int32)), .unset] [(.int ((o_iushr p0 (0 : Int32)) &&& (65535 : Int32)))]))
      refine own_via (fun _ k => XS.istore X212.here hx rfl (hb hby at_113) rfl (l' := #[.val (.int p0), .val (.int p1), .val (.int p2), .val (.ref b1), .val (.int (4 : Int32)), .val (.int (2 : Int32)), .val (.ref b190), .val (.int (2 : Int32)), .val (.int v219), .val (.int (0 : Int32)), .val (.int ((o_iushr p0 (0 : Int32)) &&& (65535 : Int32)))]) rfl k) ?_
      show own_Go p e below s _ _ _ (T212.setTop (mkF m 115 #[.val (.int p0), .val (.int p1), .val (.int p2), .val (.ref b1), .val (.int (4 : Int32)), .val (.int (2 : Int32)), .val (.ref b190), .val (.int (2 : Int32)), .val (.int v219), .val (.int (0 : Int32)), .val (.int ((o_iushr p0 (0 : Int32)) &&& (65535 : Int32)))] []))
      generalize hv220 : ((o_iushr p0 (0 : Int32)) &&& (65535 : Int32)) = v220
      show own_Go p e below s _ _ _ (T212.setTop (mkF m 115 #[.val (.int p0), .val (.int p1), .val (.int p2), .val (.ref b1), .val (.int (4 : Int32)), .val (.int (2 : Int32)), .val (.ref b190), .val (.int (2 : Int32)), .val (.int v219), .val (.int (0 : Int32)), .val (.int v220)] []))
      refine own_via (fun _ k => XS.iload X212.here hx rfl (hb hby at_115) rfl k) ?_
      show own_Go p e below s _ _ _ (T212.setTop (mkF m 117 #[.val (.int p0), .val (.int p1), .val (.int p2), .val (.ref b1), .val (.int (4 : Int32)), .val (.int (2 : Int32)), .val (.ref b190), .val (.int (2 : Int32)), .val (.int v219), .val (.int (0 : Int32)), .val (.int v220)] [(.int v219)]))
      refine own_via (fun _ k => XS.iload X212.here hx rfl (hb hby at_117) rfl k) ?_
      show own_Go p e below s _ _ _ (T212.setTop (mkF m 119 #[.val (.int p0), .val (.int p1), .val (.int p2), .val (.ref b1), .val (.int (4 : Int32)), .val (.int (2 : Int32)), .val (.ref b190), .val (.int (2 : Int32)), .val (.int v219), .val (.int (0 : Int32)), .val (.int v220)] [(.int v220), (.int v219)]))
      have hh221 : v219 = v220 := by rw [← hv219, ← hv220]; exact own_t2 p0
      have hc222 : v219 = v220 := hh221
      refine own_via (fun _ k => XS.icmpYes X212.here hx rfl (pc0 := 119) (pc' := 124) rfl (hb hby at_119) rfl (Jvm.Free.XT.ii_eq_t hc222) (by decide) (by decide) k) ?_
      show own_Go p e below s _ _ _ (T212.setTop (mkF m 124 #[.val (.int p0), .val (.int p1), .val (.int p2), .val (.ref b1), .val (.int (4 : Int32)), .val (.int (2 : Int32)), .val (.ref b190), .val (.int (2 : Int32)), .val (.int v219), .val (.int (0 : Int32)), .val (.int v220)] []))
      refine own_via (fun _ k => XS.iload X212.here hx rfl (hb hby at_124) rfl k) ?_
      show own_Go p e below s _ _ _ (T212.setTop (mkF m 126 #[.val (.int p0), .val (.int p1), .val (.int p2), .val (.ref b1), .val (.int (4 : Int32)), .val (.int (2 : Int32)), .val (.ref b190), .val (.int (2 : Int32)), .val (.int v219), .val (.int (0 : Int32)), .val (.int v220)] [(.int v219)]))
      have hc223 : ¬ (v219 < (0 : Int32)) := (own_rg hv220 hh221).1
      refine own_via (fun _ k => XS.ifNo X212.here hx rfl (hb hby at_126) rfl (Jvm.Free.XT.i0_lt_f hc223) k) ?_
      show own_Go p e below s _ _ _ (T212.setTop (mkF m 129 #[.val (.int p0), .val (.int p1), .val (.int p2), .val (.ref b1), .val (.int (4 : Int32)), .val (.int (2 : Int32)), .val (.ref b190), .val (.int (2 : Int32)), .val (.int v219), .val (.int (0 : Int32)), .val (.int v220)] []))
      refine own_via (fun _ k => XS.iload X212.here hx rfl (hb hby at_129) rfl k) ?_
      show own_Go p e below s _ _ _ (T212.setTop (mkF m 131 #[.val (.int p0), .val (.int p1), .val (.int p2), .val (.ref b1), .val (.int (4 : Int32)), .val (.int (2 : Int32)), .val (.ref b190), .val (.int (2 : Int32)), .val (.int v219), .val (.int (0 : Int32)), .val (.int v220)] [(.int v219)]))
      refine own_via (fun _ k => X212.ldcInt hx hown (mvT hZ (hw _ (List.mem_of_getElem? (i := 56) rfl))) (g := (mkF m 131 #[.val (.int p0), .val (.int p1), .val (.int p2), .val (.ref b1), .val (.int (4 : Int32)), .val (.int (2 : Int32)), .val (.ref b190), .val (.int (2 : Int32)), .val (.int v219), .val (.int (0 : Int32)), .val (.int v220)] [(.int v219)])) rfl (hb hby at_131) _ k) ?_
      show own_Go p e below s _ _ _ (T212.setTop (mkF m 133 #[.val (.int p0), .val (.int p1), .val (.int p2), .val (.ref b1), .val (.int (4 : Int32)), .val (.int (2 : Int32)), .val (.ref b190), .val (.int (2 : Int32)), .val (.int v219), .val (.int (0 : Int32)), .val (.int v220)] [(.int (65535 : Int32)), (.int v219)]))
      have hc224 : ¬ ((65535 : Int32) < v219) := (own_rg hv220 hh221).2
      refine own_via (fun _ k => XS.icmpYes X212.here hx rfl (pc0 := 133) (pc' := 138) rfl (hb hby at_133) rfl (Jvm.Free.XT.ii_le_t hc224) (by decide) (by decide) k) ?_
      show own_Go p e below s _ _ _ (T212.setTop (mkF m 138 #[.val (.int p0), .val (.int p1), .val (.int p2), .val (.ref b1), .val (.int (4 : Int32)), .val (.int (2 : Int32)), .val (.ref b190), .val (.int (2 : Int32)), .val (.int v219), .val (.int (0 : Int32)), .val (.int v220)] []))
      refine own_via (fun _ k => XS.aload X212.here hx rfl (hb hby at_138) rfl rfl k) ?_
      show own_Go p e below s _ _ _ (T212.setTop (mkF m 140 #[.val (.int p0), .val (.int p1), .val (.int p2), .val (.ref b1), .val (.int (4 : Int32)), .val (.int (2 : Int32)), .val (.ref b190), .val (.int (2 : Int32)), .val (.int v219), .val (.int (0 : Int32)), .val (.int v220)] [(.ref b190)]))
      obtain ⟨cq225, kq225, qa225, qb225, qc225⟩ := isOf hZ e212 F214
      obtain ⟨_, _, ⟨T225, L225, k225, n225⟩, -, X225, ⟨Lc225, hQ225, l225, y225, z225⟩, st225⟩ := X212.virtualBack hx (y := (⟨"com/example/greenbelt/greenbelt/io/FrameInput", "remaining", "()I"⟩ : MethodName)) (z := (⟨"com/example/greenbelt/greenbelt/io/FrameInput", "remaining", "()I"⟩ : MethodName)) hown (mvT hZ (hw _ (List.mem_of_getElem? (i := 57) rfl))) (mvT hZ (hw _ (List.mem_of_getElem? (i := 36) rfl))) (notFace_of_selects (args := #[]) (mvT hZ (hw _ (List.mem_of_getElem? (i := 38) rfl)))) (mvT hZ (hw _ (List.mem_of_getElem? (i := 38) rfl))) (mvT hZ (hw _ (List.mem_of_getElem? (i := 37) rfl))) (by decide) (backOf (W := 0) (rm7 l Z a0 hw [] b190 (4 : Int32) (4 : Int32) h212 n0 Z212 F217 F218) hZ (hw _ (List.mem_of_getElem? (i := 39) rfl)) (hw _ (List.mem_of_getElem? (i := 4) rfl)) (by decide) (by decide)) qa225 qc225 (g := (mkF m 140 #[.val (.int p0), .val (.int p1), .val (.int p2), .val (.ref b1), .val (.int (4 : Int32)), .val (.int (2 : Int32)), .val (.ref b190), .val (.int (2 : Int32)), .val (.int v219), .val (.int (0 : Int32)), .val (.int v220)] [(.ref b190)])) rfl (by rw [hml]; rfl) (Steps.refl _) (argsL := []) (rest := []) (lenOf pd_2 rfl) rfl (by show 2 * 0 + _ ≤ _; exact Nat.le_of_eq rfl) (hb hby at_140) (fun _ _ => ⟨rfl, e212, (by decide : 3 + 0 ≤ _), (by decide : 7 + 0 ≤ _)⟩)
      dsimp only [Pt.U, Pt.locs, Pt.cells, Pt.slots] at X225 l225 y225 z225 st225 hQ225
      subst l225 y225 z225
      obtain ⟨rfl, N225q, e225⟩ := hQ225
      have N225 := Fr.app N212 N225q
      refine own_viaT st225 ?_
      show own_Go p e below s _ _ _ (T225.setTop (mkF m 143 #[.val (.int p0), .val (.int p1), .val (.int p2), .val (.ref b1), .val (.int (4 : Int32)), .val (.int (2 : Int32)), .val (.ref b190), .val (.int (2 : Int32)), .val (.int v219), .val (.int (0 : Int32)), .val (.int v220)] [(.int (0 : Int32))]))
      refine own_via (fun _ k => XS.iload X225.here hx rfl (hb hby at_143) rfl k) ?_
      show own_Go p e below s _ _ _ (T225.setTop (mkF m 145 #[.val (.int p0), .val (.int p1), .val (.int p2), .val (.ref b1), .val (.int (4 : Int32)), .val (.int (2 : Int32)), .val (.ref b190), .val (.int (2 : Int32)), .val (.int v219), .val (.int (0 : Int32)), .val (.int v220)] [(.int (4 : Int32)), (.int (0 : Int32))]))
      refine own_via (fun _ k => XS.iload X225.here hx rfl (hb hby at_145) rfl k) ?_
      show own_Go p e below s _ _ _ (T225.setTop (mkF m 147 #[.val (.int p0), .val (.int p1), .val (.int p2), .val (.ref b1), .val (.int (4 : Int32)), .val (.int (2 : Int32)), .val (.ref b190), .val (.int (2 : Int32)), .val (.int v219), .val (.int (0 : Int32)), .val (.int v220)] [(.int (2 : Int32)), (.int (4 : Int32)), (.int (0 : Int32))]))
      refine own_via (fun _ k => XS.isub X225.here hx rfl (hb hby at_147) rfl k) ?_
      show own_Go p e below s _ _ _ (T225.setTop (mkF m 148 #[.val (.int p0), .val (.int p1), .val (.int p2), .val (.ref b1), .val (.int (4 : Int32)), .val (.int (2 : Int32)), .val (.ref b190), .val (.int (2 : Int32)), .val (.int v219), .val (.int (0 : Int32)), .val (.int v220)] [(.int (2 : Int32)), (.int (0 : Int32))]))
      refine own_via (fun _ k => XS.iconst X225.here hx rfl (hb hby at_148) k) ?_
      show own_Go p e below s _ _ _ (T225.setTop (mkF m 149 #[.val (.int p0), .val (.int p1), .val (.int p2), .val (.ref b1), .val (.int (4 : Int32)), .val (.int (2 : Int32)), .val (.ref b190), .val (.int (2 : Int32)), .val (.int v219), .val (.int (0 : Int32)), .val (.int v220)] [(.int (2 : Int32)), (.int (2 : Int32)), (.int (0 : Int32))]))
      refine own_via (fun _ k => XS.isub X225.here hx rfl (hb hby at_149) rfl k) ?_
      show own_Go p e below s _ _ _ (T225.setTop (mkF m 150 #[.val (.int p0), .val (.int p1), .val (.int p2), .val (.ref b1), .val (.int (4 : Int32)), .val (.int (2 : Int32)), .val (.ref b190), .val (.int (2 : Int32)), .val (.int v219), .val (.int (0 : Int32)), .val (.int v220)] [(.int (0 : Int32)), (.int (0 : Int32))]))
      refine own_via (fun _ k => XS.icmpNo X225.here hx rfl (hb hby at_150) rfl (Jvm.Free.XT.ii_ne_f (by decide)) k) ?_
      show own_Go p e below s _ _ _ (T225.setTop (mkF m 153 #[.val (.int p0), .val (.int p1), .val (.int p2), .val (.ref b1), .val (.int (4 : Int32)), .val (.int (2 : Int32)), .val (.ref b190), .val (.int (2 : Int32)), .val (.int v219), .val (.int (0 : Int32)), .val (.int v220)] []))
      refine own_via (fun _ k => XS.iconst X225.here hx rfl (hb hby at_153) k) ?_
      show own_Go p e below s _ _ _ (T225.setTop (mkF m 154 #[.val (.int p0), .val (.int p1), .val (.int p2), .val (.ref b1), .val (.int (4 : Int32)), .val (.int (2 : Int32)), .val (.ref b190), .val (.int (2 : Int32)), .val (.int v219), .val (.int (0 : Int32)), .val (.int v220)] [(.int (1 : Int32))]))
      refine own_via (fun _ k => XS.goto X225.here hx rfl (pc0 := 154) (pc' := 158) rfl (hb hby at_154) (by decide) (by decide) k) ?_
      show own_Go p e below s _ _ _ (T225.setTop (mkF m 158 #[.val (.int p0), .val (.int p1), .val (.int p2), .val (.ref b1), .val (.int (4 : Int32)), .val (.int (2 : Int32)), .val (.ref b190), .val (.int (2 : Int32)), .val (.int v219), .val (.int (0 : Int32)), .val (.int v220)] [(.int (1 : Int32))]))
      exact own_goN X225 hx (t := .boolean) Bd.returns (by simp) (hb hby at_158) Bd.notSynchronized (by decide) (by decide) (by rw [e225]; exact ⟨rfl, N225⟩)
set_option maxRecDepth 65536 in
set_option maxHeartbeats 40000000 in
theorem comes_1 {Post : Tables → Env → Array Value → State → Outcome → State → Prop} (hpost : ∀ tb e args s v u, (limb_1_1.after args s (.returned v) u = true ∧ limb_1_2.after args s (.returned v) u = true ∧ True) → FrameEnd s (.returned v) u (Jvm.fieldLocs frame_1_writes args s ++ Jvm.arrayLocs frame_1_arrays args s ++ Jvm.staticLocs frame_1_statics s) 16 128 → Post tb e args s (.returned v) u) :
    ArmFor flags0 classFile x code maxLocals ret World_1 tables_1 room_1 Calls_1 rest_1 Pre_1 Post := by
  intro l hfl _ _ p e ha hc hk s m args below hf hA hF happ hP
  obtain ⟨hcalls, hrest, hpre⟩ := hP
  obtain ⟨-, -, -, hnamed, -, -, -, hat⟩ := (Spec.applies_iff hf).mp happ
  obtain ⟨hg, hn⟩ := and_e (Cond.before_iff.mp (show (Jvm.Cond.and given_1 narrow_1).before args s = true from hpre))
  obtain ⟨g1, g2⟩ := and_e hg
  obtain ⟨g3, g4⟩ := and_e g2
  obtain ⟨g5, g6⟩ := and_e g4
  obtain ⟨w0, w1, w2, rfl⟩ : ∃ w0 w1 w2 : Value, args = #[w0, w1, w2] := by
    have hs : args.size = 3 := by simpa [Cond.value, given_1] using g1
    obtain ⟨L⟩ := args
    match L, hs with
    | [w0, w1, w2], _ => exact ⟨w0, w1, w2, rfl⟩
  have hw := fun d (hd : d ∈ tables_1) => atoms_spec (ws := Jvm.Cond.code x code maxLocals ret :: tables_1) hat d (List.mem_cons_of_mem _ hd)
  have hfit : Fit s := fun {y c} hc i hi => by
    obtain ⟨ha, rfl⟩ := Array.getElem?_eq_some_iff.mp hc
    have q := List.all_eq_true.mp ((Array.all_eq_true_iff_forall_mem.mp hF) _ (Array.getElem_mem ha)) i (List.mem_range.mpr hi)
    simpa [Array.getElem?_eq_getElem hi] using q
  obtain ⟨i0, ei0⟩ := is_v g3
  obtain rfl : w0 = (.int i0) := Option.some.inj ei0
  obtain ⟨i1, ei1⟩ := is_v g5
  obtain rfl : w1 = (.int i1) := Option.some.inj ei1
  obtain ⟨i2, ei2⟩ := is_v g6
  obtain rfl : w2 = (.int i2) := Option.some.inj ei2
  obtain ⟨n, o, h1, h2, h3, _, L, rfl, ⟨rfl, N⟩, hq⟩ := rm0 l s _ hw tables_1 i0 i1 i2 s.heap s.heap.size (Nat.le_refl _)  p e ha hc hk s m _ below hf ((Spec.applies_iff_loose hf).mp happ).1 ⟨rfl, State.Warmed39.refl s, rfl⟩ trivial
  refine ⟨n, _, h1, h2, h3, hpost _ _ _ _ _ _ ⟨Cond.after_iff.mpr rfl, Cond.after_iff.mpr (eq_i res_at (Term.int_eval (1)) rfl), trivial⟩ ⟨hq.1, hq.2.1, (hq.2.2.sift fun y hy => Or.inr (N y hy)).mono (by decide) (by decide)⟩⟩
theorem main_1_1 : Claimed_1_1 := comes_1 fun _ _ _ _ _ _ h hF => ⟨h.1, hF⟩
theorem main_1_2 : Claimed_1_2 := comes_1 fun _ _ _ _ _ _ h hF => ⟨h.2.1, hF⟩
end Jvm.Pilot.@@N@@
namespace Jvm.Pilot.@@N@@
open Jvm Jvm.ClassFile Sem Op Lib Jvm.Free Jvm.Stand Jvm.Pilot.@@N@@.Jvm.D
/-! MADE BY PROGRAM (witnessworld.py) out of the Statement's table words and the real class files: 13 classes; the members and pool entries that the words name. The judged class is class 1, her method 1. -/
namespace start1
open Jvm.ClassFile
def u (s : String) : CpInfo := .utf8 (stringToUtf16 s)
/-- a pool by its gaps: so many unusable entries, then the entry; so many at the end -/
def gap : Nat → List CpInfo → List CpInfo
  | 0, r => r
  | n + 1, r => .unusable :: gap n r
def poolList (es : List (Nat × CpInfo)) (last : Nat) : List CpInfo := es.foldr (fun e r => gap e.1 (e.2 :: r)) (gap last [])
def pool (es : List (Nat × CpInfo)) (last : Nat) : Array CpInfo := ⟨poolList es last⟩
def fileOf (pool : Array CpInfo) (this : Nat) (attrs : Array Attribute := #[]) (ms : Array MethodInfo := #[]) (fl : Nat := 33) (sup : Nat := 0) (ifs : Array Nat := #[]) (fds : Array FieldInfo := #[]) : ClassFile where
  minorVersion := 0
  majorVersion := 65
  constantPool := pool
  accessFlags := fl
  thisClass := this
  superClass := sup
  interfaces := ifs
  fields := fds
  methods := ms
  attributes := attrs
def plain (name : String) (sup : Option ClassId) : Class where
  name := name
  kind := .ordinary
  loader := none
  accessFlags := 33
  super := sup
  interfaces := #[]
  cf := none
  fields := #[]
  methods := #[]
  instanceTypes := #[]
  staticTypes := #[]
  resolved := #[]
  callSites := []
  init := .initialized
  statics := none
  mirror := none

def pool0 : Array CpInfo := pool [(5, u "<init>"), (0, u "()V"), (1, .class_ 10), (1, u "java/lang/Object")] 113

def k0c0 : Code := { maxStack := 0, maxLocals := 1, code := object_method_1_code, exceptionTable := #[], attributes := #[] }
def k0m0 : Method := { name := "<init>", desc := "()V", sig := { parameters := [], returnType := none }, accessFlags := 1, code := some k0c0 }
/-- java/lang/Object -/
def k0 : Class := { plain "java/lang/Object" none with
  accessFlags := 33
  interfaces := #[]
  cf := some (fileOf pool0 8 #[] #[{ accessFlags := 1, nameIndex := 5, descriptorIndex := 6, attributes := #[] }] 33 0 #[] #[])
  fields := #[]
  methods := #[k0m0]
  instanceTypes := #[]
  staticTypes := #[]
  resolved := Array.replicate 124 none
  statics := none }

def pool1 : Array CpInfo := pool [(2, .class_ 4), (0, .nameAndType 5 6), (0, u "java/lang/Object"), (0, u "<init>"), (0, u "()V"), (0, .integer 2147483647), (0, .class_ 9), (0, u "com/example/greenbelt/greenbelt/io/FrameInput"), (0, .methodref 8 3), (0, .methodref 8 12), (0, .nameAndType 13 14), (0, u "reset"), (0, u "([BI)V"), (0, .methodref 8 16), (0, .nameAndType 17 18), (0, u "skipBytes"), (0, u "(I)I"), (0, .methodref 8 20), (0, .nameAndType 21 22), (0, u "readUnsignedShort"), (0, u "()I"), (0, .integer 65535), (0, .methodref 8 25), (0, .nameAndType 26 22), (0, u "remaining"), (0, .class_ 28), (0, u "com/example/greenbelt/greenbelt/io/FrameInputReadUnsignedShortPinLaw"), (2, u "law"), (0, u "(III)Z")] 8

def k1m0 : Method := { name := "<init>", desc := "()V", sig := { parameters := [], returnType := none }, accessFlags := 1, code := none }
def k1c1 : Code := { maxStack := 4, maxLocals := 11, code := code, exceptionTable := #[], attributes := #[] }
def k1m1 : Method := { name := "law", desc := "(III)Z", sig := { parameters := [.int, .int, .int], returnType := some .boolean }, accessFlags := 9, code := some k1c1 }
/-- com/example/greenbelt/greenbelt/io/FrameInputReadUnsignedShortPinLaw -/
def k1 : Class := { plain "com/example/greenbelt/greenbelt/io/FrameInputReadUnsignedShortPinLaw" (some 0) with
  accessFlags := 49
  interfaces := #[]
  cf := some (fileOf pool1 27 #[] #[{ accessFlags := 1, nameIndex := 5, descriptorIndex := 6, attributes := #[] }, { accessFlags := 9, nameIndex := 31, descriptorIndex := 32, attributes := #[] }] 49 2 #[] #[])
  fields := #[]
  methods := #[k1m0, k1m1]
  instanceTypes := #[]
  staticTypes := #[]
  resolved := Array.replicate 41 none
  statics := none }

def pool2 : Array CpInfo := pool [(1, .class_ 2), (0, u "java/io/DataInput"), (0, .class_ 4), (0, u "java/lang/Object")] 31

/-- java/io/DataInput -/
def k2 : Class := { plain "java/io/DataInput" (some 0) with
  accessFlags := 1537
  interfaces := #[]
  cf := some (fileOf pool2 1 #[] #[] 1537 3 #[] #[])
  fields := #[]
  methods := #[]
  instanceTypes := #[]
  staticTypes := #[]
  resolved := Array.replicate 36 none
  statics := none }

def pool3 : Array CpInfo := pool [(1, .methodref 2 3), (0, .class_ 4), (0, .nameAndType 5 6), (0, u "java/lang/Object"), (0, u "<init>"), (0, u "()V"), (0, .fieldref 8 9), (0, .class_ 10), (0, .nameAndType 11 12), (0, u "com/example/greenbelt/greenbelt/io/FrameInput"), (0, u "bytes"), (0, u "[B"), (0, .methodref 14 15), (0, .class_ 16), (0, .nameAndType 17 18), (0, u "java/util/Objects"), (0, u "checkFromIndexSize"), (0, u "(III)I"), (0, .fieldref 8 20), (0, .nameAndType 21 22), (0, u "position"), (0, u "I"), (0, .fieldref 8 24), (0, .nameAndType 25 22), (0, u "end"), (4, .methodref 8 31), (0, .nameAndType 32 33), (0, u "take"), (0, u "(I)I"), (6, .methodref 8 41), (0, .nameAndType 42 43), (0, u "remaining"), (0, u "()I"), (0, .methodref 45 46), (0, .class_ 47), (0, .nameAndType 48 49), (0, u "java/lang/Math"), (0, u "min"), (0, u "(II)I"), (0, .methodref 45 51), (0, .nameAndType 52 49), (0, u "max"), (2, u "readUnsignedShort"), (50, .class_ 107), (0, u "java/io/DataInput"), (2, u "reset"), (0, u "([BI)V"), (2, u "skipBytes")] 34

def k3c0 : Code := { maxStack := 2, maxLocals := 1, code := prog_51_method_1_code, exceptionTable := #[], attributes := #[] }
def k3m0 : Method := { name := "<init>", desc := "()V", sig := { parameters := [], returnType := none }, accessFlags := 0, code := some k3c0 }
def k3c1 : Code := { maxStack := 3, maxLocals := 3, code := prog_51_method_2_code, exceptionTable := #[], attributes := #[] }
def k3m1 : Method := { name := "reset", desc := "([BI)V", sig := { parameters := [(.array .byte), .int], returnType := none }, accessFlags := 0, code := some k3c1 }
def k3c2 : Code := { maxStack := 2, maxLocals := 1, code := prog_51_method_3_code, exceptionTable := #[], attributes := #[] }
def k3m2 : Method := { name := "remaining", desc := "()I", sig := { parameters := [], returnType := some .int }, accessFlags := 0, code := some k3c2 }
def k3c3 : Code := { maxStack := 3, maxLocals := 3, code := prog_51_method_6_code, exceptionTable := #[], attributes := #[] }
def k3m3 : Method := { name := "skipBytes", desc := "(I)I", sig := { parameters := [.int], returnType := some .int }, accessFlags := 1, code := some k3c3 }
def k3c4 : Code := { maxStack := 4, maxLocals := 2, code := prog_51_method_11_code, exceptionTable := #[], attributes := #[] }
def k3m4 : Method := { name := "readUnsignedShort", desc := "()I", sig := { parameters := [], returnType := some .int }, accessFlags := 1, code := some k3c4 }
def k3c5 : Code := { maxStack := 4, maxLocals := 3, code := prog_51_method_20_code, exceptionTable := #[], attributes := #[] }
def k3m5 : Method := { name := "take", desc := "(I)I", sig := { parameters := [.int], returnType := some .int }, accessFlags := 2, code := some k3c5 }
/-- com/example/greenbelt/greenbelt/io/FrameInput -/
def k3 : Class := { plain "com/example/greenbelt/greenbelt/io/FrameInput" (some 0) with
  accessFlags := 48
  interfaces := #[2]
  cf := some (fileOf pool3 8 #[] #[{ accessFlags := 0, nameIndex := 5, descriptorIndex := 6, attributes := #[] }, { accessFlags := 0, nameIndex := 110, descriptorIndex := 111, attributes := #[] }, { accessFlags := 0, nameIndex := 42, descriptorIndex := 43, attributes := #[] }, { accessFlags := 1, nameIndex := 114, descriptorIndex := 33, attributes := #[] }, { accessFlags := 1, nameIndex := 55, descriptorIndex := 43, attributes := #[] }, { accessFlags := 2, nameIndex := 32, descriptorIndex := 33, attributes := #[] }] 48 2 #[106] #[{ accessFlags := 2, nameIndex := 11, descriptorIndex := 12, attributes := #[] }, { accessFlags := 2, nameIndex := 21, descriptorIndex := 22, attributes := #[] }, { accessFlags := 2, nameIndex := 25, descriptorIndex := 22, attributes := #[] }])
  fields := #[{ name := "bytes", type := (.array .byte), accessFlags := 2, slot := 0, constantValue := 0 }, { name := "position", type := .int, accessFlags := 2, slot := 1, constantValue := 0 }, { name := "end", type := .int, accessFlags := 2, slot := 2, constantValue := 0 }]
  methods := #[k3m0, k3m1, k3m2, k3m3, k3m4, k3m5]
  instanceTypes := #[(.array .byte), .int, .int]
  staticTypes := #[]
  resolved := Array.replicate 149 none
  statics := none }

def pool4 : Array CpInfo := pool [(2, .class_ 4), (1, u "java/lang/Object"), (0, u "<init>"), (0, u "()V"), (35, .class_ 44), (1, u "java/util/Objects"), (61, .class_ 108), (1, u "jdk/internal/util/Preconditions"), (5, u "(IIILjava/util/function/BiFunction;)I"), (0, .methodref 106 116), (0, .nameAndType 117 114), (0, u "checkFromIndexSize"), (57, u "(III)I")] 8

def k4m0 : Method := { name := "<init>", desc := "()V", sig := { parameters := [], returnType := none }, accessFlags := 2, code := none }
def k4c1 : Code := { maxStack := 4, maxLocals := 3, code := jdk_31_method_19_code, exceptionTable := #[], attributes := #[] }
def k4m1 : Method := { name := "checkFromIndexSize", desc := "(III)I", sig := { parameters := [.int, .int, .int], returnType := some .int }, accessFlags := 9, code := some k4c1 }
/-- java/util/Objects -/
def k4 : Class := { plain "java/util/Objects" (some 0) with
  accessFlags := 49
  interfaces := #[]
  cf := some (fileOf pool4 42 #[] #[{ accessFlags := 2, nameIndex := 5, descriptorIndex := 6, attributes := #[] }, { accessFlags := 9, nameIndex := 117, descriptorIndex := 175, attributes := #[] }] 49 2 #[] #[])
  fields := #[]
  methods := #[k4m0, k4m1]
  instanceTypes := #[]
  staticTypes := #[]
  resolved := Array.replicate 184 none
  statics := none }

def pool5 : Array CpInfo := pool [(2, .class_ 4), (1, u "java/lang/Object"), (0, u "<init>"), (0, u "()V"), (17, .class_ 26), (1, u "jdk/internal/util/Preconditions"), (22, u "checkFromIndexSize"), (5, .class_ 56), (0, u "jdk/internal/util/Preconditions$4"), (57, .class_ 115), (0, u "jdk/internal/util/Preconditions$1"), (7, u "SIOOBE_FORMATTER"), (0, u "Ljava/util/function/BiFunction;"), (0, .class_ 126), (0, u "jdk/internal/util/Preconditions$2"), (3, u "AIOOBE_FORMATTER"), (0, .class_ 132), (0, u "jdk/internal/util/Preconditions$3"), (3, u "IOOBE_FORMATTER"), (46, u "(IIILjava/util/function/BiFunction;)I")] 10

def k5m0 : Method := { name := "<init>", desc := "()V", sig := { parameters := [], returnType := none }, accessFlags := 1, code := none }
def k5c1 : Code := { maxStack := 4, maxLocals := 4, code := jdk_41_method_13_code, exceptionTable := #[], attributes := #[] }
def k5m1 : Method := { name := "checkFromIndexSize", desc := "(IIILjava/util/function/BiFunction;)I", sig := { parameters := [.int, .int, .int, (.object "java/util/function/BiFunction")], returnType := some .int }, accessFlags := 9, code := some k5c1 }
/-- jdk/internal/util/Preconditions -/
def k5 : Class := { plain "jdk/internal/util/Preconditions" (some 0) with
  accessFlags := 33
  interfaces := #[]
  cf := some (fileOf pool5 24 #[.nestMembers #[55, 131, 125, 114]] #[{ accessFlags := 1, nameIndex := 5, descriptorIndex := 6, attributes := #[] }, { accessFlags := 9, nameIndex := 49, descriptorIndex := 183, attributes := #[] }] 33 2 #[] #[{ accessFlags := 25, nameIndex := 123, descriptorIndex := 124, attributes := #[] }, { accessFlags := 25, nameIndex := 130, descriptorIndex := 124, attributes := #[] }, { accessFlags := 25, nameIndex := 136, descriptorIndex := 124, attributes := #[] }])
  fields := #[{ name := "SIOOBE_FORMATTER", type := (.object "java/util/function/BiFunction"), accessFlags := 25, slot := 0, constantValue := 0 }, { name := "AIOOBE_FORMATTER", type := (.object "java/util/function/BiFunction"), accessFlags := 25, slot := 1, constantValue := 0 }, { name := "IOOBE_FORMATTER", type := (.object "java/util/function/BiFunction"), accessFlags := 25, slot := 2, constantValue := 0 }]
  methods := #[k5m0, k5m1]
  instanceTypes := #[]
  staticTypes := #[(.object "java/util/function/BiFunction"), (.object "java/util/function/BiFunction"), (.object "java/util/function/BiFunction")]
  resolved := Array.replicate 194 none
  statics := none }

def pool6 : Array CpInfo := pool [(1, .class_ 2), (0, u "java/lang/Math"), (1, .class_ 6), (1, u "java/lang/Object"), (0, u "<init>"), (0, u "()V"), (89, .class_ 100), (1, u "java/lang/Math$RandomNumberGeneratorHolder"), (71, u "negativeZeroFloatBits"), (0, u "J"), (2, u "negativeZeroDoubleBits"), (21, u "max"), (2, u "min"), (43, u "$assertionsDisabled"), (0, u "Z"), (88, u "(II)I"), (2, u "twoToTheDoubleScaleDown"), (0, u "D"), (4, u "twoToTheDoubleScaleUp"), (9, u "E"), (3, u "PI"), (2, u "TAU"), (2, u "DEGREES_TO_RADIANS"), (0, u "RADIANS_TO_DEGREES")] 94

def k6m0 : Method := { name := "<init>", desc := "()V", sig := { parameters := [], returnType := none }, accessFlags := 2, code := none }
def k6c1 : Code := { maxStack := 2, maxLocals := 2, code := jdk_29_method_65_code, exceptionTable := #[], attributes := #[] }
def k6m1 : Method := { name := "max", desc := "(II)I", sig := { parameters := [.int, .int], returnType := some .int }, accessFlags := 9, code := some k6c1 }
def k6c2 : Code := { maxStack := 2, maxLocals := 2, code := jdk_29_method_69_code, exceptionTable := #[], attributes := #[] }
def k6m2 : Method := { name := "min", desc := "(II)I", sig := { parameters := [.int, .int], returnType := some .int }, accessFlags := 9, code := some k6c2 }
/-- java/lang/Math -/
def k6 : Class := { plain "java/lang/Math" (some 0) with
  accessFlags := 49
  interfaces := #[]
  cf := some (fileOf pool6 1 #[.nestMembers #[98]] #[{ accessFlags := 2, nameIndex := 7, descriptorIndex := 8, attributes := #[] }, { accessFlags := 9, nameIndex := 198, descriptorIndex := 335, attributes := #[] }, { accessFlags := 9, nameIndex := 201, descriptorIndex := 335, attributes := #[] }] 49 4 #[] #[{ accessFlags := 25, nameIndex := 354, descriptorIndex := 339, attributes := #[] }, { accessFlags := 25, nameIndex := 358, descriptorIndex := 339, attributes := #[] }, { accessFlags := 25, nameIndex := 361, descriptorIndex := 339, attributes := #[] }, { accessFlags := 26, nameIndex := 364, descriptorIndex := 339, attributes := #[] }, { accessFlags := 26, nameIndex := 365, descriptorIndex := 339, attributes := #[] }, { accessFlags := 26, nameIndex := 172, descriptorIndex := 173, attributes := #[] }, { accessFlags := 26, nameIndex := 176, descriptorIndex := 173, attributes := #[] }, { accessFlags := 8, nameIndex := 344, descriptorIndex := 339, attributes := #[] }, { accessFlags := 8, nameIndex := 338, descriptorIndex := 339, attributes := #[] }, { accessFlags := 4120, nameIndex := 245, descriptorIndex := 246, attributes := #[] }])
  fields := #[{ name := "E", type := .double, accessFlags := 25, slot := 0, constantValue := 0 }, { name := "PI", type := .double, accessFlags := 25, slot := 1, constantValue := 0 }, { name := "TAU", type := .double, accessFlags := 25, slot := 2, constantValue := 0 }, { name := "DEGREES_TO_RADIANS", type := .double, accessFlags := 26, slot := 3, constantValue := 0 }, { name := "RADIANS_TO_DEGREES", type := .double, accessFlags := 26, slot := 4, constantValue := 0 }, { name := "negativeZeroFloatBits", type := .long, accessFlags := 26, slot := 5, constantValue := 0 }, { name := "negativeZeroDoubleBits", type := .long, accessFlags := 26, slot := 6, constantValue := 0 }, { name := "twoToTheDoubleScaleUp", type := .double, accessFlags := 8, slot := 7, constantValue := 0 }, { name := "twoToTheDoubleScaleDown", type := .double, accessFlags := 8, slot := 8, constantValue := 0 }, { name := "$assertionsDisabled", type := .boolean, accessFlags := 4120, slot := 9, constantValue := 0 }]
  methods := #[k6m0, k6m1, k6m2]
  instanceTypes := #[]
  staticTypes := #[.double, .double, .double, .double, .double, .long, .long, .double, .double, .boolean]
  resolved := Array.replicate 460 none
  statics := none }

def pool7 : Array CpInfo := pool [(1, u "java/lang/Cloneable"), (0, .class_ 1), (0, u "java/lang/Object"), (0, .class_ 3)] 3

/-- java/lang/Cloneable -/
def k7 : Class := { plain "java/lang/Cloneable" (some 0) with
  accessFlags := 1537
  interfaces := #[]
  cf := some (fileOf pool7 2 #[] #[] 1537 4 #[] #[])
  fields := #[]
  methods := #[]
  instanceTypes := #[]
  staticTypes := #[]
  resolved := Array.replicate 8 none
  statics := none }

def pool8 : Array CpInfo := pool [(1, u "java/io/Serializable"), (0, .class_ 1), (0, u "java/lang/Object"), (0, .class_ 3)] 3

/-- java/io/Serializable -/
def k8 : Class := { plain "java/io/Serializable" (some 0) with
  accessFlags := 1537
  interfaces := #[]
  cf := some (fileOf pool8 2 #[] #[] 1537 4 #[] #[])
  fields := #[]
  methods := #[]
  instanceTypes := #[]
  staticTypes := #[]
  resolved := Array.replicate 8 none
  statics := none }

/-- the primitive byte -/
def k9 : Class := { plain "byte" none with kind := .primitive 'B', accessFlags := 0x411 }
/-- [B -/
def k10 : Class := { plain "[B" (some 0) with kind := .array 9 .byte, interfaces := #[7, 8], accessFlags := 1041 }

/-- the primitive int -/
def k11 : Class := { plain "int" none with kind := .primitive 'I', accessFlags := 0x411 }
/-- [I -/
def k12 : Class := { plain "[I" (some 0) with kind := .array 11 .int, interfaces := #[7, 8], accessFlags := 1041 }

def heap : Heap := #[]
def classes : Array Class := #[k0, k1, k2, k3, k4, k5, k6, k7, k8, k9, k10, k11, k12]
def interned : List (Array UInt16 × Addr) := []
def slotsUsed : Nat := 0
def theMethod : MethodId := ⟨1, 1⟩
def args0 : Array Value := #[.int 5, .int 6, .int 7]
def aboutOver (below : List Frame) : State where
  vm := { classes := classes, interned := interned.toArray }
  heap := heap
  slotsUsed := slotsUsed
  threads := #[{ frames := .invoking theMethod args0 :: below }]
def below0 : List Frame := [.native { method := ⟨0, 0⟩, args := #[] }]
def about1 : State := aboutOver below0
def p0 : Program := .bare "" "" ""
def e0 : Env := launch0.env 0 0 0
theorem w_frames : about1.frames = Frame.invoking theMethod args0 :: below0 := rfl
set_option maxRecDepth 65536 in
theorem w_args : argsFit about1.vm theMethod args0 = true := by decide +kernel
set_option maxRecDepth 65536 in
theorem w_heap : heapFits about1 = true := by decide +kernel
set_option maxRecDepth 65536 in
theorem w_runnable : about1.curStatus? = some .runnable := by decide +kernel
set_option maxRecDepth 65536 in
theorem w_alone : about1.alone = true := by decide +kernel
set_option maxRecDepth 65536 in
theorem w_named : about1.methodNamed? x = some theMethod := by decide +kernel
set_option maxRecDepth 65536 in
theorem w_hears : about1.hears theMethod below0 = true := by decide +kernel
set_option maxRecDepth 65536 in
theorem w_ripe : about1.ripe theMethod args0 below0 = true := by decide +kernel
theorem w_running : about1.status = .running := rfl
set_option maxRecDepth 65536 in
theorem w_room : about1.hasRoom e0.platform room_1 = true :=
  launch0.hasRoom_least _ room_1 (by decide +kernel) (by decide +kernel) (by decide +kernel) (by decide +kernel) (by decide +kernel) (by decide +kernel)
theorem allAtoms_all (ts : List Jvm.Cond) (a : Array Jvm.Value) (st : Jvm.State) : (allAtoms ts).before a st = ts.all (fun c => c.before a st) := by
  induction ts with
  | nil => rfl
  | cons c t ih =>
    show (Jvm.Cond.and c (allAtoms t)).before a st = _
    rw [Jvm.Cond.before_and, ih, List.all_cons]
def words1 : List Jvm.Cond := Jvm.Cond.code x code maxLocals ret :: tables_1
/-- a 'code' word, met by the world's own term for the bytes: nothing is compared byte by byte -/
theorem code_word {y : MethodName} {bytes : ByteArray} {mx : Nat} {rt : Option FieldType} {a : Array Value} {s : State} {m : MethodId} {meth : Method} {c : Code} (h1 : s.methodNamed? y = some m) (h2 : s.vm.method? m = some meth) (h3 : meth.code = some c) (h4 : c.code = bytes)
    (h5 : (c.maxLocals == mx && c.exceptionTable.isEmpty && decide (c.maxStack ≤ mostOperands) && decide (meth.sig.returnType = rt) && !meth.locks && decide (parseMethodDescriptor y.desc = some meth.sig)) = true) : (Jvm.Cond.code y bytes mx rt).before a s = true := by
  simp only [Bool.and_eq_true, beq_iff_eq, Bool.not_eq_true', decide_eq_true_eq] at h5
  obtain ⟨⟨⟨⟨⟨g1, g2⟩, g3⟩, g4⟩, g5⟩, g6⟩ := h5
  simp [Cond.before, Cond.holds, Cond.value, h1, h2, h3, h4, g1, g2, g3, g4, g5, g6]
def isCode : Jvm.Cond → Bool
  | .code _ _ _ _ => true
  | _ => false
theorem all_split {L : List Jvm.Cond} {P : Jvm.Cond → Bool} (h1 : L.all (fun c => isCode c || P c) = true) (h2 : ∀ c ∈ L.filter isCode, P c = true) : L.all P = true := by
  refine List.all_eq_true.mpr fun c hc => ?_
  have h := List.all_eq_true.mp h1 c hc
  rcases Bool.eq_false_or_eq_true (isCode c) with hi | hi
  · exact h2 c (List.mem_filter.mpr ⟨hc, hi⟩)
  · simpa [hi] using h
set_option maxRecDepth 65536 in
theorem w_c0 : (Jvm.Cond.code x code maxLocals ret).before args0 about1 = true := code_word (m := ⟨1, 1⟩) (meth := k1m1) (c := k1c1) (by decide +kernel) rfl rfl rfl (by decide +kernel)
set_option maxRecDepth 65536 in
theorem w_c1 : (Jvm.Cond.code ({ cls := "com/example/greenbelt/greenbelt/io/FrameInput", name := "<init>", desc := "()V" } : Jvm.MethodName) prog_51_method_1_code (1 : Nat) (Option.none : Option Jvm.ClassFile.FieldType)).before args0 about1 = true := code_word (m := ⟨3, 0⟩) (meth := k3m0) (c := k3c0) (by decide +kernel) rfl rfl rfl (by decide +kernel)
set_option maxRecDepth 65536 in
theorem w_c2 : (Jvm.Cond.code ({ cls := "java/lang/Object", name := "<init>", desc := "()V" } : Jvm.MethodName) object_method_1_code (1 : Nat) (Option.none : Option Jvm.ClassFile.FieldType)).before args0 about1 = true := code_word (m := ⟨0, 0⟩) (meth := k0m0) (c := k0c0) (by decide +kernel) rfl rfl rfl (by decide +kernel)
set_option maxRecDepth 65536 in
theorem w_c3 : (Jvm.Cond.code ({ cls := "com/example/greenbelt/greenbelt/io/FrameInput", name := "reset", desc := "([BI)V" } : Jvm.MethodName) prog_51_method_2_code (3 : Nat) (Option.none : Option Jvm.ClassFile.FieldType)).before args0 about1 = true := code_word (m := ⟨3, 1⟩) (meth := k3m1) (c := k3c1) (by decide +kernel) rfl rfl rfl (by decide +kernel)
set_option maxRecDepth 65536 in
theorem w_c4 : (Jvm.Cond.code ({ cls := "java/util/Objects", name := "checkFromIndexSize", desc := "(III)I" } : Jvm.MethodName) jdk_31_method_19_code (3 : Nat) (Option.some Jvm.ClassFile.FieldType.int)).before args0 about1 = true := code_word (m := ⟨4, 1⟩) (meth := k4m1) (c := k4c1) (by decide +kernel) rfl rfl rfl (by decide +kernel)
set_option maxRecDepth 65536 in
theorem w_c5 : (Jvm.Cond.code ({ cls := "jdk/internal/util/Preconditions", name := "checkFromIndexSize", desc := "(IIILjava/util/function/BiFunction;)I" } : Jvm.MethodName) jdk_41_method_13_code (4 : Nat) (Option.some Jvm.ClassFile.FieldType.int)).before args0 about1 = true := code_word (m := ⟨5, 1⟩) (meth := k5m1) (c := k5c1) (by decide +kernel) rfl rfl rfl (by decide +kernel)
set_option maxRecDepth 65536 in
theorem w_c6 : (Jvm.Cond.code ({ cls := "com/example/greenbelt/greenbelt/io/FrameInput", name := "skipBytes", desc := "(I)I" } : Jvm.MethodName) prog_51_method_6_code (3 : Nat) (Option.some Jvm.ClassFile.FieldType.int)).before args0 about1 = true := code_word (m := ⟨3, 3⟩) (meth := k3m3) (c := k3c3) (by decide +kernel) rfl rfl rfl (by decide +kernel)
set_option maxRecDepth 65536 in
theorem w_c7 : (Jvm.Cond.code ({ cls := "com/example/greenbelt/greenbelt/io/FrameInput", name := "remaining", desc := "()I" } : Jvm.MethodName) prog_51_method_3_code (1 : Nat) (Option.some Jvm.ClassFile.FieldType.int)).before args0 about1 = true := code_word (m := ⟨3, 2⟩) (meth := k3m2) (c := k3c2) (by decide +kernel) rfl rfl rfl (by decide +kernel)
set_option maxRecDepth 65536 in
theorem w_c8 : (Jvm.Cond.code ({ cls := "java/lang/Math", name := "min", desc := "(II)I" } : Jvm.MethodName) jdk_29_method_69_code (2 : Nat) (Option.some Jvm.ClassFile.FieldType.int)).before args0 about1 = true := code_word (m := ⟨6, 2⟩) (meth := k6m2) (c := k6c2) (by decide +kernel) rfl rfl rfl (by decide +kernel)
set_option maxRecDepth 65536 in
theorem w_c9 : (Jvm.Cond.code ({ cls := "java/lang/Math", name := "max", desc := "(II)I" } : Jvm.MethodName) jdk_29_method_65_code (2 : Nat) (Option.some Jvm.ClassFile.FieldType.int)).before args0 about1 = true := code_word (m := ⟨6, 1⟩) (meth := k6m1) (c := k6c1) (by decide +kernel) rfl rfl rfl (by decide +kernel)
set_option maxRecDepth 65536 in
theorem w_c10 : (Jvm.Cond.code ({ cls := "com/example/greenbelt/greenbelt/io/FrameInput", name := "readUnsignedShort", desc := "()I" } : Jvm.MethodName) prog_51_method_11_code (2 : Nat) (Option.some Jvm.ClassFile.FieldType.int)).before args0 about1 = true := code_word (m := ⟨3, 4⟩) (meth := k3m4) (c := k3c4) (by decide +kernel) rfl rfl rfl (by decide +kernel)
set_option maxRecDepth 65536 in
theorem w_c11 : (Jvm.Cond.code ({ cls := "com/example/greenbelt/greenbelt/io/FrameInput", name := "take", desc := "(I)I" } : Jvm.MethodName) prog_51_method_20_code (3 : Nat) (Option.some Jvm.ClassFile.FieldType.int)).before args0 about1 = true := code_word (m := ⟨3, 5⟩) (meth := k3m5) (c := k3c5) (by decide +kernel) rfl rfl rfl (by decide +kernel)
def codes1 : List Jvm.Cond := [Jvm.Cond.code x code maxLocals ret, Jvm.Cond.code ({ cls := "com/example/greenbelt/greenbelt/io/FrameInput", name := "<init>", desc := "()V" } : Jvm.MethodName) prog_51_method_1_code (1 : Nat) (Option.none : Option Jvm.ClassFile.FieldType), Jvm.Cond.code ({ cls := "java/lang/Object", name := "<init>", desc := "()V" } : Jvm.MethodName) object_method_1_code (1 : Nat) (Option.none : Option Jvm.ClassFile.FieldType), Jvm.Cond.code ({ cls := "com/example/greenbelt/greenbelt/io/FrameInput", name := "reset", desc := "([BI)V" } : Jvm.MethodName) prog_51_method_2_code (3 : Nat) (Option.none : Option Jvm.ClassFile.FieldType), Jvm.Cond.code ({ cls := "java/util/Objects", name := "checkFromIndexSize", desc := "(III)I" } : Jvm.MethodName) jdk_31_method_19_code (3 : Nat) (Option.some Jvm.ClassFile.FieldType.int), Jvm.Cond.code ({ cls := "jdk/internal/util/Preconditions", name := "checkFromIndexSize", desc := "(IIILjava/util/function/BiFunction;)I" } : Jvm.MethodName) jdk_41_method_13_code (4 : Nat) (Option.some Jvm.ClassFile.FieldType.int), Jvm.Cond.code ({ cls := "com/example/greenbelt/greenbelt/io/FrameInput", name := "skipBytes", desc := "(I)I" } : Jvm.MethodName) prog_51_method_6_code (3 : Nat) (Option.some Jvm.ClassFile.FieldType.int), Jvm.Cond.code ({ cls := "com/example/greenbelt/greenbelt/io/FrameInput", name := "remaining", desc := "()I" } : Jvm.MethodName) prog_51_method_3_code (1 : Nat) (Option.some Jvm.ClassFile.FieldType.int), Jvm.Cond.code ({ cls := "java/lang/Math", name := "min", desc := "(II)I" } : Jvm.MethodName) jdk_29_method_69_code (2 : Nat) (Option.some Jvm.ClassFile.FieldType.int), Jvm.Cond.code ({ cls := "java/lang/Math", name := "max", desc := "(II)I" } : Jvm.MethodName) jdk_29_method_65_code (2 : Nat) (Option.some Jvm.ClassFile.FieldType.int), Jvm.Cond.code ({ cls := "com/example/greenbelt/greenbelt/io/FrameInput", name := "readUnsignedShort", desc := "()I" } : Jvm.MethodName) prog_51_method_11_code (2 : Nat) (Option.some Jvm.ClassFile.FieldType.int), Jvm.Cond.code ({ cls := "com/example/greenbelt/greenbelt/io/FrameInput", name := "take", desc := "(I)I" } : Jvm.MethodName) prog_51_method_20_code (3 : Nat) (Option.some Jvm.ClassFile.FieldType.int)]
set_option maxRecDepth 65536 in
theorem codes_eq : words1.filter isCode = codes1 := rfl
theorem w_codes : ∀ c ∈ words1.filter isCode, c.before args0 about1 = true := by
  rw [codes_eq]
  intro c hc
  simp only [codes1, List.mem_cons, List.not_mem_nil, or_false] at hc
  rcases hc with rfl | rfl | rfl | rfl | rfl | rfl | rfl | rfl | rfl | rfl | rfl | rfl
  · exact w_c0
  · exact w_c1
  · exact w_c2
  · exact w_c3
  · exact w_c4
  · exact w_c5
  · exact w_c6
  · exact w_c7
  · exact w_c8
  · exact w_c9
  · exact w_c10
  · exact w_c11
set_option maxRecDepth 65536 in
theorem w_t1 : (words1.take 24).all (fun c => isCode c || c.before args0 about1) = true := by decide +kernel
set_option maxRecDepth 65536 in
theorem w_t2 : ((words1.drop 24).take 24).all (fun c => isCode c || c.before args0 about1) = true := by decide +kernel
set_option maxRecDepth 65536 in
theorem w_t3 : ((words1.drop 24).drop 24).all (fun c => isCode c || c.before args0 about1) = true := by decide +kernel
theorem w_tables : (allAtoms (Jvm.Cond.code x code maxLocals ret :: tables_1)).before args0 about1 = true := by
  rw [allAtoms_all]
  show words1.all (fun c => c.before args0 about1) = true
  refine all_split ?_ w_codes
  rw [← List.take_append_drop 24 words1, List.all_append, w_t1, ← List.take_append_drop 24 (words1.drop 24), List.all_append, w_t2, w_t3]
  rfl
set_option maxRecDepth 65536 in
theorem w_case : (Jvm.Cond.and given_1 narrow_1).before args0 about1 = true := by decide +kernel
theorem w_applies : (headSpec (Jvm.Cond.code x code maxLocals ret :: tables_1) room_1).applies x e0.platform about1 = true :=
  (Spec.applies_iff w_frames).mpr ⟨w_running, w_runnable, w_alone, w_named, w_hears, w_ripe, w_room, w_tables⟩
theorem atStart : AtStart classFile x code maxLocals ret World_1 tables_1 room_1 Calls_1 rest_1 Pre_1 launch0 p0 e0 about1 theMethod args0 below0 :=
  ⟨lists_1, trivial, launch0.admits_env _ _ _, launch0.least_env, fairChoices_fair.cas, fairChoices_fair.clock, w_frames, w_args, w_heap, w_applies, trivial, trivial, w_case⟩
end start1
theorem witness_1 : WitnessClaimed_1 := ⟨start1.p0, start1.e0, start1.about1, start1.theMethod, start1.args0, start1.below0, start1.atStart⟩
end Jvm.Pilot.@@N@@
