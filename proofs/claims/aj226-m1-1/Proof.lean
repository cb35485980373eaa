import JvmDerived
import JvmDerived.Pilot.@@N@@Statement
import JvmDerived.Pilot.@@N@@Code
set_option linter.unusedVariables false
set_option linter.unusedSimpArgs false
namespace Jvm.Pilot.@@N@@
open Jvm Jvm.ClassFile Sem Op Lib Jvm.Free Jvm.Stand Jvm.LawKit Jvm.RoadKit Bundle Jvm.Pilot.@@N@@.Jvm.D
section OwnGo
variable {p : Program} {l : Launch} {e : Env} {R : Room} {s : State} {m : MethodId} {args : Array Value} {below : List Frame} {meth : Method} {c : Code} {T : State} {locs : List Loc} {cells slots : Nat}
/-- from S the run ends, returned, with Q -/
def own_Go (p : Program) (e : Env) (below : List Frame) (s : State) (Q : Option Value → Heap → List Loc → Prop) (cs ss : Nat) (S : State) : Prop :=
  ∃ (U : State) (o : Outcome), Steps p.tables e below S U ∧ U.status = .running ∧ Ended U below o ∧ ∃ v L, o = .returned v ∧ Q v U.heap L ∧ FrameEnd s o U L cs ss
variable {Q : Option Value → Heap → List Loc → Prop} {cs ss : Nat} {S S' : State}
theorem own_via (st : ∀ t, Steps p.tables e below S' t → Steps p.tables e below S t) (k : own_Go p e below s Q cs ss S') : own_Go p e below s Q cs ss S := by
  obtain ⟨U, o, h, r⟩ := k; exact ⟨U, o, st U h, r⟩
theorem own_viaT (st : Steps p.tables e below S S') (k : own_Go p e below s Q cs ss S') : own_Go p e below s Q cs ss S := own_via (fun _ h => st.trans h) k
theorem own_goV (X : Stand p l e R s m args below meth c T locs cells slots) (hx : p.tables.exec = Jvm.exec) {pc : Nat} {Ls : Array Slot} (hret : meth.sig.returnType = none) (hd : decode c.code pc = .ok (.return_, 1)) (hk : meth.locks = false) (hc : cells ≤ cs) (hs : slots ≤ ss) (hQ : Q none T.heap locs) :
    own_Go p e below s Q cs ss (T.setTop (mkF m pc Ls [])) := by
  obtain ⟨fs, hr, hrun, hended, hW, hsame⟩ := X.leave (v := none) (fun _ => rfl) hk
  exact ⟨_, _, X.returnOut hx hret hd hr, hrun, hended, _, _, rfl, hQ, ⟨_, rfl⟩, hW, hsame.mono hc hs⟩
theorem own_goN (X : Stand p l e R s m args below meth c T locs cells slots) (hx : p.tables.exec = Jvm.exec) {pc : Nat} {Ls : Array Slot} {z : Int32} {t : FieldType} {rest : List Value} (hret : meth.sig.returnType = some t) (ht : t = .boolean ∨ t = .byte ∨ t = .char ∨ t = .short) (hd : decode c.code pc = .ok (.ireturn, 1)) (hk : meth.locks = false) (hc : cells ≤ cs) (hs : slots ≤ ss) (hQ : Q (some (.int (nar t z))) T.heap locs) :
    own_Go p e below s Q cs ss (T.setTop (mkF m pc Ls (.int z :: rest))) := by
  obtain ⟨fs, hr, hrun, hended, hW, hsame⟩ := X.leave (v := some (.int (nar t z))) (fun h => by rw [hret] at h; cases h) hk
  exact ⟨_, _, retN X hx hret ht hd hr, hrun, hended, _, _, rfl, hQ, ⟨_, rfl⟩, hW, hsame.mono hc hs⟩
theorem own_goI (X : Stand p l e R s m args below meth c T locs cells slots) (hx : p.tables.exec = Jvm.exec) {pc : Nat} {Ls : Array Slot} {z : Int32} (hret : meth.sig.returnType = some .int) (hd : decode c.code pc = .ok (.ireturn, 1)) (hk : meth.locks = false) (hc : cells ≤ cs) (hs : slots ≤ ss) (hQ : Q (some (.int z)) T.heap locs) :
    own_Go p e below s Q cs ss (T.setTop (mkF m pc Ls [.int z])) := by
  obtain ⟨fs, hr, hrun, hended, hW, hsame⟩ := X.leave (v := some (.int z)) (fun h => by rw [hret] at h; cases h) hk
  exact ⟨_, _, X.ireturnOut hx hret rfl (Or.inl rfl) hd hr, hrun, hended, _, _, rfl, hQ, ⟨_, rfl⟩, hW, hsame.mono hc hs⟩
theorem own_goJ (X : Stand p l e R s m args below meth c T locs cells slots) (hx : p.tables.exec = Jvm.exec) {pc : Nat} {Ls : Array Slot} {z : Int64} (hret : meth.sig.returnType = some .long) (hd : decode c.code pc = .ok (.lreturn, 1)) (hk : meth.locks = false) (hc : cells ≤ cs) (hs : slots ≤ ss) (hQ : Q (some (.long z)) T.heap locs) :
    own_Go p e below s Q cs ss (T.setTop (mkF m pc Ls [.long z])) := by
  obtain ⟨fs, hr, hrun, hended, hW, hsame⟩ := X.leave (v := some (.long z)) (fun h => by rw [hret] at h; cases h) hk
  exact ⟨_, _, X.lreturnOut hx hret hd hr, hrun, hended, _, _, rfl, hQ, ⟨_, rfl⟩, hW, hsame.mono hc hs⟩
theorem own_goA (X : Stand p l e R s m args below meth c T locs cells slots) (hx : p.tables.exec = Jvm.exec) {pc : Nat} {Ls : Array Slot} {w : Value} {t : FieldType} (hw : w.isRef = true) (hret : meth.sig.returnType = some t) (ht : t.isReference = true) (hd : decode c.code pc = .ok (.areturn, 1)) (hk : meth.locks = false) (hc : cells ≤ cs) (hs : slots ≤ ss) (hQ : Q (some w) T.heap locs) :
    own_Go p e below s Q cs ss (T.setTop (mkF m pc Ls [w])) := by
  obtain ⟨fs, hr, hrun, hended, hW, hsame⟩ := X.leave (v := some w) (fun h => by rw [hret] at h; cases h) hk
  exact ⟨_, _, X.areturnOut hx hw hret ht hd hr, hrun, hended, _, _, rfl, hQ, ⟨_, rfl⟩, hW, hsame.mono hc hs⟩
theorem own_selP {s : State} {args : Array Value} {y y' : MethodName} (hs : (Cond.selects y'.cls y' y').before args s = true) (hc : y'.cls = y.cls) (hpriv : s.PrivateAt y) (hinst : (Cond.instanceMethod y).before args s = true) (hy : y.cls ≠ "java/lang/invoke/MethodHandle" ∧ y.cls ≠ "java/lang/invoke/VarHandle") : (Cond.selects y.cls y y).before args s = true := by
  obtain ⟨c2, r2, m2, -, -, q3, -, kP, hkP, hkPi⟩ := Cond.selects_spec hs
  exact selects_self_of_private (hc ▸ findClass_of_methodNamed q3) hkP hkPi hpriv hinst hy
end OwnGo
def o_i2l (x : Int32) : Int64 := x.toInt64
def o_l2i (x : Int64) : Int32 := x.toInt32
def o_i2b (x : Int32) : Int32 := x.toInt8.toInt32
def o_i2s (x : Int32) : Int32 := x.toInt16.toInt32
def o_i2c (x : Int32) : Int32 := x.toUInt32.toUInt16.toUInt32.toInt32
def o_ishl (x y : Int32) : Int32 := x <<< (y &&& 31)
def o_ishr (x y : Int32) : Int32 := x >>> (y &&& 31)
def o_iushr (x y : Int32) : Int32 := (x.toUInt32 >>> (y &&& 31).toUInt32).toInt32
def o_lshl (x : Int64) (y : Int32) : Int64 := x <<< (y &&& 0x3f).toInt64
def o_lshr (x : Int64) (y : Int32) : Int64 := x >>> (y &&& 0x3f).toInt64
def o_lushr (x : Int64) (y : Int32) : Int64 := (x.toUInt64 >>> (y &&& 0x3f).toInt64.toUInt64).toInt64
def o_irem (x y : Int32) : Int32 := x - (x / y) * y
def o_lrem (x y : Int64) : Int64 := x - (x / y) * y
def o_d0 : UInt64 := FP.dconst0
def o_d1 : UInt64 := FP.dconst1

theorem own_goD {p : Program} {l : Launch} {e : Env} {R : Room} {s : State} {m : MethodId} {args : Array Value} {below : List Frame} {meth : Method} {c : Code} {T : State} {locs : List Loc} {cells slots : Nat} {Q : Option Value → Heap → List Loc → Prop} {cs ss : Nat} (X : Stand p l e R s m args below meth c T locs cells slots) (hx : p.tables.exec = Jvm.exec) {pc : Nat} {Ls : Array Slot} {z : UInt64} (hret : meth.sig.returnType = some .double) (hd : decode c.code pc = .ok (.dreturn, 1)) (hk : meth.locks = false) (hc : cells ≤ cs) (hs : slots ≤ ss) (hQ : Q (some (.double z)) T.heap locs) :
    own_Go p e below s Q cs ss (T.setTop (mkF m pc Ls [.double z])) := by
  obtain ⟨fs, hr, hrun, hended, hW, hsame⟩ := X.leave (v := some (.double z)) (fun h => by rw [hret] at h; cases h) hk
  have st : Steps p.tables e below (T.setTop (mkF m pc Ls [.double z])) (T.setFrames fs) := by
    have hm' : T.vm.method? m = some meth := X.method'
    have hn : narrow .double (.double z) = .double z := rfl
    show Steps p.tables e below (T.setTop { method := m, pc := pc, locals := Ls, stack := [.double z], locked := none }) _
    jvm_step X.here [X.here.top, hx, hd, hm', hret, hn]
    first | (intro acts; rw [hr _ acts rfl rfl rfl]) | rw [hr _ _ rfl rfl rfl]
    exact Steps.refl _
  exact ⟨_, _, st, hrun, hended, _, _, rfl, hQ, ⟨_, rfl⟩, hW, hsame.mono hc hs⟩
theorem own_t (n : Nat) (h : n ≤ 16) : (Nat.toInt32 n).toInt = n := len_toInt (by omega)
theorem own_ltn {i j : Nat} (hj : j ≤ 16) (hi : i ≤ 16) : (Nat.toInt32 i) < (Nat.toInt32 j) ↔ i < j := by
  rw [Int32.lt_iff_toInt_lt, own_t i hi, own_t j hj]; omega
theorem own_nn {i : Nat} (hi : i ≤ 16) : ¬ (Nat.toInt32 i) < 0 := by
  rw [Int32.lt_iff_toInt_lt, own_t i hi]; simp only [Int32.reduceToInt]; omega
theorem own_nc {i : Nat} (hi : i ≤ 16) : (Nat.toInt32 i).toNatClampNeg = i := by simp only [Int32.toNatClampNeg, own_t i hi]; omega
theorem own_eqn {i j : Nat} (hi : i ≤ 16) (hj : j ≤ 16) : (Nat.toInt32 i) = (Nat.toInt32 j) ↔ i = j := by
  rw [← Int32.toInt_inj, own_t i hi, own_t j hj]; omega
theorem own_succ (i : Nat) : (Nat.toInt32 i) + (1 : Int32) = Nat.toInt32 (i + 1) := by
  apply Int32.toBitVec_inj.mp
  show BitVec.ofNat 32 i + 1#32 = BitVec.ofNat 32 (i + 1)
  apply BitVec.eq_of_toNat_eq; simp [BitVec.toNat_add]
def own_gd (ds : List UInt64) (i : Nat) : UInt64 := ds.getD i 0
def own_gi (cs : List Int32) (i : Nat) : Int32 := cs.getD i 0
def own_ad (ds : List UInt64) (e : Nat) (x : UInt64) : List UInt64 := ds.set e (FP.dadd (own_gd ds e) x)
def own_ac (cs : List Int32) (e : Nat) : List Int32 := cs.set e (own_gi cs e + (1 : Int32))
abbrev own_dz : List UInt64 := [0, 0, 0, 0]
abbrev own_cz : List Int32 := [0, 0, 0, 0]
theorem own_gdm (ds : List UInt64) {i : Nat} (hi : i ≤ 16) : (ds.map Value.double).getD (Nat.toInt32 i).toNatClampNeg (.double (0 : UInt64)) = .double (own_gd ds i) := by
  rw [own_nc hi]
  simp only [own_gd, List.getD_eq_getElem?_getD, List.getElem?_map]
  cases ds[i]? <;> rfl
theorem own_gim (cs : List Int32) {i : Nat} (hi : i ≤ 16) : (cs.map Value.int).getD (Nat.toInt32 i).toNatClampNeg (.int (0 : Int32)) = .int (own_gi cs i) := by
  rw [own_nc hi]
  simp only [own_gi, List.getD_eq_getElem?_getD, List.getElem?_map]
  cases cs[i]? <;> rfl
theorem own_ad_l (ds : List UInt64) (e : Nat) (x : UInt64) : (own_ad ds e x).length = ds.length := List.length_set
theorem own_ac_l (cs : List Int32) (e : Nat) : (own_ac cs e).length = cs.length := List.length_set
theorem own_ad_map (ds : List UInt64) (e : Nat) (x : UInt64) : (own_ad ds e x).map Value.double = (ds.map Value.double).set e (.double (FP.dadd (own_gd ds e) x)) := List.map_set
theorem own_ac_map (cs : List Int32) (e : Nat) : (own_ac cs e).map Value.int = (cs.map Value.int).set e (.int (own_gi cs e + (1 : Int32))) := List.map_set
theorem own_ad_g {ds : List UInt64} {e f : Nat} {x : UInt64} (h : e < ds.length) : own_gd (own_ad ds e x) f = if e = f then FP.dadd (own_gd ds f) x else own_gd ds f := by
  unfold own_ad own_gd
  simp only [List.getD_eq_getElem?_getD, List.getElem?_set]
  by_cases q : e = f
  · subst q; simp [h]
  · simp [q]
theorem own_ac_g {cs : List Int32} {e f : Nat} (h : e < cs.length) : own_gi (own_ac cs e) f = if e = f then own_gi cs f + (1 : Int32) else own_gi cs f := by
  unfold own_ac own_gi
  simp only [List.getD_eq_getElem?_getD, List.getElem?_set]
  by_cases q : e = f
  · subst q; simp [h]
  · simp [q]
abbrev own_NN (x : UInt64) : Prop := Jvm.Free.Fl.NoNaN64 x
abbrev own_Fi (x : UInt64) : Prop := Jvm.Free.Fl.Fin64 x
theorem own_0 : own_NN 0 := by unfold own_NN; decide
theorem own_dz_g (f : Nat) : own_gd own_dz f = 0 := by
  match f with
  | 0 => rfl
  | 1 => rfl
  | 2 => rfl
  | 3 => rfl
  | n + 4 => rfl
theorem own_cz_g (f : Nat) : own_gi own_cz f = 0 := by
  match f with
  | 0 => rfl
  | 1 => rfl
  | 2 => rfl
  | 3 => rfl
  | n + 4 => rfl
theorem own_nnz (f : Nat) : own_NN (own_gd own_dz f) := by rw [own_dz_g]; exact own_0
theorem own_nns {ds : List UInt64} {e : Nat} {x : UInt64} (h : ∀ f, own_NN (own_gd ds f)) (hx : own_Fi x) (hl : e < ds.length) : ∀ f, own_NN (own_gd (own_ad ds e x) f) := by
  intro f
  rw [own_ad_g hl]
  split
  · exact Jvm.Free.Fl.dadd_out (h f) hx
  · exact h f
theorem own_ad4 {ds : List UInt64} {e : Nat} {x : UInt64} (h : ds.length = 4) : (own_ad ds e x).length = 4 := by rw [own_ad_l]; exact h
theorem own_ac4 {cs : List Int32} {e : Nat} (h : cs.length = 4) : (own_ac cs e).length = 4 := by rw [own_ac_l]; exact h
theorem own_lt4 {α : Type} {ds : List α} {e : Nat} (h : ds.length = 4) (he : e < 4) : e < ds.length := by rw [h]; exact he
theorem own_lt4m {α β : Type} {f : α → β} {ds : List α} {e : Nat} (h : ds.length = 4) (he : e < 4) : e < (ds.map f).length := by rw [List.length_map, h]; exact he
def own_m1 (c q : Int32) (d x : UInt64) : UInt64 := if c = q then FP.dadd d x else d
def own_m2 (c q : Int32) (n : Nat) : Nat := if c = q then n + 1 else n
def own_md (c0 c1 c2 c3 : Int32) (x0 x1 x2 x3 : UInt64) (q : Int32) : UInt64 := own_m1 c3 q (own_m1 c2 q (own_m1 c1 q (own_m1 c0 q 0 x0) x1) x2) x3
def own_mn (c0 c1 c2 c3 : Int32) (q : Int32) : Nat := own_m2 c3 q (own_m2 c2 q (own_m2 c1 q (own_m2 c0 q 0)))
def own_mean (c0 c1 c2 c3 : Int32) (x0 x1 x2 x3 : UInt64) (q : Int32) : UInt64 := FP.ddiv (own_md c0 c1 c2 c3 x0 x1 x2 x3 q) (FP.i2d (Nat.toInt32 (own_mn c0 c1 c2 c3 q)))
theorem own_m2_r {c q : Int32} {n : Nat} : n ≤ own_m2 c q n ∧ own_m2 c q n ≤ n + 1 ∧ (c = q → own_m2 c q n = n + 1) := by
  unfold own_m2
  by_cases h : c = q
  · rw [if_pos h]; exact ⟨by omega, by omega, fun _ => rfl⟩
  · rw [if_neg h]; exact ⟨by omega, by omega, fun z => absurd z h⟩
theorem own_mn_r {c0 c1 c2 c3 q : Int32} : own_mn c0 c1 c2 c3 q ≤ 4 ∧ ((c0 = q ∨ c1 = q ∨ c2 = q ∨ c3 = q) → 1 ≤ own_mn c0 c1 c2 c3 q) := by
  unfold own_mn
  have a := own_m2_r (c := c0) (q := q) (n := 0)
  have b := own_m2_r (c := c1) (q := q) (n := own_m2 c0 q 0)
  have c := own_m2_r (c := c2) (q := q) (n := own_m2 c1 q (own_m2 c0 q 0))
  have d := own_m2_r (c := c3) (q := q) (n := own_m2 c2 q (own_m2 c1 q (own_m2 c0 q 0)))
  refine ⟨by omega, ?_⟩
  rintro (h | h | h | h)
  · have := a.2.2 h; omega
  · have := b.2.2 h; omega
  · have := c.2.2 h; omega
  · have := d.2.2 h; omega
theorem own_nz {n : Nat} (h : 1 ≤ n) (h2 : n ≤ 16) : Nat.toInt32 n ≠ 0 := fun z => by
  have := own_t n h2; rw [z] at this; simp only [Int32.reduceToInt] at this; omega
theorem own_adm {ds : List UInt64} {e f : Nat} {x : UInt64} (h : e < ds.length) (he : e ≤ 16) (hf : f ≤ 16) : own_gd (own_ad ds e x) f = own_m1 (Nat.toInt32 e) (Nat.toInt32 f) (own_gd ds f) x := by
  rw [own_ad_g h, own_m1]
  by_cases q : e = f
  · rw [if_pos q, if_pos ((own_eqn he hf).mpr q)]
  · rw [if_neg q, if_neg (fun z => q ((own_eqn he hf).mp z))]
theorem own_acm {cs : List Int32} {e f n : Nat} (h : e < cs.length) (he : e ≤ 16) (hf : f ≤ 16) (hn : own_gi cs f = Nat.toInt32 n) : own_gi (own_ac cs e) f = Nat.toInt32 (own_m2 (Nat.toInt32 e) (Nat.toInt32 f) n) := by
  rw [own_ac_g h, own_m2]
  by_cases q : e = f
  · rw [if_pos q, if_pos ((own_eqn he hf).mpr q), hn, own_succ]
  · rw [if_neg q, if_neg (fun z => q ((own_eqn he hf).mp z)), hn]
abbrev own_S4 (e0 e1 e2 e3 : Nat) (x0 x1 x2 x3 : UInt64) : List UInt64 := own_ad (own_ad (own_ad (own_ad own_dz e0 x0) e1 x1) e2 x2) e3 x3
abbrev own_C4 (e0 e1 e2 e3 : Nat) : List Int32 := own_ac (own_ac (own_ac (own_ac own_cz e0) e1) e2) e3
theorem own_S4_m {e0 e1 e2 e3 f : Nat} {x0 x1 x2 x3 : UInt64} (h0 : e0 < 4) (h1 : e1 < 4) (h2 : e2 < 4) (h3 : e3 < 4) (hf : f < 4) : own_gd (own_S4 e0 e1 e2 e3 x0 x1 x2 x3) f = own_md (Nat.toInt32 e0) (Nat.toInt32 e1) (Nat.toInt32 e2) (Nat.toInt32 e3) x0 x1 x2 x3 (Nat.toInt32 f) := by
  unfold own_S4 own_md
  rw [own_adm (by simp only [own_ad_l]; exact h3) (by omega) (by omega), own_adm (by simp only [own_ad_l]; exact h2) (by omega) (by omega), own_adm (by simp only [own_ad_l]; exact h1) (by omega) (by omega), own_adm (by exact h0) (by omega) (by omega), own_dz_g]
theorem own_C4_m {e0 e1 e2 e3 f : Nat} (h0 : e0 < 4) (h1 : e1 < 4) (h2 : e2 < 4) (h3 : e3 < 4) (hf : f < 4) : own_gi (own_C4 e0 e1 e2 e3) f = Nat.toInt32 (own_mn (Nat.toInt32 e0) (Nat.toInt32 e1) (Nat.toInt32 e2) (Nat.toInt32 e3) (Nat.toInt32 f)) := by
  unfold own_C4 own_mn
  exact own_acm (by simp only [own_ac_l]; exact h3) (by omega) (by omega) (own_acm (by simp only [own_ac_l]; exact h2) (by omega) (by omega) (own_acm (by simp only [own_ac_l]; exact h1) (by omega) (by omega) (own_acm (by exact h0) (by omega) (by omega) (own_cz_g f))))
theorem own_Q {e0 e1 e2 e3 f : Nat} {x0 x1 x2 x3 : UInt64} (h0 : e0 < 4) (h1 : e1 < 4) (h2 : e2 < 4) (h3 : e3 < 4) (hf : f < 4) : FP.ddiv (own_gd (own_S4 e0 e1 e2 e3 x0 x1 x2 x3) f) (FP.i2d (own_gi (own_C4 e0 e1 e2 e3) f)) = own_mean (Nat.toInt32 e0) (Nat.toInt32 e1) (Nat.toInt32 e2) (Nat.toInt32 e3) x0 x1 x2 x3 (Nat.toInt32 f) := by
  rw [own_S4_m h0 h1 h2 h3 hf, own_C4_m h0 h1 h2 h3 hf]; rfl
theorem own_S4_n {e0 e1 e2 e3 : Nat} {x0 x1 x2 x3 : UInt64} (h0 : e0 < 4) (h1 : e1 < 4) (h2 : e2 < 4) (h3 : e3 < 4) (f0 : own_Fi x0) (f1 : own_Fi x1) (f2 : own_Fi x2) (f3 : own_Fi x3) (f : Nat) : own_NN (own_gd (own_S4 e0 e1 e2 e3 x0 x1 x2 x3) f) :=
  own_nns (own_nns (own_nns (own_nns own_nnz f0 (by exact h0)) f1 (by simp only [own_ad_l]; exact h1)) f2 (by simp only [own_ad_l]; exact h2)) f3 (by simp only [own_ad_l]; exact h3) f
theorem own_Q_n {e0 e1 e2 e3 f : Nat} {x0 x1 x2 x3 : UInt64} (h0 : e0 < 4) (h1 : e1 < 4) (h2 : e2 < 4) (h3 : e3 < 4) (f0 : own_Fi x0) (f1 : own_Fi x1) (f2 : own_Fi x2) (f3 : own_Fi x3) (hm : f = e0 ∨ f = e1 ∨ f = e2 ∨ f = e3) : own_NN (FP.ddiv (own_gd (own_S4 e0 e1 e2 e3 x0 x1 x2 x3) f) (FP.i2d (own_gi (own_C4 e0 e1 e2 e3) f))) := by
  have hf : f < 4 := by omega
  refine Jvm.Free.Fl.ddiv_out (own_S4_n h0 h1 h2 h3 f0 f1 f2 f3 f) (Jvm.Free.Fl.i2d_fin _) (Jvm.Free.Fl.i2d_nz ?_)
  rw [own_C4_m h0 h1 h2 h3 hf]
  have r := own_mn_r (c0 := Nat.toInt32 e0) (c1 := Nat.toInt32 e1) (c2 := Nat.toInt32 e2) (c3 := Nat.toInt32 e3) (q := Nat.toInt32 f)
  refine own_nz (r.2 ?_) (by omega)
  rcases hm with h | h | h | h
  · exact Or.inl (by rw [h])
  · exact Or.inr (Or.inl (by rw [h]))
  · exact Or.inr (Or.inr (Or.inl (by rw [h])))
  · exact Or.inr (Or.inr (Or.inr (by rw [h])))

theorem d2_0 : decode jdk_30_method_1_code 0 = .ok (.aload_n 0, 1) := by decide +kernel
theorem d2_1 : decode jdk_30_method_1_code 1 = .ok (.invokespecial 1, 3) := by decide +kernel
theorem d2_4 : decode jdk_30_method_1_code 4 = .ok (.return_, 1) := by decide +kernel
theorem pn_0 : plainName "java/lang/Record" = true := by first | (simp [plainName, overriddenIn]; done) | decide +kernel
theorem ef_2 (m : MethodId) (x0 : Addr) : entryFrame m #[(.ref x0)] 1 = mkF m 0 #[.val (.ref x0)] [] := by first | (simp [entryFrame, mkF, argsToLocals, Value.category]; done) | rfl
def Q2 (Z : State) (a : Addr) (h0 : Heap) (n0 : Nat) (v : Option Value) (h : Heap) (L : List Loc) : Prop := v = none ∧ Fr n0 L ∧ h = h0
set_option maxRecDepth 65536 in
set_option maxHeartbeats 40000000 in
theorem rm2 (l : Launch) (Z : State) (a0 : Array Value) (hw : ∀ d ∈ tables_1, d.before a0 Z = true) (ws : List Jvm.Cond) (a : Addr) (h0 : Heap) (n0 : Nat) (Z0 : n0 ≤ h0.size) :
    MetFree l (⟨"java/lang/Record", "<init>", "()V"⟩ : MethodName) (head1 (Jvm.Cond.code (⟨"java/lang/Record", "<init>", "()V"⟩ : MethodName) jdk_30_method_1_code 1 none :: ws) ({ frames := 1, cells := 0, slots := 0, locals := 12 } : Room)) (fun q_ U => q_ = #[(.ref a)] ∧ Z.Warmed39 U.vm ∧ U.heap = h0) (fun _ _ _ _ _ => True) (fun _ U o U' => ∃ v L, o = .returned v ∧ Q2 Z a h0 n0 v U'.heap L ∧ FrameEnd U o U' L ({ frames := 1, cells := 0, slots := 0, locals := 12 } : Room).cells ({ frames := 1, cells := 0, slots := 0, locals := 12 } : Room).slots) := by
  refine MetFree.of_bodySF (plainFor_of_name pn_0) hisR ?_
  intro p e s m args below meth c s₁ Bd hml0 hP hK
  obtain ⟨rfl, hZ, hh⟩ := hP
  have hx := Bd.exec
  have hby := Bd.bytes
  have hml : c.maxLocals = 1 := hml0
  have hown : s.vm.findClass "java/lang/Record" = some m.cls := findClass_of_methodNamed Bd.named
  have hnm := (name_of_methodNamed Bd.named Bd.method).1
  have X0 : Stand p l e ({ frames := 1, cells := 0, slots := 0, locals := 12 } : Room) s m #[(.ref a)] below meth c s₁ [] 0 0 := Stand.of_body Bd
  have e0 : s₁.heap = h0 := by rw [← hh, Bd.state]; rfl
  have N0 := Fr.nil n0
  show own_Go p e below s (Q2 Z a h0 n0) ({ frames := 1, cells := 0, slots := 0, locals := 12 } : Room).cells ({ frames := 1, cells := 0, slots := 0, locals := 12 } : Room).slots (s₁.setTop (entryFrame m #[(.ref a)] 1))
  refine own_via (fun t k => castTop (ef_2 m a) k) ?_
  show own_Go p e below s _ _ _ (s₁.setTop (mkF m 0 #[.val (.ref a)] []))
  refine own_via (fun _ k => XS.aloadN X0.here hx rfl (hb hby d2_0) rfl rfl k) ?_
  show own_Go p e below s _ _ _ (s₁.setTop (mkF m 1 #[.val (.ref a)] [(.ref a)]))
  obtain ⟨T1, X1, e1, st1⟩ := initO X0 hx hZ hown (hw _ (List.mem_of_getElem? (i := 13) rfl)) (hw _ (List.mem_of_getElem? (i := 14) rfl)) (hw _ (List.mem_of_getElem? (i := 15) rfl)) e0 (g := (mkF m 1 #[.val (.ref a)] [(.ref a)])) rfl (by rw [hml]; rfl) rfl (hb hby d2_1) (by decide) (W := 0) (by show 2 * 0 + _ ≤ _; exact Nat.le_of_eq rfl) (by decide)
  refine own_via st1 ?_
  show own_Go p e below s _ _ _ (T1.setTop (mkF m 4 #[.val (.ref a)] []))
  exact own_goV X1 hx Bd.returns (hb hby d2_4) Bd.notSynchronized (by decide) (by decide) (by rw [e1]; exact ⟨rfl, N0, rfl⟩)
theorem d1_0 : decode prog_33_method_1_code 0 = .ok (.aload_n 0, 1) := by decide +kernel
theorem pd_0 : parseMethodDescriptor "()V" = some ⟨[], none⟩ := by decide +kernel
theorem d1_1 : decode prog_33_method_1_code 1 = .ok (.invokespecial 3, 3) := by decide +kernel
theorem d1_4 : decode prog_33_method_1_code 4 = .ok (.aload_n 0, 1) := by decide +kernel
theorem d1_5 : decode prog_33_method_1_code 5 = .ok (.aload_n 1, 1) := by decide +kernel
theorem d1_6 : decode prog_33_method_1_code 6 = .ok (.putfield 9, 3) := by decide +kernel
theorem d1_9 : decode prog_33_method_1_code 9 = .ok (.aload_n 0, 1) := by decide +kernel
theorem d1_10 : decode prog_33_method_1_code 10 = .ok (.iload_n 2, 1) := by decide +kernel
theorem d1_11 : decode prog_33_method_1_code 11 = .ok (.putfield 15, 3) := by decide +kernel
theorem d1_14 : decode prog_33_method_1_code 14 = .ok (.return_, 1) := by decide +kernel
theorem pn_1 : plainName "com/example/enlace/enlace/rank/EquitablePartition" = true := by first | (simp [plainName, overriddenIn]; done) | decide +kernel
theorem ef_1 (m : MethodId) (x0 : Addr) (x1 : Addr) (x2 : Int32) : entryFrame m #[(.ref x0), (.ref x1), (.int x2)] 3 = mkF m 0 #[.val (.ref x0), .val (.ref x1), .val (.int x2)] [] := by first | (simp [entryFrame, mkF, argsToLocals, Value.category]; done) | rfl
def Q1 (Z : State) (a : Addr) (bc_ : Addr) (pn_ : Int32) (h0 : Heap) (n0 : Nat) (v : Option Value) (h : Heap) (L : List Loc) : Prop := v = none ∧ Fr n0 L ∧ Keep h0 h [a] ∧ Exa Z h a "com/example/enlace/enlace/rank/EquitablePartition" ∧ Fld Z h a "com/example/enlace/enlace/rank/EquitablePartition" "classOf" "[I" (.ref bc_) ∧ Fld Z h a "com/example/enlace/enlace/rank/EquitablePartition" "classCount" "I" (.int pn_)
set_option maxRecDepth 65536 in
set_option maxHeartbeats 40000000 in
theorem rm1 (l : Launch) (Z : State) (a0 : Array Value) (hw : ∀ d ∈ tables_1, d.before a0 Z = true) (ws : List Jvm.Cond) (a : Addr) (bc_ : Addr) (pn_ : Int32) (h0 : Heap) (n0 : Nat) (Z0 : n0 ≤ h0.size) (E_a : Exa Z h0 a "com/example/enlace/enlace/rank/EquitablePartition") (F_classOf_a : Fld Z h0 a "com/example/enlace/enlace/rank/EquitablePartition" "classOf" "[I" .null) (F_classCount_a : Fld Z h0 a "com/example/enlace/enlace/rank/EquitablePartition" "classCount" "I" (.int (0 : Int32))) (g_a : n0 ≤ a) :
    MetFree l (⟨"com/example/enlace/enlace/rank/EquitablePartition", "<init>", "([II)V"⟩ : MethodName) (head1 (Jvm.Cond.code (⟨"com/example/enlace/enlace/rank/EquitablePartition", "<init>", "([II)V"⟩ : MethodName) prog_33_method_1_code 3 none :: ws) ({ frames := 2, cells := 0, slots := 0, locals := 24 } : Room)) (fun q_ U => q_ = #[(.ref a), (.ref bc_), (.int pn_)] ∧ Z.Warmed39 U.vm ∧ U.heap = h0) (fun _ _ _ _ _ => True) (fun _ U o U' => ∃ v L, o = .returned v ∧ Q1 Z a bc_ pn_ h0 n0 v U'.heap L ∧ FrameEnd U o U' L ({ frames := 2, cells := 0, slots := 0, locals := 24 } : Room).cells ({ frames := 2, cells := 0, slots := 0, locals := 24 } : Room).slots) := by
  refine MetFree.of_bodySF (plainFor_of_name pn_1) hisR ?_
  intro p e s m args below meth c s₁ Bd hml0 hP hK
  obtain ⟨rfl, hZ, hh⟩ := hP
  have hx := Bd.exec
  have hby := Bd.bytes
  have hml : c.maxLocals = 3 := hml0
  have hown : s.vm.findClass "com/example/enlace/enlace/rank/EquitablePartition" = some m.cls := findClass_of_methodNamed Bd.named
  have hnm := (name_of_methodNamed Bd.named Bd.method).1
  have X0 : Stand p l e ({ frames := 2, cells := 0, slots := 0, locals := 24 } : Room) s m #[(.ref a), (.ref bc_), (.int pn_)] below meth c s₁ [] 0 0 := Stand.of_body Bd
  have e0 : s₁.heap = h0 := by rw [← hh, Bd.state]; rfl
  have N0 := Fr.nil n0
  show own_Go p e below s (Q1 Z a bc_ pn_ h0 n0) ({ frames := 2, cells := 0, slots := 0, locals := 24 } : Room).cells ({ frames := 2, cells := 0, slots := 0, locals := 24 } : Room).slots (s₁.setTop (entryFrame m #[(.ref a), (.ref bc_), (.int pn_)] 3))
  refine own_via (fun t k => castTop (ef_1 m a bc_ pn_) k) ?_
  have K0 : Keep h0 h0 [a] := Keep.refl _ _
  show own_Go p e below s _ _ _ (s₁.setTop (mkF m 0 #[.val (.ref a), .val (.ref bc_), .val (.int pn_)] []))
  refine own_via (fun _ k => XS.aloadN X0.here hx rfl (hb hby d1_0) rfl rfl k) ?_
  show own_Go p e below s _ _ _ (s₁.setTop (mkF m 1 #[.val (.ref a), .val (.ref bc_), .val (.int pn_)] [(.ref a)]))
  obtain ⟨_, _, ⟨T1, L1, k1, n1⟩, -, X1, ⟨Lc1, hQ1, l1, y1, z1⟩, st1⟩ := X0.specialBack hx (y := (⟨"java/lang/Record", "<init>", "()V"⟩ : MethodName)) rfl hown (mvT hZ (hw _ (List.mem_of_getElem? (i := 8) rfl))) (mvT hZ (hw _ (List.mem_of_getElem? (i := 9) rfl))) (mvT hZ (hw _ (List.mem_of_getElem? (i := 12) rfl))) (by decide) (backOf (W := 0) (rm2 l Z a0 hw [] a h0 n0 Z0 ) hZ (hw _ (List.mem_of_getElem? (i := 12) rfl)) (hw _ (List.mem_of_getElem? (i := 11) rfl)) (by decide) (by decide)) (g := (mkF m 1 #[.val (.ref a), .val (.ref bc_), .val (.int pn_)] [(.ref a)])) rfl (by rw [hml]; rfl) (Steps.refl _) (a := a) (argsL := []) (rest := []) (lenOf pd_0 rfl) rfl (by show 2 * 0 + _ ≤ _; exact Nat.le_of_eq rfl) (hb hby d1_1) (fun _ _ => ⟨rfl, e0, (by decide : 0 + 0 ≤ _), (by decide : 0 + 0 ≤ _)⟩)
  dsimp only [Pt.U, Pt.locs, Pt.cells, Pt.slots] at X1 l1 y1 z1 st1 hQ1
  rw [l1, y1, z1] at X1
  obtain ⟨rfl, N1q, e1⟩ := hQ1
  have N1 := Fr.app N0 N1q
  refine own_viaT st1 ?_
  show own_Go p e below s _ _ _ (T1.setTop (mkF m 4 #[.val (.ref a), .val (.ref bc_), .val (.int pn_)] []))
  refine own_via (fun _ k => XS.aloadN X1.here hx rfl (hb hby d1_4) rfl rfl k) ?_
  show own_Go p e below s _ _ _ (T1.setTop (mkF m 5 #[.val (.ref a), .val (.ref bc_), .val (.int pn_)] [(.ref a)]))
  refine own_via (fun _ k => XS.aloadN X1.here hx rfl (hb hby d1_5) rfl rfl k) ?_
  show own_Go p e below s _ _ _ (T1.setTop (mkF m 6 #[.val (.ref a), .val (.ref bc_), .val (.int pn_)] [(.ref bc_), (.ref a)]))
  obtain ⟨T2, h2, X2, e2, W2, st2⟩ := putF X1 hx hZ hown (host := "") (Or.inl (hw _ (List.mem_of_getElem? (i := 16) rfl))) Via.refl e1 F_classOf_a E_a (Or.inr ⟨(hw _ (List.mem_of_getElem? (i := 17) rfl)), rfl, hnm⟩) (hw _ (List.mem_of_getElem? (i := 3) rfl)) (ty := (.array .int)) (by decide) rfl rfl (g := (mkF m 6 #[.val (.ref a), .val (.ref bc_), .val (.int pn_)] [(.ref bc_), (.ref a)])) rfl rfl (hb hby d1_6)
  have N2 := Fr.snoc X2 N1 g_a
  have Fw2 := F_classOf_a.same W2
  have Z2 : n0 ≤ h2.size := Nat.le_trans Z0 (Keep.of_wr W2).1
  have K2 : Keep h0 h2 [a] := K0.wr W2 (Or.inl (List.mem_of_getElem? (i := 0) rfl))
  refine own_via st2 ?_
  show own_Go p e below s _ _ _ (T2.setTop (mkF m 9 #[.val (.ref a), .val (.ref bc_), .val (.int pn_)] []))
  refine own_via (fun _ k => XS.aloadN X2.here hx rfl (hb hby d1_9) rfl rfl k) ?_
  show own_Go p e below s _ _ _ (T2.setTop (mkF m 10 #[.val (.ref a), .val (.ref bc_), .val (.int pn_)] [(.ref a)]))
  refine own_via (fun _ k => XS.iloadN X2.here hx rfl (hb hby d1_10) rfl k) ?_
  show own_Go p e below s _ _ _ (T2.setTop (mkF m 11 #[.val (.ref a), .val (.ref bc_), .val (.int pn_)] [(.int pn_), (.ref a)]))
  have F3 := (E_a.wr W2)
  have F4 := (F_classCount_a.other W2 (Or.inr (slot_ne (Or.inr (hw _ (List.mem_of_getElem? (i := 19) rfl))) (Or.inr (hw _ (List.mem_of_getElem? (i := 17) rfl))) (by decide) (t := .int) (t' := (.array .int)) (by decide) (by decide))))
  obtain ⟨T5, h5, X5, e5, W5, st5⟩ := putF X2 hx hZ hown (host := "") (Or.inl (hw _ (List.mem_of_getElem? (i := 18) rfl))) Via.refl e2 F4 F3 (Or.inr ⟨(hw _ (List.mem_of_getElem? (i := 19) rfl)), rfl, hnm⟩) (hw _ (List.mem_of_getElem? (i := 3) rfl)) (ty := .int) (by decide) rfl rfl (g := (mkF m 11 #[.val (.ref a), .val (.ref bc_), .val (.int pn_)] [(.int pn_), (.ref a)])) rfl rfl (hb hby d1_11)
  have N5 := Fr.snoc X5 N2 g_a
  have Fw5 := F4.same W5
  have Z5 : n0 ≤ h5.size := Nat.le_trans Z2 (Keep.of_wr W5).1
  have K5 : Keep h0 h5 [a] := K2.wr W5 (Or.inl (List.mem_of_getElem? (i := 0) rfl))
  refine own_via st5 ?_
  show own_Go p e below s _ _ _ (T5.setTop (mkF m 14 #[.val (.ref a), .val (.ref bc_), .val (.int pn_)] []))
  have F6 := (F3.wr W5)
  have F7 := (Fw2.other W5 (Or.inr (slot_ne (Or.inr (hw _ (List.mem_of_getElem? (i := 17) rfl))) (Or.inr (hw _ (List.mem_of_getElem? (i := 19) rfl))) (by decide) (t := (.array .int)) (t' := .int) (by decide) (by decide))))
  exact own_goV X5 hx Bd.returns (hb hby d1_14) Bd.notSynchronized (by decide) (by decide) (by rw [e5]; exact ⟨rfl, N5, K5, F6, F7, Fw5⟩)
theorem d4_0 : decode prog_33_method_4_code 0 = .ok (.aload_n 0, 1) := by decide +kernel
theorem d4_1 : decode prog_33_method_4_code 1 = .ok (.getfield 15, 3) := by decide +kernel
theorem d4_4 : decode prog_33_method_4_code 4 = .ok (.newarray .double, 2) := by decide +kernel
theorem d4_6 : decode prog_33_method_4_code 6 = .ok (.astore_n 2, 1) := by decide +kernel
theorem d4_7 : decode prog_33_method_4_code 7 = .ok (.aload_n 0, 1) := by decide +kernel
theorem d4_8 : decode prog_33_method_4_code 8 = .ok (.getfield 15, 3) := by decide +kernel
theorem d4_11 : decode prog_33_method_4_code 11 = .ok (.newarray .int, 2) := by decide +kernel
theorem d4_13 : decode prog_33_method_4_code 13 = .ok (.astore_n 3, 1) := by decide +kernel
theorem d4_14 : decode prog_33_method_4_code 14 = .ok (.iconst 0, 1) := by decide +kernel
theorem d4_15 : decode prog_33_method_4_code 15 = .ok (.istore 4, 2) := by decide +kernel
theorem d4_17 : decode prog_33_method_4_code 17 = .ok (.iload 4, 2) := by decide +kernel
theorem d4_19 : decode prog_33_method_4_code 19 = .ok (.aload_n 1, 1) := by decide +kernel
theorem d4_20 : decode prog_33_method_4_code 20 = .ok (.arraylength, 1) := by decide +kernel
theorem d4_21 : decode prog_33_method_4_code 21 = .ok (.if_icmp .ge 38, 3) := by decide +kernel
theorem d4_24 : decode prog_33_method_4_code 24 = .ok (.aload_n 2, 1) := by decide +kernel
theorem d4_25 : decode prog_33_method_4_code 25 = .ok (.aload_n 0, 1) := by decide +kernel
theorem d4_26 : decode prog_33_method_4_code 26 = .ok (.getfield 9, 3) := by decide +kernel
theorem d4_29 : decode prog_33_method_4_code 29 = .ok (.iload 4, 2) := by decide +kernel
theorem d4_31 : decode prog_33_method_4_code 31 = .ok (.iaload, 1) := by decide +kernel
theorem d4_32 : decode prog_33_method_4_code 32 = .ok (.dup2, 1) := by decide +kernel
theorem d4_33 : decode prog_33_method_4_code 33 = .ok (.daload, 1) := by decide +kernel
theorem d4_34 : decode prog_33_method_4_code 34 = .ok (.aload_n 1, 1) := by decide +kernel
theorem d4_35 : decode prog_33_method_4_code 35 = .ok (.iload 4, 2) := by decide +kernel
theorem d4_37 : decode prog_33_method_4_code 37 = .ok (.daload, 1) := by decide +kernel
theorem d4_38 : decode prog_33_method_4_code 38 = .ok (.dadd, 1) := by decide +kernel
theorem d4_39 : decode prog_33_method_4_code 39 = .ok (.dastore, 1) := by decide +kernel
theorem d4_40 : decode prog_33_method_4_code 40 = .ok (.aload_n 3, 1) := by decide +kernel
theorem d4_41 : decode prog_33_method_4_code 41 = .ok (.aload_n 0, 1) := by decide +kernel
theorem d4_42 : decode prog_33_method_4_code 42 = .ok (.getfield 9, 3) := by decide +kernel
theorem d4_45 : decode prog_33_method_4_code 45 = .ok (.iload 4, 2) := by decide +kernel
theorem d4_47 : decode prog_33_method_4_code 47 = .ok (.iaload, 1) := by decide +kernel
theorem d4_48 : decode prog_33_method_4_code 48 = .ok (.dup2, 1) := by decide +kernel
theorem d4_49 : decode prog_33_method_4_code 49 = .ok (.iaload, 1) := by decide +kernel
theorem d4_50 : decode prog_33_method_4_code 50 = .ok (.iconst 1, 1) := by decide +kernel
theorem d4_51 : decode prog_33_method_4_code 51 = .ok (.iadd, 1) := by decide +kernel
theorem d4_52 : decode prog_33_method_4_code 52 = .ok (.iastore, 1) := by decide +kernel
theorem d4_53 : decode prog_33_method_4_code 53 = .ok (.iinc 4 1, 3) := by decide +kernel
theorem d4_56 : decode prog_33_method_4_code 56 = .ok (.goto (-39), 3) := by decide +kernel
theorem d4_59 : decode prog_33_method_4_code 59 = .ok (.iconst 0, 1) := by decide +kernel
theorem d4_60 : decode prog_33_method_4_code 60 = .ok (.istore 4, 2) := by decide +kernel
theorem d4_62 : decode prog_33_method_4_code 62 = .ok (.iload 4, 2) := by decide +kernel
theorem d4_64 : decode prog_33_method_4_code 64 = .ok (.aload_n 1, 1) := by decide +kernel
theorem d4_65 : decode prog_33_method_4_code 65 = .ok (.arraylength, 1) := by decide +kernel
theorem d4_66 : decode prog_33_method_4_code 66 = .ok (.if_icmp .ge 33, 3) := by decide +kernel
theorem d4_69 : decode prog_33_method_4_code 69 = .ok (.aload_n 1, 1) := by decide +kernel
theorem d4_70 : decode prog_33_method_4_code 70 = .ok (.iload 4, 2) := by decide +kernel
theorem d4_72 : decode prog_33_method_4_code 72 = .ok (.aload_n 2, 1) := by decide +kernel
theorem d4_73 : decode prog_33_method_4_code 73 = .ok (.aload_n 0, 1) := by decide +kernel
theorem d4_74 : decode prog_33_method_4_code 74 = .ok (.getfield 9, 3) := by decide +kernel
theorem d4_77 : decode prog_33_method_4_code 77 = .ok (.iload 4, 2) := by decide +kernel
theorem d4_79 : decode prog_33_method_4_code 79 = .ok (.iaload, 1) := by decide +kernel
theorem d4_80 : decode prog_33_method_4_code 80 = .ok (.daload, 1) := by decide +kernel
theorem d4_81 : decode prog_33_method_4_code 81 = .ok (.aload_n 3, 1) := by decide +kernel
theorem d4_82 : decode prog_33_method_4_code 82 = .ok (.aload_n 0, 1) := by decide +kernel
theorem d4_83 : decode prog_33_method_4_code 83 = .ok (.getfield 9, 3) := by decide +kernel
theorem d4_86 : decode prog_33_method_4_code 86 = .ok (.iload 4, 2) := by decide +kernel
theorem d4_88 : decode prog_33_method_4_code 88 = .ok (.iaload, 1) := by decide +kernel
theorem d4_89 : decode prog_33_method_4_code 89 = .ok (.iaload, 1) := by decide +kernel
theorem d4_90 : decode prog_33_method_4_code 90 = .ok (.i2d, 1) := by decide +kernel
theorem d4_91 : decode prog_33_method_4_code 91 = .ok (.ddiv, 1) := by decide +kernel
theorem d4_92 : decode prog_33_method_4_code 92 = .ok (.dastore, 1) := by decide +kernel
theorem d4_93 : decode prog_33_method_4_code 93 = .ok (.iinc 4 1, 3) := by decide +kernel
theorem d4_96 : decode prog_33_method_4_code 96 = .ok (.goto (-34), 3) := by decide +kernel
theorem d4_99 : decode prog_33_method_4_code 99 = .ok (.return_, 1) := by decide +kernel
theorem ef_4 (m : MethodId) (x0 : Addr) (x1 : Addr) : entryFrame m #[(.ref x0), (.ref x1)] 5 = mkF m 0 #[.val (.ref x0), .val (.ref x1), .unset, .unset, .unset] [] := by first | (simp [entryFrame, mkF, argsToLocals, Value.category]; done) | rfl
def Q4 (Z : State) (a : Addr) (b_ : Addr) (bc_ : Addr) (kc_ : ClassId) (kb_ : ClassId) (nn_ : Nat) (e0_ : Nat) (e1_ : Nat) (e2_ : Nat) (e3_ : Nat) (x0_ : UInt64) (x1_ : UInt64) (x2_ : UInt64) (x3_ : UInt64) (h0 : Heap) (n0 : Nat) (v : Option Value) (h : Heap) (L : List Loc) : Prop := v = none ∧ Fr n0 L ∧ Keep h0 h [b_] ∧ Arv Z h b_ kb_ .double (4 : Int32) [(.double (FP.ddiv (own_gd (own_ad (own_ad (own_ad (own_ad own_dz e0_ x0_) e1_ x1_) e2_ x2_) e3_ x3_) e0_) (FP.i2d (own_gi (own_ac (own_ac (own_ac (own_ac own_cz e0_) e1_) e2_) e3_) e0_)))), (.double (FP.ddiv (own_gd (own_ad (own_ad (own_ad (own_ad own_dz e0_ x0_) e1_ x1_) e2_ x2_) e3_ x3_) e1_) (FP.i2d (own_gi (own_ac (own_ac (own_ac (own_ac own_cz e0_) e1_) e2_) e3_) e1_)))), (.double (FP.ddiv (own_gd (own_ad (own_ad (own_ad (own_ad own_dz e0_ x0_) e1_ x1_) e2_ x2_) e3_ x3_) e2_) (FP.i2d (own_gi (own_ac (own_ac (own_ac (own_ac own_cz e0_) e1_) e2_) e3_) e2_)))), (.double (FP.ddiv (own_gd (own_ad (own_ad (own_ad (own_ad own_dz e0_ x0_) e1_ x1_) e2_ x2_) e3_ x3_) e3_) (FP.i2d (own_gi (own_ac (own_ac (own_ac (own_ac own_cz e0_) e1_) e2_) e3_) e3_))))] (.double (0 : UInt64))
set_option maxRecDepth 65536 in
set_option maxHeartbeats 40000000 in
theorem rm4 (l : Launch) (Z : State) (a0 : Array Value) (hw : ∀ d ∈ tables_1, d.before a0 Z = true) (ws : List Jvm.Cond) (a : Addr) (b_ : Addr) (bc_ : Addr) (kc_ : ClassId) (kb_ : ClassId) (nn_ : Nat) (e0_ : Nat) (e1_ : Nat) (e2_ : Nat) (e3_ : Nat) (x0_ : UInt64) (x1_ : UInt64) (x2_ : UInt64) (x3_ : UInt64) (h0 : Heap) (n0 : Nat) (Z0 : n0 ≤ h0.size) (E_a : Exa Z h0 a "com/example/enlace/enlace/rank/EquitablePartition") (F_classOf_a : Fld Z h0 a "com/example/enlace/enlace/rank/EquitablePartition" "classOf" "[I" (.ref bc_)) (F_classCount_a : Fld Z h0 a "com/example/enlace/enlace/rank/EquitablePartition" "classCount" "I" (.int (Nat.toInt32 nn_))) (V_bc_ : Arv Z h0 bc_ kc_ .int (4 : Int32) [(.int (Nat.toInt32 e0_)), (.int (Nat.toInt32 e1_)), (.int (Nat.toInt32 e2_)), (.int (Nat.toInt32 e3_))] (.int (0 : Int32))) (V_b_ : Arv Z h0 b_ kb_ .double (4 : Int32) [(.double x0_), (.double x1_), (.double x2_), (.double x3_)] (.double (0 : UInt64))) (g_b_ : n0 ≤ b_) (ne_b__bc_ : b_ ≠ bc_) (ne_a_b_ : a ≠ b_) (hp8 : nn_ ≤ 4) (hp9 : e0_ < nn_) (hp10 : e1_ < nn_) (hp11 : e2_ < nn_) (hp12 : e3_ < nn_) (hp13 : own_Fi x0_) (hp14 : own_Fi x1_) (hp15 : own_Fi x2_) (hp16 : own_Fi x3_) :
    MetFree l (⟨"com/example/enlace/enlace/rank/EquitablePartition", "average", "([D)V"⟩ : MethodName) (head1 (Jvm.Cond.code (⟨"com/example/enlace/enlace/rank/EquitablePartition", "average", "([D)V"⟩ : MethodName) prog_33_method_4_code 5 none :: ws) ({ frames := 0, cells := 2, slots := 8, locals := 0 } : Room)) (fun q_ U => q_ = #[(.ref a), (.ref b_)] ∧ Z.Warmed39 U.vm ∧ U.heap = h0) (fun _ _ _ _ _ => True) (fun _ U o U' => ∃ v L, o = .returned v ∧ Q4 Z a b_ bc_ kc_ kb_ nn_ e0_ e1_ e2_ e3_ x0_ x1_ x2_ x3_ h0 n0 v U'.heap L ∧ FrameEnd U o U' L ({ frames := 0, cells := 2, slots := 8, locals := 0 } : Room).cells ({ frames := 0, cells := 2, slots := 8, locals := 0 } : Room).slots) := by
  refine MetFree.of_bodySF (plainFor_of_name pn_1) hisR ?_
  intro p e s m args below meth c s₁ Bd hml0 hP hK
  obtain ⟨rfl, hZ, hh⟩ := hP
  have hx := Bd.exec
  have hby := Bd.bytes
  have hml : c.maxLocals = 5 := hml0
  have hown : s.vm.findClass "com/example/enlace/enlace/rank/EquitablePartition" = some m.cls := findClass_of_methodNamed Bd.named
  have hnm := (name_of_methodNamed Bd.named Bd.method).1
  have X0 : Stand p l e ({ frames := 0, cells := 2, slots := 8, locals := 0 } : Room) s m #[(.ref a), (.ref b_)] below meth c s₁ [] 0 0 := Stand.of_body Bd
  have e0 : s₁.heap = h0 := by rw [← hh, Bd.state]; rfl
  have N0 := Fr.nil n0
  show own_Go p e below s (Q4 Z a b_ bc_ kc_ kb_ nn_ e0_ e1_ e2_ e3_ x0_ x1_ x2_ x3_ h0 n0) ({ frames := 0, cells := 2, slots := 8, locals := 0 } : Room).cells ({ frames := 0, cells := 2, slots := 8, locals := 0 } : Room).slots (s₁.setTop (entryFrame m #[(.ref a), (.ref b_)] 5))
  refine own_via (fun t k => castTop (ef_4 m a b_) k) ?_
  have K0 : Keep h0 h0 [b_] := Keep.refl _ _
  show own_Go p e below s _ _ _ (s₁.setTop (mkF m 0 #[.val (.ref a), .val (.ref b_), .unset, .unset, .unset] []))
  have hNN : nn_ ≤ 16 := Nat.le_trans hp8 (by decide)
  have hb0 : e0_ < 4 := Nat.lt_of_lt_of_le hp9 hp8
  have ha0 : e0_ ≤ 16 := Nat.le_trans (Nat.le_of_lt hb0) (by decide)
  have hb1 : e1_ < 4 := Nat.lt_of_lt_of_le hp10 hp8
  have ha1 : e1_ ≤ 16 := Nat.le_trans (Nat.le_of_lt hb1) (by decide)
  have hb2 : e2_ < 4 := Nat.lt_of_lt_of_le hp11 hp8
  have ha2 : e2_ ≤ 16 := Nat.le_trans (Nat.le_of_lt hb2) (by decide)
  have hb3 : e3_ < 4 := Nat.lt_of_lt_of_le hp12 hp8
  have ha3 : e3_ ≤ 16 := Nat.le_trans (Nat.le_of_lt hb3) (by decide)
  refine own_via (fun _ k => XS.aloadN X0.here hx rfl (hb hby d4_0) rfl rfl k) ?_
  show own_Go p e below s _ _ _ (s₁.setTop (mkF m 1 #[.val (.ref a), .val (.ref b_), .unset, .unset, .unset] [(.ref a)]))
  obtain ⟨T1, X1, e1, st1⟩ := getF X0 hx hZ hown (host := "") (Or.inl (hw _ (List.mem_of_getElem? (i := 18) rfl))) Via.refl e0 F_classCount_a (g := (mkF m 1 #[.val (.ref a), .val (.ref b_), .unset, .unset, .unset] [(.ref a)])) rfl rfl (hb hby d4_1)
  refine own_via st1 ?_
  show own_Go p e below s _ _ _ (T1.setTop (mkF m 4 #[.val (.ref a), .val (.ref b_), .unset, .unset, .unset] [(.int (Nat.toInt32 nn_))]))
  obtain ⟨T2, h2, k2, X2, e2, E2, A2, st2⟩ := newP X1 hx hZ (hw _ (List.mem_of_getElem? (i := 1) rfl)) e1 (g := (mkF m 4 #[.val (.ref a), .val (.ref b_), .unset, .unset, .unset] [(.int (Nat.toInt32 nn_))])) rfl (hb hby d4_4) rfl (own_nn hNN) (cap := 4) (by rw [own_nc hNN]; exact hp8) (by decide) (by decide) (by decide)
  obtain ⟨b2, gg2⟩ : ∃ z, z = h0.size := ⟨_, rfl⟩
  rw [← gg2] at A2 st2
  have ne_a_b2 : a ≠ b2 := Nat.ne_of_lt (Nat.lt_of_lt_of_le E_a.lt (Nat.le_of_eq gg2.symm))
  have ne_b__b2 : b_ ≠ b2 := Nat.ne_of_lt (Nat.lt_of_lt_of_le V_b_.lt (Nat.le_of_eq gg2.symm))
  have ne_bc__b2 : bc_ ≠ b2 := Nat.ne_of_lt (Nat.lt_of_lt_of_le V_bc_.lt (Nat.le_of_eq gg2.symm))
  have g_b2 : n0 ≤ b2 := Nat.le_trans Z0 (Nat.le_of_eq gg2.symm)
  have sz_b2 : h0.size ≤ b2 := Nat.le_trans K0.1 (Nat.le_of_eq gg2.symm)
  have Z2 : n0 ≤ h2.size := Nat.le_trans Z0 E2.1
  have K2 : Keep h0 h2 [b_] := K0.ext E2
  have V2 : Arv Z h2 b2 k2 .double (Nat.toInt32 nn_) [(.double (0 : UInt64)), (.double (0 : UInt64)), (.double (0 : UInt64)), (.double (0 : UInt64))] (.double (0 : UInt64)) := (Arv.new A2 (own_nn hNN)).pad (pad_rep [] (.double (0 : UInt64)) 4)
  refine own_via st2 ?_
  show own_Go p e below s _ _ _ (T2.setTop (mkF m 6 #[.val (.ref a), .val (.ref b_), .unset, .unset, .unset] [(.ref b2)]))
  refine own_via (fun _ k => XS.astoreN X2.here hx rfl (hb hby d4_6) rfl rfl (l' := #[.val (.ref a), .val (.ref b_), .val (.ref b2), .unset, .unset]) rfl k) ?_
  show own_Go p e below s _ _ _ (T2.setTop (mkF m 7 #[.val (.ref a), .val (.ref b_), .val (.ref b2), .unset, .unset] []))
  obtain ⟨S900, hS0⟩ : ∃ S, S = own_dz := ⟨_, rfl⟩
  have hl0 : S900.length = 4 := by rw [hS0]; rfl
  have hn0 : ∀ f, own_NN (own_gd S900 f) := by rw [hS0]; exact own_nnz
  have VSD : Arv Z h2 b2 k2 .double (Nat.toInt32 nn_) (S900.map Value.double) (.double (0 : UInt64)) := (by rw [hS0]; exact V2)
  refine own_via (fun _ k => XS.aloadN X2.here hx rfl (hb hby d4_7) rfl rfl k) ?_
  show own_Go p e below s _ _ _ (T2.setTop (mkF m 8 #[.val (.ref a), .val (.ref b_), .val (.ref b2), .unset, .unset] [(.ref a)]))
  have F3 := (F_classCount_a.ext E2)
  obtain ⟨T4, X4, e4, st4⟩ := getF X2 hx hZ hown (host := "") (Or.inl (hw _ (List.mem_of_getElem? (i := 18) rfl))) Via.refl e2 F3 (g := (mkF m 8 #[.val (.ref a), .val (.ref b_), .val (.ref b2), .unset, .unset] [(.ref a)])) rfl rfl (hb hby d4_8)
  refine own_via st4 ?_
  show own_Go p e below s _ _ _ (T4.setTop (mkF m 11 #[.val (.ref a), .val (.ref b_), .val (.ref b2), .unset, .unset] [(.int (Nat.toInt32 nn_))]))
  obtain ⟨T5, h5, k5, X5, e5, E5, A5, st5⟩ := newP X4 hx hZ (hw _ (List.mem_of_getElem? (i := 0) rfl)) e4 (g := (mkF m 11 #[.val (.ref a), .val (.ref b_), .val (.ref b2), .unset, .unset] [(.int (Nat.toInt32 nn_))])) rfl (hb hby d4_11) rfl (own_nn hNN) (cap := 4) (by rw [own_nc hNN]; exact hp8) (by decide) (by decide) (by decide)
  obtain ⟨b5, gg5⟩ : ∃ z, z = h2.size := ⟨_, rfl⟩
  rw [← gg5] at A5 st5
  have ne_a_b5 : a ≠ b5 := Nat.ne_of_lt (Nat.lt_of_lt_of_le (E_a.ext E2).lt (Nat.le_of_eq gg5.symm))
  have ne_b2_b5 : b2 ≠ b5 := Nat.ne_of_lt (Nat.lt_of_lt_of_le VSD.lt (Nat.le_of_eq gg5.symm))
  have ne_b__b5 : b_ ≠ b5 := Nat.ne_of_lt (Nat.lt_of_lt_of_le (V_b_.ext E2).lt (Nat.le_of_eq gg5.symm))
  have ne_bc__b5 : bc_ ≠ b5 := Nat.ne_of_lt (Nat.lt_of_lt_of_le (V_bc_.ext E2).lt (Nat.le_of_eq gg5.symm))
  have g_b5 : n0 ≤ b5 := Nat.le_trans Z2 (Nat.le_of_eq gg5.symm)
  have sz_b5 : h0.size ≤ b5 := Nat.le_trans K2.1 (Nat.le_of_eq gg5.symm)
  have Z5 : n0 ≤ h5.size := Nat.le_trans Z2 E5.1
  have K5 : Keep h0 h5 [b_] := K2.ext E5
  have V5 : Arv Z h5 b5 k5 .int (Nat.toInt32 nn_) [(.int (0 : Int32)), (.int (0 : Int32)), (.int (0 : Int32)), (.int (0 : Int32))] (.int (0 : Int32)) := (Arv.new A5 (own_nn hNN)).pad (pad_rep [] (.int (0 : Int32)) 4)
  refine own_via st5 ?_
  show own_Go p e below s _ _ _ (T5.setTop (mkF m 13 #[.val (.ref a), .val (.ref b_), .val (.ref b2), .unset, .unset] [(.ref b5)]))
  refine own_via (fun _ k => XS.astoreN X5.here hx rfl (hb hby d4_13) rfl rfl (l' := #[.val (.ref a), .val (.ref b_), .val (.ref b2), .val (.ref b5), .unset]) rfl k) ?_
  show own_Go p e below s _ _ _ (T5.setTop (mkF m 14 #[.val (.ref a), .val (.ref b_), .val (.ref b2), .val (.ref b5), .unset] []))
  obtain ⟨C900, hC0⟩ : ∃ S, S = own_cz := ⟨_, rfl⟩
  have hm0 : C900.length = 4 := by rw [hC0]; rfl
  have VSC : Arv Z h5 b5 k5 .int (Nat.toInt32 nn_) (C900.map Value.int) (.int (0 : Int32)) := (by rw [hC0]; exact V5)
  refine own_via (fun _ k => XS.iconst X5.here hx rfl (hb hby d4_14) k) ?_
  show own_Go p e below s _ _ _ (T5.setTop (mkF m 15 #[.val (.ref a), .val (.ref b_), .val (.ref b2), .val (.ref b5), .unset] [(.int (0 : Int32))]))
  refine own_via (fun _ k => XS.istore X5.here hx rfl (hb hby d4_15) rfl (l' := #[.val (.ref a), .val (.ref b_), .val (.ref b2), .val (.ref b5), .val (.int (0 : Int32))]) rfl k) ?_
  show own_Go p e below s _ _ _ (T5.setTop (mkF m 17 #[.val (.ref a), .val (.ref b_), .val (.ref b2), .val (.ref b5), .val (.int (0 : Int32))] []))
  refine own_via (fun _ k => XS.iload X5.here hx rfl (hb hby d4_17) rfl k) ?_
  show own_Go p e below s _ _ _ (T5.setTop (mkF m 19 #[.val (.ref a), .val (.ref b_), .val (.ref b2), .val (.ref b5), .val (.int (0 : Int32))] [(.int (0 : Int32))]))
  refine own_via (fun _ k => XS.aloadN X5.here hx rfl (hb hby d4_19) rfl rfl k) ?_
  show own_Go p e below s _ _ _ (T5.setTop (mkF m 20 #[.val (.ref a), .val (.ref b_), .val (.ref b2), .val (.ref b5), .val (.int (0 : Int32))] [(.ref b_), (.int (0 : Int32))]))
  have F7 := ((V_b_.ext E2).ext E5)
  obtain ⟨cl6, Ar6, q6, S6, M6, H6, G6⟩ := (id F7)
  refine own_via (fun _ k => X5.arraylength hx (by rw [e5]; exact Ar6.1) (State.isArrayOf_alike hZ.alike Ar6.2.1) (g := (mkF m 20 #[.val (.ref a), .val (.ref b_), .val (.ref b2), .val (.ref b5), .val (.int (0 : Int32))] [(.ref b_), (.int (0 : Int32))])) rfl rfl (hb hby d4_20) _ (by rw [len_of S6 M6]; exact k)) ?_
  show own_Go p e below s _ _ _ (T5.setTop (mkF m 21 #[.val (.ref a), .val (.ref b_), .val (.ref b2), .val (.ref b5), .val (.int (0 : Int32))] [(.int (4 : Int32)), (.int (0 : Int32))]))
  refine own_via (fun _ k => XS.icmpNo X5.here hx rfl (hb hby d4_21) rfl (Jvm.Free.XT.ii_ge_f (by decide)) k) ?_
  show own_Go p e below s _ _ _ (T5.setTop (mkF m 24 #[.val (.ref a), .val (.ref b_), .val (.ref b2), .val (.ref b5), .val (.int (0 : Int32))] []))
  refine own_via (fun _ k => XS.aloadN X5.here hx rfl (hb hby d4_24) rfl rfl k) ?_
  show own_Go p e below s _ _ _ (T5.setTop (mkF m 25 #[.val (.ref a), .val (.ref b_), .val (.ref b2), .val (.ref b5), .val (.int (0 : Int32))] [(.ref b2)]))
  refine own_via (fun _ k => XS.aloadN X5.here hx rfl (hb hby d4_25) rfl rfl k) ?_
  show own_Go p e below s _ _ _ (T5.setTop (mkF m 26 #[.val (.ref a), .val (.ref b_), .val (.ref b2), .val (.ref b5), .val (.int (0 : Int32))] [(.ref a), (.ref b2)]))
  have F8 := ((F_classOf_a.ext E2).ext E5)
  obtain ⟨T9, X9, e9, st9⟩ := getF X5 hx hZ hown (host := "") (Or.inl (hw _ (List.mem_of_getElem? (i := 16) rfl))) Via.refl e5 F8 (g := (mkF m 26 #[.val (.ref a), .val (.ref b_), .val (.ref b2), .val (.ref b5), .val (.int (0 : Int32))] [(.ref a), (.ref b2)])) rfl rfl (hb hby d4_26)
  refine own_via st9 ?_
  show own_Go p e below s _ _ _ (T9.setTop (mkF m 29 #[.val (.ref a), .val (.ref b_), .val (.ref b2), .val (.ref b5), .val (.int (0 : Int32))] [(.ref bc_), (.ref b2)]))
  refine own_via (fun _ k => XS.iload X9.here hx rfl (hb hby d4_29) rfl k) ?_
  show own_Go p e below s _ _ _ (T9.setTop (mkF m 31 #[.val (.ref a), .val (.ref b_), .val (.ref b2), .val (.ref b5), .val (.int (0 : Int32))] [(.int (0 : Int32)), (.ref bc_), (.ref b2)]))
  have F11 := ((V_bc_.ext E2).ext E5)
  obtain ⟨cl10, Ar10, q10, S10, M10, H10, G10⟩ := (id F11)
  have hin10 : ¬ ((0 : Int32) < 0 ∨ cl10.slots.size ≤ ((0 : Int32)).toNatClampNeg) := inb_of S10 ⟨by decide, by decide⟩
  have hat10 : cl10.slots[((0 : Int32)).toNatClampNeg]? = some (.int (Nat.toInt32 e0_)) := Has.at H10 hin10 rfl
  refine own_via (fun _ k => X9.iaload hx (j := (0 : Int32)) (v := (.int (Nat.toInt32 e0_))) (by rw [e9]; exact Ar10.1) (State.isArrayOf_alike hZ.alike Ar10.2.1) Ar10.2.2 hin10 hat10 (g := (mkF m 31 #[.val (.ref a), .val (.ref b_), .val (.ref b2), .val (.ref b5), .val (.int (0 : Int32))] [(.int (0 : Int32)), (.ref bc_), (.ref b2)])) rfl rfl (hb hby d4_31) _ k) ?_
  show own_Go p e below s _ _ _ (T9.setTop (mkF m 32 #[.val (.ref a), .val (.ref b_), .val (.ref b2), .val (.ref b5), .val (.int (0 : Int32))] [(.int (Nat.toInt32 e0_)), (.ref b2)]))
  refine own_via (fun _ k => Jvm.Free.XT.dup2 X9.here hx rfl (hb hby d4_32) rfl rfl rfl k) ?_
  show own_Go p e below s _ _ _ (T9.setTop (mkF m 33 #[.val (.ref a), .val (.ref b_), .val (.ref b2), .val (.ref b5), .val (.int (0 : Int32))] [(.int (Nat.toInt32 e0_)), (.ref b2), (.int (Nat.toInt32 e0_)), (.ref b2)]))
  have F13 := (VSD.ext E5)
  obtain ⟨cl12, Ar12, q12, S12, M12, H12, G12⟩ := (id F13)
  have hin12 : ¬ ((Nat.toInt32 e0_) < 0 ∨ cl12.slots.size ≤ ((Nat.toInt32 e0_)).toNatClampNeg) := inb_of S12 ⟨own_nn ha0, (own_ltn hNN ha0).mpr hp9⟩
  have hat12 : cl12.slots[((Nat.toInt32 e0_)).toNatClampNeg]? = some (.double (own_gd S900 e0_)) := Has.at H12 hin12 (own_gdm _ ha0)
  refine own_via (fun _ k => X9.daload hx (j := (Nat.toInt32 e0_)) (v := (.double (own_gd S900 e0_))) (by rw [e9]; exact Ar12.1) (State.isArrayOf_alike hZ.alike Ar12.2.1) Ar12.2.2 hin12 hat12 (g := (mkF m 33 #[.val (.ref a), .val (.ref b_), .val (.ref b2), .val (.ref b5), .val (.int (0 : Int32))] [(.int (Nat.toInt32 e0_)), (.ref b2), (.int (Nat.toInt32 e0_)), (.ref b2)])) rfl rfl (hb hby d4_33) _ k) ?_
  show own_Go p e below s _ _ _ (T9.setTop (mkF m 34 #[.val (.ref a), .val (.ref b_), .val (.ref b2), .val (.ref b5), .val (.int (0 : Int32))] [(.double (own_gd S900 e0_)), (.int (Nat.toInt32 e0_)), (.ref b2)]))
  refine own_via (fun _ k => XS.aloadN X9.here hx rfl (hb hby d4_34) rfl rfl k) ?_
  show own_Go p e below s _ _ _ (T9.setTop (mkF m 35 #[.val (.ref a), .val (.ref b_), .val (.ref b2), .val (.ref b5), .val (.int (0 : Int32))] [(.ref b_), (.double (own_gd S900 e0_)), (.int (Nat.toInt32 e0_)), (.ref b2)]))
  refine own_via (fun _ k => XS.iload X9.here hx rfl (hb hby d4_35) rfl k) ?_
  show own_Go p e below s _ _ _ (T9.setTop (mkF m 37 #[.val (.ref a), .val (.ref b_), .val (.ref b2), .val (.ref b5), .val (.int (0 : Int32))] [(.int (0 : Int32)), (.ref b_), (.double (own_gd S900 e0_)), (.int (Nat.toInt32 e0_)), (.ref b2)]))
  obtain ⟨cl14, Ar14, q14, S14, M14, H14, G14⟩ := (id F7)
  have hin14 : ¬ ((0 : Int32) < 0 ∨ cl14.slots.size ≤ ((0 : Int32)).toNatClampNeg) := inb_of S14 ⟨by decide, by decide⟩
  have hat14 : cl14.slots[((0 : Int32)).toNatClampNeg]? = some (.double x0_) := Has.at H14 hin14 rfl
  refine own_via (fun _ k => X9.daload hx (j := (0 : Int32)) (v := (.double x0_)) (by rw [e9]; exact Ar14.1) (State.isArrayOf_alike hZ.alike Ar14.2.1) Ar14.2.2 hin14 hat14 (g := (mkF m 37 #[.val (.ref a), .val (.ref b_), .val (.ref b2), .val (.ref b5), .val (.int (0 : Int32))] [(.int (0 : Int32)), (.ref b_), (.double (own_gd S900 e0_)), (.int (Nat.toInt32 e0_)), (.ref b2)])) rfl rfl (hb hby d4_37) _ k) ?_
  show own_Go p e below s _ _ _ (T9.setTop (mkF m 38 #[.val (.ref a), .val (.ref b_), .val (.ref b2), .val (.ref b5), .val (.int (0 : Int32))] [(.double x0_), (.double (own_gd S900 e0_)), (.int (Nat.toInt32 e0_)), (.ref b2)]))
  refine own_via (fun _ k => XS.daddS X9.here hx rfl (hb hby d4_38) rfl (Jvm.Free.Fl.dadd_out (hn0 _) hp13) rfl k) ?_
  show own_Go p e below s _ _ _ (T9.setTop (mkF m 39 #[.val (.ref a), .val (.ref b_), .val (.ref b2), .val (.ref b5), .val (.int (0 : Int32))] [(.double (FP.dadd (own_gd S900 e0_) x0_)), (.int (Nat.toInt32 e0_)), (.ref b2)]))
  obtain ⟨cl15, Ar15, q15, S15, M15, H15, G15⟩ := (id F13)
  have hin15 : ¬ ((Nat.toInt32 e0_) < 0 ∨ cl15.slots.size ≤ ((Nat.toInt32 e0_)).toNatClampNeg) := inb_of S15 ⟨own_nn ha0, (own_ltn hNN ha0).mpr hp9⟩
  obtain ⟨T15, h15, X15, e15, W15, st15⟩ := stD X9 hx hZ e9 Ar15 (j := (Nat.toInt32 e0_)) hin15 (g := (mkF m 39 #[.val (.ref a), .val (.ref b_), .val (.ref b2), .val (.ref b5), .val (.int (0 : Int32))] [(.double (FP.dadd (own_gd S900 e0_) x0_)), (.int (Nat.toInt32 e0_)), (.ref b2)])) rfl rfl (hb hby d4_39)
  obtain ⟨S901, hS1⟩ : ∃ S, S = own_ad S900 e0_ x0_ := ⟨_, rfl⟩
  have hl1 : S901.length = 4 := by rw [hS1]; exact own_ad4 hl0
  have hn1 : ∀ f, own_NN (own_gd S901 f) := by rw [hS1]; exact own_nns hn0 hp13 (own_lt4 hl0 hb0)
  have V15 : Arv Z h15 b2 k2 .double (Nat.toInt32 nn_) (S901.map Value.double) (.double (0 : UInt64)) := (by rw [hS1, own_ad_map]; exact Arv.set Ar15 q15 S15 M15 H15 G15 rfl W15 e0_ (own_nc ha0) (own_lt4m hl0 hb0))
  have N15 := Fr.snoc X15 N0 g_b2
  have Z15 : n0 ≤ h15.size := Nat.le_trans Z5 (Keep.of_wr W15).1
  have K15 : Keep h0 h15 [b_] := K5.wr W15 (Or.inr sz_b2)
  refine own_via st15 ?_
  show own_Go p e below s _ _ _ (T15.setTop (mkF m 40 #[.val (.ref a), .val (.ref b_), .val (.ref b2), .val (.ref b5), .val (.int (0 : Int32))] []))
  refine own_via (fun _ k => XS.aloadN X15.here hx rfl (hb hby d4_40) rfl rfl k) ?_
  show own_Go p e below s _ _ _ (T15.setTop (mkF m 41 #[.val (.ref a), .val (.ref b_), .val (.ref b2), .val (.ref b5), .val (.int (0 : Int32))] [(.ref b5)]))
  refine own_via (fun _ k => XS.aloadN X15.here hx rfl (hb hby d4_41) rfl rfl k) ?_
  show own_Go p e below s _ _ _ (T15.setTop (mkF m 42 #[.val (.ref a), .val (.ref b_), .val (.ref b2), .val (.ref b5), .val (.int (0 : Int32))] [(.ref a), (.ref b5)]))
  have F16 := (F8.other W15 (Or.inl ne_a_b2))
  obtain ⟨T17, X17, e17, st17⟩ := getF X15 hx hZ hown (host := "") (Or.inl (hw _ (List.mem_of_getElem? (i := 16) rfl))) Via.refl e15 F16 (g := (mkF m 42 #[.val (.ref a), .val (.ref b_), .val (.ref b2), .val (.ref b5), .val (.int (0 : Int32))] [(.ref a), (.ref b5)])) rfl rfl (hb hby d4_42)
  refine own_via st17 ?_
  show own_Go p e below s _ _ _ (T17.setTop (mkF m 45 #[.val (.ref a), .val (.ref b_), .val (.ref b2), .val (.ref b5), .val (.int (0 : Int32))] [(.ref bc_), (.ref b5)]))
  refine own_via (fun _ k => XS.iload X17.here hx rfl (hb hby d4_45) rfl k) ?_
  show own_Go p e below s _ _ _ (T17.setTop (mkF m 47 #[.val (.ref a), .val (.ref b_), .val (.ref b2), .val (.ref b5), .val (.int (0 : Int32))] [(.int (0 : Int32)), (.ref bc_), (.ref b5)]))
  have F19 := (F11.other W15 ne_bc__b2)
  obtain ⟨cl18, Ar18, q18, S18, M18, H18, G18⟩ := (id F19)
  have hin18 : ¬ ((0 : Int32) < 0 ∨ cl18.slots.size ≤ ((0 : Int32)).toNatClampNeg) := inb_of S18 ⟨by decide, by decide⟩
  have hat18 : cl18.slots[((0 : Int32)).toNatClampNeg]? = some (.int (Nat.toInt32 e0_)) := Has.at H18 hin18 rfl
  refine own_via (fun _ k => X17.iaload hx (j := (0 : Int32)) (v := (.int (Nat.toInt32 e0_))) (by rw [e17]; exact Ar18.1) (State.isArrayOf_alike hZ.alike Ar18.2.1) Ar18.2.2 hin18 hat18 (g := (mkF m 47 #[.val (.ref a), .val (.ref b_), .val (.ref b2), .val (.ref b5), .val (.int (0 : Int32))] [(.int (0 : Int32)), (.ref bc_), (.ref b5)])) rfl rfl (hb hby d4_47) _ k) ?_
  show own_Go p e below s _ _ _ (T17.setTop (mkF m 48 #[.val (.ref a), .val (.ref b_), .val (.ref b2), .val (.ref b5), .val (.int (0 : Int32))] [(.int (Nat.toInt32 e0_)), (.ref b5)]))
  refine own_via (fun _ k => Jvm.Free.XT.dup2 X17.here hx rfl (hb hby d4_48) rfl rfl rfl k) ?_
  show own_Go p e below s _ _ _ (T17.setTop (mkF m 49 #[.val (.ref a), .val (.ref b_), .val (.ref b2), .val (.ref b5), .val (.int (0 : Int32))] [(.int (Nat.toInt32 e0_)), (.ref b5), (.int (Nat.toInt32 e0_)), (.ref b5)]))
  have F21 := (VSC.other W15 (Ne.symm ne_b2_b5))
  obtain ⟨cl20, Ar20, q20, S20, M20, H20, G20⟩ := (id F21)
  have hin20 : ¬ ((Nat.toInt32 e0_) < 0 ∨ cl20.slots.size ≤ ((Nat.toInt32 e0_)).toNatClampNeg) := inb_of S20 ⟨own_nn ha0, (own_ltn hNN ha0).mpr hp9⟩
  have hat20 : cl20.slots[((Nat.toInt32 e0_)).toNatClampNeg]? = some (.int (own_gi C900 e0_)) := Has.at H20 hin20 (own_gim _ ha0)
  refine own_via (fun _ k => X17.iaload hx (j := (Nat.toInt32 e0_)) (v := (.int (own_gi C900 e0_))) (by rw [e17]; exact Ar20.1) (State.isArrayOf_alike hZ.alike Ar20.2.1) Ar20.2.2 hin20 hat20 (g := (mkF m 49 #[.val (.ref a), .val (.ref b_), .val (.ref b2), .val (.ref b5), .val (.int (0 : Int32))] [(.int (Nat.toInt32 e0_)), (.ref b5), (.int (Nat.toInt32 e0_)), (.ref b5)])) rfl rfl (hb hby d4_49) _ k) ?_
  show own_Go p e below s _ _ _ (T17.setTop (mkF m 50 #[.val (.ref a), .val (.ref b_), .val (.ref b2), .val (.ref b5), .val (.int (0 : Int32))] [(.int (own_gi C900 e0_)), (.int (Nat.toInt32 e0_)), (.ref b5)]))
  refine own_via (fun _ k => XS.iconst X17.here hx rfl (hb hby d4_50) k) ?_
  show own_Go p e below s _ _ _ (T17.setTop (mkF m 51 #[.val (.ref a), .val (.ref b_), .val (.ref b2), .val (.ref b5), .val (.int (0 : Int32))] [(.int (1 : Int32)), (.int (own_gi C900 e0_)), (.int (Nat.toInt32 e0_)), (.ref b5)]))
  refine own_via (fun _ k => XS.iadd X17.here hx rfl (hb hby d4_51) rfl k) ?_
  show own_Go p e below s _ _ _ (T17.setTop (mkF m 52 #[.val (.ref a), .val (.ref b_), .val (.ref b2), .val (.ref b5), .val (.int (0 : Int32))] [(.int ((own_gi C900 e0_) + (1 : Int32))), (.int (Nat.toInt32 e0_)), (.ref b5)]))
  obtain ⟨cl22, Ar22, q22, S22, M22, H22, G22⟩ := (id F21)
  have hin22 : ¬ ((Nat.toInt32 e0_) < 0 ∨ cl22.slots.size ≤ ((Nat.toInt32 e0_)).toNatClampNeg) := inb_of S22 ⟨own_nn ha0, (own_ltn hNN ha0).mpr hp9⟩
  obtain ⟨T22, h22, X22, e22, W22, st22⟩ := stI X17 hx hZ e17 Ar22 (j := (Nat.toInt32 e0_)) hin22 (g := (mkF m 52 #[.val (.ref a), .val (.ref b_), .val (.ref b2), .val (.ref b5), .val (.int (0 : Int32))] [(.int ((own_gi C900 e0_) + (1 : Int32))), (.int (Nat.toInt32 e0_)), (.ref b5)])) rfl rfl (hb hby d4_52)
  obtain ⟨C901, hC1⟩ : ∃ S, S = own_ac C900 e0_ := ⟨_, rfl⟩
  have hm1 : C901.length = 4 := by rw [hC1]; exact own_ac4 hm0
  have V22 : Arv Z h22 b5 k5 .int (Nat.toInt32 nn_) (C901.map Value.int) (.int (0 : Int32)) := (by rw [hC1, own_ac_map]; exact Arv.set Ar22 q22 S22 M22 H22 G22 rfl W22 e0_ (own_nc ha0) (own_lt4m hm0 hb0))
  have N22 := Fr.snoc X22 N15 g_b5
  have Z22 : n0 ≤ h22.size := Nat.le_trans Z15 (Keep.of_wr W22).1
  have K22 : Keep h0 h22 [b_] := K15.wr W22 (Or.inr sz_b5)
  refine own_via st22 ?_
  show own_Go p e below s _ _ _ (T22.setTop (mkF m 53 #[.val (.ref a), .val (.ref b_), .val (.ref b2), .val (.ref b5), .val (.int (0 : Int32))] []))
  refine own_via (fun _ k => XS.iinc X22.here hx rfl (hb hby d4_53) rfl (l' := #[.val (.ref a), .val (.ref b_), .val (.ref b2), .val (.ref b5), .val (.int (1 : Int32))]) rfl k) ?_
  show own_Go p e below s _ _ _ (T22.setTop (mkF m 56 #[.val (.ref a), .val (.ref b_), .val (.ref b2), .val (.ref b5), .val (.int (1 : Int32))] []))
  refine own_via (fun _ k => XS.goto X22.here hx rfl (pc0 := 56) (pc' := 17) rfl (hb hby d4_56) (by decide) (by decide) k) ?_
  show own_Go p e below s _ _ _ (T22.setTop (mkF m 17 #[.val (.ref a), .val (.ref b_), .val (.ref b2), .val (.ref b5), .val (.int (1 : Int32))] []))
  refine own_via (fun _ k => XS.iload X22.here hx rfl (hb hby d4_17) rfl k) ?_
  show own_Go p e below s _ _ _ (T22.setTop (mkF m 19 #[.val (.ref a), .val (.ref b_), .val (.ref b2), .val (.ref b5), .val (.int (1 : Int32))] [(.int (1 : Int32))]))
  refine own_via (fun _ k => XS.aloadN X22.here hx rfl (hb hby d4_19) rfl rfl k) ?_
  show own_Go p e below s _ _ _ (T22.setTop (mkF m 20 #[.val (.ref a), .val (.ref b_), .val (.ref b2), .val (.ref b5), .val (.int (1 : Int32))] [(.ref b_), (.int (1 : Int32))]))
  have F24 := ((F7.other W15 ne_b__b2).other W22 ne_b__b5)
  obtain ⟨cl23, Ar23, q23, S23, M23, H23, G23⟩ := (id F24)
  refine own_via (fun _ k => X22.arraylength hx (by rw [e22]; exact Ar23.1) (State.isArrayOf_alike hZ.alike Ar23.2.1) (g := (mkF m 20 #[.val (.ref a), .val (.ref b_), .val (.ref b2), .val (.ref b5), .val (.int (1 : Int32))] [(.ref b_), (.int (1 : Int32))])) rfl rfl (hb hby d4_20) _ (by rw [len_of S23 M23]; exact k)) ?_
  show own_Go p e below s _ _ _ (T22.setTop (mkF m 21 #[.val (.ref a), .val (.ref b_), .val (.ref b2), .val (.ref b5), .val (.int (1 : Int32))] [(.int (4 : Int32)), (.int (1 : Int32))]))
  refine own_via (fun _ k => XS.icmpNo X22.here hx rfl (hb hby d4_21) rfl (Jvm.Free.XT.ii_ge_f (by decide)) k) ?_
  show own_Go p e below s _ _ _ (T22.setTop (mkF m 24 #[.val (.ref a), .val (.ref b_), .val (.ref b2), .val (.ref b5), .val (.int (1 : Int32))] []))
  refine own_via (fun _ k => XS.aloadN X22.here hx rfl (hb hby d4_24) rfl rfl k) ?_
  show own_Go p e below s _ _ _ (T22.setTop (mkF m 25 #[.val (.ref a), .val (.ref b_), .val (.ref b2), .val (.ref b5), .val (.int (1 : Int32))] [(.ref b2)]))
  refine own_via (fun _ k => XS.aloadN X22.here hx rfl (hb hby d4_25) rfl rfl k) ?_
  show own_Go p e below s _ _ _ (T22.setTop (mkF m 26 #[.val (.ref a), .val (.ref b_), .val (.ref b2), .val (.ref b5), .val (.int (1 : Int32))] [(.ref a), (.ref b2)]))
  have F25 := (F16.other W22 (Or.inl ne_a_b5))
  obtain ⟨T26, X26, e26, st26⟩ := getF X22 hx hZ hown (host := "") (Or.inl (hw _ (List.mem_of_getElem? (i := 16) rfl))) Via.refl e22 F25 (g := (mkF m 26 #[.val (.ref a), .val (.ref b_), .val (.ref b2), .val (.ref b5), .val (.int (1 : Int32))] [(.ref a), (.ref b2)])) rfl rfl (hb hby d4_26)
  refine own_via st26 ?_
  show own_Go p e below s _ _ _ (T26.setTop (mkF m 29 #[.val (.ref a), .val (.ref b_), .val (.ref b2), .val (.ref b5), .val (.int (1 : Int32))] [(.ref bc_), (.ref b2)]))
  refine own_via (fun _ k => XS.iload X26.here hx rfl (hb hby d4_29) rfl k) ?_
  show own_Go p e below s _ _ _ (T26.setTop (mkF m 31 #[.val (.ref a), .val (.ref b_), .val (.ref b2), .val (.ref b5), .val (.int (1 : Int32))] [(.int (1 : Int32)), (.ref bc_), (.ref b2)]))
  have F28 := (F19.other W22 ne_bc__b5)
  obtain ⟨cl27, Ar27, q27, S27, M27, H27, G27⟩ := (id F28)
  have hin27 : ¬ ((1 : Int32) < 0 ∨ cl27.slots.size ≤ ((1 : Int32)).toNatClampNeg) := inb_of S27 ⟨by decide, by decide⟩
  have hat27 : cl27.slots[((1 : Int32)).toNatClampNeg]? = some (.int (Nat.toInt32 e1_)) := Has.at H27 hin27 rfl
  refine own_via (fun _ k => X26.iaload hx (j := (1 : Int32)) (v := (.int (Nat.toInt32 e1_))) (by rw [e26]; exact Ar27.1) (State.isArrayOf_alike hZ.alike Ar27.2.1) Ar27.2.2 hin27 hat27 (g := (mkF m 31 #[.val (.ref a), .val (.ref b_), .val (.ref b2), .val (.ref b5), .val (.int (1 : Int32))] [(.int (1 : Int32)), (.ref bc_), (.ref b2)])) rfl rfl (hb hby d4_31) _ k) ?_
  show own_Go p e below s _ _ _ (T26.setTop (mkF m 32 #[.val (.ref a), .val (.ref b_), .val (.ref b2), .val (.ref b5), .val (.int (1 : Int32))] [(.int (Nat.toInt32 e1_)), (.ref b2)]))
  refine own_via (fun _ k => Jvm.Free.XT.dup2 X26.here hx rfl (hb hby d4_32) rfl rfl rfl k) ?_
  show own_Go p e below s _ _ _ (T26.setTop (mkF m 33 #[.val (.ref a), .val (.ref b_), .val (.ref b2), .val (.ref b5), .val (.int (1 : Int32))] [(.int (Nat.toInt32 e1_)), (.ref b2), (.int (Nat.toInt32 e1_)), (.ref b2)]))
  have F30 := (V15.other W22 ne_b2_b5)
  obtain ⟨cl29, Ar29, q29, S29, M29, H29, G29⟩ := (id F30)
  have hin29 : ¬ ((Nat.toInt32 e1_) < 0 ∨ cl29.slots.size ≤ ((Nat.toInt32 e1_)).toNatClampNeg) := inb_of S29 ⟨own_nn ha1, (own_ltn hNN ha1).mpr hp10⟩
  have hat29 : cl29.slots[((Nat.toInt32 e1_)).toNatClampNeg]? = some (.double (own_gd S901 e1_)) := Has.at H29 hin29 (own_gdm _ ha1)
  refine own_via (fun _ k => X26.daload hx (j := (Nat.toInt32 e1_)) (v := (.double (own_gd S901 e1_))) (by rw [e26]; exact Ar29.1) (State.isArrayOf_alike hZ.alike Ar29.2.1) Ar29.2.2 hin29 hat29 (g := (mkF m 33 #[.val (.ref a), .val (.ref b_), .val (.ref b2), .val (.ref b5), .val (.int (1 : Int32))] [(.int (Nat.toInt32 e1_)), (.ref b2), (.int (Nat.toInt32 e1_)), (.ref b2)])) rfl rfl (hb hby d4_33) _ k) ?_
  show own_Go p e below s _ _ _ (T26.setTop (mkF m 34 #[.val (.ref a), .val (.ref b_), .val (.ref b2), .val (.ref b5), .val (.int (1 : Int32))] [(.double (own_gd S901 e1_)), (.int (Nat.toInt32 e1_)), (.ref b2)]))
  refine own_via (fun _ k => XS.aloadN X26.here hx rfl (hb hby d4_34) rfl rfl k) ?_
  show own_Go p e below s _ _ _ (T26.setTop (mkF m 35 #[.val (.ref a), .val (.ref b_), .val (.ref b2), .val (.ref b5), .val (.int (1 : Int32))] [(.ref b_), (.double (own_gd S901 e1_)), (.int (Nat.toInt32 e1_)), (.ref b2)]))
  refine own_via (fun _ k => XS.iload X26.here hx rfl (hb hby d4_35) rfl k) ?_
  show own_Go p e below s _ _ _ (T26.setTop (mkF m 37 #[.val (.ref a), .val (.ref b_), .val (.ref b2), .val (.ref b5), .val (.int (1 : Int32))] [(.int (1 : Int32)), (.ref b_), (.double (own_gd S901 e1_)), (.int (Nat.toInt32 e1_)), (.ref b2)]))
  obtain ⟨cl31, Ar31, q31, S31, M31, H31, G31⟩ := (id F24)
  have hin31 : ¬ ((1 : Int32) < 0 ∨ cl31.slots.size ≤ ((1 : Int32)).toNatClampNeg) := inb_of S31 ⟨by decide, by decide⟩
  have hat31 : cl31.slots[((1 : Int32)).toNatClampNeg]? = some (.double x1_) := Has.at H31 hin31 rfl
  refine own_via (fun _ k => X26.daload hx (j := (1 : Int32)) (v := (.double x1_)) (by rw [e26]; exact Ar31.1) (State.isArrayOf_alike hZ.alike Ar31.2.1) Ar31.2.2 hin31 hat31 (g := (mkF m 37 #[.val (.ref a), .val (.ref b_), .val (.ref b2), .val (.ref b5), .val (.int (1 : Int32))] [(.int (1 : Int32)), (.ref b_), (.double (own_gd S901 e1_)), (.int (Nat.toInt32 e1_)), (.ref b2)])) rfl rfl (hb hby d4_37) _ k) ?_
  show own_Go p e below s _ _ _ (T26.setTop (mkF m 38 #[.val (.ref a), .val (.ref b_), .val (.ref b2), .val (.ref b5), .val (.int (1 : Int32))] [(.double x1_), (.double (own_gd S901 e1_)), (.int (Nat.toInt32 e1_)), (.ref b2)]))
  refine own_via (fun _ k => XS.daddS X26.here hx rfl (hb hby d4_38) rfl (Jvm.Free.Fl.dadd_out (hn1 _) hp14) rfl k) ?_
  show own_Go p e below s _ _ _ (T26.setTop (mkF m 39 #[.val (.ref a), .val (.ref b_), .val (.ref b2), .val (.ref b5), .val (.int (1 : Int32))] [(.double (FP.dadd (own_gd S901 e1_) x1_)), (.int (Nat.toInt32 e1_)), (.ref b2)]))
  obtain ⟨cl32, Ar32, q32, S32, M32, H32, G32⟩ := (id F30)
  have hin32 : ¬ ((Nat.toInt32 e1_) < 0 ∨ cl32.slots.size ≤ ((Nat.toInt32 e1_)).toNatClampNeg) := inb_of S32 ⟨own_nn ha1, (own_ltn hNN ha1).mpr hp10⟩
  obtain ⟨T32, h32, X32, e32, W32, st32⟩ := stD X26 hx hZ e26 Ar32 (j := (Nat.toInt32 e1_)) hin32 (g := (mkF m 39 #[.val (.ref a), .val (.ref b_), .val (.ref b2), .val (.ref b5), .val (.int (1 : Int32))] [(.double (FP.dadd (own_gd S901 e1_) x1_)), (.int (Nat.toInt32 e1_)), (.ref b2)])) rfl rfl (hb hby d4_39)
  obtain ⟨S902, hS2⟩ : ∃ S, S = own_ad S901 e1_ x1_ := ⟨_, rfl⟩
  have hl2 : S902.length = 4 := by rw [hS2]; exact own_ad4 hl1
  have hn2 : ∀ f, own_NN (own_gd S902 f) := by rw [hS2]; exact own_nns hn1 hp14 (own_lt4 hl1 hb1)
  have V32 : Arv Z h32 b2 k2 .double (Nat.toInt32 nn_) (S902.map Value.double) (.double (0 : UInt64)) := (by rw [hS2, own_ad_map]; exact Arv.set Ar32 q32 S32 M32 H32 G32 rfl W32 e1_ (own_nc ha1) (own_lt4m hl1 hb1))
  have N32 := Fr.snoc X32 N22 g_b2
  have Z32 : n0 ≤ h32.size := Nat.le_trans Z22 (Keep.of_wr W32).1
  have K32 : Keep h0 h32 [b_] := K22.wr W32 (Or.inr sz_b2)
  refine own_via st32 ?_
  show own_Go p e below s _ _ _ (T32.setTop (mkF m 40 #[.val (.ref a), .val (.ref b_), .val (.ref b2), .val (.ref b5), .val (.int (1 : Int32))] []))
  refine own_via (fun _ k => XS.aloadN X32.here hx rfl (hb hby d4_40) rfl rfl k) ?_
  show own_Go p e below s _ _ _ (T32.setTop (mkF m 41 #[.val (.ref a), .val (.ref b_), .val (.ref b2), .val (.ref b5), .val (.int (1 : Int32))] [(.ref b5)]))
  refine own_via (fun _ k => XS.aloadN X32.here hx rfl (hb hby d4_41) rfl rfl k) ?_
  show own_Go p e below s _ _ _ (T32.setTop (mkF m 42 #[.val (.ref a), .val (.ref b_), .val (.ref b2), .val (.ref b5), .val (.int (1 : Int32))] [(.ref a), (.ref b5)]))
  have F33 := (F25.other W32 (Or.inl ne_a_b2))
  obtain ⟨T34, X34, e34, st34⟩ := getF X32 hx hZ hown (host := "") (Or.inl (hw _ (List.mem_of_getElem? (i := 16) rfl))) Via.refl e32 F33 (g := (mkF m 42 #[.val (.ref a), .val (.ref b_), .val (.ref b2), .val (.ref b5), .val (.int (1 : Int32))] [(.ref a), (.ref b5)])) rfl rfl (hb hby d4_42)
  refine own_via st34 ?_
  show own_Go p e below s _ _ _ (T34.setTop (mkF m 45 #[.val (.ref a), .val (.ref b_), .val (.ref b2), .val (.ref b5), .val (.int (1 : Int32))] [(.ref bc_), (.ref b5)]))
  refine own_via (fun _ k => XS.iload X34.here hx rfl (hb hby d4_45) rfl k) ?_
  show own_Go p e below s _ _ _ (T34.setTop (mkF m 47 #[.val (.ref a), .val (.ref b_), .val (.ref b2), .val (.ref b5), .val (.int (1 : Int32))] [(.int (1 : Int32)), (.ref bc_), (.ref b5)]))
  have F36 := (F28.other W32 ne_bc__b2)
  obtain ⟨cl35, Ar35, q35, S35, M35, H35, G35⟩ := (id F36)
  have hin35 : ¬ ((1 : Int32) < 0 ∨ cl35.slots.size ≤ ((1 : Int32)).toNatClampNeg) := inb_of S35 ⟨by decide, by decide⟩
  have hat35 : cl35.slots[((1 : Int32)).toNatClampNeg]? = some (.int (Nat.toInt32 e1_)) := Has.at H35 hin35 rfl
  refine own_via (fun _ k => X34.iaload hx (j := (1 : Int32)) (v := (.int (Nat.toInt32 e1_))) (by rw [e34]; exact Ar35.1) (State.isArrayOf_alike hZ.alike Ar35.2.1) Ar35.2.2 hin35 hat35 (g := (mkF m 47 #[.val (.ref a), .val (.ref b_), .val (.ref b2), .val (.ref b5), .val (.int (1 : Int32))] [(.int (1 : Int32)), (.ref bc_), (.ref b5)])) rfl rfl (hb hby d4_47) _ k) ?_
  show own_Go p e below s _ _ _ (T34.setTop (mkF m 48 #[.val (.ref a), .val (.ref b_), .val (.ref b2), .val (.ref b5), .val (.int (1 : Int32))] [(.int (Nat.toInt32 e1_)), (.ref b5)]))
  refine own_via (fun _ k => Jvm.Free.XT.dup2 X34.here hx rfl (hb hby d4_48) rfl rfl rfl k) ?_
  show own_Go p e below s _ _ _ (T34.setTop (mkF m 49 #[.val (.ref a), .val (.ref b_), .val (.ref b2), .val (.ref b5), .val (.int (1 : Int32))] [(.int (Nat.toInt32 e1_)), (.ref b5), (.int (Nat.toInt32 e1_)), (.ref b5)]))
  have F38 := (V22.other W32 (Ne.symm ne_b2_b5))
  obtain ⟨cl37, Ar37, q37, S37, M37, H37, G37⟩ := (id F38)
  have hin37 : ¬ ((Nat.toInt32 e1_) < 0 ∨ cl37.slots.size ≤ ((Nat.toInt32 e1_)).toNatClampNeg) := inb_of S37 ⟨own_nn ha1, (own_ltn hNN ha1).mpr hp10⟩
  have hat37 : cl37.slots[((Nat.toInt32 e1_)).toNatClampNeg]? = some (.int (own_gi C901 e1_)) := Has.at H37 hin37 (own_gim _ ha1)
  refine own_via (fun _ k => X34.iaload hx (j := (Nat.toInt32 e1_)) (v := (.int (own_gi C901 e1_))) (by rw [e34]; exact Ar37.1) (State.isArrayOf_alike hZ.alike Ar37.2.1) Ar37.2.2 hin37 hat37 (g := (mkF m 49 #[.val (.ref a), .val (.ref b_), .val (.ref b2), .val (.ref b5), .val (.int (1 : Int32))] [(.int (Nat.toInt32 e1_)), (.ref b5), (.int (Nat.toInt32 e1_)), (.ref b5)])) rfl rfl (hb hby d4_49) _ k) ?_
  show own_Go p e below s _ _ _ (T34.setTop (mkF m 50 #[.val (.ref a), .val (.ref b_), .val (.ref b2), .val (.ref b5), .val (.int (1 : Int32))] [(.int (own_gi C901 e1_)), (.int (Nat.toInt32 e1_)), (.ref b5)]))
  refine own_via (fun _ k => XS.iconst X34.here hx rfl (hb hby d4_50) k) ?_
  show own_Go p e below s _ _ _ (T34.setTop (mkF m 51 #[.val (.ref a), .val (.ref b_), .val (.ref b2), .val (.ref b5), .val (.int (1 : Int32))] [(.int (1 : Int32)), (.int (own_gi C901 e1_)), (.int (Nat.toInt32 e1_)), (.ref b5)]))
  refine own_via (fun _ k => XS.iadd X34.here hx rfl (hb hby d4_51) rfl k) ?_
  show own_Go p e below s _ _ _ (T34.setTop (mkF m 52 #[.val (.ref a), .val (.ref b_), .val (.ref b2), .val (.ref b5), .val (.int (1 : Int32))] [(.int ((own_gi C901 e1_) + (1 : Int32))), (.int (Nat.toInt32 e1_)), (.ref b5)]))
  obtain ⟨cl39, Ar39, q39, S39, M39, H39, G39⟩ := (id F38)
  have hin39 : ¬ ((Nat.toInt32 e1_) < 0 ∨ cl39.slots.size ≤ ((Nat.toInt32 e1_)).toNatClampNeg) := inb_of S39 ⟨own_nn ha1, (own_ltn hNN ha1).mpr hp10⟩
  obtain ⟨T39, h39, X39, e39, W39, st39⟩ := stI X34 hx hZ e34 Ar39 (j := (Nat.toInt32 e1_)) hin39 (g := (mkF m 52 #[.val (.ref a), .val (.ref b_), .val (.ref b2), .val (.ref b5), .val (.int (1 : Int32))] [(.int ((own_gi C901 e1_) + (1 : Int32))), (.int (Nat.toInt32 e1_)), (.ref b5)])) rfl rfl (hb hby d4_52)
  obtain ⟨C902, hC2⟩ : ∃ S, S = own_ac C901 e1_ := ⟨_, rfl⟩
  have hm2 : C902.length = 4 := by rw [hC2]; exact own_ac4 hm1
  have V39 : Arv Z h39 b5 k5 .int (Nat.toInt32 nn_) (C902.map Value.int) (.int (0 : Int32)) := (by rw [hC2, own_ac_map]; exact Arv.set Ar39 q39 S39 M39 H39 G39 rfl W39 e1_ (own_nc ha1) (own_lt4m hm1 hb1))
  have N39 := Fr.snoc X39 N32 g_b5
  have Z39 : n0 ≤ h39.size := Nat.le_trans Z32 (Keep.of_wr W39).1
  have K39 : Keep h0 h39 [b_] := K32.wr W39 (Or.inr sz_b5)
  refine own_via st39 ?_
  show own_Go p e below s _ _ _ (T39.setTop (mkF m 53 #[.val (.ref a), .val (.ref b_), .val (.ref b2), .val (.ref b5), .val (.int (1 : Int32))] []))
  refine own_via (fun _ k => XS.iinc X39.here hx rfl (hb hby d4_53) rfl (l' := #[.val (.ref a), .val (.ref b_), .val (.ref b2), .val (.ref b5), .val (.int (2 : Int32))]) rfl k) ?_
  show own_Go p e below s _ _ _ (T39.setTop (mkF m 56 #[.val (.ref a), .val (.ref b_), .val (.ref b2), .val (.ref b5), .val (.int (2 : Int32))] []))
  refine own_via (fun _ k => XS.goto X39.here hx rfl (pc0 := 56) (pc' := 17) rfl (hb hby d4_56) (by decide) (by decide) k) ?_
  show own_Go p e below s _ _ _ (T39.setTop (mkF m 17 #[.val (.ref a), .val (.ref b_), .val (.ref b2), .val (.ref b5), .val (.int (2 : Int32))] []))
  refine own_via (fun _ k => XS.iload X39.here hx rfl (hb hby d4_17) rfl k) ?_
  show own_Go p e below s _ _ _ (T39.setTop (mkF m 19 #[.val (.ref a), .val (.ref b_), .val (.ref b2), .val (.ref b5), .val (.int (2 : Int32))] [(.int (2 : Int32))]))
  refine own_via (fun _ k => XS.aloadN X39.here hx rfl (hb hby d4_19) rfl rfl k) ?_
  show own_Go p e below s _ _ _ (T39.setTop (mkF m 20 #[.val (.ref a), .val (.ref b_), .val (.ref b2), .val (.ref b5), .val (.int (2 : Int32))] [(.ref b_), (.int (2 : Int32))]))
  have F41 := ((F24.other W32 ne_b__b2).other W39 ne_b__b5)
  obtain ⟨cl40, Ar40, q40, S40, M40, H40, G40⟩ := (id F41)
  refine own_via (fun _ k => X39.arraylength hx (by rw [e39]; exact Ar40.1) (State.isArrayOf_alike hZ.alike Ar40.2.1) (g := (mkF m 20 #[.val (.ref a), .val (.ref b_), .val (.ref b2), .val (.ref b5), .val (.int (2 : Int32))] [(.ref b_), (.int (2 : Int32))])) rfl rfl (hb hby d4_20) _ (by rw [len_of S40 M40]; exact k)) ?_
  show own_Go p e below s _ _ _ (T39.setTop (mkF m 21 #[.val (.ref a), .val (.ref b_), .val (.ref b2), .val (.ref b5), .val (.int (2 : Int32))] [(.int (4 : Int32)), (.int (2 : Int32))]))
  refine own_via (fun _ k => XS.icmpNo X39.here hx rfl (hb hby d4_21) rfl (Jvm.Free.XT.ii_ge_f (by decide)) k) ?_
  show own_Go p e below s _ _ _ (T39.setTop (mkF m 24 #[.val (.ref a), .val (.ref b_), .val (.ref b2), .val (.ref b5), .val (.int (2 : Int32))] []))
  refine own_via (fun _ k => XS.aloadN X39.here hx rfl (hb hby d4_24) rfl rfl k) ?_
  show own_Go p e below s _ _ _ (T39.setTop (mkF m 25 #[.val (.ref a), .val (.ref b_), .val (.ref b2), .val (.ref b5), .val (.int (2 : Int32))] [(.ref b2)]))
  refine own_via (fun _ k => XS.aloadN X39.here hx rfl (hb hby d4_25) rfl rfl k) ?_
  show own_Go p e below s _ _ _ (T39.setTop (mkF m 26 #[.val (.ref a), .val (.ref b_), .val (.ref b2), .val (.ref b5), .val (.int (2 : Int32))] [(.ref a), (.ref b2)]))
  have F42 := (F33.other W39 (Or.inl ne_a_b5))
  obtain ⟨T43, X43, e43, st43⟩ := getF X39 hx hZ hown (host := "") (Or.inl (hw _ (List.mem_of_getElem? (i := 16) rfl))) Via.refl e39 F42 (g := (mkF m 26 #[.val (.ref a), .val (.ref b_), .val (.ref b2), .val (.ref b5), .val (.int (2 : Int32))] [(.ref a), (.ref b2)])) rfl rfl (hb hby d4_26)
  refine own_via st43 ?_
  show own_Go p e below s _ _ _ (T43.setTop (mkF m 29 #[.val (.ref a), .val (.ref b_), .val (.ref b2), .val (.ref b5), .val (.int (2 : Int32))] [(.ref bc_), (.ref b2)]))
  refine own_via (fun _ k => XS.iload X43.here hx rfl (hb hby d4_29) rfl k) ?_
  show own_Go p e below s _ _ _ (T43.setTop (mkF m 31 #[.val (.ref a), .val (.ref b_), .val (.ref b2), .val (.ref b5), .val (.int (2 : Int32))] [(.int (2 : Int32)), (.ref bc_), (.ref b2)]))
  have F45 := (F36.other W39 ne_bc__b5)
  obtain ⟨cl44, Ar44, q44, S44, M44, H44, G44⟩ := (id F45)
  have hin44 : ¬ ((2 : Int32) < 0 ∨ cl44.slots.size ≤ ((2 : Int32)).toNatClampNeg) := inb_of S44 ⟨by decide, by decide⟩
  have hat44 : cl44.slots[((2 : Int32)).toNatClampNeg]? = some (.int (Nat.toInt32 e2_)) := Has.at H44 hin44 rfl
  refine own_via (fun _ k => X43.iaload hx (j := (2 : Int32)) (v := (.int (Nat.toInt32 e2_))) (by rw [e43]; exact Ar44.1) (State.isArrayOf_alike hZ.alike Ar44.2.1) Ar44.2.2 hin44 hat44 (g := (mkF m 31 #[.val (.ref a), .val (.ref b_), .val (.ref b2), .val (.ref b5), .val (.int (2 : Int32))] [(.int (2 : Int32)), (.ref bc_), (.ref b2)])) rfl rfl (hb hby d4_31) _ k) ?_
  show own_Go p e below s _ _ _ (T43.setTop (mkF m 32 #[.val (.ref a), .val (.ref b_), .val (.ref b2), .val (.ref b5), .val (.int (2 : Int32))] [(.int (Nat.toInt32 e2_)), (.ref b2)]))
  refine own_via (fun _ k => Jvm.Free.XT.dup2 X43.here hx rfl (hb hby d4_32) rfl rfl rfl k) ?_
  show own_Go p e below s _ _ _ (T43.setTop (mkF m 33 #[.val (.ref a), .val (.ref b_), .val (.ref b2), .val (.ref b5), .val (.int (2 : Int32))] [(.int (Nat.toInt32 e2_)), (.ref b2), (.int (Nat.toInt32 e2_)), (.ref b2)]))
  have F47 := (V32.other W39 ne_b2_b5)
  obtain ⟨cl46, Ar46, q46, S46, M46, H46, G46⟩ := (id F47)
  have hin46 : ¬ ((Nat.toInt32 e2_) < 0 ∨ cl46.slots.size ≤ ((Nat.toInt32 e2_)).toNatClampNeg) := inb_of S46 ⟨own_nn ha2, (own_ltn hNN ha2).mpr hp11⟩
  have hat46 : cl46.slots[((Nat.toInt32 e2_)).toNatClampNeg]? = some (.double (own_gd S902 e2_)) := Has.at H46 hin46 (own_gdm _ ha2)
  refine own_via (fun _ k => X43.daload hx (j := (Nat.toInt32 e2_)) (v := (.double (own_gd S902 e2_))) (by rw [e43]; exact Ar46.1) (State.isArrayOf_alike hZ.alike Ar46.2.1) Ar46.2.2 hin46 hat46 (g := (mkF m 33 #[.val (.ref a), .val (.ref b_), .val (.ref b2), .val (.ref b5), .val (.int (2 : Int32))] [(.int (Nat.toInt32 e2_)), (.ref b2), (.int (Nat.toInt32 e2_)), (.ref b2)])) rfl rfl (hb hby d4_33) _ k) ?_
  show own_Go p e below s _ _ _ (T43.setTop (mkF m 34 #[.val (.ref a), .val (.ref b_), .val (.ref b2), .val (.ref b5), .val (.int (2 : Int32))] [(.double (own_gd S902 e2_)), (.int (Nat.toInt32 e2_)), (.ref b2)]))
  refine own_via (fun _ k => XS.aloadN X43.here hx rfl (hb hby d4_34) rfl rfl k) ?_
  show own_Go p e below s _ _ _ (T43.setTop (mkF m 35 #[.val (.ref a), .val (.ref b_), .val (.ref b2), .val (.ref b5), .val (.int (2 : Int32))] [(.ref b_), (.double (own_gd S902 e2_)), (.int (Nat.toInt32 e2_)), (.ref b2)]))
  refine own_via (fun _ k => XS.iload X43.here hx rfl (hb hby d4_35) rfl k) ?_
  show own_Go p e below s _ _ _ (T43.setTop (mkF m 37 #[.val (.ref a), .val (.ref b_), .val (.ref b2), .val (.ref b5), .val (.int (2 : Int32))] [(.int (2 : Int32)), (.ref b_), (.double (own_gd S902 e2_)), (.int (Nat.toInt32 e2_)), (.ref b2)]))
  obtain ⟨cl48, Ar48, q48, S48, M48, H48, G48⟩ := (id F41)
  have hin48 : ¬ ((2 : Int32) < 0 ∨ cl48.slots.size ≤ ((2 : Int32)).toNatClampNeg) := inb_of S48 ⟨by decide, by decide⟩
  have hat48 : cl48.slots[((2 : Int32)).toNatClampNeg]? = some (.double x2_) := Has.at H48 hin48 rfl
  refine own_via (fun _ k => X43.daload hx (j := (2 : Int32)) (v := (.double x2_)) (by rw [e43]; exact Ar48.1) (State.isArrayOf_alike hZ.alike Ar48.2.1) Ar48.2.2 hin48 hat48 (g := (mkF m 37 #[.val (.ref a), .val (.ref b_), .val (.ref b2), .val (.ref b5), .val (.int (2 : Int32))] [(.int (2 : Int32)), (.ref b_), (.double (own_gd S902 e2_)), (.int (Nat.toInt32 e2_)), (.ref b2)])) rfl rfl (hb hby d4_37) _ k) ?_
  show own_Go p e below s _ _ _ (T43.setTop (mkF m 38 #[.val (.ref a), .val (.ref b_), .val (.ref b2), .val (.ref b5), .val (.int (2 : Int32))] [(.double x2_), (.double (own_gd S902 e2_)), (.int (Nat.toInt32 e2_)), (.ref b2)]))
  refine own_via (fun _ k => XS.daddS X43.here hx rfl (hb hby d4_38) rfl (Jvm.Free.Fl.dadd_out (hn2 _) hp15) rfl k) ?_
  show own_Go p e below s _ _ _ (T43.setTop (mkF m 39 #[.val (.ref a), .val (.ref b_), .val (.ref b2), .val (.ref b5), .val (.int (2 : Int32))] [(.double (FP.dadd (own_gd S902 e2_) x2_)), (.int (Nat.toInt32 e2_)), (.ref b2)]))
  obtain ⟨cl49, Ar49, q49, S49, M49, H49, G49⟩ := (id F47)
  have hin49 : ¬ ((Nat.toInt32 e2_) < 0 ∨ cl49.slots.size ≤ ((Nat.toInt32 e2_)).toNatClampNeg) := inb_of S49 ⟨own_nn ha2, (own_ltn hNN ha2).mpr hp11⟩
  obtain ⟨T49, h49, X49, e49, W49, st49⟩ := stD X43 hx hZ e43 Ar49 (j := (Nat.toInt32 e2_)) hin49 (g := (mkF m 39 #[.val (.ref a), .val (.ref b_), .val (.ref b2), .val (.ref b5), .val (.int (2 : Int32))] [(.double (FP.dadd (own_gd S902 e2_) x2_)), (.int (Nat.toInt32 e2_)), (.ref b2)])) rfl rfl (hb hby d4_39)
  obtain ⟨S903, hS3⟩ : ∃ S, S = own_ad S902 e2_ x2_ := ⟨_, rfl⟩
  have hl3 : S903.length = 4 := by rw [hS3]; exact own_ad4 hl2
  have hn3 : ∀ f, own_NN (own_gd S903 f) := by rw [hS3]; exact own_nns hn2 hp15 (own_lt4 hl2 hb2)
  have V49 : Arv Z h49 b2 k2 .double (Nat.toInt32 nn_) (S903.map Value.double) (.double (0 : UInt64)) := (by rw [hS3, own_ad_map]; exact Arv.set Ar49 q49 S49 M49 H49 G49 rfl W49 e2_ (own_nc ha2) (own_lt4m hl2 hb2))
  have N49 := Fr.snoc X49 N39 g_b2
  have Z49 : n0 ≤ h49.size := Nat.le_trans Z39 (Keep.of_wr W49).1
  have K49 : Keep h0 h49 [b_] := K39.wr W49 (Or.inr sz_b2)
  refine own_via st49 ?_
  show own_Go p e below s _ _ _ (T49.setTop (mkF m 40 #[.val (.ref a), .val (.ref b_), .val (.ref b2), .val (.ref b5), .val (.int (2 : Int32))] []))
  refine own_via (fun _ k => XS.aloadN X49.here hx rfl (hb hby d4_40) rfl rfl k) ?_
  show own_Go p e below s _ _ _ (T49.setTop (mkF m 41 #[.val (.ref a), .val (.ref b_), .val (.ref b2), .val (.ref b5), .val (.int (2 : Int32))] [(.ref b5)]))
  refine own_via (fun _ k => XS.aloadN X49.here hx rfl (hb hby d4_41) rfl rfl k) ?_
  show own_Go p e below s _ _ _ (T49.setTop (mkF m 42 #[.val (.ref a), .val (.ref b_), .val (.ref b2), .val (.ref b5), .val (.int (2 : Int32))] [(.ref a), (.ref b5)]))
  have F50 := (F42.other W49 (Or.inl ne_a_b2))
  obtain ⟨T51, X51, e51, st51⟩ := getF X49 hx hZ hown (host := "") (Or.inl (hw _ (List.mem_of_getElem? (i := 16) rfl))) Via.refl e49 F50 (g := (mkF m 42 #[.val (.ref a), .val (.ref b_), .val (.ref b2), .val (.ref b5), .val (.int (2 : Int32))] [(.ref a), (.ref b5)])) rfl rfl (hb hby d4_42)
  refine own_via st51 ?_
  show own_Go p e below s _ _ _ (T51.setTop (mkF m 45 #[.val (.ref a), .val (.ref b_), .val (.ref b2), .val (.ref b5), .val (.int (2 : Int32))] [(.ref bc_), (.ref b5)]))
  refine own_via (fun _ k => XS.iload X51.here hx rfl (hb hby d4_45) rfl k) ?_
  show own_Go p e below s _ _ _ (T51.setTop (mkF m 47 #[.val (.ref a), .val (.ref b_), .val (.ref b2), .val (.ref b5), .val (.int (2 : Int32))] [(.int (2 : Int32)), (.ref bc_), (.ref b5)]))
  have F53 := (F45.other W49 ne_bc__b2)
  obtain ⟨cl52, Ar52, q52, S52, M52, H52, G52⟩ := (id F53)
  have hin52 : ¬ ((2 : Int32) < 0 ∨ cl52.slots.size ≤ ((2 : Int32)).toNatClampNeg) := inb_of S52 ⟨by decide, by decide⟩
  have hat52 : cl52.slots[((2 : Int32)).toNatClampNeg]? = some (.int (Nat.toInt32 e2_)) := Has.at H52 hin52 rfl
  refine own_via (fun _ k => X51.iaload hx (j := (2 : Int32)) (v := (.int (Nat.toInt32 e2_))) (by rw [e51]; exact Ar52.1) (State.isArrayOf_alike hZ.alike Ar52.2.1) Ar52.2.2 hin52 hat52 (g := (mkF m 47 #[.val (.ref a), .val (.ref b_), .val (.ref b2), .val (.ref b5), .val (.int (2 : Int32))] [(.int (2 : Int32)), (.ref bc_), (.ref b5)])) rfl rfl (hb hby d4_47) _ k) ?_
  show own_Go p e below s _ _ _ (T51.setTop (mkF m 48 #[.val (.ref a), .val (.ref b_), .val (.ref b2), .val (.ref b5), .val (.int (2 : Int32))] [(.int (Nat.toInt32 e2_)), (.ref b5)]))
  refine own_via (fun _ k => Jvm.Free.XT.dup2 X51.here hx rfl (hb hby d4_48) rfl rfl rfl k) ?_
  show own_Go p e below s _ _ _ (T51.setTop (mkF m 49 #[.val (.ref a), .val (.ref b_), .val (.ref b2), .val (.ref b5), .val (.int (2 : Int32))] [(.int (Nat.toInt32 e2_)), (.ref b5), (.int (Nat.toInt32 e2_)), (.ref b5)]))
  have F55 := (V39.other W49 (Ne.symm ne_b2_b5))
  obtain ⟨cl54, Ar54, q54, S54, M54, H54, G54⟩ := (id F55)
  have hin54 : ¬ ((Nat.toInt32 e2_) < 0 ∨ cl54.slots.size ≤ ((Nat.toInt32 e2_)).toNatClampNeg) := inb_of S54 ⟨own_nn ha2, (own_ltn hNN ha2).mpr hp11⟩
  have hat54 : cl54.slots[((Nat.toInt32 e2_)).toNatClampNeg]? = some (.int (own_gi C902 e2_)) := Has.at H54 hin54 (own_gim _ ha2)
  refine own_via (fun _ k => X51.iaload hx (j := (Nat.toInt32 e2_)) (v := (.int (own_gi C902 e2_))) (by rw [e51]; exact Ar54.1) (State.isArrayOf_alike hZ.alike Ar54.2.1) Ar54.2.2 hin54 hat54 (g := (mkF m 49 #[.val (.ref a), .val (.ref b_), .val (.ref b2), .val (.ref b5), .val (.int (2 : Int32))] [(.int (Nat.toInt32 e2_)), (.ref b5), (.int (Nat.toInt32 e2_)), (.ref b5)])) rfl rfl (hb hby d4_49) _ k) ?_
  show own_Go p e below s _ _ _ (T51.setTop (mkF m 50 #[.val (.ref a), .val (.ref b_), .val (.ref b2), .val (.ref b5), .val (.int (2 : Int32))] [(.int (own_gi C902 e2_)), (.int (Nat.toInt32 e2_)), (.ref b5)]))
  refine own_via (fun _ k => XS.iconst X51.here hx rfl (hb hby d4_50) k) ?_
  show own_Go p e below s _ _ _ (T51.setTop (mkF m 51 #[.val (.ref a), .val (.ref b_), .val (.ref b2), .val (.ref b5), .val (.int (2 : Int32))] [(.int (1 : Int32)), (.int (own_gi C902 e2_)), (.int (Nat.toInt32 e2_)), (.ref b5)]))
  refine own_via (fun _ k => XS.iadd X51.here hx rfl (hb hby d4_51) rfl k) ?_
  show own_Go p e below s _ _ _ (T51.setTop (mkF m 52 #[.val (.ref a), .val (.ref b_), .val (.ref b2), .val (.ref b5), .val (.int (2 : Int32))] [(.int ((own_gi C902 e2_) + (1 : Int32))), (.int (Nat.toInt32 e2_)), (.ref b5)]))
  obtain ⟨cl56, Ar56, q56, S56, M56, H56, G56⟩ := (id F55)
  have hin56 : ¬ ((Nat.toInt32 e2_) < 0 ∨ cl56.slots.size ≤ ((Nat.toInt32 e2_)).toNatClampNeg) := inb_of S56 ⟨own_nn ha2, (own_ltn hNN ha2).mpr hp11⟩
  obtain ⟨T56, h56, X56, e56, W56, st56⟩ := stI X51 hx hZ e51 Ar56 (j := (Nat.toInt32 e2_)) hin56 (g := (mkF m 52 #[.val (.ref a), .val (.ref b_), .val (.ref b2), .val (.ref b5), .val (.int (2 : Int32))] [(.int ((own_gi C902 e2_) + (1 : Int32))), (.int (Nat.toInt32 e2_)), (.ref b5)])) rfl rfl (hb hby d4_52)
  obtain ⟨C903, hC3⟩ : ∃ S, S = own_ac C902 e2_ := ⟨_, rfl⟩
  have hm3 : C903.length = 4 := by rw [hC3]; exact own_ac4 hm2
  have V56 : Arv Z h56 b5 k5 .int (Nat.toInt32 nn_) (C903.map Value.int) (.int (0 : Int32)) := (by rw [hC3, own_ac_map]; exact Arv.set Ar56 q56 S56 M56 H56 G56 rfl W56 e2_ (own_nc ha2) (own_lt4m hm2 hb2))
  have N56 := Fr.snoc X56 N49 g_b5
  have Z56 : n0 ≤ h56.size := Nat.le_trans Z49 (Keep.of_wr W56).1
  have K56 : Keep h0 h56 [b_] := K49.wr W56 (Or.inr sz_b5)
  refine own_via st56 ?_
  show own_Go p e below s _ _ _ (T56.setTop (mkF m 53 #[.val (.ref a), .val (.ref b_), .val (.ref b2), .val (.ref b5), .val (.int (2 : Int32))] []))
  refine own_via (fun _ k => XS.iinc X56.here hx rfl (hb hby d4_53) rfl (l' := #[.val (.ref a), .val (.ref b_), .val (.ref b2), .val (.ref b5), .val (.int (3 : Int32))]) rfl k) ?_
  show own_Go p e below s _ _ _ (T56.setTop (mkF m 56 #[.val (.ref a), .val (.ref b_), .val (.ref b2), .val (.ref b5), .val (.int (3 : Int32))] []))
  refine own_via (fun _ k => XS.goto X56.here hx rfl (pc0 := 56) (pc' := 17) rfl (hb hby d4_56) (by decide) (by decide) k) ?_
  show own_Go p e below s _ _ _ (T56.setTop (mkF m 17 #[.val (.ref a), .val (.ref b_), .val (.ref b2), .val (.ref b5), .val (.int (3 : Int32))] []))
  refine own_via (fun _ k => XS.iload X56.here hx rfl (hb hby d4_17) rfl k) ?_
  show own_Go p e below s _ _ _ (T56.setTop (mkF m 19 #[.val (.ref a), .val (.ref b_), .val (.ref b2), .val (.ref b5), .val (.int (3 : Int32))] [(.int (3 : Int32))]))
  refine own_via (fun _ k => XS.aloadN X56.here hx rfl (hb hby d4_19) rfl rfl k) ?_
  show own_Go p e below s _ _ _ (T56.setTop (mkF m 20 #[.val (.ref a), .val (.ref b_), .val (.ref b2), .val (.ref b5), .val (.int (3 : Int32))] [(.ref b_), (.int (3 : Int32))]))
  have F58 := ((F41.other W49 ne_b__b2).other W56 ne_b__b5)
  obtain ⟨cl57, Ar57, q57, S57, M57, H57, G57⟩ := (id F58)
  refine own_via (fun _ k => X56.arraylength hx (by rw [e56]; exact Ar57.1) (State.isArrayOf_alike hZ.alike Ar57.2.1) (g := (mkF m 20 #[.val (.ref a), .val (.ref b_), .val (.ref b2), .val (.ref b5), .val (.int (3 : Int32))] [(.ref b_), (.int (3 : Int32))])) rfl rfl (hb hby d4_20) _ (by rw [len_of S57 M57]; exact k)) ?_
  show own_Go p e below s _ _ _ (T56.setTop (mkF m 21 #[.val (.ref a), .val (.ref b_), .val (.ref b2), .val (.ref b5), .val (.int (3 : Int32))] [(.int (4 : Int32)), (.int (3 : Int32))]))
  refine own_via (fun _ k => XS.icmpNo X56.here hx rfl (hb hby d4_21) rfl (Jvm.Free.XT.ii_ge_f (by decide)) k) ?_
  show own_Go p e below s _ _ _ (T56.setTop (mkF m 24 #[.val (.ref a), .val (.ref b_), .val (.ref b2), .val (.ref b5), .val (.int (3 : Int32))] []))
  refine own_via (fun _ k => XS.aloadN X56.here hx rfl (hb hby d4_24) rfl rfl k) ?_
  show own_Go p e below s _ _ _ (T56.setTop (mkF m 25 #[.val (.ref a), .val (.ref b_), .val (.ref b2), .val (.ref b5), .val (.int (3 : Int32))] [(.ref b2)]))
  refine own_via (fun _ k => XS.aloadN X56.here hx rfl (hb hby d4_25) rfl rfl k) ?_
  show own_Go p e below s _ _ _ (T56.setTop (mkF m 26 #[.val (.ref a), .val (.ref b_), .val (.ref b2), .val (.ref b5), .val (.int (3 : Int32))] [(.ref a), (.ref b2)]))
  have F59 := (F50.other W56 (Or.inl ne_a_b5))
  obtain ⟨T60, X60, e60, st60⟩ := getF X56 hx hZ hown (host := "") (Or.inl (hw _ (List.mem_of_getElem? (i := 16) rfl))) Via.refl e56 F59 (g := (mkF m 26 #[.val (.ref a), .val (.ref b_), .val (.ref b2), .val (.ref b5), .val (.int (3 : Int32))] [(.ref a), (.ref b2)])) rfl rfl (hb hby d4_26)
  refine own_via st60 ?_
  show own_Go p e below s _ _ _ (T60.setTop (mkF m 29 #[.val (.ref a), .val (.ref b_), .val (.ref b2), .val (.ref b5), .val (.int (3 : Int32))] [(.ref bc_), (.ref b2)]))
  refine own_via (fun _ k => XS.iload X60.here hx rfl (hb hby d4_29) rfl k) ?_
  show own_Go p e below s _ _ _ (T60.setTop (mkF m 31 #[.val (.ref a), .val (.ref b_), .val (.ref b2), .val (.ref b5), .val (.int (3 : Int32))] [(.int (3 : Int32)), (.ref bc_), (.ref b2)]))
  have F62 := (F53.other W56 ne_bc__b5)
  obtain ⟨cl61, Ar61, q61, S61, M61, H61, G61⟩ := (id F62)
  have hin61 : ¬ ((3 : Int32) < 0 ∨ cl61.slots.size ≤ ((3 : Int32)).toNatClampNeg) := inb_of S61 ⟨by decide, by decide⟩
  have hat61 : cl61.slots[((3 : Int32)).toNatClampNeg]? = some (.int (Nat.toInt32 e3_)) := Has.at H61 hin61 rfl
  refine own_via (fun _ k => X60.iaload hx (j := (3 : Int32)) (v := (.int (Nat.toInt32 e3_))) (by rw [e60]; exact Ar61.1) (State.isArrayOf_alike hZ.alike Ar61.2.1) Ar61.2.2 hin61 hat61 (g := (mkF m 31 #[.val (.ref a), .val (.ref b_), .val (.ref b2), .val (.ref b5), .val (.int (3 : Int32))] [(.int (3 : Int32)), (.ref bc_), (.ref b2)])) rfl rfl (hb hby d4_31) _ k) ?_
  show own_Go p e below s _ _ _ (T60.setTop (mkF m 32 #[.val (.ref a), .val (.ref b_), .val (.ref b2), .val (.ref b5), .val (.int (3 : Int32))] [(.int (Nat.toInt32 e3_)), (.ref b2)]))
  refine own_via (fun _ k => Jvm.Free.XT.dup2 X60.here hx rfl (hb hby d4_32) rfl rfl rfl k) ?_
  show own_Go p e below s _ _ _ (T60.setTop (mkF m 33 #[.val (.ref a), .val (.ref b_), .val (.ref b2), .val (.ref b5), .val (.int (3 : Int32))] [(.int (Nat.toInt32 e3_)), (.ref b2), (.int (Nat.toInt32 e3_)), (.ref b2)]))
  have F64 := (V49.other W56 ne_b2_b5)
  obtain ⟨cl63, Ar63, q63, S63, M63, H63, G63⟩ := (id F64)
  have hin63 : ¬ ((Nat.toInt32 e3_) < 0 ∨ cl63.slots.size ≤ ((Nat.toInt32 e3_)).toNatClampNeg) := inb_of S63 ⟨own_nn ha3, (own_ltn hNN ha3).mpr hp12⟩
  have hat63 : cl63.slots[((Nat.toInt32 e3_)).toNatClampNeg]? = some (.double (own_gd S903 e3_)) := Has.at H63 hin63 (own_gdm _ ha3)
  refine own_via (fun _ k => X60.daload hx (j := (Nat.toInt32 e3_)) (v := (.double (own_gd S903 e3_))) (by rw [e60]; exact Ar63.1) (State.isArrayOf_alike hZ.alike Ar63.2.1) Ar63.2.2 hin63 hat63 (g := (mkF m 33 #[.val (.ref a), .val (.ref b_), .val (.ref b2), .val (.ref b5), .val (.int (3 : Int32))] [(.int (Nat.toInt32 e3_)), (.ref b2), (.int (Nat.toInt32 e3_)), (.ref b2)])) rfl rfl (hb hby d4_33) _ k) ?_
  show own_Go p e below s _ _ _ (T60.setTop (mkF m 34 #[.val (.ref a), .val (.ref b_), .val (.ref b2), .val (.ref b5), .val (.int (3 : Int32))] [(.double (own_gd S903 e3_)), (.int (Nat.toInt32 e3_)), (.ref b2)]))
  refine own_via (fun _ k => XS.aloadN X60.here hx rfl (hb hby d4_34) rfl rfl k) ?_
  show own_Go p e below s _ _ _ (T60.setTop (mkF m 35 #[.val (.ref a), .val (.ref b_), .val (.ref b2), .val (.ref b5), .val (.int (3 : Int32))] [(.ref b_), (.double (own_gd S903 e3_)), (.int (Nat.toInt32 e3_)), (.ref b2)]))
  refine own_via (fun _ k => XS.iload X60.here hx rfl (hb hby d4_35) rfl k) ?_
  show own_Go p e below s _ _ _ (T60.setTop (mkF m 37 #[.val (.ref a), .val (.ref b_), .val (.ref b2), .val (.ref b5), .val (.int (3 : Int32))] [(.int (3 : Int32)), (.ref b_), (.double (own_gd S903 e3_)), (.int (Nat.toInt32 e3_)), (.ref b2)]))
  obtain ⟨cl65, Ar65, q65, S65, M65, H65, G65⟩ := (id F58)
  have hin65 : ¬ ((3 : Int32) < 0 ∨ cl65.slots.size ≤ ((3 : Int32)).toNatClampNeg) := inb_of S65 ⟨by decide, by decide⟩
  have hat65 : cl65.slots[((3 : Int32)).toNatClampNeg]? = some (.double x3_) := Has.at H65 hin65 rfl
  refine own_via (fun _ k => X60.daload hx (j := (3 : Int32)) (v := (.double x3_)) (by rw [e60]; exact Ar65.1) (State.isArrayOf_alike hZ.alike Ar65.2.1) Ar65.2.2 hin65 hat65 (g := (mkF m 37 #[.val (.ref a), .val (.ref b_), .val (.ref b2), .val (.ref b5), .val (.int (3 : Int32))] [(.int (3 : Int32)), (.ref b_), (.double (own_gd S903 e3_)), (.int (Nat.toInt32 e3_)), (.ref b2)])) rfl rfl (hb hby d4_37) _ k) ?_
  show own_Go p e below s _ _ _ (T60.setTop (mkF m 38 #[.val (.ref a), .val (.ref b_), .val (.ref b2), .val (.ref b5), .val (.int (3 : Int32))] [(.double x3_), (.double (own_gd S903 e3_)), (.int (Nat.toInt32 e3_)), (.ref b2)]))
  refine own_via (fun _ k => XS.daddS X60.here hx rfl (hb hby d4_38) rfl (Jvm.Free.Fl.dadd_out (hn3 _) hp16) rfl k) ?_
  show own_Go p e below s _ _ _ (T60.setTop (mkF m 39 #[.val (.ref a), .val (.ref b_), .val (.ref b2), .val (.ref b5), .val (.int (3 : Int32))] [(.double (FP.dadd (own_gd S903 e3_) x3_)), (.int (Nat.toInt32 e3_)), (.ref b2)]))
  obtain ⟨cl66, Ar66, q66, S66, M66, H66, G66⟩ := (id F64)
  have hin66 : ¬ ((Nat.toInt32 e3_) < 0 ∨ cl66.slots.size ≤ ((Nat.toInt32 e3_)).toNatClampNeg) := inb_of S66 ⟨own_nn ha3, (own_ltn hNN ha3).mpr hp12⟩
  obtain ⟨T66, h66, X66, e66, W66, st66⟩ := stD X60 hx hZ e60 Ar66 (j := (Nat.toInt32 e3_)) hin66 (g := (mkF m 39 #[.val (.ref a), .val (.ref b_), .val (.ref b2), .val (.ref b5), .val (.int (3 : Int32))] [(.double (FP.dadd (own_gd S903 e3_) x3_)), (.int (Nat.toInt32 e3_)), (.ref b2)])) rfl rfl (hb hby d4_39)
  obtain ⟨S904, hS4⟩ : ∃ S, S = own_ad S903 e3_ x3_ := ⟨_, rfl⟩
  have hl4 : S904.length = 4 := by rw [hS4]; exact own_ad4 hl3
  have hn4 : ∀ f, own_NN (own_gd S904 f) := by rw [hS4]; exact own_nns hn3 hp16 (own_lt4 hl3 hb3)
  have V66 : Arv Z h66 b2 k2 .double (Nat.toInt32 nn_) (S904.map Value.double) (.double (0 : UInt64)) := (by rw [hS4, own_ad_map]; exact Arv.set Ar66 q66 S66 M66 H66 G66 rfl W66 e3_ (own_nc ha3) (own_lt4m hl3 hb3))
  have N66 := Fr.snoc X66 N56 g_b2
  have Z66 : n0 ≤ h66.size := Nat.le_trans Z56 (Keep.of_wr W66).1
  have K66 : Keep h0 h66 [b_] := K56.wr W66 (Or.inr sz_b2)
  refine own_via st66 ?_
  show own_Go p e below s _ _ _ (T66.setTop (mkF m 40 #[.val (.ref a), .val (.ref b_), .val (.ref b2), .val (.ref b5), .val (.int (3 : Int32))] []))
  refine own_via (fun _ k => XS.aloadN X66.here hx rfl (hb hby d4_40) rfl rfl k) ?_
  show own_Go p e below s _ _ _ (T66.setTop (mkF m 41 #[.val (.ref a), .val (.ref b_), .val (.ref b2), .val (.ref b5), .val (.int (3 : Int32))] [(.ref b5)]))
  refine own_via (fun _ k => XS.aloadN X66.here hx rfl (hb hby d4_41) rfl rfl k) ?_
  show own_Go p e below s _ _ _ (T66.setTop (mkF m 42 #[.val (.ref a), .val (.ref b_), .val (.ref b2), .val (.ref b5), .val (.int (3 : Int32))] [(.ref a), (.ref b5)]))
  have F67 := (F59.other W66 (Or.inl ne_a_b2))
  obtain ⟨T68, X68, e68, st68⟩ := getF X66 hx hZ hown (host := "") (Or.inl (hw _ (List.mem_of_getElem? (i := 16) rfl))) Via.refl e66 F67 (g := (mkF m 42 #[.val (.ref a), .val (.ref b_), .val (.ref b2), .val (.ref b5), .val (.int (3 : Int32))] [(.ref a), (.ref b5)])) rfl rfl (hb hby d4_42)
  refine own_via st68 ?_
  show own_Go p e below s _ _ _ (T68.setTop (mkF m 45 #[.val (.ref a), .val (.ref b_), .val (.ref b2), .val (.ref b5), .val (.int (3 : Int32))] [(.ref bc_), (.ref b5)]))
  refine own_via (fun _ k => XS.iload X68.here hx rfl (hb hby d4_45) rfl k) ?_
  show own_Go p e below s _ _ _ (T68.setTop (mkF m 47 #[.val (.ref a), .val (.ref b_), .val (.ref b2), .val (.ref b5), .val (.int (3 : Int32))] [(.int (3 : Int32)), (.ref bc_), (.ref b5)]))
  have F70 := (F62.other W66 ne_bc__b2)
  obtain ⟨cl69, Ar69, q69, S69, M69, H69, G69⟩ := (id F70)
  have hin69 : ¬ ((3 : Int32) < 0 ∨ cl69.slots.size ≤ ((3 : Int32)).toNatClampNeg) := inb_of S69 ⟨by decide, by decide⟩
  have hat69 : cl69.slots[((3 : Int32)).toNatClampNeg]? = some (.int (Nat.toInt32 e3_)) := Has.at H69 hin69 rfl
  refine own_via (fun _ k => X68.iaload hx (j := (3 : Int32)) (v := (.int (Nat.toInt32 e3_))) (by rw [e68]; exact Ar69.1) (State.isArrayOf_alike hZ.alike Ar69.2.1) Ar69.2.2 hin69 hat69 (g := (mkF m 47 #[.val (.ref a), .val (.ref b_), .val (.ref b2), .val (.ref b5), .val (.int (3 : Int32))] [(.int (3 : Int32)), (.ref bc_), (.ref b5)])) rfl rfl (hb hby d4_47) _ k) ?_
  show own_Go p e below s _ _ _ (T68.setTop (mkF m 48 #[.val (.ref a), .val (.ref b_), .val (.ref b2), .val (.ref b5), .val (.int (3 : Int32))] [(.int (Nat.toInt32 e3_)), (.ref b5)]))
  refine own_via (fun _ k => Jvm.Free.XT.dup2 X68.here hx rfl (hb hby d4_48) rfl rfl rfl k) ?_
  show own_Go p e below s _ _ _ (T68.setTop (mkF m 49 #[.val (.ref a), .val (.ref b_), .val (.ref b2), .val (.ref b5), .val (.int (3 : Int32))] [(.int (Nat.toInt32 e3_)), (.ref b5), (.int (Nat.toInt32 e3_)), (.ref b5)]))
  have F72 := (V56.other W66 (Ne.symm ne_b2_b5))
  obtain ⟨cl71, Ar71, q71, S71, M71, H71, G71⟩ := (id F72)
  have hin71 : ¬ ((Nat.toInt32 e3_) < 0 ∨ cl71.slots.size ≤ ((Nat.toInt32 e3_)).toNatClampNeg) := inb_of S71 ⟨own_nn ha3, (own_ltn hNN ha3).mpr hp12⟩
  have hat71 : cl71.slots[((Nat.toInt32 e3_)).toNatClampNeg]? = some (.int (own_gi C903 e3_)) := Has.at H71 hin71 (own_gim _ ha3)
  refine own_via (fun _ k => X68.iaload hx (j := (Nat.toInt32 e3_)) (v := (.int (own_gi C903 e3_))) (by rw [e68]; exact Ar71.1) (State.isArrayOf_alike hZ.alike Ar71.2.1) Ar71.2.2 hin71 hat71 (g := (mkF m 49 #[.val (.ref a), .val (.ref b_), .val (.ref b2), .val (.ref b5), .val (.int (3 : Int32))] [(.int (Nat.toInt32 e3_)), (.ref b5), (.int (Nat.toInt32 e3_)), (.ref b5)])) rfl rfl (hb hby d4_49) _ k) ?_
  show own_Go p e below s _ _ _ (T68.setTop (mkF m 50 #[.val (.ref a), .val (.ref b_), .val (.ref b2), .val (.ref b5), .val (.int (3 : Int32))] [(.int (own_gi C903 e3_)), (.int (Nat.toInt32 e3_)), (.ref b5)]))
  refine own_via (fun _ k => XS.iconst X68.here hx rfl (hb hby d4_50) k) ?_
  show own_Go p e below s _ _ _ (T68.setTop (mkF m 51 #[.val (.ref a), .val (.ref b_), .val (.ref b2), .val (.ref b5), .val (.int (3 : Int32))] [(.int (1 : Int32)), (.int (own_gi C903 e3_)), (.int (Nat.toInt32 e3_)), (.ref b5)]))
  refine own_via (fun _ k => XS.iadd X68.here hx rfl (hb hby d4_51) rfl k) ?_
  show own_Go p e below s _ _ _ (T68.setTop (mkF m 52 #[.val (.ref a), .val (.ref b_), .val (.ref b2), .val (.ref b5), .val (.int (3 : Int32))] [(.int ((own_gi C903 e3_) + (1 : Int32))), (.int (Nat.toInt32 e3_)), (.ref b5)]))
  obtain ⟨cl73, Ar73, q73, S73, M73, H73, G73⟩ := (id F72)
  have hin73 : ¬ ((Nat.toInt32 e3_) < 0 ∨ cl73.slots.size ≤ ((Nat.toInt32 e3_)).toNatClampNeg) := inb_of S73 ⟨own_nn ha3, (own_ltn hNN ha3).mpr hp12⟩
  obtain ⟨T73, h73, X73, e73, W73, st73⟩ := stI X68 hx hZ e68 Ar73 (j := (Nat.toInt32 e3_)) hin73 (g := (mkF m 52 #[.val (.ref a), .val (.ref b_), .val (.ref b2), .val (.ref b5), .val (.int (3 : Int32))] [(.int ((own_gi C903 e3_) + (1 : Int32))), (.int (Nat.toInt32 e3_)), (.ref b5)])) rfl rfl (hb hby d4_52)
  obtain ⟨C904, hC4⟩ : ∃ S, S = own_ac C903 e3_ := ⟨_, rfl⟩
  have hm4 : C904.length = 4 := by rw [hC4]; exact own_ac4 hm3
  have V73 : Arv Z h73 b5 k5 .int (Nat.toInt32 nn_) (C904.map Value.int) (.int (0 : Int32)) := (by rw [hC4, own_ac_map]; exact Arv.set Ar73 q73 S73 M73 H73 G73 rfl W73 e3_ (own_nc ha3) (own_lt4m hm3 hb3))
  have N73 := Fr.snoc X73 N66 g_b5
  have Z73 : n0 ≤ h73.size := Nat.le_trans Z66 (Keep.of_wr W73).1
  have K73 : Keep h0 h73 [b_] := K66.wr W73 (Or.inr sz_b5)
  refine own_via st73 ?_
  show own_Go p e below s _ _ _ (T73.setTop (mkF m 53 #[.val (.ref a), .val (.ref b_), .val (.ref b2), .val (.ref b5), .val (.int (3 : Int32))] []))
  refine own_via (fun _ k => XS.iinc X73.here hx rfl (hb hby d4_53) rfl (l' := #[.val (.ref a), .val (.ref b_), .val (.ref b2), .val (.ref b5), .val (.int (4 : Int32))]) rfl k) ?_
  show own_Go p e below s _ _ _ (T73.setTop (mkF m 56 #[.val (.ref a), .val (.ref b_), .val (.ref b2), .val (.ref b5), .val (.int (4 : Int32))] []))
  refine own_via (fun _ k => XS.goto X73.here hx rfl (pc0 := 56) (pc' := 17) rfl (hb hby d4_56) (by decide) (by decide) k) ?_
  show own_Go p e below s _ _ _ (T73.setTop (mkF m 17 #[.val (.ref a), .val (.ref b_), .val (.ref b2), .val (.ref b5), .val (.int (4 : Int32))] []))
  refine own_via (fun _ k => XS.iload X73.here hx rfl (hb hby d4_17) rfl k) ?_
  show own_Go p e below s _ _ _ (T73.setTop (mkF m 19 #[.val (.ref a), .val (.ref b_), .val (.ref b2), .val (.ref b5), .val (.int (4 : Int32))] [(.int (4 : Int32))]))
  refine own_via (fun _ k => XS.aloadN X73.here hx rfl (hb hby d4_19) rfl rfl k) ?_
  show own_Go p e below s _ _ _ (T73.setTop (mkF m 20 #[.val (.ref a), .val (.ref b_), .val (.ref b2), .val (.ref b5), .val (.int (4 : Int32))] [(.ref b_), (.int (4 : Int32))]))
  have F75 := ((F58.other W66 ne_b__b2).other W73 ne_b__b5)
  obtain ⟨cl74, Ar74, q74, S74, M74, H74, G74⟩ := (id F75)
  refine own_via (fun _ k => X73.arraylength hx (by rw [e73]; exact Ar74.1) (State.isArrayOf_alike hZ.alike Ar74.2.1) (g := (mkF m 20 #[.val (.ref a), .val (.ref b_), .val (.ref b2), .val (.ref b5), .val (.int (4 : Int32))] [(.ref b_), (.int (4 : Int32))])) rfl rfl (hb hby d4_20) _ (by rw [len_of S74 M74]; exact k)) ?_
  show own_Go p e below s _ _ _ (T73.setTop (mkF m 21 #[.val (.ref a), .val (.ref b_), .val (.ref b2), .val (.ref b5), .val (.int (4 : Int32))] [(.int (4 : Int32)), (.int (4 : Int32))]))
  refine own_via (fun _ k => XS.icmpYes X73.here hx rfl (pc0 := 21) (pc' := 59) rfl (hb hby d4_21) rfl (Jvm.Free.XT.ii_ge_t (by decide)) (by decide) (by decide) k) ?_
  show own_Go p e below s _ _ _ (T73.setTop (mkF m 59 #[.val (.ref a), .val (.ref b_), .val (.ref b2), .val (.ref b5), .val (.int (4 : Int32))] []))
  refine own_via (fun _ k => XS.iconst X73.here hx rfl (hb hby d4_59) k) ?_
  show own_Go p e below s _ _ _ (T73.setTop (mkF m 60 #[.val (.ref a), .val (.ref b_), .val (.ref b2), .val (.ref b5), .val (.int (4 : Int32))] [(.int (0 : Int32))]))
  refine own_via (fun _ k => XS.istore X73.here hx rfl (hb hby d4_60) rfl (l' := #[.val (.ref a), .val (.ref b_), .val (.ref b2), .val (.ref b5), .val (.int (0 : Int32))]) rfl k) ?_
  show own_Go p e below s _ _ _ (T73.setTop (mkF m 62 #[.val (.ref a), .val (.ref b_), .val (.ref b2), .val (.ref b5), .val (.int (0 : Int32))] []))
  refine own_via (fun _ k => XS.iload X73.here hx rfl (hb hby d4_62) rfl k) ?_
  show own_Go p e below s _ _ _ (T73.setTop (mkF m 64 #[.val (.ref a), .val (.ref b_), .val (.ref b2), .val (.ref b5), .val (.int (0 : Int32))] [(.int (0 : Int32))]))
  refine own_via (fun _ k => XS.aloadN X73.here hx rfl (hb hby d4_64) rfl rfl k) ?_
  show own_Go p e below s _ _ _ (T73.setTop (mkF m 65 #[.val (.ref a), .val (.ref b_), .val (.ref b2), .val (.ref b5), .val (.int (0 : Int32))] [(.ref b_), (.int (0 : Int32))]))
  obtain ⟨cl76, Ar76, q76, S76, M76, H76, G76⟩ := (id F75)
  refine own_via (fun _ k => X73.arraylength hx (by rw [e73]; exact Ar76.1) (State.isArrayOf_alike hZ.alike Ar76.2.1) (g := (mkF m 65 #[.val (.ref a), .val (.ref b_), .val (.ref b2), .val (.ref b5), .val (.int (0 : Int32))] [(.ref b_), (.int (0 : Int32))])) rfl rfl (hb hby d4_65) _ (by rw [len_of S76 M76]; exact k)) ?_
  show own_Go p e below s _ _ _ (T73.setTop (mkF m 66 #[.val (.ref a), .val (.ref b_), .val (.ref b2), .val (.ref b5), .val (.int (0 : Int32))] [(.int (4 : Int32)), (.int (0 : Int32))]))
  refine own_via (fun _ k => XS.icmpNo X73.here hx rfl (hb hby d4_66) rfl (Jvm.Free.XT.ii_ge_f (by decide)) k) ?_
  show own_Go p e below s _ _ _ (T73.setTop (mkF m 69 #[.val (.ref a), .val (.ref b_), .val (.ref b2), .val (.ref b5), .val (.int (0 : Int32))] []))
  refine own_via (fun _ k => XS.aloadN X73.here hx rfl (hb hby d4_69) rfl rfl k) ?_
  show own_Go p e below s _ _ _ (T73.setTop (mkF m 70 #[.val (.ref a), .val (.ref b_), .val (.ref b2), .val (.ref b5), .val (.int (0 : Int32))] [(.ref b_)]))
  refine own_via (fun _ k => XS.iload X73.here hx rfl (hb hby d4_70) rfl k) ?_
  show own_Go p e below s _ _ _ (T73.setTop (mkF m 72 #[.val (.ref a), .val (.ref b_), .val (.ref b2), .val (.ref b5), .val (.int (0 : Int32))] [(.int (0 : Int32)), (.ref b_)]))
  refine own_via (fun _ k => XS.aloadN X73.here hx rfl (hb hby d4_72) rfl rfl k) ?_
  show own_Go p e below s _ _ _ (T73.setTop (mkF m 73 #[.val (.ref a), .val (.ref b_), .val (.ref b2), .val (.ref b5), .val (.int (0 : Int32))] [(.ref b2), (.int (0 : Int32)), (.ref b_)]))
  refine own_via (fun _ k => XS.aloadN X73.here hx rfl (hb hby d4_73) rfl rfl k) ?_
  show own_Go p e below s _ _ _ (T73.setTop (mkF m 74 #[.val (.ref a), .val (.ref b_), .val (.ref b2), .val (.ref b5), .val (.int (0 : Int32))] [(.ref a), (.ref b2), (.int (0 : Int32)), (.ref b_)]))
  have F77 := (F67.other W73 (Or.inl ne_a_b5))
  obtain ⟨T78, X78, e78, st78⟩ := getF X73 hx hZ hown (host := "") (Or.inl (hw _ (List.mem_of_getElem? (i := 16) rfl))) Via.refl e73 F77 (g := (mkF m 74 #[.val (.ref a), .val (.ref b_), .val (.ref b2), .val (.ref b5), .val (.int (0 : Int32))] [(.ref a), (.ref b2), (.int (0 : Int32)), (.ref b_)])) rfl rfl (hb hby d4_74)
  refine own_via st78 ?_
  show own_Go p e below s _ _ _ (T78.setTop (mkF m 77 #[.val (.ref a), .val (.ref b_), .val (.ref b2), .val (.ref b5), .val (.int (0 : Int32))] [(.ref bc_), (.ref b2), (.int (0 : Int32)), (.ref b_)]))
  refine own_via (fun _ k => XS.iload X78.here hx rfl (hb hby d4_77) rfl k) ?_
  show own_Go p e below s _ _ _ (T78.setTop (mkF m 79 #[.val (.ref a), .val (.ref b_), .val (.ref b2), .val (.ref b5), .val (.int (0 : Int32))] [(.int (0 : Int32)), (.ref bc_), (.ref b2), (.int (0 : Int32)), (.ref b_)]))
  have F80 := (F70.other W73 ne_bc__b5)
  obtain ⟨cl79, Ar79, q79, S79, M79, H79, G79⟩ := (id F80)
  have hin79 : ¬ ((0 : Int32) < 0 ∨ cl79.slots.size ≤ ((0 : Int32)).toNatClampNeg) := inb_of S79 ⟨by decide, by decide⟩
  have hat79 : cl79.slots[((0 : Int32)).toNatClampNeg]? = some (.int (Nat.toInt32 e0_)) := Has.at H79 hin79 rfl
  refine own_via (fun _ k => X78.iaload hx (j := (0 : Int32)) (v := (.int (Nat.toInt32 e0_))) (by rw [e78]; exact Ar79.1) (State.isArrayOf_alike hZ.alike Ar79.2.1) Ar79.2.2 hin79 hat79 (g := (mkF m 79 #[.val (.ref a), .val (.ref b_), .val (.ref b2), .val (.ref b5), .val (.int (0 : Int32))] [(.int (0 : Int32)), (.ref bc_), (.ref b2), (.int (0 : Int32)), (.ref b_)])) rfl rfl (hb hby d4_79) _ k) ?_
  show own_Go p e below s _ _ _ (T78.setTop (mkF m 80 #[.val (.ref a), .val (.ref b_), .val (.ref b2), .val (.ref b5), .val (.int (0 : Int32))] [(.int (Nat.toInt32 e0_)), (.ref b2), (.int (0 : Int32)), (.ref b_)]))
  have hSS : S904 = (own_ad (own_ad (own_ad (own_ad own_dz e0_ x0_) e1_ x1_) e2_ x2_) e3_ x3_) := by rw [hS4, hS3, hS2, hS1, hS0]
  have hCC : C904 = (own_ac (own_ac (own_ac (own_ac own_cz e0_) e1_) e2_) e3_) := by rw [hC4, hC3, hC2, hC1, hC0]
  have F82 := (V66.other W73 ne_b2_b5)
  obtain ⟨cl81, Ar81, q81, S81, M81, H81, G81⟩ := (id F82)
  have hin81 : ¬ ((Nat.toInt32 e0_) < 0 ∨ cl81.slots.size ≤ ((Nat.toInt32 e0_)).toNatClampNeg) := inb_of S81 ⟨own_nn ha0, (own_ltn hNN ha0).mpr hp9⟩
  have hat81 : cl81.slots[((Nat.toInt32 e0_)).toNatClampNeg]? = some (.double (own_gd S904 e0_)) := Has.at H81 hin81 (own_gdm _ ha0)
  refine own_via (fun _ k => X78.daload hx (j := (Nat.toInt32 e0_)) (v := (.double (own_gd S904 e0_))) (by rw [e78]; exact Ar81.1) (State.isArrayOf_alike hZ.alike Ar81.2.1) Ar81.2.2 hin81 hat81 (g := (mkF m 80 #[.val (.ref a), .val (.ref b_), .val (.ref b2), .val (.ref b5), .val (.int (0 : Int32))] [(.int (Nat.toInt32 e0_)), (.ref b2), (.int (0 : Int32)), (.ref b_)])) rfl rfl (hb hby d4_80) _ k) ?_
  show own_Go p e below s _ _ _ (T78.setTop (mkF m 81 #[.val (.ref a), .val (.ref b_), .val (.ref b2), .val (.ref b5), .val (.int (0 : Int32))] [(.double (own_gd S904 e0_)), (.int (0 : Int32)), (.ref b_)]))
  refine own_via (fun _ k => XS.aloadN X78.here hx rfl (hb hby d4_81) rfl rfl k) ?_
  show own_Go p e below s _ _ _ (T78.setTop (mkF m 82 #[.val (.ref a), .val (.ref b_), .val (.ref b2), .val (.ref b5), .val (.int (0 : Int32))] [(.ref b5), (.double (own_gd S904 e0_)), (.int (0 : Int32)), (.ref b_)]))
  refine own_via (fun _ k => XS.aloadN X78.here hx rfl (hb hby d4_82) rfl rfl k) ?_
  show own_Go p e below s _ _ _ (T78.setTop (mkF m 83 #[.val (.ref a), .val (.ref b_), .val (.ref b2), .val (.ref b5), .val (.int (0 : Int32))] [(.ref a), (.ref b5), (.double (own_gd S904 e0_)), (.int (0 : Int32)), (.ref b_)]))
  obtain ⟨T83, X83, e83, st83⟩ := getF X78 hx hZ hown (host := "") (Or.inl (hw _ (List.mem_of_getElem? (i := 16) rfl))) Via.refl e78 F77 (g := (mkF m 83 #[.val (.ref a), .val (.ref b_), .val (.ref b2), .val (.ref b5), .val (.int (0 : Int32))] [(.ref a), (.ref b5), (.double (own_gd S904 e0_)), (.int (0 : Int32)), (.ref b_)])) rfl rfl (hb hby d4_83)
  refine own_via st83 ?_
  show own_Go p e below s _ _ _ (T83.setTop (mkF m 86 #[.val (.ref a), .val (.ref b_), .val (.ref b2), .val (.ref b5), .val (.int (0 : Int32))] [(.ref bc_), (.ref b5), (.double (own_gd S904 e0_)), (.int (0 : Int32)), (.ref b_)]))
  refine own_via (fun _ k => XS.iload X83.here hx rfl (hb hby d4_86) rfl k) ?_
  show own_Go p e below s _ _ _ (T83.setTop (mkF m 88 #[.val (.ref a), .val (.ref b_), .val (.ref b2), .val (.ref b5), .val (.int (0 : Int32))] [(.int (0 : Int32)), (.ref bc_), (.ref b5), (.double (own_gd S904 e0_)), (.int (0 : Int32)), (.ref b_)]))
  obtain ⟨cl84, Ar84, q84, S84, M84, H84, G84⟩ := (id F80)
  have hin84 : ¬ ((0 : Int32) < 0 ∨ cl84.slots.size ≤ ((0 : Int32)).toNatClampNeg) := inb_of S84 ⟨by decide, by decide⟩
  have hat84 : cl84.slots[((0 : Int32)).toNatClampNeg]? = some (.int (Nat.toInt32 e0_)) := Has.at H84 hin84 rfl
  refine own_via (fun _ k => X83.iaload hx (j := (0 : Int32)) (v := (.int (Nat.toInt32 e0_))) (by rw [e83]; exact Ar84.1) (State.isArrayOf_alike hZ.alike Ar84.2.1) Ar84.2.2 hin84 hat84 (g := (mkF m 88 #[.val (.ref a), .val (.ref b_), .val (.ref b2), .val (.ref b5), .val (.int (0 : Int32))] [(.int (0 : Int32)), (.ref bc_), (.ref b5), (.double (own_gd S904 e0_)), (.int (0 : Int32)), (.ref b_)])) rfl rfl (hb hby d4_88) _ k) ?_
  show own_Go p e below s _ _ _ (T83.setTop (mkF m 89 #[.val (.ref a), .val (.ref b_), .val (.ref b2), .val (.ref b5), .val (.int (0 : Int32))] [(.int (Nat.toInt32 e0_)), (.ref b5), (.double (own_gd S904 e0_)), (.int (0 : Int32)), (.ref b_)]))
  obtain ⟨cl85, Ar85, q85, S85, M85, H85, G85⟩ := (id V73)
  have hin85 : ¬ ((Nat.toInt32 e0_) < 0 ∨ cl85.slots.size ≤ ((Nat.toInt32 e0_)).toNatClampNeg) := inb_of S85 ⟨own_nn ha0, (own_ltn hNN ha0).mpr hp9⟩
  have hat85 : cl85.slots[((Nat.toInt32 e0_)).toNatClampNeg]? = some (.int (own_gi C904 e0_)) := Has.at H85 hin85 (own_gim _ ha0)
  refine own_via (fun _ k => X83.iaload hx (j := (Nat.toInt32 e0_)) (v := (.int (own_gi C904 e0_))) (by rw [e83]; exact Ar85.1) (State.isArrayOf_alike hZ.alike Ar85.2.1) Ar85.2.2 hin85 hat85 (g := (mkF m 89 #[.val (.ref a), .val (.ref b_), .val (.ref b2), .val (.ref b5), .val (.int (0 : Int32))] [(.int (Nat.toInt32 e0_)), (.ref b5), (.double (own_gd S904 e0_)), (.int (0 : Int32)), (.ref b_)])) rfl rfl (hb hby d4_89) _ k) ?_
  show own_Go p e below s _ _ _ (T83.setTop (mkF m 90 #[.val (.ref a), .val (.ref b_), .val (.ref b2), .val (.ref b5), .val (.int (0 : Int32))] [(.int (own_gi C904 e0_)), (.double (own_gd S904 e0_)), (.int (0 : Int32)), (.ref b_)]))
  refine own_via (fun _ k => XS.i2dS X83.here hx rfl (hb hby d4_90) rfl rfl k) ?_
  show own_Go p e below s _ _ _ (T83.setTop (mkF m 91 #[.val (.ref a), .val (.ref b_), .val (.ref b2), .val (.ref b5), .val (.int (0 : Int32))] [(.double (FP.i2d (own_gi C904 e0_))), (.double (own_gd S904 e0_)), (.int (0 : Int32)), (.ref b_)]))
  refine own_via (fun _ k => XS.ddivS X83.here hx rfl (hb hby d4_91) rfl (by rw [hSS, hCC]; exact own_Q_n hb0 hb1 hb2 hb3 hp13 hp14 hp15 hp16 (Or.inl rfl)) rfl k) ?_
  show own_Go p e below s _ _ _ (T83.setTop (mkF m 92 #[.val (.ref a), .val (.ref b_), .val (.ref b2), .val (.ref b5), .val (.int (0 : Int32))] [(.double (FP.ddiv (own_gd S904 e0_) (FP.i2d (own_gi C904 e0_)))), (.int (0 : Int32)), (.ref b_)]))
  obtain ⟨cl86, Ar86, q86, S86, M86, H86, G86⟩ := (id F75)
  have hin86 : ¬ ((0 : Int32) < 0 ∨ cl86.slots.size ≤ ((0 : Int32)).toNatClampNeg) := inb_of S86 ⟨by decide, by decide⟩
  obtain ⟨T86, h86, X86, e86, W86, st86⟩ := stD X83 hx hZ e83 Ar86 (j := (0 : Int32)) hin86 (g := (mkF m 92 #[.val (.ref a), .val (.ref b_), .val (.ref b2), .val (.ref b5), .val (.int (0 : Int32))] [(.double (FP.ddiv (own_gd S904 e0_) (FP.i2d (own_gi C904 e0_)))), (.int (0 : Int32)), (.ref b_)])) rfl rfl (hb hby d4_92)
  have V86 : Arv Z h86 b_ kb_ .double (4 : Int32) [(.double (FP.ddiv (own_gd S904 e0_) (FP.i2d (own_gi C904 e0_)))), (.double x1_), (.double x2_), (.double x3_)] (.double (0 : UInt64)) := Arv.set Ar86 q86 S86 M86 H86 G86 rfl W86 0 rfl (Nat.le_of_ble_eq_true rfl)
  have N86 := Fr.snoc X86 N73 g_b_
  have Z86 : n0 ≤ h86.size := Nat.le_trans Z73 (Keep.of_wr W86).1
  have K86 : Keep h0 h86 [b_] := K73.wr W86 (Or.inl (List.mem_of_getElem? (i := 0) rfl))
  refine own_via st86 ?_
  show own_Go p e below s _ _ _ (T86.setTop (mkF m 93 #[.val (.ref a), .val (.ref b_), .val (.ref b2), .val (.ref b5), .val (.int (0 : Int32))] []))
  refine own_via (fun _ k => XS.iinc X86.here hx rfl (hb hby d4_93) rfl (l' := #[.val (.ref a), .val (.ref b_), .val (.ref b2), .val (.ref b5), .val (.int (1 : Int32))]) rfl k) ?_
  show own_Go p e below s _ _ _ (T86.setTop (mkF m 96 #[.val (.ref a), .val (.ref b_), .val (.ref b2), .val (.ref b5), .val (.int (1 : Int32))] []))
  refine own_via (fun _ k => XS.goto X86.here hx rfl (pc0 := 96) (pc' := 62) rfl (hb hby d4_96) (by decide) (by decide) k) ?_
  show own_Go p e below s _ _ _ (T86.setTop (mkF m 62 #[.val (.ref a), .val (.ref b_), .val (.ref b2), .val (.ref b5), .val (.int (1 : Int32))] []))
  refine own_via (fun _ k => XS.iload X86.here hx rfl (hb hby d4_62) rfl k) ?_
  show own_Go p e below s _ _ _ (T86.setTop (mkF m 64 #[.val (.ref a), .val (.ref b_), .val (.ref b2), .val (.ref b5), .val (.int (1 : Int32))] [(.int (1 : Int32))]))
  refine own_via (fun _ k => XS.aloadN X86.here hx rfl (hb hby d4_64) rfl rfl k) ?_
  show own_Go p e below s _ _ _ (T86.setTop (mkF m 65 #[.val (.ref a), .val (.ref b_), .val (.ref b2), .val (.ref b5), .val (.int (1 : Int32))] [(.ref b_), (.int (1 : Int32))]))
  obtain ⟨cl87, Ar87, q87, S87, M87, H87, G87⟩ := (id V86)
  refine own_via (fun _ k => X86.arraylength hx (by rw [e86]; exact Ar87.1) (State.isArrayOf_alike hZ.alike Ar87.2.1) (g := (mkF m 65 #[.val (.ref a), .val (.ref b_), .val (.ref b2), .val (.ref b5), .val (.int (1 : Int32))] [(.ref b_), (.int (1 : Int32))])) rfl rfl (hb hby d4_65) _ (by rw [len_of S87 M87]; exact k)) ?_
  show own_Go p e below s _ _ _ (T86.setTop (mkF m 66 #[.val (.ref a), .val (.ref b_), .val (.ref b2), .val (.ref b5), .val (.int (1 : Int32))] [(.int (4 : Int32)), (.int (1 : Int32))]))
  refine own_via (fun _ k => XS.icmpNo X86.here hx rfl (hb hby d4_66) rfl (Jvm.Free.XT.ii_ge_f (by decide)) k) ?_
  show own_Go p e below s _ _ _ (T86.setTop (mkF m 69 #[.val (.ref a), .val (.ref b_), .val (.ref b2), .val (.ref b5), .val (.int (1 : Int32))] []))
  refine own_via (fun _ k => XS.aloadN X86.here hx rfl (hb hby d4_69) rfl rfl k) ?_
  show own_Go p e below s _ _ _ (T86.setTop (mkF m 70 #[.val (.ref a), .val (.ref b_), .val (.ref b2), .val (.ref b5), .val (.int (1 : Int32))] [(.ref b_)]))
  refine own_via (fun _ k => XS.iload X86.here hx rfl (hb hby d4_70) rfl k) ?_
  show own_Go p e below s _ _ _ (T86.setTop (mkF m 72 #[.val (.ref a), .val (.ref b_), .val (.ref b2), .val (.ref b5), .val (.int (1 : Int32))] [(.int (1 : Int32)), (.ref b_)]))
  refine own_via (fun _ k => XS.aloadN X86.here hx rfl (hb hby d4_72) rfl rfl k) ?_
  show own_Go p e below s _ _ _ (T86.setTop (mkF m 73 #[.val (.ref a), .val (.ref b_), .val (.ref b2), .val (.ref b5), .val (.int (1 : Int32))] [(.ref b2), (.int (1 : Int32)), (.ref b_)]))
  refine own_via (fun _ k => XS.aloadN X86.here hx rfl (hb hby d4_73) rfl rfl k) ?_
  show own_Go p e below s _ _ _ (T86.setTop (mkF m 74 #[.val (.ref a), .val (.ref b_), .val (.ref b2), .val (.ref b5), .val (.int (1 : Int32))] [(.ref a), (.ref b2), (.int (1 : Int32)), (.ref b_)]))
  have F88 := (F77.other W86 (Or.inl ne_a_b_))
  obtain ⟨T89, X89, e89, st89⟩ := getF X86 hx hZ hown (host := "") (Or.inl (hw _ (List.mem_of_getElem? (i := 16) rfl))) Via.refl e86 F88 (g := (mkF m 74 #[.val (.ref a), .val (.ref b_), .val (.ref b2), .val (.ref b5), .val (.int (1 : Int32))] [(.ref a), (.ref b2), (.int (1 : Int32)), (.ref b_)])) rfl rfl (hb hby d4_74)
  refine own_via st89 ?_
  show own_Go p e below s _ _ _ (T89.setTop (mkF m 77 #[.val (.ref a), .val (.ref b_), .val (.ref b2), .val (.ref b5), .val (.int (1 : Int32))] [(.ref bc_), (.ref b2), (.int (1 : Int32)), (.ref b_)]))
  refine own_via (fun _ k => XS.iload X89.here hx rfl (hb hby d4_77) rfl k) ?_
  show own_Go p e below s _ _ _ (T89.setTop (mkF m 79 #[.val (.ref a), .val (.ref b_), .val (.ref b2), .val (.ref b5), .val (.int (1 : Int32))] [(.int (1 : Int32)), (.ref bc_), (.ref b2), (.int (1 : Int32)), (.ref b_)]))
  have F91 := (F80.other W86 (Ne.symm ne_b__bc_))
  obtain ⟨cl90, Ar90, q90, S90, M90, H90, G90⟩ := (id F91)
  have hin90 : ¬ ((1 : Int32) < 0 ∨ cl90.slots.size ≤ ((1 : Int32)).toNatClampNeg) := inb_of S90 ⟨by decide, by decide⟩
  have hat90 : cl90.slots[((1 : Int32)).toNatClampNeg]? = some (.int (Nat.toInt32 e1_)) := Has.at H90 hin90 rfl
  refine own_via (fun _ k => X89.iaload hx (j := (1 : Int32)) (v := (.int (Nat.toInt32 e1_))) (by rw [e89]; exact Ar90.1) (State.isArrayOf_alike hZ.alike Ar90.2.1) Ar90.2.2 hin90 hat90 (g := (mkF m 79 #[.val (.ref a), .val (.ref b_), .val (.ref b2), .val (.ref b5), .val (.int (1 : Int32))] [(.int (1 : Int32)), (.ref bc_), (.ref b2), (.int (1 : Int32)), (.ref b_)])) rfl rfl (hb hby d4_79) _ k) ?_
  show own_Go p e below s _ _ _ (T89.setTop (mkF m 80 #[.val (.ref a), .val (.ref b_), .val (.ref b2), .val (.ref b5), .val (.int (1 : Int32))] [(.int (Nat.toInt32 e1_)), (.ref b2), (.int (1 : Int32)), (.ref b_)]))
  have F93 := (F82.other W86 (Ne.symm ne_b__b2))
  obtain ⟨cl92, Ar92, q92, S92, M92, H92, G92⟩ := (id F93)
  have hin92 : ¬ ((Nat.toInt32 e1_) < 0 ∨ cl92.slots.size ≤ ((Nat.toInt32 e1_)).toNatClampNeg) := inb_of S92 ⟨own_nn ha1, (own_ltn hNN ha1).mpr hp10⟩
  have hat92 : cl92.slots[((Nat.toInt32 e1_)).toNatClampNeg]? = some (.double (own_gd S904 e1_)) := Has.at H92 hin92 (own_gdm _ ha1)
  refine own_via (fun _ k => X89.daload hx (j := (Nat.toInt32 e1_)) (v := (.double (own_gd S904 e1_))) (by rw [e89]; exact Ar92.1) (State.isArrayOf_alike hZ.alike Ar92.2.1) Ar92.2.2 hin92 hat92 (g := (mkF m 80 #[.val (.ref a), .val (.ref b_), .val (.ref b2), .val (.ref b5), .val (.int (1 : Int32))] [(.int (Nat.toInt32 e1_)), (.ref b2), (.int (1 : Int32)), (.ref b_)])) rfl rfl (hb hby d4_80) _ k) ?_
  show own_Go p e below s _ _ _ (T89.setTop (mkF m 81 #[.val (.ref a), .val (.ref b_), .val (.ref b2), .val (.ref b5), .val (.int (1 : Int32))] [(.double (own_gd S904 e1_)), (.int (1 : Int32)), (.ref b_)]))
  refine own_via (fun _ k => XS.aloadN X89.here hx rfl (hb hby d4_81) rfl rfl k) ?_
  show own_Go p e below s _ _ _ (T89.setTop (mkF m 82 #[.val (.ref a), .val (.ref b_), .val (.ref b2), .val (.ref b5), .val (.int (1 : Int32))] [(.ref b5), (.double (own_gd S904 e1_)), (.int (1 : Int32)), (.ref b_)]))
  refine own_via (fun _ k => XS.aloadN X89.here hx rfl (hb hby d4_82) rfl rfl k) ?_
  show own_Go p e below s _ _ _ (T89.setTop (mkF m 83 #[.val (.ref a), .val (.ref b_), .val (.ref b2), .val (.ref b5), .val (.int (1 : Int32))] [(.ref a), (.ref b5), (.double (own_gd S904 e1_)), (.int (1 : Int32)), (.ref b_)]))
  obtain ⟨T94, X94, e94, st94⟩ := getF X89 hx hZ hown (host := "") (Or.inl (hw _ (List.mem_of_getElem? (i := 16) rfl))) Via.refl e89 F88 (g := (mkF m 83 #[.val (.ref a), .val (.ref b_), .val (.ref b2), .val (.ref b5), .val (.int (1 : Int32))] [(.ref a), (.ref b5), (.double (own_gd S904 e1_)), (.int (1 : Int32)), (.ref b_)])) rfl rfl (hb hby d4_83)
  refine own_via st94 ?_
  show own_Go p e below s _ _ _ (T94.setTop (mkF m 86 #[.val (.ref a), .val (.ref b_), .val (.ref b2), .val (.ref b5), .val (.int (1 : Int32))] [(.ref bc_), (.ref b5), (.double (own_gd S904 e1_)), (.int (1 : Int32)), (.ref b_)]))
  refine own_via (fun _ k => XS.iload X94.here hx rfl (hb hby d4_86) rfl k) ?_
  show own_Go p e below s _ _ _ (T94.setTop (mkF m 88 #[.val (.ref a), .val (.ref b_), .val (.ref b2), .val (.ref b5), .val (.int (1 : Int32))] [(.int (1 : Int32)), (.ref bc_), (.ref b5), (.double (own_gd S904 e1_)), (.int (1 : Int32)), (.ref b_)]))
  obtain ⟨cl95, Ar95, q95, S95, M95, H95, G95⟩ := (id F91)
  have hin95 : ¬ ((1 : Int32) < 0 ∨ cl95.slots.size ≤ ((1 : Int32)).toNatClampNeg) := inb_of S95 ⟨by decide, by decide⟩
  have hat95 : cl95.slots[((1 : Int32)).toNatClampNeg]? = some (.int (Nat.toInt32 e1_)) := Has.at H95 hin95 rfl
  refine own_via (fun _ k => X94.iaload hx (j := (1 : Int32)) (v := (.int (Nat.toInt32 e1_))) (by rw [e94]; exact Ar95.1) (State.isArrayOf_alike hZ.alike Ar95.2.1) Ar95.2.2 hin95 hat95 (g := (mkF m 88 #[.val (.ref a), .val (.ref b_), .val (.ref b2), .val (.ref b5), .val (.int (1 : Int32))] [(.int (1 : Int32)), (.ref bc_), (.ref b5), (.double (own_gd S904 e1_)), (.int (1 : Int32)), (.ref b_)])) rfl rfl (hb hby d4_88) _ k) ?_
  show own_Go p e below s _ _ _ (T94.setTop (mkF m 89 #[.val (.ref a), .val (.ref b_), .val (.ref b2), .val (.ref b5), .val (.int (1 : Int32))] [(.int (Nat.toInt32 e1_)), (.ref b5), (.double (own_gd S904 e1_)), (.int (1 : Int32)), (.ref b_)]))
  have F97 := (V73.other W86 (Ne.symm ne_b__b5))
  obtain ⟨cl96, Ar96, q96, S96, M96, H96, G96⟩ := (id F97)
  have hin96 : ¬ ((Nat.toInt32 e1_) < 0 ∨ cl96.slots.size ≤ ((Nat.toInt32 e1_)).toNatClampNeg) := inb_of S96 ⟨own_nn ha1, (own_ltn hNN ha1).mpr hp10⟩
  have hat96 : cl96.slots[((Nat.toInt32 e1_)).toNatClampNeg]? = some (.int (own_gi C904 e1_)) := Has.at H96 hin96 (own_gim _ ha1)
  refine own_via (fun _ k => X94.iaload hx (j := (Nat.toInt32 e1_)) (v := (.int (own_gi C904 e1_))) (by rw [e94]; exact Ar96.1) (State.isArrayOf_alike hZ.alike Ar96.2.1) Ar96.2.2 hin96 hat96 (g := (mkF m 89 #[.val (.ref a), .val (.ref b_), .val (.ref b2), .val (.ref b5), .val (.int (1 : Int32))] [(.int (Nat.toInt32 e1_)), (.ref b5), (.double (own_gd S904 e1_)), (.int (1 : Int32)), (.ref b_)])) rfl rfl (hb hby d4_89) _ k) ?_
  show own_Go p e below s _ _ _ (T94.setTop (mkF m 90 #[.val (.ref a), .val (.ref b_), .val (.ref b2), .val (.ref b5), .val (.int (1 : Int32))] [(.int (own_gi C904 e1_)), (.double (own_gd S904 e1_)), (.int (1 : Int32)), (.ref b_)]))
  refine own_via (fun _ k => XS.i2dS X94.here hx rfl (hb hby d4_90) rfl rfl k) ?_
  show own_Go p e below s _ _ _ (T94.setTop (mkF m 91 #[.val (.ref a), .val (.ref b_), .val (.ref b2), .val (.ref b5), .val (.int (1 : Int32))] [(.double (FP.i2d (own_gi C904 e1_))), (.double (own_gd S904 e1_)), (.int (1 : Int32)), (.ref b_)]))
  refine own_via (fun _ k => XS.ddivS X94.here hx rfl (hb hby d4_91) rfl (by rw [hSS, hCC]; exact own_Q_n hb0 hb1 hb2 hb3 hp13 hp14 hp15 hp16 (Or.inr (Or.inl rfl))) rfl k) ?_
  show own_Go p e below s _ _ _ (T94.setTop (mkF m 92 #[.val (.ref a), .val (.ref b_), .val (.ref b2), .val (.ref b5), .val (.int (1 : Int32))] [(.double (FP.ddiv (own_gd S904 e1_) (FP.i2d (own_gi C904 e1_)))), (.int (1 : Int32)), (.ref b_)]))
  obtain ⟨cl98, Ar98, q98, S98, M98, H98, G98⟩ := (id V86)
  have hin98 : ¬ ((1 : Int32) < 0 ∨ cl98.slots.size ≤ ((1 : Int32)).toNatClampNeg) := inb_of S98 ⟨by decide, by decide⟩
  obtain ⟨T98, h98, X98, e98, W98, st98⟩ := stD X94 hx hZ e94 Ar98 (j := (1 : Int32)) hin98 (g := (mkF m 92 #[.val (.ref a), .val (.ref b_), .val (.ref b2), .val (.ref b5), .val (.int (1 : Int32))] [(.double (FP.ddiv (own_gd S904 e1_) (FP.i2d (own_gi C904 e1_)))), (.int (1 : Int32)), (.ref b_)])) rfl rfl (hb hby d4_92)
  have V98 : Arv Z h98 b_ kb_ .double (4 : Int32) [(.double (FP.ddiv (own_gd S904 e0_) (FP.i2d (own_gi C904 e0_)))), (.double (FP.ddiv (own_gd S904 e1_) (FP.i2d (own_gi C904 e1_)))), (.double x2_), (.double x3_)] (.double (0 : UInt64)) := Arv.set Ar98 q98 S98 M98 H98 G98 rfl W98 1 rfl (Nat.le_of_ble_eq_true rfl)
  have N98 := Fr.snoc X98 N86 g_b_
  have Z98 : n0 ≤ h98.size := Nat.le_trans Z86 (Keep.of_wr W98).1
  have K98 : Keep h0 h98 [b_] := K86.wr W98 (Or.inl (List.mem_of_getElem? (i := 0) rfl))
  refine own_via st98 ?_
  show own_Go p e below s _ _ _ (T98.setTop (mkF m 93 #[.val (.ref a), .val (.ref b_), .val (.ref b2), .val (.ref b5), .val (.int (1 : Int32))] []))
  refine own_via (fun _ k => XS.iinc X98.here hx rfl (hb hby d4_93) rfl (l' := #[.val (.ref a), .val (.ref b_), .val (.ref b2), .val (.ref b5), .val (.int (2 : Int32))]) rfl k) ?_
  show own_Go p e below s _ _ _ (T98.setTop (mkF m 96 #[.val (.ref a), .val (.ref b_), .val (.ref b2), .val (.ref b5), .val (.int (2 : Int32))] []))
  refine own_via (fun _ k => XS.goto X98.here hx rfl (pc0 := 96) (pc' := 62) rfl (hb hby d4_96) (by decide) (by decide) k) ?_
  show own_Go p e below s _ _ _ (T98.setTop (mkF m 62 #[.val (.ref a), .val (.ref b_), .val (.ref b2), .val (.ref b5), .val (.int (2 : Int32))] []))
  refine own_via (fun _ k => XS.iload X98.here hx rfl (hb hby d4_62) rfl k) ?_
  show own_Go p e below s _ _ _ (T98.setTop (mkF m 64 #[.val (.ref a), .val (.ref b_), .val (.ref b2), .val (.ref b5), .val (.int (2 : Int32))] [(.int (2 : Int32))]))
  refine own_via (fun _ k => XS.aloadN X98.here hx rfl (hb hby d4_64) rfl rfl k) ?_
  show own_Go p e below s _ _ _ (T98.setTop (mkF m 65 #[.val (.ref a), .val (.ref b_), .val (.ref b2), .val (.ref b5), .val (.int (2 : Int32))] [(.ref b_), (.int (2 : Int32))]))
  obtain ⟨cl99, Ar99, q99, S99, M99, H99, G99⟩ := (id V98)
  refine own_via (fun _ k => X98.arraylength hx (by rw [e98]; exact Ar99.1) (State.isArrayOf_alike hZ.alike Ar99.2.1) (g := (mkF m 65 #[.val (.ref a), .val (.ref b_), .val (.ref b2), .val (.ref b5), .val (.int (2 : Int32))] [(.ref b_), (.int (2 : Int32))])) rfl rfl (hb hby d4_65) _ (by rw [len_of S99 M99]; exact k)) ?_
  show own_Go p e below s _ _ _ (T98.setTop (mkF m 66 #[.val (.ref a), .val (.ref b_), .val (.ref b2), .val (.ref b5), .val (.int (2 : Int32))] [(.int (4 : Int32)), (.int (2 : Int32))]))
  refine own_via (fun _ k => XS.icmpNo X98.here hx rfl (hb hby d4_66) rfl (Jvm.Free.XT.ii_ge_f (by decide)) k) ?_
  show own_Go p e below s _ _ _ (T98.setTop (mkF m 69 #[.val (.ref a), .val (.ref b_), .val (.ref b2), .val (.ref b5), .val (.int (2 : Int32))] []))
  refine own_via (fun _ k => XS.aloadN X98.here hx rfl (hb hby d4_69) rfl rfl k) ?_
  show own_Go p e below s _ _ _ (T98.setTop (mkF m 70 #[.val (.ref a), .val (.ref b_), .val (.ref b2), .val (.ref b5), .val (.int (2 : Int32))] [(.ref b_)]))
  refine own_via (fun _ k => XS.iload X98.here hx rfl (hb hby d4_70) rfl k) ?_
  show own_Go p e below s _ _ _ (T98.setTop (mkF m 72 #[.val (.ref a), .val (.ref b_), .val (.ref b2), .val (.ref b5), .val (.int (2 : Int32))] [(.int (2 : Int32)), (.ref b_)]))
  refine own_via (fun _ k => XS.aloadN X98.here hx rfl (hb hby d4_72) rfl rfl k) ?_
  show own_Go p e below s _ _ _ (T98.setTop (mkF m 73 #[.val (.ref a), .val (.ref b_), .val (.ref b2), .val (.ref b5), .val (.int (2 : Int32))] [(.ref b2), (.int (2 : Int32)), (.ref b_)]))
  refine own_via (fun _ k => XS.aloadN X98.here hx rfl (hb hby d4_73) rfl rfl k) ?_
  show own_Go p e below s _ _ _ (T98.setTop (mkF m 74 #[.val (.ref a), .val (.ref b_), .val (.ref b2), .val (.ref b5), .val (.int (2 : Int32))] [(.ref a), (.ref b2), (.int (2 : Int32)), (.ref b_)]))
  have F100 := (F88.other W98 (Or.inl ne_a_b_))
  obtain ⟨T101, X101, e101, st101⟩ := getF X98 hx hZ hown (host := "") (Or.inl (hw _ (List.mem_of_getElem? (i := 16) rfl))) Via.refl e98 F100 (g := (mkF m 74 #[.val (.ref a), .val (.ref b_), .val (.ref b2), .val (.ref b5), .val (.int (2 : Int32))] [(.ref a), (.ref b2), (.int (2 : Int32)), (.ref b_)])) rfl rfl (hb hby d4_74)
  refine own_via st101 ?_
  show own_Go p e below s _ _ _ (T101.setTop (mkF m 77 #[.val (.ref a), .val (.ref b_), .val (.ref b2), .val (.ref b5), .val (.int (2 : Int32))] [(.ref bc_), (.ref b2), (.int (2 : Int32)), (.ref b_)]))
  refine own_via (fun _ k => XS.iload X101.here hx rfl (hb hby d4_77) rfl k) ?_
  show own_Go p e below s _ _ _ (T101.setTop (mkF m 79 #[.val (.ref a), .val (.ref b_), .val (.ref b2), .val (.ref b5), .val (.int (2 : Int32))] [(.int (2 : Int32)), (.ref bc_), (.ref b2), (.int (2 : Int32)), (.ref b_)]))
  have F103 := (F91.other W98 (Ne.symm ne_b__bc_))
  obtain ⟨cl102, Ar102, q102, S102, M102, H102, G102⟩ := (id F103)
  have hin102 : ¬ ((2 : Int32) < 0 ∨ cl102.slots.size ≤ ((2 : Int32)).toNatClampNeg) := inb_of S102 ⟨by decide, by decide⟩
  have hat102 : cl102.slots[((2 : Int32)).toNatClampNeg]? = some (.int (Nat.toInt32 e2_)) := Has.at H102 hin102 rfl
  refine own_via (fun _ k => X101.iaload hx (j := (2 : Int32)) (v := (.int (Nat.toInt32 e2_))) (by rw [e101]; exact Ar102.1) (State.isArrayOf_alike hZ.alike Ar102.2.1) Ar102.2.2 hin102 hat102 (g := (mkF m 79 #[.val (.ref a), .val (.ref b_), .val (.ref b2), .val (.ref b5), .val (.int (2 : Int32))] [(.int (2 : Int32)), (.ref bc_), (.ref b2), (.int (2 : Int32)), (.ref b_)])) rfl rfl (hb hby d4_79) _ k) ?_
  show own_Go p e below s _ _ _ (T101.setTop (mkF m 80 #[.val (.ref a), .val (.ref b_), .val (.ref b2), .val (.ref b5), .val (.int (2 : Int32))] [(.int (Nat.toInt32 e2_)), (.ref b2), (.int (2 : Int32)), (.ref b_)]))
  have F105 := (F93.other W98 (Ne.symm ne_b__b2))
  obtain ⟨cl104, Ar104, q104, S104, M104, H104, G104⟩ := (id F105)
  have hin104 : ¬ ((Nat.toInt32 e2_) < 0 ∨ cl104.slots.size ≤ ((Nat.toInt32 e2_)).toNatClampNeg) := inb_of S104 ⟨own_nn ha2, (own_ltn hNN ha2).mpr hp11⟩
  have hat104 : cl104.slots[((Nat.toInt32 e2_)).toNatClampNeg]? = some (.double (own_gd S904 e2_)) := Has.at H104 hin104 (own_gdm _ ha2)
  refine own_via (fun _ k => X101.daload hx (j := (Nat.toInt32 e2_)) (v := (.double (own_gd S904 e2_))) (by rw [e101]; exact Ar104.1) (State.isArrayOf_alike hZ.alike Ar104.2.1) Ar104.2.2 hin104 hat104 (g := (mkF m 80 #[.val (.ref a), .val (.ref b_), .val (.ref b2), .val (.ref b5), .val (.int (2 : Int32))] [(.int (Nat.toInt32 e2_)), (.ref b2), (.int (2 : Int32)), (.ref b_)])) rfl rfl (hb hby d4_80) _ k) ?_
  show own_Go p e below s _ _ _ (T101.setTop (mkF m 81 #[.val (.ref a), .val (.ref b_), .val (.ref b2), .val (.ref b5), .val (.int (2 : Int32))] [(.double (own_gd S904 e2_)), (.int (2 : Int32)), (.ref b_)]))
  refine own_via (fun _ k => XS.aloadN X101.here hx rfl (hb hby d4_81) rfl rfl k) ?_
  show own_Go p e below s _ _ _ (T101.setTop (mkF m 82 #[.val (.ref a), .val (.ref b_), .val (.ref b2), .val (.ref b5), .val (.int (2 : Int32))] [(.ref b5), (.double (own_gd S904 e2_)), (.int (2 : Int32)), (.ref b_)]))
  refine own_via (fun _ k => XS.aloadN X101.here hx rfl (hb hby d4_82) rfl rfl k) ?_
  show own_Go p e below s _ _ _ (T101.setTop (mkF m 83 #[.val (.ref a), .val (.ref b_), .val (.ref b2), .val (.ref b5), .val (.int (2 : Int32))] [(.ref a), (.ref b5), (.double (own_gd S904 e2_)), (.int (2 : Int32)), (.ref b_)]))
  obtain ⟨T106, X106, e106, st106⟩ := getF X101 hx hZ hown (host := "") (Or.inl (hw _ (List.mem_of_getElem? (i := 16) rfl))) Via.refl e101 F100 (g := (mkF m 83 #[.val (.ref a), .val (.ref b_), .val (.ref b2), .val (.ref b5), .val (.int (2 : Int32))] [(.ref a), (.ref b5), (.double (own_gd S904 e2_)), (.int (2 : Int32)), (.ref b_)])) rfl rfl (hb hby d4_83)
  refine own_via st106 ?_
  show own_Go p e below s _ _ _ (T106.setTop (mkF m 86 #[.val (.ref a), .val (.ref b_), .val (.ref b2), .val (.ref b5), .val (.int (2 : Int32))] [(.ref bc_), (.ref b5), (.double (own_gd S904 e2_)), (.int (2 : Int32)), (.ref b_)]))
  refine own_via (fun _ k => XS.iload X106.here hx rfl (hb hby d4_86) rfl k) ?_
  show own_Go p e below s _ _ _ (T106.setTop (mkF m 88 #[.val (.ref a), .val (.ref b_), .val (.ref b2), .val (.ref b5), .val (.int (2 : Int32))] [(.int (2 : Int32)), (.ref bc_), (.ref b5), (.double (own_gd S904 e2_)), (.int (2 : Int32)), (.ref b_)]))
  obtain ⟨cl107, Ar107, q107, S107, M107, H107, G107⟩ := (id F103)
  have hin107 : ¬ ((2 : Int32) < 0 ∨ cl107.slots.size ≤ ((2 : Int32)).toNatClampNeg) := inb_of S107 ⟨by decide, by decide⟩
  have hat107 : cl107.slots[((2 : Int32)).toNatClampNeg]? = some (.int (Nat.toInt32 e2_)) := Has.at H107 hin107 rfl
  refine own_via (fun _ k => X106.iaload hx (j := (2 : Int32)) (v := (.int (Nat.toInt32 e2_))) (by rw [e106]; exact Ar107.1) (State.isArrayOf_alike hZ.alike Ar107.2.1) Ar107.2.2 hin107 hat107 (g := (mkF m 88 #[.val (.ref a), .val (.ref b_), .val (.ref b2), .val (.ref b5), .val (.int (2 : Int32))] [(.int (2 : Int32)), (.ref bc_), (.ref b5), (.double (own_gd S904 e2_)), (.int (2 : Int32)), (.ref b_)])) rfl rfl (hb hby d4_88) _ k) ?_
  show own_Go p e below s _ _ _ (T106.setTop (mkF m 89 #[.val (.ref a), .val (.ref b_), .val (.ref b2), .val (.ref b5), .val (.int (2 : Int32))] [(.int (Nat.toInt32 e2_)), (.ref b5), (.double (own_gd S904 e2_)), (.int (2 : Int32)), (.ref b_)]))
  have F109 := (F97.other W98 (Ne.symm ne_b__b5))
  obtain ⟨cl108, Ar108, q108, S108, M108, H108, G108⟩ := (id F109)
  have hin108 : ¬ ((Nat.toInt32 e2_) < 0 ∨ cl108.slots.size ≤ ((Nat.toInt32 e2_)).toNatClampNeg) := inb_of S108 ⟨own_nn ha2, (own_ltn hNN ha2).mpr hp11⟩
  have hat108 : cl108.slots[((Nat.toInt32 e2_)).toNatClampNeg]? = some (.int (own_gi C904 e2_)) := Has.at H108 hin108 (own_gim _ ha2)
  refine own_via (fun _ k => X106.iaload hx (j := (Nat.toInt32 e2_)) (v := (.int (own_gi C904 e2_))) (by rw [e106]; exact Ar108.1) (State.isArrayOf_alike hZ.alike Ar108.2.1) Ar108.2.2 hin108 hat108 (g := (mkF m 89 #[.val (.ref a), .val (.ref b_), .val (.ref b2), .val (.ref b5), .val (.int (2 : Int32))] [(.int (Nat.toInt32 e2_)), (.ref b5), (.double (own_gd S904 e2_)), (.int (2 : Int32)), (.ref b_)])) rfl rfl (hb hby d4_89) _ k) ?_
  show own_Go p e below s _ _ _ (T106.setTop (mkF m 90 #[.val (.ref a), .val (.ref b_), .val (.ref b2), .val (.ref b5), .val (.int (2 : Int32))] [(.int (own_gi C904 e2_)), (.double (own_gd S904 e2_)), (.int (2 : Int32)), (.ref b_)]))
  refine own_via (fun _ k => XS.i2dS X106.here hx rfl (hb hby d4_90) rfl rfl k) ?_
  show own_Go p e below s _ _ _ (T106.setTop (mkF m 91 #[.val (.ref a), .val (.ref b_), .val (.ref b2), .val (.ref b5), .val (.int (2 : Int32))] [(.double (FP.i2d (own_gi C904 e2_))), (.double (own_gd S904 e2_)), (.int (2 : Int32)), (.ref b_)]))
  refine own_via (fun _ k => XS.ddivS X106.here hx rfl (hb hby d4_91) rfl (by rw [hSS, hCC]; exact own_Q_n hb0 hb1 hb2 hb3 hp13 hp14 hp15 hp16 (Or.inr (Or.inr (Or.inl rfl)))) rfl k) ?_
  show own_Go p e below s _ _ _ (T106.setTop (mkF m 92 #[.val (.ref a), .val (.ref b_), .val (.ref b2), .val (.ref b5), .val (.int (2 : Int32))] [(.double (FP.ddiv (own_gd S904 e2_) (FP.i2d (own_gi C904 e2_)))), (.int (2 : Int32)), (.ref b_)]))
  obtain ⟨cl110, Ar110, q110, S110, M110, H110, G110⟩ := (id V98)
  have hin110 : ¬ ((2 : Int32) < 0 ∨ cl110.slots.size ≤ ((2 : Int32)).toNatClampNeg) := inb_of S110 ⟨by decide, by decide⟩
  obtain ⟨T110, h110, X110, e110, W110, st110⟩ := stD X106 hx hZ e106 Ar110 (j := (2 : Int32)) hin110 (g := (mkF m 92 #[.val (.ref a), .val (.ref b_), .val (.ref b2), .val (.ref b5), .val (.int (2 : Int32))] [(.double (FP.ddiv (own_gd S904 e2_) (FP.i2d (own_gi C904 e2_)))), (.int (2 : Int32)), (.ref b_)])) rfl rfl (hb hby d4_92)
  have V110 : Arv Z h110 b_ kb_ .double (4 : Int32) [(.double (FP.ddiv (own_gd S904 e0_) (FP.i2d (own_gi C904 e0_)))), (.double (FP.ddiv (own_gd S904 e1_) (FP.i2d (own_gi C904 e1_)))), (.double (FP.ddiv (own_gd S904 e2_) (FP.i2d (own_gi C904 e2_)))), (.double x3_)] (.double (0 : UInt64)) := Arv.set Ar110 q110 S110 M110 H110 G110 rfl W110 2 rfl (Nat.le_of_ble_eq_true rfl)
  have N110 := Fr.snoc X110 N98 g_b_
  have Z110 : n0 ≤ h110.size := Nat.le_trans Z98 (Keep.of_wr W110).1
  have K110 : Keep h0 h110 [b_] := K98.wr W110 (Or.inl (List.mem_of_getElem? (i := 0) rfl))
  refine own_via st110 ?_
  show own_Go p e below s _ _ _ (T110.setTop (mkF m 93 #[.val (.ref a), .val (.ref b_), .val (.ref b2), .val (.ref b5), .val (.int (2 : Int32))] []))
  refine own_via (fun _ k => XS.iinc X110.here hx rfl (hb hby d4_93) rfl (l' := #[.val (.ref a), .val (.ref b_), .val (.ref b2), .val (.ref b5), .val (.int (3 : Int32))]) rfl k) ?_
  show own_Go p e below s _ _ _ (T110.setTop (mkF m 96 #[.val (.ref a), .val (.ref b_), .val (.ref b2), .val (.ref b5), .val (.int (3 : Int32))] []))
  refine own_via (fun _ k => XS.goto X110.here hx rfl (pc0 := 96) (pc' := 62) rfl (hb hby d4_96) (by decide) (by decide) k) ?_
  show own_Go p e below s _ _ _ (T110.setTop (mkF m 62 #[.val (.ref a), .val (.ref b_), .val (.ref b2), .val (.ref b5), .val (.int (3 : Int32))] []))
  refine own_via (fun _ k => XS.iload X110.here hx rfl (hb hby d4_62) rfl k) ?_
  show own_Go p e below s _ _ _ (T110.setTop (mkF m 64 #[.val (.ref a), .val (.ref b_), .val (.ref b2), .val (.ref b5), .val (.int (3 : Int32))] [(.int (3 : Int32))]))
  refine own_via (fun _ k => XS.aloadN X110.here hx rfl (hb hby d4_64) rfl rfl k) ?_
  show own_Go p e below s _ _ _ (T110.setTop (mkF m 65 #[.val (.ref a), .val (.ref b_), .val (.ref b2), .val (.ref b5), .val (.int (3 : Int32))] [(.ref b_), (.int (3 : Int32))]))
  obtain ⟨cl111, Ar111, q111, S111, M111, H111, G111⟩ := (id V110)
  refine own_via (fun _ k => X110.arraylength hx (by rw [e110]; exact Ar111.1) (State.isArrayOf_alike hZ.alike Ar111.2.1) (g := (mkF m 65 #[.val (.ref a), .val (.ref b_), .val (.ref b2), .val (.ref b5), .val (.int (3 : Int32))] [(.ref b_), (.int (3 : Int32))])) rfl rfl (hb hby d4_65) _ (by rw [len_of S111 M111]; exact k)) ?_
  show own_Go p e below s _ _ _ (T110.setTop (mkF m 66 #[.val (.ref a), .val (.ref b_), .val (.ref b2), .val (.ref b5), .val (.int (3 : Int32))] [(.int (4 : Int32)), (.int (3 : Int32))]))
  refine own_via (fun _ k => XS.icmpNo X110.here hx rfl (hb hby d4_66) rfl (Jvm.Free.XT.ii_ge_f (by decide)) k) ?_
  show own_Go p e below s _ _ _ (T110.setTop (mkF m 69 #[.val (.ref a), .val (.ref b_), .val (.ref b2), .val (.ref b5), .val (.int (3 : Int32))] []))
  refine own_via (fun _ k => XS.aloadN X110.here hx rfl (hb hby d4_69) rfl rfl k) ?_
  show own_Go p e below s _ _ _ (T110.setTop (mkF m 70 #[.val (.ref a), .val (.ref b_), .val (.ref b2), .val (.ref b5), .val (.int (3 : Int32))] [(.ref b_)]))
  refine own_via (fun _ k => XS.iload X110.here hx rfl (hb hby d4_70) rfl k) ?_
  show own_Go p e below s _ _ _ (T110.setTop (mkF m 72 #[.val (.ref a), .val (.ref b_), .val (.ref b2), .val (.ref b5), .val (.int (3 : Int32))] [(.int (3 : Int32)), (.ref b_)]))
  refine own_via (fun _ k => XS.aloadN X110.here hx rfl (hb hby d4_72) rfl rfl k) ?_
  show own_Go p e below s _ _ _ (T110.setTop (mkF m 73 #[.val (.ref a), .val (.ref b_), .val (.ref b2), .val (.ref b5), .val (.int (3 : Int32))] [(.ref b2), (.int (3 : Int32)), (.ref b_)]))
  refine own_via (fun _ k => XS.aloadN X110.here hx rfl (hb hby d4_73) rfl rfl k) ?_
  show own_Go p e below s _ _ _ (T110.setTop (mkF m 74 #[.val (.ref a), .val (.ref b_), .val (.ref b2), .val (.ref b5), .val (.int (3 : Int32))] [(.ref a), (.ref b2), (.int (3 : Int32)), (.ref b_)]))
  have F112 := (F100.other W110 (Or.inl ne_a_b_))
  obtain ⟨T113, X113, e113, st113⟩ := getF X110 hx hZ hown (host := "") (Or.inl (hw _ (List.mem_of_getElem? (i := 16) rfl))) Via.refl e110 F112 (g := (mkF m 74 #[.val (.ref a), .val (.ref b_), .val (.ref b2), .val (.ref b5), .val (.int (3 : Int32))] [(.ref a), (.ref b2), (.int (3 : Int32)), (.ref b_)])) rfl rfl (hb hby d4_74)
  refine own_via st113 ?_
  show own_Go p e below s _ _ _ (T113.setTop (mkF m 77 #[.val (.ref a), .val (.ref b_), .val (.ref b2), .val (.ref b5), .val (.int (3 : Int32))] [(.ref bc_), (.ref b2), (.int (3 : Int32)), (.ref b_)]))
  refine own_via (fun _ k => XS.iload X113.here hx rfl (hb hby d4_77) rfl k) ?_
  show own_Go p e below s _ _ _ (T113.setTop (mkF m 79 #[.val (.ref a), .val (.ref b_), .val (.ref b2), .val (.ref b5), .val (.int (3 : Int32))] [(.int (3 : Int32)), (.ref bc_), (.ref b2), (.int (3 : Int32)), (.ref b_)]))
  have F115 := (F103.other W110 (Ne.symm ne_b__bc_))
  obtain ⟨cl114, Ar114, q114, S114, M114, H114, G114⟩ := (id F115)
  have hin114 : ¬ ((3 : Int32) < 0 ∨ cl114.slots.size ≤ ((3 : Int32)).toNatClampNeg) := inb_of S114 ⟨by decide, by decide⟩
  have hat114 : cl114.slots[((3 : Int32)).toNatClampNeg]? = some (.int (Nat.toInt32 e3_)) := Has.at H114 hin114 rfl
  refine own_via (fun _ k => X113.iaload hx (j := (3 : Int32)) (v := (.int (Nat.toInt32 e3_))) (by rw [e113]; exact Ar114.1) (State.isArrayOf_alike hZ.alike Ar114.2.1) Ar114.2.2 hin114 hat114 (g := (mkF m 79 #[.val (.ref a), .val (.ref b_), .val (.ref b2), .val (.ref b5), .val (.int (3 : Int32))] [(.int (3 : Int32)), (.ref bc_), (.ref b2), (.int (3 : Int32)), (.ref b_)])) rfl rfl (hb hby d4_79) _ k) ?_
  show own_Go p e below s _ _ _ (T113.setTop (mkF m 80 #[.val (.ref a), .val (.ref b_), .val (.ref b2), .val (.ref b5), .val (.int (3 : Int32))] [(.int (Nat.toInt32 e3_)), (.ref b2), (.int (3 : Int32)), (.ref b_)]))
  have F117 := (F105.other W110 (Ne.symm ne_b__b2))
  obtain ⟨cl116, Ar116, q116, S116, M116, H116, G116⟩ := (id F117)
  have hin116 : ¬ ((Nat.toInt32 e3_) < 0 ∨ cl116.slots.size ≤ ((Nat.toInt32 e3_)).toNatClampNeg) := inb_of S116 ⟨own_nn ha3, (own_ltn hNN ha3).mpr hp12⟩
  have hat116 : cl116.slots[((Nat.toInt32 e3_)).toNatClampNeg]? = some (.double (own_gd S904 e3_)) := Has.at H116 hin116 (own_gdm _ ha3)
  refine own_via (fun _ k => X113.daload hx (j := (Nat.toInt32 e3_)) (v := (.double (own_gd S904 e3_))) (by rw [e113]; exact Ar116.1) (State.isArrayOf_alike hZ.alike Ar116.2.1) Ar116.2.2 hin116 hat116 (g := (mkF m 80 #[.val (.ref a), .val (.ref b_), .val (.ref b2), .val (.ref b5), .val (.int (3 : Int32))] [(.int (Nat.toInt32 e3_)), (.ref b2), (.int (3 : Int32)), (.ref b_)])) rfl rfl (hb hby d4_80) _ k) ?_
  show own_Go p e below s _ _ _ (T113.setTop (mkF m 81 #[.val (.ref a), .val (.ref b_), .val (.ref b2), .val (.ref b5), .val (.int (3 : Int32))] [(.double (own_gd S904 e3_)), (.int (3 : Int32)), (.ref b_)]))
  refine own_via (fun _ k => XS.aloadN X113.here hx rfl (hb hby d4_81) rfl rfl k) ?_
  show own_Go p e below s _ _ _ (T113.setTop (mkF m 82 #[.val (.ref a), .val (.ref b_), .val (.ref b2), .val (.ref b5), .val (.int (3 : Int32))] [(.ref b5), (.double (own_gd S904 e3_)), (.int (3 : Int32)), (.ref b_)]))
  refine own_via (fun _ k => XS.aloadN X113.here hx rfl (hb hby d4_82) rfl rfl k) ?_
  show own_Go p e below s _ _ _ (T113.setTop (mkF m 83 #[.val (.ref a), .val (.ref b_), .val (.ref b2), .val (.ref b5), .val (.int (3 : Int32))] [(.ref a), (.ref b5), (.double (own_gd S904 e3_)), (.int (3 : Int32)), (.ref b_)]))
  obtain ⟨T118, X118, e118, st118⟩ := getF X113 hx hZ hown (host := "") (Or.inl (hw _ (List.mem_of_getElem? (i := 16) rfl))) Via.refl e113 F112 (g := (mkF m 83 #[.val (.ref a), .val (.ref b_), .val (.ref b2), .val (.ref b5), .val (.int (3 : Int32))] [(.ref a), (.ref b5), (.double (own_gd S904 e3_)), (.int (3 : Int32)), (.ref b_)])) rfl rfl (hb hby d4_83)
  refine own_via st118 ?_
  show own_Go p e below s _ _ _ (T118.setTop (mkF m 86 #[.val (.ref a), .val (.ref b_), .val (.ref b2), .val (.ref b5), .val (.int (3 : Int32))] [(.ref bc_), (.ref b5), (.double (own_gd S904 e3_)), (.int (3 : Int32)), (.ref b_)]))
  refine own_via (fun _ k => XS.iload X118.here hx rfl (hb hby d4_86) rfl k) ?_
  show own_Go p e below s _ _ _ (T118.setTop (mkF m 88 #[.val (.ref a), .val (.ref b_), .val (.ref b2), .val (.ref b5), .val (.int (3 : Int32))] [(.int (3 : Int32)), (.ref bc_), (.ref b5), (.double (own_gd S904 e3_)), (.int (3 : Int32)), (.ref b_)]))
  obtain ⟨cl119, Ar119, q119, S119, M119, H119, G119⟩ := (id F115)
  have hin119 : ¬ ((3 : Int32) < 0 ∨ cl119.slots.size ≤ ((3 : Int32)).toNatClampNeg) := inb_of S119 ⟨by decide, by decide⟩
  have hat119 : cl119.slots[((3 : Int32)).toNatClampNeg]? = some (.int (Nat.toInt32 e3_)) := Has.at H119 hin119 rfl
  refine own_via (fun _ k => X118.iaload hx (j := (3 : Int32)) (v := (.int (Nat.toInt32 e3_))) (by rw [e118]; exact Ar119.1) (State.isArrayOf_alike hZ.alike Ar119.2.1) Ar119.2.2 hin119 hat119 (g := (mkF m 88 #[.val (.ref a), .val (.ref b_), .val (.ref b2), .val (.ref b5), .val (.int (3 : Int32))] [(.int (3 : Int32)), (.ref bc_), (.ref b5), (.double (own_gd S904 e3_)), (.int (3 : Int32)), (.ref b_)])) rfl rfl (hb hby d4_88) _ k) ?_
  show own_Go p e below s _ _ _ (T118.setTop (mkF m 89 #[.val (.ref a), .val (.ref b_), .val (.ref b2), .val (.ref b5), .val (.int (3 : Int32))] [(.int (Nat.toInt32 e3_)), (.ref b5), (.double (own_gd S904 e3_)), (.int (3 : Int32)), (.ref b_)]))
  have F121 := (F109.other W110 (Ne.symm ne_b__b5))
  obtain ⟨cl120, Ar120, q120, S120, M120, H120, G120⟩ := (id F121)
  have hin120 : ¬ ((Nat.toInt32 e3_) < 0 ∨ cl120.slots.size ≤ ((Nat.toInt32 e3_)).toNatClampNeg) := inb_of S120 ⟨own_nn ha3, (own_ltn hNN ha3).mpr hp12⟩
  have hat120 : cl120.slots[((Nat.toInt32 e3_)).toNatClampNeg]? = some (.int (own_gi C904 e3_)) := Has.at H120 hin120 (own_gim _ ha3)
  refine own_via (fun _ k => X118.iaload hx (j := (Nat.toInt32 e3_)) (v := (.int (own_gi C904 e3_))) (by rw [e118]; exact Ar120.1) (State.isArrayOf_alike hZ.alike Ar120.2.1) Ar120.2.2 hin120 hat120 (g := (mkF m 89 #[.val (.ref a), .val (.ref b_), .val (.ref b2), .val (.ref b5), .val (.int (3 : Int32))] [(.int (Nat.toInt32 e3_)), (.ref b5), (.double (own_gd S904 e3_)), (.int (3 : Int32)), (.ref b_)])) rfl rfl (hb hby d4_89) _ k) ?_
  show own_Go p e below s _ _ _ (T118.setTop (mkF m 90 #[.val (.ref a), .val (.ref b_), .val (.ref b2), .val (.ref b5), .val (.int (3 : Int32))] [(.int (own_gi C904 e3_)), (.double (own_gd S904 e3_)), (.int (3 : Int32)), (.ref b_)]))
  refine own_via (fun _ k => XS.i2dS X118.here hx rfl (hb hby d4_90) rfl rfl k) ?_
  show own_Go p e below s _ _ _ (T118.setTop (mkF m 91 #[.val (.ref a), .val (.ref b_), .val (.ref b2), .val (.ref b5), .val (.int (3 : Int32))] [(.double (FP.i2d (own_gi C904 e3_))), (.double (own_gd S904 e3_)), (.int (3 : Int32)), (.ref b_)]))
  refine own_via (fun _ k => XS.ddivS X118.here hx rfl (hb hby d4_91) rfl (by rw [hSS, hCC]; exact own_Q_n hb0 hb1 hb2 hb3 hp13 hp14 hp15 hp16 (Or.inr (Or.inr (Or.inr rfl)))) rfl k) ?_
  show own_Go p e below s _ _ _ (T118.setTop (mkF m 92 #[.val (.ref a), .val (.ref b_), .val (.ref b2), .val (.ref b5), .val (.int (3 : Int32))] [(.double (FP.ddiv (own_gd S904 e3_) (FP.i2d (own_gi C904 e3_)))), (.int (3 : Int32)), (.ref b_)]))
  obtain ⟨cl122, Ar122, q122, S122, M122, H122, G122⟩ := (id V110)
  have hin122 : ¬ ((3 : Int32) < 0 ∨ cl122.slots.size ≤ ((3 : Int32)).toNatClampNeg) := inb_of S122 ⟨by decide, by decide⟩
  obtain ⟨T122, h122, X122, e122, W122, st122⟩ := stD X118 hx hZ e118 Ar122 (j := (3 : Int32)) hin122 (g := (mkF m 92 #[.val (.ref a), .val (.ref b_), .val (.ref b2), .val (.ref b5), .val (.int (3 : Int32))] [(.double (FP.ddiv (own_gd S904 e3_) (FP.i2d (own_gi C904 e3_)))), (.int (3 : Int32)), (.ref b_)])) rfl rfl (hb hby d4_92)
  have V122 : Arv Z h122 b_ kb_ .double (4 : Int32) [(.double (FP.ddiv (own_gd S904 e0_) (FP.i2d (own_gi C904 e0_)))), (.double (FP.ddiv (own_gd S904 e1_) (FP.i2d (own_gi C904 e1_)))), (.double (FP.ddiv (own_gd S904 e2_) (FP.i2d (own_gi C904 e2_)))), (.double (FP.ddiv (own_gd S904 e3_) (FP.i2d (own_gi C904 e3_))))] (.double (0 : UInt64)) := Arv.set Ar122 q122 S122 M122 H122 G122 rfl W122 3 rfl (Nat.le_of_ble_eq_true rfl)
  have N122 := Fr.snoc X122 N110 g_b_
  have Z122 : n0 ≤ h122.size := Nat.le_trans Z110 (Keep.of_wr W122).1
  have K122 : Keep h0 h122 [b_] := K110.wr W122 (Or.inl (List.mem_of_getElem? (i := 0) rfl))
  refine own_via st122 ?_
  show own_Go p e below s _ _ _ (T122.setTop (mkF m 93 #[.val (.ref a), .val (.ref b_), .val (.ref b2), .val (.ref b5), .val (.int (3 : Int32))] []))
  refine own_via (fun _ k => XS.iinc X122.here hx rfl (hb hby d4_93) rfl (l' := #[.val (.ref a), .val (.ref b_), .val (.ref b2), .val (.ref b5), .val (.int (4 : Int32))]) rfl k) ?_
  show own_Go p e below s _ _ _ (T122.setTop (mkF m 96 #[.val (.ref a), .val (.ref b_), .val (.ref b2), .val (.ref b5), .val (.int (4 : Int32))] []))
  refine own_via (fun _ k => XS.goto X122.here hx rfl (pc0 := 96) (pc' := 62) rfl (hb hby d4_96) (by decide) (by decide) k) ?_
  show own_Go p e below s _ _ _ (T122.setTop (mkF m 62 #[.val (.ref a), .val (.ref b_), .val (.ref b2), .val (.ref b5), .val (.int (4 : Int32))] []))
  refine own_via (fun _ k => XS.iload X122.here hx rfl (hb hby d4_62) rfl k) ?_
  show own_Go p e below s _ _ _ (T122.setTop (mkF m 64 #[.val (.ref a), .val (.ref b_), .val (.ref b2), .val (.ref b5), .val (.int (4 : Int32))] [(.int (4 : Int32))]))
  refine own_via (fun _ k => XS.aloadN X122.here hx rfl (hb hby d4_64) rfl rfl k) ?_
  show own_Go p e below s _ _ _ (T122.setTop (mkF m 65 #[.val (.ref a), .val (.ref b_), .val (.ref b2), .val (.ref b5), .val (.int (4 : Int32))] [(.ref b_), (.int (4 : Int32))]))
  obtain ⟨cl123, Ar123, q123, S123, M123, H123, G123⟩ := (id V122)
  refine own_via (fun _ k => X122.arraylength hx (by rw [e122]; exact Ar123.1) (State.isArrayOf_alike hZ.alike Ar123.2.1) (g := (mkF m 65 #[.val (.ref a), .val (.ref b_), .val (.ref b2), .val (.ref b5), .val (.int (4 : Int32))] [(.ref b_), (.int (4 : Int32))])) rfl rfl (hb hby d4_65) _ (by rw [len_of S123 M123]; exact k)) ?_
  show own_Go p e below s _ _ _ (T122.setTop (mkF m 66 #[.val (.ref a), .val (.ref b_), .val (.ref b2), .val (.ref b5), .val (.int (4 : Int32))] [(.int (4 : Int32)), (.int (4 : Int32))]))
  refine own_via (fun _ k => XS.icmpYes X122.here hx rfl (pc0 := 66) (pc' := 99) rfl (hb hby d4_66) rfl (Jvm.Free.XT.ii_ge_t (by decide)) (by decide) (by decide) k) ?_
  show own_Go p e below s _ _ _ (T122.setTop (mkF m 99 #[.val (.ref a), .val (.ref b_), .val (.ref b2), .val (.ref b5), .val (.int (4 : Int32))] []))
  exact own_goV X122 hx Bd.returns (hb hby d4_99) Bd.notSynchronized (by decide) (by decide) (by rw [e122]; exact ⟨rfl, N122, K122, (by rw [← hSS, ← hCC]; exact V122)⟩)
theorem d5_0 : decode method_3_code 0 = .ok (.dconst 0, 1) := by decide +kernel
theorem d5_1 : decode method_3_code 1 = .ok (.dstore_n 3, 1) := by decide +kernel
theorem d5_2 : decode method_3_code 2 = .ok (.iconst 0, 1) := by decide +kernel
theorem d5_3 : decode method_3_code 3 = .ok (.istore 5, 2) := by decide +kernel
theorem d5_69 : decode method_3_code 69 = .ok (.dload_n 3, 1) := by decide +kernel
theorem d5_70 : decode method_3_code 70 = .ok (.iload 5, 2) := by decide +kernel
theorem d5_72 : decode method_3_code 72 = .ok (.i2d, 1) := by decide +kernel
theorem d5_73 : decode method_3_code 73 = .ok (.ddiv, 1) := by decide +kernel
theorem d5_74 : decode method_3_code 74 = .ok (.dreturn, 1) := by decide +kernel
theorem d5_53 : decode method_3_code 53 = .ok (.aload_n 1, 1) := by decide +kernel
theorem d5_54 : decode method_3_code 54 = .ok (.iconst 3, 1) := by decide +kernel
theorem d5_55 : decode method_3_code 55 = .ok (.iaload, 1) := by decide +kernel
theorem d5_56 : decode method_3_code 56 = .ok (.iload_n 0, 1) := by decide +kernel
theorem d5_57 : decode method_3_code 57 = .ok (.if_icmp .ne 12, 3) := by decide +kernel
theorem d5_60 : decode method_3_code 60 = .ok (.dload_n 3, 1) := by decide +kernel
theorem d5_61 : decode method_3_code 61 = .ok (.aload_n 2, 1) := by decide +kernel
theorem d5_62 : decode method_3_code 62 = .ok (.iconst 3, 1) := by decide +kernel
theorem d5_63 : decode method_3_code 63 = .ok (.daload, 1) := by decide +kernel
theorem d5_64 : decode method_3_code 64 = .ok (.dadd, 1) := by decide +kernel
theorem d5_65 : decode method_3_code 65 = .ok (.dstore_n 3, 1) := by decide +kernel
theorem d5_66 : decode method_3_code 66 = .ok (.iinc 5 1, 3) := by decide +kernel
theorem d5_37 : decode method_3_code 37 = .ok (.aload_n 1, 1) := by decide +kernel
theorem d5_38 : decode method_3_code 38 = .ok (.iconst 2, 1) := by decide +kernel
theorem d5_39 : decode method_3_code 39 = .ok (.iaload, 1) := by decide +kernel
theorem d5_40 : decode method_3_code 40 = .ok (.iload_n 0, 1) := by decide +kernel
theorem d5_41 : decode method_3_code 41 = .ok (.if_icmp .ne 12, 3) := by decide +kernel
theorem d5_44 : decode method_3_code 44 = .ok (.dload_n 3, 1) := by decide +kernel
theorem d5_45 : decode method_3_code 45 = .ok (.aload_n 2, 1) := by decide +kernel
theorem d5_46 : decode method_3_code 46 = .ok (.iconst 2, 1) := by decide +kernel
theorem d5_47 : decode method_3_code 47 = .ok (.daload, 1) := by decide +kernel
theorem d5_48 : decode method_3_code 48 = .ok (.dadd, 1) := by decide +kernel
theorem d5_49 : decode method_3_code 49 = .ok (.dstore_n 3, 1) := by decide +kernel
theorem d5_50 : decode method_3_code 50 = .ok (.iinc 5 1, 3) := by decide +kernel
theorem d5_21 : decode method_3_code 21 = .ok (.aload_n 1, 1) := by decide +kernel
theorem d5_22 : decode method_3_code 22 = .ok (.iconst 1, 1) := by decide +kernel
theorem d5_23 : decode method_3_code 23 = .ok (.iaload, 1) := by decide +kernel
theorem d5_24 : decode method_3_code 24 = .ok (.iload_n 0, 1) := by decide +kernel
theorem d5_25 : decode method_3_code 25 = .ok (.if_icmp .ne 12, 3) := by decide +kernel
theorem d5_28 : decode method_3_code 28 = .ok (.dload_n 3, 1) := by decide +kernel
theorem d5_29 : decode method_3_code 29 = .ok (.aload_n 2, 1) := by decide +kernel
theorem d5_30 : decode method_3_code 30 = .ok (.iconst 1, 1) := by decide +kernel
theorem d5_31 : decode method_3_code 31 = .ok (.daload, 1) := by decide +kernel
theorem d5_32 : decode method_3_code 32 = .ok (.dadd, 1) := by decide +kernel
theorem d5_33 : decode method_3_code 33 = .ok (.dstore_n 3, 1) := by decide +kernel
theorem d5_34 : decode method_3_code 34 = .ok (.iinc 5 1, 3) := by decide +kernel
theorem d5_5 : decode method_3_code 5 = .ok (.aload_n 1, 1) := by decide +kernel
theorem d5_6 : decode method_3_code 6 = .ok (.iconst 0, 1) := by decide +kernel
theorem d5_7 : decode method_3_code 7 = .ok (.iaload, 1) := by decide +kernel
theorem d5_8 : decode method_3_code 8 = .ok (.iload_n 0, 1) := by decide +kernel
theorem d5_9 : decode method_3_code 9 = .ok (.if_icmp .ne 12, 3) := by decide +kernel
theorem d5_12 : decode method_3_code 12 = .ok (.dload_n 3, 1) := by decide +kernel
theorem d5_13 : decode method_3_code 13 = .ok (.aload_n 2, 1) := by decide +kernel
theorem d5_14 : decode method_3_code 14 = .ok (.iconst 0, 1) := by decide +kernel
theorem d5_15 : decode method_3_code 15 = .ok (.daload, 1) := by decide +kernel
theorem d5_16 : decode method_3_code 16 = .ok (.dadd, 1) := by decide +kernel
theorem d5_17 : decode method_3_code 17 = .ok (.dstore_n 3, 1) := by decide +kernel
theorem d5_18 : decode method_3_code 18 = .ok (.iinc 5 1, 3) := by decide +kernel
theorem pn_2 : plainName "com/example/enlace/enlace/rank/EquitablePartitionAveragePinLaw" = true := by first | (simp [plainName, overriddenIn]; done) | decide +kernel
theorem ef_5 (m : MethodId) (x0 : Int32) (x1 : Addr) (x2 : Addr) : entryFrame m #[(.int x0), (.ref x1), (.ref x2)] 6 = mkF m 0 #[.val (.int x0), .val (.ref x1), .val (.ref x2), .unset, .unset, .unset] [] := by first | (simp [entryFrame, mkF, argsToLocals, Value.category]; done) | rfl
def Q5 (Z : State) (pq_ : Int32) (bc_ : Addr) (b_ : Addr) (kc_ : ClassId) (kb_ : ClassId) (c0_ : Int32) (c1_ : Int32) (c2_ : Int32) (c3_ : Int32) (x0_ : UInt64) (x1_ : UInt64) (x2_ : UInt64) (x3_ : UInt64) (h0 : Heap) (n0 : Nat) (v : Option Value) (h : Heap) (L : List Loc) : Prop := v = some (.double (own_mean c0_ c1_ c2_ c3_ x0_ x1_ x2_ x3_ pq_)) ∧ Fr n0 L ∧ h = h0
set_option maxRecDepth 65536 in
set_option maxHeartbeats 40000000 in
theorem rm5 (l : Launch) (Z : State) (a0 : Array Value) (hw : ∀ d ∈ tables_1, d.before a0 Z = true) (ws : List Jvm.Cond) (pq_ : Int32) (bc_ : Addr) (b_ : Addr) (kc_ : ClassId) (kb_ : ClassId) (c0_ : Int32) (c1_ : Int32) (c2_ : Int32) (c3_ : Int32) (x0_ : UInt64) (x1_ : UInt64) (x2_ : UInt64) (x3_ : UInt64) (h0 : Heap) (n0 : Nat) (Z0 : n0 ≤ h0.size) (V_bc_ : Arv Z h0 bc_ kc_ .int (4 : Int32) [(.int c0_), (.int c1_), (.int c2_), (.int c3_)] (.int (0 : Int32))) (V_b_ : Arv Z h0 b_ kb_ .double (4 : Int32) [(.double x0_), (.double x1_), (.double x2_), (.double x3_)] (.double (0 : UInt64))) (hp2 : c0_ = pq_ ∨ c1_ = pq_ ∨ c2_ = pq_ ∨ c3_ = pq_) (hp3 : own_Fi x0_) (hp4 : own_Fi x1_) (hp5 : own_Fi x2_) (hp6 : own_Fi x3_) :
    MetFree l (⟨"com/example/enlace/enlace/rank/EquitablePartitionAveragePinLaw", "mean", "(I[I[D)D"⟩ : MethodName) (head1 (Jvm.Cond.code (⟨"com/example/enlace/enlace/rank/EquitablePartitionAveragePinLaw", "mean", "(I[I[D)D"⟩ : MethodName) method_3_code 6 (some .double) :: ws) ({ frames := 0, cells := 0, slots := 0, locals := 0 } : Room)) (fun q_ U => q_ = #[(.int pq_), (.ref bc_), (.ref b_)] ∧ Z.Warmed39 U.vm ∧ U.heap = h0) (fun _ _ _ _ _ => True) (fun _ U o U' => ∃ v L, o = .returned v ∧ Q5 Z pq_ bc_ b_ kc_ kb_ c0_ c1_ c2_ c3_ x0_ x1_ x2_ x3_ h0 n0 v U'.heap L ∧ FrameEnd U o U' L ({ frames := 0, cells := 0, slots := 0, locals := 0 } : Room).cells ({ frames := 0, cells := 0, slots := 0, locals := 0 } : Room).slots) := by
  refine MetFree.of_bodySF (plainFor_of_name pn_2) hisR ?_
  intro p e s m args below meth c s₁ Bd hml0 hP hK
  obtain ⟨rfl, hZ, hh⟩ := hP
  have hx := Bd.exec
  have hby := Bd.bytes
  have hml : c.maxLocals = 6 := hml0
  have hown : s.vm.findClass "com/example/enlace/enlace/rank/EquitablePartitionAveragePinLaw" = some m.cls := findClass_of_methodNamed Bd.named
  have hnm := (name_of_methodNamed Bd.named Bd.method).1
  have X0 : Stand p l e ({ frames := 0, cells := 0, slots := 0, locals := 0 } : Room) s m #[(.int pq_), (.ref bc_), (.ref b_)] below meth c s₁ [] 0 0 := Stand.of_body Bd
  have e0 : s₁.heap = h0 := by rw [← hh, Bd.state]; rfl
  have N0 := Fr.nil n0
  show own_Go p e below s (Q5 Z pq_ bc_ b_ kc_ kb_ c0_ c1_ c2_ c3_ x0_ x1_ x2_ x3_ h0 n0) ({ frames := 0, cells := 0, slots := 0, locals := 0 } : Room).cells ({ frames := 0, cells := 0, slots := 0, locals := 0 } : Room).slots (s₁.setTop (entryFrame m #[(.int pq_), (.ref bc_), (.ref b_)] 6))
  refine own_via (fun t k => castTop (ef_5 m pq_ bc_ b_) k) ?_
  show own_Go p e below s _ _ _ (s₁.setTop (mkF m 0 #[.val (.int pq_), .val (.ref bc_), .val (.ref b_), .unset, .unset, .unset] []))
  refine own_via (fun _ k => XS.dconst0 X0.here hx rfl (hb hby d5_0) (v := o_d0) rfl k) ?_
  show own_Go p e below s _ _ _ (s₁.setTop (mkF m 1 #[.val (.int pq_), .val (.ref bc_), .val (.ref b_), .unset, .unset, .unset] [(.double o_d0)]))
  refine own_via (fun _ k => XS.dstoreN X0.here hx rfl (hb hby d5_1) rfl (l' := #[.val (.int pq_), .val (.ref bc_), .val (.ref b_), .val (.double o_d0), .second, .unset]) rfl k) ?_
  show own_Go p e below s _ _ _ (s₁.setTop (mkF m 2 #[.val (.int pq_), .val (.ref bc_), .val (.ref b_), .val (.double o_d0), .second, .unset] []))
  refine own_via (fun _ k => XS.iconst X0.here hx rfl (hb hby d5_2) k) ?_
  show own_Go p e below s _ _ _ (s₁.setTop (mkF m 3 #[.val (.int pq_), .val (.ref bc_), .val (.ref b_), .val (.double o_d0), .second, .unset] [(.int (0 : Int32))]))
  refine own_via (fun _ k => XS.istore X0.here hx rfl (hb hby d5_3) rfl (l' := #[.val (.int pq_), .val (.ref bc_), .val (.ref b_), .val (.double o_d0), .second, .val (.int (0 : Int32))]) rfl k) ?_
  show own_Go p e below s _ _ _ (s₁.setTop (mkF m 5 #[.val (.int pq_), .val (.ref bc_), .val (.ref b_), .val (.double o_d0), .second, .val (.int (0 : Int32))] []))
  rw [show o_d0 = (0 : UInt64) from rfl]
  show own_Go p e below s _ _ _ (s₁.setTop (mkF m 5 #[.val (.int pq_), .val (.ref bc_), .val (.ref b_), .val (.double (0 : UInt64)), .second, .val (.int (Nat.toInt32 0))] []))
  have jm1 : ∀ (d1 : UInt64) (n1 : Nat) (T1 : State) (lo1 : List Loc) (h1 : Heap), Stand p l e ({ frames := 0, cells := 0, slots := 0, locals := 0 } : Room) s m #[(.int pq_), (.ref bc_), (.ref b_)] below meth c T1 lo1 0 0 → T1.heap = h1 → Fr n0 lo1 → n0 ≤ h1.size → h1 = h0 → Arv Z h1 bc_ kc_ .int (4 : Int32) [(.int c0_), (.int c1_), (.int c2_), (.int c3_)] (.int (0 : Int32)) → Arv Z h1 b_ kb_ .double (4 : Int32) [(.double x0_), (.double x1_), (.double x2_), (.double x3_)] (.double (0 : UInt64)) → d1 = own_m1 c0_ pq_ (0 : UInt64) x0_ → n1 = own_m2 c0_ pq_ 0 → own_NN d1 → n1 ≤ 1 → own_Go p e below s (Q5 Z pq_ bc_ b_ kc_ kb_ c0_ c1_ c2_ c3_ x0_ x1_ x2_ x3_ h0 n0) ({ frames := 0, cells := 0, slots := 0, locals := 0 } : Room).cells ({ frames := 0, cells := 0, slots := 0, locals := 0 } : Room).slots (T1.setTop (mkF m 21 #[.val (.int pq_), .val (.ref bc_), .val (.ref b_), .val (.double d1), .second, .val (.int (Nat.toInt32 n1))] [])) := by
    intro d1 n1 T1 lo1 h1 X1 e1 N1 Z1 hh1 F2 F3 hd1 hn1 hq1 hb1
    show own_Go p e below s _ _ _ (T1.setTop (mkF m 21 #[.val (.int pq_), .val (.ref bc_), .val (.ref b_), .val (.double d1), .second, .val (.int (Nat.toInt32 n1))] []))
    have jm2 : ∀ (d2 : UInt64) (n2 : Nat) (T4 : State) (lo4 : List Loc) (h4 : Heap), Stand p l e ({ frames := 0, cells := 0, slots := 0, locals := 0 } : Room) s m #[(.int pq_), (.ref bc_), (.ref b_)] below meth c T4 lo4 0 0 → T4.heap = h4 → Fr n0 lo4 → n0 ≤ h4.size → h4 = h0 → Arv Z h4 bc_ kc_ .int (4 : Int32) [(.int c0_), (.int c1_), (.int c2_), (.int c3_)] (.int (0 : Int32)) → Arv Z h4 b_ kb_ .double (4 : Int32) [(.double x0_), (.double x1_), (.double x2_), (.double x3_)] (.double (0 : UInt64)) → d2 = own_m1 c1_ pq_ d1 x1_ → n2 = own_m2 c1_ pq_ n1 → own_NN d2 → n2 ≤ 2 → own_Go p e below s (Q5 Z pq_ bc_ b_ kc_ kb_ c0_ c1_ c2_ c3_ x0_ x1_ x2_ x3_ h0 n0) ({ frames := 0, cells := 0, slots := 0, locals := 0 } : Room).cells ({ frames := 0, cells := 0, slots := 0, locals := 0 } : Room).slots (T4.setTop (mkF m 37 #[.val (.int pq_), .val (.ref bc_), .val (.ref b_), .val (.double d2), .second, .val (.int (Nat.toInt32 n2))] [])) := by
      intro d2 n2 T4 lo4 h4 X4 e4 N4 Z4 hh4 F5 F6 hd2 hn2 hq2 hb2
      show own_Go p e below s _ _ _ (T4.setTop (mkF m 37 #[.val (.int pq_), .val (.ref bc_), .val (.ref b_), .val (.double d2), .second, .val (.int (Nat.toInt32 n2))] []))
      have jm3 : ∀ (d3 : UInt64) (n3 : Nat) (T7 : State) (lo7 : List Loc) (h7 : Heap), Stand p l e ({ frames := 0, cells := 0, slots := 0, locals := 0 } : Room) s m #[(.int pq_), (.ref bc_), (.ref b_)] below meth c T7 lo7 0 0 → T7.heap = h7 → Fr n0 lo7 → n0 ≤ h7.size → h7 = h0 → Arv Z h7 bc_ kc_ .int (4 : Int32) [(.int c0_), (.int c1_), (.int c2_), (.int c3_)] (.int (0 : Int32)) → Arv Z h7 b_ kb_ .double (4 : Int32) [(.double x0_), (.double x1_), (.double x2_), (.double x3_)] (.double (0 : UInt64)) → d3 = own_m1 c2_ pq_ d2 x2_ → n3 = own_m2 c2_ pq_ n2 → own_NN d3 → n3 ≤ 3 → own_Go p e below s (Q5 Z pq_ bc_ b_ kc_ kb_ c0_ c1_ c2_ c3_ x0_ x1_ x2_ x3_ h0 n0) ({ frames := 0, cells := 0, slots := 0, locals := 0 } : Room).cells ({ frames := 0, cells := 0, slots := 0, locals := 0 } : Room).slots (T7.setTop (mkF m 53 #[.val (.int pq_), .val (.ref bc_), .val (.ref b_), .val (.double d3), .second, .val (.int (Nat.toInt32 n3))] [])) := by
        intro d3 n3 T7 lo7 h7 X7 e7 N7 Z7 hh7 F8 F9 hd3 hn3 hq3 hb3
        show own_Go p e below s _ _ _ (T7.setTop (mkF m 53 #[.val (.int pq_), .val (.ref bc_), .val (.ref b_), .val (.double d3), .second, .val (.int (Nat.toInt32 n3))] []))
        have jm4 : ∀ (d4 : UInt64) (n4 : Nat) (T10 : State) (lo10 : List Loc) (h10 : Heap), Stand p l e ({ frames := 0, cells := 0, slots := 0, locals := 0 } : Room) s m #[(.int pq_), (.ref bc_), (.ref b_)] below meth c T10 lo10 0 0 → T10.heap = h10 → Fr n0 lo10 → n0 ≤ h10.size → h10 = h0 → Arv Z h10 bc_ kc_ .int (4 : Int32) [(.int c0_), (.int c1_), (.int c2_), (.int c3_)] (.int (0 : Int32)) → Arv Z h10 b_ kb_ .double (4 : Int32) [(.double x0_), (.double x1_), (.double x2_), (.double x3_)] (.double (0 : UInt64)) → d4 = own_m1 c3_ pq_ d3 x3_ → n4 = own_m2 c3_ pq_ n3 → own_NN d4 → n4 ≤ 4 → own_Go p e below s (Q5 Z pq_ bc_ b_ kc_ kb_ c0_ c1_ c2_ c3_ x0_ x1_ x2_ x3_ h0 n0) ({ frames := 0, cells := 0, slots := 0, locals := 0 } : Room).cells ({ frames := 0, cells := 0, slots := 0, locals := 0 } : Room).slots (T10.setTop (mkF m 69 #[.val (.int pq_), .val (.ref bc_), .val (.ref b_), .val (.double d4), .second, .val (.int (Nat.toInt32 n4))] [])) := by
          intro d4 n4 T10 lo10 h10 X10 e10 N10 Z10 hh10 F11 F12 hd4 hn4 hq4 hb4
          show own_Go p e below s _ _ _ (T10.setTop (mkF m 69 #[.val (.int pq_), .val (.ref bc_), .val (.ref b_), .val (.double d4), .second, .val (.int (Nat.toInt32 n4))] []))
          have hME : own_md c0_ c1_ c2_ c3_ x0_ x1_ x2_ x3_ pq_ = d4 := by rw [hd4, hd3, hd2, hd1]; rfl
          have hMN : own_mn c0_ c1_ c2_ c3_ pq_ = n4 := by rw [hn4, hn3, hn2, hn1]; rfl
          have hMR := own_mn_r (c0 := c0_) (c1 := c1_) (c2 := c2_) (c3 := c3_) (q := pq_)
          rw [hMN] at hMR
          refine own_via (fun _ k => XS.dloadN X10.here hx rfl (hb hby d5_69) rfl k) ?_
          show own_Go p e below s _ _ _ (T10.setTop (mkF m 70 #[.val (.int pq_), .val (.ref bc_), .val (.ref b_), .val (.double d4), .second, .val (.int (Nat.toInt32 n4))] [(.double d4)]))
          refine own_via (fun _ k => XS.iload X10.here hx rfl (hb hby d5_70) rfl k) ?_
          show own_Go p e below s _ _ _ (T10.setTop (mkF m 72 #[.val (.int pq_), .val (.ref bc_), .val (.ref b_), .val (.double d4), .second, .val (.int (Nat.toInt32 n4))] [(.int (Nat.toInt32 n4)), (.double d4)]))
          refine own_via (fun _ k => XS.i2dS X10.here hx rfl (hb hby d5_72) rfl rfl k) ?_
          show own_Go p e below s _ _ _ (T10.setTop (mkF m 73 #[.val (.int pq_), .val (.ref bc_), .val (.ref b_), .val (.double d4), .second, .val (.int (Nat.toInt32 n4))] [(.double (FP.i2d (Nat.toInt32 n4))), (.double d4)]))
          refine own_via (fun _ k => XS.ddivS X10.here hx rfl (hb hby d5_73) rfl (Jvm.Free.Fl.ddiv_out hq4 (Jvm.Free.Fl.i2d_fin _) (Jvm.Free.Fl.i2d_nz (own_nz (hMR.2 hp2) (Nat.le_trans hb4 (by decide))))) rfl k) ?_
          show own_Go p e below s _ _ _ (T10.setTop (mkF m 74 #[.val (.int pq_), .val (.ref bc_), .val (.ref b_), .val (.double d4), .second, .val (.int (Nat.toInt32 n4))] [(.double (FP.ddiv d4 (FP.i2d (Nat.toInt32 n4))))]))
          exact own_goD X10 hx Bd.returns (hb hby d5_74) Bd.notSynchronized (by decide) (by decide) (by rw [e10]; exact ⟨(by rw [own_mean, hME, hMN]), N10, hh10⟩)
        show own_Go p e below s _ _ _ (T7.setTop (mkF m 53 #[.val (.int pq_), .val (.ref bc_), .val (.ref b_), .val (.double d3), .second, .val (.int (Nat.toInt32 n3))] []))
        refine own_via (fun _ k => XS.aloadN X7.here hx rfl (hb hby d5_53) rfl rfl k) ?_
        show own_Go p e below s _ _ _ (T7.setTop (mkF m 54 #[.val (.int pq_), .val (.ref bc_), .val (.ref b_), .val (.double d3), .second, .val (.int (Nat.toInt32 n3))] [(.ref bc_)]))
        refine own_via (fun _ k => XS.iconst X7.here hx rfl (hb hby d5_54) k) ?_
        show own_Go p e below s _ _ _ (T7.setTop (mkF m 55 #[.val (.int pq_), .val (.ref bc_), .val (.ref b_), .val (.double d3), .second, .val (.int (Nat.toInt32 n3))] [(.int (3 : Int32)), (.ref bc_)]))
        obtain ⟨cl13, Ar13, q13, S13, M13, H13, G13⟩ := (id F8)
        have hin13 : ¬ ((3 : Int32) < 0 ∨ cl13.slots.size ≤ ((3 : Int32)).toNatClampNeg) := inb_of S13 ⟨by decide, by decide⟩
        have hat13 : cl13.slots[((3 : Int32)).toNatClampNeg]? = some (.int c3_) := Has.at H13 hin13 rfl
        refine own_via (fun _ k => X7.iaload hx (j := (3 : Int32)) (v := (.int c3_)) (by rw [e7]; exact Ar13.1) (State.isArrayOf_alike hZ.alike Ar13.2.1) Ar13.2.2 hin13 hat13 (g := (mkF m 55 #[.val (.int pq_), .val (.ref bc_), .val (.ref b_), .val (.double d3), .second, .val (.int (Nat.toInt32 n3))] [(.int (3 : Int32)), (.ref bc_)])) rfl rfl (hb hby d5_55) _ k) ?_
        show own_Go p e below s _ _ _ (T7.setTop (mkF m 56 #[.val (.int pq_), .val (.ref bc_), .val (.ref b_), .val (.double d3), .second, .val (.int (Nat.toInt32 n3))] [(.int c3_)]))
        refine own_via (fun _ k => XS.iloadN X7.here hx rfl (hb hby d5_56) rfl k) ?_
        show own_Go p e below s _ _ _ (T7.setTop (mkF m 57 #[.val (.int pq_), .val (.ref bc_), .val (.ref b_), .val (.double d3), .second, .val (.int (Nat.toInt32 n3))] [(.int pq_), (.int c3_)]))
        by_cases hc14 : c3_ = pq_
        · refine own_via (fun _ k => XS.icmpNo X7.here hx rfl (hb hby d5_57) rfl (Jvm.Free.XT.ii_ne_f hc14) k) ?_
          show own_Go p e below s _ _ _ (T7.setTop (mkF m 60 #[.val (.int pq_), .val (.ref bc_), .val (.ref b_), .val (.double d3), .second, .val (.int (Nat.toInt32 n3))] []))
          refine own_via (fun _ k => XS.dloadN X7.here hx rfl (hb hby d5_60) rfl k) ?_
          show own_Go p e below s _ _ _ (T7.setTop (mkF m 61 #[.val (.int pq_), .val (.ref bc_), .val (.ref b_), .val (.double d3), .second, .val (.int (Nat.toInt32 n3))] [(.double d3)]))
          refine own_via (fun _ k => XS.aloadN X7.here hx rfl (hb hby d5_61) rfl rfl k) ?_
          show own_Go p e below s _ _ _ (T7.setTop (mkF m 62 #[.val (.int pq_), .val (.ref bc_), .val (.ref b_), .val (.double d3), .second, .val (.int (Nat.toInt32 n3))] [(.ref b_), (.double d3)]))
          refine own_via (fun _ k => XS.iconst X7.here hx rfl (hb hby d5_62) k) ?_
          show own_Go p e below s _ _ _ (T7.setTop (mkF m 63 #[.val (.int pq_), .val (.ref bc_), .val (.ref b_), .val (.double d3), .second, .val (.int (Nat.toInt32 n3))] [(.int (3 : Int32)), (.ref b_), (.double d3)]))
          obtain ⟨cl15, Ar15, q15, S15, M15, H15, G15⟩ := (id F9)
          have hin15 : ¬ ((3 : Int32) < 0 ∨ cl15.slots.size ≤ ((3 : Int32)).toNatClampNeg) := inb_of S15 ⟨by decide, by decide⟩
          have hat15 : cl15.slots[((3 : Int32)).toNatClampNeg]? = some (.double x3_) := Has.at H15 hin15 rfl
          refine own_via (fun _ k => X7.daload hx (j := (3 : Int32)) (v := (.double x3_)) (by rw [e7]; exact Ar15.1) (State.isArrayOf_alike hZ.alike Ar15.2.1) Ar15.2.2 hin15 hat15 (g := (mkF m 63 #[.val (.int pq_), .val (.ref bc_), .val (.ref b_), .val (.double d3), .second, .val (.int (Nat.toInt32 n3))] [(.int (3 : Int32)), (.ref b_), (.double d3)])) rfl rfl (hb hby d5_63) _ k) ?_
          show own_Go p e below s _ _ _ (T7.setTop (mkF m 64 #[.val (.int pq_), .val (.ref bc_), .val (.ref b_), .val (.double d3), .second, .val (.int (Nat.toInt32 n3))] [(.double x3_), (.double d3)]))
          refine own_via (fun _ k => XS.daddS X7.here hx rfl (hb hby d5_64) rfl (Jvm.Free.Fl.dadd_out hq3 hp6) rfl k) ?_
          show own_Go p e below s _ _ _ (T7.setTop (mkF m 65 #[.val (.int pq_), .val (.ref bc_), .val (.ref b_), .val (.double d3), .second, .val (.int (Nat.toInt32 n3))] [(.double (FP.dadd d3 x3_))]))
          refine own_via (fun _ k => XS.dstoreN X7.here hx rfl (hb hby d5_65) rfl (l' := #[.val (.int pq_), .val (.ref bc_), .val (.ref b_), .val (.double (FP.dadd d3 x3_)), .second, .val (.int (Nat.toInt32 n3))]) rfl k) ?_
          show own_Go p e below s _ _ _ (T7.setTop (mkF m 66 #[.val (.int pq_), .val (.ref bc_), .val (.ref b_), .val (.double (FP.dadd d3 x3_)), .second, .val (.int (Nat.toInt32 n3))] []))
          refine own_via (fun _ k => XS.iinc X7.here hx rfl (hb hby d5_66) rfl (l' := #[.val (.int pq_), .val (.ref bc_), .val (.ref b_), .val (.double (FP.dadd d3 x3_)), .second, .val (.int ((Nat.toInt32 n3) + (1 : Int32)))]) rfl k) ?_
          show own_Go p e below s _ _ _ (T7.setTop (mkF m 69 #[.val (.int pq_), .val (.ref bc_), .val (.ref b_), .val (.double (FP.dadd d3 x3_)), .second, .val (.int ((Nat.toInt32 n3) + (1 : Int32)))] []))
          rw [own_succ]
          show own_Go p e below s _ _ _ (T7.setTop (mkF m 69 #[.val (.int pq_), .val (.ref bc_), .val (.ref b_), .val (.double (FP.dadd d3 x3_)), .second, .val (.int (Nat.toInt32 (n3 + 1)))] []))
          exact jm4 (FP.dadd d3 x3_) (n3 + 1) _ _ _ X7 e7 N7 Z7 hh7 F8 F9 ((if_pos hc14).symm) ((if_pos hc14).symm) (Jvm.Free.Fl.dadd_out hq3 hp6) (Nat.succ_le_succ hb3)
        · refine own_via (fun _ k => XS.icmpYes X7.here hx rfl (pc0 := 57) (pc' := 69) rfl (hb hby d5_57) rfl (Jvm.Free.XT.ii_ne_t hc14) (by decide) (by decide) k) ?_
          show own_Go p e below s _ _ _ (T7.setTop (mkF m 69 #[.val (.int pq_), .val (.ref bc_), .val (.ref b_), .val (.double d3), .second, .val (.int (Nat.toInt32 n3))] []))
          exact jm4 d3 n3 _ _ _ X7 e7 N7 Z7 hh7 F8 F9 ((if_neg hc14).symm) ((if_neg hc14).symm) (hq3) (Nat.le_succ_of_le hb3)
      show own_Go p e below s _ _ _ (T4.setTop (mkF m 37 #[.val (.int pq_), .val (.ref bc_), .val (.ref b_), .val (.double d2), .second, .val (.int (Nat.toInt32 n2))] []))
      refine own_via (fun _ k => XS.aloadN X4.here hx rfl (hb hby d5_37) rfl rfl k) ?_
      show own_Go p e below s _ _ _ (T4.setTop (mkF m 38 #[.val (.int pq_), .val (.ref bc_), .val (.ref b_), .val (.double d2), .second, .val (.int (Nat.toInt32 n2))] [(.ref bc_)]))
      refine own_via (fun _ k => XS.iconst X4.here hx rfl (hb hby d5_38) k) ?_
      show own_Go p e below s _ _ _ (T4.setTop (mkF m 39 #[.val (.int pq_), .val (.ref bc_), .val (.ref b_), .val (.double d2), .second, .val (.int (Nat.toInt32 n2))] [(.int (2 : Int32)), (.ref bc_)]))
      obtain ⟨cl16, Ar16, q16, S16, M16, H16, G16⟩ := (id F5)
      have hin16 : ¬ ((2 : Int32) < 0 ∨ cl16.slots.size ≤ ((2 : Int32)).toNatClampNeg) := inb_of S16 ⟨by decide, by decide⟩
      have hat16 : cl16.slots[((2 : Int32)).toNatClampNeg]? = some (.int c2_) := Has.at H16 hin16 rfl
      refine own_via (fun _ k => X4.iaload hx (j := (2 : Int32)) (v := (.int c2_)) (by rw [e4]; exact Ar16.1) (State.isArrayOf_alike hZ.alike Ar16.2.1) Ar16.2.2 hin16 hat16 (g := (mkF m 39 #[.val (.int pq_), .val (.ref bc_), .val (.ref b_), .val (.double d2), .second, .val (.int (Nat.toInt32 n2))] [(.int (2 : Int32)), (.ref bc_)])) rfl rfl (hb hby d5_39) _ k) ?_
      show own_Go p e below s _ _ _ (T4.setTop (mkF m 40 #[.val (.int pq_), .val (.ref bc_), .val (.ref b_), .val (.double d2), .second, .val (.int (Nat.toInt32 n2))] [(.int c2_)]))
      refine own_via (fun _ k => XS.iloadN X4.here hx rfl (hb hby d5_40) rfl k) ?_
      show own_Go p e below s _ _ _ (T4.setTop (mkF m 41 #[.val (.int pq_), .val (.ref bc_), .val (.ref b_), .val (.double d2), .second, .val (.int (Nat.toInt32 n2))] [(.int pq_), (.int c2_)]))
      by_cases hc17 : c2_ = pq_
      · refine own_via (fun _ k => XS.icmpNo X4.here hx rfl (hb hby d5_41) rfl (Jvm.Free.XT.ii_ne_f hc17) k) ?_
        show own_Go p e below s _ _ _ (T4.setTop (mkF m 44 #[.val (.int pq_), .val (.ref bc_), .val (.ref b_), .val (.double d2), .second, .val (.int (Nat.toInt32 n2))] []))
        refine own_via (fun _ k => XS.dloadN X4.here hx rfl (hb hby d5_44) rfl k) ?_
        show own_Go p e below s _ _ _ (T4.setTop (mkF m 45 #[.val (.int pq_), .val (.ref bc_), .val (.ref b_), .val (.double d2), .second, .val (.int (Nat.toInt32 n2))] [(.double d2)]))
        refine own_via (fun _ k => XS.aloadN X4.here hx rfl (hb hby d5_45) rfl rfl k) ?_
        show own_Go p e below s _ _ _ (T4.setTop (mkF m 46 #[.val (.int pq_), .val (.ref bc_), .val (.ref b_), .val (.double d2), .second, .val (.int (Nat.toInt32 n2))] [(.ref b_), (.double d2)]))
        refine own_via (fun _ k => XS.iconst X4.here hx rfl (hb hby d5_46) k) ?_
        show own_Go p e below s _ _ _ (T4.setTop (mkF m 47 #[.val (.int pq_), .val (.ref bc_), .val (.ref b_), .val (.double d2), .second, .val (.int (Nat.toInt32 n2))] [(.int (2 : Int32)), (.ref b_), (.double d2)]))
        obtain ⟨cl18, Ar18, q18, S18, M18, H18, G18⟩ := (id F6)
        have hin18 : ¬ ((2 : Int32) < 0 ∨ cl18.slots.size ≤ ((2 : Int32)).toNatClampNeg) := inb_of S18 ⟨by decide, by decide⟩
        have hat18 : cl18.slots[((2 : Int32)).toNatClampNeg]? = some (.double x2_) := Has.at H18 hin18 rfl
        refine own_via (fun _ k => X4.daload hx (j := (2 : Int32)) (v := (.double x2_)) (by rw [e4]; exact Ar18.1) (State.isArrayOf_alike hZ.alike Ar18.2.1) Ar18.2.2 hin18 hat18 (g := (mkF m 47 #[.val (.int pq_), .val (.ref bc_), .val (.ref b_), .val (.double d2), .second, .val (.int (Nat.toInt32 n2))] [(.int (2 : Int32)), (.ref b_), (.double d2)])) rfl rfl (hb hby d5_47) _ k) ?_
        show own_Go p e below s _ _ _ (T4.setTop (mkF m 48 #[.val (.int pq_), .val (.ref bc_), .val (.ref b_), .val (.double d2), .second, .val (.int (Nat.toInt32 n2))] [(.double x2_), (.double d2)]))
        refine own_via (fun _ k => XS.daddS X4.here hx rfl (hb hby d5_48) rfl (Jvm.Free.Fl.dadd_out hq2 hp5) rfl k) ?_
        show own_Go p e below s _ _ _ (T4.setTop (mkF m 49 #[.val (.int pq_), .val (.ref bc_), .val (.ref b_), .val (.double d2), .second, .val (.int (Nat.toInt32 n2))] [(.double (FP.dadd d2 x2_))]))
        refine own_via (fun _ k => XS.dstoreN X4.here hx rfl (hb hby d5_49) rfl (l' := #[.val (.int pq_), .val (.ref bc_), .val (.ref b_), .val (.double (FP.dadd d2 x2_)), .second, .val (.int (Nat.toInt32 n2))]) rfl k) ?_
        show own_Go p e below s _ _ _ (T4.setTop (mkF m 50 #[.val (.int pq_), .val (.ref bc_), .val (.ref b_), .val (.double (FP.dadd d2 x2_)), .second, .val (.int (Nat.toInt32 n2))] []))
        refine own_via (fun _ k => XS.iinc X4.here hx rfl (hb hby d5_50) rfl (l' := #[.val (.int pq_), .val (.ref bc_), .val (.ref b_), .val (.double (FP.dadd d2 x2_)), .second, .val (.int ((Nat.toInt32 n2) + (1 : Int32)))]) rfl k) ?_
        show own_Go p e below s _ _ _ (T4.setTop (mkF m 53 #[.val (.int pq_), .val (.ref bc_), .val (.ref b_), .val (.double (FP.dadd d2 x2_)), .second, .val (.int ((Nat.toInt32 n2) + (1 : Int32)))] []))
        rw [own_succ]
        show own_Go p e below s _ _ _ (T4.setTop (mkF m 53 #[.val (.int pq_), .val (.ref bc_), .val (.ref b_), .val (.double (FP.dadd d2 x2_)), .second, .val (.int (Nat.toInt32 (n2 + 1)))] []))
        exact jm3 (FP.dadd d2 x2_) (n2 + 1) _ _ _ X4 e4 N4 Z4 hh4 F5 F6 ((if_pos hc17).symm) ((if_pos hc17).symm) (Jvm.Free.Fl.dadd_out hq2 hp5) (Nat.succ_le_succ hb2)
      · refine own_via (fun _ k => XS.icmpYes X4.here hx rfl (pc0 := 41) (pc' := 53) rfl (hb hby d5_41) rfl (Jvm.Free.XT.ii_ne_t hc17) (by decide) (by decide) k) ?_
        show own_Go p e below s _ _ _ (T4.setTop (mkF m 53 #[.val (.int pq_), .val (.ref bc_), .val (.ref b_), .val (.double d2), .second, .val (.int (Nat.toInt32 n2))] []))
        exact jm3 d2 n2 _ _ _ X4 e4 N4 Z4 hh4 F5 F6 ((if_neg hc17).symm) ((if_neg hc17).symm) (hq2) (Nat.le_succ_of_le hb2)
    show own_Go p e below s _ _ _ (T1.setTop (mkF m 21 #[.val (.int pq_), .val (.ref bc_), .val (.ref b_), .val (.double d1), .second, .val (.int (Nat.toInt32 n1))] []))
    refine own_via (fun _ k => XS.aloadN X1.here hx rfl (hb hby d5_21) rfl rfl k) ?_
    show own_Go p e below s _ _ _ (T1.setTop (mkF m 22 #[.val (.int pq_), .val (.ref bc_), .val (.ref b_), .val (.double d1), .second, .val (.int (Nat.toInt32 n1))] [(.ref bc_)]))
    refine own_via (fun _ k => XS.iconst X1.here hx rfl (hb hby d5_22) k) ?_
    show own_Go p e below s _ _ _ (T1.setTop (mkF m 23 #[.val (.int pq_), .val (.ref bc_), .val (.ref b_), .val (.double d1), .second, .val (.int (Nat.toInt32 n1))] [(.int (1 : Int32)), (.ref bc_)]))
    obtain ⟨cl19, Ar19, q19, S19, M19, H19, G19⟩ := (id F2)
    have hin19 : ¬ ((1 : Int32) < 0 ∨ cl19.slots.size ≤ ((1 : Int32)).toNatClampNeg) := inb_of S19 ⟨by decide, by decide⟩
    have hat19 : cl19.slots[((1 : Int32)).toNatClampNeg]? = some (.int c1_) := Has.at H19 hin19 rfl
    refine own_via (fun _ k => X1.iaload hx (j := (1 : Int32)) (v := (.int c1_)) (by rw [e1]; exact Ar19.1) (State.isArrayOf_alike hZ.alike Ar19.2.1) Ar19.2.2 hin19 hat19 (g := (mkF m 23 #[.val (.int pq_), .val (.ref bc_), .val (.ref b_), .val (.double d1), .second, .val (.int (Nat.toInt32 n1))] [(.int (1 : Int32)), (.ref bc_)])) rfl rfl (hb hby d5_23) _ k) ?_
    show own_Go p e below s _ _ _ (T1.setTop (mkF m 24 #[.val (.int pq_), .val (.ref bc_), .val (.ref b_), .val (.double d1), .second, .val (.int (Nat.toInt32 n1))] [(.int c1_)]))
    refine own_via (fun _ k => XS.iloadN X1.here hx rfl (hb hby d5_24) rfl k) ?_
    show own_Go p e below s _ _ _ (T1.setTop (mkF m 25 #[.val (.int pq_), .val (.ref bc_), .val (.ref b_), .val (.double d1), .second, .val (.int (Nat.toInt32 n1))] [(.int pq_), (.int c1_)]))
    by_cases hc20 : c1_ = pq_
    · refine own_via (fun _ k => XS.icmpNo X1.here hx rfl (hb hby d5_25) rfl (Jvm.Free.XT.ii_ne_f hc20) k) ?_
      show own_Go p e below s _ _ _ (T1.setTop (mkF m 28 #[.val (.int pq_), .val (.ref bc_), .val (.ref b_), .val (.double d1), .second, .val (.int (Nat.toInt32 n1))] []))
      refine own_via (fun _ k => XS.dloadN X1.here hx rfl (hb hby d5_28) rfl k) ?_
      show own_Go p e below s _ _ _ (T1.setTop (mkF m 29 #[.val (.int pq_), .val (.ref bc_), .val (.ref b_), .val (.double d1), .second, .val (.int (Nat.toInt32 n1))] [(.double d1)]))
      refine own_via (fun _ k => XS.aloadN X1.here hx rfl (hb hby d5_29) rfl rfl k) ?_
      show own_Go p e below s _ _ _ (T1.setTop (mkF m 30 #[.val (.int pq_), .val (.ref bc_), .val (.ref b_), .val (.double d1), .second, .val (.int (Nat.toInt32 n1))] [(.ref b_), (.double d1)]))
      refine own_via (fun _ k => XS.iconst X1.here hx rfl (hb hby d5_30) k) ?_
      show own_Go p e below s _ _ _ (T1.setTop (mkF m 31 #[.val (.int pq_), .val (.ref bc_), .val (.ref b_), .val (.double d1), .second, .val (.int (Nat.toInt32 n1))] [(.int (1 : Int32)), (.ref b_), (.double d1)]))
      obtain ⟨cl21, Ar21, q21, S21, M21, H21, G21⟩ := (id F3)
      have hin21 : ¬ ((1 : Int32) < 0 ∨ cl21.slots.size ≤ ((1 : Int32)).toNatClampNeg) := inb_of S21 ⟨by decide, by decide⟩
      have hat21 : cl21.slots[((1 : Int32)).toNatClampNeg]? = some (.double x1_) := Has.at H21 hin21 rfl
      refine own_via (fun _ k => X1.daload hx (j := (1 : Int32)) (v := (.double x1_)) (by rw [e1]; exact Ar21.1) (State.isArrayOf_alike hZ.alike Ar21.2.1) Ar21.2.2 hin21 hat21 (g := (mkF m 31 #[.val (.int pq_), .val (.ref bc_), .val (.ref b_), .val (.double d1), .second, .val (.int (Nat.toInt32 n1))] [(.int (1 : Int32)), (.ref b_), (.double d1)])) rfl rfl (hb hby d5_31) _ k) ?_
      show own_Go p e below s _ _ _ (T1.setTop (mkF m 32 #[.val (.int pq_), .val (.ref bc_), .val (.ref b_), .val (.double d1), .second, .val (.int (Nat.toInt32 n1))] [(.double x1_), (.double d1)]))
      refine own_via (fun _ k => XS.daddS X1.here hx rfl (hb hby d5_32) rfl (Jvm.Free.Fl.dadd_out hq1 hp4) rfl k) ?_
      show own_Go p e below s _ _ _ (T1.setTop (mkF m 33 #[.val (.int pq_), .val (.ref bc_), .val (.ref b_), .val (.double d1), .second, .val (.int (Nat.toInt32 n1))] [(.double (FP.dadd d1 x1_))]))
      refine own_via (fun _ k => XS.dstoreN X1.here hx rfl (hb hby d5_33) rfl (l' := #[.val (.int pq_), .val (.ref bc_), .val (.ref b_), .val (.double (FP.dadd d1 x1_)), .second, .val (.int (Nat.toInt32 n1))]) rfl k) ?_
      show own_Go p e below s _ _ _ (T1.setTop (mkF m 34 #[.val (.int pq_), .val (.ref bc_), .val (.ref b_), .val (.double (FP.dadd d1 x1_)), .second, .val (.int (Nat.toInt32 n1))] []))
      refine own_via (fun _ k => XS.iinc X1.here hx rfl (hb hby d5_34) rfl (l' := #[.val (.int pq_), .val (.ref bc_), .val (.ref b_), .val (.double (FP.dadd d1 x1_)), .second, .val (.int ((Nat.toInt32 n1) + (1 : Int32)))]) rfl k) ?_
      show own_Go p e below s _ _ _ (T1.setTop (mkF m 37 #[.val (.int pq_), .val (.ref bc_), .val (.ref b_), .val (.double (FP.dadd d1 x1_)), .second, .val (.int ((Nat.toInt32 n1) + (1 : Int32)))] []))
      rw [own_succ]
      show own_Go p e below s _ _ _ (T1.setTop (mkF m 37 #[.val (.int pq_), .val (.ref bc_), .val (.ref b_), .val (.double (FP.dadd d1 x1_)), .second, .val (.int (Nat.toInt32 (n1 + 1)))] []))
      exact jm2 (FP.dadd d1 x1_) (n1 + 1) _ _ _ X1 e1 N1 Z1 hh1 F2 F3 ((if_pos hc20).symm) ((if_pos hc20).symm) (Jvm.Free.Fl.dadd_out hq1 hp4) (Nat.succ_le_succ hb1)
    · refine own_via (fun _ k => XS.icmpYes X1.here hx rfl (pc0 := 25) (pc' := 37) rfl (hb hby d5_25) rfl (Jvm.Free.XT.ii_ne_t hc20) (by decide) (by decide) k) ?_
      show own_Go p e below s _ _ _ (T1.setTop (mkF m 37 #[.val (.int pq_), .val (.ref bc_), .val (.ref b_), .val (.double d1), .second, .val (.int (Nat.toInt32 n1))] []))
      exact jm2 d1 n1 _ _ _ X1 e1 N1 Z1 hh1 F2 F3 ((if_neg hc20).symm) ((if_neg hc20).symm) (hq1) (Nat.le_succ_of_le hb1)
  show own_Go p e below s _ _ _ (s₁.setTop (mkF m 5 #[.val (.int pq_), .val (.ref bc_), .val (.ref b_), .val (.double (0 : UInt64)), .second, .val (.int (Nat.toInt32 0))] []))
  refine own_via (fun _ k => XS.aloadN X0.here hx rfl (hb hby d5_5) rfl rfl k) ?_
  show own_Go p e below s _ _ _ (s₁.setTop (mkF m 6 #[.val (.int pq_), .val (.ref bc_), .val (.ref b_), .val (.double (0 : UInt64)), .second, .val (.int (Nat.toInt32 0))] [(.ref bc_)]))
  refine own_via (fun _ k => XS.iconst X0.here hx rfl (hb hby d5_6) k) ?_
  show own_Go p e below s _ _ _ (s₁.setTop (mkF m 7 #[.val (.int pq_), .val (.ref bc_), .val (.ref b_), .val (.double (0 : UInt64)), .second, .val (.int (Nat.toInt32 0))] [(.int (0 : Int32)), (.ref bc_)]))
  obtain ⟨cl22, Ar22, q22, S22, M22, H22, G22⟩ := (id V_bc_)
  have hin22 : ¬ ((0 : Int32) < 0 ∨ cl22.slots.size ≤ ((0 : Int32)).toNatClampNeg) := inb_of S22 ⟨by decide, by decide⟩
  have hat22 : cl22.slots[((0 : Int32)).toNatClampNeg]? = some (.int c0_) := Has.at H22 hin22 rfl
  refine own_via (fun _ k => X0.iaload hx (j := (0 : Int32)) (v := (.int c0_)) (by rw [e0]; exact Ar22.1) (State.isArrayOf_alike hZ.alike Ar22.2.1) Ar22.2.2 hin22 hat22 (g := (mkF m 7 #[.val (.int pq_), .val (.ref bc_), .val (.ref b_), .val (.double (0 : UInt64)), .second, .val (.int (Nat.toInt32 0))] [(.int (0 : Int32)), (.ref bc_)])) rfl rfl (hb hby d5_7) _ k) ?_
  show own_Go p e below s _ _ _ (s₁.setTop (mkF m 8 #[.val (.int pq_), .val (.ref bc_), .val (.ref b_), .val (.double (0 : UInt64)), .second, .val (.int (Nat.toInt32 0))] [(.int c0_)]))
  refine own_via (fun _ k => XS.iloadN X0.here hx rfl (hb hby d5_8) rfl k) ?_
  show own_Go p e below s _ _ _ (s₁.setTop (mkF m 9 #[.val (.int pq_), .val (.ref bc_), .val (.ref b_), .val (.double (0 : UInt64)), .second, .val (.int (Nat.toInt32 0))] [(.int pq_), (.int c0_)]))
  by_cases hc23 : c0_ = pq_
  · refine own_via (fun _ k => XS.icmpNo X0.here hx rfl (hb hby d5_9) rfl (Jvm.Free.XT.ii_ne_f hc23) k) ?_
    show own_Go p e below s _ _ _ (s₁.setTop (mkF m 12 #[.val (.int pq_), .val (.ref bc_), .val (.ref b_), .val (.double (0 : UInt64)), .second, .val (.int (Nat.toInt32 0))] []))
    refine own_via (fun _ k => XS.dloadN X0.here hx rfl (hb hby d5_12) rfl k) ?_
    show own_Go p e below s _ _ _ (s₁.setTop (mkF m 13 #[.val (.int pq_), .val (.ref bc_), .val (.ref b_), .val (.double (0 : UInt64)), .second, .val (.int (Nat.toInt32 0))] [(.double (0 : UInt64))]))
    refine own_via (fun _ k => XS.aloadN X0.here hx rfl (hb hby d5_13) rfl rfl k) ?_
    show own_Go p e below s _ _ _ (s₁.setTop (mkF m 14 #[.val (.int pq_), .val (.ref bc_), .val (.ref b_), .val (.double (0 : UInt64)), .second, .val (.int (Nat.toInt32 0))] [(.ref b_), (.double (0 : UInt64))]))
    refine own_via (fun _ k => XS.iconst X0.here hx rfl (hb hby d5_14) k) ?_
    show own_Go p e below s _ _ _ (s₁.setTop (mkF m 15 #[.val (.int pq_), .val (.ref bc_), .val (.ref b_), .val (.double (0 : UInt64)), .second, .val (.int (Nat.toInt32 0))] [(.int (0 : Int32)), (.ref b_), (.double (0 : UInt64))]))
    obtain ⟨cl24, Ar24, q24, S24, M24, H24, G24⟩ := (id V_b_)
    have hin24 : ¬ ((0 : Int32) < 0 ∨ cl24.slots.size ≤ ((0 : Int32)).toNatClampNeg) := inb_of S24 ⟨by decide, by decide⟩
    have hat24 : cl24.slots[((0 : Int32)).toNatClampNeg]? = some (.double x0_) := Has.at H24 hin24 rfl
    refine own_via (fun _ k => X0.daload hx (j := (0 : Int32)) (v := (.double x0_)) (by rw [e0]; exact Ar24.1) (State.isArrayOf_alike hZ.alike Ar24.2.1) Ar24.2.2 hin24 hat24 (g := (mkF m 15 #[.val (.int pq_), .val (.ref bc_), .val (.ref b_), .val (.double (0 : UInt64)), .second, .val (.int (Nat.toInt32 0))] [(.int (0 : Int32)), (.ref b_), (.double (0 : UInt64))])) rfl rfl (hb hby d5_15) _ k) ?_
    show own_Go p e below s _ _ _ (s₁.setTop (mkF m 16 #[.val (.int pq_), .val (.ref bc_), .val (.ref b_), .val (.double (0 : UInt64)), .second, .val (.int (Nat.toInt32 0))] [(.double x0_), (.double (0 : UInt64))]))
    refine own_via (fun _ k => XS.daddS X0.here hx rfl (hb hby d5_16) rfl (Jvm.Free.Fl.dadd_out own_0 hp3) rfl k) ?_
    show own_Go p e below s _ _ _ (s₁.setTop (mkF m 17 #[.val (.int pq_), .val (.ref bc_), .val (.ref b_), .val (.double (0 : UInt64)), .second, .val (.int (Nat.toInt32 0))] [(.double (FP.dadd (0 : UInt64) x0_))]))
    refine own_via (fun _ k => XS.dstoreN X0.here hx rfl (hb hby d5_17) rfl (l' := #[.val (.int pq_), .val (.ref bc_), .val (.ref b_), .val (.double (FP.dadd (0 : UInt64) x0_)), .second, .val (.int (Nat.toInt32 0))]) rfl k) ?_
    show own_Go p e below s _ _ _ (s₁.setTop (mkF m 18 #[.val (.int pq_), .val (.ref bc_), .val (.ref b_), .val (.double (FP.dadd (0 : UInt64) x0_)), .second, .val (.int (Nat.toInt32 0))] []))
    refine own_via (fun _ k => XS.iinc X0.here hx rfl (hb hby d5_18) rfl (l' := #[.val (.int pq_), .val (.ref bc_), .val (.ref b_), .val (.double (FP.dadd (0 : UInt64) x0_)), .second, .val (.int ((Nat.toInt32 0) + (1 : Int32)))]) rfl k) ?_
    show own_Go p e below s _ _ _ (s₁.setTop (mkF m 21 #[.val (.int pq_), .val (.ref bc_), .val (.ref b_), .val (.double (FP.dadd (0 : UInt64) x0_)), .second, .val (.int ((Nat.toInt32 0) + (1 : Int32)))] []))
    rw [own_succ]
    show own_Go p e below s _ _ _ (s₁.setTop (mkF m 21 #[.val (.int pq_), .val (.ref bc_), .val (.ref b_), .val (.double (FP.dadd (0 : UInt64) x0_)), .second, .val (.int (Nat.toInt32 (0 + 1)))] []))
    exact jm1 (FP.dadd (0 : UInt64) x0_) (0 + 1) _ _ _ X0 e0 N0 Z0 rfl V_bc_ V_b_ ((if_pos hc23).symm) ((if_pos hc23).symm) (Jvm.Free.Fl.dadd_out own_0 hp3) (Nat.succ_le_succ (Nat.le_refl 0))
  · refine own_via (fun _ k => XS.icmpYes X0.here hx rfl (pc0 := 9) (pc' := 21) rfl (hb hby d5_9) rfl (Jvm.Free.XT.ii_ne_t hc23) (by decide) (by decide) k) ?_
    show own_Go p e below s _ _ _ (s₁.setTop (mkF m 21 #[.val (.int pq_), .val (.ref bc_), .val (.ref b_), .val (.double (0 : UInt64)), .second, .val (.int (Nat.toInt32 0))] []))
    exact jm1 (0 : UInt64) 0 _ _ _ X0 e0 N0 Z0 rfl V_bc_ V_b_ ((if_neg hc23).symm) ((if_neg hc23).symm) (own_0) (Nat.le_succ_of_le (Nat.le_refl 0))

theorem own_n4 (x : Int32) {v : Int32} (h : ((1 : Int32) + (x &&& (3 : Int32))) = v) : ∃ n : Nat, 1 ≤ n ∧ n ≤ 4 ∧ v = Nat.toInt32 n := by
  have a := c_and x 3 (by decide)
  have b := c_iadd 1 (x &&& 3); rw [h] at b
  have c := rng32 v
  have o1 : (1 : Int32).toInt = 1 := rfl
  have o3 : (3 : Int32).toInt = 3 := rfl
  refine ⟨v.toInt.toNat, by omega, by omega, ?_⟩
  apply Int32.toInt_inj.mp; rw [own_t _ (by omega)]; omega
theorem own_ce (y : Int32) {n : Nat} {v : Int32} (h1 : 1 ≤ n) (h2 : n ≤ 4) (h : o_irem (y &&& (255 : Int32)) (Nat.toInt32 n) = v) : ∃ e : Nat, e < n ∧ v = Nat.toInt32 e := by
  have m0 := (c_and y 255 (by decide)).1
  have m1 : o_irem (y &&& (255 : Int32)) (Nat.toInt32 n) = (y &&& (255 : Int32)) % (Nat.toInt32 n) := irem_eq_mod _ _
  have m2 := (c_irem (y &&& (255 : Int32)) (Nat.toInt32 n) n (own_t n (by omega))).1 m0
  rw [← m1, h] at m2
  have m3 := Int.emod_nonneg (y &&& (255 : Int32)).toInt (show (n : Int) ≠ 0 by omega)
  have m4 := Int.emod_lt_of_pos (y &&& (255 : Int32)).toInt (show (0 : Int) < n by omega)
  refine ⟨v.toInt.toNat, by omega, ?_⟩
  apply Int32.toInt_inj.mp; rw [own_t _ (by omega)]; omega

theorem pd_1 : parseMethodDescriptor "([II)V" = some ⟨[(.array .int), .int], none⟩ := by decide +kernel
theorem pd_2 : parseMethodDescriptor "([D)V" = some ⟨[(.array .double)], none⟩ := by decide +kernel
theorem pd_3 : parseMethodDescriptor "(I[I[D)D" = some ⟨[.int, (.array .int), (.array .double)], some .double⟩ := by decide +kernel
theorem ef_0 (m : MethodId) (x0 : Int32) (x1 : Int32) (x2 : Int32) (x3 : Int32) (x4 : Int32) (x5 : Int32) : entryFrame m #[(.int x0), (.int x1), (.int x2), (.int x3), (.int x4), (.int x5)] maxLocals = mkF m 0 #[.val (.int x0), .val (.int x1), .val (.int x2), .val (.int x3), .val (.int x4), .val (.int x5), .unset, .unset, .unset, .unset, .unset, .unset, .unset, .unset, .unset, .unset] [] := by first | (simp [entryFrame, mkF, argsToLocals, Value.category, maxLocals]; done) | rfl
def Q0 (Z : State) (p0 : Int32) (p1 : Int32) (p2 : Int32) (p3 : Int32) (p4 : Int32) (p5 : Int32) (h0 : Heap) (n0 : Nat) (v : Option Value) (h : Heap) (L : List Loc) : Prop := v = some (.int 1) ∧ Fr n0 L
set_option maxRecDepth 65536 in
set_option maxHeartbeats 40000000 in
theorem rm0 (l : Launch) (Z : State) (a0 : Array Value) (hw : ∀ d ∈ tables_1, d.before a0 Z = true) (ws : List Jvm.Cond) (p0 : Int32) (p1 : Int32) (p2 : Int32) (p3 : Int32) (p4 : Int32) (p5 : Int32) (h0 : Heap) (n0 : Nat) (Z0 : n0 ≤ h0.size) :
    MetFree l x (head1 (Jvm.Cond.code x code maxLocals ret :: ws) room_1) (fun q_ U => q_ = #[(.int p0), (.int p1), (.int p2), (.int p3), (.int p4), (.int p5)] ∧ Z.Warmed39 U.vm ∧ U.heap = h0) (fun _ _ _ _ _ => True) (fun _ U o U' => ∃ v L, o = .returned v ∧ Q0 Z p0 p1 p2 p3 p4 p5 h0 n0 v U'.heap L ∧ FrameEnd U o U' L room_1.cells room_1.slots) := by
  refine MetFree.of_bodySF (plainFor_of_name pn_2) hisR ?_
  intro p e s m args below meth c s₁ Bd hml0 hP hK
  obtain ⟨rfl, hZ, hh⟩ := hP
  have hx := Bd.exec
  have hby := Bd.bytes
  have hml : c.maxLocals = 16 := hml0
  have hown : s.vm.findClass "com/example/enlace/enlace/rank/EquitablePartitionAveragePinLaw" = some m.cls := findClass_of_methodNamed Bd.named
  have hnm := (name_of_methodNamed Bd.named Bd.method).1
  have X0 : Stand p l e room_1 s m #[(.int p0), (.int p1), (.int p2), (.int p3), (.int p4), (.int p5)] below meth c s₁ [] 0 0 := Stand.of_body Bd
  have e0 : s₁.heap = h0 := by rw [← hh, Bd.state]; rfl
  have N0 := Fr.nil n0
  show own_Go p e below s (Q0 Z p0 p1 p2 p3 p4 p5 h0 n0) room_1.cells room_1.slots (s₁.setTop (entryFrame m #[(.int p0), (.int p1), (.int p2), (.int p3), (.int p4), (.int p5)] maxLocals))
  refine own_via (fun t k => castTop (ef_0 m p0 p1 p2 p3 p4 p5) k) ?_
  show own_Go p e below s _ _ _ (s₁.setTop (mkF m 0 #[.val (.int p0), .val (.int p1), .val (.int p2), .val (.int p3), .val (.int p4), .val (.int p5), .unset, .unset, .unset, .unset, .unset, .unset, .unset, .unset, .unset, .unset] []))
  refine own_via (fun _ k => XS.iconst X0.here hx rfl (hb hby at_0) k) ?_
  show own_Go p e below s _ _ _ (s₁.setTop (mkF m 1 #[.val (.int p0), .val (.int p1), .val (.int p2), .val (.int p3), .val (.int p4), .val (.int p5), .unset, .unset, .unset, .unset, .unset, .unset, .unset, .unset, .unset, .unset] [(.int (1 : Int32))]))
  refine own_via (fun _ k => XS.iloadN X0.here hx rfl (hb hby at_1) rfl k) ?_
  show own_Go p e below s _ _ _ (s₁.setTop (mkF m 2 #[.val (.int p0), .val (.int p1), .val (.int p2), .val (.int p3), .val (.int p4), .val (.int p5), .unset, .unset, .unset, .unset, .unset, .unset, .unset, .unset, .unset, .unset] [(.int p0), (.int (1 : Int32))]))
  refine own_via (fun _ k => XS.iconst X0.here hx rfl (hb hby at_2) k) ?_
  show own_Go p e below s _ _ _ (s₁.setTop (mkF m 3 #[.val (.int p0), .val (.int p1), .val (.int p2), .val (.int p3), .val (.int p4), .val (.int p5), .unset, .unset, .unset, .unset, .unset, .unset, .unset, .unset, .unset, .unset] [(.int (3 : Int32)), (.int p0), (.int (1 : Int32))]))
  refine own_via (fun _ k => XS.iand X0.here hx rfl (hb hby at_3) rfl k) ?_
  show own_Go p e below s _ _ _ (s₁.setTop (mkF m 4 #[.val (.int p0), .val (.int p1), .val (.int p2), .val (.int p3), .val (.int p4), .val (.int p5), .unset, .unset, .unset, .unset, .unset, .unset, .unset, .unset, .unset, .unset] [(.int (p0 &&& (3 : Int32))), (.int (1 : Int32))]))
  refine own_via (fun _ k => XS.iadd X0.here hx rfl (hb hby at_4) rfl k) ?_
  show own_Go p e below s _ _ _ (s₁.setTop (mkF m 5 #[.val (.int p0), .val (.int p1), .val (.int p2), .val (.int p3), .val (.int p4), .val (.int p5), .unset, .unset, .unset, .unset, .unset, .unset, .unset, .unset, .unset, .unset] [(.int ((1 : Int32) + (p0 &&& (3 : Int32))))]))
  refine own_via (fun _ k => XS.istore X0.here hx rfl (hb hby at_5) rfl (l' := #[.val (.int p0), .val (.int p1), .val (.int p2), .val (.int p3), .val (.int p4), .val (.int p5), .val (.int ((1 : Int32) + (p0 &&& (3 : Int32)))), .unset, .unset, .unset, .unset, .unset, .unset, .unset, .unset, .unset]) rfl k) ?_
  show own_Go p e below s _ _ _ (s₁.setTop (mkF m 7 #[.val (.int p0), .val (.int p1), .val (.int p2), .val (.int p3), .val (.int p4), .val (.int p5), .val (.int ((1 : Int32) + (p0 &&& (3 : Int32)))), .unset, .unset, .unset, .unset, .unset, .unset, .unset, .unset, .unset] []))
  generalize hv1 : ((1 : Int32) + (p0 &&& (3 : Int32))) = v1
  show own_Go p e below s _ _ _ (s₁.setTop (mkF m 7 #[.val (.int p0), .val (.int p1), .val (.int p2), .val (.int p3), .val (.int p4), .val (.int p5), .val (.int v1), .unset, .unset, .unset, .unset, .unset, .unset, .unset, .unset, .unset] []))
  obtain ⟨nN, hn1, hn2, rfl⟩ := own_n4 p0 hv1
  show own_Go p e below s _ _ _ (s₁.setTop (mkF m 7 #[.val (.int p0), .val (.int p1), .val (.int p2), .val (.int p3), .val (.int p4), .val (.int p5), .val (.int (Nat.toInt32 nN)), .unset, .unset, .unset, .unset, .unset, .unset, .unset, .unset, .unset] []))
  have hnz14 : (Nat.toInt32 nN) ≠ 0 := own_nz hn1 (by omega)
  have hnz27 : (Nat.toInt32 nN) ≠ 0 := own_nz hn1 (by omega)
  have hnz40 : (Nat.toInt32 nN) ≠ 0 := own_nz hn1 (by omega)
  have hnz53 : (Nat.toInt32 nN) ≠ 0 := own_nz hn1 (by omega)
  refine own_via (fun _ k => XS.iloadN X0.here hx rfl (hb hby at_7) rfl k) ?_
  show own_Go p e below s _ _ _ (s₁.setTop (mkF m 8 #[.val (.int p0), .val (.int p1), .val (.int p2), .val (.int p3), .val (.int p4), .val (.int p5), .val (.int (Nat.toInt32 nN)), .unset, .unset, .unset, .unset, .unset, .unset, .unset, .unset, .unset] [(.int p1)]))
  refine own_via (fun _ k => XS.sipush X0.here hx rfl (hb hby at_8) k) ?_
  show own_Go p e below s _ _ _ (s₁.setTop (mkF m 11 #[.val (.int p0), .val (.int p1), .val (.int p2), .val (.int p3), .val (.int p4), .val (.int p5), .val (.int (Nat.toInt32 nN)), .unset, .unset, .unset, .unset, .unset, .unset, .unset, .unset, .unset] [(.int (255 : Int32)), (.int p1)]))
  refine own_via (fun _ k => XS.iand X0.here hx rfl (hb hby at_11) rfl k) ?_
  show own_Go p e below s _ _ _ (s₁.setTop (mkF m 12 #[.val (.int p0), .val (.int p1), .val (.int p2), .val (.int p3), .val (.int p4), .val (.int p5), .val (.int (Nat.toInt32 nN)), .unset, .unset, .unset, .unset, .unset, .unset, .unset, .unset, .unset] [(.int (p1 &&& (255 : Int32)))]))
  refine own_via (fun _ k => XS.iload X0.here hx rfl (hb hby at_12) rfl k) ?_
  show own_Go p e below s _ _ _ (s₁.setTop (mkF m 14 #[.val (.int p0), .val (.int p1), .val (.int p2), .val (.int p3), .val (.int p4), .val (.int p5), .val (.int (Nat.toInt32 nN)), .unset, .unset, .unset, .unset, .unset, .unset, .unset, .unset, .unset] [(.int (Nat.toInt32 nN)), (.int (p1 &&& (255 : Int32)))]))
  refine own_via (fun _ k => XS.irem X0.here hx rfl (hb hby at_14) rfl hnz14 k) ?_
  show own_Go p e below s _ _ _ (s₁.setTop (mkF m 15 #[.val (.int p0), .val (.int p1), .val (.int p2), .val (.int p3), .val (.int p4), .val (.int p5), .val (.int (Nat.toInt32 nN)), .unset, .unset, .unset, .unset, .unset, .unset, .unset, .unset, .unset] [(.int (o_irem (p1 &&& (255 : Int32)) (Nat.toInt32 nN)))]))
  refine own_via (fun _ k => XS.istore X0.here hx rfl (hb hby at_15) rfl (l' := #[.val (.int p0), .val (.int p1), .val (.int p2), .val (.int p3), .val (.int p4), .val (.int p5), .val (.int (Nat.toInt32 nN)), .val (.int (o_irem (p1 &&& (255 : Int32)) (Nat.toInt32 nN))), .unset, .unset, .unset, .unset, .unset, .unset, .unset, .unset]) rfl k) ?_
  show own_Go p e below s _ _ _ (s₁.setTop (mkF m 17 #[.val (.int p0), .val (.int p1), .val (.int p2), .val (.int p3), .val (.int p4), .val (.int p5), .val (.int (Nat.toInt32 nN)), .val (.int (o_irem (p1 &&& (255 : Int32)) (Nat.toInt32 nN))), .unset, .unset, .unset, .unset, .unset, .unset, .unset, .unset] []))
  generalize hv2 : (o_irem (p1 &&& (255 : Int32)) (Nat.toInt32 nN)) = v2
  show own_Go p e below s _ _ _ (s₁.setTop (mkF m 17 #[.val (.int p0), .val (.int p1), .val (.int p2), .val (.int p3), .val (.int p4), .val (.int p5), .val (.int (Nat.toInt32 nN)), .val (.int v2), .unset, .unset, .unset, .unset, .unset, .unset, .unset, .unset] []))
  obtain ⟨ue0, he0, rfl⟩ := own_ce _ hn1 hn2 hv2
  have hk0 : ue0 < 4 := Nat.lt_of_lt_of_le he0 hn2
  show own_Go p e below s _ _ _ (s₁.setTop (mkF m 17 #[.val (.int p0), .val (.int p1), .val (.int p2), .val (.int p3), .val (.int p4), .val (.int p5), .val (.int (Nat.toInt32 nN)), .val (.int (Nat.toInt32 ue0)), .unset, .unset, .unset, .unset, .unset, .unset, .unset, .unset] []))
  refine own_via (fun _ k => XS.iloadN X0.here hx rfl (hb hby at_17) rfl k) ?_
  show own_Go p e below s _ _ _ (s₁.setTop (mkF m 18 #[.val (.int p0), .val (.int p1), .val (.int p2), .val (.int p3), .val (.int p4), .val (.int p5), .val (.int (Nat.toInt32 nN)), .val (.int (Nat.toInt32 ue0)), .unset, .unset, .unset, .unset, .unset, .unset, .unset, .unset] [(.int p1)]))
  refine own_via (fun _ k => XS.bipush X0.here hx rfl (hb hby at_18) k) ?_
  show own_Go p e below s _ _ _ (s₁.setTop (mkF m 20 #[.val (.int p0), .val (.int p1), .val (.int p2), .val (.int p3), .val (.int p4), .val (.int p5), .val (.int (Nat.toInt32 nN)), .val (.int (Nat.toInt32 ue0)), .unset, .unset, .unset, .unset, .unset, .unset, .unset, .unset] [(.int (8 : Int32)), (.int p1)]))
  refine own_via (fun _ k => XS.iushr X0.here hx rfl (hb hby at_20) rfl k) ?_
  show own_Go p e below s _ _ _ (s₁.setTop (mkF m 21 #[.val (.int p0), .val (.int p1), .val (.int p2), .val (.int p3), .val (.int p4), .val (.int p5), .val (.int (Nat.toInt32 nN)), .val (.int (Nat.toInt32 ue0)), .unset, .unset, .unset, .unset, .unset, .unset, .unset, .unset] [(.int (o_iushr p1 (8 : Int32)))]))
  refine own_via (fun _ k => XS.sipush X0.here hx rfl (hb hby at_21) k) ?_
  show own_Go p e below s _ _ _ (s₁.setTop (mkF m 24 #[.val (.int p0), .val (.int p1), .val (.int p2), .val (.int p3), .val (.int p4), .val (.int p5), .val (.int (Nat.toInt32 nN)), .val (.int (Nat.toInt32 ue0)), .unset, .unset, .unset, .unset, .unset, .unset, .unset, .unset] [(.int (255 : Int32)), (.int (o_iushr p1 (8 : Int32)))]))
  refine own_via (fun _ k => XS.iand X0.here hx rfl (hb hby at_24) rfl k) ?_
  show own_Go p e below s _ _ _ (s₁.setTop (mkF m 25 #[.val (.int p0), .val (.int p1), .val (.int p2), .val (.int p3), .val (.int p4), .val (.int p5), .val (.int (Nat.toInt32 nN)), .val (.int (Nat.toInt32 ue0)), .unset, .unset, .unset, .unset, .unset, .unset, .unset, .unset] [(.int ((o_iushr p1 (8 : Int32)) &&& (255 : Int32)))]))
  refine own_via (fun _ k => XS.iload X0.here hx rfl (hb hby at_25) rfl k) ?_
  show own_Go p e below s _ _ _ (s₁.setTop (mkF m 27 #[.val (.int p0), .val (.int p1), .val (.int p2), .val (.int p3), .val (.int p4), .val (.int p5), .val (.int (Nat.toInt32 nN)), .val (.int (Nat.toInt32 ue0)), .unset, .unset, .unset, .unset, .unset, .unset, .unset, .unset] [(.int (Nat.toInt32 nN)), (.int ((o_iushr p1 (8 : Int32)) &&& (255 : Int32)))]))
  refine own_via (fun _ k => XS.irem X0.here hx rfl (hb hby at_27) rfl hnz27 k) ?_
  show own_Go p e below s _ _ _ (s₁.setTop (mkF m 28 #[.val (.int p0), .val (.int p1), .val (.int p2), .val (.int p3), .val (.int p4), .val (.int p5), .val (.int (Nat.toInt32 nN)), .val (.int (Nat.toInt32 ue0)), .unset, .unset, .unset, .unset, .unset, .unset, .unset, .unset] [(.int (o_irem ((o_iushr p1 (8 : Int32)) &&& (255 : Int32)) (Nat.toInt32 nN)))]))
  refine own_via (fun _ k => XS.istore X0.here hx rfl (hb hby at_28) rfl (l' := #[.val (.int p0), .val (.int p1), .val (.int p2), .val (.int p3), .val (.int p4), .val (.int p5), .val (.int (Nat.toInt32 nN)), .val (.int (Nat.toInt32 ue0)), .val (.int (o_irem ((o_iushr p1 (8 : Int32)) &&& (255 : Int32)) (Nat.toInt32 nN))), .unset, .unset, .unset, .unset, .unset, .unset, .unset]) rfl k) ?_
  show own_Go p e below s _ _ _ (s₁.setTop (mkF m 30 #[.val (.int p0), .val (.int p1), .val (.int p2), .val (.int p3), .val (.int p4), .val (.int p5), .val (.int (Nat.toInt32 nN)), .val (.int (Nat.toInt32 ue0)), .val (.int (o_irem ((o_iushr p1 (8 : Int32)) &&& (255 : Int32)) (Nat.toInt32 nN))), .unset, .unset, .unset, .unset, .unset, .unset, .unset] []))
  generalize hv3 : (o_irem ((o_iushr p1 (8 : Int32)) &&& (255 : Int32)) (Nat.toInt32 nN)) = v3
  show own_Go p e below s _ _ _ (s₁.setTop (mkF m 30 #[.val (.int p0), .val (.int p1), .val (.int p2), .val (.int p3), .val (.int p4), .val (.int p5), .val (.int (Nat.toInt32 nN)), .val (.int (Nat.toInt32 ue0)), .val (.int v3), .unset, .unset, .unset, .unset, .unset, .unset, .unset] []))
  obtain ⟨ue1, he1, rfl⟩ := own_ce _ hn1 hn2 hv3
  have hk1 : ue1 < 4 := Nat.lt_of_lt_of_le he1 hn2
  show own_Go p e below s _ _ _ (s₁.setTop (mkF m 30 #[.val (.int p0), .val (.int p1), .val (.int p2), .val (.int p3), .val (.int p4), .val (.int p5), .val (.int (Nat.toInt32 nN)), .val (.int (Nat.toInt32 ue0)), .val (.int (Nat.toInt32 ue1)), .unset, .unset, .unset, .unset, .unset, .unset, .unset] []))
  refine own_via (fun _ k => XS.iloadN X0.here hx rfl (hb hby at_30) rfl k) ?_
  show own_Go p e below s _ _ _ (s₁.setTop (mkF m 31 #[.val (.int p0), .val (.int p1), .val (.int p2), .val (.int p3), .val (.int p4), .val (.int p5), .val (.int (Nat.toInt32 nN)), .val (.int (Nat.toInt32 ue0)), .val (.int (Nat.toInt32 ue1)), .unset, .unset, .unset, .unset, .unset, .unset, .unset] [(.int p1)]))
  refine own_via (fun _ k => XS.bipush X0.here hx rfl (hb hby at_31) k) ?_
  show own_Go p e below s _ _ _ (s₁.setTop (mkF m 33 #[.val (.int p0), .val (.int p1), .val (.int p2), .val (.int p3), .val (.int p4), .val (.int p5), .val (.int (Nat.toInt32 nN)), .val (.int (Nat.toInt32 ue0)), .val (.int (Nat.toInt32 ue1)), .unset, .unset, .unset, .unset, .unset, .unset, .unset] [(.int (16 : Int32)), (.int p1)]))
  refine own_via (fun _ k => XS.iushr X0.here hx rfl (hb hby at_33) rfl k) ?_
  show own_Go p e below s _ _ _ (s₁.setTop (mkF m 34 #[.val (.int p0), .val (.int p1), .val (.int p2), .val (.int p3), .val (.int p4), .val (.int p5), .val (.int (Nat.toInt32 nN)), .val (.int (Nat.toInt32 ue0)), .val (.int (Nat.toInt32 ue1)), .unset, .unset, .unset, .unset, .unset, .unset, .unset] [(.int (o_iushr p1 (16 : Int32)))]))
  refine own_via (fun _ k => XS.sipush X0.here hx rfl (hb hby at_34) k) ?_
  show own_Go p e below s _ _ _ (s₁.setTop (mkF m 37 #[.val (.int p0), .val (.int p1), .val (.int p2), .val (.int p3), .val (.int p4), .val (.int p5), .val (.int (Nat.toInt32 nN)), .val (.int (Nat.toInt32 ue0)), .val (.int (Nat.toInt32 ue1)), .unset, .unset, .unset, .unset, .unset, .unset, .unset] [(.int (255 : Int32)), (.int (o_iushr p1 (16 : Int32)))]))
  refine own_via (fun _ k => XS.iand X0.here hx rfl (hb hby at_37) rfl k) ?_
  show own_Go p e below s _ _ _ (s₁.setTop (mkF m 38 #[.val (.int p0), .val (.int p1), .val (.int p2), .val (.int p3), .val (.int p4), .val (.int p5), .val (.int (Nat.toInt32 nN)), .val (.int (Nat.toInt32 ue0)), .val (.int (Nat.toInt32 ue1)), .unset, .unset, .unset, .unset, .unset, .unset, .unset] [(.int ((o_iushr p1 (16 : Int32)) &&& (255 : Int32)))]))
  refine own_via (fun _ k => XS.iload X0.here hx rfl (hb hby at_38) rfl k) ?_
  show own_Go p e below s _ _ _ (s₁.setTop (mkF m 40 #[.val (.int p0), .val (.int p1), .val (.int p2), .val (.int p3), .val (.int p4), .val (.int p5), .val (.int (Nat.toInt32 nN)), .val (.int (Nat.toInt32 ue0)), .val (.int (Nat.toInt32 ue1)), .unset, .unset, .unset, .unset, .unset, .unset, .unset] [(.int (Nat.toInt32 nN)), (.int ((o_iushr p1 (16 : Int32)) &&& (255 : Int32)))]))
  refine own_via (fun _ k => XS.irem X0.here hx rfl (hb hby at_40) rfl hnz40 k) ?_
  show own_Go p e below s _ _ _ (s₁.setTop (mkF m 41 #[.val (.int p0), .val (.int p1), .val (.int p2), .val (.int p3), .val (.int p4), .val (.int p5), .val (.int (Nat.toInt32 nN)), .val (.int (Nat.toInt32 ue0)), .val (.int (Nat.toInt32 ue1)), .unset, .unset, .unset, .unset, .unset, .unset, .unset] [(.int (o_irem ((o_iushr p1 (16 : Int32)) &&& (255 : Int32)) (Nat.toInt32 nN)))]))
  refine own_via (fun _ k => XS.istore X0.here hx rfl (hb hby at_41) rfl (l' := #[.val (.int p0), .val (.int p1), .val (.int p2), .val (.int p3), .val (.int p4), .val (.int p5), .val (.int (Nat.toInt32 nN)), .val (.int (Nat.toInt32 ue0)), .val (.int (Nat.toInt32 ue1)), .val (.int (o_irem ((o_iushr p1 (16 : Int32)) &&& (255 : Int32)) (Nat.toInt32 nN))), .unset, .unset, .unset, .unset, .unset, .unset]) rfl k) ?_
  show own_Go p e below s _ _ _ (s₁.setTop (mkF m 43 #[.val (.int p0), .val (.int p1), .val (.int p2), .val (.int p3), .val (.int p4), .val (.int p5), .val (.int (Nat.toInt32 nN)), .val (.int (Nat.toInt32 ue0)), .val (.int (Nat.toInt32 ue1)), .val (.int (o_irem ((o_iushr p1 (16 : Int32)) &&& (255 : Int32)) (Nat.toInt32 nN))), .unset, .unset, .unset, .unset, .unset, .unset] []))
  generalize hv4 : (o_irem ((o_iushr p1 (16 : Int32)) &&& (255 : Int32)) (Nat.toInt32 nN)) = v4
  show own_Go p e below s _ _ _ (s₁.setTop (mkF m 43 #[.val (.int p0), .val (.int p1), .val (.int p2), .val (.int p3), .val (.int p4), .val (.int p5), .val (.int (Nat.toInt32 nN)), .val (.int (Nat.toInt32 ue0)), .val (.int (Nat.toInt32 ue1)), .val (.int v4), .unset, .unset, .unset, .unset, .unset, .unset] []))
  obtain ⟨ue2, he2, rfl⟩ := own_ce _ hn1 hn2 hv4
  have hk2 : ue2 < 4 := Nat.lt_of_lt_of_le he2 hn2
  show own_Go p e below s _ _ _ (s₁.setTop (mkF m 43 #[.val (.int p0), .val (.int p1), .val (.int p2), .val (.int p3), .val (.int p4), .val (.int p5), .val (.int (Nat.toInt32 nN)), .val (.int (Nat.toInt32 ue0)), .val (.int (Nat.toInt32 ue1)), .val (.int (Nat.toInt32 ue2)), .unset, .unset, .unset, .unset, .unset, .unset] []))
  refine own_via (fun _ k => XS.iloadN X0.here hx rfl (hb hby at_43) rfl k) ?_
  show own_Go p e below s _ _ _ (s₁.setTop (mkF m 44 #[.val (.int p0), .val (.int p1), .val (.int p2), .val (.int p3), .val (.int p4), .val (.int p5), .val (.int (Nat.toInt32 nN)), .val (.int (Nat.toInt32 ue0)), .val (.int (Nat.toInt32 ue1)), .val (.int (Nat.toInt32 ue2)), .unset, .unset, .unset, .unset, .unset, .unset] [(.int p1)]))
  refine own_via (fun _ k => XS.bipush X0.here hx rfl (hb hby at_44) k) ?_
  show own_Go p e below s _ _ _ (s₁.setTop (mkF m 46 #[.val (.int p0), .val (.int p1), .val (.int p2), .val (.int p3), .val (.int p4), .val (.int p5), .val (.int (Nat.toInt32 nN)), .val (.int (Nat.toInt32 ue0)), .val (.int (Nat.toInt32 ue1)), .val (.int (Nat.toInt32 ue2)), .unset, .unset, .unset, .unset, .unset, .unset] [(.int (24 : Int32)), (.int p1)]))
  refine own_via (fun _ k => XS.iushr X0.here hx rfl (hb hby at_46) rfl k) ?_
  show own_Go p e below s _ _ _ (s₁.setTop (mkF m 47 #[.val (.int p0), .val (.int p1), .val (.int p2), .val (.int p3), .val (.int p4), .val (.int p5), .val (.int (Nat.toInt32 nN)), .val (.int (Nat.toInt32 ue0)), .val (.int (Nat.toInt32 ue1)), .val (.int (Nat.toInt32 ue2)), .unset, .unset, .unset, .unset, .unset, .unset] [(.int (o_iushr p1 (24 : Int32)))]))
  refine own_via (fun _ k => XS.sipush X0.here hx rfl (hb hby at_47) k) ?_
  show own_Go p e below s _ _ _ (s₁.setTop (mkF m 50 #[.val (.int p0), .val (.int p1), .val (.int p2), .val (.int p3), .val (.int p4), .val (.int p5), .val (.int (Nat.toInt32 nN)), .val (.int (Nat.toInt32 ue0)), .val (.int (Nat.toInt32 ue1)), .val (.int (Nat.toInt32 ue2)), .unset, .unset, .unset, .unset, .unset, .unset] [(.int (255 : Int32)), (.int (o_iushr p1 (24 : Int32)))]))
  refine own_via (fun _ k => XS.iand X0.here hx rfl (hb hby at_50) rfl k) ?_
  show own_Go p e below s _ _ _ (s₁.setTop (mkF m 51 #[.val (.int p0), .val (.int p1), .val (.int p2), .val (.int p3), .val (.int p4), .val (.int p5), .val (.int (Nat.toInt32 nN)), .val (.int (Nat.toInt32 ue0)), .val (.int (Nat.toInt32 ue1)), .val (.int (Nat.toInt32 ue2)), .unset, .unset, .unset, .unset, .unset, .unset] [(.int ((o_iushr p1 (24 : Int32)) &&& (255 : Int32)))]))
  refine own_via (fun _ k => XS.iload X0.here hx rfl (hb hby at_51) rfl k) ?_
  show own_Go p e below s _ _ _ (s₁.setTop (mkF m 53 #[.val (.int p0), .val (.int p1), .val (.int p2), .val (.int p3), .val (.int p4), .val (.int p5), .val (.int (Nat.toInt32 nN)), .val (.int (Nat.toInt32 ue0)), .val (.int (Nat.toInt32 ue1)), .val (.int (Nat.toInt32 ue2)), .unset, .unset, .unset, .unset, .unset, .unset] [(.int (Nat.toInt32 nN)), (.int ((o_iushr p1 (24 : Int32)) &&& (255 : Int32)))]))
  refine own_via (fun _ k => XS.irem X0.here hx rfl (hb hby at_53) rfl hnz53 k) ?_
  show own_Go p e below s _ _ _ (s₁.setTop (mkF m 54 #[.val (.int p0), .val (.int p1), .val (.int p2), .val (.int p3), .val (.int p4), .val (.int p5), .val (.int (Nat.toInt32 nN)), .val (.int (Nat.toInt32 ue0)), .val (.int (Nat.toInt32 ue1)), .val (.int (Nat.toInt32 ue2)), .unset, .unset, .unset, .unset, .unset, .unset] [(.int (o_irem ((o_iushr p1 (24 : Int32)) &&& (255 : Int32)) (Nat.toInt32 nN)))]))
  refine own_via (fun _ k => XS.istore X0.here hx rfl (hb hby at_54) rfl (l' := #[.val (.int p0), .val (.int p1), .val (.int p2), .val (.int p3), .val (.int p4), .val (.int p5), .val (.int (Nat.toInt32 nN)), .val (.int (Nat.toInt32 ue0)), .val (.int (Nat.toInt32 ue1)), .val (.int (Nat.toInt32 ue2)), .val (.int (o_irem ((o_iushr p1 (24 : Int32)) &&& (255 : Int32)) (Nat.toInt32 nN))), .unset, .unset, .unset, .unset, .unset]) rfl k) ?_
  show own_Go p e below s _ _ _ (s₁.setTop (mkF m 56 #[.val (.int p0), .val (.int p1), .val (.int p2), .val (.int p3), .val (.int p4), .val (.int p5), .val (.int (Nat.toInt32 nN)), .val (.int (Nat.toInt32 ue0)), .val (.int (Nat.toInt32 ue1)), .val (.int (Nat.toInt32 ue2)), .val (.int (o_irem ((o_iushr p1 (24 : Int32)) &&& (255 : Int32)) (Nat.toInt32 nN))), .unset, .unset, .unset, .unset, .unset] []))
  generalize hv5 : (o_irem ((o_iushr p1 (24 : Int32)) &&& (255 : Int32)) (Nat.toInt32 nN)) = v5
  show own_Go p e below s _ _ _ (s₁.setTop (mkF m 56 #[.val (.int p0), .val (.int p1), .val (.int p2), .val (.int p3), .val (.int p4), .val (.int p5), .val (.int (Nat.toInt32 nN)), .val (.int (Nat.toInt32 ue0)), .val (.int (Nat.toInt32 ue1)), .val (.int (Nat.toInt32 ue2)), .val (.int v5), .unset, .unset, .unset, .unset, .unset] []))
  obtain ⟨ue3, he3, rfl⟩ := own_ce _ hn1 hn2 hv5
  have hk3 : ue3 < 4 := Nat.lt_of_lt_of_le he3 hn2
  show own_Go p e below s _ _ _ (s₁.setTop (mkF m 56 #[.val (.int p0), .val (.int p1), .val (.int p2), .val (.int p3), .val (.int p4), .val (.int p5), .val (.int (Nat.toInt32 nN)), .val (.int (Nat.toInt32 ue0)), .val (.int (Nat.toInt32 ue1)), .val (.int (Nat.toInt32 ue2)), .val (.int (Nat.toInt32 ue3)), .unset, .unset, .unset, .unset, .unset] []))
  refine own_via (fun _ k => XS.iconst X0.here hx rfl (hb hby at_56) k) ?_
  show own_Go p e below s _ _ _ (s₁.setTop (mkF m 57 #[.val (.int p0), .val (.int p1), .val (.int p2), .val (.int p3), .val (.int p4), .val (.int p5), .val (.int (Nat.toInt32 nN)), .val (.int (Nat.toInt32 ue0)), .val (.int (Nat.toInt32 ue1)), .val (.int (Nat.toInt32 ue2)), .val (.int (Nat.toInt32 ue3)), .unset, .unset, .unset, .unset, .unset] [(.int (4 : Int32))]))
  obtain ⟨T6, h6, k6, X6, e6, E6, A6, st6⟩ := newP X0 hx hZ (hw _ (List.mem_of_getElem? (i := 0) rfl)) e0 (g := (mkF m 57 #[.val (.int p0), .val (.int p1), .val (.int p2), .val (.int p3), .val (.int p4), .val (.int p5), .val (.int (Nat.toInt32 nN)), .val (.int (Nat.toInt32 ue0)), .val (.int (Nat.toInt32 ue1)), .val (.int (Nat.toInt32 ue2)), .val (.int (Nat.toInt32 ue3)), .unset, .unset, .unset, .unset, .unset] [(.int (4 : Int32))])) rfl (hb hby at_57) rfl (by decide) (cap := 4) (by decide) (by decide) (by decide) (by decide)
  obtain ⟨b6, gg6⟩ : ∃ z, z = h0.size := ⟨_, rfl⟩
  rw [← gg6] at A6 st6
  have g_b6 : n0 ≤ b6 := Nat.le_trans Z0 (Nat.le_of_eq gg6.symm)
  have Z6 : n0 ≤ h6.size := Nat.le_trans Z0 E6.1
  have V6 : Arv Z h6 b6 k6 .int (4 : Int32) [(.int (0 : Int32)), (.int (0 : Int32)), (.int (0 : Int32)), (.int (0 : Int32))] (.int (0 : Int32)) := (Arv.new A6 (by decide)).pad (pad_rep [] (.int (0 : Int32)) 4)
  refine own_via st6 ?_
  show own_Go p e below s _ _ _ (T6.setTop (mkF m 59 #[.val (.int p0), .val (.int p1), .val (.int p2), .val (.int p3), .val (.int p4), .val (.int p5), .val (.int (Nat.toInt32 nN)), .val (.int (Nat.toInt32 ue0)), .val (.int (Nat.toInt32 ue1)), .val (.int (Nat.toInt32 ue2)), .val (.int (Nat.toInt32 ue3)), .unset, .unset, .unset, .unset, .unset] [(.ref b6)]))
  refine own_via (fun _ k => XS.dup X6.here hx rfl (hb hby at_59) rfl rfl k) ?_
  show own_Go p e below s _ _ _ (T6.setTop (mkF m 60 #[.val (.int p0), .val (.int p1), .val (.int p2), .val (.int p3), .val (.int p4), .val (.int p5), .val (.int (Nat.toInt32 nN)), .val (.int (Nat.toInt32 ue0)), .val (.int (Nat.toInt32 ue1)), .val (.int (Nat.toInt32 ue2)), .val (.int (Nat.toInt32 ue3)), .unset, .unset, .unset, .unset, .unset] [(.ref b6), (.ref b6)]))
  refine own_via (fun _ k => XS.iconst X6.here hx rfl (hb hby at_60) k) ?_
  show own_Go p e below s _ _ _ (T6.setTop (mkF m 61 #[.val (.int p0), .val (.int p1), .val (.int p2), .val (.int p3), .val (.int p4), .val (.int p5), .val (.int (Nat.toInt32 nN)), .val (.int (Nat.toInt32 ue0)), .val (.int (Nat.toInt32 ue1)), .val (.int (Nat.toInt32 ue2)), .val (.int (Nat.toInt32 ue3)), .unset, .unset, .unset, .unset, .unset] [(.int (0 : Int32)), (.ref b6), (.ref b6)]))
  refine own_via (fun _ k => XS.iload X6.here hx rfl (hb hby at_61) rfl k) ?_
  show own_Go p e below s _ _ _ (T6.setTop (mkF m 63 #[.val (.int p0), .val (.int p1), .val (.int p2), .val (.int p3), .val (.int p4), .val (.int p5), .val (.int (Nat.toInt32 nN)), .val (.int (Nat.toInt32 ue0)), .val (.int (Nat.toInt32 ue1)), .val (.int (Nat.toInt32 ue2)), .val (.int (Nat.toInt32 ue3)), .unset, .unset, .unset, .unset, .unset] [(.int (Nat.toInt32 ue0)), (.int (0 : Int32)), (.ref b6), (.ref b6)]))
  obtain ⟨cl7, Ar7, q7, S7, M7, H7, G7⟩ := (id V6)
  have hin7 : ¬ ((0 : Int32) < 0 ∨ cl7.slots.size ≤ ((0 : Int32)).toNatClampNeg) := inb_of S7 ⟨by decide, by decide⟩
  obtain ⟨T7, h7, X7, e7, W7, st7⟩ := stI X6 hx hZ e6 Ar7 (j := (0 : Int32)) hin7 (g := (mkF m 63 #[.val (.int p0), .val (.int p1), .val (.int p2), .val (.int p3), .val (.int p4), .val (.int p5), .val (.int (Nat.toInt32 nN)), .val (.int (Nat.toInt32 ue0)), .val (.int (Nat.toInt32 ue1)), .val (.int (Nat.toInt32 ue2)), .val (.int (Nat.toInt32 ue3)), .unset, .unset, .unset, .unset, .unset] [(.int (Nat.toInt32 ue0)), (.int (0 : Int32)), (.ref b6), (.ref b6)])) rfl rfl (hb hby at_63)
  have V7 : Arv Z h7 b6 k6 .int (4 : Int32) [(.int (Nat.toInt32 ue0)), (.int (0 : Int32)), (.int (0 : Int32)), (.int (0 : Int32))] (.int (0 : Int32)) := Arv.set Ar7 q7 S7 M7 H7 G7 rfl W7 0 rfl (Nat.le_of_ble_eq_true rfl)
  have N7 := Fr.snoc X7 N0 g_b6
  have Z7 : n0 ≤ h7.size := Nat.le_trans Z6 (Keep.of_wr W7).1
  refine own_via st7 ?_
  show own_Go p e below s _ _ _ (T7.setTop (mkF m 64 #[.val (.int p0), .val (.int p1), .val (.int p2), .val (.int p3), .val (.int p4), .val (.int p5), .val (.int (Nat.toInt32 nN)), .val (.int (Nat.toInt32 ue0)), .val (.int (Nat.toInt32 ue1)), .val (.int (Nat.toInt32 ue2)), .val (.int (Nat.toInt32 ue3)), .unset, .unset, .unset, .unset, .unset] [(.ref b6)]))
  refine own_via (fun _ k => XS.dup X7.here hx rfl (hb hby at_64) rfl rfl k) ?_
  show own_Go p e below s _ _ _ (T7.setTop (mkF m 65 #[.val (.int p0), .val (.int p1), .val (.int p2), .val (.int p3), .val (.int p4), .val (.int p5), .val (.int (Nat.toInt32 nN)), .val (.int (Nat.toInt32 ue0)), .val (.int (Nat.toInt32 ue1)), .val (.int (Nat.toInt32 ue2)), .val (.int (Nat.toInt32 ue3)), .unset, .unset, .unset, .unset, .unset] [(.ref b6), (.ref b6)]))
  refine own_via (fun _ k => XS.iconst X7.here hx rfl (hb hby at_65) k) ?_
  show own_Go p e below s _ _ _ (T7.setTop (mkF m 66 #[.val (.int p0), .val (.int p1), .val (.int p2), .val (.int p3), .val (.int p4), .val (.int p5), .val (.int (Nat.toInt32 nN)), .val (.int (Nat.toInt32 ue0)), .val (.int (Nat.toInt32 ue1)), .val (.int (Nat.toInt32 ue2)), .val (.int (Nat.toInt32 ue3)), .unset, .unset, .unset, .unset, .unset] [(.int (1 : Int32)), (.ref b6), (.ref b6)]))
  refine own_via (fun _ k => XS.iload X7.here hx rfl (hb hby at_66) rfl k) ?_
  show own_Go p e below s _ _ _ (T7.setTop (mkF m 68 #[.val (.int p0), .val (.int p1), .val (.int p2), .val (.int p3), .val (.int p4), .val (.int p5), .val (.int (Nat.toInt32 nN)), .val (.int (Nat.toInt32 ue0)), .val (.int (Nat.toInt32 ue1)), .val (.int (Nat.toInt32 ue2)), .val (.int (Nat.toInt32 ue3)), .unset, .unset, .unset, .unset, .unset] [(.int (Nat.toInt32 ue1)), (.int (1 : Int32)), (.ref b6), (.ref b6)]))
  obtain ⟨cl8, Ar8, q8, S8, M8, H8, G8⟩ := (id V7)
  have hin8 : ¬ ((1 : Int32) < 0 ∨ cl8.slots.size ≤ ((1 : Int32)).toNatClampNeg) := inb_of S8 ⟨by decide, by decide⟩
  obtain ⟨T8, h8, X8, e8, W8, st8⟩ := stI X7 hx hZ e7 Ar8 (j := (1 : Int32)) hin8 (g := (mkF m 68 #[.val (.int p0), .val (.int p1), .val (.int p2), .val (.int p3), .val (.int p4), .val (.int p5), .val (.int (Nat.toInt32 nN)), .val (.int (Nat.toInt32 ue0)), .val (.int (Nat.toInt32 ue1)), .val (.int (Nat.toInt32 ue2)), .val (.int (Nat.toInt32 ue3)), .unset, .unset, .unset, .unset, .unset] [(.int (Nat.toInt32 ue1)), (.int (1 : Int32)), (.ref b6), (.ref b6)])) rfl rfl (hb hby at_68)
  have V8 : Arv Z h8 b6 k6 .int (4 : Int32) [(.int (Nat.toInt32 ue0)), (.int (Nat.toInt32 ue1)), (.int (0 : Int32)), (.int (0 : Int32))] (.int (0 : Int32)) := Arv.set Ar8 q8 S8 M8 H8 G8 rfl W8 1 rfl (Nat.le_of_ble_eq_true rfl)
  have N8 := Fr.snoc X8 N7 g_b6
  have Z8 : n0 ≤ h8.size := Nat.le_trans Z7 (Keep.of_wr W8).1
  refine own_via st8 ?_
  show own_Go p e below s _ _ _ (T8.setTop (mkF m 69 #[.val (.int p0), .val (.int p1), .val (.int p2), .val (.int p3), .val (.int p4), .val (.int p5), .val (.int (Nat.toInt32 nN)), .val (.int (Nat.toInt32 ue0)), .val (.int (Nat.toInt32 ue1)), .val (.int (Nat.toInt32 ue2)), .val (.int (Nat.toInt32 ue3)), .unset, .unset, .unset, .unset, .unset] [(.ref b6)]))
  refine own_via (fun _ k => XS.dup X8.here hx rfl (hb hby at_69) rfl rfl k) ?_
  show own_Go p e below s _ _ _ (T8.setTop (mkF m 70 #[.val (.int p0), .val (.int p1), .val (.int p2), .val (.int p3), .val (.int p4), .val (.int p5), .val (.int (Nat.toInt32 nN)), .val (.int (Nat.toInt32 ue0)), .val (.int (Nat.toInt32 ue1)), .val (.int (Nat.toInt32 ue2)), .val (.int (Nat.toInt32 ue3)), .unset, .unset, .unset, .unset, .unset] [(.ref b6), (.ref b6)]))
  refine own_via (fun _ k => XS.iconst X8.here hx rfl (hb hby at_70) k) ?_
  show own_Go p e below s _ _ _ (T8.setTop (mkF m 71 #[.val (.int p0), .val (.int p1), .val (.int p2), .val (.int p3), .val (.int p4), .val (.int p5), .val (.int (Nat.toInt32 nN)), .val (.int (Nat.toInt32 ue0)), .val (.int (Nat.toInt32 ue1)), .val (.int (Nat.toInt32 ue2)), .val (.int (Nat.toInt32 ue3)), .unset, .unset, .unset, .unset, .unset] [(.int (2 : Int32)), (.ref b6), (.ref b6)]))
  refine own_via (fun _ k => XS.iload X8.here hx rfl (hb hby at_71) rfl k) ?_
  show own_Go p e below s _ _ _ (T8.setTop (mkF m 73 #[.val (.int p0), .val (.int p1), .val (.int p2), .val (.int p3), .val (.int p4), .val (.int p5), .val (.int (Nat.toInt32 nN)), .val (.int (Nat.toInt32 ue0)), .val (.int (Nat.toInt32 ue1)), .val (.int (Nat.toInt32 ue2)), .val (.int (Nat.toInt32 ue3)), .unset, .unset, .unset, .unset, .unset] [(.int (Nat.toInt32 ue2)), (.int (2 : Int32)), (.ref b6), (.ref b6)]))
  obtain ⟨cl9, Ar9, q9, S9, M9, H9, G9⟩ := (id V8)
  have hin9 : ¬ ((2 : Int32) < 0 ∨ cl9.slots.size ≤ ((2 : Int32)).toNatClampNeg) := inb_of S9 ⟨by decide, by decide⟩
  obtain ⟨T9, h9, X9, e9, W9, st9⟩ := stI X8 hx hZ e8 Ar9 (j := (2 : Int32)) hin9 (g := (mkF m 73 #[.val (.int p0), .val (.int p1), .val (.int p2), .val (.int p3), .val (.int p4), .val (.int p5), .val (.int (Nat.toInt32 nN)), .val (.int (Nat.toInt32 ue0)), .val (.int (Nat.toInt32 ue1)), .val (.int (Nat.toInt32 ue2)), .val (.int (Nat.toInt32 ue3)), .unset, .unset, .unset, .unset, .unset] [(.int (Nat.toInt32 ue2)), (.int (2 : Int32)), (.ref b6), (.ref b6)])) rfl rfl (hb hby at_73)
  have V9 : Arv Z h9 b6 k6 .int (4 : Int32) [(.int (Nat.toInt32 ue0)), (.int (Nat.toInt32 ue1)), (.int (Nat.toInt32 ue2)), (.int (0 : Int32))] (.int (0 : Int32)) := Arv.set Ar9 q9 S9 M9 H9 G9 rfl W9 2 rfl (Nat.le_of_ble_eq_true rfl)
  have N9 := Fr.snoc X9 N8 g_b6
  have Z9 : n0 ≤ h9.size := Nat.le_trans Z8 (Keep.of_wr W9).1
  refine own_via st9 ?_
  show own_Go p e below s _ _ _ (T9.setTop (mkF m 74 #[.val (.int p0), .val (.int p1), .val (.int p2), .val (.int p3), .val (.int p4), .val (.int p5), .val (.int (Nat.toInt32 nN)), .val (.int (Nat.toInt32 ue0)), .val (.int (Nat.toInt32 ue1)), .val (.int (Nat.toInt32 ue2)), .val (.int (Nat.toInt32 ue3)), .unset, .unset, .unset, .unset, .unset] [(.ref b6)]))
  refine own_via (fun _ k => XS.dup X9.here hx rfl (hb hby at_74) rfl rfl k) ?_
  show own_Go p e below s _ _ _ (T9.setTop (mkF m 75 #[.val (.int p0), .val (.int p1), .val (.int p2), .val (.int p3), .val (.int p4), .val (.int p5), .val (.int (Nat.toInt32 nN)), .val (.int (Nat.toInt32 ue0)), .val (.int (Nat.toInt32 ue1)), .val (.int (Nat.toInt32 ue2)), .val (.int (Nat.toInt32 ue3)), .unset, .unset, .unset, .unset, .unset] [(.ref b6), (.ref b6)]))
  refine own_via (fun _ k => XS.iconst X9.here hx rfl (hb hby at_75) k) ?_
  show own_Go p e below s _ _ _ (T9.setTop (mkF m 76 #[.val (.int p0), .val (.int p1), .val (.int p2), .val (.int p3), .val (.int p4), .val (.int p5), .val (.int (Nat.toInt32 nN)), .val (.int (Nat.toInt32 ue0)), .val (.int (Nat.toInt32 ue1)), .val (.int (Nat.toInt32 ue2)), .val (.int (Nat.toInt32 ue3)), .unset, .unset, .unset, .unset, .unset] [(.int (3 : Int32)), (.ref b6), (.ref b6)]))
  refine own_via (fun _ k => XS.iload X9.here hx rfl (hb hby at_76) rfl k) ?_
  show own_Go p e below s _ _ _ (T9.setTop (mkF m 78 #[.val (.int p0), .val (.int p1), .val (.int p2), .val (.int p3), .val (.int p4), .val (.int p5), .val (.int (Nat.toInt32 nN)), .val (.int (Nat.toInt32 ue0)), .val (.int (Nat.toInt32 ue1)), .val (.int (Nat.toInt32 ue2)), .val (.int (Nat.toInt32 ue3)), .unset, .unset, .unset, .unset, .unset] [(.int (Nat.toInt32 ue3)), (.int (3 : Int32)), (.ref b6), (.ref b6)]))
  obtain ⟨cl10, Ar10, q10, S10, M10, H10, G10⟩ := (id V9)
  have hin10 : ¬ ((3 : Int32) < 0 ∨ cl10.slots.size ≤ ((3 : Int32)).toNatClampNeg) := inb_of S10 ⟨by decide, by decide⟩
  obtain ⟨T10, h10, X10, e10, W10, st10⟩ := stI X9 hx hZ e9 Ar10 (j := (3 : Int32)) hin10 (g := (mkF m 78 #[.val (.int p0), .val (.int p1), .val (.int p2), .val (.int p3), .val (.int p4), .val (.int p5), .val (.int (Nat.toInt32 nN)), .val (.int (Nat.toInt32 ue0)), .val (.int (Nat.toInt32 ue1)), .val (.int (Nat.toInt32 ue2)), .val (.int (Nat.toInt32 ue3)), .unset, .unset, .unset, .unset, .unset] [(.int (Nat.toInt32 ue3)), (.int (3 : Int32)), (.ref b6), (.ref b6)])) rfl rfl (hb hby at_78)
  have V10 : Arv Z h10 b6 k6 .int (4 : Int32) [(.int (Nat.toInt32 ue0)), (.int (Nat.toInt32 ue1)), (.int (Nat.toInt32 ue2)), (.int (Nat.toInt32 ue3))] (.int (0 : Int32)) := Arv.set Ar10 q10 S10 M10 H10 G10 rfl W10 3 rfl (Nat.le_of_ble_eq_true rfl)
  have N10 := Fr.snoc X10 N9 g_b6
  have Z10 : n0 ≤ h10.size := Nat.le_trans Z9 (Keep.of_wr W10).1
  refine own_via st10 ?_
  show own_Go p e below s _ _ _ (T10.setTop (mkF m 79 #[.val (.int p0), .val (.int p1), .val (.int p2), .val (.int p3), .val (.int p4), .val (.int p5), .val (.int (Nat.toInt32 nN)), .val (.int (Nat.toInt32 ue0)), .val (.int (Nat.toInt32 ue1)), .val (.int (Nat.toInt32 ue2)), .val (.int (Nat.toInt32 ue3)), .unset, .unset, .unset, .unset, .unset] [(.ref b6)]))
  refine own_via (fun _ k => XS.astore X10.here hx rfl (hb hby at_79) rfl rfl (l' := #[.val (.int p0), .val (.int p1), .val (.int p2), .val (.int p3), .val (.int p4), .val (.int p5), .val (.int (Nat.toInt32 nN)), .val (.int (Nat.toInt32 ue0)), .val (.int (Nat.toInt32 ue1)), .val (.int (Nat.toInt32 ue2)), .val (.int (Nat.toInt32 ue3)), .val (.ref b6), .unset, .unset, .unset, .unset]) rfl k) ?_
  show own_Go p e below s _ _ _ (T10.setTop (mkF m 81 #[.val (.int p0), .val (.int p1), .val (.int p2), .val (.int p3), .val (.int p4), .val (.int p5), .val (.int (Nat.toInt32 nN)), .val (.int (Nat.toInt32 ue0)), .val (.int (Nat.toInt32 ue1)), .val (.int (Nat.toInt32 ue2)), .val (.int (Nat.toInt32 ue3)), .val (.ref b6), .unset, .unset, .unset, .unset] []))
  refine own_via (fun _ k => XS.iconst X10.here hx rfl (hb hby at_81) k) ?_
  show own_Go p e below s _ _ _ (T10.setTop (mkF m 82 #[.val (.int p0), .val (.int p1), .val (.int p2), .val (.int p3), .val (.int p4), .val (.int p5), .val (.int (Nat.toInt32 nN)), .val (.int (Nat.toInt32 ue0)), .val (.int (Nat.toInt32 ue1)), .val (.int (Nat.toInt32 ue2)), .val (.int (Nat.toInt32 ue3)), .val (.ref b6), .unset, .unset, .unset, .unset] [(.int (4 : Int32))]))
  obtain ⟨T11, h11, k11, X11, e11, E11, A11, st11⟩ := newP X10 hx hZ (hw _ (List.mem_of_getElem? (i := 0) rfl)) e10 (g := (mkF m 82 #[.val (.int p0), .val (.int p1), .val (.int p2), .val (.int p3), .val (.int p4), .val (.int p5), .val (.int (Nat.toInt32 nN)), .val (.int (Nat.toInt32 ue0)), .val (.int (Nat.toInt32 ue1)), .val (.int (Nat.toInt32 ue2)), .val (.int (Nat.toInt32 ue3)), .val (.ref b6), .unset, .unset, .unset, .unset] [(.int (4 : Int32))])) rfl (hb hby at_82) rfl (by decide) (cap := 4) (by decide) (by decide) (by decide) (by decide)
  obtain ⟨b11, gg11⟩ : ∃ z, z = h10.size := ⟨_, rfl⟩
  rw [← gg11] at A11 st11
  have ne_b6_b11 : b6 ≠ b11 := Nat.ne_of_lt (Nat.lt_of_lt_of_le V10.lt (Nat.le_of_eq gg11.symm))
  have g_b11 : n0 ≤ b11 := Nat.le_trans Z10 (Nat.le_of_eq gg11.symm)
  have Z11 : n0 ≤ h11.size := Nat.le_trans Z10 E11.1
  have V11 : Arv Z h11 b11 k11 .int (4 : Int32) [(.int (0 : Int32)), (.int (0 : Int32)), (.int (0 : Int32)), (.int (0 : Int32))] (.int (0 : Int32)) := (Arv.new A11 (by decide)).pad (pad_rep [] (.int (0 : Int32)) 4)
  refine own_via st11 ?_
  show own_Go p e below s _ _ _ (T11.setTop (mkF m 84 #[.val (.int p0), .val (.int p1), .val (.int p2), .val (.int p3), .val (.int p4), .val (.int p5), .val (.int (Nat.toInt32 nN)), .val (.int (Nat.toInt32 ue0)), .val (.int (Nat.toInt32 ue1)), .val (.int (Nat.toInt32 ue2)), .val (.int (Nat.toInt32 ue3)), .val (.ref b6), .unset, .unset, .unset, .unset] [(.ref b11)]))
  refine own_via (fun _ k => XS.dup X11.here hx rfl (hb hby at_84) rfl rfl k) ?_
  show own_Go p e below s _ _ _ (T11.setTop (mkF m 85 #[.val (.int p0), .val (.int p1), .val (.int p2), .val (.int p3), .val (.int p4), .val (.int p5), .val (.int (Nat.toInt32 nN)), .val (.int (Nat.toInt32 ue0)), .val (.int (Nat.toInt32 ue1)), .val (.int (Nat.toInt32 ue2)), .val (.int (Nat.toInt32 ue3)), .val (.ref b6), .unset, .unset, .unset, .unset] [(.ref b11), (.ref b11)]))
  refine own_via (fun _ k => XS.iconst X11.here hx rfl (hb hby at_85) k) ?_
  show own_Go p e below s _ _ _ (T11.setTop (mkF m 86 #[.val (.int p0), .val (.int p1), .val (.int p2), .val (.int p3), .val (.int p4), .val (.int p5), .val (.int (Nat.toInt32 nN)), .val (.int (Nat.toInt32 ue0)), .val (.int (Nat.toInt32 ue1)), .val (.int (Nat.toInt32 ue2)), .val (.int (Nat.toInt32 ue3)), .val (.ref b6), .unset, .unset, .unset, .unset] [(.int (0 : Int32)), (.ref b11), (.ref b11)]))
  refine own_via (fun _ k => XS.iload X11.here hx rfl (hb hby at_86) rfl k) ?_
  show own_Go p e below s _ _ _ (T11.setTop (mkF m 88 #[.val (.int p0), .val (.int p1), .val (.int p2), .val (.int p3), .val (.int p4), .val (.int p5), .val (.int (Nat.toInt32 nN)), .val (.int (Nat.toInt32 ue0)), .val (.int (Nat.toInt32 ue1)), .val (.int (Nat.toInt32 ue2)), .val (.int (Nat.toInt32 ue3)), .val (.ref b6), .unset, .unset, .unset, .unset] [(.int (Nat.toInt32 ue0)), (.int (0 : Int32)), (.ref b11), (.ref b11)]))
  obtain ⟨cl12, Ar12, q12, S12, M12, H12, G12⟩ := (id V11)
  have hin12 : ¬ ((0 : Int32) < 0 ∨ cl12.slots.size ≤ ((0 : Int32)).toNatClampNeg) := inb_of S12 ⟨by decide, by decide⟩
  obtain ⟨T12, h12, X12, e12, W12, st12⟩ := stI X11 hx hZ e11 Ar12 (j := (0 : Int32)) hin12 (g := (mkF m 88 #[.val (.int p0), .val (.int p1), .val (.int p2), .val (.int p3), .val (.int p4), .val (.int p5), .val (.int (Nat.toInt32 nN)), .val (.int (Nat.toInt32 ue0)), .val (.int (Nat.toInt32 ue1)), .val (.int (Nat.toInt32 ue2)), .val (.int (Nat.toInt32 ue3)), .val (.ref b6), .unset, .unset, .unset, .unset] [(.int (Nat.toInt32 ue0)), (.int (0 : Int32)), (.ref b11), (.ref b11)])) rfl rfl (hb hby at_88)
  have V12 : Arv Z h12 b11 k11 .int (4 : Int32) [(.int (Nat.toInt32 ue0)), (.int (0 : Int32)), (.int (0 : Int32)), (.int (0 : Int32))] (.int (0 : Int32)) := Arv.set Ar12 q12 S12 M12 H12 G12 rfl W12 0 rfl (Nat.le_of_ble_eq_true rfl)
  have N12 := Fr.snoc X12 N10 g_b11
  have Z12 : n0 ≤ h12.size := Nat.le_trans Z11 (Keep.of_wr W12).1
  refine own_via st12 ?_
  show own_Go p e below s _ _ _ (T12.setTop (mkF m 89 #[.val (.int p0), .val (.int p1), .val (.int p2), .val (.int p3), .val (.int p4), .val (.int p5), .val (.int (Nat.toInt32 nN)), .val (.int (Nat.toInt32 ue0)), .val (.int (Nat.toInt32 ue1)), .val (.int (Nat.toInt32 ue2)), .val (.int (Nat.toInt32 ue3)), .val (.ref b6), .unset, .unset, .unset, .unset] [(.ref b11)]))
  refine own_via (fun _ k => XS.dup X12.here hx rfl (hb hby at_89) rfl rfl k) ?_
  show own_Go p e below s _ _ _ (T12.setTop (mkF m 90 #[.val (.int p0), .val (.int p1), .val (.int p2), .val (.int p3), .val (.int p4), .val (.int p5), .val (.int (Nat.toInt32 nN)), .val (.int (Nat.toInt32 ue0)), .val (.int (Nat.toInt32 ue1)), .val (.int (Nat.toInt32 ue2)), .val (.int (Nat.toInt32 ue3)), .val (.ref b6), .unset, .unset, .unset, .unset] [(.ref b11), (.ref b11)]))
  refine own_via (fun _ k => XS.iconst X12.here hx rfl (hb hby at_90) k) ?_
  show own_Go p e below s _ _ _ (T12.setTop (mkF m 91 #[.val (.int p0), .val (.int p1), .val (.int p2), .val (.int p3), .val (.int p4), .val (.int p5), .val (.int (Nat.toInt32 nN)), .val (.int (Nat.toInt32 ue0)), .val (.int (Nat.toInt32 ue1)), .val (.int (Nat.toInt32 ue2)), .val (.int (Nat.toInt32 ue3)), .val (.ref b6), .unset, .unset, .unset, .unset] [(.int (1 : Int32)), (.ref b11), (.ref b11)]))
  refine own_via (fun _ k => XS.iload X12.here hx rfl (hb hby at_91) rfl k) ?_
  show own_Go p e below s _ _ _ (T12.setTop (mkF m 93 #[.val (.int p0), .val (.int p1), .val (.int p2), .val (.int p3), .val (.int p4), .val (.int p5), .val (.int (Nat.toInt32 nN)), .val (.int (Nat.toInt32 ue0)), .val (.int (Nat.toInt32 ue1)), .val (.int (Nat.toInt32 ue2)), .val (.int (Nat.toInt32 ue3)), .val (.ref b6), .unset, .unset, .unset, .unset] [(.int (Nat.toInt32 ue1)), (.int (1 : Int32)), (.ref b11), (.ref b11)]))
  obtain ⟨cl13, Ar13, q13, S13, M13, H13, G13⟩ := (id V12)
  have hin13 : ¬ ((1 : Int32) < 0 ∨ cl13.slots.size ≤ ((1 : Int32)).toNatClampNeg) := inb_of S13 ⟨by decide, by decide⟩
  obtain ⟨T13, h13, X13, e13, W13, st13⟩ := stI X12 hx hZ e12 Ar13 (j := (1 : Int32)) hin13 (g := (mkF m 93 #[.val (.int p0), .val (.int p1), .val (.int p2), .val (.int p3), .val (.int p4), .val (.int p5), .val (.int (Nat.toInt32 nN)), .val (.int (Nat.toInt32 ue0)), .val (.int (Nat.toInt32 ue1)), .val (.int (Nat.toInt32 ue2)), .val (.int (Nat.toInt32 ue3)), .val (.ref b6), .unset, .unset, .unset, .unset] [(.int (Nat.toInt32 ue1)), (.int (1 : Int32)), (.ref b11), (.ref b11)])) rfl rfl (hb hby at_93)
  have V13 : Arv Z h13 b11 k11 .int (4 : Int32) [(.int (Nat.toInt32 ue0)), (.int (Nat.toInt32 ue1)), (.int (0 : Int32)), (.int (0 : Int32))] (.int (0 : Int32)) := Arv.set Ar13 q13 S13 M13 H13 G13 rfl W13 1 rfl (Nat.le_of_ble_eq_true rfl)
  have N13 := Fr.snoc X13 N12 g_b11
  have Z13 : n0 ≤ h13.size := Nat.le_trans Z12 (Keep.of_wr W13).1
  refine own_via st13 ?_
  show own_Go p e below s _ _ _ (T13.setTop (mkF m 94 #[.val (.int p0), .val (.int p1), .val (.int p2), .val (.int p3), .val (.int p4), .val (.int p5), .val (.int (Nat.toInt32 nN)), .val (.int (Nat.toInt32 ue0)), .val (.int (Nat.toInt32 ue1)), .val (.int (Nat.toInt32 ue2)), .val (.int (Nat.toInt32 ue3)), .val (.ref b6), .unset, .unset, .unset, .unset] [(.ref b11)]))
  refine own_via (fun _ k => XS.dup X13.here hx rfl (hb hby at_94) rfl rfl k) ?_
  show own_Go p e below s _ _ _ (T13.setTop (mkF m 95 #[.val (.int p0), .val (.int p1), .val (.int p2), .val (.int p3), .val (.int p4), .val (.int p5), .val (.int (Nat.toInt32 nN)), .val (.int (Nat.toInt32 ue0)), .val (.int (Nat.toInt32 ue1)), .val (.int (Nat.toInt32 ue2)), .val (.int (Nat.toInt32 ue3)), .val (.ref b6), .unset, .unset, .unset, .unset] [(.ref b11), (.ref b11)]))
  refine own_via (fun _ k => XS.iconst X13.here hx rfl (hb hby at_95) k) ?_
  show own_Go p e below s _ _ _ (T13.setTop (mkF m 96 #[.val (.int p0), .val (.int p1), .val (.int p2), .val (.int p3), .val (.int p4), .val (.int p5), .val (.int (Nat.toInt32 nN)), .val (.int (Nat.toInt32 ue0)), .val (.int (Nat.toInt32 ue1)), .val (.int (Nat.toInt32 ue2)), .val (.int (Nat.toInt32 ue3)), .val (.ref b6), .unset, .unset, .unset, .unset] [(.int (2 : Int32)), (.ref b11), (.ref b11)]))
  refine own_via (fun _ k => XS.iload X13.here hx rfl (hb hby at_96) rfl k) ?_
  show own_Go p e below s _ _ _ (T13.setTop (mkF m 98 #[.val (.int p0), .val (.int p1), .val (.int p2), .val (.int p3), .val (.int p4), .val (.int p5), .val (.int (Nat.toInt32 nN)), .val (.int (Nat.toInt32 ue0)), .val (.int (Nat.toInt32 ue1)), .val (.int (Nat.toInt32 ue2)), .val (.int (Nat.toInt32 ue3)), .val (.ref b6), .unset, .unset, .unset, .unset] [(.int (Nat.toInt32 ue2)), (.int (2 : Int32)), (.ref b11), (.ref b11)]))
  obtain ⟨cl14, Ar14, q14, S14, M14, H14, G14⟩ := (id V13)
  have hin14 : ¬ ((2 : Int32) < 0 ∨ cl14.slots.size ≤ ((2 : Int32)).toNatClampNeg) := inb_of S14 ⟨by decide, by decide⟩
  obtain ⟨T14, h14, X14, e14, W14, st14⟩ := stI X13 hx hZ e13 Ar14 (j := (2 : Int32)) hin14 (g := (mkF m 98 #[.val (.int p0), .val (.int p1), .val (.int p2), .val (.int p3), .val (.int p4), .val (.int p5), .val (.int (Nat.toInt32 nN)), .val (.int (Nat.toInt32 ue0)), .val (.int (Nat.toInt32 ue1)), .val (.int (Nat.toInt32 ue2)), .val (.int (Nat.toInt32 ue3)), .val (.ref b6), .unset, .unset, .unset, .unset] [(.int (Nat.toInt32 ue2)), (.int (2 : Int32)), (.ref b11), (.ref b11)])) rfl rfl (hb hby at_98)
  have V14 : Arv Z h14 b11 k11 .int (4 : Int32) [(.int (Nat.toInt32 ue0)), (.int (Nat.toInt32 ue1)), (.int (Nat.toInt32 ue2)), (.int (0 : Int32))] (.int (0 : Int32)) := Arv.set Ar14 q14 S14 M14 H14 G14 rfl W14 2 rfl (Nat.le_of_ble_eq_true rfl)
  have N14 := Fr.snoc X14 N13 g_b11
  have Z14 : n0 ≤ h14.size := Nat.le_trans Z13 (Keep.of_wr W14).1
  refine own_via st14 ?_
  show own_Go p e below s _ _ _ (T14.setTop (mkF m 99 #[.val (.int p0), .val (.int p1), .val (.int p2), .val (.int p3), .val (.int p4), .val (.int p5), .val (.int (Nat.toInt32 nN)), .val (.int (Nat.toInt32 ue0)), .val (.int (Nat.toInt32 ue1)), .val (.int (Nat.toInt32 ue2)), .val (.int (Nat.toInt32 ue3)), .val (.ref b6), .unset, .unset, .unset, .unset] [(.ref b11)]))
  refine own_via (fun _ k => XS.dup X14.here hx rfl (hb hby at_99) rfl rfl k) ?_
  show own_Go p e below s _ _ _ (T14.setTop (mkF m 100 #[.val (.int p0), .val (.int p1), .val (.int p2), .val (.int p3), .val (.int p4), .val (.int p5), .val (.int (Nat.toInt32 nN)), .val (.int (Nat.toInt32 ue0)), .val (.int (Nat.toInt32 ue1)), .val (.int (Nat.toInt32 ue2)), .val (.int (Nat.toInt32 ue3)), .val (.ref b6), .unset, .unset, .unset, .unset] [(.ref b11), (.ref b11)]))
  refine own_via (fun _ k => XS.iconst X14.here hx rfl (hb hby at_100) k) ?_
  show own_Go p e below s _ _ _ (T14.setTop (mkF m 101 #[.val (.int p0), .val (.int p1), .val (.int p2), .val (.int p3), .val (.int p4), .val (.int p5), .val (.int (Nat.toInt32 nN)), .val (.int (Nat.toInt32 ue0)), .val (.int (Nat.toInt32 ue1)), .val (.int (Nat.toInt32 ue2)), .val (.int (Nat.toInt32 ue3)), .val (.ref b6), .unset, .unset, .unset, .unset] [(.int (3 : Int32)), (.ref b11), (.ref b11)]))
  refine own_via (fun _ k => XS.iload X14.here hx rfl (hb hby at_101) rfl k) ?_
  show own_Go p e below s _ _ _ (T14.setTop (mkF m 103 #[.val (.int p0), .val (.int p1), .val (.int p2), .val (.int p3), .val (.int p4), .val (.int p5), .val (.int (Nat.toInt32 nN)), .val (.int (Nat.toInt32 ue0)), .val (.int (Nat.toInt32 ue1)), .val (.int (Nat.toInt32 ue2)), .val (.int (Nat.toInt32 ue3)), .val (.ref b6), .unset, .unset, .unset, .unset] [(.int (Nat.toInt32 ue3)), (.int (3 : Int32)), (.ref b11), (.ref b11)]))
  obtain ⟨cl15, Ar15, q15, S15, M15, H15, G15⟩ := (id V14)
  have hin15 : ¬ ((3 : Int32) < 0 ∨ cl15.slots.size ≤ ((3 : Int32)).toNatClampNeg) := inb_of S15 ⟨by decide, by decide⟩
  obtain ⟨T15, h15, X15, e15, W15, st15⟩ := stI X14 hx hZ e14 Ar15 (j := (3 : Int32)) hin15 (g := (mkF m 103 #[.val (.int p0), .val (.int p1), .val (.int p2), .val (.int p3), .val (.int p4), .val (.int p5), .val (.int (Nat.toInt32 nN)), .val (.int (Nat.toInt32 ue0)), .val (.int (Nat.toInt32 ue1)), .val (.int (Nat.toInt32 ue2)), .val (.int (Nat.toInt32 ue3)), .val (.ref b6), .unset, .unset, .unset, .unset] [(.int (Nat.toInt32 ue3)), (.int (3 : Int32)), (.ref b11), (.ref b11)])) rfl rfl (hb hby at_103)
  have V15 : Arv Z h15 b11 k11 .int (4 : Int32) [(.int (Nat.toInt32 ue0)), (.int (Nat.toInt32 ue1)), (.int (Nat.toInt32 ue2)), (.int (Nat.toInt32 ue3))] (.int (0 : Int32)) := Arv.set Ar15 q15 S15 M15 H15 G15 rfl W15 3 rfl (Nat.le_of_ble_eq_true rfl)
  have N15 := Fr.snoc X15 N14 g_b11
  have Z15 : n0 ≤ h15.size := Nat.le_trans Z14 (Keep.of_wr W15).1
  refine own_via st15 ?_
  show own_Go p e below s _ _ _ (T15.setTop (mkF m 104 #[.val (.int p0), .val (.int p1), .val (.int p2), .val (.int p3), .val (.int p4), .val (.int p5), .val (.int (Nat.toInt32 nN)), .val (.int (Nat.toInt32 ue0)), .val (.int (Nat.toInt32 ue1)), .val (.int (Nat.toInt32 ue2)), .val (.int (Nat.toInt32 ue3)), .val (.ref b6), .unset, .unset, .unset, .unset] [(.ref b11)]))
  refine own_via (fun _ k => XS.astore X15.here hx rfl (hb hby at_104) rfl rfl (l' := #[.val (.int p0), .val (.int p1), .val (.int p2), .val (.int p3), .val (.int p4), .val (.int p5), .val (.int (Nat.toInt32 nN)), .val (.int (Nat.toInt32 ue0)), .val (.int (Nat.toInt32 ue1)), .val (.int (Nat.toInt32 ue2)), .val (.int (Nat.toInt32 ue3)), .val (.ref b6), .val (.ref b11), .unset, .unset, .unset]) rfl k) ?_
  show own_Go p e below s _ _ _ (T15.setTop (mkF m 106 #[.val (.int p0), .val (.int p1), .val (.int p2), .val (.int p3), .val (.int p4), .val (.int p5), .val (.int (Nat.toInt32 nN)), .val (.int (Nat.toInt32 ue0)), .val (.int (Nat.toInt32 ue1)), .val (.int (Nat.toInt32 ue2)), .val (.int (Nat.toInt32 ue3)), .val (.ref b6), .val (.ref b11), .unset, .unset, .unset] []))
  refine own_via (fun _ k => XS.iconst X15.here hx rfl (hb hby at_106) k) ?_
  show own_Go p e below s _ _ _ (T15.setTop (mkF m 107 #[.val (.int p0), .val (.int p1), .val (.int p2), .val (.int p3), .val (.int p4), .val (.int p5), .val (.int (Nat.toInt32 nN)), .val (.int (Nat.toInt32 ue0)), .val (.int (Nat.toInt32 ue1)), .val (.int (Nat.toInt32 ue2)), .val (.int (Nat.toInt32 ue3)), .val (.ref b6), .val (.ref b11), .unset, .unset, .unset] [(.int (4 : Int32))]))
  obtain ⟨T16, h16, k16, X16, e16, E16, A16, st16⟩ := newP X15 hx hZ (hw _ (List.mem_of_getElem? (i := 1) rfl)) e15 (g := (mkF m 107 #[.val (.int p0), .val (.int p1), .val (.int p2), .val (.int p3), .val (.int p4), .val (.int p5), .val (.int (Nat.toInt32 nN)), .val (.int (Nat.toInt32 ue0)), .val (.int (Nat.toInt32 ue1)), .val (.int (Nat.toInt32 ue2)), .val (.int (Nat.toInt32 ue3)), .val (.ref b6), .val (.ref b11), .unset, .unset, .unset] [(.int (4 : Int32))])) rfl (hb hby at_107) rfl (by decide) (cap := 4) (by decide) (by decide) (by decide) (by decide)
  obtain ⟨b16, gg16⟩ : ∃ z, z = h15.size := ⟨_, rfl⟩
  rw [← gg16] at A16 st16
  have ne_b11_b16 : b11 ≠ b16 := Nat.ne_of_lt (Nat.lt_of_lt_of_le V15.lt (Nat.le_of_eq gg16.symm))
  have ne_b6_b16 : b6 ≠ b16 := Nat.ne_of_lt (Nat.lt_of_lt_of_le (((((V10.ext E11).other W12 ne_b6_b11).other W13 ne_b6_b11).other W14 ne_b6_b11).other W15 ne_b6_b11).lt (Nat.le_of_eq gg16.symm))
  have g_b16 : n0 ≤ b16 := Nat.le_trans Z15 (Nat.le_of_eq gg16.symm)
  have Z16 : n0 ≤ h16.size := Nat.le_trans Z15 E16.1
  have V16 : Arv Z h16 b16 k16 .double (4 : Int32) [(.double (0 : UInt64)), (.double (0 : UInt64)), (.double (0 : UInt64)), (.double (0 : UInt64))] (.double (0 : UInt64)) := (Arv.new A16 (by decide)).pad (pad_rep [] (.double (0 : UInt64)) 4)
  refine own_via st16 ?_
  show own_Go p e below s _ _ _ (T16.setTop (mkF m 109 #[.val (.int p0), .val (.int p1), .val (.int p2), .val (.int p3), .val (.int p4), .val (.int p5), .val (.int (Nat.toInt32 nN)), .val (.int (Nat.toInt32 ue0)), .val (.int (Nat.toInt32 ue1)), .val (.int (Nat.toInt32 ue2)), .val (.int (Nat.toInt32 ue3)), .val (.ref b6), .val (.ref b11), .unset, .unset, .unset] [(.ref b16)]))
  refine own_via (fun _ k => XS.dup X16.here hx rfl (hb hby at_109) rfl rfl k) ?_
  show own_Go p e below s _ _ _ (T16.setTop (mkF m 110 #[.val (.int p0), .val (.int p1), .val (.int p2), .val (.int p3), .val (.int p4), .val (.int p5), .val (.int (Nat.toInt32 nN)), .val (.int (Nat.toInt32 ue0)), .val (.int (Nat.toInt32 ue1)), .val (.int (Nat.toInt32 ue2)), .val (.int (Nat.toInt32 ue3)), .val (.ref b6), .val (.ref b11), .unset, .unset, .unset] [(.ref b16), (.ref b16)]))
  refine own_via (fun _ k => XS.iconst X16.here hx rfl (hb hby at_110) k) ?_
  show own_Go p e below s _ _ _ (T16.setTop (mkF m 111 #[.val (.int p0), .val (.int p1), .val (.int p2), .val (.int p3), .val (.int p4), .val (.int p5), .val (.int (Nat.toInt32 nN)), .val (.int (Nat.toInt32 ue0)), .val (.int (Nat.toInt32 ue1)), .val (.int (Nat.toInt32 ue2)), .val (.int (Nat.toInt32 ue3)), .val (.ref b6), .val (.ref b11), .unset, .unset, .unset] [(.int (0 : Int32)), (.ref b16), (.ref b16)]))
  refine own_via (fun _ k => XS.iloadN X16.here hx rfl (hb hby at_111) rfl k) ?_
  show own_Go p e below s _ _ _ (T16.setTop (mkF m 112 #[.val (.int p0), .val (.int p1), .val (.int p2), .val (.int p3), .val (.int p4), .val (.int p5), .val (.int (Nat.toInt32 nN)), .val (.int (Nat.toInt32 ue0)), .val (.int (Nat.toInt32 ue1)), .val (.int (Nat.toInt32 ue2)), .val (.int (Nat.toInt32 ue3)), .val (.ref b6), .val (.ref b11), .unset, .unset, .unset] [(.int p2), (.int (0 : Int32)), (.ref b16), (.ref b16)]))
  refine own_via (fun _ k => XS.i2dS X16.here hx rfl (hb hby at_112) rfl rfl k) ?_
  show own_Go p e below s _ _ _ (T16.setTop (mkF m 113 #[.val (.int p0), .val (.int p1), .val (.int p2), .val (.int p3), .val (.int p4), .val (.int p5), .val (.int (Nat.toInt32 nN)), .val (.int (Nat.toInt32 ue0)), .val (.int (Nat.toInt32 ue1)), .val (.int (Nat.toInt32 ue2)), .val (.int (Nat.toInt32 ue3)), .val (.ref b6), .val (.ref b11), .unset, .unset, .unset] [(.double (FP.i2d p2)), (.int (0 : Int32)), (.ref b16), (.ref b16)]))
  generalize hxv0 : (FP.i2d p2) = xv0
  show own_Go p e below s _ _ _ (T16.setTop (mkF m 113 #[.val (.int p0), .val (.int p1), .val (.int p2), .val (.int p3), .val (.int p4), .val (.int p5), .val (.int (Nat.toInt32 nN)), .val (.int (Nat.toInt32 ue0)), .val (.int (Nat.toInt32 ue1)), .val (.int (Nat.toInt32 ue2)), .val (.int (Nat.toInt32 ue3)), .val (.ref b6), .val (.ref b11), .unset, .unset, .unset] [(.double xv0), (.int (0 : Int32)), (.ref b16), (.ref b16)]))
  have fx0 : own_Fi xv0 := by rw [← hxv0]; exact Jvm.Free.Fl.i2d_fin _
  obtain ⟨cl17, Ar17, q17, S17, M17, H17, G17⟩ := (id V16)
  have hin17 : ¬ ((0 : Int32) < 0 ∨ cl17.slots.size ≤ ((0 : Int32)).toNatClampNeg) := inb_of S17 ⟨by decide, by decide⟩
  obtain ⟨T17, h17, X17, e17, W17, st17⟩ := stD X16 hx hZ e16 Ar17 (j := (0 : Int32)) hin17 (g := (mkF m 113 #[.val (.int p0), .val (.int p1), .val (.int p2), .val (.int p3), .val (.int p4), .val (.int p5), .val (.int (Nat.toInt32 nN)), .val (.int (Nat.toInt32 ue0)), .val (.int (Nat.toInt32 ue1)), .val (.int (Nat.toInt32 ue2)), .val (.int (Nat.toInt32 ue3)), .val (.ref b6), .val (.ref b11), .unset, .unset, .unset] [(.double xv0), (.int (0 : Int32)), (.ref b16), (.ref b16)])) rfl rfl (hb hby at_113)
  have V17 : Arv Z h17 b16 k16 .double (4 : Int32) [(.double xv0), (.double (0 : UInt64)), (.double (0 : UInt64)), (.double (0 : UInt64))] (.double (0 : UInt64)) := Arv.set Ar17 q17 S17 M17 H17 G17 rfl W17 0 rfl (Nat.le_of_ble_eq_true rfl)
  have N17 := Fr.snoc X17 N15 g_b16
  have Z17 : n0 ≤ h17.size := Nat.le_trans Z16 (Keep.of_wr W17).1
  refine own_via st17 ?_
  show own_Go p e below s _ _ _ (T17.setTop (mkF m 114 #[.val (.int p0), .val (.int p1), .val (.int p2), .val (.int p3), .val (.int p4), .val (.int p5), .val (.int (Nat.toInt32 nN)), .val (.int (Nat.toInt32 ue0)), .val (.int (Nat.toInt32 ue1)), .val (.int (Nat.toInt32 ue2)), .val (.int (Nat.toInt32 ue3)), .val (.ref b6), .val (.ref b11), .unset, .unset, .unset] [(.ref b16)]))
  refine own_via (fun _ k => XS.dup X17.here hx rfl (hb hby at_114) rfl rfl k) ?_
  show own_Go p e below s _ _ _ (T17.setTop (mkF m 115 #[.val (.int p0), .val (.int p1), .val (.int p2), .val (.int p3), .val (.int p4), .val (.int p5), .val (.int (Nat.toInt32 nN)), .val (.int (Nat.toInt32 ue0)), .val (.int (Nat.toInt32 ue1)), .val (.int (Nat.toInt32 ue2)), .val (.int (Nat.toInt32 ue3)), .val (.ref b6), .val (.ref b11), .unset, .unset, .unset] [(.ref b16), (.ref b16)]))
  refine own_via (fun _ k => XS.iconst X17.here hx rfl (hb hby at_115) k) ?_
  show own_Go p e below s _ _ _ (T17.setTop (mkF m 116 #[.val (.int p0), .val (.int p1), .val (.int p2), .val (.int p3), .val (.int p4), .val (.int p5), .val (.int (Nat.toInt32 nN)), .val (.int (Nat.toInt32 ue0)), .val (.int (Nat.toInt32 ue1)), .val (.int (Nat.toInt32 ue2)), .val (.int (Nat.toInt32 ue3)), .val (.ref b6), .val (.ref b11), .unset, .unset, .unset] [(.int (1 : Int32)), (.ref b16), (.ref b16)]))
  refine own_via (fun _ k => XS.iloadN X17.here hx rfl (hb hby at_116) rfl k) ?_
  show own_Go p e below s _ _ _ (T17.setTop (mkF m 117 #[.val (.int p0), .val (.int p1), .val (.int p2), .val (.int p3), .val (.int p4), .val (.int p5), .val (.int (Nat.toInt32 nN)), .val (.int (Nat.toInt32 ue0)), .val (.int (Nat.toInt32 ue1)), .val (.int (Nat.toInt32 ue2)), .val (.int (Nat.toInt32 ue3)), .val (.ref b6), .val (.ref b11), .unset, .unset, .unset] [(.int p3), (.int (1 : Int32)), (.ref b16), (.ref b16)]))
  refine own_via (fun _ k => XS.i2dS X17.here hx rfl (hb hby at_117) rfl rfl k) ?_
  show own_Go p e below s _ _ _ (T17.setTop (mkF m 118 #[.val (.int p0), .val (.int p1), .val (.int p2), .val (.int p3), .val (.int p4), .val (.int p5), .val (.int (Nat.toInt32 nN)), .val (.int (Nat.toInt32 ue0)), .val (.int (Nat.toInt32 ue1)), .val (.int (Nat.toInt32 ue2)), .val (.int (Nat.toInt32 ue3)), .val (.ref b6), .val (.ref b11), .unset, .unset, .unset] [(.double (FP.i2d p3)), (.int (1 : Int32)), (.ref b16), (.ref b16)]))
  generalize hxv1 : (FP.i2d p3) = xv1
  show own_Go p e below s _ _ _ (T17.setTop (mkF m 118 #[.val (.int p0), .val (.int p1), .val (.int p2), .val (.int p3), .val (.int p4), .val (.int p5), .val (.int (Nat.toInt32 nN)), .val (.int (Nat.toInt32 ue0)), .val (.int (Nat.toInt32 ue1)), .val (.int (Nat.toInt32 ue2)), .val (.int (Nat.toInt32 ue3)), .val (.ref b6), .val (.ref b11), .unset, .unset, .unset] [(.double xv1), (.int (1 : Int32)), (.ref b16), (.ref b16)]))
  have fx1 : own_Fi xv1 := by rw [← hxv1]; exact Jvm.Free.Fl.i2d_fin _
  obtain ⟨cl18, Ar18, q18, S18, M18, H18, G18⟩ := (id V17)
  have hin18 : ¬ ((1 : Int32) < 0 ∨ cl18.slots.size ≤ ((1 : Int32)).toNatClampNeg) := inb_of S18 ⟨by decide, by decide⟩
  obtain ⟨T18, h18, X18, e18, W18, st18⟩ := stD X17 hx hZ e17 Ar18 (j := (1 : Int32)) hin18 (g := (mkF m 118 #[.val (.int p0), .val (.int p1), .val (.int p2), .val (.int p3), .val (.int p4), .val (.int p5), .val (.int (Nat.toInt32 nN)), .val (.int (Nat.toInt32 ue0)), .val (.int (Nat.toInt32 ue1)), .val (.int (Nat.toInt32 ue2)), .val (.int (Nat.toInt32 ue3)), .val (.ref b6), .val (.ref b11), .unset, .unset, .unset] [(.double xv1), (.int (1 : Int32)), (.ref b16), (.ref b16)])) rfl rfl (hb hby at_118)
  have V18 : Arv Z h18 b16 k16 .double (4 : Int32) [(.double xv0), (.double xv1), (.double (0 : UInt64)), (.double (0 : UInt64))] (.double (0 : UInt64)) := Arv.set Ar18 q18 S18 M18 H18 G18 rfl W18 1 rfl (Nat.le_of_ble_eq_true rfl)
  have N18 := Fr.snoc X18 N17 g_b16
  have Z18 : n0 ≤ h18.size := Nat.le_trans Z17 (Keep.of_wr W18).1
  refine own_via st18 ?_
  show own_Go p e below s _ _ _ (T18.setTop (mkF m 119 #[.val (.int p0), .val (.int p1), .val (.int p2), .val (.int p3), .val (.int p4), .val (.int p5), .val (.int (Nat.toInt32 nN)), .val (.int (Nat.toInt32 ue0)), .val (.int (Nat.toInt32 ue1)), .val (.int (Nat.toInt32 ue2)), .val (.int (Nat.toInt32 ue3)), .val (.ref b6), .val (.ref b11), .unset, .unset, .unset] [(.ref b16)]))
  refine own_via (fun _ k => XS.dup X18.here hx rfl (hb hby at_119) rfl rfl k) ?_
  show own_Go p e below s _ _ _ (T18.setTop (mkF m 120 #[.val (.int p0), .val (.int p1), .val (.int p2), .val (.int p3), .val (.int p4), .val (.int p5), .val (.int (Nat.toInt32 nN)), .val (.int (Nat.toInt32 ue0)), .val (.int (Nat.toInt32 ue1)), .val (.int (Nat.toInt32 ue2)), .val (.int (Nat.toInt32 ue3)), .val (.ref b6), .val (.ref b11), .unset, .unset, .unset] [(.ref b16), (.ref b16)]))
  refine own_via (fun _ k => XS.iconst X18.here hx rfl (hb hby at_120) k) ?_
  show own_Go p e below s _ _ _ (T18.setTop (mkF m 121 #[.val (.int p0), .val (.int p1), .val (.int p2), .val (.int p3), .val (.int p4), .val (.int p5), .val (.int (Nat.toInt32 nN)), .val (.int (Nat.toInt32 ue0)), .val (.int (Nat.toInt32 ue1)), .val (.int (Nat.toInt32 ue2)), .val (.int (Nat.toInt32 ue3)), .val (.ref b6), .val (.ref b11), .unset, .unset, .unset] [(.int (2 : Int32)), (.ref b16), (.ref b16)]))
  refine own_via (fun _ k => XS.iload X18.here hx rfl (hb hby at_121) rfl k) ?_
  show own_Go p e below s _ _ _ (T18.setTop (mkF m 123 #[.val (.int p0), .val (.int p1), .val (.int p2), .val (.int p3), .val (.int p4), .val (.int p5), .val (.int (Nat.toInt32 nN)), .val (.int (Nat.toInt32 ue0)), .val (.int (Nat.toInt32 ue1)), .val (.int (Nat.toInt32 ue2)), .val (.int (Nat.toInt32 ue3)), .val (.ref b6), .val (.ref b11), .unset, .unset, .unset] [(.int p4), (.int (2 : Int32)), (.ref b16), (.ref b16)]))
  refine own_via (fun _ k => XS.i2dS X18.here hx rfl (hb hby at_123) rfl rfl k) ?_
  show own_Go p e below s _ _ _ (T18.setTop (mkF m 124 #[.val (.int p0), .val (.int p1), .val (.int p2), .val (.int p3), .val (.int p4), .val (.int p5), .val (.int (Nat.toInt32 nN)), .val (.int (Nat.toInt32 ue0)), .val (.int (Nat.toInt32 ue1)), .val (.int (Nat.toInt32 ue2)), .val (.int (Nat.toInt32 ue3)), .val (.ref b6), .val (.ref b11), .unset, .unset, .unset] [(.double (FP.i2d p4)), (.int (2 : Int32)), (.ref b16), (.ref b16)]))
  generalize hxv2 : (FP.i2d p4) = xv2
  show own_Go p e below s _ _ _ (T18.setTop (mkF m 124 #[.val (.int p0), .val (.int p1), .val (.int p2), .val (.int p3), .val (.int p4), .val (.int p5), .val (.int (Nat.toInt32 nN)), .val (.int (Nat.toInt32 ue0)), .val (.int (Nat.toInt32 ue1)), .val (.int (Nat.toInt32 ue2)), .val (.int (Nat.toInt32 ue3)), .val (.ref b6), .val (.ref b11), .unset, .unset, .unset] [(.double xv2), (.int (2 : Int32)), (.ref b16), (.ref b16)]))
  have fx2 : own_Fi xv2 := by rw [← hxv2]; exact Jvm.Free.Fl.i2d_fin _
  obtain ⟨cl19, Ar19, q19, S19, M19, H19, G19⟩ := (id V18)
  have hin19 : ¬ ((2 : Int32) < 0 ∨ cl19.slots.size ≤ ((2 : Int32)).toNatClampNeg) := inb_of S19 ⟨by decide, by decide⟩
  obtain ⟨T19, h19, X19, e19, W19, st19⟩ := stD X18 hx hZ e18 Ar19 (j := (2 : Int32)) hin19 (g := (mkF m 124 #[.val (.int p0), .val (.int p1), .val (.int p2), .val (.int p3), .val (.int p4), .val (.int p5), .val (.int (Nat.toInt32 nN)), .val (.int (Nat.toInt32 ue0)), .val (.int (Nat.toInt32 ue1)), .val (.int (Nat.toInt32 ue2)), .val (.int (Nat.toInt32 ue3)), .val (.ref b6), .val (.ref b11), .unset, .unset, .unset] [(.double xv2), (.int (2 : Int32)), (.ref b16), (.ref b16)])) rfl rfl (hb hby at_124)
  have V19 : Arv Z h19 b16 k16 .double (4 : Int32) [(.double xv0), (.double xv1), (.double xv2), (.double (0 : UInt64))] (.double (0 : UInt64)) := Arv.set Ar19 q19 S19 M19 H19 G19 rfl W19 2 rfl (Nat.le_of_ble_eq_true rfl)
  have N19 := Fr.snoc X19 N18 g_b16
  have Z19 : n0 ≤ h19.size := Nat.le_trans Z18 (Keep.of_wr W19).1
  refine own_via st19 ?_
  show own_Go p e below s _ _ _ (T19.setTop (mkF m 125 #[.val (.int p0), .val (.int p1), .val (.int p2), .val (.int p3), .val (.int p4), .val (.int p5), .val (.int (Nat.toInt32 nN)), .val (.int (Nat.toInt32 ue0)), .val (.int (Nat.toInt32 ue1)), .val (.int (Nat.toInt32 ue2)), .val (.int (Nat.toInt32 ue3)), .val (.ref b6), .val (.ref b11), .unset, .unset, .unset] [(.ref b16)]))
  refine own_via (fun _ k => XS.dup X19.here hx rfl (hb hby at_125) rfl rfl k) ?_
  show own_Go p e below s _ _ _ (T19.setTop (mkF m 126 #[.val (.int p0), .val (.int p1), .val (.int p2), .val (.int p3), .val (.int p4), .val (.int p5), .val (.int (Nat.toInt32 nN)), .val (.int (Nat.toInt32 ue0)), .val (.int (Nat.toInt32 ue1)), .val (.int (Nat.toInt32 ue2)), .val (.int (Nat.toInt32 ue3)), .val (.ref b6), .val (.ref b11), .unset, .unset, .unset] [(.ref b16), (.ref b16)]))
  refine own_via (fun _ k => XS.iconst X19.here hx rfl (hb hby at_126) k) ?_
  show own_Go p e below s _ _ _ (T19.setTop (mkF m 127 #[.val (.int p0), .val (.int p1), .val (.int p2), .val (.int p3), .val (.int p4), .val (.int p5), .val (.int (Nat.toInt32 nN)), .val (.int (Nat.toInt32 ue0)), .val (.int (Nat.toInt32 ue1)), .val (.int (Nat.toInt32 ue2)), .val (.int (Nat.toInt32 ue3)), .val (.ref b6), .val (.ref b11), .unset, .unset, .unset] [(.int (3 : Int32)), (.ref b16), (.ref b16)]))
  refine own_via (fun _ k => XS.iload X19.here hx rfl (hb hby at_127) rfl k) ?_
  show own_Go p e below s _ _ _ (T19.setTop (mkF m 129 #[.val (.int p0), .val (.int p1), .val (.int p2), .val (.int p3), .val (.int p4), .val (.int p5), .val (.int (Nat.toInt32 nN)), .val (.int (Nat.toInt32 ue0)), .val (.int (Nat.toInt32 ue1)), .val (.int (Nat.toInt32 ue2)), .val (.int (Nat.toInt32 ue3)), .val (.ref b6), .val (.ref b11), .unset, .unset, .unset] [(.int p5), (.int (3 : Int32)), (.ref b16), (.ref b16)]))
  refine own_via (fun _ k => XS.i2dS X19.here hx rfl (hb hby at_129) rfl rfl k) ?_
  show own_Go p e below s _ _ _ (T19.setTop (mkF m 130 #[.val (.int p0), .val (.int p1), .val (.int p2), .val (.int p3), .val (.int p4), .val (.int p5), .val (.int (Nat.toInt32 nN)), .val (.int (Nat.toInt32 ue0)), .val (.int (Nat.toInt32 ue1)), .val (.int (Nat.toInt32 ue2)), .val (.int (Nat.toInt32 ue3)), .val (.ref b6), .val (.ref b11), .unset, .unset, .unset] [(.double (FP.i2d p5)), (.int (3 : Int32)), (.ref b16), (.ref b16)]))
  generalize hxv3 : (FP.i2d p5) = xv3
  show own_Go p e below s _ _ _ (T19.setTop (mkF m 130 #[.val (.int p0), .val (.int p1), .val (.int p2), .val (.int p3), .val (.int p4), .val (.int p5), .val (.int (Nat.toInt32 nN)), .val (.int (Nat.toInt32 ue0)), .val (.int (Nat.toInt32 ue1)), .val (.int (Nat.toInt32 ue2)), .val (.int (Nat.toInt32 ue3)), .val (.ref b6), .val (.ref b11), .unset, .unset, .unset] [(.double xv3), (.int (3 : Int32)), (.ref b16), (.ref b16)]))
  have fx3 : own_Fi xv3 := by rw [← hxv3]; exact Jvm.Free.Fl.i2d_fin _
  obtain ⟨cl20, Ar20, q20, S20, M20, H20, G20⟩ := (id V19)
  have hin20 : ¬ ((3 : Int32) < 0 ∨ cl20.slots.size ≤ ((3 : Int32)).toNatClampNeg) := inb_of S20 ⟨by decide, by decide⟩
  obtain ⟨T20, h20, X20, e20, W20, st20⟩ := stD X19 hx hZ e19 Ar20 (j := (3 : Int32)) hin20 (g := (mkF m 130 #[.val (.int p0), .val (.int p1), .val (.int p2), .val (.int p3), .val (.int p4), .val (.int p5), .val (.int (Nat.toInt32 nN)), .val (.int (Nat.toInt32 ue0)), .val (.int (Nat.toInt32 ue1)), .val (.int (Nat.toInt32 ue2)), .val (.int (Nat.toInt32 ue3)), .val (.ref b6), .val (.ref b11), .unset, .unset, .unset] [(.double xv3), (.int (3 : Int32)), (.ref b16), (.ref b16)])) rfl rfl (hb hby at_130)
  have V20 : Arv Z h20 b16 k16 .double (4 : Int32) [(.double xv0), (.double xv1), (.double xv2), (.double xv3)] (.double (0 : UInt64)) := Arv.set Ar20 q20 S20 M20 H20 G20 rfl W20 3 rfl (Nat.le_of_ble_eq_true rfl)
  have N20 := Fr.snoc X20 N19 g_b16
  have Z20 : n0 ≤ h20.size := Nat.le_trans Z19 (Keep.of_wr W20).1
  refine own_via st20 ?_
  show own_Go p e below s _ _ _ (T20.setTop (mkF m 131 #[.val (.int p0), .val (.int p1), .val (.int p2), .val (.int p3), .val (.int p4), .val (.int p5), .val (.int (Nat.toInt32 nN)), .val (.int (Nat.toInt32 ue0)), .val (.int (Nat.toInt32 ue1)), .val (.int (Nat.toInt32 ue2)), .val (.int (Nat.toInt32 ue3)), .val (.ref b6), .val (.ref b11), .unset, .unset, .unset] [(.ref b16)]))
  refine own_via (fun _ k => XS.astore X20.here hx rfl (hb hby at_131) rfl rfl (l' := #[.val (.int p0), .val (.int p1), .val (.int p2), .val (.int p3), .val (.int p4), .val (.int p5), .val (.int (Nat.toInt32 nN)), .val (.int (Nat.toInt32 ue0)), .val (.int (Nat.toInt32 ue1)), .val (.int (Nat.toInt32 ue2)), .val (.int (Nat.toInt32 ue3)), .val (.ref b6), .val (.ref b11), .val (.ref b16), .unset, .unset]) rfl k) ?_
  show own_Go p e below s _ _ _ (T20.setTop (mkF m 133 #[.val (.int p0), .val (.int p1), .val (.int p2), .val (.int p3), .val (.int p4), .val (.int p5), .val (.int (Nat.toInt32 nN)), .val (.int (Nat.toInt32 ue0)), .val (.int (Nat.toInt32 ue1)), .val (.int (Nat.toInt32 ue2)), .val (.int (Nat.toInt32 ue3)), .val (.ref b6), .val (.ref b11), .val (.ref b16), .unset, .unset] []))
  refine own_via (fun _ k => XS.iconst X20.here hx rfl (hb hby at_133) k) ?_
  show own_Go p e below s _ _ _ (T20.setTop (mkF m 134 #[.val (.int p0), .val (.int p1), .val (.int p2), .val (.int p3), .val (.int p4), .val (.int p5), .val (.int (Nat.toInt32 nN)), .val (.int (Nat.toInt32 ue0)), .val (.int (Nat.toInt32 ue1)), .val (.int (Nat.toInt32 ue2)), .val (.int (Nat.toInt32 ue3)), .val (.ref b6), .val (.ref b11), .val (.ref b16), .unset, .unset] [(.int (4 : Int32))]))
  obtain ⟨T21, h21, k21, X21, e21, E21, A21, st21⟩ := newP X20 hx hZ (hw _ (List.mem_of_getElem? (i := 1) rfl)) e20 (g := (mkF m 134 #[.val (.int p0), .val (.int p1), .val (.int p2), .val (.int p3), .val (.int p4), .val (.int p5), .val (.int (Nat.toInt32 nN)), .val (.int (Nat.toInt32 ue0)), .val (.int (Nat.toInt32 ue1)), .val (.int (Nat.toInt32 ue2)), .val (.int (Nat.toInt32 ue3)), .val (.ref b6), .val (.ref b11), .val (.ref b16), .unset, .unset] [(.int (4 : Int32))])) rfl (hb hby at_134) rfl (by decide) (cap := 4) (by decide) (by decide) (by decide) (by decide)
  obtain ⟨b21, gg21⟩ : ∃ z, z = h20.size := ⟨_, rfl⟩
  rw [← gg21] at A21 st21
  have ne_b11_b21 : b11 ≠ b21 := Nat.ne_of_lt (Nat.lt_of_lt_of_le (((((V15.ext E16).other W17 ne_b11_b16).other W18 ne_b11_b16).other W19 ne_b11_b16).other W20 ne_b11_b16).lt (Nat.le_of_eq gg21.symm))
  have ne_b16_b21 : b16 ≠ b21 := Nat.ne_of_lt (Nat.lt_of_lt_of_le V20.lt (Nat.le_of_eq gg21.symm))
  have ne_b6_b21 : b6 ≠ b21 := Nat.ne_of_lt (Nat.lt_of_lt_of_le ((((((((((V10.ext E11).other W12 ne_b6_b11).other W13 ne_b6_b11).other W14 ne_b6_b11).other W15 ne_b6_b11).ext E16).other W17 ne_b6_b16).other W18 ne_b6_b16).other W19 ne_b6_b16).other W20 ne_b6_b16).lt (Nat.le_of_eq gg21.symm))
  have g_b21 : n0 ≤ b21 := Nat.le_trans Z20 (Nat.le_of_eq gg21.symm)
  have Z21 : n0 ≤ h21.size := Nat.le_trans Z20 E21.1
  have V21 : Arv Z h21 b21 k21 .double (4 : Int32) [(.double (0 : UInt64)), (.double (0 : UInt64)), (.double (0 : UInt64)), (.double (0 : UInt64))] (.double (0 : UInt64)) := (Arv.new A21 (by decide)).pad (pad_rep [] (.double (0 : UInt64)) 4)
  refine own_via st21 ?_
  show own_Go p e below s _ _ _ (T21.setTop (mkF m 136 #[.val (.int p0), .val (.int p1), .val (.int p2), .val (.int p3), .val (.int p4), .val (.int p5), .val (.int (Nat.toInt32 nN)), .val (.int (Nat.toInt32 ue0)), .val (.int (Nat.toInt32 ue1)), .val (.int (Nat.toInt32 ue2)), .val (.int (Nat.toInt32 ue3)), .val (.ref b6), .val (.ref b11), .val (.ref b16), .unset, .unset] [(.ref b21)]))
  refine own_via (fun _ k => XS.dup X21.here hx rfl (hb hby at_136) rfl rfl k) ?_
  show own_Go p e below s _ _ _ (T21.setTop (mkF m 137 #[.val (.int p0), .val (.int p1), .val (.int p2), .val (.int p3), .val (.int p4), .val (.int p5), .val (.int (Nat.toInt32 nN)), .val (.int (Nat.toInt32 ue0)), .val (.int (Nat.toInt32 ue1)), .val (.int (Nat.toInt32 ue2)), .val (.int (Nat.toInt32 ue3)), .val (.ref b6), .val (.ref b11), .val (.ref b16), .unset, .unset] [(.ref b21), (.ref b21)]))
  refine own_via (fun _ k => XS.iconst X21.here hx rfl (hb hby at_137) k) ?_
  show own_Go p e below s _ _ _ (T21.setTop (mkF m 138 #[.val (.int p0), .val (.int p1), .val (.int p2), .val (.int p3), .val (.int p4), .val (.int p5), .val (.int (Nat.toInt32 nN)), .val (.int (Nat.toInt32 ue0)), .val (.int (Nat.toInt32 ue1)), .val (.int (Nat.toInt32 ue2)), .val (.int (Nat.toInt32 ue3)), .val (.ref b6), .val (.ref b11), .val (.ref b16), .unset, .unset] [(.int (0 : Int32)), (.ref b21), (.ref b21)]))
  refine own_via (fun _ k => XS.iloadN X21.here hx rfl (hb hby at_138) rfl k) ?_
  show own_Go p e below s _ _ _ (T21.setTop (mkF m 139 #[.val (.int p0), .val (.int p1), .val (.int p2), .val (.int p3), .val (.int p4), .val (.int p5), .val (.int (Nat.toInt32 nN)), .val (.int (Nat.toInt32 ue0)), .val (.int (Nat.toInt32 ue1)), .val (.int (Nat.toInt32 ue2)), .val (.int (Nat.toInt32 ue3)), .val (.ref b6), .val (.ref b11), .val (.ref b16), .unset, .unset] [(.int p2), (.int (0 : Int32)), (.ref b21), (.ref b21)]))
  refine own_via (fun _ k => XS.i2dS X21.here hx rfl (hb hby at_139) rfl rfl k) ?_
  show own_Go p e below s _ _ _ (T21.setTop (mkF m 140 #[.val (.int p0), .val (.int p1), .val (.int p2), .val (.int p3), .val (.int p4), .val (.int p5), .val (.int (Nat.toInt32 nN)), .val (.int (Nat.toInt32 ue0)), .val (.int (Nat.toInt32 ue1)), .val (.int (Nat.toInt32 ue2)), .val (.int (Nat.toInt32 ue3)), .val (.ref b6), .val (.ref b11), .val (.ref b16), .unset, .unset] [(.double (FP.i2d p2)), (.int (0 : Int32)), (.ref b21), (.ref b21)]))
  rw [hxv0]
  show own_Go p e below s _ _ _ (T21.setTop (mkF m 140 #[.val (.int p0), .val (.int p1), .val (.int p2), .val (.int p3), .val (.int p4), .val (.int p5), .val (.int (Nat.toInt32 nN)), .val (.int (Nat.toInt32 ue0)), .val (.int (Nat.toInt32 ue1)), .val (.int (Nat.toInt32 ue2)), .val (.int (Nat.toInt32 ue3)), .val (.ref b6), .val (.ref b11), .val (.ref b16), .unset, .unset] [(.double xv0), (.int (0 : Int32)), (.ref b21), (.ref b21)]))
  obtain ⟨cl22, Ar22, q22, S22, M22, H22, G22⟩ := (id V21)
  have hin22 : ¬ ((0 : Int32) < 0 ∨ cl22.slots.size ≤ ((0 : Int32)).toNatClampNeg) := inb_of S22 ⟨by decide, by decide⟩
  obtain ⟨T22, h22, X22, e22, W22, st22⟩ := stD X21 hx hZ e21 Ar22 (j := (0 : Int32)) hin22 (g := (mkF m 140 #[.val (.int p0), .val (.int p1), .val (.int p2), .val (.int p3), .val (.int p4), .val (.int p5), .val (.int (Nat.toInt32 nN)), .val (.int (Nat.toInt32 ue0)), .val (.int (Nat.toInt32 ue1)), .val (.int (Nat.toInt32 ue2)), .val (.int (Nat.toInt32 ue3)), .val (.ref b6), .val (.ref b11), .val (.ref b16), .unset, .unset] [(.double xv0), (.int (0 : Int32)), (.ref b21), (.ref b21)])) rfl rfl (hb hby at_140)
  have V22 : Arv Z h22 b21 k21 .double (4 : Int32) [(.double xv0), (.double (0 : UInt64)), (.double (0 : UInt64)), (.double (0 : UInt64))] (.double (0 : UInt64)) := Arv.set Ar22 q22 S22 M22 H22 G22 rfl W22 0 rfl (Nat.le_of_ble_eq_true rfl)
  have N22 := Fr.snoc X22 N20 g_b21
  have Z22 : n0 ≤ h22.size := Nat.le_trans Z21 (Keep.of_wr W22).1
  refine own_via st22 ?_
  show own_Go p e below s _ _ _ (T22.setTop (mkF m 141 #[.val (.int p0), .val (.int p1), .val (.int p2), .val (.int p3), .val (.int p4), .val (.int p5), .val (.int (Nat.toInt32 nN)), .val (.int (Nat.toInt32 ue0)), .val (.int (Nat.toInt32 ue1)), .val (.int (Nat.toInt32 ue2)), .val (.int (Nat.toInt32 ue3)), .val (.ref b6), .val (.ref b11), .val (.ref b16), .unset, .unset] [(.ref b21)]))
  refine own_via (fun _ k => XS.dup X22.here hx rfl (hb hby at_141) rfl rfl k) ?_
  show own_Go p e below s _ _ _ (T22.setTop (mkF m 142 #[.val (.int p0), .val (.int p1), .val (.int p2), .val (.int p3), .val (.int p4), .val (.int p5), .val (.int (Nat.toInt32 nN)), .val (.int (Nat.toInt32 ue0)), .val (.int (Nat.toInt32 ue1)), .val (.int (Nat.toInt32 ue2)), .val (.int (Nat.toInt32 ue3)), .val (.ref b6), .val (.ref b11), .val (.ref b16), .unset, .unset] [(.ref b21), (.ref b21)]))
  refine own_via (fun _ k => XS.iconst X22.here hx rfl (hb hby at_142) k) ?_
  show own_Go p e below s _ _ _ (T22.setTop (mkF m 143 #[.val (.int p0), .val (.int p1), .val (.int p2), .val (.int p3), .val (.int p4), .val (.int p5), .val (.int (Nat.toInt32 nN)), .val (.int (Nat.toInt32 ue0)), .val (.int (Nat.toInt32 ue1)), .val (.int (Nat.toInt32 ue2)), .val (.int (Nat.toInt32 ue3)), .val (.ref b6), .val (.ref b11), .val (.ref b16), .unset, .unset] [(.int (1 : Int32)), (.ref b21), (.ref b21)]))
  refine own_via (fun _ k => XS.iloadN X22.here hx rfl (hb hby at_143) rfl k) ?_
  show own_Go p e below s _ _ _ (T22.setTop (mkF m 144 #[.val (.int p0), .val (.int p1), .val (.int p2), .val (.int p3), .val (.int p4), .val (.int p5), .val (.int (Nat.toInt32 nN)), .val (.int (Nat.toInt32 ue0)), .val (.int (Nat.toInt32 ue1)), .val (.int (Nat.toInt32 ue2)), .val (.int (Nat.toInt32 ue3)), .val (.ref b6), .val (.ref b11), .val (.ref b16), .unset, .unset] [(.int p3), (.int (1 : Int32)), (.ref b21), (.ref b21)]))
  refine own_via (fun _ k => XS.i2dS X22.here hx rfl (hb hby at_144) rfl rfl k) ?_
  show own_Go p e below s _ _ _ (T22.setTop (mkF m 145 #[.val (.int p0), .val (.int p1), .val (.int p2), .val (.int p3), .val (.int p4), .val (.int p5), .val (.int (Nat.toInt32 nN)), .val (.int (Nat.toInt32 ue0)), .val (.int (Nat.toInt32 ue1)), .val (.int (Nat.toInt32 ue2)), .val (.int (Nat.toInt32 ue3)), .val (.ref b6), .val (.ref b11), .val (.ref b16), .unset, .unset] [(.double (FP.i2d p3)), (.int (1 : Int32)), (.ref b21), (.ref b21)]))
  rw [hxv1]
  show own_Go p e below s _ _ _ (T22.setTop (mkF m 145 #[.val (.int p0), .val (.int p1), .val (.int p2), .val (.int p3), .val (.int p4), .val (.int p5), .val (.int (Nat.toInt32 nN)), .val (.int (Nat.toInt32 ue0)), .val (.int (Nat.toInt32 ue1)), .val (.int (Nat.toInt32 ue2)), .val (.int (Nat.toInt32 ue3)), .val (.ref b6), .val (.ref b11), .val (.ref b16), .unset, .unset] [(.double xv1), (.int (1 : Int32)), (.ref b21), (.ref b21)]))
  obtain ⟨cl23, Ar23, q23, S23, M23, H23, G23⟩ := (id V22)
  have hin23 : ¬ ((1 : Int32) < 0 ∨ cl23.slots.size ≤ ((1 : Int32)).toNatClampNeg) := inb_of S23 ⟨by decide, by decide⟩
  obtain ⟨T23, h23, X23, e23, W23, st23⟩ := stD X22 hx hZ e22 Ar23 (j := (1 : Int32)) hin23 (g := (mkF m 145 #[.val (.int p0), .val (.int p1), .val (.int p2), .val (.int p3), .val (.int p4), .val (.int p5), .val (.int (Nat.toInt32 nN)), .val (.int (Nat.toInt32 ue0)), .val (.int (Nat.toInt32 ue1)), .val (.int (Nat.toInt32 ue2)), .val (.int (Nat.toInt32 ue3)), .val (.ref b6), .val (.ref b11), .val (.ref b16), .unset, .unset] [(.double xv1), (.int (1 : Int32)), (.ref b21), (.ref b21)])) rfl rfl (hb hby at_145)
  have V23 : Arv Z h23 b21 k21 .double (4 : Int32) [(.double xv0), (.double xv1), (.double (0 : UInt64)), (.double (0 : UInt64))] (.double (0 : UInt64)) := Arv.set Ar23 q23 S23 M23 H23 G23 rfl W23 1 rfl (Nat.le_of_ble_eq_true rfl)
  have N23 := Fr.snoc X23 N22 g_b21
  have Z23 : n0 ≤ h23.size := Nat.le_trans Z22 (Keep.of_wr W23).1
  refine own_via st23 ?_
  show own_Go p e below s _ _ _ (T23.setTop (mkF m 146 #[.val (.int p0), .val (.int p1), .val (.int p2), .val (.int p3), .val (.int p4), .val (.int p5), .val (.int (Nat.toInt32 nN)), .val (.int (Nat.toInt32 ue0)), .val (.int (Nat.toInt32 ue1)), .val (.int (Nat.toInt32 ue2)), .val (.int (Nat.toInt32 ue3)), .val (.ref b6), .val (.ref b11), .val (.ref b16), .unset, .unset] [(.ref b21)]))
  refine own_via (fun _ k => XS.dup X23.here hx rfl (hb hby at_146) rfl rfl k) ?_
  show own_Go p e below s _ _ _ (T23.setTop (mkF m 147 #[.val (.int p0), .val (.int p1), .val (.int p2), .val (.int p3), .val (.int p4), .val (.int p5), .val (.int (Nat.toInt32 nN)), .val (.int (Nat.toInt32 ue0)), .val (.int (Nat.toInt32 ue1)), .val (.int (Nat.toInt32 ue2)), .val (.int (Nat.toInt32 ue3)), .val (.ref b6), .val (.ref b11), .val (.ref b16), .unset, .unset] [(.ref b21), (.ref b21)]))
  refine own_via (fun _ k => XS.iconst X23.here hx rfl (hb hby at_147) k) ?_
  show own_Go p e below s _ _ _ (T23.setTop (mkF m 148 #[.val (.int p0), .val (.int p1), .val (.int p2), .val (.int p3), .val (.int p4), .val (.int p5), .val (.int (Nat.toInt32 nN)), .val (.int (Nat.toInt32 ue0)), .val (.int (Nat.toInt32 ue1)), .val (.int (Nat.toInt32 ue2)), .val (.int (Nat.toInt32 ue3)), .val (.ref b6), .val (.ref b11), .val (.ref b16), .unset, .unset] [(.int (2 : Int32)), (.ref b21), (.ref b21)]))
  refine own_via (fun _ k => XS.iload X23.here hx rfl (hb hby at_148) rfl k) ?_
  show own_Go p e below s _ _ _ (T23.setTop (mkF m 150 #[.val (.int p0), .val (.int p1), .val (.int p2), .val (.int p3), .val (.int p4), .val (.int p5), .val (.int (Nat.toInt32 nN)), .val (.int (Nat.toInt32 ue0)), .val (.int (Nat.toInt32 ue1)), .val (.int (Nat.toInt32 ue2)), .val (.int (Nat.toInt32 ue3)), .val (.ref b6), .val (.ref b11), .val (.ref b16), .unset, .unset] [(.int p4), (.int (2 : Int32)), (.ref b21), (.ref b21)]))
  refine own_via (fun _ k => XS.i2dS X23.here hx rfl (hb hby at_150) rfl rfl k) ?_
  show own_Go p e below s _ _ _ (T23.setTop (mkF m 151 #[.val (.int p0), .val (.int p1), .val (.int p2), .val (.int p3), .val (.int p4), .val (.int p5), .val (.int (Nat.toInt32 nN)), .val (.int (Nat.toInt32 ue0)), .val (.int (Nat.toInt32 ue1)), .val (.int (Nat.toInt32 ue2)), .val (.int (Nat.toInt32 ue3)), .val (.ref b6), .val (.ref b11), .val (.ref b16), .unset, .unset] [(.double (FP.i2d p4)), (.int (2 : Int32)), (.ref b21), (.ref b21)]))
  rw [hxv2]
  show own_Go p e below s _ _ _ (T23.setTop (mkF m 151 #[.val (.int p0), .val (.int p1), .val (.int p2), .val (.int p3), .val (.int p4), .val (.int p5), .val (.int (Nat.toInt32 nN)), .val (.int (Nat.toInt32 ue0)), .val (.int (Nat.toInt32 ue1)), .val (.int (Nat.toInt32 ue2)), .val (.int (Nat.toInt32 ue3)), .val (.ref b6), .val (.ref b11), .val (.ref b16), .unset, .unset] [(.double xv2), (.int (2 : Int32)), (.ref b21), (.ref b21)]))
  obtain ⟨cl24, Ar24, q24, S24, M24, H24, G24⟩ := (id V23)
  have hin24 : ¬ ((2 : Int32) < 0 ∨ cl24.slots.size ≤ ((2 : Int32)).toNatClampNeg) := inb_of S24 ⟨by decide, by decide⟩
  obtain ⟨T24, h24, X24, e24, W24, st24⟩ := stD X23 hx hZ e23 Ar24 (j := (2 : Int32)) hin24 (g := (mkF m 151 #[.val (.int p0), .val (.int p1), .val (.int p2), .val (.int p3), .val (.int p4), .val (.int p5), .val (.int (Nat.toInt32 nN)), .val (.int (Nat.toInt32 ue0)), .val (.int (Nat.toInt32 ue1)), .val (.int (Nat.toInt32 ue2)), .val (.int (Nat.toInt32 ue3)), .val (.ref b6), .val (.ref b11), .val (.ref b16), .unset, .unset] [(.double xv2), (.int (2 : Int32)), (.ref b21), (.ref b21)])) rfl rfl (hb hby at_151)
  have V24 : Arv Z h24 b21 k21 .double (4 : Int32) [(.double xv0), (.double xv1), (.double xv2), (.double (0 : UInt64))] (.double (0 : UInt64)) := Arv.set Ar24 q24 S24 M24 H24 G24 rfl W24 2 rfl (Nat.le_of_ble_eq_true rfl)
  have N24 := Fr.snoc X24 N23 g_b21
  have Z24 : n0 ≤ h24.size := Nat.le_trans Z23 (Keep.of_wr W24).1
  refine own_via st24 ?_
  show own_Go p e below s _ _ _ (T24.setTop (mkF m 152 #[.val (.int p0), .val (.int p1), .val (.int p2), .val (.int p3), .val (.int p4), .val (.int p5), .val (.int (Nat.toInt32 nN)), .val (.int (Nat.toInt32 ue0)), .val (.int (Nat.toInt32 ue1)), .val (.int (Nat.toInt32 ue2)), .val (.int (Nat.toInt32 ue3)), .val (.ref b6), .val (.ref b11), .val (.ref b16), .unset, .unset] [(.ref b21)]))
  refine own_via (fun _ k => XS.dup X24.here hx rfl (hb hby at_152) rfl rfl k) ?_
  show own_Go p e below s _ _ _ (T24.setTop (mkF m 153 #[.val (.int p0), .val (.int p1), .val (.int p2), .val (.int p3), .val (.int p4), .val (.int p5), .val (.int (Nat.toInt32 nN)), .val (.int (Nat.toInt32 ue0)), .val (.int (Nat.toInt32 ue1)), .val (.int (Nat.toInt32 ue2)), .val (.int (Nat.toInt32 ue3)), .val (.ref b6), .val (.ref b11), .val (.ref b16), .unset, .unset] [(.ref b21), (.ref b21)]))
  refine own_via (fun _ k => XS.iconst X24.here hx rfl (hb hby at_153) k) ?_
  show own_Go p e below s _ _ _ (T24.setTop (mkF m 154 #[.val (.int p0), .val (.int p1), .val (.int p2), .val (.int p3), .val (.int p4), .val (.int p5), .val (.int (Nat.toInt32 nN)), .val (.int (Nat.toInt32 ue0)), .val (.int (Nat.toInt32 ue1)), .val (.int (Nat.toInt32 ue2)), .val (.int (Nat.toInt32 ue3)), .val (.ref b6), .val (.ref b11), .val (.ref b16), .unset, .unset] [(.int (3 : Int32)), (.ref b21), (.ref b21)]))
  refine own_via (fun _ k => XS.iload X24.here hx rfl (hb hby at_154) rfl k) ?_
  show own_Go p e below s _ _ _ (T24.setTop (mkF m 156 #[.val (.int p0), .val (.int p1), .val (.int p2), .val (.int p3), .val (.int p4), .val (.int p5), .val (.int (Nat.toInt32 nN)), .val (.int (Nat.toInt32 ue0)), .val (.int (Nat.toInt32 ue1)), .val (.int (Nat.toInt32 ue2)), .val (.int (Nat.toInt32 ue3)), .val (.ref b6), .val (.ref b11), .val (.ref b16), .unset, .unset] [(.int p5), (.int (3 : Int32)), (.ref b21), (.ref b21)]))
  refine own_via (fun _ k => XS.i2dS X24.here hx rfl (hb hby at_156) rfl rfl k) ?_
  show own_Go p e below s _ _ _ (T24.setTop (mkF m 157 #[.val (.int p0), .val (.int p1), .val (.int p2), .val (.int p3), .val (.int p4), .val (.int p5), .val (.int (Nat.toInt32 nN)), .val (.int (Nat.toInt32 ue0)), .val (.int (Nat.toInt32 ue1)), .val (.int (Nat.toInt32 ue2)), .val (.int (Nat.toInt32 ue3)), .val (.ref b6), .val (.ref b11), .val (.ref b16), .unset, .unset] [(.double (FP.i2d p5)), (.int (3 : Int32)), (.ref b21), (.ref b21)]))
  rw [hxv3]
  show own_Go p e below s _ _ _ (T24.setTop (mkF m 157 #[.val (.int p0), .val (.int p1), .val (.int p2), .val (.int p3), .val (.int p4), .val (.int p5), .val (.int (Nat.toInt32 nN)), .val (.int (Nat.toInt32 ue0)), .val (.int (Nat.toInt32 ue1)), .val (.int (Nat.toInt32 ue2)), .val (.int (Nat.toInt32 ue3)), .val (.ref b6), .val (.ref b11), .val (.ref b16), .unset, .unset] [(.double xv3), (.int (3 : Int32)), (.ref b21), (.ref b21)]))
  obtain ⟨cl25, Ar25, q25, S25, M25, H25, G25⟩ := (id V24)
  have hin25 : ¬ ((3 : Int32) < 0 ∨ cl25.slots.size ≤ ((3 : Int32)).toNatClampNeg) := inb_of S25 ⟨by decide, by decide⟩
  obtain ⟨T25, h25, X25, e25, W25, st25⟩ := stD X24 hx hZ e24 Ar25 (j := (3 : Int32)) hin25 (g := (mkF m 157 #[.val (.int p0), .val (.int p1), .val (.int p2), .val (.int p3), .val (.int p4), .val (.int p5), .val (.int (Nat.toInt32 nN)), .val (.int (Nat.toInt32 ue0)), .val (.int (Nat.toInt32 ue1)), .val (.int (Nat.toInt32 ue2)), .val (.int (Nat.toInt32 ue3)), .val (.ref b6), .val (.ref b11), .val (.ref b16), .unset, .unset] [(.double xv3), (.int (3 : Int32)), (.ref b21), (.ref b21)])) rfl rfl (hb hby at_157)
  have V25 : Arv Z h25 b21 k21 .double (4 : Int32) [(.double xv0), (.double xv1), (.double xv2), (.double xv3)] (.double (0 : UInt64)) := Arv.set Ar25 q25 S25 M25 H25 G25 rfl W25 3 rfl (Nat.le_of_ble_eq_true rfl)
  have N25 := Fr.snoc X25 N24 g_b21
  have Z25 : n0 ≤ h25.size := Nat.le_trans Z24 (Keep.of_wr W25).1
  refine own_via st25 ?_
  show own_Go p e below s _ _ _ (T25.setTop (mkF m 158 #[.val (.int p0), .val (.int p1), .val (.int p2), .val (.int p3), .val (.int p4), .val (.int p5), .val (.int (Nat.toInt32 nN)), .val (.int (Nat.toInt32 ue0)), .val (.int (Nat.toInt32 ue1)), .val (.int (Nat.toInt32 ue2)), .val (.int (Nat.toInt32 ue3)), .val (.ref b6), .val (.ref b11), .val (.ref b16), .unset, .unset] [(.ref b21)]))
  refine own_via (fun _ k => XS.astore X25.here hx rfl (hb hby at_158) rfl rfl (l' := #[.val (.int p0), .val (.int p1), .val (.int p2), .val (.int p3), .val (.int p4), .val (.int p5), .val (.int (Nat.toInt32 nN)), .val (.int (Nat.toInt32 ue0)), .val (.int (Nat.toInt32 ue1)), .val (.int (Nat.toInt32 ue2)), .val (.int (Nat.toInt32 ue3)), .val (.ref b6), .val (.ref b11), .val (.ref b16), .val (.ref b21), .unset]) rfl k) ?_
  show own_Go p e below s _ _ _ (T25.setTop (mkF m 160 #[.val (.int p0), .val (.int p1), .val (.int p2), .val (.int p3), .val (.int p4), .val (.int p5), .val (.int (Nat.toInt32 nN)), .val (.int (Nat.toInt32 ue0)), .val (.int (Nat.toInt32 ue1)), .val (.int (Nat.toInt32 ue2)), .val (.int (Nat.toInt32 ue3)), .val (.ref b6), .val (.ref b11), .val (.ref b16), .val (.ref b21), .unset] []))
  obtain ⟨T26, h26, X26, e26, E26, A26, D26, -, st26⟩ := newO X25 hx hZ hown (hw _ (List.mem_of_getElem? (i := 2) rfl)) (hw _ (List.mem_of_getElem? (i := 3) rfl)) (hw _ (List.mem_of_getElem? (i := 4) rfl)) e25 (g := (mkF m 160 #[.val (.int p0), .val (.int p1), .val (.int p2), .val (.int p3), .val (.int p4), .val (.int p5), .val (.int (Nat.toInt32 nN)), .val (.int (Nat.toInt32 ue0)), .val (.int (Nat.toInt32 ue1)), .val (.int (Nat.toInt32 ue2)), .val (.int (Nat.toInt32 ue3)), .val (.ref b6), .val (.ref b11), .val (.ref b16), .val (.ref b21), .unset] [])) rfl (hb hby at_160) (by decide) (by decide)
  obtain ⟨b26, gg26⟩ : ∃ z, z = h25.size := ⟨_, rfl⟩
  rw [← gg26] at A26 D26 st26
  have ne_b11_b26 : b11 ≠ b26 := Nat.ne_of_lt (Nat.lt_of_lt_of_le ((((((((((V15.ext E16).other W17 ne_b11_b16).other W18 ne_b11_b16).other W19 ne_b11_b16).other W20 ne_b11_b16).ext E21).other W22 ne_b11_b21).other W23 ne_b11_b21).other W24 ne_b11_b21).other W25 ne_b11_b21).lt (Nat.le_of_eq gg26.symm))
  have ne_b16_b26 : b16 ≠ b26 := Nat.ne_of_lt (Nat.lt_of_lt_of_le (((((V20.ext E21).other W22 ne_b16_b21).other W23 ne_b16_b21).other W24 ne_b16_b21).other W25 ne_b16_b21).lt (Nat.le_of_eq gg26.symm))
  have ne_b21_b26 : b21 ≠ b26 := Nat.ne_of_lt (Nat.lt_of_lt_of_le V25.lt (Nat.le_of_eq gg26.symm))
  have ne_b6_b26 : b6 ≠ b26 := Nat.ne_of_lt (Nat.lt_of_lt_of_le (((((((((((((((V10.ext E11).other W12 ne_b6_b11).other W13 ne_b6_b11).other W14 ne_b6_b11).other W15 ne_b6_b11).ext E16).other W17 ne_b6_b16).other W18 ne_b6_b16).other W19 ne_b6_b16).other W20 ne_b6_b16).ext E21).other W22 ne_b6_b21).other W23 ne_b6_b21).other W24 ne_b6_b21).other W25 ne_b6_b21).lt (Nat.le_of_eq gg26.symm))
  have g_b26 : n0 ≤ b26 := Nat.le_trans Z25 (Nat.le_of_eq gg26.symm)
  have Z26 : n0 ≤ h26.size := Nat.le_trans Z25 E26.1
  have F27 : Fld Z h26 b26 "com/example/enlace/enlace/rank/EquitablePartition" "classOf" "[I" .null := D26 (Or.inr (hw _ (List.mem_of_getElem? (i := 17) rfl))) (ty := (.array .int)) (by decide)
  have F28 : Fld Z h26 b26 "com/example/enlace/enlace/rank/EquitablePartition" "classCount" "I" (.int (0 : Int32)) := D26 (Or.inr (hw _ (List.mem_of_getElem? (i := 19) rfl))) (ty := .int) (by decide)
  refine own_via st26 ?_
  show own_Go p e below s _ _ _ (T26.setTop (mkF m 163 #[.val (.int p0), .val (.int p1), .val (.int p2), .val (.int p3), .val (.int p4), .val (.int p5), .val (.int (Nat.toInt32 nN)), .val (.int (Nat.toInt32 ue0)), .val (.int (Nat.toInt32 ue1)), .val (.int (Nat.toInt32 ue2)), .val (.int (Nat.toInt32 ue3)), .val (.ref b6), .val (.ref b11), .val (.ref b16), .val (.ref b21), .unset] [(.ref b26)]))
  refine own_via (fun _ k => XS.dup X26.here hx rfl (hb hby at_163) rfl rfl k) ?_
  show own_Go p e below s _ _ _ (T26.setTop (mkF m 164 #[.val (.int p0), .val (.int p1), .val (.int p2), .val (.int p3), .val (.int p4), .val (.int p5), .val (.int (Nat.toInt32 nN)), .val (.int (Nat.toInt32 ue0)), .val (.int (Nat.toInt32 ue1)), .val (.int (Nat.toInt32 ue2)), .val (.int (Nat.toInt32 ue3)), .val (.ref b6), .val (.ref b11), .val (.ref b16), .val (.ref b21), .unset] [(.ref b26), (.ref b26)]))
  refine own_via (fun _ k => XS.aload X26.here hx rfl (hb hby at_164) rfl rfl k) ?_
  show own_Go p e below s _ _ _ (T26.setTop (mkF m 166 #[.val (.int p0), .val (.int p1), .val (.int p2), .val (.int p3), .val (.int p4), .val (.int p5), .val (.int (Nat.toInt32 nN)), .val (.int (Nat.toInt32 ue0)), .val (.int (Nat.toInt32 ue1)), .val (.int (Nat.toInt32 ue2)), .val (.int (Nat.toInt32 ue3)), .val (.ref b6), .val (.ref b11), .val (.ref b16), .val (.ref b21), .unset] [(.ref b6), (.ref b26), (.ref b26)]))
  refine own_via (fun _ k => XS.iload X26.here hx rfl (hb hby at_166) rfl k) ?_
  show own_Go p e below s _ _ _ (T26.setTop (mkF m 168 #[.val (.int p0), .val (.int p1), .val (.int p2), .val (.int p3), .val (.int p4), .val (.int p5), .val (.int (Nat.toInt32 nN)), .val (.int (Nat.toInt32 ue0)), .val (.int (Nat.toInt32 ue1)), .val (.int (Nat.toInt32 ue2)), .val (.int (Nat.toInt32 ue3)), .val (.ref b6), .val (.ref b11), .val (.ref b16), .val (.ref b21), .unset] [(.int (Nat.toInt32 nN)), (.ref b6), (.ref b26), (.ref b26)]))
  obtain ⟨_, _, ⟨T29, L29, k29, n29⟩, -, X29, ⟨Lc29, hQ29, l29, y29, z29⟩, st29⟩ := X26.specialBack hx (y := (⟨"com/example/enlace/enlace/rank/EquitablePartition", "<init>", "([II)V"⟩ : MethodName)) rfl hown (mvT hZ (hw _ (List.mem_of_getElem? (i := 5) rfl))) (mvT hZ (hw _ (List.mem_of_getElem? (i := 6) rfl))) (mvT hZ (hw _ (List.mem_of_getElem? (i := 7) rfl))) (by decide) (backOf (W := 1) (rm1 l Z a0 hw [] b26 b6 (Nat.toInt32 nN) h26 n0 Z26 A26 F27 F28 g_b26) hZ (hw _ (List.mem_of_getElem? (i := 7) rfl)) (hw _ (List.mem_of_getElem? (i := 4) rfl)) (by decide) (by decide)) (g := (mkF m 168 #[.val (.int p0), .val (.int p1), .val (.int p2), .val (.int p3), .val (.int p4), .val (.int p5), .val (.int (Nat.toInt32 nN)), .val (.int (Nat.toInt32 ue0)), .val (.int (Nat.toInt32 ue1)), .val (.int (Nat.toInt32 ue2)), .val (.int (Nat.toInt32 ue3)), .val (.ref b6), .val (.ref b11), .val (.ref b16), .val (.ref b21), .unset] [(.int (Nat.toInt32 nN)), (.ref b6), (.ref b26), (.ref b26)])) rfl (by rw [hml]; rfl) (Steps.refl _) (a := b26) (argsL := [(.ref b6), (.int (Nat.toInt32 nN))]) (rest := [(.ref b26)]) (lenOf pd_1 rfl) rfl (by show 2 * 0 + _ ≤ _; exact Nat.le_of_eq rfl) (hb hby at_168) (fun _ _ => ⟨rfl, e26, (by decide : 5 + 0 ≤ _), (by decide : 18 + 0 ≤ _)⟩)
  dsimp only [Pt.U, Pt.locs, Pt.cells, Pt.slots] at X29 l29 y29 z29 st29 hQ29
  rw [l29, y29, z29] at X29
  obtain ⟨h29, e29⟩ : ∃ h, T29.heap = h := ⟨_, rfl⟩
  rw [e29] at hQ29
  obtain ⟨rfl, N29q, Kq29, F30, F31, F32⟩ := hQ29
  have Z29 : n0 ≤ h29.size := Nat.le_trans Z26 Kq29.1
  have N29 := Fr.app N25 N29q
  refine own_viaT st29 ?_
  show own_Go p e below s _ _ _ (T29.setTop (mkF m 171 #[.val (.int p0), .val (.int p1), .val (.int p2), .val (.int p3), .val (.int p4), .val (.int p5), .val (.int (Nat.toInt32 nN)), .val (.int (Nat.toInt32 ue0)), .val (.int (Nat.toInt32 ue1)), .val (.int (Nat.toInt32 ue2)), .val (.int (Nat.toInt32 ue3)), .val (.ref b6), .val (.ref b11), .val (.ref b16), .val (.ref b21), .unset] [(.ref b26)]))
  refine own_via (fun _ k => XS.astore X29.here hx rfl (hb hby at_171) rfl rfl (l' := #[.val (.int p0), .val (.int p1), .val (.int p2), .val (.int p3), .val (.int p4), .val (.int p5), .val (.int (Nat.toInt32 nN)), .val (.int (Nat.toInt32 ue0)), .val (.int (Nat.toInt32 ue1)), .val (.int (Nat.toInt32 ue2)), .val (.int (Nat.toInt32 ue3)), .val (.ref b6), .val (.ref b11), .val (.ref b16), .val (.ref b21), .val (.ref b26)]) rfl k) ?_
  show own_Go p e below s _ _ _ (T29.setTop (mkF m 173 #[.val (.int p0), .val (.int p1), .val (.int p2), .val (.int p3), .val (.int p4), .val (.int p5), .val (.int (Nat.toInt32 nN)), .val (.int (Nat.toInt32 ue0)), .val (.int (Nat.toInt32 ue1)), .val (.int (Nat.toInt32 ue2)), .val (.int (Nat.toInt32 ue3)), .val (.ref b6), .val (.ref b11), .val (.ref b16), .val (.ref b21), .val (.ref b26)] []))
  refine own_via (fun _ k => XS.aload X29.here hx rfl (hb hby at_173) rfl rfl k) ?_
  show own_Go p e below s _ _ _ (T29.setTop (mkF m 175 #[.val (.int p0), .val (.int p1), .val (.int p2), .val (.int p3), .val (.int p4), .val (.int p5), .val (.int (Nat.toInt32 nN)), .val (.int (Nat.toInt32 ue0)), .val (.int (Nat.toInt32 ue1)), .val (.int (Nat.toInt32 ue2)), .val (.int (Nat.toInt32 ue3)), .val (.ref b6), .val (.ref b11), .val (.ref b16), .val (.ref b21), .val (.ref b26)] [(.ref b26)]))
  refine own_via (fun _ k => XS.aload X29.here hx rfl (hb hby at_175) rfl rfl k) ?_
  show own_Go p e below s _ _ _ (T29.setTop (mkF m 177 #[.val (.int p0), .val (.int p1), .val (.int p2), .val (.int p3), .val (.int p4), .val (.int p5), .val (.int (Nat.toInt32 nN)), .val (.int (Nat.toInt32 ue0)), .val (.int (Nat.toInt32 ue1)), .val (.int (Nat.toInt32 ue2)), .val (.int (Nat.toInt32 ue3)), .val (.ref b6), .val (.ref b11), .val (.ref b16), .val (.ref b21), .val (.ref b26)] [(.ref b21), (.ref b26)]))
  have F34 := (((((((((((((((((V10.ext E11).other W12 ne_b6_b11).other W13 ne_b6_b11).other W14 ne_b6_b11).other W15 ne_b6_b11).ext E16).other W17 ne_b6_b16).other W18 ne_b6_b16).other W19 ne_b6_b16).other W20 ne_b6_b16).ext E21).other W22 ne_b6_b21).other W23 ne_b6_b21).other W24 ne_b6_b21).other W25 ne_b6_b21).ext E26).keep Kq29 (ninS ne_b6_b26 nin0))
  have F35 := ((V25.ext E26).keep Kq29 (ninS ne_b21_b26 nin0))
  obtain ⟨cq33, kq33, qa33, qb33, qc33⟩ := isOf hZ e29 F30
  obtain ⟨_, _, ⟨T33, L33, k33, n33⟩, -, X33, ⟨Lc33, hQ33, l33, y33, z33⟩, st33⟩ := X29.virtualBack hx (y := (⟨"com/example/enlace/enlace/rank/EquitablePartition", "average", "([D)V"⟩ : MethodName)) (z := (⟨"com/example/enlace/enlace/rank/EquitablePartition", "average", "([D)V"⟩ : MethodName)) hown (mvT hZ (hw _ (List.mem_of_getElem? (i := 20) rfl))) (mvT hZ (hw _ (List.mem_of_getElem? (i := 21) rfl))) (notFace_of_selects (args := #[]) (mvT hZ (hw _ (List.mem_of_getElem? (i := 23) rfl)))) (mvT hZ (hw _ (List.mem_of_getElem? (i := 23) rfl))) (mvT hZ (hw _ (List.mem_of_getElem? (i := 22) rfl))) (by decide) (backOf (W := 0) (rm4 l Z a0 hw [] b26 b21 b6 k6 k21 nN ue0 ue1 ue2 ue3 xv0 xv1 xv2 xv3 h29 n0 Z29 F30 F31 F32 F34 F35 g_b21 (Ne.symm ne_b6_b21) (Ne.symm ne_b21_b26) hn2 he0 he1 he2 he3 fx0 fx1 fx2 fx3) hZ (hw _ (List.mem_of_getElem? (i := 24) rfl)) (hw _ (List.mem_of_getElem? (i := 4) rfl)) (by decide) (by decide)) qa33 qc33 (g := (mkF m 177 #[.val (.int p0), .val (.int p1), .val (.int p2), .val (.int p3), .val (.int p4), .val (.int p5), .val (.int (Nat.toInt32 nN)), .val (.int (Nat.toInt32 ue0)), .val (.int (Nat.toInt32 ue1)), .val (.int (Nat.toInt32 ue2)), .val (.int (Nat.toInt32 ue3)), .val (.ref b6), .val (.ref b11), .val (.ref b16), .val (.ref b21), .val (.ref b26)] [(.ref b21), (.ref b26)])) rfl (by rw [hml]; rfl) (Steps.refl _) (argsL := [(.ref b21)]) (rest := []) (lenOf pd_2 rfl) rfl (by show 2 * 0 + _ ≤ _; exact Nat.le_of_eq rfl) (hb hby at_177) (fun _ _ => ⟨rfl, e29, (by decide : 5 + 2 ≤ _), (by decide : 18 + 8 ≤ _)⟩)
  dsimp only [Pt.U, Pt.locs, Pt.cells, Pt.slots] at X33 l33 y33 z33 st33 hQ33
  rw [l33, y33, z33] at X33
  obtain ⟨h33, e33⟩ : ∃ h, T33.heap = h := ⟨_, rfl⟩
  rw [e33] at hQ33
  obtain ⟨rfl, N33q, Kq33, F36⟩ := hQ33
  have Z33 : n0 ≤ h33.size := Nat.le_trans Z29 Kq33.1
  have N33 := Fr.app N29 N33q
  refine own_viaT st33 ?_
  show own_Go p e below s _ _ _ (T33.setTop (mkF m 180 #[.val (.int p0), .val (.int p1), .val (.int p2), .val (.int p3), .val (.int p4), .val (.int p5), .val (.int (Nat.toInt32 nN)), .val (.int (Nat.toInt32 ue0)), .val (.int (Nat.toInt32 ue1)), .val (.int (Nat.toInt32 ue2)), .val (.int (Nat.toInt32 ue3)), .val (.ref b6), .val (.ref b11), .val (.ref b16), .val (.ref b21), .val (.ref b26)] []))
  obtain ⟨qv0, hqv0⟩ : ∃ q, q = (FP.ddiv (own_gd (own_ad (own_ad (own_ad (own_ad own_dz ue0 xv0) ue1 xv1) ue2 xv2) ue3 xv3) ue0) (FP.i2d (own_gi (own_ac (own_ac (own_ac (own_ac own_cz ue0) ue1) ue2) ue3) ue0))) := ⟨_, rfl⟩
  obtain ⟨qv1, hqv1⟩ : ∃ q, q = (FP.ddiv (own_gd (own_ad (own_ad (own_ad (own_ad own_dz ue0 xv0) ue1 xv1) ue2 xv2) ue3 xv3) ue1) (FP.i2d (own_gi (own_ac (own_ac (own_ac (own_ac own_cz ue0) ue1) ue2) ue3) ue1))) := ⟨_, rfl⟩
  obtain ⟨qv2, hqv2⟩ : ∃ q, q = (FP.ddiv (own_gd (own_ad (own_ad (own_ad (own_ad own_dz ue0 xv0) ue1 xv1) ue2 xv2) ue3 xv3) ue2) (FP.i2d (own_gi (own_ac (own_ac (own_ac (own_ac own_cz ue0) ue1) ue2) ue3) ue2))) := ⟨_, rfl⟩
  obtain ⟨qv3, hqv3⟩ : ∃ q, q = (FP.ddiv (own_gd (own_ad (own_ad (own_ad (own_ad own_dz ue0 xv0) ue1 xv1) ue2 xv2) ue3 xv3) ue3) (FP.i2d (own_gi (own_ac (own_ac (own_ac (own_ac own_cz ue0) ue1) ue2) ue3) ue3))) := ⟨_, rfl⟩
  have VQ : Arv Z h33 b21 k21 .double (4 : Int32) [(.double qv0), (.double qv1), (.double qv2), (.double qv3)] (.double (0 : UInt64)) := (by rw [hqv0, hqv1, hqv2, hqv3]; exact F36)
  have hqe0 : qv0 = own_mean (Nat.toInt32 ue0) (Nat.toInt32 ue1) (Nat.toInt32 ue2) (Nat.toInt32 ue3) xv0 xv1 xv2 xv3 (Nat.toInt32 ue0) := hqv0.trans (own_Q hk0 hk1 hk2 hk3 hk0)
  have hqn0 : own_NN qv0 := by rw [hqv0]; exact own_Q_n hk0 hk1 hk2 hk3 fx0 fx1 fx2 fx3 (Or.inl rfl)
  have hqe1 : qv1 = own_mean (Nat.toInt32 ue0) (Nat.toInt32 ue1) (Nat.toInt32 ue2) (Nat.toInt32 ue3) xv0 xv1 xv2 xv3 (Nat.toInt32 ue1) := hqv1.trans (own_Q hk0 hk1 hk2 hk3 hk1)
  have hqn1 : own_NN qv1 := by rw [hqv1]; exact own_Q_n hk0 hk1 hk2 hk3 fx0 fx1 fx2 fx3 (Or.inr (Or.inl rfl))
  have hqe2 : qv2 = own_mean (Nat.toInt32 ue0) (Nat.toInt32 ue1) (Nat.toInt32 ue2) (Nat.toInt32 ue3) xv0 xv1 xv2 xv3 (Nat.toInt32 ue2) := hqv2.trans (own_Q hk0 hk1 hk2 hk3 hk2)
  have hqn2 : own_NN qv2 := by rw [hqv2]; exact own_Q_n hk0 hk1 hk2 hk3 fx0 fx1 fx2 fx3 (Or.inr (Or.inr (Or.inl rfl)))
  have hqe3 : qv3 = own_mean (Nat.toInt32 ue0) (Nat.toInt32 ue1) (Nat.toInt32 ue2) (Nat.toInt32 ue3) xv0 xv1 xv2 xv3 (Nat.toInt32 ue3) := hqv3.trans (own_Q hk0 hk1 hk2 hk3 hk3)
  have hqn3 : own_NN qv3 := by rw [hqv3]; exact own_Q_n hk0 hk1 hk2 hk3 fx0 fx1 fx2 fx3 (Or.inr (Or.inr (Or.inr rfl)))
  clear hqv0 hqv1 hqv2 hqv3 F36
  refine own_via (fun _ k => XS.aload X33.here hx rfl (hb hby at_180) rfl rfl k) ?_
  show own_Go p e below s _ _ _ (T33.setTop (mkF m 182 #[.val (.int p0), .val (.int p1), .val (.int p2), .val (.int p3), .val (.int p4), .val (.int p5), .val (.int (Nat.toInt32 nN)), .val (.int (Nat.toInt32 ue0)), .val (.int (Nat.toInt32 ue1)), .val (.int (Nat.toInt32 ue2)), .val (.int (Nat.toInt32 ue3)), .val (.ref b6), .val (.ref b11), .val (.ref b16), .val (.ref b21), .val (.ref b26)] [(.ref b21)]))
  refine own_via (fun _ k => XS.iconst X33.here hx rfl (hb hby at_182) k) ?_
  show own_Go p e below s _ _ _ (T33.setTop (mkF m 183 #[.val (.int p0), .val (.int p1), .val (.int p2), .val (.int p3), .val (.int p4), .val (.int p5), .val (.int (Nat.toInt32 nN)), .val (.int (Nat.toInt32 ue0)), .val (.int (Nat.toInt32 ue1)), .val (.int (Nat.toInt32 ue2)), .val (.int (Nat.toInt32 ue3)), .val (.ref b6), .val (.ref b11), .val (.ref b16), .val (.ref b21), .val (.ref b26)] [(.int (0 : Int32)), (.ref b21)]))
  obtain ⟨cl37, Ar37, q37, S37, M37, H37, G37⟩ := (id VQ)
  have hin37 : ¬ ((0 : Int32) < 0 ∨ cl37.slots.size ≤ ((0 : Int32)).toNatClampNeg) := inb_of S37 ⟨by decide, by decide⟩
  have hat37 : cl37.slots[((0 : Int32)).toNatClampNeg]? = some (.double qv0) := Has.at H37 hin37 rfl
  refine own_via (fun _ k => X33.daload hx (j := (0 : Int32)) (v := (.double qv0)) (by rw [e33]; exact Ar37.1) (State.isArrayOf_alike hZ.alike Ar37.2.1) Ar37.2.2 hin37 hat37 (g := (mkF m 183 #[.val (.int p0), .val (.int p1), .val (.int p2), .val (.int p3), .val (.int p4), .val (.int p5), .val (.int (Nat.toInt32 nN)), .val (.int (Nat.toInt32 ue0)), .val (.int (Nat.toInt32 ue1)), .val (.int (Nat.toInt32 ue2)), .val (.int (Nat.toInt32 ue3)), .val (.ref b6), .val (.ref b11), .val (.ref b16), .val (.ref b21), .val (.ref b26)] [(.int (0 : Int32)), (.ref b21)])) rfl rfl (hb hby at_183) _ k) ?_
  show own_Go p e below s _ _ _ (T33.setTop (mkF m 184 #[.val (.int p0), .val (.int p1), .val (.int p2), .val (.int p3), .val (.int p4), .val (.int p5), .val (.int (Nat.toInt32 nN)), .val (.int (Nat.toInt32 ue0)), .val (.int (Nat.toInt32 ue1)), .val (.int (Nat.toInt32 ue2)), .val (.int (Nat.toInt32 ue3)), .val (.ref b6), .val (.ref b11), .val (.ref b16), .val (.ref b21), .val (.ref b26)] [(.double qv0)]))
  refine own_via (fun _ k => XS.iload X33.here hx rfl (hb hby at_184) rfl k) ?_
  show own_Go p e below s _ _ _ (T33.setTop (mkF m 186 #[.val (.int p0), .val (.int p1), .val (.int p2), .val (.int p3), .val (.int p4), .val (.int p5), .val (.int (Nat.toInt32 nN)), .val (.int (Nat.toInt32 ue0)), .val (.int (Nat.toInt32 ue1)), .val (.int (Nat.toInt32 ue2)), .val (.int (Nat.toInt32 ue3)), .val (.ref b6), .val (.ref b11), .val (.ref b16), .val (.ref b21), .val (.ref b26)] [(.int (Nat.toInt32 ue0)), (.double qv0)]))
  refine own_via (fun _ k => XS.aload X33.here hx rfl (hb hby at_186) rfl rfl k) ?_
  show own_Go p e below s _ _ _ (T33.setTop (mkF m 188 #[.val (.int p0), .val (.int p1), .val (.int p2), .val (.int p3), .val (.int p4), .val (.int p5), .val (.int (Nat.toInt32 nN)), .val (.int (Nat.toInt32 ue0)), .val (.int (Nat.toInt32 ue1)), .val (.int (Nat.toInt32 ue2)), .val (.int (Nat.toInt32 ue3)), .val (.ref b6), .val (.ref b11), .val (.ref b16), .val (.ref b21), .val (.ref b26)] [(.ref b11), (.int (Nat.toInt32 ue0)), (.double qv0)]))
  refine own_via (fun _ k => XS.aload X33.here hx rfl (hb hby at_188) rfl rfl k) ?_
  show own_Go p e below s _ _ _ (T33.setTop (mkF m 190 #[.val (.int p0), .val (.int p1), .val (.int p2), .val (.int p3), .val (.int p4), .val (.int p5), .val (.int (Nat.toInt32 nN)), .val (.int (Nat.toInt32 ue0)), .val (.int (Nat.toInt32 ue1)), .val (.int (Nat.toInt32 ue2)), .val (.int (Nat.toInt32 ue3)), .val (.ref b6), .val (.ref b11), .val (.ref b16), .val (.ref b21), .val (.ref b26)] [(.ref b16), (.ref b11), (.int (Nat.toInt32 ue0)), (.double qv0)]))
  have F39 := (((((((((((((V15.ext E16).other W17 ne_b11_b16).other W18 ne_b11_b16).other W19 ne_b11_b16).other W20 ne_b11_b16).ext E21).other W22 ne_b11_b21).other W23 ne_b11_b21).other W24 ne_b11_b21).other W25 ne_b11_b21).ext E26).keep Kq29 (ninS ne_b11_b26 nin0)).keep Kq33 (ninS ne_b11_b21 nin0))
  have F40 := ((((((((V20.ext E21).other W22 ne_b16_b21).other W23 ne_b16_b21).other W24 ne_b16_b21).other W25 ne_b16_b21).ext E26).keep Kq29 (ninS ne_b16_b26 nin0)).keep Kq33 (ninS ne_b16_b21 nin0))
  obtain ⟨_, _, ⟨T38, L38, k38, n38⟩, -, X38, ⟨Lc38, hQ38, l38, y38, z38⟩, st38⟩ := Jvm.LawKit.callS X33 hx (y := (⟨"com/example/enlace/enlace/rank/EquitablePartitionAveragePinLaw", "mean", "(I[I[D)D"⟩ : MethodName)) hown (mvT hZ (hw _ (List.mem_of_getElem? (i := 25) rfl))) (mvT hZ (hw _ (List.mem_of_getElem? (i := 26) rfl))) (mvT hZ (hw _ (List.mem_of_getElem? (i := 27) rfl))) (mvT hZ (hw _ (List.mem_of_getElem? (i := 28) rfl))) (by decide) (backOf (W := 2) (rm5 l Z a0 hw [] (Nat.toInt32 ue0) b11 b16 k11 k16 (Nat.toInt32 ue0) (Nat.toInt32 ue1) (Nat.toInt32 ue2) (Nat.toInt32 ue3) xv0 xv1 xv2 xv3 h33 n0 Z33 F39 F40 (Or.inl rfl) fx0 fx1 fx2 fx3) hZ (hw _ (List.mem_of_getElem? (i := 28) rfl)) (hw _ (List.mem_of_getElem? (i := 27) rfl)) (by decide) (by decide)) (g := (mkF m 190 #[.val (.int p0), .val (.int p1), .val (.int p2), .val (.int p3), .val (.int p4), .val (.int p5), .val (.int (Nat.toInt32 nN)), .val (.int (Nat.toInt32 ue0)), .val (.int (Nat.toInt32 ue1)), .val (.int (Nat.toInt32 ue2)), .val (.int (Nat.toInt32 ue3)), .val (.ref b6), .val (.ref b11), .val (.ref b16), .val (.ref b21), .val (.ref b26)] [(.ref b16), (.ref b11), (.int (Nat.toInt32 ue0)), (.double qv0)])) rfl (by rw [hml]; rfl) (argsL := [(.int (Nat.toInt32 ue0)), (.ref b11), (.ref b16)]) (rest := [(.double qv0)]) (lenOf pd_3 rfl) rfl (by show 2 * 0 + _ ≤ _; exact Nat.le_of_eq rfl) (hb hby at_190) (fun _ _ => ⟨rfl, e33, (by decide : 7 + 0 ≤ _), (by decide : 26 + 0 ≤ _)⟩)
  dsimp only [Pt.U, Pt.locs, Pt.cells, Pt.slots] at X38 l38 y38 z38 st38 hQ38
  rw [l38, y38, z38] at X38
  obtain ⟨rfl, N38q, e38⟩ := hQ38
  have N38 := Fr.app N33 N38q
  refine own_via st38 ?_
  show own_Go p e below s _ _ _ (T38.setTop (mkF m 193 #[.val (.int p0), .val (.int p1), .val (.int p2), .val (.int p3), .val (.int p4), .val (.int p5), .val (.int (Nat.toInt32 nN)), .val (.int (Nat.toInt32 ue0)), .val (.int (Nat.toInt32 ue1)), .val (.int (Nat.toInt32 ue2)), .val (.int (Nat.toInt32 ue3)), .val (.ref b6), .val (.ref b11), .val (.ref b16), .val (.ref b21), .val (.ref b26)] [(.double (own_mean (Nat.toInt32 ue0) (Nat.toInt32 ue1) (Nat.toInt32 ue2) (Nat.toInt32 ue3) xv0 xv1 xv2 xv3 (Nat.toInt32 ue0))), (.double qv0)]))
  refine own_via (fun _ k => XS.dcmpS X38.here hx rfl (hb hby at_193) rfl (Jvm.RoadKit.dcmpV_eq hqe0 hqn0 _) k) ?_
  show own_Go p e below s _ _ _ (T38.setTop (mkF m 194 #[.val (.int p0), .val (.int p1), .val (.int p2), .val (.int p3), .val (.int p4), .val (.int p5), .val (.int (Nat.toInt32 nN)), .val (.int (Nat.toInt32 ue0)), .val (.int (Nat.toInt32 ue1)), .val (.int (Nat.toInt32 ue2)), .val (.int (Nat.toInt32 ue3)), .val (.ref b6), .val (.ref b11), .val (.ref b16), .val (.ref b21), .val (.ref b26)] [(.int (0 : Int32))]))
  refine own_via (fun _ k => XS.ifNo X38.here hx rfl (hb hby at_194) rfl (Jvm.Free.XT.i0_ne_f (by decide)) k) ?_
  show own_Go p e below s _ _ _ (T38.setTop (mkF m 197 #[.val (.int p0), .val (.int p1), .val (.int p2), .val (.int p3), .val (.int p4), .val (.int p5), .val (.int (Nat.toInt32 nN)), .val (.int (Nat.toInt32 ue0)), .val (.int (Nat.toInt32 ue1)), .val (.int (Nat.toInt32 ue2)), .val (.int (Nat.toInt32 ue3)), .val (.ref b6), .val (.ref b11), .val (.ref b16), .val (.ref b21), .val (.ref b26)] []))
  refine own_via (fun _ k => XS.aload X38.here hx rfl (hb hby at_197) rfl rfl k) ?_
  show own_Go p e below s _ _ _ (T38.setTop (mkF m 199 #[.val (.int p0), .val (.int p1), .val (.int p2), .val (.int p3), .val (.int p4), .val (.int p5), .val (.int (Nat.toInt32 nN)), .val (.int (Nat.toInt32 ue0)), .val (.int (Nat.toInt32 ue1)), .val (.int (Nat.toInt32 ue2)), .val (.int (Nat.toInt32 ue3)), .val (.ref b6), .val (.ref b11), .val (.ref b16), .val (.ref b21), .val (.ref b26)] [(.ref b21)]))
  refine own_via (fun _ k => XS.iconst X38.here hx rfl (hb hby at_199) k) ?_
  show own_Go p e below s _ _ _ (T38.setTop (mkF m 200 #[.val (.int p0), .val (.int p1), .val (.int p2), .val (.int p3), .val (.int p4), .val (.int p5), .val (.int (Nat.toInt32 nN)), .val (.int (Nat.toInt32 ue0)), .val (.int (Nat.toInt32 ue1)), .val (.int (Nat.toInt32 ue2)), .val (.int (Nat.toInt32 ue3)), .val (.ref b6), .val (.ref b11), .val (.ref b16), .val (.ref b21), .val (.ref b26)] [(.int (1 : Int32)), (.ref b21)]))
  obtain ⟨cl41, Ar41, q41, S41, M41, H41, G41⟩ := (id VQ)
  have hin41 : ¬ ((1 : Int32) < 0 ∨ cl41.slots.size ≤ ((1 : Int32)).toNatClampNeg) := inb_of S41 ⟨by decide, by decide⟩
  have hat41 : cl41.slots[((1 : Int32)).toNatClampNeg]? = some (.double qv1) := Has.at H41 hin41 rfl
  refine own_via (fun _ k => X38.daload hx (j := (1 : Int32)) (v := (.double qv1)) (by rw [e38]; exact Ar41.1) (State.isArrayOf_alike hZ.alike Ar41.2.1) Ar41.2.2 hin41 hat41 (g := (mkF m 200 #[.val (.int p0), .val (.int p1), .val (.int p2), .val (.int p3), .val (.int p4), .val (.int p5), .val (.int (Nat.toInt32 nN)), .val (.int (Nat.toInt32 ue0)), .val (.int (Nat.toInt32 ue1)), .val (.int (Nat.toInt32 ue2)), .val (.int (Nat.toInt32 ue3)), .val (.ref b6), .val (.ref b11), .val (.ref b16), .val (.ref b21), .val (.ref b26)] [(.int (1 : Int32)), (.ref b21)])) rfl rfl (hb hby at_200) _ k) ?_
  show own_Go p e below s _ _ _ (T38.setTop (mkF m 201 #[.val (.int p0), .val (.int p1), .val (.int p2), .val (.int p3), .val (.int p4), .val (.int p5), .val (.int (Nat.toInt32 nN)), .val (.int (Nat.toInt32 ue0)), .val (.int (Nat.toInt32 ue1)), .val (.int (Nat.toInt32 ue2)), .val (.int (Nat.toInt32 ue3)), .val (.ref b6), .val (.ref b11), .val (.ref b16), .val (.ref b21), .val (.ref b26)] [(.double qv1)]))
  refine own_via (fun _ k => XS.iload X38.here hx rfl (hb hby at_201) rfl k) ?_
  show own_Go p e below s _ _ _ (T38.setTop (mkF m 203 #[.val (.int p0), .val (.int p1), .val (.int p2), .val (.int p3), .val (.int p4), .val (.int p5), .val (.int (Nat.toInt32 nN)), .val (.int (Nat.toInt32 ue0)), .val (.int (Nat.toInt32 ue1)), .val (.int (Nat.toInt32 ue2)), .val (.int (Nat.toInt32 ue3)), .val (.ref b6), .val (.ref b11), .val (.ref b16), .val (.ref b21), .val (.ref b26)] [(.int (Nat.toInt32 ue1)), (.double qv1)]))
  refine own_via (fun _ k => XS.aload X38.here hx rfl (hb hby at_203) rfl rfl k) ?_
  show own_Go p e below s _ _ _ (T38.setTop (mkF m 205 #[.val (.int p0), .val (.int p1), .val (.int p2), .val (.int p3), .val (.int p4), .val (.int p5), .val (.int (Nat.toInt32 nN)), .val (.int (Nat.toInt32 ue0)), .val (.int (Nat.toInt32 ue1)), .val (.int (Nat.toInt32 ue2)), .val (.int (Nat.toInt32 ue3)), .val (.ref b6), .val (.ref b11), .val (.ref b16), .val (.ref b21), .val (.ref b26)] [(.ref b11), (.int (Nat.toInt32 ue1)), (.double qv1)]))
  refine own_via (fun _ k => XS.aload X38.here hx rfl (hb hby at_205) rfl rfl k) ?_
  show own_Go p e below s _ _ _ (T38.setTop (mkF m 207 #[.val (.int p0), .val (.int p1), .val (.int p2), .val (.int p3), .val (.int p4), .val (.int p5), .val (.int (Nat.toInt32 nN)), .val (.int (Nat.toInt32 ue0)), .val (.int (Nat.toInt32 ue1)), .val (.int (Nat.toInt32 ue2)), .val (.int (Nat.toInt32 ue3)), .val (.ref b6), .val (.ref b11), .val (.ref b16), .val (.ref b21), .val (.ref b26)] [(.ref b16), (.ref b11), (.int (Nat.toInt32 ue1)), (.double qv1)]))
  obtain ⟨_, _, ⟨T42, L42, k42, n42⟩, -, X42, ⟨Lc42, hQ42, l42, y42, z42⟩, st42⟩ := Jvm.LawKit.callS X38 hx (y := (⟨"com/example/enlace/enlace/rank/EquitablePartitionAveragePinLaw", "mean", "(I[I[D)D"⟩ : MethodName)) hown (mvT hZ (hw _ (List.mem_of_getElem? (i := 25) rfl))) (mvT hZ (hw _ (List.mem_of_getElem? (i := 26) rfl))) (mvT hZ (hw _ (List.mem_of_getElem? (i := 27) rfl))) (mvT hZ (hw _ (List.mem_of_getElem? (i := 28) rfl))) (by decide) (backOf (W := 2) (rm5 l Z a0 hw [] (Nat.toInt32 ue1) b11 b16 k11 k16 (Nat.toInt32 ue0) (Nat.toInt32 ue1) (Nat.toInt32 ue2) (Nat.toInt32 ue3) xv0 xv1 xv2 xv3 h33 n0 Z33 F39 F40 (Or.inr (Or.inl rfl)) fx0 fx1 fx2 fx3) hZ (hw _ (List.mem_of_getElem? (i := 28) rfl)) (hw _ (List.mem_of_getElem? (i := 27) rfl)) (by decide) (by decide)) (g := (mkF m 207 #[.val (.int p0), .val (.int p1), .val (.int p2), .val (.int p3), .val (.int p4), .val (.int p5), .val (.int (Nat.toInt32 nN)), .val (.int (Nat.toInt32 ue0)), .val (.int (Nat.toInt32 ue1)), .val (.int (Nat.toInt32 ue2)), .val (.int (Nat.toInt32 ue3)), .val (.ref b6), .val (.ref b11), .val (.ref b16), .val (.ref b21), .val (.ref b26)] [(.ref b16), (.ref b11), (.int (Nat.toInt32 ue1)), (.double qv1)])) rfl (by rw [hml]; rfl) (argsL := [(.int (Nat.toInt32 ue1)), (.ref b11), (.ref b16)]) (rest := [(.double qv1)]) (lenOf pd_3 rfl) rfl (by show 2 * 0 + _ ≤ _; exact Nat.le_of_eq rfl) (hb hby at_207) (fun _ _ => ⟨rfl, e38, (by decide : 7 + 0 ≤ _), (by decide : 26 + 0 ≤ _)⟩)
  dsimp only [Pt.U, Pt.locs, Pt.cells, Pt.slots] at X42 l42 y42 z42 st42 hQ42
  rw [l42, y42, z42] at X42
  obtain ⟨rfl, N42q, e42⟩ := hQ42
  have N42 := Fr.app N38 N42q
  refine own_via st42 ?_
  show own_Go p e below s _ _ _ (T42.setTop (mkF m 210 #[.val (.int p0), .val (.int p1), .val (.int p2), .val (.int p3), .val (.int p4), .val (.int p5), .val (.int (Nat.toInt32 nN)), .val (.int (Nat.toInt32 ue0)), .val (.int (Nat.toInt32 ue1)), .val (.int (Nat.toInt32 ue2)), .val (.int (Nat.toInt32 ue3)), .val (.ref b6), .val (.ref b11), .val (.ref b16), .val (.ref b21), .val (.ref b26)] [(.double (own_mean (Nat.toInt32 ue0) (Nat.toInt32 ue1) (Nat.toInt32 ue2) (Nat.toInt32 ue3) xv0 xv1 xv2 xv3 (Nat.toInt32 ue1))), (.double qv1)]))
  refine own_via (fun _ k => XS.dcmpS X42.here hx rfl (hb hby at_210) rfl (Jvm.RoadKit.dcmpV_eq hqe1 hqn1 _) k) ?_
  show own_Go p e below s _ _ _ (T42.setTop (mkF m 211 #[.val (.int p0), .val (.int p1), .val (.int p2), .val (.int p3), .val (.int p4), .val (.int p5), .val (.int (Nat.toInt32 nN)), .val (.int (Nat.toInt32 ue0)), .val (.int (Nat.toInt32 ue1)), .val (.int (Nat.toInt32 ue2)), .val (.int (Nat.toInt32 ue3)), .val (.ref b6), .val (.ref b11), .val (.ref b16), .val (.ref b21), .val (.ref b26)] [(.int (0 : Int32))]))
  refine own_via (fun _ k => XS.ifNo X42.here hx rfl (hb hby at_211) rfl (Jvm.Free.XT.i0_ne_f (by decide)) k) ?_
  show own_Go p e below s _ _ _ (T42.setTop (mkF m 214 #[.val (.int p0), .val (.int p1), .val (.int p2), .val (.int p3), .val (.int p4), .val (.int p5), .val (.int (Nat.toInt32 nN)), .val (.int (Nat.toInt32 ue0)), .val (.int (Nat.toInt32 ue1)), .val (.int (Nat.toInt32 ue2)), .val (.int (Nat.toInt32 ue3)), .val (.ref b6), .val (.ref b11), .val (.ref b16), .val (.ref b21), .val (.ref b26)] []))
  refine own_via (fun _ k => XS.aload X42.here hx rfl (hb hby at_214) rfl rfl k) ?_
  show own_Go p e below s _ _ _ (T42.setTop (mkF m 216 #[.val (.int p0), .val (.int p1), .val (.int p2), .val (.int p3), .val (.int p4), .val (.int p5), .val (.int (Nat.toInt32 nN)), .val (.int (Nat.toInt32 ue0)), .val (.int (Nat.toInt32 ue1)), .val (.int (Nat.toInt32 ue2)), .val (.int (Nat.toInt32 ue3)), .val (.ref b6), .val (.ref b11), .val (.ref b16), .val (.ref b21), .val (.ref b26)] [(.ref b21)]))
  refine own_via (fun _ k => XS.iconst X42.here hx rfl (hb hby at_216) k) ?_
  show own_Go p e below s _ _ _ (T42.setTop (mkF m 217 #[.val (.int p0), .val (.int p1), .val (.int p2), .val (.int p3), .val (.int p4), .val (.int p5), .val (.int (Nat.toInt32 nN)), .val (.int (Nat.toInt32 ue0)), .val (.int (Nat.toInt32 ue1)), .val (.int (Nat.toInt32 ue2)), .val (.int (Nat.toInt32 ue3)), .val (.ref b6), .val (.ref b11), .val (.ref b16), .val (.ref b21), .val (.ref b26)] [(.int (2 : Int32)), (.ref b21)]))
  obtain ⟨cl43, Ar43, q43, S43, M43, H43, G43⟩ := (id VQ)
  have hin43 : ¬ ((2 : Int32) < 0 ∨ cl43.slots.size ≤ ((2 : Int32)).toNatClampNeg) := inb_of S43 ⟨by decide, by decide⟩
  have hat43 : cl43.slots[((2 : Int32)).toNatClampNeg]? = some (.double qv2) := Has.at H43 hin43 rfl
  refine own_via (fun _ k => X42.daload hx (j := (2 : Int32)) (v := (.double qv2)) (by rw [e42]; exact Ar43.1) (State.isArrayOf_alike hZ.alike Ar43.2.1) Ar43.2.2 hin43 hat43 (g := (mkF m 217 #[.val (.int p0), .val (.int p1), .val (.int p2), .val (.int p3), .val (.int p4), .val (.int p5), .val (.int (Nat.toInt32 nN)), .val (.int (Nat.toInt32 ue0)), .val (.int (Nat.toInt32 ue1)), .val (.int (Nat.toInt32 ue2)), .val (.int (Nat.toInt32 ue3)), .val (.ref b6), .val (.ref b11), .val (.ref b16), .val (.ref b21), .val (.ref b26)] [(.int (2 : Int32)), (.ref b21)])) rfl rfl (hb hby at_217) _ k) ?_
  show own_Go p e below s _ _ _ (T42.setTop (mkF m 218 #[.val (.int p0), .val (.int p1), .val (.int p2), .val (.int p3), .val (.int p4), .val (.int p5), .val (.int (Nat.toInt32 nN)), .val (.int (Nat.toInt32 ue0)), .val (.int (Nat.toInt32 ue1)), .val (.int (Nat.toInt32 ue2)), .val (.int (Nat.toInt32 ue3)), .val (.ref b6), .val (.ref b11), .val (.ref b16), .val (.ref b21), .val (.ref b26)] [(.double qv2)]))
  refine own_via (fun _ k => XS.iload X42.here hx rfl (hb hby at_218) rfl k) ?_
  show own_Go p e below s _ _ _ (T42.setTop (mkF m 220 #[.val (.int p0), .val (.int p1), .val (.int p2), .val (.int p3), .val (.int p4), .val (.int p5), .val (.int (Nat.toInt32 nN)), .val (.int (Nat.toInt32 ue0)), .val (.int (Nat.toInt32 ue1)), .val (.int (Nat.toInt32 ue2)), .val (.int (Nat.toInt32 ue3)), .val (.ref b6), .val (.ref b11), .val (.ref b16), .val (.ref b21), .val (.ref b26)] [(.int (Nat.toInt32 ue2)), (.double qv2)]))
  refine own_via (fun _ k => XS.aload X42.here hx rfl (hb hby at_220) rfl rfl k) ?_
  show own_Go p e below s _ _ _ (T42.setTop (mkF m 222 #[.val (.int p0), .val (.int p1), .val (.int p2), .val (.int p3), .val (.int p4), .val (.int p5), .val (.int (Nat.toInt32 nN)), .val (.int (Nat.toInt32 ue0)), .val (.int (Nat.toInt32 ue1)), .val (.int (Nat.toInt32 ue2)), .val (.int (Nat.toInt32 ue3)), .val (.ref b6), .val (.ref b11), .val (.ref b16), .val (.ref b21), .val (.ref b26)] [(.ref b11), (.int (Nat.toInt32 ue2)), (.double qv2)]))
  refine own_via (fun _ k => XS.aload X42.here hx rfl (hb hby at_222) rfl rfl k) ?_
  show own_Go p e below s _ _ _ (T42.setTop (mkF m 224 #[.val (.int p0), .val (.int p1), .val (.int p2), .val (.int p3), .val (.int p4), .val (.int p5), .val (.int (Nat.toInt32 nN)), .val (.int (Nat.toInt32 ue0)), .val (.int (Nat.toInt32 ue1)), .val (.int (Nat.toInt32 ue2)), .val (.int (Nat.toInt32 ue3)), .val (.ref b6), .val (.ref b11), .val (.ref b16), .val (.ref b21), .val (.ref b26)] [(.ref b16), (.ref b11), (.int (Nat.toInt32 ue2)), (.double qv2)]))
  obtain ⟨_, _, ⟨T44, L44, k44, n44⟩, -, X44, ⟨Lc44, hQ44, l44, y44, z44⟩, st44⟩ := Jvm.LawKit.callS X42 hx (y := (⟨"com/example/enlace/enlace/rank/EquitablePartitionAveragePinLaw", "mean", "(I[I[D)D"⟩ : MethodName)) hown (mvT hZ (hw _ (List.mem_of_getElem? (i := 25) rfl))) (mvT hZ (hw _ (List.mem_of_getElem? (i := 26) rfl))) (mvT hZ (hw _ (List.mem_of_getElem? (i := 27) rfl))) (mvT hZ (hw _ (List.mem_of_getElem? (i := 28) rfl))) (by decide) (backOf (W := 2) (rm5 l Z a0 hw [] (Nat.toInt32 ue2) b11 b16 k11 k16 (Nat.toInt32 ue0) (Nat.toInt32 ue1) (Nat.toInt32 ue2) (Nat.toInt32 ue3) xv0 xv1 xv2 xv3 h33 n0 Z33 F39 F40 (Or.inr (Or.inr (Or.inl rfl))) fx0 fx1 fx2 fx3) hZ (hw _ (List.mem_of_getElem? (i := 28) rfl)) (hw _ (List.mem_of_getElem? (i := 27) rfl)) (by decide) (by decide)) (g := (mkF m 224 #[.val (.int p0), .val (.int p1), .val (.int p2), .val (.int p3), .val (.int p4), .val (.int p5), .val (.int (Nat.toInt32 nN)), .val (.int (Nat.toInt32 ue0)), .val (.int (Nat.toInt32 ue1)), .val (.int (Nat.toInt32 ue2)), .val (.int (Nat.toInt32 ue3)), .val (.ref b6), .val (.ref b11), .val (.ref b16), .val (.ref b21), .val (.ref b26)] [(.ref b16), (.ref b11), (.int (Nat.toInt32 ue2)), (.double qv2)])) rfl (by rw [hml]; rfl) (argsL := [(.int (Nat.toInt32 ue2)), (.ref b11), (.ref b16)]) (rest := [(.double qv2)]) (lenOf pd_3 rfl) rfl (by show 2 * 0 + _ ≤ _; exact Nat.le_of_eq rfl) (hb hby at_224) (fun _ _ => ⟨rfl, e42, (by decide : 7 + 0 ≤ _), (by decide : 26 + 0 ≤ _)⟩)
  dsimp only [Pt.U, Pt.locs, Pt.cells, Pt.slots] at X44 l44 y44 z44 st44 hQ44
  rw [l44, y44, z44] at X44
  obtain ⟨rfl, N44q, e44⟩ := hQ44
  have N44 := Fr.app N42 N44q
  refine own_via st44 ?_
  show own_Go p e below s _ _ _ (T44.setTop (mkF m 227 #[.val (.int p0), .val (.int p1), .val (.int p2), .val (.int p3), .val (.int p4), .val (.int p5), .val (.int (Nat.toInt32 nN)), .val (.int (Nat.toInt32 ue0)), .val (.int (Nat.toInt32 ue1)), .val (.int (Nat.toInt32 ue2)), .val (.int (Nat.toInt32 ue3)), .val (.ref b6), .val (.ref b11), .val (.ref b16), .val (.ref b21), .val (.ref b26)] [(.double (own_mean (Nat.toInt32 ue0) (Nat.toInt32 ue1) (Nat.toInt32 ue2) (Nat.toInt32 ue3) xv0 xv1 xv2 xv3 (Nat.toInt32 ue2))), (.double qv2)]))
  refine own_via (fun _ k => XS.dcmpS X44.here hx rfl (hb hby at_227) rfl (Jvm.RoadKit.dcmpV_eq hqe2 hqn2 _) k) ?_
  show own_Go p e below s _ _ _ (T44.setTop (mkF m 228 #[.val (.int p0), .val (.int p1), .val (.int p2), .val (.int p3), .val (.int p4), .val (.int p5), .val (.int (Nat.toInt32 nN)), .val (.int (Nat.toInt32 ue0)), .val (.int (Nat.toInt32 ue1)), .val (.int (Nat.toInt32 ue2)), .val (.int (Nat.toInt32 ue3)), .val (.ref b6), .val (.ref b11), .val (.ref b16), .val (.ref b21), .val (.ref b26)] [(.int (0 : Int32))]))
  refine own_via (fun _ k => XS.ifNo X44.here hx rfl (hb hby at_228) rfl (Jvm.Free.XT.i0_ne_f (by decide)) k) ?_
  show own_Go p e below s _ _ _ (T44.setTop (mkF m 231 #[.val (.int p0), .val (.int p1), .val (.int p2), .val (.int p3), .val (.int p4), .val (.int p5), .val (.int (Nat.toInt32 nN)), .val (.int (Nat.toInt32 ue0)), .val (.int (Nat.toInt32 ue1)), .val (.int (Nat.toInt32 ue2)), .val (.int (Nat.toInt32 ue3)), .val (.ref b6), .val (.ref b11), .val (.ref b16), .val (.ref b21), .val (.ref b26)] []))
  refine own_via (fun _ k => XS.aload X44.here hx rfl (hb hby at_231) rfl rfl k) ?_
  show own_Go p e below s _ _ _ (T44.setTop (mkF m 233 #[.val (.int p0), .val (.int p1), .val (.int p2), .val (.int p3), .val (.int p4), .val (.int p5), .val (.int (Nat.toInt32 nN)), .val (.int (Nat.toInt32 ue0)), .val (.int (Nat.toInt32 ue1)), .val (.int (Nat.toInt32 ue2)), .val (.int (Nat.toInt32 ue3)), .val (.ref b6), .val (.ref b11), .val (.ref b16), .val (.ref b21), .val (.ref b26)] [(.ref b21)]))
  refine own_via (fun _ k => XS.iconst X44.here hx rfl (hb hby at_233) k) ?_
  show own_Go p e below s _ _ _ (T44.setTop (mkF m 234 #[.val (.int p0), .val (.int p1), .val (.int p2), .val (.int p3), .val (.int p4), .val (.int p5), .val (.int (Nat.toInt32 nN)), .val (.int (Nat.toInt32 ue0)), .val (.int (Nat.toInt32 ue1)), .val (.int (Nat.toInt32 ue2)), .val (.int (Nat.toInt32 ue3)), .val (.ref b6), .val (.ref b11), .val (.ref b16), .val (.ref b21), .val (.ref b26)] [(.int (3 : Int32)), (.ref b21)]))
  obtain ⟨cl45, Ar45, q45, S45, M45, H45, G45⟩ := (id VQ)
  have hin45 : ¬ ((3 : Int32) < 0 ∨ cl45.slots.size ≤ ((3 : Int32)).toNatClampNeg) := inb_of S45 ⟨by decide, by decide⟩
  have hat45 : cl45.slots[((3 : Int32)).toNatClampNeg]? = some (.double qv3) := Has.at H45 hin45 rfl
  refine own_via (fun _ k => X44.daload hx (j := (3 : Int32)) (v := (.double qv3)) (by rw [e44]; exact Ar45.1) (State.isArrayOf_alike hZ.alike Ar45.2.1) Ar45.2.2 hin45 hat45 (g := (mkF m 234 #[.val (.int p0), .val (.int p1), .val (.int p2), .val (.int p3), .val (.int p4), .val (.int p5), .val (.int (Nat.toInt32 nN)), .val (.int (Nat.toInt32 ue0)), .val (.int (Nat.toInt32 ue1)), .val (.int (Nat.toInt32 ue2)), .val (.int (Nat.toInt32 ue3)), .val (.ref b6), .val (.ref b11), .val (.ref b16), .val (.ref b21), .val (.ref b26)] [(.int (3 : Int32)), (.ref b21)])) rfl rfl (hb hby at_234) _ k) ?_
  show own_Go p e below s _ _ _ (T44.setTop (mkF m 235 #[.val (.int p0), .val (.int p1), .val (.int p2), .val (.int p3), .val (.int p4), .val (.int p5), .val (.int (Nat.toInt32 nN)), .val (.int (Nat.toInt32 ue0)), .val (.int (Nat.toInt32 ue1)), .val (.int (Nat.toInt32 ue2)), .val (.int (Nat.toInt32 ue3)), .val (.ref b6), .val (.ref b11), .val (.ref b16), .val (.ref b21), .val (.ref b26)] [(.double qv3)]))
  refine own_via (fun _ k => XS.iload X44.here hx rfl (hb hby at_235) rfl k) ?_
  show own_Go p e below s _ _ _ (T44.setTop (mkF m 237 #[.val (.int p0), .val (.int p1), .val (.int p2), .val (.int p3), .val (.int p4), .val (.int p5), .val (.int (Nat.toInt32 nN)), .val (.int (Nat.toInt32 ue0)), .val (.int (Nat.toInt32 ue1)), .val (.int (Nat.toInt32 ue2)), .val (.int (Nat.toInt32 ue3)), .val (.ref b6), .val (.ref b11), .val (.ref b16), .val (.ref b21), .val (.ref b26)] [(.int (Nat.toInt32 ue3)), (.double qv3)]))
  refine own_via (fun _ k => XS.aload X44.here hx rfl (hb hby at_237) rfl rfl k) ?_
  show own_Go p e below s _ _ _ (T44.setTop (mkF m 239 #[.val (.int p0), .val (.int p1), .val (.int p2), .val (.int p3), .val (.int p4), .val (.int p5), .val (.int (Nat.toInt32 nN)), .val (.int (Nat.toInt32 ue0)), .val (.int (Nat.toInt32 ue1)), .val (.int (Nat.toInt32 ue2)), .val (.int (Nat.toInt32 ue3)), .val (.ref b6), .val (.ref b11), .val (.ref b16), .val (.ref b21), .val (.ref b26)] [(.ref b11), (.int (Nat.toInt32 ue3)), (.double qv3)]))
  refine own_via (fun _ k => XS.aload X44.here hx rfl (hb hby at_239) rfl rfl k) ?_
  show own_Go p e below s _ _ _ (T44.setTop (mkF m 241 #[.val (.int p0), .val (.int p1), .val (.int p2), .val (.int p3), .val (.int p4), .val (.int p5), .val (.int (Nat.toInt32 nN)), .val (.int (Nat.toInt32 ue0)), .val (.int (Nat.toInt32 ue1)), .val (.int (Nat.toInt32 ue2)), .val (.int (Nat.toInt32 ue3)), .val (.ref b6), .val (.ref b11), .val (.ref b16), .val (.ref b21), .val (.ref b26)] [(.ref b16), (.ref b11), (.int (Nat.toInt32 ue3)), (.double qv3)]))
  obtain ⟨_, _, ⟨T46, L46, k46, n46⟩, -, X46, ⟨Lc46, hQ46, l46, y46, z46⟩, st46⟩ := Jvm.LawKit.callS X44 hx (y := (⟨"com/example/enlace/enlace/rank/EquitablePartitionAveragePinLaw", "mean", "(I[I[D)D"⟩ : MethodName)) hown (mvT hZ (hw _ (List.mem_of_getElem? (i := 25) rfl))) (mvT hZ (hw _ (List.mem_of_getElem? (i := 26) rfl))) (mvT hZ (hw _ (List.mem_of_getElem? (i := 27) rfl))) (mvT hZ (hw _ (List.mem_of_getElem? (i := 28) rfl))) (by decide) (backOf (W := 2) (rm5 l Z a0 hw [] (Nat.toInt32 ue3) b11 b16 k11 k16 (Nat.toInt32 ue0) (Nat.toInt32 ue1) (Nat.toInt32 ue2) (Nat.toInt32 ue3) xv0 xv1 xv2 xv3 h33 n0 Z33 F39 F40 (Or.inr (Or.inr (Or.inr rfl))) fx0 fx1 fx2 fx3) hZ (hw _ (List.mem_of_getElem? (i := 28) rfl)) (hw _ (List.mem_of_getElem? (i := 27) rfl)) (by decide) (by decide)) (g := (mkF m 241 #[.val (.int p0), .val (.int p1), .val (.int p2), .val (.int p3), .val (.int p4), .val (.int p5), .val (.int (Nat.toInt32 nN)), .val (.int (Nat.toInt32 ue0)), .val (.int (Nat.toInt32 ue1)), .val (.int (Nat.toInt32 ue2)), .val (.int (Nat.toInt32 ue3)), .val (.ref b6), .val (.ref b11), .val (.ref b16), .val (.ref b21), .val (.ref b26)] [(.ref b16), (.ref b11), (.int (Nat.toInt32 ue3)), (.double qv3)])) rfl (by rw [hml]; rfl) (argsL := [(.int (Nat.toInt32 ue3)), (.ref b11), (.ref b16)]) (rest := [(.double qv3)]) (lenOf pd_3 rfl) rfl (by show 2 * 0 + _ ≤ _; exact Nat.le_of_eq rfl) (hb hby at_241) (fun _ _ => ⟨rfl, e44, (by decide : 7 + 0 ≤ _), (by decide : 26 + 0 ≤ _)⟩)
  dsimp only [Pt.U, Pt.locs, Pt.cells, Pt.slots] at X46 l46 y46 z46 st46 hQ46
  rw [l46, y46, z46] at X46
  obtain ⟨rfl, N46q, e46⟩ := hQ46
  have N46 := Fr.app N44 N46q
  refine own_via st46 ?_
  show own_Go p e below s _ _ _ (T46.setTop (mkF m 244 #[.val (.int p0), .val (.int p1), .val (.int p2), .val (.int p3), .val (.int p4), .val (.int p5), .val (.int (Nat.toInt32 nN)), .val (.int (Nat.toInt32 ue0)), .val (.int (Nat.toInt32 ue1)), .val (.int (Nat.toInt32 ue2)), .val (.int (Nat.toInt32 ue3)), .val (.ref b6), .val (.ref b11), .val (.ref b16), .val (.ref b21), .val (.ref b26)] [(.double (own_mean (Nat.toInt32 ue0) (Nat.toInt32 ue1) (Nat.toInt32 ue2) (Nat.toInt32 ue3) xv0 xv1 xv2 xv3 (Nat.toInt32 ue3))), (.double qv3)]))
  refine own_via (fun _ k => XS.dcmpS X46.here hx rfl (hb hby at_244) rfl (Jvm.RoadKit.dcmpV_eq hqe3 hqn3 _) k) ?_
  show own_Go p e below s _ _ _ (T46.setTop (mkF m 245 #[.val (.int p0), .val (.int p1), .val (.int p2), .val (.int p3), .val (.int p4), .val (.int p5), .val (.int (Nat.toInt32 nN)), .val (.int (Nat.toInt32 ue0)), .val (.int (Nat.toInt32 ue1)), .val (.int (Nat.toInt32 ue2)), .val (.int (Nat.toInt32 ue3)), .val (.ref b6), .val (.ref b11), .val (.ref b16), .val (.ref b21), .val (.ref b26)] [(.int (0 : Int32))]))
  refine own_via (fun _ k => XS.ifNo X46.here hx rfl (hb hby at_245) rfl (Jvm.Free.XT.i0_ne_f (by decide)) k) ?_
  show own_Go p e below s _ _ _ (T46.setTop (mkF m 248 #[.val (.int p0), .val (.int p1), .val (.int p2), .val (.int p3), .val (.int p4), .val (.int p5), .val (.int (Nat.toInt32 nN)), .val (.int (Nat.toInt32 ue0)), .val (.int (Nat.toInt32 ue1)), .val (.int (Nat.toInt32 ue2)), .val (.int (Nat.toInt32 ue3)), .val (.ref b6), .val (.ref b11), .val (.ref b16), .val (.ref b21), .val (.ref b26)] []))
  refine own_via (fun _ k => XS.iconst X46.here hx rfl (hb hby at_248) k) ?_
  show own_Go p e below s _ _ _ (T46.setTop (mkF m 249 #[.val (.int p0), .val (.int p1), .val (.int p2), .val (.int p3), .val (.int p4), .val (.int p5), .val (.int (Nat.toInt32 nN)), .val (.int (Nat.toInt32 ue0)), .val (.int (Nat.toInt32 ue1)), .val (.int (Nat.toInt32 ue2)), .val (.int (Nat.toInt32 ue3)), .val (.ref b6), .val (.ref b11), .val (.ref b16), .val (.ref b21), .val (.ref b26)] [(.int (1 : Int32))]))
  refine own_via (fun _ k => XS.goto X46.here hx rfl (pc0 := 249) (pc' := 253) rfl (hb hby at_249) (by decide) (by decide) k) ?_
  show own_Go p e below s _ _ _ (T46.setTop (mkF m 253 #[.val (.int p0), .val (.int p1), .val (.int p2), .val (.int p3), .val (.int p4), .val (.int p5), .val (.int (Nat.toInt32 nN)), .val (.int (Nat.toInt32 ue0)), .val (.int (Nat.toInt32 ue1)), .val (.int (Nat.toInt32 ue2)), .val (.int (Nat.toInt32 ue3)), .val (.ref b6), .val (.ref b11), .val (.ref b16), .val (.ref b21), .val (.ref b26)] [(.int (1 : Int32))]))
  exact own_goN X46 hx (t := .boolean) Bd.returns (by simp) (hb hby at_253) Bd.notSynchronized (by decide) (by decide) (by rw [e46]; exact ⟨rfl, N46⟩)
set_option maxRecDepth 65536 in
set_option maxHeartbeats 40000000 in
theorem comes_1 {Post : Tables → Env → Array Value → State → Outcome → State → Prop} (hpost : ∀ tb e args s v u, (limb_1_1.after args s (.returned v) u = true ∧ limb_1_2.after args s (.returned v) u = true ∧ True) → FrameEnd s (.returned v) u (Jvm.fieldLocs frame_1_writes args s ++ Jvm.arrayLocs frame_1_arrays args s ++ Jvm.staticLocs frame_1_statics s) 24 128 → Post tb e args s (.returned v) u) :
    ArmFor flags0 classFile x code maxLocals ret World_1 tables_1 room_1 Calls_1 rest_1 Pre_1 Post := by
  intro l hfl _ _ p e ha hc hk s m args below hf hA hF happ hP
  obtain ⟨hcalls, hrest, hpre⟩ := hP
  obtain ⟨-, -, -, hnamed, -, -, -, hat⟩ := (Spec.applies_iff hf).mp happ
  obtain ⟨hg, hn⟩ := and_e (Cond.before_iff.mp (show (Jvm.Cond.and given_1 narrow_1).before args s = true from hpre))
  obtain ⟨g1, g2⟩ := and_e hg
  obtain ⟨g3, g4⟩ := and_e g2
  obtain ⟨g5, g6⟩ := and_e g4
  obtain ⟨g7, g8⟩ := and_e g6
  obtain ⟨g9, g10⟩ := and_e g8
  obtain ⟨g11, g12⟩ := and_e g10
  obtain ⟨w0, w1, w2, w3, w4, w5, rfl⟩ : ∃ w0 w1 w2 w3 w4 w5 : Value, args = #[w0, w1, w2, w3, w4, w5] := by
    have hs : args.size = 6 := by simpa [Cond.value, given_1] using g1
    obtain ⟨L⟩ := args
    match L, hs with
    | [w0, w1, w2, w3, w4, w5], _ => exact ⟨w0, w1, w2, w3, w4, w5, rfl⟩
  have hw := fun d (hd : d ∈ tables_1) => atoms_spec (ws := Jvm.Cond.code x code maxLocals ret :: tables_1) hat d (List.mem_cons_of_mem _ hd)
  have hfit : Fit s := fun {y c} hc i hi => by
    obtain ⟨ha, rfl⟩ := Array.getElem?_eq_some_iff.mp hc
    have q := List.all_eq_true.mp ((Array.all_eq_true_iff_forall_mem.mp hF) _ (Array.getElem_mem ha)) i (List.mem_range.mpr hi)
    simpa [Array.getElem?_eq_getElem hi] using q
  obtain ⟨i0, ei0⟩ := is_v g3
  obtain rfl : w0 = (.int i0) := Option.some.inj ei0
  obtain ⟨i1, ei1⟩ := is_v g5
  obtain rfl : w1 = (.int i1) := Option.some.inj ei1
  obtain ⟨i2, ei2⟩ := is_v g7
  obtain rfl : w2 = (.int i2) := Option.some.inj ei2
  obtain ⟨i3, ei3⟩ := is_v g9
  obtain rfl : w3 = (.int i3) := Option.some.inj ei3
  obtain ⟨i4, ei4⟩ := is_v g11
  obtain rfl : w4 = (.int i4) := Option.some.inj ei4
  obtain ⟨i5, ei5⟩ := is_v g12
  obtain rfl : w5 = (.int i5) := Option.some.inj ei5
  obtain ⟨n, o, h1, h2, h3, _, L, rfl, ⟨rfl, N⟩, hq⟩ := rm0 l s _ hw tables_1 i0 i1 i2 i3 i4 i5 s.heap s.heap.size (Nat.le_refl _)  p e ha hc hk s m _ below hf ((Spec.applies_iff_loose hf).mp happ).1 ⟨rfl, State.Warmed39.refl s, rfl⟩ trivial
  refine ⟨n, _, h1, h2, h3, hpost _ _ _ _ _ _ ⟨Cond.after_iff.mpr rfl, Cond.after_iff.mpr (eq_i res_at (Term.int_eval (1)) rfl), trivial⟩ ⟨hq.1, hq.2.1, (hq.2.2.sift fun y hy => Or.inr (N y hy)).mono (by decide) (by decide)⟩⟩
theorem main_1_1 : Claimed_1_1 := comes_1 fun _ _ _ _ _ _ h hF => ⟨h.1, hF⟩
theorem main_1_2 : Claimed_1_2 := comes_1 fun _ _ _ _ _ _ h hF => ⟨h.2.1, hF⟩
end Jvm.Pilot.@@N@@
namespace Jvm.Pilot.@@N@@
open Jvm Jvm.ClassFile Sem Op Lib Jvm.Free Jvm.Stand Jvm.Pilot.@@N@@.Jvm.D
/-! MADE BY PROGRAM (witnessworld.py) out of the Statement's table words and the real class files: 12 classes; the members and pool entries that the words name. The judged class is class 1, her method 1. -/
namespace start1
open Jvm.ClassFile
def u (s : String) : CpInfo := .utf8 (stringToUtf16 s)
/-- a pool by its gaps: so many unusable entries, then the entry; so many at the end -/
def gap : Nat → List CpInfo → List CpInfo
  | 0, r => r
  | n + 1, r => .unusable :: gap n r
def poolList (es : List (Nat × CpInfo)) (last : Nat) : List CpInfo := es.foldr (fun e r => gap e.1 (e.2 :: r)) (gap last [])
def pool (es : List (Nat × CpInfo)) (last : Nat) : Array CpInfo := ⟨poolList es last⟩
def fileOf (pool : Array CpInfo) (this : Nat) (attrs : Array Attribute := #[]) (ms : Array MethodInfo := #[]) (fl : Nat := 33) (sup : Nat := 0) (ifs : Array Nat := #[]) (fds : Array FieldInfo := #[]) : ClassFile where
  minorVersion := 0
  majorVersion := 65
  constantPool := pool
  accessFlags := fl
  thisClass := this
  superClass := sup
  interfaces := ifs
  fields := fds
  methods := ms
  attributes := attrs
def plain (name : String) (sup : Option ClassId) : Class where
  name := name
  kind := .ordinary
  loader := none
  accessFlags := 33
  super := sup
  interfaces := #[]
  cf := none
  fields := #[]
  methods := #[]
  instanceTypes := #[]
  staticTypes := #[]
  resolved := #[]
  callSites := []
  init := .initialized
  statics := none
  mirror := none

def pool0 : Array CpInfo := pool [(5, u "<init>"), (0, u "()V"), (1, .class_ 10), (1, u "java/lang/Object")] 113

def k0c0 : Code := { maxStack := 0, maxLocals := 1, code := object_method_1_code, exceptionTable := #[], attributes := #[] }
def k0m0 : Method := { name := "<init>", desc := "()V", sig := { parameters := [], returnType := none }, accessFlags := 1, code := some k0c0 }
/-- java/lang/Object -/
def k0 : Class := { plain "java/lang/Object" none with
  accessFlags := 33
  interfaces := #[]
  cf := some (fileOf pool0 8 #[] #[{ accessFlags := 1, nameIndex := 5, descriptorIndex := 6, attributes := #[] }] 33 0 #[] #[])
  fields := #[]
  methods := #[k0m0]
  instanceTypes := #[]
  staticTypes := #[]
  resolved := Array.replicate 124 none
  statics := none }

def pool1 : Array CpInfo := pool [(2, .class_ 4), (1, u "java/lang/Object"), (0, u "<init>"), (0, u "()V"), (0, .class_ 8), (0, u "com/example/enlace/enlace/rank/EquitablePartition"), (0, .methodref 7 10), (0, .nameAndType 5 11), (0, u "([II)V"), (0, .methodref 7 13), (0, .nameAndType 14 15), (0, u "average"), (0, u "([D)V"), (0, .methodref 17 18), (0, .class_ 19), (0, .nameAndType 20 21), (0, u "com/example/enlace/enlace/rank/EquitablePartitionAveragePinLaw"), (0, u "mean"), (0, u "(I[I[D)D"), (2, u "law"), (0, u "(IIIIII)Z")] 7

def k1m0 : Method := { name := "<init>", desc := "()V", sig := { parameters := [], returnType := none }, accessFlags := 1, code := none }
def k1c1 : Code := { maxStack := 5, maxLocals := 16, code := code, exceptionTable := #[], attributes := #[] }
def k1m1 : Method := { name := "law", desc := "(IIIIII)Z", sig := { parameters := [.int, .int, .int, .int, .int, .int], returnType := some .boolean }, accessFlags := 9, code := some k1c1 }
def k1c2 : Code := { maxStack := 4, maxLocals := 6, code := method_3_code, exceptionTable := #[], attributes := #[] }
def k1m2 : Method := { name := "mean", desc := "(I[I[D)D", sig := { parameters := [.int, (.array .int), (.array .double)], returnType := some .double }, accessFlags := 10, code := some k1c2 }
/-- com/example/enlace/enlace/rank/EquitablePartitionAveragePinLaw -/
def k1 : Class := { plain "com/example/enlace/enlace/rank/EquitablePartitionAveragePinLaw" (some 0) with
  accessFlags := 49
  interfaces := #[]
  cf := some (fileOf pool1 17 #[] #[{ accessFlags := 1, nameIndex := 5, descriptorIndex := 6, attributes := #[] }, { accessFlags := 9, nameIndex := 24, descriptorIndex := 25, attributes := #[] }, { accessFlags := 10, nameIndex := 20, descriptorIndex := 21, attributes := #[] }] 49 2 #[] #[])
  fields := #[]
  methods := #[k1m0, k1m1, k1m2]
  instanceTypes := #[]
  staticTypes := #[]
  resolved := Array.replicate 33 none
  statics := none }

def pool2 : Array CpInfo := pool [(1, .methodref 2 3), (0, .class_ 4), (0, .nameAndType 5 6), (0, u "java/lang/Object"), (0, u "<init>"), (0, u "()V"), (0, .class_ 8), (0, u "java/lang/Record")] 13

def k2c0 : Code := { maxStack := 1, maxLocals := 1, code := jdk_30_method_1_code, exceptionTable := #[], attributes := #[] }
def k2m0 : Method := { name := "<init>", desc := "()V", sig := { parameters := [], returnType := none }, accessFlags := 4, code := some k2c0 }
/-- java/lang/Record -/
def k2 : Class := { plain "java/lang/Record" (some 0) with
  accessFlags := 1057
  interfaces := #[]
  cf := some (fileOf pool2 7 #[] #[{ accessFlags := 4, nameIndex := 5, descriptorIndex := 6, attributes := #[] }] 1057 2 #[] #[])
  fields := #[]
  methods := #[k2m0]
  instanceTypes := #[]
  staticTypes := #[]
  resolved := Array.replicate 22 none
  statics := none }

def pool3 : Array CpInfo := pool [(3, .methodref 4 5), (0, .class_ 6), (0, .nameAndType 7 8), (0, u "java/lang/Record"), (0, u "<init>"), (0, u "()V"), (0, .fieldref 10 11), (0, .class_ 12), (0, .nameAndType 13 14), (0, u "com/example/enlace/enlace/rank/EquitablePartition"), (0, u "classOf"), (0, u "[I"), (0, .fieldref 10 16), (0, .nameAndType 17 18), (0, u "classCount"), (0, u "I"), (26, .class_ 46), (0, u "com/example/enlace/enlace/rank/EquitablePartition$Refinement"), (0, .class_ 48), (0, u "com/example/enlace/enlace/rank/EquitablePartition$OutArcs"), (17, u "([II)V"), (5, .class_ 73), (0, u "com/example/enlace/enlace/rank/EquitablePartition$HitsArcs"), (9, .class_ 84), (0, u "com/example/enlace/enlace/rank/EquitablePartition$HitsClasses"), (34, u "([D)V"), (18, u "MOST_HITS_NODES"), (10, u "average"), (6, .class_ 157), (0, u "com/example/enlace/enlace/rank/EquitablePartition$Arcs")] 24

def k3c0 : Code := { maxStack := 2, maxLocals := 3, code := prog_33_method_1_code, exceptionTable := #[], attributes := #[] }
def k3m0 : Method := { name := "<init>", desc := "([II)V", sig := { parameters := [(.array .int), .int], returnType := none }, accessFlags := 0, code := some k3c0 }
def k3c1 : Code := { maxStack := 7, maxLocals := 5, code := prog_33_method_4_code, exceptionTable := #[], attributes := #[] }
def k3m1 : Method := { name := "average", desc := "([D)V", sig := { parameters := [(.array .double)], returnType := none }, accessFlags := 0, code := some k3c1 }
/-- com/example/enlace/enlace/rank/EquitablePartition -/
def k3 : Class := { plain "com/example/enlace/enlace/rank/EquitablePartition" (some 2) with
  accessFlags := 48
  interfaces := #[]
  cf := some (fileOf pool3 10 #[.nestMembers #[45, 47, 72, 156, 83]] #[{ accessFlags := 0, nameIndex := 7, descriptorIndex := 66, attributes := #[] }, { accessFlags := 0, nameIndex := 149, descriptorIndex := 119, attributes := #[] }] 48 4 #[] #[{ accessFlags := 18, nameIndex := 13, descriptorIndex := 14, attributes := #[] }, { accessFlags := 18, nameIndex := 17, descriptorIndex := 18, attributes := #[] }, { accessFlags := 24, nameIndex := 138, descriptorIndex := 18, attributes := #[] }])
  fields := #[{ name := "classOf", type := (.array .int), accessFlags := 18, slot := 0, constantValue := 0 }, { name := "classCount", type := .int, accessFlags := 18, slot := 1, constantValue := 0 }, { name := "MOST_HITS_NODES", type := .int, accessFlags := 24, slot := 0, constantValue := 0 }]
  methods := #[k3m0, k3m1]
  instanceTypes := #[(.array .int), .int]
  staticTypes := #[.int]
  resolved := Array.replicate 182 none
  statics := none }

def pool4 : Array CpInfo := pool [(1, u "java/lang/Cloneable"), (0, .class_ 1), (0, u "java/lang/Object"), (0, .class_ 3)] 3

/-- java/lang/Cloneable -/
def k4 : Class := { plain "java/lang/Cloneable" (some 0) with
  accessFlags := 1537
  interfaces := #[]
  cf := some (fileOf pool4 2 #[] #[] 1537 4 #[] #[])
  fields := #[]
  methods := #[]
  instanceTypes := #[]
  staticTypes := #[]
  resolved := Array.replicate 8 none
  statics := none }

def pool5 : Array CpInfo := pool [(1, u "java/io/Serializable"), (0, .class_ 1), (0, u "java/lang/Object"), (0, .class_ 3)] 3

/-- java/io/Serializable -/
def k5 : Class := { plain "java/io/Serializable" (some 0) with
  accessFlags := 1537
  interfaces := #[]
  cf := some (fileOf pool5 2 #[] #[] 1537 4 #[] #[])
  fields := #[]
  methods := #[]
  instanceTypes := #[]
  staticTypes := #[]
  resolved := Array.replicate 8 none
  statics := none }

/-- the primitive byte -/
def k6 : Class := { plain "byte" none with kind := .primitive 'B', accessFlags := 0x411 }
/-- [B -/
def k7 : Class := { plain "[B" (some 0) with kind := .array 6 .byte, interfaces := #[4, 5], accessFlags := 1041 }

/-- the primitive double -/
def k8 : Class := { plain "double" none with kind := .primitive 'D', accessFlags := 0x411 }
/-- [D -/
def k9 : Class := { plain "[D" (some 0) with kind := .array 8 .double, interfaces := #[4, 5], accessFlags := 1041 }

/-- the primitive int -/
def k10 : Class := { plain "int" none with kind := .primitive 'I', accessFlags := 0x411 }
/-- [I -/
def k11 : Class := { plain "[I" (some 0) with kind := .array 10 .int, interfaces := #[4, 5], accessFlags := 1041 }

def heap : Heap := #[]
def classes : Array Class := #[k0, k1, k2, k3, k4, k5, k6, k7, k8, k9, k10, k11]
def interned : List (Array UInt16 × Addr) := []
def slotsUsed : Nat := 0
def theMethod : MethodId := ⟨1, 1⟩
def args0 : Array Value := #[.int 1, .int 77, .int 3, .int 4, .int 5, .int 6]
def aboutOver (below : List Frame) : State where
  vm := { classes := classes, interned := interned.toArray }
  heap := heap
  slotsUsed := slotsUsed
  threads := #[{ frames := .invoking theMethod args0 :: below }]
def below0 : List Frame := [.native { method := ⟨0, 0⟩, args := #[] }]
def about1 : State := aboutOver below0
def p0 : Program := .bare "" "" ""
def e0 : Env := launch0.env 0 0 0
theorem w_frames : about1.frames = Frame.invoking theMethod args0 :: below0 := rfl
set_option maxRecDepth 65536 in
theorem w_args : argsFit about1.vm theMethod args0 = true := by decide +kernel
set_option maxRecDepth 65536 in
theorem w_heap : heapFits about1 = true := by decide +kernel
set_option maxRecDepth 65536 in
theorem w_runnable : about1.curStatus? = some .runnable := by decide +kernel
set_option maxRecDepth 65536 in
theorem w_alone : about1.alone = true := by decide +kernel
set_option maxRecDepth 65536 in
theorem w_named : about1.methodNamed? x = some theMethod := by decide +kernel
set_option maxRecDepth 65536 in
theorem w_hears : about1.hears theMethod below0 = true := by decide +kernel
set_option maxRecDepth 65536 in
theorem w_ripe : about1.ripe theMethod args0 below0 = true := by decide +kernel
theorem w_running : about1.status = .running := rfl
set_option maxRecDepth 65536 in
theorem w_room : about1.hasRoom e0.platform room_1 = true :=
  launch0.hasRoom_least _ room_1 (by decide +kernel) (by decide +kernel) (by decide +kernel) (by decide +kernel) (by decide +kernel) (by decide +kernel)
theorem allAtoms_all (ts : List Jvm.Cond) (a : Array Jvm.Value) (st : Jvm.State) : (allAtoms ts).before a st = ts.all (fun c => c.before a st) := by
  induction ts with
  | nil => rfl
  | cons c t ih =>
    show (Jvm.Cond.and c (allAtoms t)).before a st = _
    rw [Jvm.Cond.before_and, ih, List.all_cons]
def words1 : List Jvm.Cond := Jvm.Cond.code x code maxLocals ret :: tables_1
/-- a 'code' word, met by the world's own term for the bytes: nothing is compared byte by byte -/
theorem code_word {y : MethodName} {bytes : ByteArray} {mx : Nat} {rt : Option FieldType} {a : Array Value} {s : State} {m : MethodId} {meth : Method} {c : Code} (h1 : s.methodNamed? y = some m) (h2 : s.vm.method? m = some meth) (h3 : meth.code = some c) (h4 : c.code = bytes)
    (h5 : (c.maxLocals == mx && c.exceptionTable.isEmpty && decide (c.maxStack ≤ mostOperands) && decide (meth.sig.returnType = rt) && !meth.locks && decide (parseMethodDescriptor y.desc = some meth.sig)) = true) : (Jvm.Cond.code y bytes mx rt).before a s = true := by
  simp only [Bool.and_eq_true, beq_iff_eq, Bool.not_eq_true', decide_eq_true_eq] at h5
  obtain ⟨⟨⟨⟨⟨g1, g2⟩, g3⟩, g4⟩, g5⟩, g6⟩ := h5
  simp [Cond.before, Cond.holds, Cond.value, h1, h2, h3, h4, g1, g2, g3, g4, g5, g6]
def isCode : Jvm.Cond → Bool
  | .code _ _ _ _ => true
  | _ => false
theorem all_split {L : List Jvm.Cond} {P : Jvm.Cond → Bool} (h1 : L.all (fun c => isCode c || P c) = true) (h2 : ∀ c ∈ L.filter isCode, P c = true) : L.all P = true := by
  refine List.all_eq_true.mpr fun c hc => ?_
  have h := List.all_eq_true.mp h1 c hc
  rcases Bool.eq_false_or_eq_true (isCode c) with hi | hi
  · exact h2 c (List.mem_filter.mpr ⟨hc, hi⟩)
  · simpa [hi] using h
set_option maxRecDepth 65536 in
theorem w_c0 : (Jvm.Cond.code x code maxLocals ret).before args0 about1 = true := code_word (m := ⟨1, 1⟩) (meth := k1m1) (c := k1c1) (by decide +kernel) rfl rfl rfl (by decide +kernel)
set_option maxRecDepth 65536 in
theorem w_c1 : (Jvm.Cond.code ({ cls := "com/example/enlace/enlace/rank/EquitablePartition", name := "<init>", desc := "([II)V" } : Jvm.MethodName) prog_33_method_1_code (3 : Nat) (Option.none : Option Jvm.ClassFile.FieldType)).before args0 about1 = true := code_word (m := ⟨3, 0⟩) (meth := k3m0) (c := k3c0) (by decide +kernel) rfl rfl rfl (by decide +kernel)
set_option maxRecDepth 65536 in
theorem w_c2 : (Jvm.Cond.code ({ cls := "java/lang/Record", name := "<init>", desc := "()V" } : Jvm.MethodName) jdk_30_method_1_code (1 : Nat) (Option.none : Option Jvm.ClassFile.FieldType)).before args0 about1 = true := code_word (m := ⟨2, 0⟩) (meth := k2m0) (c := k2c0) (by decide +kernel) rfl rfl rfl (by decide +kernel)
set_option maxRecDepth 65536 in
theorem w_c3 : (Jvm.Cond.code ({ cls := "java/lang/Object", name := "<init>", desc := "()V" } : Jvm.MethodName) object_method_1_code (1 : Nat) (Option.none : Option Jvm.ClassFile.FieldType)).before args0 about1 = true := code_word (m := ⟨0, 0⟩) (meth := k0m0) (c := k0c0) (by decide +kernel) rfl rfl rfl (by decide +kernel)
set_option maxRecDepth 65536 in
theorem w_c4 : (Jvm.Cond.code ({ cls := "com/example/enlace/enlace/rank/EquitablePartition", name := "average", desc := "([D)V" } : Jvm.MethodName) prog_33_method_4_code (5 : Nat) (Option.none : Option Jvm.ClassFile.FieldType)).before args0 about1 = true := code_word (m := ⟨3, 1⟩) (meth := k3m1) (c := k3c1) (by decide +kernel) rfl rfl rfl (by decide +kernel)
set_option maxRecDepth 65536 in
theorem w_c5 : (Jvm.Cond.code ({ cls := "com/example/enlace/enlace/rank/EquitablePartitionAveragePinLaw", name := "mean", desc := "(I[I[D)D" } : Jvm.MethodName) method_3_code (6 : Nat) (Option.some Jvm.ClassFile.FieldType.double)).before args0 about1 = true := code_word (m := ⟨1, 2⟩) (meth := k1m2) (c := k1c2) (by decide +kernel) rfl rfl rfl (by decide +kernel)
def codes1 : List Jvm.Cond := [Jvm.Cond.code x code maxLocals ret, Jvm.Cond.code ({ cls := "com/example/enlace/enlace/rank/EquitablePartition", name := "<init>", desc := "([II)V" } : Jvm.MethodName) prog_33_method_1_code (3 : Nat) (Option.none : Option Jvm.ClassFile.FieldType), Jvm.Cond.code ({ cls := "java/lang/Record", name := "<init>", desc := "()V" } : Jvm.MethodName) jdk_30_method_1_code (1 : Nat) (Option.none : Option Jvm.ClassFile.FieldType), Jvm.Cond.code ({ cls := "java/lang/Object", name := "<init>", desc := "()V" } : Jvm.MethodName) object_method_1_code (1 : Nat) (Option.none : Option Jvm.ClassFile.FieldType), Jvm.Cond.code ({ cls := "com/example/enlace/enlace/rank/EquitablePartition", name := "average", desc := "([D)V" } : Jvm.MethodName) prog_33_method_4_code (5 : Nat) (Option.none : Option Jvm.ClassFile.FieldType), Jvm.Cond.code ({ cls := "com/example/enlace/enlace/rank/EquitablePartitionAveragePinLaw", name := "mean", desc := "(I[I[D)D" } : Jvm.MethodName) method_3_code (6 : Nat) (Option.some Jvm.ClassFile.FieldType.double)]
set_option maxRecDepth 65536 in
theorem codes_eq : words1.filter isCode = codes1 := rfl
theorem w_codes : ∀ c ∈ words1.filter isCode, c.before args0 about1 = true := by
  rw [codes_eq]
  intro c hc
  simp only [codes1, List.mem_cons, List.not_mem_nil, or_false] at hc
  rcases hc with rfl | rfl | rfl | rfl | rfl | rfl
  · exact w_c0
  · exact w_c1
  · exact w_c2
  · exact w_c3
  · exact w_c4
  · exact w_c5
set_option maxRecDepth 65536 in
theorem w_t1 : (words1.take 24).all (fun c => isCode c || c.before args0 about1) = true := by decide +kernel
set_option maxRecDepth 65536 in
theorem w_t2 : (words1.drop 24).all (fun c => isCode c || c.before args0 about1) = true := by decide +kernel
theorem w_tables : (allAtoms (Jvm.Cond.code x code maxLocals ret :: tables_1)).before args0 about1 = true := by
  rw [allAtoms_all]
  show words1.all (fun c => c.before args0 about1) = true
  refine all_split ?_ w_codes
  rw [← List.take_append_drop 24 words1, List.all_append, w_t1, w_t2]
  rfl
set_option maxRecDepth 65536 in
theorem w_case : (Jvm.Cond.and given_1 narrow_1).before args0 about1 = true := by decide +kernel
theorem w_applies : (headSpec (Jvm.Cond.code x code maxLocals ret :: tables_1) room_1).applies x e0.platform about1 = true :=
  (Spec.applies_iff w_frames).mpr ⟨w_running, w_runnable, w_alone, w_named, w_hears, w_ripe, w_room, w_tables⟩
theorem atStart : AtStart classFile x code maxLocals ret World_1 tables_1 room_1 Calls_1 rest_1 Pre_1 launch0 p0 e0 about1 theMethod args0 below0 :=
  ⟨lists_1, trivial, launch0.admits_env _ _ _, launch0.least_env, fairChoices_fair.cas, fairChoices_fair.clock, w_frames, w_args, w_heap, w_applies, trivial, trivial, w_case⟩
end start1
theorem witness_1 : WitnessClaimed_1 := ⟨start1.p0, start1.e0, start1.about1, start1.theMethod, start1.args0, start1.below0, start1.atStart⟩
end Jvm.Pilot.@@N@@
