import JvmDerived
import JvmDerived.Pilot.@@N@@Statement
import JvmDerived.Pilot.@@N@@Code
set_option linter.unusedVariables false
set_option linter.unusedSimpArgs false
namespace Jvm.Pilot.@@N@@
open Jvm Jvm.ClassFile Sem Op Lib Jvm.Free Jvm.Stand Jvm.LawKit Jvm.RoadKit Bundle Jvm.Pilot.@@N@@.Jvm.D
/-! THE OWN KIT: the walk from a state to its end, as one proposition (own_Go); its steps, its leaves, its entry. -/
section OwnKit
variable {p : Program} {l : Launch} {e : Env} {R : Room} {s : State} {m : MethodId} {args : Array Value} {below : List Frame} {meth : Method} {c : Code} {T : State} {locs : List Loc} {cells slots : Nat}
variable {Q : Option Value → Heap → List Loc → Prop} {rc rs : Nat}
/-- from U the run ends in a return, and Q says what it leaves -/
def own_Go (p : Program) (e : Env) (below : List Frame) (s : State) (Q : Option Value → Heap → List Loc → Prop) (rc rs : Nat) (U : State) : Prop :=
  ∃ s₂ o, Steps p.tables e below U s₂ ∧ s₂.status = .running ∧ Ended s₂ below o ∧ ∃ v L, o = .returned v ∧ Q v s₂.heap L ∧ FrameEnd s o s₂ L rc rs
theorem own_by {A B : State} (k : ∀ t, Steps p.tables e below B t → Steps p.tables e below A t) (h : own_Go p e below s Q rc rs B) : own_Go p e below s Q rc rs A := by
  obtain ⟨s₂, o, h1, r⟩ := h
  exact ⟨s₂, o, k _ h1, r⟩
theorem own_imp {Q' : Option Value → Heap → List Loc → Prop} {A : State} (k : ∀ v h L, Q v h L → Q' v h L) (h : own_Go p e below s Q rc rs A) : own_Go p e below s Q' rc rs A := by
  obtain ⟨s₂, o, h1, h2, h3, v, L, h4, h5, h6⟩ := h
  exact ⟨s₂, o, h1, h2, h3, v, L, h4, k _ _ _ h5, h6⟩
theorem own_leave (X : Stand p l e R s m args below meth c T locs cells slots) (hlk : meth.locks = false) {v : Option Value} (hv : meth.sig.returnType = none → v = none) {U : State}
    (hst : ∀ fs, (∀ (f : JFrame) (acts : List Action), f.method = m → f.locked = none → f.entered = [] → (doReturn e (T.setTop f) acts v).1 = T.setFrames fs) → Steps p.tables e below U (T.setFrames fs))
    (hq : Q v T.heap locs) (hc : cells ≤ rc) (hs : slots ≤ rs) : own_Go p e below s Q rc rs U := by
  obtain ⟨fs, hr, hrun, hended, hW, hsame⟩ := X.leave (v := v) hv hlk
  exact ⟨_, _, hst fs hr, hrun, hended, _, _, rfl, hq, ⟨_, rfl⟩, hW, hsame.mono hc hs⟩
theorem own_ret (X : Stand p l e R s m args below meth c T locs cells slots) (hx : p.tables.exec = Jvm.exec) (hlk : meth.locks = false) (hret : meth.sig.returnType = none) {pc : Nat} {Ls : Array Slot} (hd : decode c.code pc = .ok (.return_, 1))
    (hq : Q none T.heap locs) (hc : cells ≤ rc) (hs : slots ≤ rs) : own_Go p e below s Q rc rs (T.setTop (mkF m pc Ls [])) :=
  own_leave X hlk (fun _ => rfl) (fun _ hr => X.returnOut hx hret hd hr) hq hc hs
theorem own_retI (X : Stand p l e R s m args below meth c T locs cells slots) (hx : p.tables.exec = Jvm.exec) (hlk : meth.locks = false) (hret : meth.sig.returnType = some .int) {pc : Nat} {Ls : Array Slot} {z : Int32} (hd : decode c.code pc = .ok (.ireturn, 1))
    (hq : Q (some (.int z)) T.heap locs) (hc : cells ≤ rc) (hs : slots ≤ rs) : own_Go p e below s Q rc rs (T.setTop (mkF m pc Ls [.int z])) :=
  own_leave X hlk (fun h => by rw [hret] at h; cases h) (fun _ hr => X.ireturnOut hx hret rfl (Or.inl rfl) hd hr) hq hc hs
theorem own_retN {t : FieldType} (ht : t = .boolean ∨ t = .byte ∨ t = .char ∨ t = .short) (X : Stand p l e R s m args below meth c T locs cells slots) (hx : p.tables.exec = Jvm.exec) (hlk : meth.locks = false) (hret : meth.sig.returnType = some t) {pc : Nat} {Ls : Array Slot} {z z' : Int32} (hn : nar t z = z') (hd : decode c.code pc = .ok (.ireturn, 1))
    (hq : Q (some (.int z')) T.heap locs) (hc : cells ≤ rc) (hs : slots ≤ rs) : own_Go p e below s Q rc rs (T.setTop (mkF m pc Ls [.int z])) := by
  subst hn
  exact own_leave X hlk (fun h => by rw [hret] at h; cases h) (fun _ hr => retN X hx hret ht hd hr) hq hc hs
theorem own_retJ (X : Stand p l e R s m args below meth c T locs cells slots) (hx : p.tables.exec = Jvm.exec) (hlk : meth.locks = false) (hret : meth.sig.returnType = some .long) {pc : Nat} {Ls : Array Slot} {z : Int64} (hd : decode c.code pc = .ok (.lreturn, 1))
    (hq : Q (some (.long z)) T.heap locs) (hc : cells ≤ rc) (hs : slots ≤ rs) : own_Go p e below s Q rc rs (T.setTop (mkF m pc Ls [.long z])) :=
  own_leave X hlk (fun h => by rw [hret] at h; cases h) (fun _ hr => X.lreturnOut hx hret hd hr) hq hc hs
theorem own_retA {t : FieldType} (ht : t.isReference = true) (X : Stand p l e R s m args below meth c T locs cells slots) (hx : p.tables.exec = Jvm.exec) (hlk : meth.locks = false) (hret : meth.sig.returnType = some t) {pc : Nat} {Ls : Array Slot} {a : Addr} (hd : decode c.code pc = .ok (.areturn, 1))
    (hq : Q (some (.ref a)) T.heap locs) (hc : cells ≤ rc) (hs : slots ≤ rs) : own_Go p e below s Q rc rs (T.setTop (mkF m pc Ls [.ref a])) :=
  own_leave X hlk (fun h => by rw [hret] at h; cases h) (fun _ hr => X.areturnOut hx rfl hret ht hd hr) hq hc hs
/-- a body's contract out of its walk -/
theorem own_met {y : MethodName} {bytes : ByteArray} {maxL : Nat} {ret : Option FieldType} {ws : List Jvm.Cond} {rm : Room} {as' : Array Value} {Z : State} {h0 : Heap} (hpl : plainFor y = true)
    (body : ∀ (p : Program) (e : Env) (s : State) (m : MethodId) (below : List Frame) (meth : Method) (c : Code) (T : State), Stand p l e rm s m as' below meth c T [] 0 0 → p.tables.exec = Jvm.exec → c.code = bytes → c.maxLocals = maxL → meth.sig.returnType = ret → meth.locks = false →
      Z.Warmed39 s.vm → s.vm.findClass y.cls = some m.cls → meth.name = y.name → T.heap = h0 → own_Go p e below s Q rc rs (T.setTop (entryFrame m as' maxL))) :
    MetFree l y (head1 (Jvm.Cond.code y bytes maxL ret :: ws) rm) (fun a U => a = as' ∧ Z.Warmed39 U.vm ∧ U.heap = h0) (fun _ _ _ _ _ => True) (fun _ U o U' => ∃ v L, o = .returned v ∧ Q v U'.heap L ∧ FrameEnd U o U' L rc rs) := by
  refine MetFree.of_bodySF hpl hisR ?_
  intro p e s m args below meth c s₁ Bd hml0 hP hK
  obtain ⟨rfl, hZ, hh⟩ := hP
  exact body p e s m below meth c s₁ (Stand.of_body Bd) Bd.exec Bd.bytes hml0 Bd.returns (BodyLoose.notSynchronized Bd) hZ (findClass_of_methodNamed Bd.named) (name_of_methodNamed Bd.named Bd.method).1 (by rw [← hh, Bd.state]; rfl)
theorem own_cast {g g' : JFrame} (q : g = g') (k : own_Go p e below s Q rc rs (T.setTop g')) : own_Go p e below s Q rc rs (T.setTop g) := q ▸ k
/-- what a body that writes nothing leaves -/
def own_Qp (r : Option Value) (h0 : Heap) (v : Option Value) (h : Heap) (L : List Loc) : Prop := v = r ∧ L = [] ∧ h = h0
theorem own_selPriv {a1 a2 : Array Value} {y y' z' : MethodName} {C : String} (h : (Jvm.Cond.selects C y' z').before a1 s = true) (hz : z'.cls = y.cls) (hpriv : s.PrivateAt y) (hinst : (Jvm.Cond.instanceMethod y).before a2 s = true) (hy : y.cls ≠ "java/lang/invoke/MethodHandle" ∧ y.cls ≠ "java/lang/invoke/VarHandle") : (Jvm.Cond.selects y.cls y y).before a2 s = true := by
  obtain ⟨_, _, m2, -, -, q3, -, kP, hkP, hkPi⟩ := Cond.selects_spec h
  exact selects_self_of_private (by rw [← hz]; exact findClass_of_methodNamed q3) hkP hkPi hpriv hinst hy
end OwnKit
/-! arrays of ints (bytes, booleans) by a function from places to values -/
section OwnArr
variable {Z : State} {h h' : Heap} {a b : Addr} {ty : FieldType} {n : Nat} {f : Nat → Int32} {sl : Nat} {v : Value} {ws : List Addr}
def own_BA (Z : State) (h : Heap) (a : Addr) (ty : FieldType) (n : Nat) (f : Nat → Int32) : Prop := ∃ c : Cell, Arr Z h a c ty ∧ c.slots.size = n ∧ ∀ i, i < n → c.slots[i]? = some (.int (f i))
def own_up (f : Nat → Int32) (j : Nat) (x : Int32) (i : Nat) : Int32 := if i = j then x else f i
theorem own_BA.lt (F : own_BA Z h a ty n f) : a < h.size := by obtain ⟨c, A, -⟩ := F; exact A.lt
theorem own_BA.ext (F : own_BA Z h a ty n f) (E : Ext h h') : own_BA Z h' a ty n f := by obtain ⟨c, A, r⟩ := F; exact ⟨c, A.ext E, r⟩
theorem own_BA.other (F : own_BA Z h a ty n f) (W : Wr h h' b sl v) (q : a ≠ b) : own_BA Z h' a ty n f := by obtain ⟨c, A, r⟩ := F; exact ⟨c, A.other W q, r⟩
theorem own_BA.keep (F : own_BA Z h a ty n f) (K : Keep h h' ws) (q : a ∉ ws) : own_BA Z h' a ty n f := by obtain ⟨c, A, r⟩ := F; exact ⟨c, ⟨K.2.1 a c A.1 q, A.2⟩, r⟩
theorem own_BA.new {k : ClassId} {z : Int32} (A : Arr Z h a (newA k ty z) ty) (hz : z.toNatClampNeg = n) (hd : defaultValue ty = .int 0) : own_BA Z h a ty n (fun _ => 0) := by
  refine ⟨_, A, by rw [sz_new, hz], fun i hi => ?_⟩
  simp only [newA, hd, hz]
  rw [Array.getElem?_replicate, if_pos hi]
theorem own_BA.same {j : Nat} {x : Int32} (F : own_BA Z h a ty n f) (W : Wr h h' a j (.int x)) : own_BA Z h' a ty n (own_up f j x) := by
  obtain ⟨c, A, S, H⟩ := F
  refine ⟨_, A.same W, by rw [sz_set]; exact S, fun i hi => ?_⟩
  have hs : i < c.slots.size := by rw [S]; exact hi
  show (c.slots.setIfInBounds j (.int x))[i]? = _
  by_cases q : i = j
  · subst q
    rw [Array.getElem?_setIfInBounds_self_of_lt hs]
    simp [own_up]
  · rw [Array.getElem?_setIfInBounds_ne (Ne.symm q), H i hi]
    simp [own_up, q]
theorem own_BA.cong {g : Nat → Int32} (F : own_BA Z h a ty n f) (q : ∀ i, i < n → f i = g i) : own_BA Z h a ty n g := by
  obtain ⟨c, A, S, H⟩ := F
  exact ⟨c, A, S, fun i hi => by rw [H i hi, q i hi]⟩
theorem own_in {c : Cell} {j : Int32} (S : c.slots.size = n) (q : ¬ j < 0 ∧ j.toNatClampNeg < n) : ¬ (j < 0 ∨ c.slots.size ≤ j.toNatClampNeg) := by
  rw [S]; exact fun z => z.elim q.1 (fun y => absurd q.2 (Nat.not_lt.mpr y))
theorem own_lt {c : Cell} {j : Int32} (S : c.slots.size = n) (q : ¬ (j < 0 ∨ c.slots.size ≤ j.toNatClampNeg)) : j.toNatClampNeg < n := by
  rw [S] at q; exact Nat.lt_of_not_le fun y => q (Or.inr y)
end OwnArr
theorem pd_0 : parseMethodDescriptor "(J[BI)I" = some ⟨[.long, (.array .byte), .int], some .int⟩ := by decide +kernel
theorem pd_1 : parseMethodDescriptor "(J)I" = some ⟨[.long], some .int⟩ := by decide +kernel
theorem pd_2 : parseMethodDescriptor "([BIIIJB)Z" = some ⟨[(.array .byte), .int, .int, .int, .long, .byte], some .boolean⟩ := by decide +kernel
def own_isLen (v L : Nat) : Prop := 1 ≤ L ∧ v < 128 ^ L ∧ (L = 1 ∨ 128 ^ (L - 1) ≤ v)
def own_byte (q : Nat) : Int := if q < 128 then (q : Int) else ((q % 128 : Nat) : Int) - 128
def own_R (i v : Nat) (ff g : Nat → Int32) (z : Int32) : Prop := ∃ L, own_isLen v L ∧ z.toInt = (i : Int) + (L : Int) ∧ (∀ j, j < i ∨ i + L ≤ j → g j = ff j) ∧ ∀ k, k < L → (g (i + k)).toInt = own_byte (v / 128 ^ k)
theorem own_clamp (x : Int32) : x.toNatClampNeg = x.toInt.toNat := rfl
theorem own_ix (ii : Int32) (mm : Nat) (h0 : 0 ≤ ii.toInt) (h1 : ii.toInt + mm ≤ 15) : ¬ ii < 0 ∧ ii.toNatClampNeg < 16 := by
  have e0 : (0 : Int32).toInt = 0 := by decide
  rw [Int32.lt_iff_toInt_lt, own_clamp]
  omega
theorem own_i16 (ii : Int32) (mm : Nat) (h0 : 0 ≤ ii.toInt) (h1 : ii.toInt + mm ≤ 15) : ii.toInt ≤ 15 := by omega
theorem own_inc (ii : Int32) (h0 : 0 ≤ ii.toInt) (h1 : ii.toInt ≤ 15) : (ii + (1 : Int32)).toInt = ii.toInt + 1 := by
  have a := c_iadd ii 1
  have e : (1 : Int32).toInt = 1 := by decide
  have r := rng32 (ii + (1 : Int32))
  omega
theorem own_ii1 (ii : Int32) (mm : Nat) (h0 : 0 ≤ ii.toInt) (h1 : ii.toInt + mm ≤ 15) : 0 ≤ (ii + (1 : Int32)).toInt := by
  rw [own_inc ii h0 (by omega)]; omega
theorem own_ii2 (ii : Int32) (mm : Nat) (h0 : 0 ≤ ii.toInt) (h1 : ii.toInt + ((mm + 1 : Nat) : Int) ≤ 15) : (ii + (1 : Int32)).toInt + mm ≤ 15 := by
  rw [own_inc ii h0 (by omega)]; omega
theorem own_v2 (vv : Int64) (h0 : 0 ≤ vv.toInt) : 0 ≤ ((vv.toUInt64 >>> ((7 : Int32) &&& 0x3f).toInt64.toUInt64).toInt64).toInt ∧ ((vv.toUInt64 >>> ((7 : Int32) &&& 0x3f).toInt64.toUInt64).toInt64).toInt.toNat = vv.toInt.toNat / 128 := by
  have a := c_lushr vv 7 7 (by decide) (by decide)
  have r := rng64 vv
  have e : ((2 ^ 7 : Nat) : Int) = 128 := by decide
  rw [e] at a
  omega
theorem own_vlt (vv : Int64) (mm : Nat) (h0 : 0 ≤ vv.toInt) (h1 : vv.toInt.toNat < 128 ^ (mm + 1 + 1)) : ((vv.toUInt64 >>> ((7 : Int32) &&& 0x3f).toInt64.toUInt64).toInt64).toInt.toNat < 128 ^ (mm + 1) := by
  rw [(own_v2 vv h0).2]
  rw [Nat.pow_succ] at h1
  exact Nat.div_lt_of_lt_mul (by rw [Nat.mul_comm]; exact h1)
theorem own_v128 (vv : Int64) (h1 : vv.toInt.toNat < 128 ^ (0 + 1)) : vv < (128 : Int64) := by
  have e : (128 : Int64).toInt = 128 := by decide
  have e2 : (128 : Nat) ^ (0 + 1) = 128 := by decide
  rw [Int64.lt_iff_toInt_lt]
  omega
theorem own_63 (x : Int64) (h : 0 ≤ x.toInt) : x.toInt.toNat < 128 ^ (8 + 1) := by
  have r := rng64 x
  have e2 : (128 : Nat) ^ (8 + 1) = 9223372036854775808 := by decide
  omega
theorem own_nb (x : Int32) : nar .byte (x.toInt8.toInt32) = x.toInt8.toInt32 := by
  show (x.toInt8.toInt32).toInt8.toInt32 = x.toInt8.toInt32
  have a := c_i2b (x.toInt8.toInt32)
  have b := c_i2b x
  exact Int32.toInt_inj.mp (by omega)
theorem own_small (x : Int64) (h0 : 0 ≤ x.toInt) (h1 : x.toInt < 128) : ∃ n : Fin 128, x = Int64.ofNat n.val := by
  refine ⟨⟨x.toInt.toNat, by omega⟩, Int64.toInt_inj.mp ?_⟩
  show x.toInt = (Int64.ofNat x.toInt.toNat).toInt
  rw [Int64.toInt_ofNat_of_lt (by omega)]
  omega
theorem own_bt0 (vv : Int64) (h0 : 0 ≤ vv.toInt) (h1 : vv.toInt < 128) : (nar .byte (vv.toInt32.toInt8.toInt32)).toInt = vv.toInt := by
  obtain ⟨n, rfl⟩ := own_small vv h0 h1
  revert n; decide +kernel
theorem own_bt1 (vv : Int64) : (nar .byte (((128 : Int64) ||| (vv &&& (127 : Int64))).toInt32.toInt8.toInt32)).toInt = vv.toInt % 128 - 128 := by
  have a := c_maskL vv 127 7 (by decide) (by decide)
  have e : ((2 ^ 7 : Nat) : Int) = 128 := by decide
  rw [e] at a
  obtain ⟨n, hn⟩ := own_small (vv &&& (127 : Int64)) (by omega) (by omega)
  rw [hn] at a ⊢
  rw [← a]
  clear hn a
  revert n; decide +kernel
theorem own_R0 (ii : Int32) (vv : Int64) (fc : Nat → Int32) (hi0 : 0 ≤ ii.toInt) (hv0 : 0 ≤ vv.toInt) (h : vv < (128 : Int64)) (h16 : ii.toInt ≤ 15) :
    own_R ii.toNatClampNeg vv.toInt.toNat fc (own_up fc (ii).toNatClampNeg (nar .byte ((vv.toInt32).toInt8.toInt32))) (ii + (1 : Int32)) := by
  have e : (128 : Int64).toInt = 128 := by decide
  rw [Int64.lt_iff_toInt_lt] at h
  refine ⟨1, ⟨Nat.le_refl 1, by omega, Or.inl rfl⟩, by rw [own_inc ii hi0 h16, own_clamp]; omega, fun j hj => ?_, fun k hk => ?_⟩
  · have : j ≠ ii.toNatClampNeg := by omega
    simp [own_up, this]
  · have : k = 0 := by omega
    subst this
    simp only [own_up, Nat.add_zero, if_true, Nat.pow_zero, Nat.div_one]
    rw [own_bt0 vv hv0 (by omega), own_byte, if_pos (by omega)]
    omega
theorem own_Rstep (ii : Int32) (vv : Int64) (fc g : Nat → Int32) (z : Int32) (hi0 : 0 ≤ ii.toInt) (hv0 : 0 ≤ vv.toInt) (h : ¬ vv < (128 : Int64)) (h16 : ii.toInt ≤ 15)
    (q : own_R (ii + (1 : Int32)).toNatClampNeg ((vv.toUInt64 >>> ((7 : Int32) &&& 0x3f).toInt64.toUInt64).toInt64).toInt.toNat (own_up fc (ii).toNatClampNeg (nar .byte (((128 : Int64) ||| (vv &&& (127 : Int64))).toInt32.toInt8.toInt32))) g z) :
    own_R ii.toNatClampNeg vv.toInt.toNat fc g z := by
  have e : (128 : Int64).toInt = 128 := by decide
  rw [Int64.lt_iff_toInt_lt] at h
  obtain ⟨L, ⟨l1, l2, l3⟩, hz, ho, hb⟩ := q
  have hi := own_inc ii hi0 h16
  have hv := (own_v2 vv hv0).2
  have ei : (ii + (1 : Int32)).toNatClampNeg = ii.toNatClampNeg + 1 := by rw [own_clamp, own_clamp]; omega
  rw [hv] at l2 l3 hb
  rw [ei] at hz ho hb
  refine ⟨L + 1, ⟨by omega, ?_, Or.inr ?_⟩, by omega, fun j hj => ?_, fun k hk => ?_⟩
  · rw [Nat.pow_succ]; exact (Nat.div_lt_iff_lt_mul (by decide)).mp l2
  · show 128 ^ L ≤ _
    rcases l3 with l3 | l3
    · subst l3; omega
    · have : L = (L - 1) + 1 := by omega
      rw [this, Nat.pow_succ]
      exact (Nat.le_div_iff_mul_le (by decide)).mp l3
  · rw [ho j (by omega)]
    have : j ≠ ii.toNatClampNeg := by omega
    simp [own_up, this]
  · by_cases k0 : k = 0
    · subst k0
      rw [Nat.add_zero, ho _ (by omega)]
      simp only [own_up, if_true, Nat.pow_zero, Nat.div_one]
      rw [own_bt1, own_byte, if_neg (by omega)]
      omega
    · have := hb (k - 1) (by omega)
      rw [show ii.toNatClampNeg + 1 + (k - 1) = ii.toNatClampNeg + k by omega] at this
      rw [this, Nat.div_div_eq_div_mul, show 128 * 128 ^ (k - 1) = 128 ^ k by rw [Nat.mul_comm, ← Nat.pow_succ, show (k - 1).succ = k by omega]]

theorem d1_0 : decode prog_98_method_9_code 0 = .ok (.iload_n 3, 1) := by decide +kernel
theorem d1_1 : decode prog_98_method_9_code 1 = .ok (.istore 4, 2) := by decide +kernel
theorem d1_3 : decode prog_98_method_9_code 3 = .ok (.lload_n 0, 1) := by decide +kernel
theorem d1_4 : decode prog_98_method_9_code 4 = .ok (.lstore 5, 2) := by decide +kernel
theorem d1_6 : decode prog_98_method_9_code 6 = .ok (.lload 5, 2) := by decide +kernel
theorem d1_8 : decode prog_98_method_9_code 8 = .ok (.ldc2_w 133, 3) := by decide +kernel
theorem d1_11 : decode prog_98_method_9_code 11 = .ok (.lcmp, 1) := by decide +kernel
theorem d1_12 : decode prog_98_method_9_code 12 = .ok (.ifCond .ge 17, 3) := by decide +kernel
theorem d1_15 : decode prog_98_method_9_code 15 = .ok (.aload_n 2, 1) := by decide +kernel
theorem d1_16 : decode prog_98_method_9_code 16 = .ok (.iload 4, 2) := by decide +kernel
theorem d1_18 : decode prog_98_method_9_code 18 = .ok (.iinc 4 1, 3) := by decide +kernel
theorem d1_21 : decode prog_98_method_9_code 21 = .ok (.lload 5, 2) := by decide +kernel
theorem d1_23 : decode prog_98_method_9_code 23 = .ok (.l2i, 1) := by decide +kernel
theorem d1_24 : decode prog_98_method_9_code 24 = .ok (.i2b, 1) := by decide +kernel
theorem d1_25 : decode prog_98_method_9_code 25 = .ok (.bastore, 1) := by decide +kernel
theorem d1_26 : decode prog_98_method_9_code 26 = .ok (.iload 4, 2) := by decide +kernel
theorem d1_28 : decode prog_98_method_9_code 28 = .ok (.ireturn, 1) := by decide +kernel
theorem d1_29 : decode prog_98_method_9_code 29 = .ok (.aload_n 2, 1) := by decide +kernel
theorem d1_30 : decode prog_98_method_9_code 30 = .ok (.iload 4, 2) := by decide +kernel
theorem d1_32 : decode prog_98_method_9_code 32 = .ok (.iinc 4 1, 3) := by decide +kernel
theorem d1_35 : decode prog_98_method_9_code 35 = .ok (.ldc2_w 133, 3) := by decide +kernel
theorem d1_38 : decode prog_98_method_9_code 38 = .ok (.lload 5, 2) := by decide +kernel
theorem d1_40 : decode prog_98_method_9_code 40 = .ok (.ldc2_w 135, 3) := by decide +kernel
theorem d1_43 : decode prog_98_method_9_code 43 = .ok (.land, 1) := by decide +kernel
theorem d1_44 : decode prog_98_method_9_code 44 = .ok (.lor, 1) := by decide +kernel
theorem d1_45 : decode prog_98_method_9_code 45 = .ok (.l2i, 1) := by decide +kernel
theorem d1_46 : decode prog_98_method_9_code 46 = .ok (.i2b, 1) := by decide +kernel
theorem d1_47 : decode prog_98_method_9_code 47 = .ok (.bastore, 1) := by decide +kernel
theorem d1_48 : decode prog_98_method_9_code 48 = .ok (.lload 5, 2) := by decide +kernel
theorem d1_50 : decode prog_98_method_9_code 50 = .ok (.bipush 7, 2) := by decide +kernel
theorem d1_52 : decode prog_98_method_9_code 52 = .ok (.lushr, 1) := by decide +kernel
theorem d1_53 : decode prog_98_method_9_code 53 = .ok (.lstore 5, 2) := by decide +kernel
theorem d1_55 : decode prog_98_method_9_code 55 = .ok (.goto (-49), 3) := by decide +kernel
theorem pn_1 : plainName "ro/borderou/core/rules/SeenKeys" = true := by first | (simp [plainName, overriddenIn]; done) | decide +kernel
theorem ef_1 (m : MethodId) (x0 : Int64) (a : Addr) (x3 : Int32) : entryFrame m #[(.long x0), (.ref a), (.int x3)] 7 = mkF m 0 #[.val (.long x0), .second, .val (.ref a), .val (.int x3), .unset, .unset, .unset] [] := by first | (simp [entryFrame, mkF, argsToLocals, Value.category]; done) | rfl
def own_Q1 (Z : State) (x0 : Int64) (a : Addr) (x3 : Int32) (ff : Nat → Int32) (h0 : Heap) (n0 : Nat) (v : Option Value) (h : Heap) (L : List Loc) : Prop := ∃ (g : Nat → Int32) (z : Int32), v = some (.int z) ∧ Fr n0 L ∧ Keep h0 h [a] ∧ own_BA Z h a .byte 16 g ∧ own_R x3.toNatClampNeg x0.toInt.toNat ff g z
set_option maxRecDepth 65536 in
set_option maxHeartbeats 40000000 in
theorem lp1 (l : Launch) (Z : State) (a0 : Array Value) (hw : ∀ d ∈ tables_1, d.before a0 Z = true) (h0 : Heap) (n0 : Nat) (x0 : Int64) (a : Addr) (x3 : Int32) (g_a : n0 ≤ a) {p : Program} {e : Env} {s : State} {m : MethodId} {args : Array Value} {below : List Frame} {meth : Method} {c : Code} {Q : Option Value → Heap → List Loc → Prop} :
    ∀ (mm : Nat) (ii : Int32) (vv : Int64) (fc : Nat → Int32) (hc : Heap) (Tc : State) (locs : List Loc), 0 ≤ vv.toInt → vv.toInt.toNat < 128 ^ (mm + 1) → 0 ≤ ii.toInt → ii.toInt + mm ≤ 15 → own_BA Z hc a .byte 16 fc → Keep h0 hc [a] → n0 ≤ hc.size → Stand p l e ({ frames := 0, cells := 0, slots := 0, locals := 0 } : Room) s m args below meth c Tc locs 0 0 → Tc.heap = hc → Fr n0 locs →
    (∀ (g : Nat → Int32) (z : Int32) (hh : Heap) (L : List Loc), Fr n0 L → Keep h0 hh [a] → own_BA Z hh a .byte 16 g → own_R ii.toNatClampNeg vv.toInt.toNat fc g z → Q (some (.int z)) hh L) →
    (hx : p.tables.exec = Jvm.exec) → (hby : c.code = prog_98_method_9_code) → (hml : c.maxLocals = 7) → (hret : meth.sig.returnType = (some .int)) → (hlk : meth.locks = false) → (hZ : Z.Warmed39 s.vm) → (hown : s.vm.findClass "ro/borderou/core/rules/SeenKeys" = some m.cls) → (hnm : meth.name = "number") → own_Go p e below s Q 0 0 (Tc.setTop (mkF m 6 #[.val (.long x0), .second, .val (.ref a), .val (.int x3), .val (.int ii), .val (.long vv), .second] [])) := by
  intro mm
  induction mm with
  | zero =>
    intro ii vv fc hc Tc locs hv0 hv1 hi0 hi1 V_a K Zs Xc ec NF hq hx hby hml hret hlk hZ hown hnm
    have hix := own_ix ii 0 hi0 hi1
    refine own_by (B := Tc.setTop (mkF m 8 #[.val (.long x0), .second, .val (.ref a), .val (.int x3), .val (.int ii), .val (.long vv), .second] [(.long vv)])) (fun t k => XS.lload Xc.here hx rfl (hb hby d1_6) rfl k) ?_
    refine own_by (B := Tc.setTop (mkF m 11 #[.val (.long x0), .second, .val (.ref a), .val (.int x3), .val (.int ii), .val (.long vv), .second] [(.long (128 : Int64)), (.long vv)])) (fun t k => Xc.ldc2Long hx hown (mvT hZ (hw _ (List.mem_of_getElem? (i := 6) rfl))) (g := (mkF m 8 #[.val (.long x0), .second, .val (.ref a), .val (.int x3), .val (.int ii), .val (.long vv), .second] [(.long vv)])) rfl (hb hby d1_8) _ k) ?_
    refine own_by (B := Tc.setTop (mkF m 12 #[.val (.long x0), .second, .val (.ref a), .val (.int x3), .val (.int ii), .val (.long vv), .second] [(.int (lcmpW vv (128 : Int64)))])) (fun t k => XS.lcmp Xc.here hx rfl (hb hby d1_11) rfl k) ?_
    have hc1 : vv < (128 : Int64) := own_v128 vv hv1
    refine own_by (B := Tc.setTop (mkF m 15 #[.val (.long x0), .second, .val (.ref a), .val (.int x3), .val (.int ii), .val (.long vv), .second] [])) (fun t k => XS.ifNo Xc.here hx rfl (hb hby d1_12) rfl ((if0 _ _).trans (tlt ((lw_lt _ _).mpr hc1)).2.1) k) ?_
    refine own_by (B := Tc.setTop (mkF m 16 #[.val (.long x0), .second, .val (.ref a), .val (.int x3), .val (.int ii), .val (.long vv), .second] [(.ref a)])) (fun t k => XS.aloadN Xc.here hx rfl (hb hby d1_15) rfl rfl k) ?_
    refine own_by (B := Tc.setTop (mkF m 18 #[.val (.long x0), .second, .val (.ref a), .val (.int x3), .val (.int ii), .val (.long vv), .second] [(.int ii), (.ref a)])) (fun t k => XS.iload Xc.here hx rfl (hb hby d1_16) rfl k) ?_
    refine own_by (B := Tc.setTop (mkF m 21 #[.val (.long x0), .second, .val (.ref a), .val (.int x3), .val (.int (ii + (1 : Int32))), .val (.long vv), .second] [(.int ii), (.ref a)])) (fun t k => XS.iinc Xc.here hx rfl (hb hby d1_18) rfl (l' := #[.val (.long x0), .second, .val (.ref a), .val (.int x3), .val (.int (ii + (1 : Int32))), .val (.long vv), .second]) rfl k) ?_
    refine own_by (B := Tc.setTop (mkF m 23 #[.val (.long x0), .second, .val (.ref a), .val (.int x3), .val (.int (ii + (1 : Int32))), .val (.long vv), .second] [(.long vv), (.int ii), (.ref a)])) (fun t k => XS.lload Xc.here hx rfl (hb hby d1_21) rfl k) ?_
    refine own_by (B := Tc.setTop (mkF m 24 #[.val (.long x0), .second, .val (.ref a), .val (.int x3), .val (.int (ii + (1 : Int32))), .val (.long vv), .second] [(.int (vv.toInt32)), (.int ii), (.ref a)])) (fun t k => XS.l2i Xc.here hx rfl (hb hby d1_23) rfl k) ?_
    refine own_by (B := Tc.setTop (mkF m 25 #[.val (.long x0), .second, .val (.ref a), .val (.int x3), .val (.int (ii + (1 : Int32))), .val (.long vv), .second] [(.int ((vv.toInt32).toInt8.toInt32)), (.int ii), (.ref a)])) (fun t k => XS.i2b Xc.here hx rfl (hb hby d1_24) rfl k) ?_
    obtain ⟨cl2, Ar2, S2, H2⟩ := V_a
    have hin2 : ¬ (ii < 0 ∨ cl2.slots.size ≤ (ii).toNatClampNeg) := own_in S2 hix
    obtain ⟨T2, h2, X2, e2, W2, st2⟩ := stB Xc hx hZ ec Ar2 (j := ii) hin2 (g := (mkF m 25 #[.val (.long x0), .second, .val (.ref a), .val (.int x3), .val (.int (ii + (1 : Int32))), .val (.long vv), .second] [(.int ((vv.toInt32).toInt8.toInt32)), (.int ii), (.ref a)])) rfl rfl (hb hby d1_25)
    replace V_a : own_BA Z hc a .byte 16 fc := ⟨cl2, Ar2, S2, H2⟩
    replace V_a : own_BA Z h2 a .byte 16 (own_up fc (ii).toNatClampNeg (nar .byte ((vv.toInt32).toInt8.toInt32))) := V_a.same W2
    replace Zs : n0 ≤ h2.size := by rw [W2.size]; exact Zs
    replace K : Keep h0 h2 [a] := K.wr W2 (Or.inl (List.mem_of_getElem? (i := 0) rfl))
    have NF := Fr.snoc X2 NF g_a
    refine own_by (B := T2.setTop (mkF m 26 #[.val (.long x0), .second, .val (.ref a), .val (.int x3), .val (.int (ii + (1 : Int32))), .val (.long vv), .second] [])) (fun t k => st2 _ k) ?_
    refine own_by (B := T2.setTop (mkF m 28 #[.val (.long x0), .second, .val (.ref a), .val (.int x3), .val (.int (ii + (1 : Int32))), .val (.long vv), .second] [(.int (ii + (1 : Int32)))])) (fun t k => XS.iload X2.here hx rfl (hb hby d1_26) rfl k) ?_
    exact own_retI X2 hx hlk hret (hb hby d1_28) (by rw [e2]; exact hq _ _ _ _ NF K V_a (own_R0 ii vv fc hi0 hv0 hc1 (own_i16 ii 0 hi0 hi1))) (by decide) (by decide)
  | succ mm ih =>
    intro ii vv fc hc Tc locs hv0 hv1 hi0 hi1 V_a K Zs Xc ec NF hq hx hby hml hret hlk hZ hown hnm
    have hix := own_ix ii (mm + 1) hi0 hi1
    refine own_by (B := Tc.setTop (mkF m 8 #[.val (.long x0), .second, .val (.ref a), .val (.int x3), .val (.int ii), .val (.long vv), .second] [(.long vv)])) (fun t k => XS.lload Xc.here hx rfl (hb hby d1_6) rfl k) ?_
    refine own_by (B := Tc.setTop (mkF m 11 #[.val (.long x0), .second, .val (.ref a), .val (.int x3), .val (.int ii), .val (.long vv), .second] [(.long (128 : Int64)), (.long vv)])) (fun t k => Xc.ldc2Long hx hown (mvT hZ (hw _ (List.mem_of_getElem? (i := 6) rfl))) (g := (mkF m 8 #[.val (.long x0), .second, .val (.ref a), .val (.int x3), .val (.int ii), .val (.long vv), .second] [(.long vv)])) rfl (hb hby d1_8) _ k) ?_
    refine own_by (B := Tc.setTop (mkF m 12 #[.val (.long x0), .second, .val (.ref a), .val (.int x3), .val (.int ii), .val (.long vv), .second] [(.int (lcmpW vv (128 : Int64)))])) (fun t k => XS.lcmp Xc.here hx rfl (hb hby d1_11) rfl k) ?_
    by_cases hc1 : vv < (128 : Int64)
    ·
      refine own_by (B := Tc.setTop (mkF m 15 #[.val (.long x0), .second, .val (.ref a), .val (.int x3), .val (.int ii), .val (.long vv), .second] [])) (fun t k => XS.ifNo Xc.here hx rfl (hb hby d1_12) rfl ((if0 _ _).trans (tlt ((lw_lt _ _).mpr hc1)).2.1) k) ?_
      refine own_by (B := Tc.setTop (mkF m 16 #[.val (.long x0), .second, .val (.ref a), .val (.int x3), .val (.int ii), .val (.long vv), .second] [(.ref a)])) (fun t k => XS.aloadN Xc.here hx rfl (hb hby d1_15) rfl rfl k) ?_
      refine own_by (B := Tc.setTop (mkF m 18 #[.val (.long x0), .second, .val (.ref a), .val (.int x3), .val (.int ii), .val (.long vv), .second] [(.int ii), (.ref a)])) (fun t k => XS.iload Xc.here hx rfl (hb hby d1_16) rfl k) ?_
      refine own_by (B := Tc.setTop (mkF m 21 #[.val (.long x0), .second, .val (.ref a), .val (.int x3), .val (.int (ii + (1 : Int32))), .val (.long vv), .second] [(.int ii), (.ref a)])) (fun t k => XS.iinc Xc.here hx rfl (hb hby d1_18) rfl (l' := #[.val (.long x0), .second, .val (.ref a), .val (.int x3), .val (.int (ii + (1 : Int32))), .val (.long vv), .second]) rfl k) ?_
      refine own_by (B := Tc.setTop (mkF m 23 #[.val (.long x0), .second, .val (.ref a), .val (.int x3), .val (.int (ii + (1 : Int32))), .val (.long vv), .second] [(.long vv), (.int ii), (.ref a)])) (fun t k => XS.lload Xc.here hx rfl (hb hby d1_21) rfl k) ?_
      refine own_by (B := Tc.setTop (mkF m 24 #[.val (.long x0), .second, .val (.ref a), .val (.int x3), .val (.int (ii + (1 : Int32))), .val (.long vv), .second] [(.int (vv.toInt32)), (.int ii), (.ref a)])) (fun t k => XS.l2i Xc.here hx rfl (hb hby d1_23) rfl k) ?_
      refine own_by (B := Tc.setTop (mkF m 25 #[.val (.long x0), .second, .val (.ref a), .val (.int x3), .val (.int (ii + (1 : Int32))), .val (.long vv), .second] [(.int ((vv.toInt32).toInt8.toInt32)), (.int ii), (.ref a)])) (fun t k => XS.i2b Xc.here hx rfl (hb hby d1_24) rfl k) ?_
      obtain ⟨cl2, Ar2, S2, H2⟩ := V_a
      have hin2 : ¬ (ii < 0 ∨ cl2.slots.size ≤ (ii).toNatClampNeg) := own_in S2 hix
      obtain ⟨T2, h2, X2, e2, W2, st2⟩ := stB Xc hx hZ ec Ar2 (j := ii) hin2 (g := (mkF m 25 #[.val (.long x0), .second, .val (.ref a), .val (.int x3), .val (.int (ii + (1 : Int32))), .val (.long vv), .second] [(.int ((vv.toInt32).toInt8.toInt32)), (.int ii), (.ref a)])) rfl rfl (hb hby d1_25)
      replace V_a : own_BA Z hc a .byte 16 fc := ⟨cl2, Ar2, S2, H2⟩
      replace V_a : own_BA Z h2 a .byte 16 (own_up fc (ii).toNatClampNeg (nar .byte ((vv.toInt32).toInt8.toInt32))) := V_a.same W2
      replace Zs : n0 ≤ h2.size := by rw [W2.size]; exact Zs
      replace K : Keep h0 h2 [a] := K.wr W2 (Or.inl (List.mem_of_getElem? (i := 0) rfl))
      have NF := Fr.snoc X2 NF g_a
      refine own_by (B := T2.setTop (mkF m 26 #[.val (.long x0), .second, .val (.ref a), .val (.int x3), .val (.int (ii + (1 : Int32))), .val (.long vv), .second] [])) (fun t k => st2 _ k) ?_
      refine own_by (B := T2.setTop (mkF m 28 #[.val (.long x0), .second, .val (.ref a), .val (.int x3), .val (.int (ii + (1 : Int32))), .val (.long vv), .second] [(.int (ii + (1 : Int32)))])) (fun t k => XS.iload X2.here hx rfl (hb hby d1_26) rfl k) ?_
      exact own_retI X2 hx hlk hret (hb hby d1_28) (by rw [e2]; exact hq _ _ _ _ NF K V_a (own_R0 ii vv fc hi0 hv0 hc1 (own_i16 ii (mm + 1) hi0 hi1))) (by decide) (by decide)
    ·
      refine own_by (B := Tc.setTop (mkF m 29 #[.val (.long x0), .second, .val (.ref a), .val (.int x3), .val (.int ii), .val (.long vv), .second] [])) (fun t k => XS.ifYes Xc.here hx rfl (pc0 := 12) (pc' := 29) rfl (hb hby d1_12) rfl ((if0 _ _).trans (flt (fun q => hc1 ((lw_lt _ _).mp q))).2.1) (by decide) (by decide) k) ?_
      refine own_by (B := Tc.setTop (mkF m 30 #[.val (.long x0), .second, .val (.ref a), .val (.int x3), .val (.int ii), .val (.long vv), .second] [(.ref a)])) (fun t k => XS.aloadN Xc.here hx rfl (hb hby d1_29) rfl rfl k) ?_
      refine own_by (B := Tc.setTop (mkF m 32 #[.val (.long x0), .second, .val (.ref a), .val (.int x3), .val (.int ii), .val (.long vv), .second] [(.int ii), (.ref a)])) (fun t k => XS.iload Xc.here hx rfl (hb hby d1_30) rfl k) ?_
      refine own_by (B := Tc.setTop (mkF m 35 #[.val (.long x0), .second, .val (.ref a), .val (.int x3), .val (.int (ii + (1 : Int32))), .val (.long vv), .second] [(.int ii), (.ref a)])) (fun t k => XS.iinc Xc.here hx rfl (hb hby d1_32) rfl (l' := #[.val (.long x0), .second, .val (.ref a), .val (.int x3), .val (.int (ii + (1 : Int32))), .val (.long vv), .second]) rfl k) ?_
      refine own_by (B := Tc.setTop (mkF m 38 #[.val (.long x0), .second, .val (.ref a), .val (.int x3), .val (.int (ii + (1 : Int32))), .val (.long vv), .second] [(.long (128 : Int64)), (.int ii), (.ref a)])) (fun t k => Xc.ldc2Long hx hown (mvT hZ (hw _ (List.mem_of_getElem? (i := 6) rfl))) (g := (mkF m 35 #[.val (.long x0), .second, .val (.ref a), .val (.int x3), .val (.int (ii + (1 : Int32))), .val (.long vv), .second] [(.int ii), (.ref a)])) rfl (hb hby d1_35) _ k) ?_
      refine own_by (B := Tc.setTop (mkF m 40 #[.val (.long x0), .second, .val (.ref a), .val (.int x3), .val (.int (ii + (1 : Int32))), .val (.long vv), .second] [(.long vv), (.long (128 : Int64)), (.int ii), (.ref a)])) (fun t k => XS.lload Xc.here hx rfl (hb hby d1_38) rfl k) ?_
      refine own_by (B := Tc.setTop (mkF m 43 #[.val (.long x0), .second, .val (.ref a), .val (.int x3), .val (.int (ii + (1 : Int32))), .val (.long vv), .second] [(.long (127 : Int64)), (.long vv), (.long (128 : Int64)), (.int ii), (.ref a)])) (fun t k => Xc.ldc2Long hx hown (mvT hZ (hw _ (List.mem_of_getElem? (i := 16) rfl))) (g := (mkF m 40 #[.val (.long x0), .second, .val (.ref a), .val (.int x3), .val (.int (ii + (1 : Int32))), .val (.long vv), .second] [(.long vv), (.long (128 : Int64)), (.int ii), (.ref a)])) rfl (hb hby d1_40) _ k) ?_
      refine own_by (B := Tc.setTop (mkF m 44 #[.val (.long x0), .second, .val (.ref a), .val (.int x3), .val (.int (ii + (1 : Int32))), .val (.long vv), .second] [(.long (vv &&& (127 : Int64))), (.long (128 : Int64)), (.int ii), (.ref a)])) (fun t k => XS.land Xc.here hx rfl (hb hby d1_43) rfl k) ?_
      refine own_by (B := Tc.setTop (mkF m 45 #[.val (.long x0), .second, .val (.ref a), .val (.int x3), .val (.int (ii + (1 : Int32))), .val (.long vv), .second] [(.long ((128 : Int64) ||| (vv &&& (127 : Int64)))), (.int ii), (.ref a)])) (fun t k => XS.lor Xc.here hx rfl (hb hby d1_44) rfl k) ?_
      refine own_by (B := Tc.setTop (mkF m 46 #[.val (.long x0), .second, .val (.ref a), .val (.int x3), .val (.int (ii + (1 : Int32))), .val (.long vv), .second] [(.int (((128 : Int64) ||| (vv &&& (127 : Int64))).toInt32)), (.int ii), (.ref a)])) (fun t k => XS.l2i Xc.here hx rfl (hb hby d1_45) rfl k) ?_
      refine own_by (B := Tc.setTop (mkF m 47 #[.val (.long x0), .second, .val (.ref a), .val (.int x3), .val (.int (ii + (1 : Int32))), .val (.long vv), .second] [(.int ((((128 : Int64) ||| (vv &&& (127 : Int64))).toInt32).toInt8.toInt32)), (.int ii), (.ref a)])) (fun t k => XS.i2b Xc.here hx rfl (hb hby d1_46) rfl k) ?_
      obtain ⟨cl3, Ar3, S3, H3⟩ := V_a
      have hin3 : ¬ (ii < 0 ∨ cl3.slots.size ≤ (ii).toNatClampNeg) := own_in S3 hix
      obtain ⟨T3, h3, X3, e3, W3, st3⟩ := stB Xc hx hZ ec Ar3 (j := ii) hin3 (g := (mkF m 47 #[.val (.long x0), .second, .val (.ref a), .val (.int x3), .val (.int (ii + (1 : Int32))), .val (.long vv), .second] [(.int ((((128 : Int64) ||| (vv &&& (127 : Int64))).toInt32).toInt8.toInt32)), (.int ii), (.ref a)])) rfl rfl (hb hby d1_47)
      replace V_a : own_BA Z hc a .byte 16 fc := ⟨cl3, Ar3, S3, H3⟩
      replace V_a : own_BA Z h3 a .byte 16 (own_up fc (ii).toNatClampNeg (nar .byte ((((128 : Int64) ||| (vv &&& (127 : Int64))).toInt32).toInt8.toInt32))) := V_a.same W3
      replace Zs : n0 ≤ h3.size := by rw [W3.size]; exact Zs
      replace K : Keep h0 h3 [a] := K.wr W3 (Or.inl (List.mem_of_getElem? (i := 0) rfl))
      have NF := Fr.snoc X3 NF g_a
      refine own_by (B := T3.setTop (mkF m 48 #[.val (.long x0), .second, .val (.ref a), .val (.int x3), .val (.int (ii + (1 : Int32))), .val (.long vv), .second] [])) (fun t k => st3 _ k) ?_
      refine own_by (B := T3.setTop (mkF m 50 #[.val (.long x0), .second, .val (.ref a), .val (.int x3), .val (.int (ii + (1 : Int32))), .val (.long vv), .second] [(.long vv)])) (fun t k => XS.lload X3.here hx rfl (hb hby d1_48) rfl k) ?_
      refine own_by (B := T3.setTop (mkF m 52 #[.val (.long x0), .second, .val (.ref a), .val (.int x3), .val (.int (ii + (1 : Int32))), .val (.long vv), .second] [(.int (7 : Int32)), (.long vv)])) (fun t k => XS.bipush X3.here hx rfl (hb hby d1_50) k) ?_
      refine own_by (B := T3.setTop (mkF m 53 #[.val (.long x0), .second, .val (.ref a), .val (.int x3), .val (.int (ii + (1 : Int32))), .val (.long vv), .second] [(.long ((vv.toUInt64 >>> ((7 : Int32) &&& 0x3f).toInt64.toUInt64).toInt64))])) (fun t k => XS.lushr X3.here hx rfl (hb hby d1_52) rfl k) ?_
      refine own_by (B := T3.setTop (mkF m 55 #[.val (.long x0), .second, .val (.ref a), .val (.int x3), .val (.int (ii + (1 : Int32))), .val (.long ((vv.toUInt64 >>> ((7 : Int32) &&& 0x3f).toInt64.toUInt64).toInt64)), .second] [])) (fun t k => XS.lstore X3.here hx rfl (hb hby d1_53) rfl (l' := #[.val (.long x0), .second, .val (.ref a), .val (.int x3), .val (.int (ii + (1 : Int32))), .val (.long ((vv.toUInt64 >>> ((7 : Int32) &&& 0x3f).toInt64.toUInt64).toInt64)), .second]) rfl k) ?_
      refine own_by (B := T3.setTop (mkF m 6 #[.val (.long x0), .second, .val (.ref a), .val (.int x3), .val (.int (ii + (1 : Int32))), .val (.long ((vv.toUInt64 >>> ((7 : Int32) &&& 0x3f).toInt64.toUInt64).toInt64)), .second] [])) (fun t k => XS.goto X3.here hx rfl (pc0 := 55) (pc' := 6) rfl (hb hby d1_55) (by decide) (by decide) k) ?_
      refine ih (ii + (1 : Int32)) ((vv.toUInt64 >>> ((7 : Int32) &&& 0x3f).toInt64.toUInt64).toInt64) (own_up fc (ii).toNatClampNeg (nar .byte ((((128 : Int64) ||| (vv &&& (127 : Int64))).toInt32).toInt8.toInt32))) h3 T3 _ (own_v2 vv hv0).1 (own_vlt vv mm hv0 hv1) (own_ii1 ii (mm + 1) hi0 hi1) (own_ii2 ii mm hi0 hi1) V_a K Zs X3 e3 NF (fun g z hh L q1 q2 q3 q4 => hq g z hh L q1 q2 q3 (own_Rstep ii vv fc g z hi0 hv0 hc1 (own_i16 ii (mm + 1) hi0 hi1) q4)) hx hby hml hret hlk hZ hown hnm
set_option maxRecDepth 65536 in
set_option maxHeartbeats 40000000 in
theorem rm1 (l : Launch) (Z : State) (a0 : Array Value) (hw : ∀ d ∈ tables_1, d.before a0 Z = true) (ws : List Jvm.Cond) (x0 : Int64) (a : Addr) (x3 : Int32) (ff : Nat → Int32) (h0 : Heap) (n0 : Nat) (Z0 : n0 ≤ h0.size) (V_a : own_BA Z h0 a .byte 16 ff) (g_a : n0 ≤ a) (hx0 : 0 ≤ x0.toInt) (hx3 : 0 ≤ x3.toInt ∧ x3.toInt ≤ 3) :
    MetFree l (⟨"ro/borderou/core/rules/SeenKeys", "number", "(J[BI)I"⟩ : MethodName) (head1 (Jvm.Cond.code (⟨"ro/borderou/core/rules/SeenKeys", "number", "(J[BI)I"⟩ : MethodName) prog_98_method_9_code 7 (some .int) :: ws) ({ frames := 0, cells := 0, slots := 0, locals := 0 } : Room)) (fun aa U => aa = #[(.long x0), (.ref a), (.int x3)] ∧ Z.Warmed39 U.vm ∧ U.heap = h0) (fun _ _ _ _ _ => True) (fun _ U o U' => ∃ v L, o = .returned v ∧ own_Q1 Z x0 a x3 ff h0 n0 v U'.heap L ∧ FrameEnd U o U' L ({ frames := 0, cells := 0, slots := 0, locals := 0 } : Room).cells ({ frames := 0, cells := 0, slots := 0, locals := 0 } : Room).slots) := by
  refine own_met (plainFor_of_name pn_1) fun p e s m below meth c T0 X0 hx hby hml hret hlk hZ hown hnm e0 => ?_
  refine own_cast (ef_1 m x0 a x3) ?_
  refine own_by (B := T0.setTop (mkF m 1 #[.val (.long x0), .second, .val (.ref a), .val (.int x3), .unset, .unset, .unset] [(.int x3)])) (fun t k => XS.iloadN X0.here hx rfl (hb hby d1_0) rfl k) ?_
  refine own_by (B := T0.setTop (mkF m 3 #[.val (.long x0), .second, .val (.ref a), .val (.int x3), .val (.int x3), .unset, .unset] [])) (fun t k => XS.istore X0.here hx rfl (hb hby d1_1) rfl (l' := #[.val (.long x0), .second, .val (.ref a), .val (.int x3), .val (.int x3), .unset, .unset]) rfl k) ?_
  refine own_by (B := T0.setTop (mkF m 4 #[.val (.long x0), .second, .val (.ref a), .val (.int x3), .val (.int x3), .unset, .unset] [(.long x0)])) (fun t k => XS.lloadN X0.here hx rfl (hb hby d1_3) rfl k) ?_
  refine own_by (B := T0.setTop (mkF m 6 #[.val (.long x0), .second, .val (.ref a), .val (.int x3), .val (.int x3), .val (.long x0), .second] [])) (fun t k => XS.lstore X0.here hx rfl (hb hby d1_4) rfl (l' := #[.val (.long x0), .second, .val (.ref a), .val (.int x3), .val (.int x3), .val (.long x0), .second]) rfl k) ?_
  exact lp1 l Z a0 hw h0 n0 x0 a x3 g_a 8 x3 x0 ff h0 T0 [] hx0 (own_63 x0 hx0) hx3.1 (by have := hx3.2; omega) V_a (Keep.refl h0 [a]) Z0 X0 e0 (Fr.nil n0) (fun g z hh L q1 q2 q3 q4 => ⟨g, z, rfl, q1, q2, q3, q4⟩) hx hby hml hret hlk hZ hown hnm
theorem d2_0 : decode method_2_code 0 = .ok (.lload_n 0, 1) := by decide +kernel
theorem d2_1 : decode method_2_code 1 = .ok (.ldc2_w 7, 3) := by decide +kernel
theorem d2_4 : decode method_2_code 4 = .ok (.lcmp, 1) := by decide +kernel
theorem d2_5 : decode method_2_code 5 = .ok (.ifCond .ge 5, 3) := by decide +kernel
theorem d2_8 : decode method_2_code 8 = .ok (.iconst 1, 1) := by decide +kernel
theorem d2_9 : decode method_2_code 9 = .ok (.ireturn, 1) := by decide +kernel
theorem d2_10 : decode method_2_code 10 = .ok (.lload_n 0, 1) := by decide +kernel
theorem d2_11 : decode method_2_code 11 = .ok (.ldc2_w 9, 3) := by decide +kernel
theorem d2_14 : decode method_2_code 14 = .ok (.lcmp, 1) := by decide +kernel
theorem d2_15 : decode method_2_code 15 = .ok (.ifCond .ge 5, 3) := by decide +kernel
theorem d2_18 : decode method_2_code 18 = .ok (.iconst 2, 1) := by decide +kernel
theorem d2_19 : decode method_2_code 19 = .ok (.ireturn, 1) := by decide +kernel
theorem d2_20 : decode method_2_code 20 = .ok (.lload_n 0, 1) := by decide +kernel
theorem d2_21 : decode method_2_code 21 = .ok (.ldc2_w 11, 3) := by decide +kernel
theorem d2_24 : decode method_2_code 24 = .ok (.lcmp, 1) := by decide +kernel
theorem d2_25 : decode method_2_code 25 = .ok (.ifCond .ge 5, 3) := by decide +kernel
theorem d2_28 : decode method_2_code 28 = .ok (.iconst 3, 1) := by decide +kernel
theorem d2_29 : decode method_2_code 29 = .ok (.ireturn, 1) := by decide +kernel
theorem d2_30 : decode method_2_code 30 = .ok (.lload_n 0, 1) := by decide +kernel
theorem d2_31 : decode method_2_code 31 = .ok (.ldc2_w 13, 3) := by decide +kernel
theorem d2_34 : decode method_2_code 34 = .ok (.lcmp, 1) := by decide +kernel
theorem d2_35 : decode method_2_code 35 = .ok (.ifCond .ge 5, 3) := by decide +kernel
theorem d2_38 : decode method_2_code 38 = .ok (.iconst 4, 1) := by decide +kernel
theorem d2_39 : decode method_2_code 39 = .ok (.ireturn, 1) := by decide +kernel
theorem d2_40 : decode method_2_code 40 = .ok (.lload_n 0, 1) := by decide +kernel
theorem d2_41 : decode method_2_code 41 = .ok (.ldc2_w 15, 3) := by decide +kernel
theorem d2_44 : decode method_2_code 44 = .ok (.lcmp, 1) := by decide +kernel
theorem d2_45 : decode method_2_code 45 = .ok (.ifCond .ge 5, 3) := by decide +kernel
theorem d2_48 : decode method_2_code 48 = .ok (.iconst 5, 1) := by decide +kernel
theorem d2_49 : decode method_2_code 49 = .ok (.ireturn, 1) := by decide +kernel
theorem d2_50 : decode method_2_code 50 = .ok (.lload_n 0, 1) := by decide +kernel
theorem d2_51 : decode method_2_code 51 = .ok (.ldc2_w 17, 3) := by decide +kernel
theorem d2_54 : decode method_2_code 54 = .ok (.lcmp, 1) := by decide +kernel
theorem d2_55 : decode method_2_code 55 = .ok (.ifCond .ge 6, 3) := by decide +kernel
theorem d2_58 : decode method_2_code 58 = .ok (.bipush 6, 2) := by decide +kernel
theorem d2_60 : decode method_2_code 60 = .ok (.ireturn, 1) := by decide +kernel
theorem d2_61 : decode method_2_code 61 = .ok (.lload_n 0, 1) := by decide +kernel
theorem d2_62 : decode method_2_code 62 = .ok (.ldc2_w 19, 3) := by decide +kernel
theorem d2_65 : decode method_2_code 65 = .ok (.lcmp, 1) := by decide +kernel
theorem d2_66 : decode method_2_code 66 = .ok (.ifCond .ge 6, 3) := by decide +kernel
theorem d2_69 : decode method_2_code 69 = .ok (.bipush 7, 2) := by decide +kernel
theorem d2_71 : decode method_2_code 71 = .ok (.ireturn, 1) := by decide +kernel
theorem d2_72 : decode method_2_code 72 = .ok (.lload_n 0, 1) := by decide +kernel
theorem d2_73 : decode method_2_code 73 = .ok (.ldc2_w 21, 3) := by decide +kernel
theorem d2_76 : decode method_2_code 76 = .ok (.lcmp, 1) := by decide +kernel
theorem d2_77 : decode method_2_code 77 = .ok (.ifCond .ge 6, 3) := by decide +kernel
theorem d2_80 : decode method_2_code 80 = .ok (.bipush 8, 2) := by decide +kernel
theorem d2_82 : decode method_2_code 82 = .ok (.ireturn, 1) := by decide +kernel
theorem d2_83 : decode method_2_code 83 = .ok (.bipush 9, 2) := by decide +kernel
theorem d2_85 : decode method_2_code 85 = .ok (.ireturn, 1) := by decide +kernel
theorem pn_2 : plainName "ro/borderou/core/rules/SeenKeysNumberPinLaw" = true := by first | (simp [plainName, overriddenIn]; done) | decide +kernel
theorem ef_2 (m : MethodId) (x0 : Int64) : entryFrame m #[(.long x0)] 2 = mkF m 0 #[.val (.long x0), .second] [] := by first | (simp [entryFrame, mkF, argsToLocals, Value.category]; done) | rfl
def f2_0  (x0 : Int64) : Int32 := (if x0 < (128 : Int64) then (1 : Int32) else (if x0 < (16384 : Int64) then (2 : Int32) else (if x0 < (2097152 : Int64) then (3 : Int32) else (if x0 < (268435456 : Int64) then (4 : Int32) else (if x0 < (34359738368 : Int64) then (5 : Int32) else (if x0 < (4398046511104 : Int64) then (6 : Int32) else (if x0 < (562949953421312 : Int64) then (7 : Int32) else (if x0 < (72057594037927936 : Int64) then (8 : Int32) else (9 : Int32)))))))))
set_option maxRecDepth 65536 in
set_option maxHeartbeats 40000000 in
theorem bk2_0 (l : Launch) (Z : State) (a0 : Array Value) (hw : ∀ d ∈ tables_1, d.before a0 Z = true) (h0 : Heap)     (x0 : Int64)  {p : Program} {e : Env} {s : State} {m : MethodId} {args : Array Value} {below : List Frame} {meth : Method} {c : Code} {T0 : State}
    (X0 : Stand p l e ({ frames := 0, cells := 0, slots := 0, locals := 0 } : Room) s m args below meth c T0 [] 0 0) (hx : p.tables.exec = Jvm.exec) (hby : c.code = method_2_code) (hml : c.maxLocals = 2) (hret : meth.sig.returnType = (some .int)) (hlk : meth.locks = false) (hZ : Z.Warmed39 s.vm) (hown : s.vm.findClass "ro/borderou/core/rules/SeenKeysNumberPinLaw" = some m.cls) (hnm : meth.name = "len") (e0 : T0.heap = h0) :
    own_Go p e below s (own_Qp (some (.int (f2_0  x0))) h0) 0 0 (T0.setTop (mkF m 0 #[.val (.long x0), .second] [])) := by
  have hf : f2_0  x0 = (if x0 < (128 : Int64) then (1 : Int32) else (if x0 < (16384 : Int64) then (2 : Int32) else (if x0 < (2097152 : Int64) then (3 : Int32) else (if x0 < (268435456 : Int64) then (4 : Int32) else (if x0 < (34359738368 : Int64) then (5 : Int32) else (if x0 < (4398046511104 : Int64) then (6 : Int32) else (if x0 < (562949953421312 : Int64) then (7 : Int32) else (if x0 < (72057594037927936 : Int64) then (8 : Int32) else (9 : Int32))))))))) := rfl
  refine own_by (B := T0.setTop (mkF m 1 #[.val (.long x0), .second] [(.long x0)])) (fun t k => XS.lloadN X0.here hx rfl (hb hby d2_0) rfl k) ?_
  refine own_by (B := T0.setTop (mkF m 4 #[.val (.long x0), .second] [(.long (128 : Int64)), (.long x0)])) (fun t k => X0.ldc2Long hx hown (mvT hZ (hw _ (List.mem_of_getElem? (i := 11) rfl))) (g := (mkF m 1 #[.val (.long x0), .second] [(.long x0)])) rfl (hb hby d2_1) _ k) ?_
  refine own_by (B := T0.setTop (mkF m 5 #[.val (.long x0), .second] [(.int (lcmpW x0 (128 : Int64)))])) (fun t k => XS.lcmp X0.here hx rfl (hb hby d2_4) rfl k) ?_
  by_cases hc1 : x0 < (128 : Int64)
  ·
    rw [if_pos hc1] at hf
    refine own_by (B := T0.setTop (mkF m 8 #[.val (.long x0), .second] [])) (fun t k => XS.ifNo X0.here hx rfl (hb hby d2_5) rfl ((if0 _ _).trans (tlt ((lw_lt _ _).mpr hc1)).2.1) k) ?_
    refine own_by (B := T0.setTop (mkF m 9 #[.val (.long x0), .second] [(.int (1 : Int32))])) (fun t k => XS.iconst X0.here hx rfl (hb hby d2_8) k) ?_
    exact own_retI X0 hx hlk hret (hb hby d2_9) ⟨by rw [hf], rfl, e0⟩ (by decide) (by decide)
  ·
    rw [if_neg hc1] at hf
    refine own_by (B := T0.setTop (mkF m 10 #[.val (.long x0), .second] [])) (fun t k => XS.ifYes X0.here hx rfl (pc0 := 5) (pc' := 10) rfl (hb hby d2_5) rfl ((if0 _ _).trans (flt (fun q => hc1 ((lw_lt _ _).mp q))).2.1) (by decide) (by decide) k) ?_
    refine own_by (B := T0.setTop (mkF m 11 #[.val (.long x0), .second] [(.long x0)])) (fun t k => XS.lloadN X0.here hx rfl (hb hby d2_10) rfl k) ?_
    refine own_by (B := T0.setTop (mkF m 14 #[.val (.long x0), .second] [(.long (16384 : Int64)), (.long x0)])) (fun t k => X0.ldc2Long hx hown (mvT hZ (hw _ (List.mem_of_getElem? (i := 17) rfl))) (g := (mkF m 11 #[.val (.long x0), .second] [(.long x0)])) rfl (hb hby d2_11) _ k) ?_
    refine own_by (B := T0.setTop (mkF m 15 #[.val (.long x0), .second] [(.int (lcmpW x0 (16384 : Int64)))])) (fun t k => XS.lcmp X0.here hx rfl (hb hby d2_14) rfl k) ?_
    by_cases hc2 : x0 < (16384 : Int64)
    ·
      rw [if_pos hc2] at hf
      refine own_by (B := T0.setTop (mkF m 18 #[.val (.long x0), .second] [])) (fun t k => XS.ifNo X0.here hx rfl (hb hby d2_15) rfl ((if0 _ _).trans (tlt ((lw_lt _ _).mpr hc2)).2.1) k) ?_
      refine own_by (B := T0.setTop (mkF m 19 #[.val (.long x0), .second] [(.int (2 : Int32))])) (fun t k => XS.iconst X0.here hx rfl (hb hby d2_18) k) ?_
      exact own_retI X0 hx hlk hret (hb hby d2_19) ⟨by rw [hf], rfl, e0⟩ (by decide) (by decide)
    ·
      rw [if_neg hc2] at hf
      refine own_by (B := T0.setTop (mkF m 20 #[.val (.long x0), .second] [])) (fun t k => XS.ifYes X0.here hx rfl (pc0 := 15) (pc' := 20) rfl (hb hby d2_15) rfl ((if0 _ _).trans (flt (fun q => hc2 ((lw_lt _ _).mp q))).2.1) (by decide) (by decide) k) ?_
      refine own_by (B := T0.setTop (mkF m 21 #[.val (.long x0), .second] [(.long x0)])) (fun t k => XS.lloadN X0.here hx rfl (hb hby d2_20) rfl k) ?_
      refine own_by (B := T0.setTop (mkF m 24 #[.val (.long x0), .second] [(.long (2097152 : Int64)), (.long x0)])) (fun t k => X0.ldc2Long hx hown (mvT hZ (hw _ (List.mem_of_getElem? (i := 18) rfl))) (g := (mkF m 21 #[.val (.long x0), .second] [(.long x0)])) rfl (hb hby d2_21) _ k) ?_
      refine own_by (B := T0.setTop (mkF m 25 #[.val (.long x0), .second] [(.int (lcmpW x0 (2097152 : Int64)))])) (fun t k => XS.lcmp X0.here hx rfl (hb hby d2_24) rfl k) ?_
      by_cases hc3 : x0 < (2097152 : Int64)
      ·
        rw [if_pos hc3] at hf
        refine own_by (B := T0.setTop (mkF m 28 #[.val (.long x0), .second] [])) (fun t k => XS.ifNo X0.here hx rfl (hb hby d2_25) rfl ((if0 _ _).trans (tlt ((lw_lt _ _).mpr hc3)).2.1) k) ?_
        refine own_by (B := T0.setTop (mkF m 29 #[.val (.long x0), .second] [(.int (3 : Int32))])) (fun t k => XS.iconst X0.here hx rfl (hb hby d2_28) k) ?_
        exact own_retI X0 hx hlk hret (hb hby d2_29) ⟨by rw [hf], rfl, e0⟩ (by decide) (by decide)
      ·
        rw [if_neg hc3] at hf
        refine own_by (B := T0.setTop (mkF m 30 #[.val (.long x0), .second] [])) (fun t k => XS.ifYes X0.here hx rfl (pc0 := 25) (pc' := 30) rfl (hb hby d2_25) rfl ((if0 _ _).trans (flt (fun q => hc3 ((lw_lt _ _).mp q))).2.1) (by decide) (by decide) k) ?_
        refine own_by (B := T0.setTop (mkF m 31 #[.val (.long x0), .second] [(.long x0)])) (fun t k => XS.lloadN X0.here hx rfl (hb hby d2_30) rfl k) ?_
        refine own_by (B := T0.setTop (mkF m 34 #[.val (.long x0), .second] [(.long (268435456 : Int64)), (.long x0)])) (fun t k => X0.ldc2Long hx hown (mvT hZ (hw _ (List.mem_of_getElem? (i := 19) rfl))) (g := (mkF m 31 #[.val (.long x0), .second] [(.long x0)])) rfl (hb hby d2_31) _ k) ?_
        refine own_by (B := T0.setTop (mkF m 35 #[.val (.long x0), .second] [(.int (lcmpW x0 (268435456 : Int64)))])) (fun t k => XS.lcmp X0.here hx rfl (hb hby d2_34) rfl k) ?_
        by_cases hc4 : x0 < (268435456 : Int64)
        ·
          rw [if_pos hc4] at hf
          refine own_by (B := T0.setTop (mkF m 38 #[.val (.long x0), .second] [])) (fun t k => XS.ifNo X0.here hx rfl (hb hby d2_35) rfl ((if0 _ _).trans (tlt ((lw_lt _ _).mpr hc4)).2.1) k) ?_
          refine own_by (B := T0.setTop (mkF m 39 #[.val (.long x0), .second] [(.int (4 : Int32))])) (fun t k => XS.iconst X0.here hx rfl (hb hby d2_38) k) ?_
          exact own_retI X0 hx hlk hret (hb hby d2_39) ⟨by rw [hf], rfl, e0⟩ (by decide) (by decide)
        ·
          rw [if_neg hc4] at hf
          refine own_by (B := T0.setTop (mkF m 40 #[.val (.long x0), .second] [])) (fun t k => XS.ifYes X0.here hx rfl (pc0 := 35) (pc' := 40) rfl (hb hby d2_35) rfl ((if0 _ _).trans (flt (fun q => hc4 ((lw_lt _ _).mp q))).2.1) (by decide) (by decide) k) ?_
          refine own_by (B := T0.setTop (mkF m 41 #[.val (.long x0), .second] [(.long x0)])) (fun t k => XS.lloadN X0.here hx rfl (hb hby d2_40) rfl k) ?_
          refine own_by (B := T0.setTop (mkF m 44 #[.val (.long x0), .second] [(.long (34359738368 : Int64)), (.long x0)])) (fun t k => X0.ldc2Long hx hown (mvT hZ (hw _ (List.mem_of_getElem? (i := 20) rfl))) (g := (mkF m 41 #[.val (.long x0), .second] [(.long x0)])) rfl (hb hby d2_41) _ k) ?_
          refine own_by (B := T0.setTop (mkF m 45 #[.val (.long x0), .second] [(.int (lcmpW x0 (34359738368 : Int64)))])) (fun t k => XS.lcmp X0.here hx rfl (hb hby d2_44) rfl k) ?_
          by_cases hc5 : x0 < (34359738368 : Int64)
          ·
            rw [if_pos hc5] at hf
            refine own_by (B := T0.setTop (mkF m 48 #[.val (.long x0), .second] [])) (fun t k => XS.ifNo X0.here hx rfl (hb hby d2_45) rfl ((if0 _ _).trans (tlt ((lw_lt _ _).mpr hc5)).2.1) k) ?_
            refine own_by (B := T0.setTop (mkF m 49 #[.val (.long x0), .second] [(.int (5 : Int32))])) (fun t k => XS.iconst X0.here hx rfl (hb hby d2_48) k) ?_
            exact own_retI X0 hx hlk hret (hb hby d2_49) ⟨by rw [hf], rfl, e0⟩ (by decide) (by decide)
          ·
            rw [if_neg hc5] at hf
            refine own_by (B := T0.setTop (mkF m 50 #[.val (.long x0), .second] [])) (fun t k => XS.ifYes X0.here hx rfl (pc0 := 45) (pc' := 50) rfl (hb hby d2_45) rfl ((if0 _ _).trans (flt (fun q => hc5 ((lw_lt _ _).mp q))).2.1) (by decide) (by decide) k) ?_
            refine own_by (B := T0.setTop (mkF m 51 #[.val (.long x0), .second] [(.long x0)])) (fun t k => XS.lloadN X0.here hx rfl (hb hby d2_50) rfl k) ?_
            refine own_by (B := T0.setTop (mkF m 54 #[.val (.long x0), .second] [(.long (4398046511104 : Int64)), (.long x0)])) (fun t k => X0.ldc2Long hx hown (mvT hZ (hw _ (List.mem_of_getElem? (i := 21) rfl))) (g := (mkF m 51 #[.val (.long x0), .second] [(.long x0)])) rfl (hb hby d2_51) _ k) ?_
            refine own_by (B := T0.setTop (mkF m 55 #[.val (.long x0), .second] [(.int (lcmpW x0 (4398046511104 : Int64)))])) (fun t k => XS.lcmp X0.here hx rfl (hb hby d2_54) rfl k) ?_
            by_cases hc6 : x0 < (4398046511104 : Int64)
            ·
              rw [if_pos hc6] at hf
              refine own_by (B := T0.setTop (mkF m 58 #[.val (.long x0), .second] [])) (fun t k => XS.ifNo X0.here hx rfl (hb hby d2_55) rfl ((if0 _ _).trans (tlt ((lw_lt _ _).mpr hc6)).2.1) k) ?_
              refine own_by (B := T0.setTop (mkF m 60 #[.val (.long x0), .second] [(.int (6 : Int32))])) (fun t k => XS.bipush X0.here hx rfl (hb hby d2_58) k) ?_
              exact own_retI X0 hx hlk hret (hb hby d2_60) ⟨by rw [hf], rfl, e0⟩ (by decide) (by decide)
            ·
              rw [if_neg hc6] at hf
              refine own_by (B := T0.setTop (mkF m 61 #[.val (.long x0), .second] [])) (fun t k => XS.ifYes X0.here hx rfl (pc0 := 55) (pc' := 61) rfl (hb hby d2_55) rfl ((if0 _ _).trans (flt (fun q => hc6 ((lw_lt _ _).mp q))).2.1) (by decide) (by decide) k) ?_
              refine own_by (B := T0.setTop (mkF m 62 #[.val (.long x0), .second] [(.long x0)])) (fun t k => XS.lloadN X0.here hx rfl (hb hby d2_61) rfl k) ?_
              refine own_by (B := T0.setTop (mkF m 65 #[.val (.long x0), .second] [(.long (562949953421312 : Int64)), (.long x0)])) (fun t k => X0.ldc2Long hx hown (mvT hZ (hw _ (List.mem_of_getElem? (i := 22) rfl))) (g := (mkF m 62 #[.val (.long x0), .second] [(.long x0)])) rfl (hb hby d2_62) _ k) ?_
              refine own_by (B := T0.setTop (mkF m 66 #[.val (.long x0), .second] [(.int (lcmpW x0 (562949953421312 : Int64)))])) (fun t k => XS.lcmp X0.here hx rfl (hb hby d2_65) rfl k) ?_
              by_cases hc7 : x0 < (562949953421312 : Int64)
              ·
                rw [if_pos hc7] at hf
                refine own_by (B := T0.setTop (mkF m 69 #[.val (.long x0), .second] [])) (fun t k => XS.ifNo X0.here hx rfl (hb hby d2_66) rfl ((if0 _ _).trans (tlt ((lw_lt _ _).mpr hc7)).2.1) k) ?_
                refine own_by (B := T0.setTop (mkF m 71 #[.val (.long x0), .second] [(.int (7 : Int32))])) (fun t k => XS.bipush X0.here hx rfl (hb hby d2_69) k) ?_
                exact own_retI X0 hx hlk hret (hb hby d2_71) ⟨by rw [hf], rfl, e0⟩ (by decide) (by decide)
              ·
                rw [if_neg hc7] at hf
                refine own_by (B := T0.setTop (mkF m 72 #[.val (.long x0), .second] [])) (fun t k => XS.ifYes X0.here hx rfl (pc0 := 66) (pc' := 72) rfl (hb hby d2_66) rfl ((if0 _ _).trans (flt (fun q => hc7 ((lw_lt _ _).mp q))).2.1) (by decide) (by decide) k) ?_
                refine own_by (B := T0.setTop (mkF m 73 #[.val (.long x0), .second] [(.long x0)])) (fun t k => XS.lloadN X0.here hx rfl (hb hby d2_72) rfl k) ?_
                refine own_by (B := T0.setTop (mkF m 76 #[.val (.long x0), .second] [(.long (72057594037927936 : Int64)), (.long x0)])) (fun t k => X0.ldc2Long hx hown (mvT hZ (hw _ (List.mem_of_getElem? (i := 23) rfl))) (g := (mkF m 73 #[.val (.long x0), .second] [(.long x0)])) rfl (hb hby d2_73) _ k) ?_
                refine own_by (B := T0.setTop (mkF m 77 #[.val (.long x0), .second] [(.int (lcmpW x0 (72057594037927936 : Int64)))])) (fun t k => XS.lcmp X0.here hx rfl (hb hby d2_76) rfl k) ?_
                by_cases hc8 : x0 < (72057594037927936 : Int64)
                ·
                  rw [if_pos hc8] at hf
                  refine own_by (B := T0.setTop (mkF m 80 #[.val (.long x0), .second] [])) (fun t k => XS.ifNo X0.here hx rfl (hb hby d2_77) rfl ((if0 _ _).trans (tlt ((lw_lt _ _).mpr hc8)).2.1) k) ?_
                  refine own_by (B := T0.setTop (mkF m 82 #[.val (.long x0), .second] [(.int (8 : Int32))])) (fun t k => XS.bipush X0.here hx rfl (hb hby d2_80) k) ?_
                  exact own_retI X0 hx hlk hret (hb hby d2_82) ⟨by rw [hf], rfl, e0⟩ (by decide) (by decide)
                ·
                  rw [if_neg hc8] at hf
                  refine own_by (B := T0.setTop (mkF m 83 #[.val (.long x0), .second] [])) (fun t k => XS.ifYes X0.here hx rfl (pc0 := 77) (pc' := 83) rfl (hb hby d2_77) rfl ((if0 _ _).trans (flt (fun q => hc8 ((lw_lt _ _).mp q))).2.1) (by decide) (by decide) k) ?_
                  refine own_by (B := T0.setTop (mkF m 85 #[.val (.long x0), .second] [(.int (9 : Int32))])) (fun t k => XS.bipush X0.here hx rfl (hb hby d2_83) k) ?_
                  exact own_retI X0 hx hlk hret (hb hby d2_85) ⟨by rw [hf], rfl, e0⟩ (by decide) (by decide)
set_option maxRecDepth 65536 in
set_option maxHeartbeats 40000000 in
theorem rm2 (l : Launch) (Z : State) (a0 : Array Value) (hw : ∀ d ∈ tables_1, d.before a0 Z = true) (ws : List Jvm.Cond) (x0 : Int64)   (h0 : Heap)   :
    MetFree l (⟨"ro/borderou/core/rules/SeenKeysNumberPinLaw", "len", "(J)I"⟩ : MethodName) (head1 (Jvm.Cond.code (⟨"ro/borderou/core/rules/SeenKeysNumberPinLaw", "len", "(J)I"⟩ : MethodName) method_2_code 2 (some .int) :: ws) ({ frames := 0, cells := 0, slots := 0, locals := 0 } : Room)) (fun aa U => aa = #[(.long x0)] ∧ Z.Warmed39 U.vm ∧ U.heap = h0) (fun _ _ _ _ _ => True) (fun _ U o U' => ∃ v L, o = .returned v ∧ own_Qp (some (.int (f2_0  x0))) h0 v U'.heap L ∧ FrameEnd U o U' L ({ frames := 0, cells := 0, slots := 0, locals := 0 } : Room).cells ({ frames := 0, cells := 0, slots := 0, locals := 0 } : Room).slots) := by
  refine own_met (plainFor_of_name pn_2) fun p e s m below meth c T0 X0 hx hby hml hret hlk hZ hown hnm e0 => ?_
  refine own_cast (ef_2 m x0) ?_
  exact bk2_0 l Z a0 hw h0   x0  X0 hx hby hml hret hlk hZ hown hnm e0
theorem d3_0 : decode method_3_code 0 = .ok (.iload_n 1, 1) := by decide +kernel
theorem d3_1 : decode method_3_code 1 = .ok (.iload_n 2, 1) := by decide +kernel
theorem d3_2 : decode method_3_code 2 = .ok (.isub, 1) := by decide +kernel
theorem d3_3 : decode method_3_code 3 = .ok (.istore 7, 2) := by decide +kernel
theorem d3_5 : decode method_3_code 5 = .ok (.iload 7, 2) := by decide +kernel
theorem d3_7 : decode method_3_code 7 = .ok (.ifCond .lt 9, 3) := by decide +kernel
theorem d3_10 : decode method_3_code 10 = .ok (.iload 7, 2) := by decide +kernel
theorem d3_12 : decode method_3_code 12 = .ok (.iload_n 3, 1) := by decide +kernel
theorem d3_13 : decode method_3_code 13 = .ok (.if_icmp .lt 17, 3) := by decide +kernel
theorem d3_16 : decode method_3_code 16 = .ok (.aload_n 0, 1) := by decide +kernel
theorem d3_17 : decode method_3_code 17 = .ok (.iload_n 1, 1) := by decide +kernel
theorem d3_18 : decode method_3_code 18 = .ok (.baload, 1) := by decide +kernel
theorem d3_19 : decode method_3_code 19 = .ok (.iload 6, 2) := by decide +kernel
theorem d3_21 : decode method_3_code 21 = .ok (.if_icmp .ne 7, 3) := by decide +kernel
theorem d3_24 : decode method_3_code 24 = .ok (.iconst 1, 1) := by decide +kernel
theorem d3_25 : decode method_3_code 25 = .ok (.goto 4, 3) := by decide +kernel
theorem d3_28 : decode method_3_code 28 = .ok (.iconst 0, 1) := by decide +kernel
theorem d3_29 : decode method_3_code 29 = .ok (.ireturn, 1) := by decide +kernel
theorem d3_30 : decode method_3_code 30 = .ok (.lload 4, 2) := by decide +kernel
theorem d3_32 : decode method_3_code 32 = .ok (.bipush 7, 2) := by decide +kernel
theorem d3_34 : decode method_3_code 34 = .ok (.iload 7, 2) := by decide +kernel
theorem d3_36 : decode method_3_code 36 = .ok (.imul, 1) := by decide +kernel
theorem d3_37 : decode method_3_code 37 = .ok (.lushr, 1) := by decide +kernel
theorem d3_38 : decode method_3_code 38 = .ok (.ldc2_w 23, 3) := by decide +kernel
theorem d3_41 : decode method_3_code 41 = .ok (.land, 1) := by decide +kernel
theorem d3_42 : decode method_3_code 42 = .ok (.l2i, 1) := by decide +kernel
theorem d3_43 : decode method_3_code 43 = .ok (.istore 8, 2) := by decide +kernel
theorem d3_45 : decode method_3_code 45 = .ok (.iload 7, 2) := by decide +kernel
theorem d3_47 : decode method_3_code 47 = .ok (.iload_n 3, 1) := by decide +kernel
theorem d3_48 : decode method_3_code 48 = .ok (.iconst 1, 1) := by decide +kernel
theorem d3_49 : decode method_3_code 49 = .ok (.isub, 1) := by decide +kernel
theorem d3_50 : decode method_3_code 50 = .ok (.if_icmp .ge 12, 3) := by decide +kernel
theorem d3_53 : decode method_3_code 53 = .ok (.iload 8, 2) := by decide +kernel
theorem d3_55 : decode method_3_code 55 = .ok (.sipush 128, 3) := by decide +kernel
theorem d3_58 : decode method_3_code 58 = .ok (.ior, 1) := by decide +kernel
theorem d3_59 : decode method_3_code 59 = .ok (.goto 5, 3) := by decide +kernel
theorem d3_62 : decode method_3_code 62 = .ok (.iload 8, 2) := by decide +kernel
theorem d3_64 : decode method_3_code 64 = .ok (.istore 9, 2) := by decide +kernel
theorem d3_66 : decode method_3_code 66 = .ok (.aload_n 0, 1) := by decide +kernel
theorem d3_67 : decode method_3_code 67 = .ok (.iload_n 1, 1) := by decide +kernel
theorem d3_68 : decode method_3_code 68 = .ok (.baload, 1) := by decide +kernel
theorem d3_69 : decode method_3_code 69 = .ok (.iload 9, 2) := by decide +kernel
theorem d3_71 : decode method_3_code 71 = .ok (.i2b, 1) := by decide +kernel
theorem d3_72 : decode method_3_code 72 = .ok (.if_icmp .ne 7, 3) := by decide +kernel
theorem d3_75 : decode method_3_code 75 = .ok (.iconst 1, 1) := by decide +kernel
theorem d3_76 : decode method_3_code 76 = .ok (.goto 4, 3) := by decide +kernel
theorem d3_79 : decode method_3_code 79 = .ok (.iconst 0, 1) := by decide +kernel
theorem d3_80 : decode method_3_code 80 = .ok (.ireturn, 1) := by decide +kernel
theorem pn_3 : plainName "ro/borderou/core/rules/SeenKeysNumberPinLaw" = true := by first | (simp [plainName, overriddenIn]; done) | decide +kernel
theorem ef_3 (m : MethodId) (a : Addr) (x1 : Int32) (x2 : Int32) (x3 : Int32) (x4 : Int64) (x6 : Int32) : entryFrame m #[(.ref a), (.int x1), (.int x2), (.int x3), (.long x4), (.int x6)] 10 = mkF m 0 #[.val (.ref a), .val (.int x1), .val (.int x2), .val (.int x3), .val (.long x4), .second, .val (.int x6), .unset, .unset, .unset] [] := by first | (simp [entryFrame, mkF, argsToLocals, Value.category]; done) | rfl
def f3_29 (ff : Nat → Int32) (x1 : Int32) (x2 : Int32) (x3 : Int32) (x4 : Int64) (x6 : Int32) (x7 : Int32) (y0 : Int32) : Int32 := (nar .boolean y0)
set_option maxRecDepth 65536 in
set_option maxHeartbeats 40000000 in
theorem bk3_29 (l : Launch) (Z : State) (a0 : Array Value) (hw : ∀ d ∈ tables_1, d.before a0 Z = true) (h0 : Heap) (a : Addr)  (ff : Nat → Int32) (V_a : own_BA Z h0 a .byte 16 ff) (x1 : Int32) (x2 : Int32) (x3 : Int32) (x4 : Int64) (x6 : Int32) (x7 : Int32) (y0 : Int32) (hi : ¬ x1 < 0 ∧ x1.toNatClampNeg < 16) {p : Program} {e : Env} {s : State} {m : MethodId} {args : Array Value} {below : List Frame} {meth : Method} {c : Code} {T0 : State}
    (X0 : Stand p l e ({ frames := 0, cells := 0, slots := 0, locals := 0 } : Room) s m args below meth c T0 [] 0 0) (hx : p.tables.exec = Jvm.exec) (hby : c.code = method_3_code) (hml : c.maxLocals = 10) (hret : meth.sig.returnType = (some .boolean)) (hlk : meth.locks = false) (hZ : Z.Warmed39 s.vm) (hown : s.vm.findClass "ro/borderou/core/rules/SeenKeysNumberPinLaw" = some m.cls) (hnm : meth.name = "pos") (e0 : T0.heap = h0) :
    own_Go p e below s (own_Qp (some (.int (f3_29 ff x1 x2 x3 x4 x6 x7 y0))) h0) 0 0 (T0.setTop (mkF m 29 #[.val (.ref a), .val (.int x1), .val (.int x2), .val (.int x3), .val (.long x4), .second, .val (.int x6), .val (.int x7), .unset, .unset] [(.int y0)])) := by
  have hf : f3_29 ff x1 x2 x3 x4 x6 x7 y0 = (nar .boolean y0) := rfl
  exact own_retN (t := .boolean) (by simp) X0 hx hlk hret (z' := (nar .boolean y0)) rfl (hb hby d3_29) ⟨by rw [hf], rfl, e0⟩ (by decide) (by decide)
def f3_16 (ff : Nat → Int32) (x1 : Int32) (x2 : Int32) (x3 : Int32) (x4 : Int64) (x6 : Int32) (x7 : Int32) : Int32 := (if (ff (x1).toNatClampNeg) = x6 then (f3_29 ff x1 x2 x3 x4 x6 x7 (1 : Int32)) else (f3_29 ff x1 x2 x3 x4 x6 x7 (0 : Int32)))
set_option maxRecDepth 65536 in
set_option maxHeartbeats 40000000 in
theorem bk3_16 (l : Launch) (Z : State) (a0 : Array Value) (hw : ∀ d ∈ tables_1, d.before a0 Z = true) (h0 : Heap) (a : Addr)  (ff : Nat → Int32) (V_a : own_BA Z h0 a .byte 16 ff) (x1 : Int32) (x2 : Int32) (x3 : Int32) (x4 : Int64) (x6 : Int32) (x7 : Int32) (hi : ¬ x1 < 0 ∧ x1.toNatClampNeg < 16) {p : Program} {e : Env} {s : State} {m : MethodId} {args : Array Value} {below : List Frame} {meth : Method} {c : Code} {T0 : State}
    (X0 : Stand p l e ({ frames := 0, cells := 0, slots := 0, locals := 0 } : Room) s m args below meth c T0 [] 0 0) (hx : p.tables.exec = Jvm.exec) (hby : c.code = method_3_code) (hml : c.maxLocals = 10) (hret : meth.sig.returnType = (some .boolean)) (hlk : meth.locks = false) (hZ : Z.Warmed39 s.vm) (hown : s.vm.findClass "ro/borderou/core/rules/SeenKeysNumberPinLaw" = some m.cls) (hnm : meth.name = "pos") (e0 : T0.heap = h0) :
    own_Go p e below s (own_Qp (some (.int (f3_16 ff x1 x2 x3 x4 x6 x7))) h0) 0 0 (T0.setTop (mkF m 16 #[.val (.ref a), .val (.int x1), .val (.int x2), .val (.int x3), .val (.long x4), .second, .val (.int x6), .val (.int x7), .unset, .unset] [])) := by
  have hf : f3_16 ff x1 x2 x3 x4 x6 x7 = (if (ff (x1).toNatClampNeg) = x6 then (f3_29 ff x1 x2 x3 x4 x6 x7 (1 : Int32)) else (f3_29 ff x1 x2 x3 x4 x6 x7 (0 : Int32))) := rfl
  refine own_by (B := T0.setTop (mkF m 17 #[.val (.ref a), .val (.int x1), .val (.int x2), .val (.int x3), .val (.long x4), .second, .val (.int x6), .val (.int x7), .unset, .unset] [(.ref a)])) (fun t k => XS.aloadN X0.here hx rfl (hb hby d3_16) rfl rfl k) ?_
  refine own_by (B := T0.setTop (mkF m 18 #[.val (.ref a), .val (.int x1), .val (.int x2), .val (.int x3), .val (.long x4), .second, .val (.int x6), .val (.int x7), .unset, .unset] [(.int x1), (.ref a)])) (fun t k => XS.iloadN X0.here hx rfl (hb hby d3_17) rfl k) ?_
  obtain ⟨cl1, Ar1, S1, H1⟩ := V_a
  have hin1 : ¬ (x1 < 0 ∨ cl1.slots.size ≤ (x1).toNatClampNeg) := own_in S1 hi
  have hat1 : cl1.slots[(x1).toNatClampNeg]? = some (.int (ff (x1).toNatClampNeg)) := H1 _ (own_lt S1 hin1)
  refine own_by (B := T0.setTop (mkF m 19 #[.val (.ref a), .val (.int x1), .val (.int x2), .val (.int x3), .val (.long x4), .second, .val (.int x6), .val (.int x7), .unset, .unset] [(.int (ff (x1).toNatClampNeg))])) (fun t k => X0.baloadBytes hx (j := x1) (v := (.int (ff (x1).toNatClampNeg))) (by rw [e0]; exact Ar1.1) (State.isArrayOf_alike hZ.alike Ar1.2.1) Ar1.2.2 hin1 hat1 (g := (mkF m 18 #[.val (.ref a), .val (.int x1), .val (.int x2), .val (.int x3), .val (.long x4), .second, .val (.int x6), .val (.int x7), .unset, .unset] [(.int x1), (.ref a)])) rfl rfl (hb hby d3_18) _ k) ?_
  have V_a : own_BA Z h0 a .byte 16 ff := ⟨cl1, Ar1, S1, H1⟩
  refine own_by (B := T0.setTop (mkF m 21 #[.val (.ref a), .val (.int x1), .val (.int x2), .val (.int x3), .val (.long x4), .second, .val (.int x6), .val (.int x7), .unset, .unset] [(.int x6), (.int (ff (x1).toNatClampNeg))])) (fun t k => XS.iload X0.here hx rfl (hb hby d3_19) rfl k) ?_
  by_cases hc2 : (ff (x1).toNatClampNeg) = x6
  ·
    rw [if_pos hc2] at hf
    refine own_by (B := T0.setTop (mkF m 24 #[.val (.ref a), .val (.int x1), .val (.int x2), .val (.int x3), .val (.long x4), .second, .val (.int x6), .val (.int x7), .unset, .unset] [])) (fun t k => XS.icmpNo X0.here hx rfl (hb hby d3_21) rfl (teq hc2).2 k) ?_
    refine own_by (B := T0.setTop (mkF m 25 #[.val (.ref a), .val (.int x1), .val (.int x2), .val (.int x3), .val (.long x4), .second, .val (.int x6), .val (.int x7), .unset, .unset] [(.int (1 : Int32))])) (fun t k => XS.iconst X0.here hx rfl (hb hby d3_24) k) ?_
    refine own_by (B := T0.setTop (mkF m 29 #[.val (.ref a), .val (.int x1), .val (.int x2), .val (.int x3), .val (.long x4), .second, .val (.int x6), .val (.int x7), .unset, .unset] [(.int (1 : Int32))])) (fun t k => XS.goto X0.here hx rfl (pc0 := 25) (pc' := 29) rfl (hb hby d3_25) (by decide) (by decide) k) ?_
    rw [hf]
    exact bk3_29 l Z a0 hw h0 a ff V_a x1 x2 x3 x4 x6 x7 (1 : Int32) hi X0 hx hby hml hret hlk hZ hown hnm e0
  ·
    rw [if_neg hc2] at hf
    refine own_by (B := T0.setTop (mkF m 28 #[.val (.ref a), .val (.int x1), .val (.int x2), .val (.int x3), .val (.long x4), .second, .val (.int x6), .val (.int x7), .unset, .unset] [])) (fun t k => XS.icmpYes X0.here hx rfl (pc0 := 21) (pc' := 28) rfl (hb hby d3_21) rfl (feq hc2).2 (by decide) (by decide) k) ?_
    refine own_by (B := T0.setTop (mkF m 29 #[.val (.ref a), .val (.int x1), .val (.int x2), .val (.int x3), .val (.long x4), .second, .val (.int x6), .val (.int x7), .unset, .unset] [(.int (0 : Int32))])) (fun t k => XS.iconst X0.here hx rfl (hb hby d3_28) k) ?_
    rw [hf]
    exact bk3_29 l Z a0 hw h0 a ff V_a x1 x2 x3 x4 x6 x7 (0 : Int32) hi X0 hx hby hml hret hlk hZ hown hnm e0
def f3_80 (ff : Nat → Int32) (x1 : Int32) (x2 : Int32) (x3 : Int32) (x4 : Int64) (x6 : Int32) (x7 : Int32) (x8 : Int32) (x9 : Int32) (y0 : Int32) : Int32 := (nar .boolean y0)
set_option maxRecDepth 65536 in
set_option maxHeartbeats 40000000 in
theorem bk3_80 (l : Launch) (Z : State) (a0 : Array Value) (hw : ∀ d ∈ tables_1, d.before a0 Z = true) (h0 : Heap) (a : Addr)  (ff : Nat → Int32) (V_a : own_BA Z h0 a .byte 16 ff) (x1 : Int32) (x2 : Int32) (x3 : Int32) (x4 : Int64) (x6 : Int32) (x7 : Int32) (x8 : Int32) (x9 : Int32) (y0 : Int32) (hi : ¬ x1 < 0 ∧ x1.toNatClampNeg < 16) {p : Program} {e : Env} {s : State} {m : MethodId} {args : Array Value} {below : List Frame} {meth : Method} {c : Code} {T0 : State}
    (X0 : Stand p l e ({ frames := 0, cells := 0, slots := 0, locals := 0 } : Room) s m args below meth c T0 [] 0 0) (hx : p.tables.exec = Jvm.exec) (hby : c.code = method_3_code) (hml : c.maxLocals = 10) (hret : meth.sig.returnType = (some .boolean)) (hlk : meth.locks = false) (hZ : Z.Warmed39 s.vm) (hown : s.vm.findClass "ro/borderou/core/rules/SeenKeysNumberPinLaw" = some m.cls) (hnm : meth.name = "pos") (e0 : T0.heap = h0) :
    own_Go p e below s (own_Qp (some (.int (f3_80 ff x1 x2 x3 x4 x6 x7 x8 x9 y0))) h0) 0 0 (T0.setTop (mkF m 80 #[.val (.ref a), .val (.int x1), .val (.int x2), .val (.int x3), .val (.long x4), .second, .val (.int x6), .val (.int x7), .val (.int x8), .val (.int x9)] [(.int y0)])) := by
  have hf : f3_80 ff x1 x2 x3 x4 x6 x7 x8 x9 y0 = (nar .boolean y0) := rfl
  exact own_retN (t := .boolean) (by simp) X0 hx hlk hret (z' := (nar .boolean y0)) rfl (hb hby d3_80) ⟨by rw [hf], rfl, e0⟩ (by decide) (by decide)
def f3_64 (ff : Nat → Int32) (x1 : Int32) (x2 : Int32) (x3 : Int32) (x4 : Int64) (x6 : Int32) (x7 : Int32) (x8 : Int32) (y0 : Int32) : Int32 := (if (ff (x1).toNatClampNeg) = (y0.toInt8.toInt32) then (f3_80 ff x1 x2 x3 x4 x6 x7 x8 y0 (1 : Int32)) else (f3_80 ff x1 x2 x3 x4 x6 x7 x8 y0 (0 : Int32)))
set_option maxRecDepth 65536 in
set_option maxHeartbeats 40000000 in
theorem bk3_64 (l : Launch) (Z : State) (a0 : Array Value) (hw : ∀ d ∈ tables_1, d.before a0 Z = true) (h0 : Heap) (a : Addr)  (ff : Nat → Int32) (V_a : own_BA Z h0 a .byte 16 ff) (x1 : Int32) (x2 : Int32) (x3 : Int32) (x4 : Int64) (x6 : Int32) (x7 : Int32) (x8 : Int32) (y0 : Int32) (hi : ¬ x1 < 0 ∧ x1.toNatClampNeg < 16) {p : Program} {e : Env} {s : State} {m : MethodId} {args : Array Value} {below : List Frame} {meth : Method} {c : Code} {T0 : State}
    (X0 : Stand p l e ({ frames := 0, cells := 0, slots := 0, locals := 0 } : Room) s m args below meth c T0 [] 0 0) (hx : p.tables.exec = Jvm.exec) (hby : c.code = method_3_code) (hml : c.maxLocals = 10) (hret : meth.sig.returnType = (some .boolean)) (hlk : meth.locks = false) (hZ : Z.Warmed39 s.vm) (hown : s.vm.findClass "ro/borderou/core/rules/SeenKeysNumberPinLaw" = some m.cls) (hnm : meth.name = "pos") (e0 : T0.heap = h0) :
    own_Go p e below s (own_Qp (some (.int (f3_64 ff x1 x2 x3 x4 x6 x7 x8 y0))) h0) 0 0 (T0.setTop (mkF m 64 #[.val (.ref a), .val (.int x1), .val (.int x2), .val (.int x3), .val (.long x4), .second, .val (.int x6), .val (.int x7), .val (.int x8), .unset] [(.int y0)])) := by
  have hf : f3_64 ff x1 x2 x3 x4 x6 x7 x8 y0 = (if (ff (x1).toNatClampNeg) = (y0.toInt8.toInt32) then (f3_80 ff x1 x2 x3 x4 x6 x7 x8 y0 (1 : Int32)) else (f3_80 ff x1 x2 x3 x4 x6 x7 x8 y0 (0 : Int32))) := rfl
  refine own_by (B := T0.setTop (mkF m 66 #[.val (.ref a), .val (.int x1), .val (.int x2), .val (.int x3), .val (.long x4), .second, .val (.int x6), .val (.int x7), .val (.int x8), .val (.int y0)] [])) (fun t k => XS.istore X0.here hx rfl (hb hby d3_64) rfl (l' := #[.val (.ref a), .val (.int x1), .val (.int x2), .val (.int x3), .val (.long x4), .second, .val (.int x6), .val (.int x7), .val (.int x8), .val (.int y0)]) rfl k) ?_
  refine own_by (B := T0.setTop (mkF m 67 #[.val (.ref a), .val (.int x1), .val (.int x2), .val (.int x3), .val (.long x4), .second, .val (.int x6), .val (.int x7), .val (.int x8), .val (.int y0)] [(.ref a)])) (fun t k => XS.aloadN X0.here hx rfl (hb hby d3_66) rfl rfl k) ?_
  refine own_by (B := T0.setTop (mkF m 68 #[.val (.ref a), .val (.int x1), .val (.int x2), .val (.int x3), .val (.long x4), .second, .val (.int x6), .val (.int x7), .val (.int x8), .val (.int y0)] [(.int x1), (.ref a)])) (fun t k => XS.iloadN X0.here hx rfl (hb hby d3_67) rfl k) ?_
  obtain ⟨cl1, Ar1, S1, H1⟩ := V_a
  have hin1 : ¬ (x1 < 0 ∨ cl1.slots.size ≤ (x1).toNatClampNeg) := own_in S1 hi
  have hat1 : cl1.slots[(x1).toNatClampNeg]? = some (.int (ff (x1).toNatClampNeg)) := H1 _ (own_lt S1 hin1)
  refine own_by (B := T0.setTop (mkF m 69 #[.val (.ref a), .val (.int x1), .val (.int x2), .val (.int x3), .val (.long x4), .second, .val (.int x6), .val (.int x7), .val (.int x8), .val (.int y0)] [(.int (ff (x1).toNatClampNeg))])) (fun t k => X0.baloadBytes hx (j := x1) (v := (.int (ff (x1).toNatClampNeg))) (by rw [e0]; exact Ar1.1) (State.isArrayOf_alike hZ.alike Ar1.2.1) Ar1.2.2 hin1 hat1 (g := (mkF m 68 #[.val (.ref a), .val (.int x1), .val (.int x2), .val (.int x3), .val (.long x4), .second, .val (.int x6), .val (.int x7), .val (.int x8), .val (.int y0)] [(.int x1), (.ref a)])) rfl rfl (hb hby d3_68) _ k) ?_
  have V_a : own_BA Z h0 a .byte 16 ff := ⟨cl1, Ar1, S1, H1⟩
  refine own_by (B := T0.setTop (mkF m 71 #[.val (.ref a), .val (.int x1), .val (.int x2), .val (.int x3), .val (.long x4), .second, .val (.int x6), .val (.int x7), .val (.int x8), .val (.int y0)] [(.int y0), (.int (ff (x1).toNatClampNeg))])) (fun t k => XS.iload X0.here hx rfl (hb hby d3_69) rfl k) ?_
  refine own_by (B := T0.setTop (mkF m 72 #[.val (.ref a), .val (.int x1), .val (.int x2), .val (.int x3), .val (.long x4), .second, .val (.int x6), .val (.int x7), .val (.int x8), .val (.int y0)] [(.int (y0.toInt8.toInt32)), (.int (ff (x1).toNatClampNeg))])) (fun t k => XS.i2b X0.here hx rfl (hb hby d3_71) rfl k) ?_
  by_cases hc2 : (ff (x1).toNatClampNeg) = (y0.toInt8.toInt32)
  ·
    rw [if_pos hc2] at hf
    refine own_by (B := T0.setTop (mkF m 75 #[.val (.ref a), .val (.int x1), .val (.int x2), .val (.int x3), .val (.long x4), .second, .val (.int x6), .val (.int x7), .val (.int x8), .val (.int y0)] [])) (fun t k => XS.icmpNo X0.here hx rfl (hb hby d3_72) rfl (teq hc2).2 k) ?_
    refine own_by (B := T0.setTop (mkF m 76 #[.val (.ref a), .val (.int x1), .val (.int x2), .val (.int x3), .val (.long x4), .second, .val (.int x6), .val (.int x7), .val (.int x8), .val (.int y0)] [(.int (1 : Int32))])) (fun t k => XS.iconst X0.here hx rfl (hb hby d3_75) k) ?_
    refine own_by (B := T0.setTop (mkF m 80 #[.val (.ref a), .val (.int x1), .val (.int x2), .val (.int x3), .val (.long x4), .second, .val (.int x6), .val (.int x7), .val (.int x8), .val (.int y0)] [(.int (1 : Int32))])) (fun t k => XS.goto X0.here hx rfl (pc0 := 76) (pc' := 80) rfl (hb hby d3_76) (by decide) (by decide) k) ?_
    rw [hf]
    exact bk3_80 l Z a0 hw h0 a ff V_a x1 x2 x3 x4 x6 x7 x8 y0 (1 : Int32) hi X0 hx hby hml hret hlk hZ hown hnm e0
  ·
    rw [if_neg hc2] at hf
    refine own_by (B := T0.setTop (mkF m 79 #[.val (.ref a), .val (.int x1), .val (.int x2), .val (.int x3), .val (.long x4), .second, .val (.int x6), .val (.int x7), .val (.int x8), .val (.int y0)] [])) (fun t k => XS.icmpYes X0.here hx rfl (pc0 := 72) (pc' := 79) rfl (hb hby d3_72) rfl (feq hc2).2 (by decide) (by decide) k) ?_
    refine own_by (B := T0.setTop (mkF m 80 #[.val (.ref a), .val (.int x1), .val (.int x2), .val (.int x3), .val (.long x4), .second, .val (.int x6), .val (.int x7), .val (.int x8), .val (.int y0)] [(.int (0 : Int32))])) (fun t k => XS.iconst X0.here hx rfl (hb hby d3_79) k) ?_
    rw [hf]
    exact bk3_80 l Z a0 hw h0 a ff V_a x1 x2 x3 x4 x6 x7 x8 y0 (0 : Int32) hi X0 hx hby hml hret hlk hZ hown hnm e0
def f3_0 (ff : Nat → Int32) (x1 : Int32) (x2 : Int32) (x3 : Int32) (x4 : Int64) (x6 : Int32) : Int32 := (if (x1 - x2) < (0 : Int32) then (f3_16 ff x1 x2 x3 x4 x6 (x1 - x2)) else (if (x1 - x2) < x3 then (if (x1 - x2) < (x3 - (1 : Int32)) then (f3_64 ff x1 x2 x3 x4 x6 (x1 - x2) ((((x4.toUInt64 >>> (((7 : Int32) * (x1 - x2)) &&& 0x3f).toInt64.toUInt64).toInt64) &&& (127 : Int64)).toInt32) (((((x4.toUInt64 >>> (((7 : Int32) * (x1 - x2)) &&& 0x3f).toInt64.toUInt64).toInt64) &&& (127 : Int64)).toInt32) ||| (128 : Int32))) else (f3_64 ff x1 x2 x3 x4 x6 (x1 - x2) ((((x4.toUInt64 >>> (((7 : Int32) * (x1 - x2)) &&& 0x3f).toInt64.toUInt64).toInt64) &&& (127 : Int64)).toInt32) ((((x4.toUInt64 >>> (((7 : Int32) * (x1 - x2)) &&& 0x3f).toInt64.toUInt64).toInt64) &&& (127 : Int64)).toInt32))) else (f3_16 ff x1 x2 x3 x4 x6 (x1 - x2))))
set_option maxRecDepth 65536 in
set_option maxHeartbeats 40000000 in
theorem bk3_0 (l : Launch) (Z : State) (a0 : Array Value) (hw : ∀ d ∈ tables_1, d.before a0 Z = true) (h0 : Heap) (a : Addr)  (ff : Nat → Int32) (V_a : own_BA Z h0 a .byte 16 ff) (x1 : Int32) (x2 : Int32) (x3 : Int32) (x4 : Int64) (x6 : Int32) (hi : ¬ x1 < 0 ∧ x1.toNatClampNeg < 16) {p : Program} {e : Env} {s : State} {m : MethodId} {args : Array Value} {below : List Frame} {meth : Method} {c : Code} {T0 : State}
    (X0 : Stand p l e ({ frames := 0, cells := 0, slots := 0, locals := 0 } : Room) s m args below meth c T0 [] 0 0) (hx : p.tables.exec = Jvm.exec) (hby : c.code = method_3_code) (hml : c.maxLocals = 10) (hret : meth.sig.returnType = (some .boolean)) (hlk : meth.locks = false) (hZ : Z.Warmed39 s.vm) (hown : s.vm.findClass "ro/borderou/core/rules/SeenKeysNumberPinLaw" = some m.cls) (hnm : meth.name = "pos") (e0 : T0.heap = h0) :
    own_Go p e below s (own_Qp (some (.int (f3_0 ff x1 x2 x3 x4 x6))) h0) 0 0 (T0.setTop (mkF m 0 #[.val (.ref a), .val (.int x1), .val (.int x2), .val (.int x3), .val (.long x4), .second, .val (.int x6), .unset, .unset, .unset] [])) := by
  have hf : f3_0 ff x1 x2 x3 x4 x6 = (if (x1 - x2) < (0 : Int32) then (f3_16 ff x1 x2 x3 x4 x6 (x1 - x2)) else (if (x1 - x2) < x3 then (if (x1 - x2) < (x3 - (1 : Int32)) then (f3_64 ff x1 x2 x3 x4 x6 (x1 - x2) ((((x4.toUInt64 >>> (((7 : Int32) * (x1 - x2)) &&& 0x3f).toInt64.toUInt64).toInt64) &&& (127 : Int64)).toInt32) (((((x4.toUInt64 >>> (((7 : Int32) * (x1 - x2)) &&& 0x3f).toInt64.toUInt64).toInt64) &&& (127 : Int64)).toInt32) ||| (128 : Int32))) else (f3_64 ff x1 x2 x3 x4 x6 (x1 - x2) ((((x4.toUInt64 >>> (((7 : Int32) * (x1 - x2)) &&& 0x3f).toInt64.toUInt64).toInt64) &&& (127 : Int64)).toInt32) ((((x4.toUInt64 >>> (((7 : Int32) * (x1 - x2)) &&& 0x3f).toInt64.toUInt64).toInt64) &&& (127 : Int64)).toInt32))) else (f3_16 ff x1 x2 x3 x4 x6 (x1 - x2)))) := rfl
  refine own_by (B := T0.setTop (mkF m 1 #[.val (.ref a), .val (.int x1), .val (.int x2), .val (.int x3), .val (.long x4), .second, .val (.int x6), .unset, .unset, .unset] [(.int x1)])) (fun t k => XS.iloadN X0.here hx rfl (hb hby d3_0) rfl k) ?_
  refine own_by (B := T0.setTop (mkF m 2 #[.val (.ref a), .val (.int x1), .val (.int x2), .val (.int x3), .val (.long x4), .second, .val (.int x6), .unset, .unset, .unset] [(.int x2), (.int x1)])) (fun t k => XS.iloadN X0.here hx rfl (hb hby d3_1) rfl k) ?_
  refine own_by (B := T0.setTop (mkF m 3 #[.val (.ref a), .val (.int x1), .val (.int x2), .val (.int x3), .val (.long x4), .second, .val (.int x6), .unset, .unset, .unset] [(.int (x1 - x2))])) (fun t k => XS.isub X0.here hx rfl (hb hby d3_2) rfl k) ?_
  refine own_by (B := T0.setTop (mkF m 5 #[.val (.ref a), .val (.int x1), .val (.int x2), .val (.int x3), .val (.long x4), .second, .val (.int x6), .val (.int (x1 - x2)), .unset, .unset] [])) (fun t k => XS.istore X0.here hx rfl (hb hby d3_3) rfl (l' := #[.val (.ref a), .val (.int x1), .val (.int x2), .val (.int x3), .val (.long x4), .second, .val (.int x6), .val (.int (x1 - x2)), .unset, .unset]) rfl k) ?_
  refine own_by (B := T0.setTop (mkF m 7 #[.val (.ref a), .val (.int x1), .val (.int x2), .val (.int x3), .val (.long x4), .second, .val (.int x6), .val (.int (x1 - x2)), .unset, .unset] [(.int (x1 - x2))])) (fun t k => XS.iload X0.here hx rfl (hb hby d3_5) rfl k) ?_
  by_cases hc1 : (x1 - x2) < (0 : Int32)
  ·
    rw [if_pos hc1] at hf
    refine own_by (B := T0.setTop (mkF m 16 #[.val (.ref a), .val (.int x1), .val (.int x2), .val (.int x3), .val (.long x4), .second, .val (.int x6), .val (.int (x1 - x2)), .unset, .unset] [])) (fun t k => XS.ifYes X0.here hx rfl (pc0 := 7) (pc' := 16) rfl (hb hby d3_7) rfl ((if0 _ _).trans (tlt hc1).1) (by decide) (by decide) k) ?_
    rw [hf]
    exact bk3_16 l Z a0 hw h0 a ff V_a x1 x2 x3 x4 x6 (x1 - x2) hi X0 hx hby hml hret hlk hZ hown hnm e0
  ·
    rw [if_neg hc1] at hf
    refine own_by (B := T0.setTop (mkF m 10 #[.val (.ref a), .val (.int x1), .val (.int x2), .val (.int x3), .val (.long x4), .second, .val (.int x6), .val (.int (x1 - x2)), .unset, .unset] [])) (fun t k => XS.ifNo X0.here hx rfl (hb hby d3_7) rfl ((if0 _ _).trans (flt hc1).1) k) ?_
    refine own_by (B := T0.setTop (mkF m 12 #[.val (.ref a), .val (.int x1), .val (.int x2), .val (.int x3), .val (.long x4), .second, .val (.int x6), .val (.int (x1 - x2)), .unset, .unset] [(.int (x1 - x2))])) (fun t k => XS.iload X0.here hx rfl (hb hby d3_10) rfl k) ?_
    refine own_by (B := T0.setTop (mkF m 13 #[.val (.ref a), .val (.int x1), .val (.int x2), .val (.int x3), .val (.long x4), .second, .val (.int x6), .val (.int (x1 - x2)), .unset, .unset] [(.int x3), (.int (x1 - x2))])) (fun t k => XS.iloadN X0.here hx rfl (hb hby d3_12) rfl k) ?_
    by_cases hc2 : (x1 - x2) < x3
    ·
      rw [if_pos hc2] at hf
      refine own_by (B := T0.setTop (mkF m 30 #[.val (.ref a), .val (.int x1), .val (.int x2), .val (.int x3), .val (.long x4), .second, .val (.int x6), .val (.int (x1 - x2)), .unset, .unset] [])) (fun t k => XS.icmpYes X0.here hx rfl (pc0 := 13) (pc' := 30) rfl (hb hby d3_13) rfl (tlt hc2).1 (by decide) (by decide) k) ?_
      refine own_by (B := T0.setTop (mkF m 32 #[.val (.ref a), .val (.int x1), .val (.int x2), .val (.int x3), .val (.long x4), .second, .val (.int x6), .val (.int (x1 - x2)), .unset, .unset] [(.long x4)])) (fun t k => XS.lload X0.here hx rfl (hb hby d3_30) rfl k) ?_
      refine own_by (B := T0.setTop (mkF m 34 #[.val (.ref a), .val (.int x1), .val (.int x2), .val (.int x3), .val (.long x4), .second, .val (.int x6), .val (.int (x1 - x2)), .unset, .unset] [(.int (7 : Int32)), (.long x4)])) (fun t k => XS.bipush X0.here hx rfl (hb hby d3_32) k) ?_
      refine own_by (B := T0.setTop (mkF m 36 #[.val (.ref a), .val (.int x1), .val (.int x2), .val (.int x3), .val (.long x4), .second, .val (.int x6), .val (.int (x1 - x2)), .unset, .unset] [(.int (x1 - x2)), (.int (7 : Int32)), (.long x4)])) (fun t k => XS.iload X0.here hx rfl (hb hby d3_34) rfl k) ?_
      refine own_by (B := T0.setTop (mkF m 37 #[.val (.ref a), .val (.int x1), .val (.int x2), .val (.int x3), .val (.long x4), .second, .val (.int x6), .val (.int (x1 - x2)), .unset, .unset] [(.int ((7 : Int32) * (x1 - x2))), (.long x4)])) (fun t k => XS.imul X0.here hx rfl (hb hby d3_36) rfl k) ?_
      refine own_by (B := T0.setTop (mkF m 38 #[.val (.ref a), .val (.int x1), .val (.int x2), .val (.int x3), .val (.long x4), .second, .val (.int x6), .val (.int (x1 - x2)), .unset, .unset] [(.long ((x4.toUInt64 >>> (((7 : Int32) * (x1 - x2)) &&& 0x3f).toInt64.toUInt64).toInt64))])) (fun t k => XS.lushr X0.here hx rfl (hb hby d3_37) rfl k) ?_
      refine own_by (B := T0.setTop (mkF m 41 #[.val (.ref a), .val (.int x1), .val (.int x2), .val (.int x3), .val (.long x4), .second, .val (.int x6), .val (.int (x1 - x2)), .unset, .unset] [(.long (127 : Int64)), (.long ((x4.toUInt64 >>> (((7 : Int32) * (x1 - x2)) &&& 0x3f).toInt64.toUInt64).toInt64))])) (fun t k => X0.ldc2Long hx hown (mvT hZ (hw _ (List.mem_of_getElem? (i := 15) rfl))) (g := (mkF m 38 #[.val (.ref a), .val (.int x1), .val (.int x2), .val (.int x3), .val (.long x4), .second, .val (.int x6), .val (.int (x1 - x2)), .unset, .unset] [(.long ((x4.toUInt64 >>> (((7 : Int32) * (x1 - x2)) &&& 0x3f).toInt64.toUInt64).toInt64))])) rfl (hb hby d3_38) _ k) ?_
      refine own_by (B := T0.setTop (mkF m 42 #[.val (.ref a), .val (.int x1), .val (.int x2), .val (.int x3), .val (.long x4), .second, .val (.int x6), .val (.int (x1 - x2)), .unset, .unset] [(.long (((x4.toUInt64 >>> (((7 : Int32) * (x1 - x2)) &&& 0x3f).toInt64.toUInt64).toInt64) &&& (127 : Int64)))])) (fun t k => XS.land X0.here hx rfl (hb hby d3_41) rfl k) ?_
      refine own_by (B := T0.setTop (mkF m 43 #[.val (.ref a), .val (.int x1), .val (.int x2), .val (.int x3), .val (.long x4), .second, .val (.int x6), .val (.int (x1 - x2)), .unset, .unset] [(.int ((((x4.toUInt64 >>> (((7 : Int32) * (x1 - x2)) &&& 0x3f).toInt64.toUInt64).toInt64) &&& (127 : Int64)).toInt32))])) (fun t k => XS.l2i X0.here hx rfl (hb hby d3_42) rfl k) ?_
      refine own_by (B := T0.setTop (mkF m 45 #[.val (.ref a), .val (.int x1), .val (.int x2), .val (.int x3), .val (.long x4), .second, .val (.int x6), .val (.int (x1 - x2)), .val (.int ((((x4.toUInt64 >>> (((7 : Int32) * (x1 - x2)) &&& 0x3f).toInt64.toUInt64).toInt64) &&& (127 : Int64)).toInt32)), .unset] [])) (fun t k => XS.istore X0.here hx rfl (hb hby d3_43) rfl (l' := #[.val (.ref a), .val (.int x1), .val (.int x2), .val (.int x3), .val (.long x4), .second, .val (.int x6), .val (.int (x1 - x2)), .val (.int ((((x4.toUInt64 >>> (((7 : Int32) * (x1 - x2)) &&& 0x3f).toInt64.toUInt64).toInt64) &&& (127 : Int64)).toInt32)), .unset]) rfl k) ?_
      refine own_by (B := T0.setTop (mkF m 47 #[.val (.ref a), .val (.int x1), .val (.int x2), .val (.int x3), .val (.long x4), .second, .val (.int x6), .val (.int (x1 - x2)), .val (.int ((((x4.toUInt64 >>> (((7 : Int32) * (x1 - x2)) &&& 0x3f).toInt64.toUInt64).toInt64) &&& (127 : Int64)).toInt32)), .unset] [(.int (x1 - x2))])) (fun t k => XS.iload X0.here hx rfl (hb hby d3_45) rfl k) ?_
      refine own_by (B := T0.setTop (mkF m 48 #[.val (.ref a), .val (.int x1), .val (.int x2), .val (.int x3), .val (.long x4), .second, .val (.int x6), .val (.int (x1 - x2)), .val (.int ((((x4.toUInt64 >>> (((7 : Int32) * (x1 - x2)) &&& 0x3f).toInt64.toUInt64).toInt64) &&& (127 : Int64)).toInt32)), .unset] [(.int x3), (.int (x1 - x2))])) (fun t k => XS.iloadN X0.here hx rfl (hb hby d3_47) rfl k) ?_
      refine own_by (B := T0.setTop (mkF m 49 #[.val (.ref a), .val (.int x1), .val (.int x2), .val (.int x3), .val (.long x4), .second, .val (.int x6), .val (.int (x1 - x2)), .val (.int ((((x4.toUInt64 >>> (((7 : Int32) * (x1 - x2)) &&& 0x3f).toInt64.toUInt64).toInt64) &&& (127 : Int64)).toInt32)), .unset] [(.int (1 : Int32)), (.int x3), (.int (x1 - x2))])) (fun t k => XS.iconst X0.here hx rfl (hb hby d3_48) k) ?_
      refine own_by (B := T0.setTop (mkF m 50 #[.val (.ref a), .val (.int x1), .val (.int x2), .val (.int x3), .val (.long x4), .second, .val (.int x6), .val (.int (x1 - x2)), .val (.int ((((x4.toUInt64 >>> (((7 : Int32) * (x1 - x2)) &&& 0x3f).toInt64.toUInt64).toInt64) &&& (127 : Int64)).toInt32)), .unset] [(.int (x3 - (1 : Int32))), (.int (x1 - x2))])) (fun t k => XS.isub X0.here hx rfl (hb hby d3_49) rfl k) ?_
      by_cases hc3 : (x1 - x2) < (x3 - (1 : Int32))
      ·
        rw [if_pos hc3] at hf
        refine own_by (B := T0.setTop (mkF m 53 #[.val (.ref a), .val (.int x1), .val (.int x2), .val (.int x3), .val (.long x4), .second, .val (.int x6), .val (.int (x1 - x2)), .val (.int ((((x4.toUInt64 >>> (((7 : Int32) * (x1 - x2)) &&& 0x3f).toInt64.toUInt64).toInt64) &&& (127 : Int64)).toInt32)), .unset] [])) (fun t k => XS.icmpNo X0.here hx rfl (hb hby d3_50) rfl (tlt hc3).2.1 k) ?_
        refine own_by (B := T0.setTop (mkF m 55 #[.val (.ref a), .val (.int x1), .val (.int x2), .val (.int x3), .val (.long x4), .second, .val (.int x6), .val (.int (x1 - x2)), .val (.int ((((x4.toUInt64 >>> (((7 : Int32) * (x1 - x2)) &&& 0x3f).toInt64.toUInt64).toInt64) &&& (127 : Int64)).toInt32)), .unset] [(.int ((((x4.toUInt64 >>> (((7 : Int32) * (x1 - x2)) &&& 0x3f).toInt64.toUInt64).toInt64) &&& (127 : Int64)).toInt32))])) (fun t k => XS.iload X0.here hx rfl (hb hby d3_53) rfl k) ?_
        refine own_by (B := T0.setTop (mkF m 58 #[.val (.ref a), .val (.int x1), .val (.int x2), .val (.int x3), .val (.long x4), .second, .val (.int x6), .val (.int (x1 - x2)), .val (.int ((((x4.toUInt64 >>> (((7 : Int32) * (x1 - x2)) &&& 0x3f).toInt64.toUInt64).toInt64) &&& (127 : Int64)).toInt32)), .unset] [(.int (128 : Int32)), (.int ((((x4.toUInt64 >>> (((7 : Int32) * (x1 - x2)) &&& 0x3f).toInt64.toUInt64).toInt64) &&& (127 : Int64)).toInt32))])) (fun t k => XS.sipush X0.here hx rfl (hb hby d3_55) k) ?_
        refine own_by (B := T0.setTop (mkF m 59 #[.val (.ref a), .val (.int x1), .val (.int x2), .val (.int x3), .val (.long x4), .second, .val (.int x6), .val (.int (x1 - x2)), .val (.int ((((x4.toUInt64 >>> (((7 : Int32) * (x1 - x2)) &&& 0x3f).toInt64.toUInt64).toInt64) &&& (127 : Int64)).toInt32)), .unset] [(.int (((((x4.toUInt64 >>> (((7 : Int32) * (x1 - x2)) &&& 0x3f).toInt64.toUInt64).toInt64) &&& (127 : Int64)).toInt32) ||| (128 : Int32)))])) (fun t k => XS.ior X0.here hx rfl (hb hby d3_58) rfl k) ?_
        refine own_by (B := T0.setTop (mkF m 64 #[.val (.ref a), .val (.int x1), .val (.int x2), .val (.int x3), .val (.long x4), .second, .val (.int x6), .val (.int (x1 - x2)), .val (.int ((((x4.toUInt64 >>> (((7 : Int32) * (x1 - x2)) &&& 0x3f).toInt64.toUInt64).toInt64) &&& (127 : Int64)).toInt32)), .unset] [(.int (((((x4.toUInt64 >>> (((7 : Int32) * (x1 - x2)) &&& 0x3f).toInt64.toUInt64).toInt64) &&& (127 : Int64)).toInt32) ||| (128 : Int32)))])) (fun t k => XS.goto X0.here hx rfl (pc0 := 59) (pc' := 64) rfl (hb hby d3_59) (by decide) (by decide) k) ?_
        rw [hf]
        exact bk3_64 l Z a0 hw h0 a ff V_a x1 x2 x3 x4 x6 (x1 - x2) ((((x4.toUInt64 >>> (((7 : Int32) * (x1 - x2)) &&& 0x3f).toInt64.toUInt64).toInt64) &&& (127 : Int64)).toInt32) (((((x4.toUInt64 >>> (((7 : Int32) * (x1 - x2)) &&& 0x3f).toInt64.toUInt64).toInt64) &&& (127 : Int64)).toInt32) ||| (128 : Int32)) hi X0 hx hby hml hret hlk hZ hown hnm e0
      ·
        rw [if_neg hc3] at hf
        refine own_by (B := T0.setTop (mkF m 62 #[.val (.ref a), .val (.int x1), .val (.int x2), .val (.int x3), .val (.long x4), .second, .val (.int x6), .val (.int (x1 - x2)), .val (.int ((((x4.toUInt64 >>> (((7 : Int32) * (x1 - x2)) &&& 0x3f).toInt64.toUInt64).toInt64) &&& (127 : Int64)).toInt32)), .unset] [])) (fun t k => XS.icmpYes X0.here hx rfl (pc0 := 50) (pc' := 62) rfl (hb hby d3_50) rfl (flt hc3).2.1 (by decide) (by decide) k) ?_
        refine own_by (B := T0.setTop (mkF m 64 #[.val (.ref a), .val (.int x1), .val (.int x2), .val (.int x3), .val (.long x4), .second, .val (.int x6), .val (.int (x1 - x2)), .val (.int ((((x4.toUInt64 >>> (((7 : Int32) * (x1 - x2)) &&& 0x3f).toInt64.toUInt64).toInt64) &&& (127 : Int64)).toInt32)), .unset] [(.int ((((x4.toUInt64 >>> (((7 : Int32) * (x1 - x2)) &&& 0x3f).toInt64.toUInt64).toInt64) &&& (127 : Int64)).toInt32))])) (fun t k => XS.iload X0.here hx rfl (hb hby d3_62) rfl k) ?_
        rw [hf]
        exact bk3_64 l Z a0 hw h0 a ff V_a x1 x2 x3 x4 x6 (x1 - x2) ((((x4.toUInt64 >>> (((7 : Int32) * (x1 - x2)) &&& 0x3f).toInt64.toUInt64).toInt64) &&& (127 : Int64)).toInt32) ((((x4.toUInt64 >>> (((7 : Int32) * (x1 - x2)) &&& 0x3f).toInt64.toUInt64).toInt64) &&& (127 : Int64)).toInt32) hi X0 hx hby hml hret hlk hZ hown hnm e0
    ·
      rw [if_neg hc2] at hf
      refine own_by (B := T0.setTop (mkF m 16 #[.val (.ref a), .val (.int x1), .val (.int x2), .val (.int x3), .val (.long x4), .second, .val (.int x6), .val (.int (x1 - x2)), .unset, .unset] [])) (fun t k => XS.icmpNo X0.here hx rfl (hb hby d3_13) rfl (flt hc2).1 k) ?_
      rw [hf]
      exact bk3_16 l Z a0 hw h0 a ff V_a x1 x2 x3 x4 x6 (x1 - x2) hi X0 hx hby hml hret hlk hZ hown hnm e0
set_option maxRecDepth 65536 in
set_option maxHeartbeats 40000000 in
theorem rm3 (l : Launch) (Z : State) (a0 : Array Value) (hw : ∀ d ∈ tables_1, d.before a0 Z = true) (ws : List Jvm.Cond) (a : Addr) (x1 : Int32) (x2 : Int32) (x3 : Int32) (x4 : Int64) (x6 : Int32)  (ff : Nat → Int32) (h0 : Heap) (V_a : own_BA Z h0 a .byte 16 ff) (hi : ¬ x1 < 0 ∧ x1.toNatClampNeg < 16) :
    MetFree l (⟨"ro/borderou/core/rules/SeenKeysNumberPinLaw", "pos", "([BIIIJB)Z"⟩ : MethodName) (head1 (Jvm.Cond.code (⟨"ro/borderou/core/rules/SeenKeysNumberPinLaw", "pos", "([BIIIJB)Z"⟩ : MethodName) method_3_code 10 (some .boolean) :: ws) ({ frames := 0, cells := 0, slots := 0, locals := 0 } : Room)) (fun aa U => aa = #[(.ref a), (.int x1), (.int x2), (.int x3), (.long x4), (.int x6)] ∧ Z.Warmed39 U.vm ∧ U.heap = h0) (fun _ _ _ _ _ => True) (fun _ U o U' => ∃ v L, o = .returned v ∧ own_Qp (some (.int (f3_0 ff x1 x2 x3 x4 x6))) h0 v U'.heap L ∧ FrameEnd U o U' L ({ frames := 0, cells := 0, slots := 0, locals := 0 } : Room).cells ({ frames := 0, cells := 0, slots := 0, locals := 0 } : Room).slots) := by
  refine own_met (plainFor_of_name pn_3) fun p e s m below meth c T0 X0 hx hby hml hret hlk hZ hown hnm e0 => ?_
  refine own_cast (ef_3 m a x1 x2 x3 x4 x6) ?_
  exact bk3_0 l Z a0 hw h0 a ff V_a x1 x2 x3 x4 x6 hi X0 hx hby hml hret hlk hZ hown hnm e0
theorem own_sh0 (y : Int64) (q : Int32) (h : q.toBitVec.toNat % 64 = 0) : ((y.toUInt64 >>> (q &&& 0x3f).toInt64.toUInt64).toInt64) = y := by
  have a := (sm64 q 0 h).1
  have b : (q &&& 0x3f).toInt64 = 0 := Int64.toBitVec_inj.mp (by rw [a]; rfl)
  rw [b]
  have e : (0 : Int64).toUInt64 = 0 := by decide
  rw [e]
  simp
theorem own_nn (x : Int64) (q : Int32) (nn : Int64) (h : nn = (((x &&& (9223372036854775807 : Int64)).toUInt64 >>> ((q &&& (63 : Int32)) &&& 0x3f).toInt64.toUInt64).toInt64)) : 0 ≤ nn.toInt := by
  have a := c_maskL x 9223372036854775807 63 (by decide) (by decide)
  have e : ((2 ^ 63 : Nat) : Int) = 9223372036854775808 := by decide
  rw [e] at a
  have ha : 0 ≤ (x &&& (9223372036854775807 : Int64)).toInt := by omega
  by_cases k : (q &&& (63 : Int32)).toBitVec.toNat % 64 = 0
  · rw [own_sh0 _ _ k] at h
    rw [h]; exact ha
  · have b := c_lushr (x &&& (9223372036854775807 : Int64)) (q &&& (63 : Int32)) _ rfl (Nat.pos_of_ne_zero k)
    rw [h, b]
    refine Int.ediv_nonneg (by omega) (Int.natCast_nonneg _)
theorem own_ax (x ax : Int32) (h : ax = (x &&& (3 : Int32))) : 0 ≤ ax.toInt ∧ ax.toInt ≤ 3 := by
  have a := c_and x 3 (by decide)
  have e : (3 : Int32).toInt = 3 := by decide
  rw [← h] at a
  omega
theorem own_f2 (nn : Int64) (L : Nat) (h : own_isLen nn.toInt.toNat L) (h0 : 0 ≤ nn.toInt) : (f2_0 nn).toInt = (L : Int) ∧ L ≤ 9 := by
  obtain ⟨l1, l2, l3⟩ := h
  have r := rng64 nn
  have l9 : L ≤ 9 := by
    by_cases q : L ≤ 9
    · exact q
    · rcases l3 with l3 | l3
      · omega
      · have : 128 ^ 9 ≤ 128 ^ (L - 1) := Nat.pow_le_pow_right (by decide) (by omega)
        have e2 : (128 : Nat) ^ 9 = 9223372036854775808 := by decide
        omega
  refine ⟨?_, l9⟩
  have hf : f2_0 nn = (if nn < (128 : Int64) then (1 : Int32) else (if nn < (16384 : Int64) then (2 : Int32) else (if nn < (2097152 : Int64) then (3 : Int32) else (if nn < (268435456 : Int64) then (4 : Int32) else (if nn < (34359738368 : Int64) then (5 : Int32) else (if nn < (4398046511104 : Int64) then (6 : Int32) else (if nn < (562949953421312 : Int64) then (7 : Int32) else (if nn < (72057594037927936 : Int64) then (8 : Int32) else (9 : Int32))))))))) := rfl
  rw [hf]
  have e1 : (128 : Int64).toInt = 128 := by decide
  have e2 : (16384 : Int64).toInt = 16384 := by decide
  have e3 : (2097152 : Int64).toInt = 2097152 := by decide
  have e4 : (268435456 : Int64).toInt = 268435456 := by decide
  have e5 : (34359738368 : Int64).toInt = 34359738368 := by decide
  have e6 : (4398046511104 : Int64).toInt = 4398046511104 := by decide
  have e7 : (562949953421312 : Int64).toInt = 562949953421312 := by decide
  have e8 : (72057594037927936 : Int64).toInt = 72057594037927936 := by decide
  simp only [Int64.lt_iff_toInt_lt, e1, e2, e3, e4, e5, e6, e7, e8]
  clear hf e1 e2 e3 e4 e5 e6 e7 e8
  generalize nn.toInt = n at *
  have hL : L = 1 ∨ L = 2 ∨ L = 3 ∨ L = 4 ∨ L = 5 ∨ L = 6 ∨ L = 7 ∨ L = 8 ∨ L = 9 := by omega
  rcases hL with rfl | rfl | rfl | rfl | rfl | rfl | rfl | rfl | rfl
  all_goals
    simp only [Nat.reducePow, Nat.reduceSub] at l2 l3
    repeat' split
    all_goals first | decide | (exfalso; omega)
theorem own_addL (ax w : Int32) (L : Nat) (h1 : 0 ≤ ax.toInt ∧ ax.toInt ≤ 3) (h2 : w.toInt = (L : Int)) (h3 : L ≤ 9) : (ax + w).toInt = ax.toInt + L := by
  have a := c_iadd ax w
  have r := rng32 (ax + w)
  omega
theorem own_len (nn : Int64) (ax : Int32) (gg : Nat → Int32) (zz fl : Int32) (h0 : 0 ≤ nn.toInt) (h1 : 0 ≤ ax.toInt ∧ ax.toInt ≤ 3) (hR : own_R ax.toNatClampNeg nn.toInt.toNat (fun _ => fl) gg zz) : zz = (ax + (f2_0 nn)) := by
  obtain ⟨L, hL, hz, -, -⟩ := hR
  have a := own_f2 nn L hL h0
  have b := own_addL ax (f2_0 nn) L h1 a.1 a.2
  rw [own_clamp] at hz
  exact Int32.toInt_inj.mp (by omega)
theorem own_shift (x : Int64) (i : Int32) (k : Nat) (hi : i.toInt = (k : Int)) (hk : k ≤ 8) (hx : 0 ≤ x.toInt) : ((x.toUInt64 >>> (((7 : Int32) * i) &&& 0x3f).toInt64.toUInt64).toInt64).toInt = x.toInt / ((128 ^ k : Nat) : Int) := by
  have r := rng64 x
  have hm : x.toInt % 18446744073709551616 = x.toInt := by omega
  have hi2 : i = Int32.ofNat k := Int32.toInt_inj.mp (by rw [hi, Int32.toInt_ofNat_of_lt (by omega)])
  subst hi2
  clear hi
  by_cases k0 : k = 0
  · subst k0
    rw [own_sh0 _ _ (by decide)]
    simp
  · have hK : k = 1 ∨ k = 2 ∨ k = 3 ∨ k = 4 ∨ k = 5 ∨ k = 6 ∨ k = 7 ∨ k = 8 := by omega
    rcases hK with rfl | rfl | rfl | rfl | rfl | rfl | rfl | rfl
    · rw [c_lushr x _ 7 (by decide) (by decide), hm]
    · rw [c_lushr x _ 14 (by decide) (by decide), hm]
    · rw [c_lushr x _ 21 (by decide) (by decide), hm]
    · rw [c_lushr x _ 28 (by decide) (by decide), hm]
    · rw [c_lushr x _ 35 (by decide) (by decide), hm]
    · rw [c_lushr x _ 42 (by decide) (by decide), hm]
    · rw [c_lushr x _ 49 (by decide) (by decide), hm]
    · rw [c_lushr x _ 56 (by decide) (by decide), hm]
theorem own_grp (x : Int64) (i : Int32) (k : Nat) (hi : i.toInt = (k : Int)) (hk : k ≤ 8) (hx : 0 ≤ x.toInt) : ((((x.toUInt64 >>> (((7 : Int32) * i) &&& 0x3f).toInt64.toUInt64).toInt64) &&& (127 : Int64)).toInt32).toInt = ((x.toInt.toNat / 128 ^ k % 128 : Nat) : Int) := by
  have a := own_shift x i k hi hk hx
  generalize ((x.toUInt64 >>> (((7 : Int32) * i) &&& 0x3f).toInt64.toUInt64).toInt64) = y at *
  have b := c_maskL y 127 7 (by decide) (by decide)
  have e : ((2 ^ 7 : Nat) : Int) = 128 := by decide
  rw [e] at b
  have d := c_l2i (y &&& (127 : Int64))
  have r := rng32 (y &&& (127 : Int64)).toInt32
  have hq : x.toInt / ((128 ^ k : Nat) : Int) = ((x.toInt.toNat / 128 ^ k : Nat) : Int) := by
    rw [Int.natCast_ediv, Int.toNat_of_nonneg hx]
  rw [hq] at a
  omega
theorem own_small32 (x : Int32) (h0 : 0 ≤ x.toInt) (h1 : x.toInt < 128) : ∃ n : Fin 128, x = Int32.ofNat n.val := by
  refine ⟨⟨x.toInt.toNat, by omega⟩, Int32.toInt_inj.mp ?_⟩
  show x.toInt = (Int32.ofNat x.toInt.toNat).toInt
  rw [Int32.toInt_ofNat_of_lt (by omega)]
  omega
theorem own_e1 (w : Int32) (h0 : 0 ≤ w.toInt) (h1 : w.toInt < 128) : ((w ||| (128 : Int32)).toInt8.toInt32).toInt = w.toInt - 128 := by
  obtain ⟨n, rfl⟩ := own_small32 w h0 h1
  clear h0 h1
  revert n; decide +kernel
theorem own_e0 (w : Int32) (h0 : 0 ≤ w.toInt) (h1 : w.toInt < 128) : (w.toInt8.toInt32).toInt = w.toInt := by
  have := c_i2b w
  omega
theorem own_pos1 (nn : Int64) (ax : Int32) (gg : Nat → Int32) (zz fl q : Int32) (qn : Nat) (hq : q.toNatClampNeg = qn) (hqn : q.toInt = (qn : Int) ∧ qn < 16) (h0 : 0 ≤ nn.toInt) (h1 : 0 ≤ ax.toInt ∧ ax.toInt ≤ 3) (hfl : nar .byte fl = fl)
    (hR : own_R ax.toNatClampNeg nn.toInt.toNat (fun _ => fl) gg zz) : ¬ (f3_0 gg q ax (f2_0 nn) nn fl) = (0 : Int32) := by
  obtain ⟨L, hL, hz, ho, hb⟩ := hR
  have a := own_f2 nn L hL h0
  have e0 : (0 : Int32).toInt = 0 := by decide
  have ei : (1 : Int32).toInt = 1 := by decide
  have hs := c_isub q ax
  have hs2 := rng32 (q - ax)
  have hd : (q - ax).toInt = (qn : Int) - ax.toInt := by omega
  have hf1 := c_isub (f2_0 nn) 1
  have hf2 := rng32 ((f2_0 nn) - (1 : Int32))
  have hl1 : ((f2_0 nn) - (1 : Int32)).toInt = (L : Int) - 1 := by have := hL.1; omega
  rw [own_clamp] at ho hb
  have out : (qn < ax.toInt.toNat ∨ ax.toInt.toNat + L ≤ qn) → ¬ (f3_16 gg q ax (f2_0 nn) nn fl (q - ax)) = (0 : Int32) := by
    intro h
    have g : gg q.toNatClampNeg = fl := by rw [hq]; exact ho qn h
    have hf : f3_16 gg q ax (f2_0 nn) nn fl (q - ax) = (if (gg (q).toNatClampNeg) = fl then (nar .boolean (1 : Int32)) else (nar .boolean (0 : Int32))) := rfl
    rw [hf, if_pos g]
    decide
  have hf : f3_0 gg q ax (f2_0 nn) nn fl = (if (q - ax) < (0 : Int32) then (f3_16 gg q ax (f2_0 nn) nn fl (q - ax)) else (if (q - ax) < (f2_0 nn) then (if (q - ax) < ((f2_0 nn) - (1 : Int32)) then (if (gg (q).toNatClampNeg) = ((((((nn.toUInt64 >>> (((7 : Int32) * (q - ax)) &&& 0x3f).toInt64.toUInt64).toInt64) &&& (127 : Int64)).toInt32) ||| (128 : Int32)).toInt8.toInt32) then (nar .boolean (1 : Int32)) else (nar .boolean (0 : Int32))) else (if (gg (q).toNatClampNeg) = (((((nn.toUInt64 >>> (((7 : Int32) * (q - ax)) &&& 0x3f).toInt64.toUInt64).toInt64) &&& (127 : Int64)).toInt32).toInt8.toInt32) then (nar .boolean (1 : Int32)) else (nar .boolean (0 : Int32)))) else (f3_16 gg q ax (f2_0 nn) nn fl (q - ax)))) := rfl
  rw [hf]
  by_cases c1 : (q - ax) < (0 : Int32)
  · rw [if_pos c1]
    rw [Int32.lt_iff_toInt_lt] at c1
    exact out (by omega)
  · rw [if_neg c1]
    rw [Int32.lt_iff_toInt_lt] at c1
    by_cases c2 : (q - ax) < (f2_0 nn)
    · rw [if_pos c2]
      rw [Int32.lt_iff_toInt_lt] at c2
      obtain ⟨k, hk⟩ : ∃ k : Nat, qn = ax.toInt.toNat + k := ⟨qn - ax.toInt.toNat, by omega⟩
      have hik : (q - ax).toInt = (k : Int) := by omega
      have hg := hb k (by omega)
      rw [← hk] at hg
      have gr := own_grp nn (q - ax) k hik (by omega) h0
      generalize ((((nn.toUInt64 >>> (((7 : Int32) * (q - ax)) &&& 0x3f).toInt64.toUInt64).toInt64) &&& (127 : Int64)).toInt32) = w at *
      have hlt : nn.toInt.toNat / 128 ^ k % 128 < 128 := Nat.mod_lt _ (by decide)
      have x1 := own_e1 w (by omega) (by omega)
      have x0 := own_e0 w (by omega) (by omega)
      by_cases c3 : (q - ax) < ((f2_0 nn) - (1 : Int32))
      · rw [if_pos c3]
        rw [Int32.lt_iff_toInt_lt] at c3
        have big : ¬ nn.toInt.toNat / 128 ^ k < 128 := by
          intro z
          have z1 : nn.toInt.toNat < 128 ^ (k + 1) := by
            rw [Nat.pow_succ, Nat.mul_comm]
            exact (Nat.div_lt_iff_lt_mul (Nat.pow_pos (by decide))).mp z
          rcases hL.2.2 with l | l
          · omega
          · have : 128 ^ (k + 1) ≤ 128 ^ (L - 1) := Nat.pow_le_pow_right (by decide) (by omega)
            omega
        rw [own_byte, if_neg big] at hg
        rw [if_pos (by rw [hq]; exact Int32.toInt_inj.mp (by omega))]
        decide
      · rw [if_neg c3]
        rw [Int32.lt_iff_toInt_lt] at c3
        have small : nn.toInt.toNat / 128 ^ k < 128 := by
          have hk1 : k + 1 = L := by omega
          have l2 := hL.2.1
          rw [← hk1, Nat.pow_succ, Nat.mul_comm] at l2
          exact (Nat.div_lt_iff_lt_mul (Nat.pow_pos (by decide))).mpr l2
        rw [own_byte, if_pos small] at hg
        rw [Nat.mod_eq_of_lt small] at gr
        rw [if_pos (by rw [hq]; exact Int32.toInt_inj.mp (by omega))]
        decide
    · rw [if_neg c2]
      rw [Int32.lt_iff_toInt_lt] at c2
      exact out (by omega)

theorem own_upl (f : Nat → Int32) (n j : Nat) (fl : Int32) (hj : j = n) (hf : ∀ i, i < n → f i = fl) : ∀ i, i < n + 1 → own_up f j fl i = fl := by
  intro i hi
  by_cases q : i = j
  · exact if_pos q
  · exact (if_neg q).trans (hf i (by omega))
theorem own_all (fl : Int32) : ∀ i, i < 16 → (own_up (own_up (own_up (own_up (own_up (own_up (own_up (own_up (own_up (own_up (own_up (own_up (own_up (own_up (own_up (own_up (fun _ => 0) ((0 : Int32)).toNatClampNeg fl) ((1 : Int32)).toNatClampNeg fl) ((2 : Int32)).toNatClampNeg fl) ((3 : Int32)).toNatClampNeg fl) ((4 : Int32)).toNatClampNeg fl) ((5 : Int32)).toNatClampNeg fl) ((6 : Int32)).toNatClampNeg fl) ((7 : Int32)).toNatClampNeg fl) ((8 : Int32)).toNatClampNeg fl) ((9 : Int32)).toNatClampNeg fl) ((10 : Int32)).toNatClampNeg fl) ((11 : Int32)).toNatClampNeg fl) ((12 : Int32)).toNatClampNeg fl) ((13 : Int32)).toNatClampNeg fl) ((14 : Int32)).toNatClampNeg fl) ((15 : Int32)).toNatClampNeg fl) i = (fun _ => fl) i := (own_upl _ 15 _ fl (by decide) (own_upl _ 14 _ fl (by decide) (own_upl _ 13 _ fl (by decide) (own_upl _ 12 _ fl (by decide) (own_upl _ 11 _ fl (by decide) (own_upl _ 10 _ fl (by decide) (own_upl _ 9 _ fl (by decide) (own_upl _ 8 _ fl (by decide) (own_upl _ 7 _ fl (by decide) (own_upl _ 6 _ fl (by decide) (own_upl _ 5 _ fl (by decide) (own_upl _ 4 _ fl (by decide) (own_upl _ 3 _ fl (by decide) (own_upl _ 2 _ fl (by decide) (own_upl _ 1 _ fl (by decide) (own_upl _ 0 _ fl (by decide) (fun i h => absurd h (Nat.not_lt_zero i))))))))))))))))))
theorem pn_0 : plainName "ro/borderou/core/rules/SeenKeysNumberPinLaw" = true := by first | (simp [plainName, overriddenIn]; done) | decide +kernel
theorem ef_0 (m : MethodId) (j0 : Int64) (i2 : Int32) (i3 : Int32) (i4 : Int32) : entryFrame m #[(.long j0), (.int i2), (.int i3), (.int i4)] maxLocals = mkF m 0 #[.val (.long j0), .second, .val (.int i2), .val (.int i3), .val (.int i4), .unset, .unset, .unset, .unset, .unset, .unset, .unset] [] := by first | (simp [entryFrame, mkF, argsToLocals, Value.category, maxLocals]; done) | rfl
def own_Q0 (n0 : Nat) (v : Option Value) (h : Heap) (L : List Loc) : Prop := v = some (.int 1) ∧ Fr n0 L
set_option maxRecDepth 65536 in
set_option maxHeartbeats 40000000 in
theorem rm0 (l : Launch) (Z : State) (a0 : Array Value) (hw : ∀ d ∈ tables_1, d.before a0 Z = true) (ws : List Jvm.Cond) (j0 : Int64) (i2 : Int32) (i3 : Int32) (i4 : Int32)  (h0 : Heap) (n0 : Nat) (Z0 : n0 ≤ h0.size)  :
    MetFree l x (head1 (Jvm.Cond.code x code maxLocals ret :: ws) room_1) (fun aa U => aa = #[(.long j0), (.int i2), (.int i3), (.int i4)] ∧ Z.Warmed39 U.vm ∧ U.heap = h0) (fun _ _ _ _ _ => True) (fun _ U o U' => ∃ v L, o = .returned v ∧ own_Q0 n0 v U'.heap L ∧ FrameEnd U o U' L room_1.cells room_1.slots) := by
  refine own_met (plainFor_of_name pn_0) fun p e s m below meth c T0 X0 hx hby hml hret hlk hZ hown hnm e0 => ?_
  refine own_cast (ef_0 m j0 i2 i3 i4) ?_
  have NF := Fr.nil n0
  have Zs := Z0
  refine own_by (B := T0.setTop (mkF m 1 #[.val (.long j0), .second, .val (.int i2), .val (.int i3), .val (.int i4), .unset, .unset, .unset, .unset, .unset, .unset, .unset] [(.long j0)])) (fun t k => XS.lloadN X0.here hx rfl (hb hby at_0) rfl k) ?_
  refine own_by (B := T0.setTop (mkF m 4 #[.val (.long j0), .second, .val (.int i2), .val (.int i3), .val (.int i4), .unset, .unset, .unset, .unset, .unset, .unset, .unset] [(.long (9223372036854775807 : Int64)), (.long j0)])) (fun t k => X0.ldc2Long hx hown (mvT hZ (hw _ (List.mem_of_getElem? (i := 0) rfl))) (g := (mkF m 1 #[.val (.long j0), .second, .val (.int i2), .val (.int i3), .val (.int i4), .unset, .unset, .unset, .unset, .unset, .unset, .unset] [(.long j0)])) rfl (hb hby at_1) _ k) ?_
  refine own_by (B := T0.setTop (mkF m 5 #[.val (.long j0), .second, .val (.int i2), .val (.int i3), .val (.int i4), .unset, .unset, .unset, .unset, .unset, .unset, .unset] [(.long (j0 &&& (9223372036854775807 : Int64)))])) (fun t k => XS.land X0.here hx rfl (hb hby at_4) rfl k) ?_
  refine own_by (B := T0.setTop (mkF m 6 #[.val (.long j0), .second, .val (.int i2), .val (.int i3), .val (.int i4), .unset, .unset, .unset, .unset, .unset, .unset, .unset] [(.int i2), (.long (j0 &&& (9223372036854775807 : Int64)))])) (fun t k => XS.iloadN X0.here hx rfl (hb hby at_5) rfl k) ?_
  refine own_by (B := T0.setTop (mkF m 8 #[.val (.long j0), .second, .val (.int i2), .val (.int i3), .val (.int i4), .unset, .unset, .unset, .unset, .unset, .unset, .unset] [(.int (63 : Int32)), (.int i2), (.long (j0 &&& (9223372036854775807 : Int64)))])) (fun t k => XS.bipush X0.here hx rfl (hb hby at_6) k) ?_
  refine own_by (B := T0.setTop (mkF m 9 #[.val (.long j0), .second, .val (.int i2), .val (.int i3), .val (.int i4), .unset, .unset, .unset, .unset, .unset, .unset, .unset] [(.int (i2 &&& (63 : Int32))), (.long (j0 &&& (9223372036854775807 : Int64)))])) (fun t k => XS.iand X0.here hx rfl (hb hby at_8) rfl k) ?_
  refine own_by (B := T0.setTop (mkF m 10 #[.val (.long j0), .second, .val (.int i2), .val (.int i3), .val (.int i4), .unset, .unset, .unset, .unset, .unset, .unset, .unset] [(.long (((j0 &&& (9223372036854775807 : Int64)).toUInt64 >>> ((i2 &&& (63 : Int32)) &&& 0x3f).toInt64.toUInt64).toInt64))])) (fun t k => XS.lushr X0.here hx rfl (hb hby at_9) rfl k) ?_
  refine own_by (B := T0.setTop (mkF m 12 #[.val (.long j0), .second, .val (.int i2), .val (.int i3), .val (.int i4), .val (.long (((j0 &&& (9223372036854775807 : Int64)).toUInt64 >>> ((i2 &&& (63 : Int32)) &&& 0x3f).toInt64.toUInt64).toInt64)), .second, .unset, .unset, .unset, .unset, .unset] [])) (fun t k => XS.lstore X0.here hx rfl (hb hby at_10) rfl (l' := #[.val (.long j0), .second, .val (.int i2), .val (.int i3), .val (.int i4), .val (.long (((j0 &&& (9223372036854775807 : Int64)).toUInt64 >>> ((i2 &&& (63 : Int32)) &&& 0x3f).toInt64.toUInt64).toInt64)), .second, .unset, .unset, .unset, .unset, .unset]) rfl k) ?_
  obtain ⟨nn, hnn⟩ : ∃ z : Int64, z = (((j0 &&& (9223372036854775807 : Int64)).toUInt64 >>> ((i2 &&& (63 : Int32)) &&& 0x3f).toInt64.toUInt64).toInt64) := ⟨_, rfl⟩
  rw [← hnn]
  have hnn0 := own_nn j0 i2 nn hnn
  refine own_by (B := T0.setTop (mkF m 13 #[.val (.long j0), .second, .val (.int i2), .val (.int i3), .val (.int i4), .val (.long nn), .second, .unset, .unset, .unset, .unset, .unset] [(.int i3)])) (fun t k => XS.iloadN X0.here hx rfl (hb hby at_12) rfl k) ?_
  refine own_by (B := T0.setTop (mkF m 14 #[.val (.long j0), .second, .val (.int i2), .val (.int i3), .val (.int i4), .val (.long nn), .second, .unset, .unset, .unset, .unset, .unset] [(.int (3 : Int32)), (.int i3)])) (fun t k => XS.iconst X0.here hx rfl (hb hby at_13) k) ?_
  refine own_by (B := T0.setTop (mkF m 15 #[.val (.long j0), .second, .val (.int i2), .val (.int i3), .val (.int i4), .val (.long nn), .second, .unset, .unset, .unset, .unset, .unset] [(.int (i3 &&& (3 : Int32)))])) (fun t k => XS.iand X0.here hx rfl (hb hby at_14) rfl k) ?_
  refine own_by (B := T0.setTop (mkF m 17 #[.val (.long j0), .second, .val (.int i2), .val (.int i3), .val (.int i4), .val (.long nn), .second, .val (.int (i3 &&& (3 : Int32))), .unset, .unset, .unset, .unset] [])) (fun t k => XS.istore X0.here hx rfl (hb hby at_15) rfl (l' := #[.val (.long j0), .second, .val (.int i2), .val (.int i3), .val (.int i4), .val (.long nn), .second, .val (.int (i3 &&& (3 : Int32))), .unset, .unset, .unset, .unset]) rfl k) ?_
  obtain ⟨ax, hax⟩ : ∃ z : Int32, z = (i3 &&& (3 : Int32)) := ⟨_, rfl⟩
  rw [← hax]
  have hax1 := own_ax i3 ax hax
  refine own_by (B := T0.setTop (mkF m 19 #[.val (.long j0), .second, .val (.int i2), .val (.int i3), .val (.int i4), .val (.long nn), .second, .val (.int ax), .unset, .unset, .unset, .unset] [(.int i4)])) (fun t k => XS.iload X0.here hx rfl (hb hby at_17) rfl k) ?_
  refine own_by (B := T0.setTop (mkF m 20 #[.val (.long j0), .second, .val (.int i2), .val (.int i3), .val (.int i4), .val (.long nn), .second, .val (.int ax), .unset, .unset, .unset, .unset] [(.int (i4.toInt8.toInt32))])) (fun t k => XS.i2b X0.here hx rfl (hb hby at_19) rfl k) ?_
  refine own_by (B := T0.setTop (mkF m 22 #[.val (.long j0), .second, .val (.int i2), .val (.int i3), .val (.int i4), .val (.long nn), .second, .val (.int ax), .val (.int (i4.toInt8.toInt32)), .unset, .unset, .unset] [])) (fun t k => XS.istore X0.here hx rfl (hb hby at_20) rfl (l' := #[.val (.long j0), .second, .val (.int i2), .val (.int i3), .val (.int i4), .val (.long nn), .second, .val (.int ax), .val (.int (i4.toInt8.toInt32)), .unset, .unset, .unset]) rfl k) ?_
  obtain ⟨fl, hfl⟩ : ∃ z : Int32, z = (i4.toInt8.toInt32) := ⟨_, rfl⟩
  rw [← hfl]
  have hfl1 : nar .byte fl = fl := by rw [hfl]; exact own_nb i4
  refine own_by (B := T0.setTop (mkF m 24 #[.val (.long j0), .second, .val (.int i2), .val (.int i3), .val (.int i4), .val (.long nn), .second, .val (.int ax), .val (.int fl), .unset, .unset, .unset] [(.int (16 : Int32))])) (fun t k => XS.bipush X0.here hx rfl (hb hby at_22) k) ?_
  obtain ⟨T1, h1, k1, X1, e1, E1, A1, st1⟩ := newP X0 hx hZ (hw _ (List.mem_of_getElem? (i := 1) rfl)) e0 (g := (mkF m 24 #[.val (.long j0), .second, .val (.int i2), .val (.int i3), .val (.int i4), .val (.long nn), .second, .val (.int ax), .val (.int fl), .unset, .unset, .unset] [(.int (16 : Int32))])) rfl (hb hby at_24) rfl (by decide) (cap := 16) (by decide) (by decide) (by decide) (by decide)
  obtain ⟨b1, g1⟩ : ∃ z, z = h0.size := ⟨_, rfl⟩
  rw [← g1] at A1 st1
  have g_b1 : n0 ≤ b1 := Nat.le_trans Zs (Nat.le_of_eq g1.symm)
  replace Zs : n0 ≤ h1.size := Nat.le_trans Zs E1.1
  have V_b1 : own_BA Z h1 b1 .byte 16 (fun _ => 0) := own_BA.new A1 (by decide) rfl
  refine own_by (B := T1.setTop (mkF m 26 #[.val (.long j0), .second, .val (.int i2), .val (.int i3), .val (.int i4), .val (.long nn), .second, .val (.int ax), .val (.int fl), .unset, .unset, .unset] [(.ref b1)])) (fun t k => st1 _ k) ?_
  refine own_by (B := T1.setTop (mkF m 27 #[.val (.long j0), .second, .val (.int i2), .val (.int i3), .val (.int i4), .val (.long nn), .second, .val (.int ax), .val (.int fl), .unset, .unset, .unset] [(.ref b1), (.ref b1)])) (fun t k => XS.dup X1.here hx rfl (hb hby at_26) rfl rfl k) ?_
  refine own_by (B := T1.setTop (mkF m 28 #[.val (.long j0), .second, .val (.int i2), .val (.int i3), .val (.int i4), .val (.long nn), .second, .val (.int ax), .val (.int fl), .unset, .unset, .unset] [(.int (0 : Int32)), (.ref b1), (.ref b1)])) (fun t k => XS.iconst X1.here hx rfl (hb hby at_27) k) ?_
  refine own_by (B := T1.setTop (mkF m 30 #[.val (.long j0), .second, .val (.int i2), .val (.int i3), .val (.int i4), .val (.long nn), .second, .val (.int ax), .val (.int fl), .unset, .unset, .unset] [(.int fl), (.int (0 : Int32)), (.ref b1), (.ref b1)])) (fun t k => XS.iload X1.here hx rfl (hb hby at_28) rfl k) ?_
  obtain ⟨cl2, Ar2, S2, H2⟩ := V_b1
  have hin2 : ¬ ((0 : Int32) < 0 ∨ cl2.slots.size ≤ ((0 : Int32)).toNatClampNeg) := own_in S2 (by decide)
  obtain ⟨T2, h2, X2, e2, W2, st2⟩ := stB X1 hx hZ e1 Ar2 (j := (0 : Int32)) hin2 (g := (mkF m 30 #[.val (.long j0), .second, .val (.int i2), .val (.int i3), .val (.int i4), .val (.long nn), .second, .val (.int ax), .val (.int fl), .unset, .unset, .unset] [(.int fl), (.int (0 : Int32)), (.ref b1), (.ref b1)])) rfl rfl (hb hby at_30)
  replace V_b1 : own_BA Z h1 b1 .byte 16 (fun _ => 0) := ⟨cl2, Ar2, S2, H2⟩
  replace V_b1 : own_BA Z h2 b1 .byte 16 (own_up (fun _ => 0) ((0 : Int32)).toNatClampNeg (nar .byte fl)) := V_b1.same W2
  replace Zs : n0 ≤ h2.size := by rw [W2.size]; exact Zs
  have NF := Fr.snoc X2 NF g_b1
  refine own_by (B := T2.setTop (mkF m 31 #[.val (.long j0), .second, .val (.int i2), .val (.int i3), .val (.int i4), .val (.long nn), .second, .val (.int ax), .val (.int fl), .unset, .unset, .unset] [(.ref b1)])) (fun t k => st2 _ k) ?_
  refine own_by (B := T2.setTop (mkF m 32 #[.val (.long j0), .second, .val (.int i2), .val (.int i3), .val (.int i4), .val (.long nn), .second, .val (.int ax), .val (.int fl), .unset, .unset, .unset] [(.ref b1), (.ref b1)])) (fun t k => XS.dup X2.here hx rfl (hb hby at_31) rfl rfl k) ?_
  refine own_by (B := T2.setTop (mkF m 33 #[.val (.long j0), .second, .val (.int i2), .val (.int i3), .val (.int i4), .val (.long nn), .second, .val (.int ax), .val (.int fl), .unset, .unset, .unset] [(.int (1 : Int32)), (.ref b1), (.ref b1)])) (fun t k => XS.iconst X2.here hx rfl (hb hby at_32) k) ?_
  refine own_by (B := T2.setTop (mkF m 35 #[.val (.long j0), .second, .val (.int i2), .val (.int i3), .val (.int i4), .val (.long nn), .second, .val (.int ax), .val (.int fl), .unset, .unset, .unset] [(.int fl), (.int (1 : Int32)), (.ref b1), (.ref b1)])) (fun t k => XS.iload X2.here hx rfl (hb hby at_33) rfl k) ?_
  obtain ⟨cl3, Ar3, S3, H3⟩ := V_b1
  have hin3 : ¬ ((1 : Int32) < 0 ∨ cl3.slots.size ≤ ((1 : Int32)).toNatClampNeg) := own_in S3 (by decide)
  obtain ⟨T3, h3, X3, e3, W3, st3⟩ := stB X2 hx hZ e2 Ar3 (j := (1 : Int32)) hin3 (g := (mkF m 35 #[.val (.long j0), .second, .val (.int i2), .val (.int i3), .val (.int i4), .val (.long nn), .second, .val (.int ax), .val (.int fl), .unset, .unset, .unset] [(.int fl), (.int (1 : Int32)), (.ref b1), (.ref b1)])) rfl rfl (hb hby at_35)
  replace V_b1 : own_BA Z h2 b1 .byte 16 (own_up (fun _ => 0) ((0 : Int32)).toNatClampNeg (nar .byte fl)) := ⟨cl3, Ar3, S3, H3⟩
  replace V_b1 : own_BA Z h3 b1 .byte 16 (own_up (own_up (fun _ => 0) ((0 : Int32)).toNatClampNeg (nar .byte fl)) ((1 : Int32)).toNatClampNeg (nar .byte fl)) := V_b1.same W3
  replace Zs : n0 ≤ h3.size := by rw [W3.size]; exact Zs
  have NF := Fr.snoc X3 NF g_b1
  refine own_by (B := T3.setTop (mkF m 36 #[.val (.long j0), .second, .val (.int i2), .val (.int i3), .val (.int i4), .val (.long nn), .second, .val (.int ax), .val (.int fl), .unset, .unset, .unset] [(.ref b1)])) (fun t k => st3 _ k) ?_
  refine own_by (B := T3.setTop (mkF m 37 #[.val (.long j0), .second, .val (.int i2), .val (.int i3), .val (.int i4), .val (.long nn), .second, .val (.int ax), .val (.int fl), .unset, .unset, .unset] [(.ref b1), (.ref b1)])) (fun t k => XS.dup X3.here hx rfl (hb hby at_36) rfl rfl k) ?_
  refine own_by (B := T3.setTop (mkF m 38 #[.val (.long j0), .second, .val (.int i2), .val (.int i3), .val (.int i4), .val (.long nn), .second, .val (.int ax), .val (.int fl), .unset, .unset, .unset] [(.int (2 : Int32)), (.ref b1), (.ref b1)])) (fun t k => XS.iconst X3.here hx rfl (hb hby at_37) k) ?_
  refine own_by (B := T3.setTop (mkF m 40 #[.val (.long j0), .second, .val (.int i2), .val (.int i3), .val (.int i4), .val (.long nn), .second, .val (.int ax), .val (.int fl), .unset, .unset, .unset] [(.int fl), (.int (2 : Int32)), (.ref b1), (.ref b1)])) (fun t k => XS.iload X3.here hx rfl (hb hby at_38) rfl k) ?_
  obtain ⟨cl4, Ar4, S4, H4⟩ := V_b1
  have hin4 : ¬ ((2 : Int32) < 0 ∨ cl4.slots.size ≤ ((2 : Int32)).toNatClampNeg) := own_in S4 (by decide)
  obtain ⟨T4, h4, X4, e4, W4, st4⟩ := stB X3 hx hZ e3 Ar4 (j := (2 : Int32)) hin4 (g := (mkF m 40 #[.val (.long j0), .second, .val (.int i2), .val (.int i3), .val (.int i4), .val (.long nn), .second, .val (.int ax), .val (.int fl), .unset, .unset, .unset] [(.int fl), (.int (2 : Int32)), (.ref b1), (.ref b1)])) rfl rfl (hb hby at_40)
  replace V_b1 : own_BA Z h3 b1 .byte 16 (own_up (own_up (fun _ => 0) ((0 : Int32)).toNatClampNeg (nar .byte fl)) ((1 : Int32)).toNatClampNeg (nar .byte fl)) := ⟨cl4, Ar4, S4, H4⟩
  replace V_b1 : own_BA Z h4 b1 .byte 16 (own_up (own_up (own_up (fun _ => 0) ((0 : Int32)).toNatClampNeg (nar .byte fl)) ((1 : Int32)).toNatClampNeg (nar .byte fl)) ((2 : Int32)).toNatClampNeg (nar .byte fl)) := V_b1.same W4
  replace Zs : n0 ≤ h4.size := by rw [W4.size]; exact Zs
  have NF := Fr.snoc X4 NF g_b1
  refine own_by (B := T4.setTop (mkF m 41 #[.val (.long j0), .second, .val (.int i2), .val (.int i3), .val (.int i4), .val (.long nn), .second, .val (.int ax), .val (.int fl), .unset, .unset, .unset] [(.ref b1)])) (fun t k => st4 _ k) ?_
  refine own_by (B := T4.setTop (mkF m 42 #[.val (.long j0), .second, .val (.int i2), .val (.int i3), .val (.int i4), .val (.long nn), .second, .val (.int ax), .val (.int fl), .unset, .unset, .unset] [(.ref b1), (.ref b1)])) (fun t k => XS.dup X4.here hx rfl (hb hby at_41) rfl rfl k) ?_
  refine own_by (B := T4.setTop (mkF m 43 #[.val (.long j0), .second, .val (.int i2), .val (.int i3), .val (.int i4), .val (.long nn), .second, .val (.int ax), .val (.int fl), .unset, .unset, .unset] [(.int (3 : Int32)), (.ref b1), (.ref b1)])) (fun t k => XS.iconst X4.here hx rfl (hb hby at_42) k) ?_
  refine own_by (B := T4.setTop (mkF m 45 #[.val (.long j0), .second, .val (.int i2), .val (.int i3), .val (.int i4), .val (.long nn), .second, .val (.int ax), .val (.int fl), .unset, .unset, .unset] [(.int fl), (.int (3 : Int32)), (.ref b1), (.ref b1)])) (fun t k => XS.iload X4.here hx rfl (hb hby at_43) rfl k) ?_
  obtain ⟨cl5, Ar5, S5, H5⟩ := V_b1
  have hin5 : ¬ ((3 : Int32) < 0 ∨ cl5.slots.size ≤ ((3 : Int32)).toNatClampNeg) := own_in S5 (by decide)
  obtain ⟨T5, h5, X5, e5, W5, st5⟩ := stB X4 hx hZ e4 Ar5 (j := (3 : Int32)) hin5 (g := (mkF m 45 #[.val (.long j0), .second, .val (.int i2), .val (.int i3), .val (.int i4), .val (.long nn), .second, .val (.int ax), .val (.int fl), .unset, .unset, .unset] [(.int fl), (.int (3 : Int32)), (.ref b1), (.ref b1)])) rfl rfl (hb hby at_45)
  replace V_b1 : own_BA Z h4 b1 .byte 16 (own_up (own_up (own_up (fun _ => 0) ((0 : Int32)).toNatClampNeg (nar .byte fl)) ((1 : Int32)).toNatClampNeg (nar .byte fl)) ((2 : Int32)).toNatClampNeg (nar .byte fl)) := ⟨cl5, Ar5, S5, H5⟩
  replace V_b1 : own_BA Z h5 b1 .byte 16 (own_up (own_up (own_up (own_up (fun _ => 0) ((0 : Int32)).toNatClampNeg (nar .byte fl)) ((1 : Int32)).toNatClampNeg (nar .byte fl)) ((2 : Int32)).toNatClampNeg (nar .byte fl)) ((3 : Int32)).toNatClampNeg (nar .byte fl)) := V_b1.same W5
  replace Zs : n0 ≤ h5.size := by rw [W5.size]; exact Zs
  have NF := Fr.snoc X5 NF g_b1
  refine own_by (B := T5.setTop (mkF m 46 #[.val (.long j0), .second, .val (.int i2), .val (.int i3), .val (.int i4), .val (.long nn), .second, .val (.int ax), .val (.int fl), .unset, .unset, .unset] [(.ref b1)])) (fun t k => st5 _ k) ?_
  refine own_by (B := T5.setTop (mkF m 47 #[.val (.long j0), .second, .val (.int i2), .val (.int i3), .val (.int i4), .val (.long nn), .second, .val (.int ax), .val (.int fl), .unset, .unset, .unset] [(.ref b1), (.ref b1)])) (fun t k => XS.dup X5.here hx rfl (hb hby at_46) rfl rfl k) ?_
  refine own_by (B := T5.setTop (mkF m 48 #[.val (.long j0), .second, .val (.int i2), .val (.int i3), .val (.int i4), .val (.long nn), .second, .val (.int ax), .val (.int fl), .unset, .unset, .unset] [(.int (4 : Int32)), (.ref b1), (.ref b1)])) (fun t k => XS.iconst X5.here hx rfl (hb hby at_47) k) ?_
  refine own_by (B := T5.setTop (mkF m 50 #[.val (.long j0), .second, .val (.int i2), .val (.int i3), .val (.int i4), .val (.long nn), .second, .val (.int ax), .val (.int fl), .unset, .unset, .unset] [(.int fl), (.int (4 : Int32)), (.ref b1), (.ref b1)])) (fun t k => XS.iload X5.here hx rfl (hb hby at_48) rfl k) ?_
  obtain ⟨cl6, Ar6, S6, H6⟩ := V_b1
  have hin6 : ¬ ((4 : Int32) < 0 ∨ cl6.slots.size ≤ ((4 : Int32)).toNatClampNeg) := own_in S6 (by decide)
  obtain ⟨T6, h6, X6, e6, W6, st6⟩ := stB X5 hx hZ e5 Ar6 (j := (4 : Int32)) hin6 (g := (mkF m 50 #[.val (.long j0), .second, .val (.int i2), .val (.int i3), .val (.int i4), .val (.long nn), .second, .val (.int ax), .val (.int fl), .unset, .unset, .unset] [(.int fl), (.int (4 : Int32)), (.ref b1), (.ref b1)])) rfl rfl (hb hby at_50)
  replace V_b1 : own_BA Z h5 b1 .byte 16 (own_up (own_up (own_up (own_up (fun _ => 0) ((0 : Int32)).toNatClampNeg (nar .byte fl)) ((1 : Int32)).toNatClampNeg (nar .byte fl)) ((2 : Int32)).toNatClampNeg (nar .byte fl)) ((3 : Int32)).toNatClampNeg (nar .byte fl)) := ⟨cl6, Ar6, S6, H6⟩
  replace V_b1 : own_BA Z h6 b1 .byte 16 (own_up (own_up (own_up (own_up (own_up (fun _ => 0) ((0 : Int32)).toNatClampNeg (nar .byte fl)) ((1 : Int32)).toNatClampNeg (nar .byte fl)) ((2 : Int32)).toNatClampNeg (nar .byte fl)) ((3 : Int32)).toNatClampNeg (nar .byte fl)) ((4 : Int32)).toNatClampNeg (nar .byte fl)) := V_b1.same W6
  replace Zs : n0 ≤ h6.size := by rw [W6.size]; exact Zs
  have NF := Fr.snoc X6 NF g_b1
  refine own_by (B := T6.setTop (mkF m 51 #[.val (.long j0), .second, .val (.int i2), .val (.int i3), .val (.int i4), .val (.long nn), .second, .val (.int ax), .val (.int fl), .unset, .unset, .unset] [(.ref b1)])) (fun t k => st6 _ k) ?_
  refine own_by (B := T6.setTop (mkF m 52 #[.val (.long j0), .second, .val (.int i2), .val (.int i3), .val (.int i4), .val (.long nn), .second, .val (.int ax), .val (.int fl), .unset, .unset, .unset] [(.ref b1), (.ref b1)])) (fun t k => XS.dup X6.here hx rfl (hb hby at_51) rfl rfl k) ?_
  refine own_by (B := T6.setTop (mkF m 53 #[.val (.long j0), .second, .val (.int i2), .val (.int i3), .val (.int i4), .val (.long nn), .second, .val (.int ax), .val (.int fl), .unset, .unset, .unset] [(.int (5 : Int32)), (.ref b1), (.ref b1)])) (fun t k => XS.iconst X6.here hx rfl (hb hby at_52) k) ?_
  refine own_by (B := T6.setTop (mkF m 55 #[.val (.long j0), .second, .val (.int i2), .val (.int i3), .val (.int i4), .val (.long nn), .second, .val (.int ax), .val (.int fl), .unset, .unset, .unset] [(.int fl), (.int (5 : Int32)), (.ref b1), (.ref b1)])) (fun t k => XS.iload X6.here hx rfl (hb hby at_53) rfl k) ?_
  obtain ⟨cl7, Ar7, S7, H7⟩ := V_b1
  have hin7 : ¬ ((5 : Int32) < 0 ∨ cl7.slots.size ≤ ((5 : Int32)).toNatClampNeg) := own_in S7 (by decide)
  obtain ⟨T7, h7, X7, e7, W7, st7⟩ := stB X6 hx hZ e6 Ar7 (j := (5 : Int32)) hin7 (g := (mkF m 55 #[.val (.long j0), .second, .val (.int i2), .val (.int i3), .val (.int i4), .val (.long nn), .second, .val (.int ax), .val (.int fl), .unset, .unset, .unset] [(.int fl), (.int (5 : Int32)), (.ref b1), (.ref b1)])) rfl rfl (hb hby at_55)
  replace V_b1 : own_BA Z h6 b1 .byte 16 (own_up (own_up (own_up (own_up (own_up (fun _ => 0) ((0 : Int32)).toNatClampNeg (nar .byte fl)) ((1 : Int32)).toNatClampNeg (nar .byte fl)) ((2 : Int32)).toNatClampNeg (nar .byte fl)) ((3 : Int32)).toNatClampNeg (nar .byte fl)) ((4 : Int32)).toNatClampNeg (nar .byte fl)) := ⟨cl7, Ar7, S7, H7⟩
  replace V_b1 : own_BA Z h7 b1 .byte 16 (own_up (own_up (own_up (own_up (own_up (own_up (fun _ => 0) ((0 : Int32)).toNatClampNeg (nar .byte fl)) ((1 : Int32)).toNatClampNeg (nar .byte fl)) ((2 : Int32)).toNatClampNeg (nar .byte fl)) ((3 : Int32)).toNatClampNeg (nar .byte fl)) ((4 : Int32)).toNatClampNeg (nar .byte fl)) ((5 : Int32)).toNatClampNeg (nar .byte fl)) := V_b1.same W7
  replace Zs : n0 ≤ h7.size := by rw [W7.size]; exact Zs
  have NF := Fr.snoc X7 NF g_b1
  refine own_by (B := T7.setTop (mkF m 56 #[.val (.long j0), .second, .val (.int i2), .val (.int i3), .val (.int i4), .val (.long nn), .second, .val (.int ax), .val (.int fl), .unset, .unset, .unset] [(.ref b1)])) (fun t k => st7 _ k) ?_
  refine own_by (B := T7.setTop (mkF m 57 #[.val (.long j0), .second, .val (.int i2), .val (.int i3), .val (.int i4), .val (.long nn), .second, .val (.int ax), .val (.int fl), .unset, .unset, .unset] [(.ref b1), (.ref b1)])) (fun t k => XS.dup X7.here hx rfl (hb hby at_56) rfl rfl k) ?_
  refine own_by (B := T7.setTop (mkF m 59 #[.val (.long j0), .second, .val (.int i2), .val (.int i3), .val (.int i4), .val (.long nn), .second, .val (.int ax), .val (.int fl), .unset, .unset, .unset] [(.int (6 : Int32)), (.ref b1), (.ref b1)])) (fun t k => XS.bipush X7.here hx rfl (hb hby at_57) k) ?_
  refine own_by (B := T7.setTop (mkF m 61 #[.val (.long j0), .second, .val (.int i2), .val (.int i3), .val (.int i4), .val (.long nn), .second, .val (.int ax), .val (.int fl), .unset, .unset, .unset] [(.int fl), (.int (6 : Int32)), (.ref b1), (.ref b1)])) (fun t k => XS.iload X7.here hx rfl (hb hby at_59) rfl k) ?_
  obtain ⟨cl8, Ar8, S8, H8⟩ := V_b1
  have hin8 : ¬ ((6 : Int32) < 0 ∨ cl8.slots.size ≤ ((6 : Int32)).toNatClampNeg) := own_in S8 (by decide)
  obtain ⟨T8, h8, X8, e8, W8, st8⟩ := stB X7 hx hZ e7 Ar8 (j := (6 : Int32)) hin8 (g := (mkF m 61 #[.val (.long j0), .second, .val (.int i2), .val (.int i3), .val (.int i4), .val (.long nn), .second, .val (.int ax), .val (.int fl), .unset, .unset, .unset] [(.int fl), (.int (6 : Int32)), (.ref b1), (.ref b1)])) rfl rfl (hb hby at_61)
  replace V_b1 : own_BA Z h7 b1 .byte 16 (own_up (own_up (own_up (own_up (own_up (own_up (fun _ => 0) ((0 : Int32)).toNatClampNeg (nar .byte fl)) ((1 : Int32)).toNatClampNeg (nar .byte fl)) ((2 : Int32)).toNatClampNeg (nar .byte fl)) ((3 : Int32)).toNatClampNeg (nar .byte fl)) ((4 : Int32)).toNatClampNeg (nar .byte fl)) ((5 : Int32)).toNatClampNeg (nar .byte fl)) := ⟨cl8, Ar8, S8, H8⟩
  replace V_b1 : own_BA Z h8 b1 .byte 16 (own_up (own_up (own_up (own_up (own_up (own_up (own_up (fun _ => 0) ((0 : Int32)).toNatClampNeg (nar .byte fl)) ((1 : Int32)).toNatClampNeg (nar .byte fl)) ((2 : Int32)).toNatClampNeg (nar .byte fl)) ((3 : Int32)).toNatClampNeg (nar .byte fl)) ((4 : Int32)).toNatClampNeg (nar .byte fl)) ((5 : Int32)).toNatClampNeg (nar .byte fl)) ((6 : Int32)).toNatClampNeg (nar .byte fl)) := V_b1.same W8
  replace Zs : n0 ≤ h8.size := by rw [W8.size]; exact Zs
  have NF := Fr.snoc X8 NF g_b1
  refine own_by (B := T8.setTop (mkF m 62 #[.val (.long j0), .second, .val (.int i2), .val (.int i3), .val (.int i4), .val (.long nn), .second, .val (.int ax), .val (.int fl), .unset, .unset, .unset] [(.ref b1)])) (fun t k => st8 _ k) ?_
  refine own_by (B := T8.setTop (mkF m 63 #[.val (.long j0), .second, .val (.int i2), .val (.int i3), .val (.int i4), .val (.long nn), .second, .val (.int ax), .val (.int fl), .unset, .unset, .unset] [(.ref b1), (.ref b1)])) (fun t k => XS.dup X8.here hx rfl (hb hby at_62) rfl rfl k) ?_
  refine own_by (B := T8.setTop (mkF m 65 #[.val (.long j0), .second, .val (.int i2), .val (.int i3), .val (.int i4), .val (.long nn), .second, .val (.int ax), .val (.int fl), .unset, .unset, .unset] [(.int (7 : Int32)), (.ref b1), (.ref b1)])) (fun t k => XS.bipush X8.here hx rfl (hb hby at_63) k) ?_
  refine own_by (B := T8.setTop (mkF m 67 #[.val (.long j0), .second, .val (.int i2), .val (.int i3), .val (.int i4), .val (.long nn), .second, .val (.int ax), .val (.int fl), .unset, .unset, .unset] [(.int fl), (.int (7 : Int32)), (.ref b1), (.ref b1)])) (fun t k => XS.iload X8.here hx rfl (hb hby at_65) rfl k) ?_
  obtain ⟨cl9, Ar9, S9, H9⟩ := V_b1
  have hin9 : ¬ ((7 : Int32) < 0 ∨ cl9.slots.size ≤ ((7 : Int32)).toNatClampNeg) := own_in S9 (by decide)
  obtain ⟨T9, h9, X9, e9, W9, st9⟩ := stB X8 hx hZ e8 Ar9 (j := (7 : Int32)) hin9 (g := (mkF m 67 #[.val (.long j0), .second, .val (.int i2), .val (.int i3), .val (.int i4), .val (.long nn), .second, .val (.int ax), .val (.int fl), .unset, .unset, .unset] [(.int fl), (.int (7 : Int32)), (.ref b1), (.ref b1)])) rfl rfl (hb hby at_67)
  replace V_b1 : own_BA Z h8 b1 .byte 16 (own_up (own_up (own_up (own_up (own_up (own_up (own_up (fun _ => 0) ((0 : Int32)).toNatClampNeg (nar .byte fl)) ((1 : Int32)).toNatClampNeg (nar .byte fl)) ((2 : Int32)).toNatClampNeg (nar .byte fl)) ((3 : Int32)).toNatClampNeg (nar .byte fl)) ((4 : Int32)).toNatClampNeg (nar .byte fl)) ((5 : Int32)).toNatClampNeg (nar .byte fl)) ((6 : Int32)).toNatClampNeg (nar .byte fl)) := ⟨cl9, Ar9, S9, H9⟩
  replace V_b1 : own_BA Z h9 b1 .byte 16 (own_up (own_up (own_up (own_up (own_up (own_up (own_up (own_up (fun _ => 0) ((0 : Int32)).toNatClampNeg (nar .byte fl)) ((1 : Int32)).toNatClampNeg (nar .byte fl)) ((2 : Int32)).toNatClampNeg (nar .byte fl)) ((3 : Int32)).toNatClampNeg (nar .byte fl)) ((4 : Int32)).toNatClampNeg (nar .byte fl)) ((5 : Int32)).toNatClampNeg (nar .byte fl)) ((6 : Int32)).toNatClampNeg (nar .byte fl)) ((7 : Int32)).toNatClampNeg (nar .byte fl)) := V_b1.same W9
  replace Zs : n0 ≤ h9.size := by rw [W9.size]; exact Zs
  have NF := Fr.snoc X9 NF g_b1
  refine own_by (B := T9.setTop (mkF m 68 #[.val (.long j0), .second, .val (.int i2), .val (.int i3), .val (.int i4), .val (.long nn), .second, .val (.int ax), .val (.int fl), .unset, .unset, .unset] [(.ref b1)])) (fun t k => st9 _ k) ?_
  refine own_by (B := T9.setTop (mkF m 69 #[.val (.long j0), .second, .val (.int i2), .val (.int i3), .val (.int i4), .val (.long nn), .second, .val (.int ax), .val (.int fl), .unset, .unset, .unset] [(.ref b1), (.ref b1)])) (fun t k => XS.dup X9.here hx rfl (hb hby at_68) rfl rfl k) ?_
  refine own_by (B := T9.setTop (mkF m 71 #[.val (.long j0), .second, .val (.int i2), .val (.int i3), .val (.int i4), .val (.long nn), .second, .val (.int ax), .val (.int fl), .unset, .unset, .unset] [(.int (8 : Int32)), (.ref b1), (.ref b1)])) (fun t k => XS.bipush X9.here hx rfl (hb hby at_69) k) ?_
  refine own_by (B := T9.setTop (mkF m 73 #[.val (.long j0), .second, .val (.int i2), .val (.int i3), .val (.int i4), .val (.long nn), .second, .val (.int ax), .val (.int fl), .unset, .unset, .unset] [(.int fl), (.int (8 : Int32)), (.ref b1), (.ref b1)])) (fun t k => XS.iload X9.here hx rfl (hb hby at_71) rfl k) ?_
  obtain ⟨cl10, Ar10, S10, H10⟩ := V_b1
  have hin10 : ¬ ((8 : Int32) < 0 ∨ cl10.slots.size ≤ ((8 : Int32)).toNatClampNeg) := own_in S10 (by decide)
  obtain ⟨T10, h10, X10, e10, W10, st10⟩ := stB X9 hx hZ e9 Ar10 (j := (8 : Int32)) hin10 (g := (mkF m 73 #[.val (.long j0), .second, .val (.int i2), .val (.int i3), .val (.int i4), .val (.long nn), .second, .val (.int ax), .val (.int fl), .unset, .unset, .unset] [(.int fl), (.int (8 : Int32)), (.ref b1), (.ref b1)])) rfl rfl (hb hby at_73)
  replace V_b1 : own_BA Z h9 b1 .byte 16 (own_up (own_up (own_up (own_up (own_up (own_up (own_up (own_up (fun _ => 0) ((0 : Int32)).toNatClampNeg (nar .byte fl)) ((1 : Int32)).toNatClampNeg (nar .byte fl)) ((2 : Int32)).toNatClampNeg (nar .byte fl)) ((3 : Int32)).toNatClampNeg (nar .byte fl)) ((4 : Int32)).toNatClampNeg (nar .byte fl)) ((5 : Int32)).toNatClampNeg (nar .byte fl)) ((6 : Int32)).toNatClampNeg (nar .byte fl)) ((7 : Int32)).toNatClampNeg (nar .byte fl)) := ⟨cl10, Ar10, S10, H10⟩
  replace V_b1 : own_BA Z h10 b1 .byte 16 (own_up (own_up (own_up (own_up (own_up (own_up (own_up (own_up (own_up (fun _ => 0) ((0 : Int32)).toNatClampNeg (nar .byte fl)) ((1 : Int32)).toNatClampNeg (nar .byte fl)) ((2 : Int32)).toNatClampNeg (nar .byte fl)) ((3 : Int32)).toNatClampNeg (nar .byte fl)) ((4 : Int32)).toNatClampNeg (nar .byte fl)) ((5 : Int32)).toNatClampNeg (nar .byte fl)) ((6 : Int32)).toNatClampNeg (nar .byte fl)) ((7 : Int32)).toNatClampNeg (nar .byte fl)) ((8 : Int32)).toNatClampNeg (nar .byte fl)) := V_b1.same W10
  replace Zs : n0 ≤ h10.size := by rw [W10.size]; exact Zs
  have NF := Fr.snoc X10 NF g_b1
  refine own_by (B := T10.setTop (mkF m 74 #[.val (.long j0), .second, .val (.int i2), .val (.int i3), .val (.int i4), .val (.long nn), .second, .val (.int ax), .val (.int fl), .unset, .unset, .unset] [(.ref b1)])) (fun t k => st10 _ k) ?_
  refine own_by (B := T10.setTop (mkF m 75 #[.val (.long j0), .second, .val (.int i2), .val (.int i3), .val (.int i4), .val (.long nn), .second, .val (.int ax), .val (.int fl), .unset, .unset, .unset] [(.ref b1), (.ref b1)])) (fun t k => XS.dup X10.here hx rfl (hb hby at_74) rfl rfl k) ?_
  refine own_by (B := T10.setTop (mkF m 77 #[.val (.long j0), .second, .val (.int i2), .val (.int i3), .val (.int i4), .val (.long nn), .second, .val (.int ax), .val (.int fl), .unset, .unset, .unset] [(.int (9 : Int32)), (.ref b1), (.ref b1)])) (fun t k => XS.bipush X10.here hx rfl (hb hby at_75) k) ?_
  refine own_by (B := T10.setTop (mkF m 79 #[.val (.long j0), .second, .val (.int i2), .val (.int i3), .val (.int i4), .val (.long nn), .second, .val (.int ax), .val (.int fl), .unset, .unset, .unset] [(.int fl), (.int (9 : Int32)), (.ref b1), (.ref b1)])) (fun t k => XS.iload X10.here hx rfl (hb hby at_77) rfl k) ?_
  obtain ⟨cl11, Ar11, S11, H11⟩ := V_b1
  have hin11 : ¬ ((9 : Int32) < 0 ∨ cl11.slots.size ≤ ((9 : Int32)).toNatClampNeg) := own_in S11 (by decide)
  obtain ⟨T11, h11, X11, e11, W11, st11⟩ := stB X10 hx hZ e10 Ar11 (j := (9 : Int32)) hin11 (g := (mkF m 79 #[.val (.long j0), .second, .val (.int i2), .val (.int i3), .val (.int i4), .val (.long nn), .second, .val (.int ax), .val (.int fl), .unset, .unset, .unset] [(.int fl), (.int (9 : Int32)), (.ref b1), (.ref b1)])) rfl rfl (hb hby at_79)
  replace V_b1 : own_BA Z h10 b1 .byte 16 (own_up (own_up (own_up (own_up (own_up (own_up (own_up (own_up (own_up (fun _ => 0) ((0 : Int32)).toNatClampNeg (nar .byte fl)) ((1 : Int32)).toNatClampNeg (nar .byte fl)) ((2 : Int32)).toNatClampNeg (nar .byte fl)) ((3 : Int32)).toNatClampNeg (nar .byte fl)) ((4 : Int32)).toNatClampNeg (nar .byte fl)) ((5 : Int32)).toNatClampNeg (nar .byte fl)) ((6 : Int32)).toNatClampNeg (nar .byte fl)) ((7 : Int32)).toNatClampNeg (nar .byte fl)) ((8 : Int32)).toNatClampNeg (nar .byte fl)) := ⟨cl11, Ar11, S11, H11⟩
  replace V_b1 : own_BA Z h11 b1 .byte 16 (own_up (own_up (own_up (own_up (own_up (own_up (own_up (own_up (own_up (own_up (fun _ => 0) ((0 : Int32)).toNatClampNeg (nar .byte fl)) ((1 : Int32)).toNatClampNeg (nar .byte fl)) ((2 : Int32)).toNatClampNeg (nar .byte fl)) ((3 : Int32)).toNatClampNeg (nar .byte fl)) ((4 : Int32)).toNatClampNeg (nar .byte fl)) ((5 : Int32)).toNatClampNeg (nar .byte fl)) ((6 : Int32)).toNatClampNeg (nar .byte fl)) ((7 : Int32)).toNatClampNeg (nar .byte fl)) ((8 : Int32)).toNatClampNeg (nar .byte fl)) ((9 : Int32)).toNatClampNeg (nar .byte fl)) := V_b1.same W11
  replace Zs : n0 ≤ h11.size := by rw [W11.size]; exact Zs
  have NF := Fr.snoc X11 NF g_b1
  refine own_by (B := T11.setTop (mkF m 80 #[.val (.long j0), .second, .val (.int i2), .val (.int i3), .val (.int i4), .val (.long nn), .second, .val (.int ax), .val (.int fl), .unset, .unset, .unset] [(.ref b1)])) (fun t k => st11 _ k) ?_
  refine own_by (B := T11.setTop (mkF m 81 #[.val (.long j0), .second, .val (.int i2), .val (.int i3), .val (.int i4), .val (.long nn), .second, .val (.int ax), .val (.int fl), .unset, .unset, .unset] [(.ref b1), (.ref b1)])) (fun t k => XS.dup X11.here hx rfl (hb hby at_80) rfl rfl k) ?_
  refine own_by (B := T11.setTop (mkF m 83 #[.val (.long j0), .second, .val (.int i2), .val (.int i3), .val (.int i4), .val (.long nn), .second, .val (.int ax), .val (.int fl), .unset, .unset, .unset] [(.int (10 : Int32)), (.ref b1), (.ref b1)])) (fun t k => XS.bipush X11.here hx rfl (hb hby at_81) k) ?_
  refine own_by (B := T11.setTop (mkF m 85 #[.val (.long j0), .second, .val (.int i2), .val (.int i3), .val (.int i4), .val (.long nn), .second, .val (.int ax), .val (.int fl), .unset, .unset, .unset] [(.int fl), (.int (10 : Int32)), (.ref b1), (.ref b1)])) (fun t k => XS.iload X11.here hx rfl (hb hby at_83) rfl k) ?_
  obtain ⟨cl12, Ar12, S12, H12⟩ := V_b1
  have hin12 : ¬ ((10 : Int32) < 0 ∨ cl12.slots.size ≤ ((10 : Int32)).toNatClampNeg) := own_in S12 (by decide)
  obtain ⟨T12, h12, X12, e12, W12, st12⟩ := stB X11 hx hZ e11 Ar12 (j := (10 : Int32)) hin12 (g := (mkF m 85 #[.val (.long j0), .second, .val (.int i2), .val (.int i3), .val (.int i4), .val (.long nn), .second, .val (.int ax), .val (.int fl), .unset, .unset, .unset] [(.int fl), (.int (10 : Int32)), (.ref b1), (.ref b1)])) rfl rfl (hb hby at_85)
  replace V_b1 : own_BA Z h11 b1 .byte 16 (own_up (own_up (own_up (own_up (own_up (own_up (own_up (own_up (own_up (own_up (fun _ => 0) ((0 : Int32)).toNatClampNeg (nar .byte fl)) ((1 : Int32)).toNatClampNeg (nar .byte fl)) ((2 : Int32)).toNatClampNeg (nar .byte fl)) ((3 : Int32)).toNatClampNeg (nar .byte fl)) ((4 : Int32)).toNatClampNeg (nar .byte fl)) ((5 : Int32)).toNatClampNeg (nar .byte fl)) ((6 : Int32)).toNatClampNeg (nar .byte fl)) ((7 : Int32)).toNatClampNeg (nar .byte fl)) ((8 : Int32)).toNatClampNeg (nar .byte fl)) ((9 : Int32)).toNatClampNeg (nar .byte fl)) := ⟨cl12, Ar12, S12, H12⟩
  replace V_b1 : own_BA Z h12 b1 .byte 16 (own_up (own_up (own_up (own_up (own_up (own_up (own_up (own_up (own_up (own_up (own_up (fun _ => 0) ((0 : Int32)).toNatClampNeg (nar .byte fl)) ((1 : Int32)).toNatClampNeg (nar .byte fl)) ((2 : Int32)).toNatClampNeg (nar .byte fl)) ((3 : Int32)).toNatClampNeg (nar .byte fl)) ((4 : Int32)).toNatClampNeg (nar .byte fl)) ((5 : Int32)).toNatClampNeg (nar .byte fl)) ((6 : Int32)).toNatClampNeg (nar .byte fl)) ((7 : Int32)).toNatClampNeg (nar .byte fl)) ((8 : Int32)).toNatClampNeg (nar .byte fl)) ((9 : Int32)).toNatClampNeg (nar .byte fl)) ((10 : Int32)).toNatClampNeg (nar .byte fl)) := V_b1.same W12
  replace Zs : n0 ≤ h12.size := by rw [W12.size]; exact Zs
  have NF := Fr.snoc X12 NF g_b1
  refine own_by (B := T12.setTop (mkF m 86 #[.val (.long j0), .second, .val (.int i2), .val (.int i3), .val (.int i4), .val (.long nn), .second, .val (.int ax), .val (.int fl), .unset, .unset, .unset] [(.ref b1)])) (fun t k => st12 _ k) ?_
  refine own_by (B := T12.setTop (mkF m 87 #[.val (.long j0), .second, .val (.int i2), .val (.int i3), .val (.int i4), .val (.long nn), .second, .val (.int ax), .val (.int fl), .unset, .unset, .unset] [(.ref b1), (.ref b1)])) (fun t k => XS.dup X12.here hx rfl (hb hby at_86) rfl rfl k) ?_
  refine own_by (B := T12.setTop (mkF m 89 #[.val (.long j0), .second, .val (.int i2), .val (.int i3), .val (.int i4), .val (.long nn), .second, .val (.int ax), .val (.int fl), .unset, .unset, .unset] [(.int (11 : Int32)), (.ref b1), (.ref b1)])) (fun t k => XS.bipush X12.here hx rfl (hb hby at_87) k) ?_
  refine own_by (B := T12.setTop (mkF m 91 #[.val (.long j0), .second, .val (.int i2), .val (.int i3), .val (.int i4), .val (.long nn), .second, .val (.int ax), .val (.int fl), .unset, .unset, .unset] [(.int fl), (.int (11 : Int32)), (.ref b1), (.ref b1)])) (fun t k => XS.iload X12.here hx rfl (hb hby at_89) rfl k) ?_
  obtain ⟨cl13, Ar13, S13, H13⟩ := V_b1
  have hin13 : ¬ ((11 : Int32) < 0 ∨ cl13.slots.size ≤ ((11 : Int32)).toNatClampNeg) := own_in S13 (by decide)
  obtain ⟨T13, h13, X13, e13, W13, st13⟩ := stB X12 hx hZ e12 Ar13 (j := (11 : Int32)) hin13 (g := (mkF m 91 #[.val (.long j0), .second, .val (.int i2), .val (.int i3), .val (.int i4), .val (.long nn), .second, .val (.int ax), .val (.int fl), .unset, .unset, .unset] [(.int fl), (.int (11 : Int32)), (.ref b1), (.ref b1)])) rfl rfl (hb hby at_91)
  replace V_b1 : own_BA Z h12 b1 .byte 16 (own_up (own_up (own_up (own_up (own_up (own_up (own_up (own_up (own_up (own_up (own_up (fun _ => 0) ((0 : Int32)).toNatClampNeg (nar .byte fl)) ((1 : Int32)).toNatClampNeg (nar .byte fl)) ((2 : Int32)).toNatClampNeg (nar .byte fl)) ((3 : Int32)).toNatClampNeg (nar .byte fl)) ((4 : Int32)).toNatClampNeg (nar .byte fl)) ((5 : Int32)).toNatClampNeg (nar .byte fl)) ((6 : Int32)).toNatClampNeg (nar .byte fl)) ((7 : Int32)).toNatClampNeg (nar .byte fl)) ((8 : Int32)).toNatClampNeg (nar .byte fl)) ((9 : Int32)).toNatClampNeg (nar .byte fl)) ((10 : Int32)).toNatClampNeg (nar .byte fl)) := ⟨cl13, Ar13, S13, H13⟩
  replace V_b1 : own_BA Z h13 b1 .byte 16 (own_up (own_up (own_up (own_up (own_up (own_up (own_up (own_up (own_up (own_up (own_up (own_up (fun _ => 0) ((0 : Int32)).toNatClampNeg (nar .byte fl)) ((1 : Int32)).toNatClampNeg (nar .byte fl)) ((2 : Int32)).toNatClampNeg (nar .byte fl)) ((3 : Int32)).toNatClampNeg (nar .byte fl)) ((4 : Int32)).toNatClampNeg (nar .byte fl)) ((5 : Int32)).toNatClampNeg (nar .byte fl)) ((6 : Int32)).toNatClampNeg (nar .byte fl)) ((7 : Int32)).toNatClampNeg (nar .byte fl)) ((8 : Int32)).toNatClampNeg (nar .byte fl)) ((9 : Int32)).toNatClampNeg (nar .byte fl)) ((10 : Int32)).toNatClampNeg (nar .byte fl)) ((11 : Int32)).toNatClampNeg (nar .byte fl)) := V_b1.same W13
  replace Zs : n0 ≤ h13.size := by rw [W13.size]; exact Zs
  have NF := Fr.snoc X13 NF g_b1
  refine own_by (B := T13.setTop (mkF m 92 #[.val (.long j0), .second, .val (.int i2), .val (.int i3), .val (.int i4), .val (.long nn), .second, .val (.int ax), .val (.int fl), .unset, .unset, .unset] [(.ref b1)])) (fun t k => st13 _ k) ?_
  refine own_by (B := T13.setTop (mkF m 93 #[.val (.long j0), .second, .val (.int i2), .val (.int i3), .val (.int i4), .val (.long nn), .second, .val (.int ax), .val (.int fl), .unset, .unset, .unset] [(.ref b1), (.ref b1)])) (fun t k => XS.dup X13.here hx rfl (hb hby at_92) rfl rfl k) ?_
  refine own_by (B := T13.setTop (mkF m 95 #[.val (.long j0), .second, .val (.int i2), .val (.int i3), .val (.int i4), .val (.long nn), .second, .val (.int ax), .val (.int fl), .unset, .unset, .unset] [(.int (12 : Int32)), (.ref b1), (.ref b1)])) (fun t k => XS.bipush X13.here hx rfl (hb hby at_93) k) ?_
  refine own_by (B := T13.setTop (mkF m 97 #[.val (.long j0), .second, .val (.int i2), .val (.int i3), .val (.int i4), .val (.long nn), .second, .val (.int ax), .val (.int fl), .unset, .unset, .unset] [(.int fl), (.int (12 : Int32)), (.ref b1), (.ref b1)])) (fun t k => XS.iload X13.here hx rfl (hb hby at_95) rfl k) ?_
  obtain ⟨cl14, Ar14, S14, H14⟩ := V_b1
  have hin14 : ¬ ((12 : Int32) < 0 ∨ cl14.slots.size ≤ ((12 : Int32)).toNatClampNeg) := own_in S14 (by decide)
  obtain ⟨T14, h14, X14, e14, W14, st14⟩ := stB X13 hx hZ e13 Ar14 (j := (12 : Int32)) hin14 (g := (mkF m 97 #[.val (.long j0), .second, .val (.int i2), .val (.int i3), .val (.int i4), .val (.long nn), .second, .val (.int ax), .val (.int fl), .unset, .unset, .unset] [(.int fl), (.int (12 : Int32)), (.ref b1), (.ref b1)])) rfl rfl (hb hby at_97)
  replace V_b1 : own_BA Z h13 b1 .byte 16 (own_up (own_up (own_up (own_up (own_up (own_up (own_up (own_up (own_up (own_up (own_up (own_up (fun _ => 0) ((0 : Int32)).toNatClampNeg (nar .byte fl)) ((1 : Int32)).toNatClampNeg (nar .byte fl)) ((2 : Int32)).toNatClampNeg (nar .byte fl)) ((3 : Int32)).toNatClampNeg (nar .byte fl)) ((4 : Int32)).toNatClampNeg (nar .byte fl)) ((5 : Int32)).toNatClampNeg (nar .byte fl)) ((6 : Int32)).toNatClampNeg (nar .byte fl)) ((7 : Int32)).toNatClampNeg (nar .byte fl)) ((8 : Int32)).toNatClampNeg (nar .byte fl)) ((9 : Int32)).toNatClampNeg (nar .byte fl)) ((10 : Int32)).toNatClampNeg (nar .byte fl)) ((11 : Int32)).toNatClampNeg (nar .byte fl)) := ⟨cl14, Ar14, S14, H14⟩
  replace V_b1 : own_BA Z h14 b1 .byte 16 (own_up (own_up (own_up (own_up (own_up (own_up (own_up (own_up (own_up (own_up (own_up (own_up (own_up (fun _ => 0) ((0 : Int32)).toNatClampNeg (nar .byte fl)) ((1 : Int32)).toNatClampNeg (nar .byte fl)) ((2 : Int32)).toNatClampNeg (nar .byte fl)) ((3 : Int32)).toNatClampNeg (nar .byte fl)) ((4 : Int32)).toNatClampNeg (nar .byte fl)) ((5 : Int32)).toNatClampNeg (nar .byte fl)) ((6 : Int32)).toNatClampNeg (nar .byte fl)) ((7 : Int32)).toNatClampNeg (nar .byte fl)) ((8 : Int32)).toNatClampNeg (nar .byte fl)) ((9 : Int32)).toNatClampNeg (nar .byte fl)) ((10 : Int32)).toNatClampNeg (nar .byte fl)) ((11 : Int32)).toNatClampNeg (nar .byte fl)) ((12 : Int32)).toNatClampNeg (nar .byte fl)) := V_b1.same W14
  replace Zs : n0 ≤ h14.size := by rw [W14.size]; exact Zs
  have NF := Fr.snoc X14 NF g_b1
  refine own_by (B := T14.setTop (mkF m 98 #[.val (.long j0), .second, .val (.int i2), .val (.int i3), .val (.int i4), .val (.long nn), .second, .val (.int ax), .val (.int fl), .unset, .unset, .unset] [(.ref b1)])) (fun t k => st14 _ k) ?_
  refine own_by (B := T14.setTop (mkF m 99 #[.val (.long j0), .second, .val (.int i2), .val (.int i3), .val (.int i4), .val (.long nn), .second, .val (.int ax), .val (.int fl), .unset, .unset, .unset] [(.ref b1), (.ref b1)])) (fun t k => XS.dup X14.here hx rfl (hb hby at_98) rfl rfl k) ?_
  refine own_by (B := T14.setTop (mkF m 101 #[.val (.long j0), .second, .val (.int i2), .val (.int i3), .val (.int i4), .val (.long nn), .second, .val (.int ax), .val (.int fl), .unset, .unset, .unset] [(.int (13 : Int32)), (.ref b1), (.ref b1)])) (fun t k => XS.bipush X14.here hx rfl (hb hby at_99) k) ?_
  refine own_by (B := T14.setTop (mkF m 103 #[.val (.long j0), .second, .val (.int i2), .val (.int i3), .val (.int i4), .val (.long nn), .second, .val (.int ax), .val (.int fl), .unset, .unset, .unset] [(.int fl), (.int (13 : Int32)), (.ref b1), (.ref b1)])) (fun t k => XS.iload X14.here hx rfl (hb hby at_101) rfl k) ?_
  obtain ⟨cl15, Ar15, S15, H15⟩ := V_b1
  have hin15 : ¬ ((13 : Int32) < 0 ∨ cl15.slots.size ≤ ((13 : Int32)).toNatClampNeg) := own_in S15 (by decide)
  obtain ⟨T15, h15, X15, e15, W15, st15⟩ := stB X14 hx hZ e14 Ar15 (j := (13 : Int32)) hin15 (g := (mkF m 103 #[.val (.long j0), .second, .val (.int i2), .val (.int i3), .val (.int i4), .val (.long nn), .second, .val (.int ax), .val (.int fl), .unset, .unset, .unset] [(.int fl), (.int (13 : Int32)), (.ref b1), (.ref b1)])) rfl rfl (hb hby at_103)
  replace V_b1 : own_BA Z h14 b1 .byte 16 (own_up (own_up (own_up (own_up (own_up (own_up (own_up (own_up (own_up (own_up (own_up (own_up (own_up (fun _ => 0) ((0 : Int32)).toNatClampNeg (nar .byte fl)) ((1 : Int32)).toNatClampNeg (nar .byte fl)) ((2 : Int32)).toNatClampNeg (nar .byte fl)) ((3 : Int32)).toNatClampNeg (nar .byte fl)) ((4 : Int32)).toNatClampNeg (nar .byte fl)) ((5 : Int32)).toNatClampNeg (nar .byte fl)) ((6 : Int32)).toNatClampNeg (nar .byte fl)) ((7 : Int32)).toNatClampNeg (nar .byte fl)) ((8 : Int32)).toNatClampNeg (nar .byte fl)) ((9 : Int32)).toNatClampNeg (nar .byte fl)) ((10 : Int32)).toNatClampNeg (nar .byte fl)) ((11 : Int32)).toNatClampNeg (nar .byte fl)) ((12 : Int32)).toNatClampNeg (nar .byte fl)) := ⟨cl15, Ar15, S15, H15⟩
  replace V_b1 : own_BA Z h15 b1 .byte 16 (own_up (own_up (own_up (own_up (own_up (own_up (own_up (own_up (own_up (own_up (own_up (own_up (own_up (own_up (fun _ => 0) ((0 : Int32)).toNatClampNeg (nar .byte fl)) ((1 : Int32)).toNatClampNeg (nar .byte fl)) ((2 : Int32)).toNatClampNeg (nar .byte fl)) ((3 : Int32)).toNatClampNeg (nar .byte fl)) ((4 : Int32)).toNatClampNeg (nar .byte fl)) ((5 : Int32)).toNatClampNeg (nar .byte fl)) ((6 : Int32)).toNatClampNeg (nar .byte fl)) ((7 : Int32)).toNatClampNeg (nar .byte fl)) ((8 : Int32)).toNatClampNeg (nar .byte fl)) ((9 : Int32)).toNatClampNeg (nar .byte fl)) ((10 : Int32)).toNatClampNeg (nar .byte fl)) ((11 : Int32)).toNatClampNeg (nar .byte fl)) ((12 : Int32)).toNatClampNeg (nar .byte fl)) ((13 : Int32)).toNatClampNeg (nar .byte fl)) := V_b1.same W15
  replace Zs : n0 ≤ h15.size := by rw [W15.size]; exact Zs
  have NF := Fr.snoc X15 NF g_b1
  refine own_by (B := T15.setTop (mkF m 104 #[.val (.long j0), .second, .val (.int i2), .val (.int i3), .val (.int i4), .val (.long nn), .second, .val (.int ax), .val (.int fl), .unset, .unset, .unset] [(.ref b1)])) (fun t k => st15 _ k) ?_
  refine own_by (B := T15.setTop (mkF m 105 #[.val (.long j0), .second, .val (.int i2), .val (.int i3), .val (.int i4), .val (.long nn), .second, .val (.int ax), .val (.int fl), .unset, .unset, .unset] [(.ref b1), (.ref b1)])) (fun t k => XS.dup X15.here hx rfl (hb hby at_104) rfl rfl k) ?_
  refine own_by (B := T15.setTop (mkF m 107 #[.val (.long j0), .second, .val (.int i2), .val (.int i3), .val (.int i4), .val (.long nn), .second, .val (.int ax), .val (.int fl), .unset, .unset, .unset] [(.int (14 : Int32)), (.ref b1), (.ref b1)])) (fun t k => XS.bipush X15.here hx rfl (hb hby at_105) k) ?_
  refine own_by (B := T15.setTop (mkF m 109 #[.val (.long j0), .second, .val (.int i2), .val (.int i3), .val (.int i4), .val (.long nn), .second, .val (.int ax), .val (.int fl), .unset, .unset, .unset] [(.int fl), (.int (14 : Int32)), (.ref b1), (.ref b1)])) (fun t k => XS.iload X15.here hx rfl (hb hby at_107) rfl k) ?_
  obtain ⟨cl16, Ar16, S16, H16⟩ := V_b1
  have hin16 : ¬ ((14 : Int32) < 0 ∨ cl16.slots.size ≤ ((14 : Int32)).toNatClampNeg) := own_in S16 (by decide)
  obtain ⟨T16, h16, X16, e16, W16, st16⟩ := stB X15 hx hZ e15 Ar16 (j := (14 : Int32)) hin16 (g := (mkF m 109 #[.val (.long j0), .second, .val (.int i2), .val (.int i3), .val (.int i4), .val (.long nn), .second, .val (.int ax), .val (.int fl), .unset, .unset, .unset] [(.int fl), (.int (14 : Int32)), (.ref b1), (.ref b1)])) rfl rfl (hb hby at_109)
  replace V_b1 : own_BA Z h15 b1 .byte 16 (own_up (own_up (own_up (own_up (own_up (own_up (own_up (own_up (own_up (own_up (own_up (own_up (own_up (own_up (fun _ => 0) ((0 : Int32)).toNatClampNeg (nar .byte fl)) ((1 : Int32)).toNatClampNeg (nar .byte fl)) ((2 : Int32)).toNatClampNeg (nar .byte fl)) ((3 : Int32)).toNatClampNeg (nar .byte fl)) ((4 : Int32)).toNatClampNeg (nar .byte fl)) ((5 : Int32)).toNatClampNeg (nar .byte fl)) ((6 : Int32)).toNatClampNeg (nar .byte fl)) ((7 : Int32)).toNatClampNeg (nar .byte fl)) ((8 : Int32)).toNatClampNeg (nar .byte fl)) ((9 : Int32)).toNatClampNeg (nar .byte fl)) ((10 : Int32)).toNatClampNeg (nar .byte fl)) ((11 : Int32)).toNatClampNeg (nar .byte fl)) ((12 : Int32)).toNatClampNeg (nar .byte fl)) ((13 : Int32)).toNatClampNeg (nar .byte fl)) := ⟨cl16, Ar16, S16, H16⟩
  replace V_b1 : own_BA Z h16 b1 .byte 16 (own_up (own_up (own_up (own_up (own_up (own_up (own_up (own_up (own_up (own_up (own_up (own_up (own_up (own_up (own_up (fun _ => 0) ((0 : Int32)).toNatClampNeg (nar .byte fl)) ((1 : Int32)).toNatClampNeg (nar .byte fl)) ((2 : Int32)).toNatClampNeg (nar .byte fl)) ((3 : Int32)).toNatClampNeg (nar .byte fl)) ((4 : Int32)).toNatClampNeg (nar .byte fl)) ((5 : Int32)).toNatClampNeg (nar .byte fl)) ((6 : Int32)).toNatClampNeg (nar .byte fl)) ((7 : Int32)).toNatClampNeg (nar .byte fl)) ((8 : Int32)).toNatClampNeg (nar .byte fl)) ((9 : Int32)).toNatClampNeg (nar .byte fl)) ((10 : Int32)).toNatClampNeg (nar .byte fl)) ((11 : Int32)).toNatClampNeg (nar .byte fl)) ((12 : Int32)).toNatClampNeg (nar .byte fl)) ((13 : Int32)).toNatClampNeg (nar .byte fl)) ((14 : Int32)).toNatClampNeg (nar .byte fl)) := V_b1.same W16
  replace Zs : n0 ≤ h16.size := by rw [W16.size]; exact Zs
  have NF := Fr.snoc X16 NF g_b1
  refine own_by (B := T16.setTop (mkF m 110 #[.val (.long j0), .second, .val (.int i2), .val (.int i3), .val (.int i4), .val (.long nn), .second, .val (.int ax), .val (.int fl), .unset, .unset, .unset] [(.ref b1)])) (fun t k => st16 _ k) ?_
  refine own_by (B := T16.setTop (mkF m 111 #[.val (.long j0), .second, .val (.int i2), .val (.int i3), .val (.int i4), .val (.long nn), .second, .val (.int ax), .val (.int fl), .unset, .unset, .unset] [(.ref b1), (.ref b1)])) (fun t k => XS.dup X16.here hx rfl (hb hby at_110) rfl rfl k) ?_
  refine own_by (B := T16.setTop (mkF m 113 #[.val (.long j0), .second, .val (.int i2), .val (.int i3), .val (.int i4), .val (.long nn), .second, .val (.int ax), .val (.int fl), .unset, .unset, .unset] [(.int (15 : Int32)), (.ref b1), (.ref b1)])) (fun t k => XS.bipush X16.here hx rfl (hb hby at_111) k) ?_
  refine own_by (B := T16.setTop (mkF m 115 #[.val (.long j0), .second, .val (.int i2), .val (.int i3), .val (.int i4), .val (.long nn), .second, .val (.int ax), .val (.int fl), .unset, .unset, .unset] [(.int fl), (.int (15 : Int32)), (.ref b1), (.ref b1)])) (fun t k => XS.iload X16.here hx rfl (hb hby at_113) rfl k) ?_
  obtain ⟨cl17, Ar17, S17, H17⟩ := V_b1
  have hin17 : ¬ ((15 : Int32) < 0 ∨ cl17.slots.size ≤ ((15 : Int32)).toNatClampNeg) := own_in S17 (by decide)
  obtain ⟨T17, h17, X17, e17, W17, st17⟩ := stB X16 hx hZ e16 Ar17 (j := (15 : Int32)) hin17 (g := (mkF m 115 #[.val (.long j0), .second, .val (.int i2), .val (.int i3), .val (.int i4), .val (.long nn), .second, .val (.int ax), .val (.int fl), .unset, .unset, .unset] [(.int fl), (.int (15 : Int32)), (.ref b1), (.ref b1)])) rfl rfl (hb hby at_115)
  replace V_b1 : own_BA Z h16 b1 .byte 16 (own_up (own_up (own_up (own_up (own_up (own_up (own_up (own_up (own_up (own_up (own_up (own_up (own_up (own_up (own_up (fun _ => 0) ((0 : Int32)).toNatClampNeg (nar .byte fl)) ((1 : Int32)).toNatClampNeg (nar .byte fl)) ((2 : Int32)).toNatClampNeg (nar .byte fl)) ((3 : Int32)).toNatClampNeg (nar .byte fl)) ((4 : Int32)).toNatClampNeg (nar .byte fl)) ((5 : Int32)).toNatClampNeg (nar .byte fl)) ((6 : Int32)).toNatClampNeg (nar .byte fl)) ((7 : Int32)).toNatClampNeg (nar .byte fl)) ((8 : Int32)).toNatClampNeg (nar .byte fl)) ((9 : Int32)).toNatClampNeg (nar .byte fl)) ((10 : Int32)).toNatClampNeg (nar .byte fl)) ((11 : Int32)).toNatClampNeg (nar .byte fl)) ((12 : Int32)).toNatClampNeg (nar .byte fl)) ((13 : Int32)).toNatClampNeg (nar .byte fl)) ((14 : Int32)).toNatClampNeg (nar .byte fl)) := ⟨cl17, Ar17, S17, H17⟩
  replace V_b1 : own_BA Z h17 b1 .byte 16 (own_up (own_up (own_up (own_up (own_up (own_up (own_up (own_up (own_up (own_up (own_up (own_up (own_up (own_up (own_up (own_up (fun _ => 0) ((0 : Int32)).toNatClampNeg (nar .byte fl)) ((1 : Int32)).toNatClampNeg (nar .byte fl)) ((2 : Int32)).toNatClampNeg (nar .byte fl)) ((3 : Int32)).toNatClampNeg (nar .byte fl)) ((4 : Int32)).toNatClampNeg (nar .byte fl)) ((5 : Int32)).toNatClampNeg (nar .byte fl)) ((6 : Int32)).toNatClampNeg (nar .byte fl)) ((7 : Int32)).toNatClampNeg (nar .byte fl)) ((8 : Int32)).toNatClampNeg (nar .byte fl)) ((9 : Int32)).toNatClampNeg (nar .byte fl)) ((10 : Int32)).toNatClampNeg (nar .byte fl)) ((11 : Int32)).toNatClampNeg (nar .byte fl)) ((12 : Int32)).toNatClampNeg (nar .byte fl)) ((13 : Int32)).toNatClampNeg (nar .byte fl)) ((14 : Int32)).toNatClampNeg (nar .byte fl)) ((15 : Int32)).toNatClampNeg (nar .byte fl)) := V_b1.same W17
  replace Zs : n0 ≤ h17.size := by rw [W17.size]; exact Zs
  have NF := Fr.snoc X17 NF g_b1
  refine own_by (B := T17.setTop (mkF m 116 #[.val (.long j0), .second, .val (.int i2), .val (.int i3), .val (.int i4), .val (.long nn), .second, .val (.int ax), .val (.int fl), .unset, .unset, .unset] [(.ref b1)])) (fun t k => st17 _ k) ?_
  refine own_by (B := T17.setTop (mkF m 118 #[.val (.long j0), .second, .val (.int i2), .val (.int i3), .val (.int i4), .val (.long nn), .second, .val (.int ax), .val (.int fl), .val (.ref b1), .unset, .unset] [])) (fun t k => XS.astore X17.here hx rfl (hb hby at_116) rfl rfl (l' := #[.val (.long j0), .second, .val (.int i2), .val (.int i3), .val (.int i4), .val (.long nn), .second, .val (.int ax), .val (.int fl), .val (.ref b1), .unset, .unset]) rfl k) ?_
  replace V_b1 : own_BA Z h17 b1 .byte 16 (fun _ => fl) := by
    rw [hfl1] at V_b1
    exact V_b1.cong (own_all fl)
  refine own_by (B := T17.setTop (mkF m 120 #[.val (.long j0), .second, .val (.int i2), .val (.int i3), .val (.int i4), .val (.long nn), .second, .val (.int ax), .val (.int fl), .val (.ref b1), .unset, .unset] [(.long nn)])) (fun t k => XS.lload X17.here hx rfl (hb hby at_118) rfl k) ?_
  refine own_by (B := T17.setTop (mkF m 122 #[.val (.long j0), .second, .val (.int i2), .val (.int i3), .val (.int i4), .val (.long nn), .second, .val (.int ax), .val (.int fl), .val (.ref b1), .unset, .unset] [(.ref b1), (.long nn)])) (fun t k => XS.aload X17.here hx rfl (hb hby at_120) rfl rfl k) ?_
  refine own_by (B := T17.setTop (mkF m 124 #[.val (.long j0), .second, .val (.int i2), .val (.int i3), .val (.int i4), .val (.long nn), .second, .val (.int ax), .val (.int fl), .val (.ref b1), .unset, .unset] [(.int ax), (.ref b1), (.long nn)])) (fun t k => XS.iload X17.here hx rfl (hb hby at_122) rfl k) ?_
  obtain ⟨lo18, X17, NF⟩ : ∃ L, Stand p l e room_1 s m #[(.long j0), (.int i2), (.int i3), (.int i4)] below meth c T17 L 1 16 ∧ Fr n0 L := ⟨_, X17, NF⟩
  obtain ⟨v19, _, ⟨T19, L19, c19, n19⟩, -, X19, ⟨Lc19, hQ19, l19, y19, z19⟩, st19⟩ := Jvm.LawKit.callS X17 hx (y := (⟨"ro/borderou/core/rules/SeenKeys", "number", "(J[BI)I"⟩ : MethodName)) hown (mvT hZ (hw _ (List.mem_of_getElem? (i := 2) rfl))) (mvT hZ (hw _ (List.mem_of_getElem? (i := 3) rfl))) (mvT hZ (hw _ (List.mem_of_getElem? (i := 4) rfl))) (mvT hZ (hw _ (List.mem_of_getElem? (i := 5) rfl))) (by decide) (backOf (W := 0) (rm1 l Z a0 hw [] nn b1 ax (fun _ => fl) h17 n0 Zs V_b1 g_b1 hnn0 hax1) hZ (hw _ (List.mem_of_getElem? (i := 5) rfl)) (hw _ (List.mem_of_getElem? (i := 4) rfl)) (by decide) (by decide)) (g := (mkF m 124 #[.val (.long j0), .second, .val (.int i2), .val (.int i3), .val (.int i4), .val (.long nn), .second, .val (.int ax), .val (.int fl), .val (.ref b1), .unset, .unset] [(.int ax), (.ref b1), (.long nn)])) rfl (by rw [hml]; rfl) (argsL := [(.long nn), (.ref b1), (.int ax)]) (rest := []) (lenOf pd_0 rfl) rfl (by show 2 * 0 + _ ≤ _; exact Nat.le_of_eq rfl) (hb hby at_124) (fun _ _ => ⟨rfl, e17, (by decide : 1 + 0 ≤ _), (by decide : 16 + 0 ≤ _)⟩)
  dsimp only [Pt.U, Pt.locs, Pt.cells, Pt.slots] at X19 l19 y19 z19 st19 hQ19
  subst l19 y19 z19
  obtain ⟨gg, zz, rfl, Nq19, Kq19, V', hR⟩ := hQ19
  have NF := Fr.app NF Nq19
  clear V_b1
  replace Zs : n0 ≤ T19.heap.size := Nat.le_trans Zs Kq19.1
  have V_b1 : own_BA Z T19.heap b1 .byte 16 gg := V'
  have hlen := own_len nn ax gg zz fl hnn0 hax1 hR
  refine own_by (B := T19.setTop (mkF m 127 #[.val (.long j0), .second, .val (.int i2), .val (.int i3), .val (.int i4), .val (.long nn), .second, .val (.int ax), .val (.int fl), .val (.ref b1), .unset, .unset] [(.int zz)])) (fun t k => st19 _ k) ?_
  refine own_by (B := T19.setTop (mkF m 129 #[.val (.long j0), .second, .val (.int i2), .val (.int i3), .val (.int i4), .val (.long nn), .second, .val (.int ax), .val (.int fl), .val (.ref b1), .val (.int zz), .unset] [])) (fun t k => XS.istore X19.here hx rfl (hb hby at_127) rfl (l' := #[.val (.long j0), .second, .val (.int i2), .val (.int i3), .val (.int i4), .val (.long nn), .second, .val (.int ax), .val (.int fl), .val (.ref b1), .val (.int zz), .unset]) rfl k) ?_
  refine own_by (B := T19.setTop (mkF m 131 #[.val (.long j0), .second, .val (.int i2), .val (.int i3), .val (.int i4), .val (.long nn), .second, .val (.int ax), .val (.int fl), .val (.ref b1), .val (.int zz), .unset] [(.long nn)])) (fun t k => XS.lload X19.here hx rfl (hb hby at_129) rfl k) ?_
  obtain ⟨v20, _, ⟨T20, L20, c20, n20⟩, -, X20, ⟨Lc20, hQ20, l20, y20, z20⟩, st20⟩ := Jvm.LawKit.callS X19 hx (y := (⟨"ro/borderou/core/rules/SeenKeysNumberPinLaw", "len", "(J)I"⟩ : MethodName)) hown (mvT hZ (hw _ (List.mem_of_getElem? (i := 7) rfl))) (mvT hZ (hw _ (List.mem_of_getElem? (i := 8) rfl))) (mvT hZ (hw _ (List.mem_of_getElem? (i := 9) rfl))) (mvT hZ (hw _ (List.mem_of_getElem? (i := 10) rfl))) (by decide) (backOf (W := 0) (rm2 l Z a0 hw [] nn  T19.heap ) hZ (hw _ (List.mem_of_getElem? (i := 10) rfl)) (hw _ (List.mem_of_getElem? (i := 9) rfl)) (by decide) (by decide)) (g := (mkF m 131 #[.val (.long j0), .second, .val (.int i2), .val (.int i3), .val (.int i4), .val (.long nn), .second, .val (.int ax), .val (.int fl), .val (.ref b1), .val (.int zz), .unset] [(.long nn)])) rfl (by rw [hml]; rfl) (argsL := [(.long nn)]) (rest := []) (lenOf pd_1 rfl) rfl (by show 2 * 0 + _ ≤ _; exact Nat.le_of_eq rfl) (hb hby at_131) (fun _ _ => ⟨rfl, rfl, (by decide : 1 + 0 ≤ _), (by decide : 16 + 0 ≤ _)⟩)
  dsimp only [Pt.U, Pt.locs, Pt.cells, Pt.slots] at X20 l20 y20 z20 st20 hQ20
  subst l20 y20 z20
  obtain ⟨rfl, rfl, e20⟩ := hQ20
  have NF := Fr.app NF (Fr.nil n0)
  refine own_by (B := T20.setTop (mkF m 134 #[.val (.long j0), .second, .val (.int i2), .val (.int i3), .val (.int i4), .val (.long nn), .second, .val (.int ax), .val (.int fl), .val (.ref b1), .val (.int zz), .unset] [(.int (f2_0 nn))])) (fun t k => st20 _ k) ?_
  refine own_by (B := T20.setTop (mkF m 136 #[.val (.long j0), .second, .val (.int i2), .val (.int i3), .val (.int i4), .val (.long nn), .second, .val (.int ax), .val (.int fl), .val (.ref b1), .val (.int zz), .val (.int (f2_0 nn))] [])) (fun t k => XS.istore X20.here hx rfl (hb hby at_134) rfl (l' := #[.val (.long j0), .second, .val (.int i2), .val (.int i3), .val (.int i4), .val (.long nn), .second, .val (.int ax), .val (.int fl), .val (.ref b1), .val (.int zz), .val (.int (f2_0 nn))]) rfl k) ?_
  refine own_by (B := T20.setTop (mkF m 138 #[.val (.long j0), .second, .val (.int i2), .val (.int i3), .val (.int i4), .val (.long nn), .second, .val (.int ax), .val (.int fl), .val (.ref b1), .val (.int zz), .val (.int (f2_0 nn))] [(.int zz)])) (fun t k => XS.iload X20.here hx rfl (hb hby at_136) rfl k) ?_
  refine own_by (B := T20.setTop (mkF m 140 #[.val (.long j0), .second, .val (.int i2), .val (.int i3), .val (.int i4), .val (.long nn), .second, .val (.int ax), .val (.int fl), .val (.ref b1), .val (.int zz), .val (.int (f2_0 nn))] [(.int ax), (.int zz)])) (fun t k => XS.iload X20.here hx rfl (hb hby at_138) rfl k) ?_
  refine own_by (B := T20.setTop (mkF m 142 #[.val (.long j0), .second, .val (.int i2), .val (.int i3), .val (.int i4), .val (.long nn), .second, .val (.int ax), .val (.int fl), .val (.ref b1), .val (.int zz), .val (.int (f2_0 nn))] [(.int (f2_0 nn)), (.int ax), (.int zz)])) (fun t k => XS.iload X20.here hx rfl (hb hby at_140) rfl k) ?_
  refine own_by (B := T20.setTop (mkF m 143 #[.val (.long j0), .second, .val (.int i2), .val (.int i3), .val (.int i4), .val (.long nn), .second, .val (.int ax), .val (.int fl), .val (.ref b1), .val (.int zz), .val (.int (f2_0 nn))] [(.int (ax + (f2_0 nn))), (.int zz)])) (fun t k => XS.iadd X20.here hx rfl (hb hby at_142) rfl k) ?_
  have hc21 : zz = (ax + (f2_0 nn)) := hlen
  refine own_by (B := T20.setTop (mkF m 146 #[.val (.long j0), .second, .val (.int i2), .val (.int i3), .val (.int i4), .val (.long nn), .second, .val (.int ax), .val (.int fl), .val (.ref b1), .val (.int zz), .val (.int (f2_0 nn))] [])) (fun t k => XS.icmpNo X20.here hx rfl (hb hby at_143) rfl (teq hc21).2 k) ?_
  refine own_by (B := T20.setTop (mkF m 148 #[.val (.long j0), .second, .val (.int i2), .val (.int i3), .val (.int i4), .val (.long nn), .second, .val (.int ax), .val (.int fl), .val (.ref b1), .val (.int zz), .val (.int (f2_0 nn))] [(.ref b1)])) (fun t k => XS.aload X20.here hx rfl (hb hby at_146) rfl rfl k) ?_
  refine own_by (B := T20.setTop (mkF m 149 #[.val (.long j0), .second, .val (.int i2), .val (.int i3), .val (.int i4), .val (.long nn), .second, .val (.int ax), .val (.int fl), .val (.ref b1), .val (.int zz), .val (.int (f2_0 nn))] [(.int (0 : Int32)), (.ref b1)])) (fun t k => XS.iconst X20.here hx rfl (hb hby at_148) k) ?_
  refine own_by (B := T20.setTop (mkF m 151 #[.val (.long j0), .second, .val (.int i2), .val (.int i3), .val (.int i4), .val (.long nn), .second, .val (.int ax), .val (.int fl), .val (.ref b1), .val (.int zz), .val (.int (f2_0 nn))] [(.int ax), (.int (0 : Int32)), (.ref b1)])) (fun t k => XS.iload X20.here hx rfl (hb hby at_149) rfl k) ?_
  refine own_by (B := T20.setTop (mkF m 153 #[.val (.long j0), .second, .val (.int i2), .val (.int i3), .val (.int i4), .val (.long nn), .second, .val (.int ax), .val (.int fl), .val (.ref b1), .val (.int zz), .val (.int (f2_0 nn))] [(.int (f2_0 nn)), (.int ax), (.int (0 : Int32)), (.ref b1)])) (fun t k => XS.iload X20.here hx rfl (hb hby at_151) rfl k) ?_
  refine own_by (B := T20.setTop (mkF m 155 #[.val (.long j0), .second, .val (.int i2), .val (.int i3), .val (.int i4), .val (.long nn), .second, .val (.int ax), .val (.int fl), .val (.ref b1), .val (.int zz), .val (.int (f2_0 nn))] [(.long nn), (.int (f2_0 nn)), (.int ax), (.int (0 : Int32)), (.ref b1)])) (fun t k => XS.lload X20.here hx rfl (hb hby at_153) rfl k) ?_
  refine own_by (B := T20.setTop (mkF m 157 #[.val (.long j0), .second, .val (.int i2), .val (.int i3), .val (.int i4), .val (.long nn), .second, .val (.int ax), .val (.int fl), .val (.ref b1), .val (.int zz), .val (.int (f2_0 nn))] [(.int fl), (.long nn), (.int (f2_0 nn)), (.int ax), (.int (0 : Int32)), (.ref b1)])) (fun t k => XS.iload X20.here hx rfl (hb hby at_155) rfl k) ?_
  obtain ⟨v22, _, ⟨T22, L22, c22, n22⟩, -, X22, ⟨Lc22, hQ22, l22, y22, z22⟩, st22⟩ := Jvm.LawKit.callS X20 hx (y := (⟨"ro/borderou/core/rules/SeenKeysNumberPinLaw", "pos", "([BIIIJB)Z"⟩ : MethodName)) hown (mvT hZ (hw _ (List.mem_of_getElem? (i := 12) rfl))) (mvT hZ (hw _ (List.mem_of_getElem? (i := 13) rfl))) (mvT hZ (hw _ (List.mem_of_getElem? (i := 9) rfl))) (mvT hZ (hw _ (List.mem_of_getElem? (i := 14) rfl))) (by decide) (backOf (W := 0) (rm3 l Z a0 hw [] b1 (0 : Int32) ax (f2_0 nn) nn fl gg T19.heap V_b1 (by decide)) hZ (hw _ (List.mem_of_getElem? (i := 14) rfl)) (hw _ (List.mem_of_getElem? (i := 9) rfl)) (by decide) (by decide)) (g := (mkF m 157 #[.val (.long j0), .second, .val (.int i2), .val (.int i3), .val (.int i4), .val (.long nn), .second, .val (.int ax), .val (.int fl), .val (.ref b1), .val (.int zz), .val (.int (f2_0 nn))] [(.int fl), (.long nn), (.int (f2_0 nn)), (.int ax), (.int (0 : Int32)), (.ref b1)])) rfl (by rw [hml]; rfl) (argsL := [(.ref b1), (.int (0 : Int32)), (.int ax), (.int (f2_0 nn)), (.long nn), (.int fl)]) (rest := []) (lenOf pd_2 rfl) rfl (by show 2 * 0 + _ ≤ _; exact Nat.le_of_eq rfl) (hb hby at_157) (fun _ _ => ⟨rfl, e20, (by decide : 1 + 0 ≤ _), (by decide : 16 + 0 ≤ _)⟩)
  dsimp only [Pt.U, Pt.locs, Pt.cells, Pt.slots] at X22 l22 y22 z22 st22 hQ22
  subst l22 y22 z22
  obtain ⟨rfl, rfl, e22⟩ := hQ22
  have NF := Fr.app NF (Fr.nil n0)
  refine own_by (B := T22.setTop (mkF m 160 #[.val (.long j0), .second, .val (.int i2), .val (.int i3), .val (.int i4), .val (.long nn), .second, .val (.int ax), .val (.int fl), .val (.ref b1), .val (.int zz), .val (.int (f2_0 nn))] [(.int (f3_0 gg (0 : Int32) ax (f2_0 nn) nn fl))])) (fun t k => st22 _ k) ?_
  have hc23 : ¬ ((f3_0 gg (0 : Int32) ax (f2_0 nn) nn fl) = (0 : Int32)) := own_pos1 nn ax gg zz fl (0 : Int32) 0 rfl (by decide) hnn0 hax1 hfl1 hR
  refine own_by (B := T22.setTop (mkF m 163 #[.val (.long j0), .second, .val (.int i2), .val (.int i3), .val (.int i4), .val (.long nn), .second, .val (.int ax), .val (.int fl), .val (.ref b1), .val (.int zz), .val (.int (f2_0 nn))] [])) (fun t k => XS.ifNo X22.here hx rfl (hb hby at_160) rfl ((if0 _ _).trans (feq hc23).1) k) ?_
  refine own_by (B := T22.setTop (mkF m 165 #[.val (.long j0), .second, .val (.int i2), .val (.int i3), .val (.int i4), .val (.long nn), .second, .val (.int ax), .val (.int fl), .val (.ref b1), .val (.int zz), .val (.int (f2_0 nn))] [(.ref b1)])) (fun t k => XS.aload X22.here hx rfl (hb hby at_163) rfl rfl k) ?_
  refine own_by (B := T22.setTop (mkF m 166 #[.val (.long j0), .second, .val (.int i2), .val (.int i3), .val (.int i4), .val (.long nn), .second, .val (.int ax), .val (.int fl), .val (.ref b1), .val (.int zz), .val (.int (f2_0 nn))] [(.int (1 : Int32)), (.ref b1)])) (fun t k => XS.iconst X22.here hx rfl (hb hby at_165) k) ?_
  refine own_by (B := T22.setTop (mkF m 168 #[.val (.long j0), .second, .val (.int i2), .val (.int i3), .val (.int i4), .val (.long nn), .second, .val (.int ax), .val (.int fl), .val (.ref b1), .val (.int zz), .val (.int (f2_0 nn))] [(.int ax), (.int (1 : Int32)), (.ref b1)])) (fun t k => XS.iload X22.here hx rfl (hb hby at_166) rfl k) ?_
  refine own_by (B := T22.setTop (mkF m 170 #[.val (.long j0), .second, .val (.int i2), .val (.int i3), .val (.int i4), .val (.long nn), .second, .val (.int ax), .val (.int fl), .val (.ref b1), .val (.int zz), .val (.int (f2_0 nn))] [(.int (f2_0 nn)), (.int ax), (.int (1 : Int32)), (.ref b1)])) (fun t k => XS.iload X22.here hx rfl (hb hby at_168) rfl k) ?_
  refine own_by (B := T22.setTop (mkF m 172 #[.val (.long j0), .second, .val (.int i2), .val (.int i3), .val (.int i4), .val (.long nn), .second, .val (.int ax), .val (.int fl), .val (.ref b1), .val (.int zz), .val (.int (f2_0 nn))] [(.long nn), (.int (f2_0 nn)), (.int ax), (.int (1 : Int32)), (.ref b1)])) (fun t k => XS.lload X22.here hx rfl (hb hby at_170) rfl k) ?_
  refine own_by (B := T22.setTop (mkF m 174 #[.val (.long j0), .second, .val (.int i2), .val (.int i3), .val (.int i4), .val (.long nn), .second, .val (.int ax), .val (.int fl), .val (.ref b1), .val (.int zz), .val (.int (f2_0 nn))] [(.int fl), (.long nn), (.int (f2_0 nn)), (.int ax), (.int (1 : Int32)), (.ref b1)])) (fun t k => XS.iload X22.here hx rfl (hb hby at_172) rfl k) ?_
  obtain ⟨v24, _, ⟨T24, L24, c24, n24⟩, -, X24, ⟨Lc24, hQ24, l24, y24, z24⟩, st24⟩ := Jvm.LawKit.callS X22 hx (y := (⟨"ro/borderou/core/rules/SeenKeysNumberPinLaw", "pos", "([BIIIJB)Z"⟩ : MethodName)) hown (mvT hZ (hw _ (List.mem_of_getElem? (i := 12) rfl))) (mvT hZ (hw _ (List.mem_of_getElem? (i := 13) rfl))) (mvT hZ (hw _ (List.mem_of_getElem? (i := 9) rfl))) (mvT hZ (hw _ (List.mem_of_getElem? (i := 14) rfl))) (by decide) (backOf (W := 0) (rm3 l Z a0 hw [] b1 (1 : Int32) ax (f2_0 nn) nn fl gg T19.heap V_b1 (by decide)) hZ (hw _ (List.mem_of_getElem? (i := 14) rfl)) (hw _ (List.mem_of_getElem? (i := 9) rfl)) (by decide) (by decide)) (g := (mkF m 174 #[.val (.long j0), .second, .val (.int i2), .val (.int i3), .val (.int i4), .val (.long nn), .second, .val (.int ax), .val (.int fl), .val (.ref b1), .val (.int zz), .val (.int (f2_0 nn))] [(.int fl), (.long nn), (.int (f2_0 nn)), (.int ax), (.int (1 : Int32)), (.ref b1)])) rfl (by rw [hml]; rfl) (argsL := [(.ref b1), (.int (1 : Int32)), (.int ax), (.int (f2_0 nn)), (.long nn), (.int fl)]) (rest := []) (lenOf pd_2 rfl) rfl (by show 2 * 0 + _ ≤ _; exact Nat.le_of_eq rfl) (hb hby at_174) (fun _ _ => ⟨rfl, e22, (by decide : 1 + 0 ≤ _), (by decide : 16 + 0 ≤ _)⟩)
  dsimp only [Pt.U, Pt.locs, Pt.cells, Pt.slots] at X24 l24 y24 z24 st24 hQ24
  subst l24 y24 z24
  obtain ⟨rfl, rfl, e24⟩ := hQ24
  have NF := Fr.app NF (Fr.nil n0)
  refine own_by (B := T24.setTop (mkF m 177 #[.val (.long j0), .second, .val (.int i2), .val (.int i3), .val (.int i4), .val (.long nn), .second, .val (.int ax), .val (.int fl), .val (.ref b1), .val (.int zz), .val (.int (f2_0 nn))] [(.int (f3_0 gg (1 : Int32) ax (f2_0 nn) nn fl))])) (fun t k => st24 _ k) ?_
  have hc25 : ¬ ((f3_0 gg (1 : Int32) ax (f2_0 nn) nn fl) = (0 : Int32)) := own_pos1 nn ax gg zz fl (1 : Int32) 1 rfl (by decide) hnn0 hax1 hfl1 hR
  refine own_by (B := T24.setTop (mkF m 180 #[.val (.long j0), .second, .val (.int i2), .val (.int i3), .val (.int i4), .val (.long nn), .second, .val (.int ax), .val (.int fl), .val (.ref b1), .val (.int zz), .val (.int (f2_0 nn))] [])) (fun t k => XS.ifNo X24.here hx rfl (hb hby at_177) rfl ((if0 _ _).trans (feq hc25).1) k) ?_
  refine own_by (B := T24.setTop (mkF m 182 #[.val (.long j0), .second, .val (.int i2), .val (.int i3), .val (.int i4), .val (.long nn), .second, .val (.int ax), .val (.int fl), .val (.ref b1), .val (.int zz), .val (.int (f2_0 nn))] [(.ref b1)])) (fun t k => XS.aload X24.here hx rfl (hb hby at_180) rfl rfl k) ?_
  refine own_by (B := T24.setTop (mkF m 183 #[.val (.long j0), .second, .val (.int i2), .val (.int i3), .val (.int i4), .val (.long nn), .second, .val (.int ax), .val (.int fl), .val (.ref b1), .val (.int zz), .val (.int (f2_0 nn))] [(.int (2 : Int32)), (.ref b1)])) (fun t k => XS.iconst X24.here hx rfl (hb hby at_182) k) ?_
  refine own_by (B := T24.setTop (mkF m 185 #[.val (.long j0), .second, .val (.int i2), .val (.int i3), .val (.int i4), .val (.long nn), .second, .val (.int ax), .val (.int fl), .val (.ref b1), .val (.int zz), .val (.int (f2_0 nn))] [(.int ax), (.int (2 : Int32)), (.ref b1)])) (fun t k => XS.iload X24.here hx rfl (hb hby at_183) rfl k) ?_
  refine own_by (B := T24.setTop (mkF m 187 #[.val (.long j0), .second, .val (.int i2), .val (.int i3), .val (.int i4), .val (.long nn), .second, .val (.int ax), .val (.int fl), .val (.ref b1), .val (.int zz), .val (.int (f2_0 nn))] [(.int (f2_0 nn)), (.int ax), (.int (2 : Int32)), (.ref b1)])) (fun t k => XS.iload X24.here hx rfl (hb hby at_185) rfl k) ?_
  refine own_by (B := T24.setTop (mkF m 189 #[.val (.long j0), .second, .val (.int i2), .val (.int i3), .val (.int i4), .val (.long nn), .second, .val (.int ax), .val (.int fl), .val (.ref b1), .val (.int zz), .val (.int (f2_0 nn))] [(.long nn), (.int (f2_0 nn)), (.int ax), (.int (2 : Int32)), (.ref b1)])) (fun t k => XS.lload X24.here hx rfl (hb hby at_187) rfl k) ?_
  refine own_by (B := T24.setTop (mkF m 191 #[.val (.long j0), .second, .val (.int i2), .val (.int i3), .val (.int i4), .val (.long nn), .second, .val (.int ax), .val (.int fl), .val (.ref b1), .val (.int zz), .val (.int (f2_0 nn))] [(.int fl), (.long nn), (.int (f2_0 nn)), (.int ax), (.int (2 : Int32)), (.ref b1)])) (fun t k => XS.iload X24.here hx rfl (hb hby at_189) rfl k) ?_
  obtain ⟨v26, _, ⟨T26, L26, c26, n26⟩, -, X26, ⟨Lc26, hQ26, l26, y26, z26⟩, st26⟩ := Jvm.LawKit.callS X24 hx (y := (⟨"ro/borderou/core/rules/SeenKeysNumberPinLaw", "pos", "([BIIIJB)Z"⟩ : MethodName)) hown (mvT hZ (hw _ (List.mem_of_getElem? (i := 12) rfl))) (mvT hZ (hw _ (List.mem_of_getElem? (i := 13) rfl))) (mvT hZ (hw _ (List.mem_of_getElem? (i := 9) rfl))) (mvT hZ (hw _ (List.mem_of_getElem? (i := 14) rfl))) (by decide) (backOf (W := 0) (rm3 l Z a0 hw [] b1 (2 : Int32) ax (f2_0 nn) nn fl gg T19.heap V_b1 (by decide)) hZ (hw _ (List.mem_of_getElem? (i := 14) rfl)) (hw _ (List.mem_of_getElem? (i := 9) rfl)) (by decide) (by decide)) (g := (mkF m 191 #[.val (.long j0), .second, .val (.int i2), .val (.int i3), .val (.int i4), .val (.long nn), .second, .val (.int ax), .val (.int fl), .val (.ref b1), .val (.int zz), .val (.int (f2_0 nn))] [(.int fl), (.long nn), (.int (f2_0 nn)), (.int ax), (.int (2 : Int32)), (.ref b1)])) rfl (by rw [hml]; rfl) (argsL := [(.ref b1), (.int (2 : Int32)), (.int ax), (.int (f2_0 nn)), (.long nn), (.int fl)]) (rest := []) (lenOf pd_2 rfl) rfl (by show 2 * 0 + _ ≤ _; exact Nat.le_of_eq rfl) (hb hby at_191) (fun _ _ => ⟨rfl, e24, (by decide : 1 + 0 ≤ _), (by decide : 16 + 0 ≤ _)⟩)
  dsimp only [Pt.U, Pt.locs, Pt.cells, Pt.slots] at X26 l26 y26 z26 st26 hQ26
  subst l26 y26 z26
  obtain ⟨rfl, rfl, e26⟩ := hQ26
  have NF := Fr.app NF (Fr.nil n0)
  refine own_by (B := T26.setTop (mkF m 194 #[.val (.long j0), .second, .val (.int i2), .val (.int i3), .val (.int i4), .val (.long nn), .second, .val (.int ax), .val (.int fl), .val (.ref b1), .val (.int zz), .val (.int (f2_0 nn))] [(.int (f3_0 gg (2 : Int32) ax (f2_0 nn) nn fl))])) (fun t k => st26 _ k) ?_
  have hc27 : ¬ ((f3_0 gg (2 : Int32) ax (f2_0 nn) nn fl) = (0 : Int32)) := own_pos1 nn ax gg zz fl (2 : Int32) 2 rfl (by decide) hnn0 hax1 hfl1 hR
  refine own_by (B := T26.setTop (mkF m 197 #[.val (.long j0), .second, .val (.int i2), .val (.int i3), .val (.int i4), .val (.long nn), .second, .val (.int ax), .val (.int fl), .val (.ref b1), .val (.int zz), .val (.int (f2_0 nn))] [])) (fun t k => XS.ifNo X26.here hx rfl (hb hby at_194) rfl ((if0 _ _).trans (feq hc27).1) k) ?_
  refine own_by (B := T26.setTop (mkF m 199 #[.val (.long j0), .second, .val (.int i2), .val (.int i3), .val (.int i4), .val (.long nn), .second, .val (.int ax), .val (.int fl), .val (.ref b1), .val (.int zz), .val (.int (f2_0 nn))] [(.ref b1)])) (fun t k => XS.aload X26.here hx rfl (hb hby at_197) rfl rfl k) ?_
  refine own_by (B := T26.setTop (mkF m 200 #[.val (.long j0), .second, .val (.int i2), .val (.int i3), .val (.int i4), .val (.long nn), .second, .val (.int ax), .val (.int fl), .val (.ref b1), .val (.int zz), .val (.int (f2_0 nn))] [(.int (3 : Int32)), (.ref b1)])) (fun t k => XS.iconst X26.here hx rfl (hb hby at_199) k) ?_
  refine own_by (B := T26.setTop (mkF m 202 #[.val (.long j0), .second, .val (.int i2), .val (.int i3), .val (.int i4), .val (.long nn), .second, .val (.int ax), .val (.int fl), .val (.ref b1), .val (.int zz), .val (.int (f2_0 nn))] [(.int ax), (.int (3 : Int32)), (.ref b1)])) (fun t k => XS.iload X26.here hx rfl (hb hby at_200) rfl k) ?_
  refine own_by (B := T26.setTop (mkF m 204 #[.val (.long j0), .second, .val (.int i2), .val (.int i3), .val (.int i4), .val (.long nn), .second, .val (.int ax), .val (.int fl), .val (.ref b1), .val (.int zz), .val (.int (f2_0 nn))] [(.int (f2_0 nn)), (.int ax), (.int (3 : Int32)), (.ref b1)])) (fun t k => XS.iload X26.here hx rfl (hb hby at_202) rfl k) ?_
  refine own_by (B := T26.setTop (mkF m 206 #[.val (.long j0), .second, .val (.int i2), .val (.int i3), .val (.int i4), .val (.long nn), .second, .val (.int ax), .val (.int fl), .val (.ref b1), .val (.int zz), .val (.int (f2_0 nn))] [(.long nn), (.int (f2_0 nn)), (.int ax), (.int (3 : Int32)), (.ref b1)])) (fun t k => XS.lload X26.here hx rfl (hb hby at_204) rfl k) ?_
  refine own_by (B := T26.setTop (mkF m 208 #[.val (.long j0), .second, .val (.int i2), .val (.int i3), .val (.int i4), .val (.long nn), .second, .val (.int ax), .val (.int fl), .val (.ref b1), .val (.int zz), .val (.int (f2_0 nn))] [(.int fl), (.long nn), (.int (f2_0 nn)), (.int ax), (.int (3 : Int32)), (.ref b1)])) (fun t k => XS.iload X26.here hx rfl (hb hby at_206) rfl k) ?_
  obtain ⟨v28, _, ⟨T28, L28, c28, n28⟩, -, X28, ⟨Lc28, hQ28, l28, y28, z28⟩, st28⟩ := Jvm.LawKit.callS X26 hx (y := (⟨"ro/borderou/core/rules/SeenKeysNumberPinLaw", "pos", "([BIIIJB)Z"⟩ : MethodName)) hown (mvT hZ (hw _ (List.mem_of_getElem? (i := 12) rfl))) (mvT hZ (hw _ (List.mem_of_getElem? (i := 13) rfl))) (mvT hZ (hw _ (List.mem_of_getElem? (i := 9) rfl))) (mvT hZ (hw _ (List.mem_of_getElem? (i := 14) rfl))) (by decide) (backOf (W := 0) (rm3 l Z a0 hw [] b1 (3 : Int32) ax (f2_0 nn) nn fl gg T19.heap V_b1 (by decide)) hZ (hw _ (List.mem_of_getElem? (i := 14) rfl)) (hw _ (List.mem_of_getElem? (i := 9) rfl)) (by decide) (by decide)) (g := (mkF m 208 #[.val (.long j0), .second, .val (.int i2), .val (.int i3), .val (.int i4), .val (.long nn), .second, .val (.int ax), .val (.int fl), .val (.ref b1), .val (.int zz), .val (.int (f2_0 nn))] [(.int fl), (.long nn), (.int (f2_0 nn)), (.int ax), (.int (3 : Int32)), (.ref b1)])) rfl (by rw [hml]; rfl) (argsL := [(.ref b1), (.int (3 : Int32)), (.int ax), (.int (f2_0 nn)), (.long nn), (.int fl)]) (rest := []) (lenOf pd_2 rfl) rfl (by show 2 * 0 + _ ≤ _; exact Nat.le_of_eq rfl) (hb hby at_208) (fun _ _ => ⟨rfl, e26, (by decide : 1 + 0 ≤ _), (by decide : 16 + 0 ≤ _)⟩)
  dsimp only [Pt.U, Pt.locs, Pt.cells, Pt.slots] at X28 l28 y28 z28 st28 hQ28
  subst l28 y28 z28
  obtain ⟨rfl, rfl, e28⟩ := hQ28
  have NF := Fr.app NF (Fr.nil n0)
  refine own_by (B := T28.setTop (mkF m 211 #[.val (.long j0), .second, .val (.int i2), .val (.int i3), .val (.int i4), .val (.long nn), .second, .val (.int ax), .val (.int fl), .val (.ref b1), .val (.int zz), .val (.int (f2_0 nn))] [(.int (f3_0 gg (3 : Int32) ax (f2_0 nn) nn fl))])) (fun t k => st28 _ k) ?_
  have hc29 : ¬ ((f3_0 gg (3 : Int32) ax (f2_0 nn) nn fl) = (0 : Int32)) := own_pos1 nn ax gg zz fl (3 : Int32) 3 rfl (by decide) hnn0 hax1 hfl1 hR
  refine own_by (B := T28.setTop (mkF m 214 #[.val (.long j0), .second, .val (.int i2), .val (.int i3), .val (.int i4), .val (.long nn), .second, .val (.int ax), .val (.int fl), .val (.ref b1), .val (.int zz), .val (.int (f2_0 nn))] [])) (fun t k => XS.ifNo X28.here hx rfl (hb hby at_211) rfl ((if0 _ _).trans (feq hc29).1) k) ?_
  refine own_by (B := T28.setTop (mkF m 216 #[.val (.long j0), .second, .val (.int i2), .val (.int i3), .val (.int i4), .val (.long nn), .second, .val (.int ax), .val (.int fl), .val (.ref b1), .val (.int zz), .val (.int (f2_0 nn))] [(.ref b1)])) (fun t k => XS.aload X28.here hx rfl (hb hby at_214) rfl rfl k) ?_
  refine own_by (B := T28.setTop (mkF m 217 #[.val (.long j0), .second, .val (.int i2), .val (.int i3), .val (.int i4), .val (.long nn), .second, .val (.int ax), .val (.int fl), .val (.ref b1), .val (.int zz), .val (.int (f2_0 nn))] [(.int (4 : Int32)), (.ref b1)])) (fun t k => XS.iconst X28.here hx rfl (hb hby at_216) k) ?_
  refine own_by (B := T28.setTop (mkF m 219 #[.val (.long j0), .second, .val (.int i2), .val (.int i3), .val (.int i4), .val (.long nn), .second, .val (.int ax), .val (.int fl), .val (.ref b1), .val (.int zz), .val (.int (f2_0 nn))] [(.int ax), (.int (4 : Int32)), (.ref b1)])) (fun t k => XS.iload X28.here hx rfl (hb hby at_217) rfl k) ?_
  refine own_by (B := T28.setTop (mkF m 221 #[.val (.long j0), .second, .val (.int i2), .val (.int i3), .val (.int i4), .val (.long nn), .second, .val (.int ax), .val (.int fl), .val (.ref b1), .val (.int zz), .val (.int (f2_0 nn))] [(.int (f2_0 nn)), (.int ax), (.int (4 : Int32)), (.ref b1)])) (fun t k => XS.iload X28.here hx rfl (hb hby at_219) rfl k) ?_
  refine own_by (B := T28.setTop (mkF m 223 #[.val (.long j0), .second, .val (.int i2), .val (.int i3), .val (.int i4), .val (.long nn), .second, .val (.int ax), .val (.int fl), .val (.ref b1), .val (.int zz), .val (.int (f2_0 nn))] [(.long nn), (.int (f2_0 nn)), (.int ax), (.int (4 : Int32)), (.ref b1)])) (fun t k => XS.lload X28.here hx rfl (hb hby at_221) rfl k) ?_
  refine own_by (B := T28.setTop (mkF m 225 #[.val (.long j0), .second, .val (.int i2), .val (.int i3), .val (.int i4), .val (.long nn), .second, .val (.int ax), .val (.int fl), .val (.ref b1), .val (.int zz), .val (.int (f2_0 nn))] [(.int fl), (.long nn), (.int (f2_0 nn)), (.int ax), (.int (4 : Int32)), (.ref b1)])) (fun t k => XS.iload X28.here hx rfl (hb hby at_223) rfl k) ?_
  obtain ⟨v30, _, ⟨T30, L30, c30, n30⟩, -, X30, ⟨Lc30, hQ30, l30, y30, z30⟩, st30⟩ := Jvm.LawKit.callS X28 hx (y := (⟨"ro/borderou/core/rules/SeenKeysNumberPinLaw", "pos", "([BIIIJB)Z"⟩ : MethodName)) hown (mvT hZ (hw _ (List.mem_of_getElem? (i := 12) rfl))) (mvT hZ (hw _ (List.mem_of_getElem? (i := 13) rfl))) (mvT hZ (hw _ (List.mem_of_getElem? (i := 9) rfl))) (mvT hZ (hw _ (List.mem_of_getElem? (i := 14) rfl))) (by decide) (backOf (W := 0) (rm3 l Z a0 hw [] b1 (4 : Int32) ax (f2_0 nn) nn fl gg T19.heap V_b1 (by decide)) hZ (hw _ (List.mem_of_getElem? (i := 14) rfl)) (hw _ (List.mem_of_getElem? (i := 9) rfl)) (by decide) (by decide)) (g := (mkF m 225 #[.val (.long j0), .second, .val (.int i2), .val (.int i3), .val (.int i4), .val (.long nn), .second, .val (.int ax), .val (.int fl), .val (.ref b1), .val (.int zz), .val (.int (f2_0 nn))] [(.int fl), (.long nn), (.int (f2_0 nn)), (.int ax), (.int (4 : Int32)), (.ref b1)])) rfl (by rw [hml]; rfl) (argsL := [(.ref b1), (.int (4 : Int32)), (.int ax), (.int (f2_0 nn)), (.long nn), (.int fl)]) (rest := []) (lenOf pd_2 rfl) rfl (by show 2 * 0 + _ ≤ _; exact Nat.le_of_eq rfl) (hb hby at_225) (fun _ _ => ⟨rfl, e28, (by decide : 1 + 0 ≤ _), (by decide : 16 + 0 ≤ _)⟩)
  dsimp only [Pt.U, Pt.locs, Pt.cells, Pt.slots] at X30 l30 y30 z30 st30 hQ30
  subst l30 y30 z30
  obtain ⟨rfl, rfl, e30⟩ := hQ30
  have NF := Fr.app NF (Fr.nil n0)
  refine own_by (B := T30.setTop (mkF m 228 #[.val (.long j0), .second, .val (.int i2), .val (.int i3), .val (.int i4), .val (.long nn), .second, .val (.int ax), .val (.int fl), .val (.ref b1), .val (.int zz), .val (.int (f2_0 nn))] [(.int (f3_0 gg (4 : Int32) ax (f2_0 nn) nn fl))])) (fun t k => st30 _ k) ?_
  have hc31 : ¬ ((f3_0 gg (4 : Int32) ax (f2_0 nn) nn fl) = (0 : Int32)) := own_pos1 nn ax gg zz fl (4 : Int32) 4 rfl (by decide) hnn0 hax1 hfl1 hR
  refine own_by (B := T30.setTop (mkF m 231 #[.val (.long j0), .second, .val (.int i2), .val (.int i3), .val (.int i4), .val (.long nn), .second, .val (.int ax), .val (.int fl), .val (.ref b1), .val (.int zz), .val (.int (f2_0 nn))] [])) (fun t k => XS.ifNo X30.here hx rfl (hb hby at_228) rfl ((if0 _ _).trans (feq hc31).1) k) ?_
  refine own_by (B := T30.setTop (mkF m 233 #[.val (.long j0), .second, .val (.int i2), .val (.int i3), .val (.int i4), .val (.long nn), .second, .val (.int ax), .val (.int fl), .val (.ref b1), .val (.int zz), .val (.int (f2_0 nn))] [(.ref b1)])) (fun t k => XS.aload X30.here hx rfl (hb hby at_231) rfl rfl k) ?_
  refine own_by (B := T30.setTop (mkF m 234 #[.val (.long j0), .second, .val (.int i2), .val (.int i3), .val (.int i4), .val (.long nn), .second, .val (.int ax), .val (.int fl), .val (.ref b1), .val (.int zz), .val (.int (f2_0 nn))] [(.int (5 : Int32)), (.ref b1)])) (fun t k => XS.iconst X30.here hx rfl (hb hby at_233) k) ?_
  refine own_by (B := T30.setTop (mkF m 236 #[.val (.long j0), .second, .val (.int i2), .val (.int i3), .val (.int i4), .val (.long nn), .second, .val (.int ax), .val (.int fl), .val (.ref b1), .val (.int zz), .val (.int (f2_0 nn))] [(.int ax), (.int (5 : Int32)), (.ref b1)])) (fun t k => XS.iload X30.here hx rfl (hb hby at_234) rfl k) ?_
  refine own_by (B := T30.setTop (mkF m 238 #[.val (.long j0), .second, .val (.int i2), .val (.int i3), .val (.int i4), .val (.long nn), .second, .val (.int ax), .val (.int fl), .val (.ref b1), .val (.int zz), .val (.int (f2_0 nn))] [(.int (f2_0 nn)), (.int ax), (.int (5 : Int32)), (.ref b1)])) (fun t k => XS.iload X30.here hx rfl (hb hby at_236) rfl k) ?_
  refine own_by (B := T30.setTop (mkF m 240 #[.val (.long j0), .second, .val (.int i2), .val (.int i3), .val (.int i4), .val (.long nn), .second, .val (.int ax), .val (.int fl), .val (.ref b1), .val (.int zz), .val (.int (f2_0 nn))] [(.long nn), (.int (f2_0 nn)), (.int ax), (.int (5 : Int32)), (.ref b1)])) (fun t k => XS.lload X30.here hx rfl (hb hby at_238) rfl k) ?_
  refine own_by (B := T30.setTop (mkF m 242 #[.val (.long j0), .second, .val (.int i2), .val (.int i3), .val (.int i4), .val (.long nn), .second, .val (.int ax), .val (.int fl), .val (.ref b1), .val (.int zz), .val (.int (f2_0 nn))] [(.int fl), (.long nn), (.int (f2_0 nn)), (.int ax), (.int (5 : Int32)), (.ref b1)])) (fun t k => XS.iload X30.here hx rfl (hb hby at_240) rfl k) ?_
  obtain ⟨v32, _, ⟨T32, L32, c32, n32⟩, -, X32, ⟨Lc32, hQ32, l32, y32, z32⟩, st32⟩ := Jvm.LawKit.callS X30 hx (y := (⟨"ro/borderou/core/rules/SeenKeysNumberPinLaw", "pos", "([BIIIJB)Z"⟩ : MethodName)) hown (mvT hZ (hw _ (List.mem_of_getElem? (i := 12) rfl))) (mvT hZ (hw _ (List.mem_of_getElem? (i := 13) rfl))) (mvT hZ (hw _ (List.mem_of_getElem? (i := 9) rfl))) (mvT hZ (hw _ (List.mem_of_getElem? (i := 14) rfl))) (by decide) (backOf (W := 0) (rm3 l Z a0 hw [] b1 (5 : Int32) ax (f2_0 nn) nn fl gg T19.heap V_b1 (by decide)) hZ (hw _ (List.mem_of_getElem? (i := 14) rfl)) (hw _ (List.mem_of_getElem? (i := 9) rfl)) (by decide) (by decide)) (g := (mkF m 242 #[.val (.long j0), .second, .val (.int i2), .val (.int i3), .val (.int i4), .val (.long nn), .second, .val (.int ax), .val (.int fl), .val (.ref b1), .val (.int zz), .val (.int (f2_0 nn))] [(.int fl), (.long nn), (.int (f2_0 nn)), (.int ax), (.int (5 : Int32)), (.ref b1)])) rfl (by rw [hml]; rfl) (argsL := [(.ref b1), (.int (5 : Int32)), (.int ax), (.int (f2_0 nn)), (.long nn), (.int fl)]) (rest := []) (lenOf pd_2 rfl) rfl (by show 2 * 0 + _ ≤ _; exact Nat.le_of_eq rfl) (hb hby at_242) (fun _ _ => ⟨rfl, e30, (by decide : 1 + 0 ≤ _), (by decide : 16 + 0 ≤ _)⟩)
  dsimp only [Pt.U, Pt.locs, Pt.cells, Pt.slots] at X32 l32 y32 z32 st32 hQ32
  subst l32 y32 z32
  obtain ⟨rfl, rfl, e32⟩ := hQ32
  have NF := Fr.app NF (Fr.nil n0)
  refine own_by (B := T32.setTop (mkF m 245 #[.val (.long j0), .second, .val (.int i2), .val (.int i3), .val (.int i4), .val (.long nn), .second, .val (.int ax), .val (.int fl), .val (.ref b1), .val (.int zz), .val (.int (f2_0 nn))] [(.int (f3_0 gg (5 : Int32) ax (f2_0 nn) nn fl))])) (fun t k => st32 _ k) ?_
  have hc33 : ¬ ((f3_0 gg (5 : Int32) ax (f2_0 nn) nn fl) = (0 : Int32)) := own_pos1 nn ax gg zz fl (5 : Int32) 5 rfl (by decide) hnn0 hax1 hfl1 hR
  refine own_by (B := T32.setTop (mkF m 248 #[.val (.long j0), .second, .val (.int i2), .val (.int i3), .val (.int i4), .val (.long nn), .second, .val (.int ax), .val (.int fl), .val (.ref b1), .val (.int zz), .val (.int (f2_0 nn))] [])) (fun t k => XS.ifNo X32.here hx rfl (hb hby at_245) rfl ((if0 _ _).trans (feq hc33).1) k) ?_
  refine own_by (B := T32.setTop (mkF m 250 #[.val (.long j0), .second, .val (.int i2), .val (.int i3), .val (.int i4), .val (.long nn), .second, .val (.int ax), .val (.int fl), .val (.ref b1), .val (.int zz), .val (.int (f2_0 nn))] [(.ref b1)])) (fun t k => XS.aload X32.here hx rfl (hb hby at_248) rfl rfl k) ?_
  refine own_by (B := T32.setTop (mkF m 252 #[.val (.long j0), .second, .val (.int i2), .val (.int i3), .val (.int i4), .val (.long nn), .second, .val (.int ax), .val (.int fl), .val (.ref b1), .val (.int zz), .val (.int (f2_0 nn))] [(.int (6 : Int32)), (.ref b1)])) (fun t k => XS.bipush X32.here hx rfl (hb hby at_250) k) ?_
  refine own_by (B := T32.setTop (mkF m 254 #[.val (.long j0), .second, .val (.int i2), .val (.int i3), .val (.int i4), .val (.long nn), .second, .val (.int ax), .val (.int fl), .val (.ref b1), .val (.int zz), .val (.int (f2_0 nn))] [(.int ax), (.int (6 : Int32)), (.ref b1)])) (fun t k => XS.iload X32.here hx rfl (hb hby at_252) rfl k) ?_
  refine own_by (B := T32.setTop (mkF m 256 #[.val (.long j0), .second, .val (.int i2), .val (.int i3), .val (.int i4), .val (.long nn), .second, .val (.int ax), .val (.int fl), .val (.ref b1), .val (.int zz), .val (.int (f2_0 nn))] [(.int (f2_0 nn)), (.int ax), (.int (6 : Int32)), (.ref b1)])) (fun t k => XS.iload X32.here hx rfl (hb hby at_254) rfl k) ?_
  refine own_by (B := T32.setTop (mkF m 258 #[.val (.long j0), .second, .val (.int i2), .val (.int i3), .val (.int i4), .val (.long nn), .second, .val (.int ax), .val (.int fl), .val (.ref b1), .val (.int zz), .val (.int (f2_0 nn))] [(.long nn), (.int (f2_0 nn)), (.int ax), (.int (6 : Int32)), (.ref b1)])) (fun t k => XS.lload X32.here hx rfl (hb hby at_256) rfl k) ?_
  refine own_by (B := T32.setTop (mkF m 260 #[.val (.long j0), .second, .val (.int i2), .val (.int i3), .val (.int i4), .val (.long nn), .second, .val (.int ax), .val (.int fl), .val (.ref b1), .val (.int zz), .val (.int (f2_0 nn))] [(.int fl), (.long nn), (.int (f2_0 nn)), (.int ax), (.int (6 : Int32)), (.ref b1)])) (fun t k => XS.iload X32.here hx rfl (hb hby at_258) rfl k) ?_
  obtain ⟨v34, _, ⟨T34, L34, c34, n34⟩, -, X34, ⟨Lc34, hQ34, l34, y34, z34⟩, st34⟩ := Jvm.LawKit.callS X32 hx (y := (⟨"ro/borderou/core/rules/SeenKeysNumberPinLaw", "pos", "([BIIIJB)Z"⟩ : MethodName)) hown (mvT hZ (hw _ (List.mem_of_getElem? (i := 12) rfl))) (mvT hZ (hw _ (List.mem_of_getElem? (i := 13) rfl))) (mvT hZ (hw _ (List.mem_of_getElem? (i := 9) rfl))) (mvT hZ (hw _ (List.mem_of_getElem? (i := 14) rfl))) (by decide) (backOf (W := 0) (rm3 l Z a0 hw [] b1 (6 : Int32) ax (f2_0 nn) nn fl gg T19.heap V_b1 (by decide)) hZ (hw _ (List.mem_of_getElem? (i := 14) rfl)) (hw _ (List.mem_of_getElem? (i := 9) rfl)) (by decide) (by decide)) (g := (mkF m 260 #[.val (.long j0), .second, .val (.int i2), .val (.int i3), .val (.int i4), .val (.long nn), .second, .val (.int ax), .val (.int fl), .val (.ref b1), .val (.int zz), .val (.int (f2_0 nn))] [(.int fl), (.long nn), (.int (f2_0 nn)), (.int ax), (.int (6 : Int32)), (.ref b1)])) rfl (by rw [hml]; rfl) (argsL := [(.ref b1), (.int (6 : Int32)), (.int ax), (.int (f2_0 nn)), (.long nn), (.int fl)]) (rest := []) (lenOf pd_2 rfl) rfl (by show 2 * 0 + _ ≤ _; exact Nat.le_of_eq rfl) (hb hby at_260) (fun _ _ => ⟨rfl, e32, (by decide : 1 + 0 ≤ _), (by decide : 16 + 0 ≤ _)⟩)
  dsimp only [Pt.U, Pt.locs, Pt.cells, Pt.slots] at X34 l34 y34 z34 st34 hQ34
  subst l34 y34 z34
  obtain ⟨rfl, rfl, e34⟩ := hQ34
  have NF := Fr.app NF (Fr.nil n0)
  refine own_by (B := T34.setTop (mkF m 263 #[.val (.long j0), .second, .val (.int i2), .val (.int i3), .val (.int i4), .val (.long nn), .second, .val (.int ax), .val (.int fl), .val (.ref b1), .val (.int zz), .val (.int (f2_0 nn))] [(.int (f3_0 gg (6 : Int32) ax (f2_0 nn) nn fl))])) (fun t k => st34 _ k) ?_
  have hc35 : ¬ ((f3_0 gg (6 : Int32) ax (f2_0 nn) nn fl) = (0 : Int32)) := own_pos1 nn ax gg zz fl (6 : Int32) 6 rfl (by decide) hnn0 hax1 hfl1 hR
  refine own_by (B := T34.setTop (mkF m 266 #[.val (.long j0), .second, .val (.int i2), .val (.int i3), .val (.int i4), .val (.long nn), .second, .val (.int ax), .val (.int fl), .val (.ref b1), .val (.int zz), .val (.int (f2_0 nn))] [])) (fun t k => XS.ifNo X34.here hx rfl (hb hby at_263) rfl ((if0 _ _).trans (feq hc35).1) k) ?_
  refine own_by (B := T34.setTop (mkF m 268 #[.val (.long j0), .second, .val (.int i2), .val (.int i3), .val (.int i4), .val (.long nn), .second, .val (.int ax), .val (.int fl), .val (.ref b1), .val (.int zz), .val (.int (f2_0 nn))] [(.ref b1)])) (fun t k => XS.aload X34.here hx rfl (hb hby at_266) rfl rfl k) ?_
  refine own_by (B := T34.setTop (mkF m 270 #[.val (.long j0), .second, .val (.int i2), .val (.int i3), .val (.int i4), .val (.long nn), .second, .val (.int ax), .val (.int fl), .val (.ref b1), .val (.int zz), .val (.int (f2_0 nn))] [(.int (7 : Int32)), (.ref b1)])) (fun t k => XS.bipush X34.here hx rfl (hb hby at_268) k) ?_
  refine own_by (B := T34.setTop (mkF m 272 #[.val (.long j0), .second, .val (.int i2), .val (.int i3), .val (.int i4), .val (.long nn), .second, .val (.int ax), .val (.int fl), .val (.ref b1), .val (.int zz), .val (.int (f2_0 nn))] [(.int ax), (.int (7 : Int32)), (.ref b1)])) (fun t k => XS.iload X34.here hx rfl (hb hby at_270) rfl k) ?_
  refine own_by (B := T34.setTop (mkF m 274 #[.val (.long j0), .second, .val (.int i2), .val (.int i3), .val (.int i4), .val (.long nn), .second, .val (.int ax), .val (.int fl), .val (.ref b1), .val (.int zz), .val (.int (f2_0 nn))] [(.int (f2_0 nn)), (.int ax), (.int (7 : Int32)), (.ref b1)])) (fun t k => XS.iload X34.here hx rfl (hb hby at_272) rfl k) ?_
  refine own_by (B := T34.setTop (mkF m 276 #[.val (.long j0), .second, .val (.int i2), .val (.int i3), .val (.int i4), .val (.long nn), .second, .val (.int ax), .val (.int fl), .val (.ref b1), .val (.int zz), .val (.int (f2_0 nn))] [(.long nn), (.int (f2_0 nn)), (.int ax), (.int (7 : Int32)), (.ref b1)])) (fun t k => XS.lload X34.here hx rfl (hb hby at_274) rfl k) ?_
  refine own_by (B := T34.setTop (mkF m 278 #[.val (.long j0), .second, .val (.int i2), .val (.int i3), .val (.int i4), .val (.long nn), .second, .val (.int ax), .val (.int fl), .val (.ref b1), .val (.int zz), .val (.int (f2_0 nn))] [(.int fl), (.long nn), (.int (f2_0 nn)), (.int ax), (.int (7 : Int32)), (.ref b1)])) (fun t k => XS.iload X34.here hx rfl (hb hby at_276) rfl k) ?_
  obtain ⟨v36, _, ⟨T36, L36, c36, n36⟩, -, X36, ⟨Lc36, hQ36, l36, y36, z36⟩, st36⟩ := Jvm.LawKit.callS X34 hx (y := (⟨"ro/borderou/core/rules/SeenKeysNumberPinLaw", "pos", "([BIIIJB)Z"⟩ : MethodName)) hown (mvT hZ (hw _ (List.mem_of_getElem? (i := 12) rfl))) (mvT hZ (hw _ (List.mem_of_getElem? (i := 13) rfl))) (mvT hZ (hw _ (List.mem_of_getElem? (i := 9) rfl))) (mvT hZ (hw _ (List.mem_of_getElem? (i := 14) rfl))) (by decide) (backOf (W := 0) (rm3 l Z a0 hw [] b1 (7 : Int32) ax (f2_0 nn) nn fl gg T19.heap V_b1 (by decide)) hZ (hw _ (List.mem_of_getElem? (i := 14) rfl)) (hw _ (List.mem_of_getElem? (i := 9) rfl)) (by decide) (by decide)) (g := (mkF m 278 #[.val (.long j0), .second, .val (.int i2), .val (.int i3), .val (.int i4), .val (.long nn), .second, .val (.int ax), .val (.int fl), .val (.ref b1), .val (.int zz), .val (.int (f2_0 nn))] [(.int fl), (.long nn), (.int (f2_0 nn)), (.int ax), (.int (7 : Int32)), (.ref b1)])) rfl (by rw [hml]; rfl) (argsL := [(.ref b1), (.int (7 : Int32)), (.int ax), (.int (f2_0 nn)), (.long nn), (.int fl)]) (rest := []) (lenOf pd_2 rfl) rfl (by show 2 * 0 + _ ≤ _; exact Nat.le_of_eq rfl) (hb hby at_278) (fun _ _ => ⟨rfl, e34, (by decide : 1 + 0 ≤ _), (by decide : 16 + 0 ≤ _)⟩)
  dsimp only [Pt.U, Pt.locs, Pt.cells, Pt.slots] at X36 l36 y36 z36 st36 hQ36
  subst l36 y36 z36
  obtain ⟨rfl, rfl, e36⟩ := hQ36
  have NF := Fr.app NF (Fr.nil n0)
  refine own_by (B := T36.setTop (mkF m 281 #[.val (.long j0), .second, .val (.int i2), .val (.int i3), .val (.int i4), .val (.long nn), .second, .val (.int ax), .val (.int fl), .val (.ref b1), .val (.int zz), .val (.int (f2_0 nn))] [(.int (f3_0 gg (7 : Int32) ax (f2_0 nn) nn fl))])) (fun t k => st36 _ k) ?_
  have hc37 : ¬ ((f3_0 gg (7 : Int32) ax (f2_0 nn) nn fl) = (0 : Int32)) := own_pos1 nn ax gg zz fl (7 : Int32) 7 rfl (by decide) hnn0 hax1 hfl1 hR
  refine own_by (B := T36.setTop (mkF m 284 #[.val (.long j0), .second, .val (.int i2), .val (.int i3), .val (.int i4), .val (.long nn), .second, .val (.int ax), .val (.int fl), .val (.ref b1), .val (.int zz), .val (.int (f2_0 nn))] [])) (fun t k => XS.ifNo X36.here hx rfl (hb hby at_281) rfl ((if0 _ _).trans (feq hc37).1) k) ?_
  refine own_by (B := T36.setTop (mkF m 286 #[.val (.long j0), .second, .val (.int i2), .val (.int i3), .val (.int i4), .val (.long nn), .second, .val (.int ax), .val (.int fl), .val (.ref b1), .val (.int zz), .val (.int (f2_0 nn))] [(.ref b1)])) (fun t k => XS.aload X36.here hx rfl (hb hby at_284) rfl rfl k) ?_
  refine own_by (B := T36.setTop (mkF m 288 #[.val (.long j0), .second, .val (.int i2), .val (.int i3), .val (.int i4), .val (.long nn), .second, .val (.int ax), .val (.int fl), .val (.ref b1), .val (.int zz), .val (.int (f2_0 nn))] [(.int (8 : Int32)), (.ref b1)])) (fun t k => XS.bipush X36.here hx rfl (hb hby at_286) k) ?_
  refine own_by (B := T36.setTop (mkF m 290 #[.val (.long j0), .second, .val (.int i2), .val (.int i3), .val (.int i4), .val (.long nn), .second, .val (.int ax), .val (.int fl), .val (.ref b1), .val (.int zz), .val (.int (f2_0 nn))] [(.int ax), (.int (8 : Int32)), (.ref b1)])) (fun t k => XS.iload X36.here hx rfl (hb hby at_288) rfl k) ?_
  refine own_by (B := T36.setTop (mkF m 292 #[.val (.long j0), .second, .val (.int i2), .val (.int i3), .val (.int i4), .val (.long nn), .second, .val (.int ax), .val (.int fl), .val (.ref b1), .val (.int zz), .val (.int (f2_0 nn))] [(.int (f2_0 nn)), (.int ax), (.int (8 : Int32)), (.ref b1)])) (fun t k => XS.iload X36.here hx rfl (hb hby at_290) rfl k) ?_
  refine own_by (B := T36.setTop (mkF m 294 #[.val (.long j0), .second, .val (.int i2), .val (.int i3), .val (.int i4), .val (.long nn), .second, .val (.int ax), .val (.int fl), .val (.ref b1), .val (.int zz), .val (.int (f2_0 nn))] [(.long nn), (.int (f2_0 nn)), (.int ax), (.int (8 : Int32)), (.ref b1)])) (fun t k => XS.lload X36.here hx rfl (hb hby at_292) rfl k) ?_
  refine own_by (B := T36.setTop (mkF m 296 #[.val (.long j0), .second, .val (.int i2), .val (.int i3), .val (.int i4), .val (.long nn), .second, .val (.int ax), .val (.int fl), .val (.ref b1), .val (.int zz), .val (.int (f2_0 nn))] [(.int fl), (.long nn), (.int (f2_0 nn)), (.int ax), (.int (8 : Int32)), (.ref b1)])) (fun t k => XS.iload X36.here hx rfl (hb hby at_294) rfl k) ?_
  obtain ⟨v38, _, ⟨T38, L38, c38, n38⟩, -, X38, ⟨Lc38, hQ38, l38, y38, z38⟩, st38⟩ := Jvm.LawKit.callS X36 hx (y := (⟨"ro/borderou/core/rules/SeenKeysNumberPinLaw", "pos", "([BIIIJB)Z"⟩ : MethodName)) hown (mvT hZ (hw _ (List.mem_of_getElem? (i := 12) rfl))) (mvT hZ (hw _ (List.mem_of_getElem? (i := 13) rfl))) (mvT hZ (hw _ (List.mem_of_getElem? (i := 9) rfl))) (mvT hZ (hw _ (List.mem_of_getElem? (i := 14) rfl))) (by decide) (backOf (W := 0) (rm3 l Z a0 hw [] b1 (8 : Int32) ax (f2_0 nn) nn fl gg T19.heap V_b1 (by decide)) hZ (hw _ (List.mem_of_getElem? (i := 14) rfl)) (hw _ (List.mem_of_getElem? (i := 9) rfl)) (by decide) (by decide)) (g := (mkF m 296 #[.val (.long j0), .second, .val (.int i2), .val (.int i3), .val (.int i4), .val (.long nn), .second, .val (.int ax), .val (.int fl), .val (.ref b1), .val (.int zz), .val (.int (f2_0 nn))] [(.int fl), (.long nn), (.int (f2_0 nn)), (.int ax), (.int (8 : Int32)), (.ref b1)])) rfl (by rw [hml]; rfl) (argsL := [(.ref b1), (.int (8 : Int32)), (.int ax), (.int (f2_0 nn)), (.long nn), (.int fl)]) (rest := []) (lenOf pd_2 rfl) rfl (by show 2 * 0 + _ ≤ _; exact Nat.le_of_eq rfl) (hb hby at_296) (fun _ _ => ⟨rfl, e36, (by decide : 1 + 0 ≤ _), (by decide : 16 + 0 ≤ _)⟩)
  dsimp only [Pt.U, Pt.locs, Pt.cells, Pt.slots] at X38 l38 y38 z38 st38 hQ38
  subst l38 y38 z38
  obtain ⟨rfl, rfl, e38⟩ := hQ38
  have NF := Fr.app NF (Fr.nil n0)
  refine own_by (B := T38.setTop (mkF m 299 #[.val (.long j0), .second, .val (.int i2), .val (.int i3), .val (.int i4), .val (.long nn), .second, .val (.int ax), .val (.int fl), .val (.ref b1), .val (.int zz), .val (.int (f2_0 nn))] [(.int (f3_0 gg (8 : Int32) ax (f2_0 nn) nn fl))])) (fun t k => st38 _ k) ?_
  have hc39 : ¬ ((f3_0 gg (8 : Int32) ax (f2_0 nn) nn fl) = (0 : Int32)) := own_pos1 nn ax gg zz fl (8 : Int32) 8 rfl (by decide) hnn0 hax1 hfl1 hR
  refine own_by (B := T38.setTop (mkF m 302 #[.val (.long j0), .second, .val (.int i2), .val (.int i3), .val (.int i4), .val (.long nn), .second, .val (.int ax), .val (.int fl), .val (.ref b1), .val (.int zz), .val (.int (f2_0 nn))] [])) (fun t k => XS.ifNo X38.here hx rfl (hb hby at_299) rfl ((if0 _ _).trans (feq hc39).1) k) ?_
  refine own_by (B := T38.setTop (mkF m 304 #[.val (.long j0), .second, .val (.int i2), .val (.int i3), .val (.int i4), .val (.long nn), .second, .val (.int ax), .val (.int fl), .val (.ref b1), .val (.int zz), .val (.int (f2_0 nn))] [(.ref b1)])) (fun t k => XS.aload X38.here hx rfl (hb hby at_302) rfl rfl k) ?_
  refine own_by (B := T38.setTop (mkF m 306 #[.val (.long j0), .second, .val (.int i2), .val (.int i3), .val (.int i4), .val (.long nn), .second, .val (.int ax), .val (.int fl), .val (.ref b1), .val (.int zz), .val (.int (f2_0 nn))] [(.int (9 : Int32)), (.ref b1)])) (fun t k => XS.bipush X38.here hx rfl (hb hby at_304) k) ?_
  refine own_by (B := T38.setTop (mkF m 308 #[.val (.long j0), .second, .val (.int i2), .val (.int i3), .val (.int i4), .val (.long nn), .second, .val (.int ax), .val (.int fl), .val (.ref b1), .val (.int zz), .val (.int (f2_0 nn))] [(.int ax), (.int (9 : Int32)), (.ref b1)])) (fun t k => XS.iload X38.here hx rfl (hb hby at_306) rfl k) ?_
  refine own_by (B := T38.setTop (mkF m 310 #[.val (.long j0), .second, .val (.int i2), .val (.int i3), .val (.int i4), .val (.long nn), .second, .val (.int ax), .val (.int fl), .val (.ref b1), .val (.int zz), .val (.int (f2_0 nn))] [(.int (f2_0 nn)), (.int ax), (.int (9 : Int32)), (.ref b1)])) (fun t k => XS.iload X38.here hx rfl (hb hby at_308) rfl k) ?_
  refine own_by (B := T38.setTop (mkF m 312 #[.val (.long j0), .second, .val (.int i2), .val (.int i3), .val (.int i4), .val (.long nn), .second, .val (.int ax), .val (.int fl), .val (.ref b1), .val (.int zz), .val (.int (f2_0 nn))] [(.long nn), (.int (f2_0 nn)), (.int ax), (.int (9 : Int32)), (.ref b1)])) (fun t k => XS.lload X38.here hx rfl (hb hby at_310) rfl k) ?_
  refine own_by (B := T38.setTop (mkF m 314 #[.val (.long j0), .second, .val (.int i2), .val (.int i3), .val (.int i4), .val (.long nn), .second, .val (.int ax), .val (.int fl), .val (.ref b1), .val (.int zz), .val (.int (f2_0 nn))] [(.int fl), (.long nn), (.int (f2_0 nn)), (.int ax), (.int (9 : Int32)), (.ref b1)])) (fun t k => XS.iload X38.here hx rfl (hb hby at_312) rfl k) ?_
  obtain ⟨v40, _, ⟨T40, L40, c40, n40⟩, -, X40, ⟨Lc40, hQ40, l40, y40, z40⟩, st40⟩ := Jvm.LawKit.callS X38 hx (y := (⟨"ro/borderou/core/rules/SeenKeysNumberPinLaw", "pos", "([BIIIJB)Z"⟩ : MethodName)) hown (mvT hZ (hw _ (List.mem_of_getElem? (i := 12) rfl))) (mvT hZ (hw _ (List.mem_of_getElem? (i := 13) rfl))) (mvT hZ (hw _ (List.mem_of_getElem? (i := 9) rfl))) (mvT hZ (hw _ (List.mem_of_getElem? (i := 14) rfl))) (by decide) (backOf (W := 0) (rm3 l Z a0 hw [] b1 (9 : Int32) ax (f2_0 nn) nn fl gg T19.heap V_b1 (by decide)) hZ (hw _ (List.mem_of_getElem? (i := 14) rfl)) (hw _ (List.mem_of_getElem? (i := 9) rfl)) (by decide) (by decide)) (g := (mkF m 314 #[.val (.long j0), .second, .val (.int i2), .val (.int i3), .val (.int i4), .val (.long nn), .second, .val (.int ax), .val (.int fl), .val (.ref b1), .val (.int zz), .val (.int (f2_0 nn))] [(.int fl), (.long nn), (.int (f2_0 nn)), (.int ax), (.int (9 : Int32)), (.ref b1)])) rfl (by rw [hml]; rfl) (argsL := [(.ref b1), (.int (9 : Int32)), (.int ax), (.int (f2_0 nn)), (.long nn), (.int fl)]) (rest := []) (lenOf pd_2 rfl) rfl (by show 2 * 0 + _ ≤ _; exact Nat.le_of_eq rfl) (hb hby at_314) (fun _ _ => ⟨rfl, e38, (by decide : 1 + 0 ≤ _), (by decide : 16 + 0 ≤ _)⟩)
  dsimp only [Pt.U, Pt.locs, Pt.cells, Pt.slots] at X40 l40 y40 z40 st40 hQ40
  subst l40 y40 z40
  obtain ⟨rfl, rfl, e40⟩ := hQ40
  have NF := Fr.app NF (Fr.nil n0)
  refine own_by (B := T40.setTop (mkF m 317 #[.val (.long j0), .second, .val (.int i2), .val (.int i3), .val (.int i4), .val (.long nn), .second, .val (.int ax), .val (.int fl), .val (.ref b1), .val (.int zz), .val (.int (f2_0 nn))] [(.int (f3_0 gg (9 : Int32) ax (f2_0 nn) nn fl))])) (fun t k => st40 _ k) ?_
  have hc41 : ¬ ((f3_0 gg (9 : Int32) ax (f2_0 nn) nn fl) = (0 : Int32)) := own_pos1 nn ax gg zz fl (9 : Int32) 9 rfl (by decide) hnn0 hax1 hfl1 hR
  refine own_by (B := T40.setTop (mkF m 320 #[.val (.long j0), .second, .val (.int i2), .val (.int i3), .val (.int i4), .val (.long nn), .second, .val (.int ax), .val (.int fl), .val (.ref b1), .val (.int zz), .val (.int (f2_0 nn))] [])) (fun t k => XS.ifNo X40.here hx rfl (hb hby at_317) rfl ((if0 _ _).trans (feq hc41).1) k) ?_
  refine own_by (B := T40.setTop (mkF m 322 #[.val (.long j0), .second, .val (.int i2), .val (.int i3), .val (.int i4), .val (.long nn), .second, .val (.int ax), .val (.int fl), .val (.ref b1), .val (.int zz), .val (.int (f2_0 nn))] [(.ref b1)])) (fun t k => XS.aload X40.here hx rfl (hb hby at_320) rfl rfl k) ?_
  refine own_by (B := T40.setTop (mkF m 324 #[.val (.long j0), .second, .val (.int i2), .val (.int i3), .val (.int i4), .val (.long nn), .second, .val (.int ax), .val (.int fl), .val (.ref b1), .val (.int zz), .val (.int (f2_0 nn))] [(.int (10 : Int32)), (.ref b1)])) (fun t k => XS.bipush X40.here hx rfl (hb hby at_322) k) ?_
  refine own_by (B := T40.setTop (mkF m 326 #[.val (.long j0), .second, .val (.int i2), .val (.int i3), .val (.int i4), .val (.long nn), .second, .val (.int ax), .val (.int fl), .val (.ref b1), .val (.int zz), .val (.int (f2_0 nn))] [(.int ax), (.int (10 : Int32)), (.ref b1)])) (fun t k => XS.iload X40.here hx rfl (hb hby at_324) rfl k) ?_
  refine own_by (B := T40.setTop (mkF m 328 #[.val (.long j0), .second, .val (.int i2), .val (.int i3), .val (.int i4), .val (.long nn), .second, .val (.int ax), .val (.int fl), .val (.ref b1), .val (.int zz), .val (.int (f2_0 nn))] [(.int (f2_0 nn)), (.int ax), (.int (10 : Int32)), (.ref b1)])) (fun t k => XS.iload X40.here hx rfl (hb hby at_326) rfl k) ?_
  refine own_by (B := T40.setTop (mkF m 330 #[.val (.long j0), .second, .val (.int i2), .val (.int i3), .val (.int i4), .val (.long nn), .second, .val (.int ax), .val (.int fl), .val (.ref b1), .val (.int zz), .val (.int (f2_0 nn))] [(.long nn), (.int (f2_0 nn)), (.int ax), (.int (10 : Int32)), (.ref b1)])) (fun t k => XS.lload X40.here hx rfl (hb hby at_328) rfl k) ?_
  refine own_by (B := T40.setTop (mkF m 332 #[.val (.long j0), .second, .val (.int i2), .val (.int i3), .val (.int i4), .val (.long nn), .second, .val (.int ax), .val (.int fl), .val (.ref b1), .val (.int zz), .val (.int (f2_0 nn))] [(.int fl), (.long nn), (.int (f2_0 nn)), (.int ax), (.int (10 : Int32)), (.ref b1)])) (fun t k => XS.iload X40.here hx rfl (hb hby at_330) rfl k) ?_
  obtain ⟨v42, _, ⟨T42, L42, c42, n42⟩, -, X42, ⟨Lc42, hQ42, l42, y42, z42⟩, st42⟩ := Jvm.LawKit.callS X40 hx (y := (⟨"ro/borderou/core/rules/SeenKeysNumberPinLaw", "pos", "([BIIIJB)Z"⟩ : MethodName)) hown (mvT hZ (hw _ (List.mem_of_getElem? (i := 12) rfl))) (mvT hZ (hw _ (List.mem_of_getElem? (i := 13) rfl))) (mvT hZ (hw _ (List.mem_of_getElem? (i := 9) rfl))) (mvT hZ (hw _ (List.mem_of_getElem? (i := 14) rfl))) (by decide) (backOf (W := 0) (rm3 l Z a0 hw [] b1 (10 : Int32) ax (f2_0 nn) nn fl gg T19.heap V_b1 (by decide)) hZ (hw _ (List.mem_of_getElem? (i := 14) rfl)) (hw _ (List.mem_of_getElem? (i := 9) rfl)) (by decide) (by decide)) (g := (mkF m 332 #[.val (.long j0), .second, .val (.int i2), .val (.int i3), .val (.int i4), .val (.long nn), .second, .val (.int ax), .val (.int fl), .val (.ref b1), .val (.int zz), .val (.int (f2_0 nn))] [(.int fl), (.long nn), (.int (f2_0 nn)), (.int ax), (.int (10 : Int32)), (.ref b1)])) rfl (by rw [hml]; rfl) (argsL := [(.ref b1), (.int (10 : Int32)), (.int ax), (.int (f2_0 nn)), (.long nn), (.int fl)]) (rest := []) (lenOf pd_2 rfl) rfl (by show 2 * 0 + _ ≤ _; exact Nat.le_of_eq rfl) (hb hby at_332) (fun _ _ => ⟨rfl, e40, (by decide : 1 + 0 ≤ _), (by decide : 16 + 0 ≤ _)⟩)
  dsimp only [Pt.U, Pt.locs, Pt.cells, Pt.slots] at X42 l42 y42 z42 st42 hQ42
  subst l42 y42 z42
  obtain ⟨rfl, rfl, e42⟩ := hQ42
  have NF := Fr.app NF (Fr.nil n0)
  refine own_by (B := T42.setTop (mkF m 335 #[.val (.long j0), .second, .val (.int i2), .val (.int i3), .val (.int i4), .val (.long nn), .second, .val (.int ax), .val (.int fl), .val (.ref b1), .val (.int zz), .val (.int (f2_0 nn))] [(.int (f3_0 gg (10 : Int32) ax (f2_0 nn) nn fl))])) (fun t k => st42 _ k) ?_
  have hc43 : ¬ ((f3_0 gg (10 : Int32) ax (f2_0 nn) nn fl) = (0 : Int32)) := own_pos1 nn ax gg zz fl (10 : Int32) 10 rfl (by decide) hnn0 hax1 hfl1 hR
  refine own_by (B := T42.setTop (mkF m 338 #[.val (.long j0), .second, .val (.int i2), .val (.int i3), .val (.int i4), .val (.long nn), .second, .val (.int ax), .val (.int fl), .val (.ref b1), .val (.int zz), .val (.int (f2_0 nn))] [])) (fun t k => XS.ifNo X42.here hx rfl (hb hby at_335) rfl ((if0 _ _).trans (feq hc43).1) k) ?_
  refine own_by (B := T42.setTop (mkF m 340 #[.val (.long j0), .second, .val (.int i2), .val (.int i3), .val (.int i4), .val (.long nn), .second, .val (.int ax), .val (.int fl), .val (.ref b1), .val (.int zz), .val (.int (f2_0 nn))] [(.ref b1)])) (fun t k => XS.aload X42.here hx rfl (hb hby at_338) rfl rfl k) ?_
  refine own_by (B := T42.setTop (mkF m 342 #[.val (.long j0), .second, .val (.int i2), .val (.int i3), .val (.int i4), .val (.long nn), .second, .val (.int ax), .val (.int fl), .val (.ref b1), .val (.int zz), .val (.int (f2_0 nn))] [(.int (11 : Int32)), (.ref b1)])) (fun t k => XS.bipush X42.here hx rfl (hb hby at_340) k) ?_
  refine own_by (B := T42.setTop (mkF m 344 #[.val (.long j0), .second, .val (.int i2), .val (.int i3), .val (.int i4), .val (.long nn), .second, .val (.int ax), .val (.int fl), .val (.ref b1), .val (.int zz), .val (.int (f2_0 nn))] [(.int ax), (.int (11 : Int32)), (.ref b1)])) (fun t k => XS.iload X42.here hx rfl (hb hby at_342) rfl k) ?_
  refine own_by (B := T42.setTop (mkF m 346 #[.val (.long j0), .second, .val (.int i2), .val (.int i3), .val (.int i4), .val (.long nn), .second, .val (.int ax), .val (.int fl), .val (.ref b1), .val (.int zz), .val (.int (f2_0 nn))] [(.int (f2_0 nn)), (.int ax), (.int (11 : Int32)), (.ref b1)])) (fun t k => XS.iload X42.here hx rfl (hb hby at_344) rfl k) ?_
  refine own_by (B := T42.setTop (mkF m 348 #[.val (.long j0), .second, .val (.int i2), .val (.int i3), .val (.int i4), .val (.long nn), .second, .val (.int ax), .val (.int fl), .val (.ref b1), .val (.int zz), .val (.int (f2_0 nn))] [(.long nn), (.int (f2_0 nn)), (.int ax), (.int (11 : Int32)), (.ref b1)])) (fun t k => XS.lload X42.here hx rfl (hb hby at_346) rfl k) ?_
  refine own_by (B := T42.setTop (mkF m 350 #[.val (.long j0), .second, .val (.int i2), .val (.int i3), .val (.int i4), .val (.long nn), .second, .val (.int ax), .val (.int fl), .val (.ref b1), .val (.int zz), .val (.int (f2_0 nn))] [(.int fl), (.long nn), (.int (f2_0 nn)), (.int ax), (.int (11 : Int32)), (.ref b1)])) (fun t k => XS.iload X42.here hx rfl (hb hby at_348) rfl k) ?_
  obtain ⟨v44, _, ⟨T44, L44, c44, n44⟩, -, X44, ⟨Lc44, hQ44, l44, y44, z44⟩, st44⟩ := Jvm.LawKit.callS X42 hx (y := (⟨"ro/borderou/core/rules/SeenKeysNumberPinLaw", "pos", "([BIIIJB)Z"⟩ : MethodName)) hown (mvT hZ (hw _ (List.mem_of_getElem? (i := 12) rfl))) (mvT hZ (hw _ (List.mem_of_getElem? (i := 13) rfl))) (mvT hZ (hw _ (List.mem_of_getElem? (i := 9) rfl))) (mvT hZ (hw _ (List.mem_of_getElem? (i := 14) rfl))) (by decide) (backOf (W := 0) (rm3 l Z a0 hw [] b1 (11 : Int32) ax (f2_0 nn) nn fl gg T19.heap V_b1 (by decide)) hZ (hw _ (List.mem_of_getElem? (i := 14) rfl)) (hw _ (List.mem_of_getElem? (i := 9) rfl)) (by decide) (by decide)) (g := (mkF m 350 #[.val (.long j0), .second, .val (.int i2), .val (.int i3), .val (.int i4), .val (.long nn), .second, .val (.int ax), .val (.int fl), .val (.ref b1), .val (.int zz), .val (.int (f2_0 nn))] [(.int fl), (.long nn), (.int (f2_0 nn)), (.int ax), (.int (11 : Int32)), (.ref b1)])) rfl (by rw [hml]; rfl) (argsL := [(.ref b1), (.int (11 : Int32)), (.int ax), (.int (f2_0 nn)), (.long nn), (.int fl)]) (rest := []) (lenOf pd_2 rfl) rfl (by show 2 * 0 + _ ≤ _; exact Nat.le_of_eq rfl) (hb hby at_350) (fun _ _ => ⟨rfl, e42, (by decide : 1 + 0 ≤ _), (by decide : 16 + 0 ≤ _)⟩)
  dsimp only [Pt.U, Pt.locs, Pt.cells, Pt.slots] at X44 l44 y44 z44 st44 hQ44
  subst l44 y44 z44
  obtain ⟨rfl, rfl, e44⟩ := hQ44
  have NF := Fr.app NF (Fr.nil n0)
  refine own_by (B := T44.setTop (mkF m 353 #[.val (.long j0), .second, .val (.int i2), .val (.int i3), .val (.int i4), .val (.long nn), .second, .val (.int ax), .val (.int fl), .val (.ref b1), .val (.int zz), .val (.int (f2_0 nn))] [(.int (f3_0 gg (11 : Int32) ax (f2_0 nn) nn fl))])) (fun t k => st44 _ k) ?_
  have hc45 : ¬ ((f3_0 gg (11 : Int32) ax (f2_0 nn) nn fl) = (0 : Int32)) := own_pos1 nn ax gg zz fl (11 : Int32) 11 rfl (by decide) hnn0 hax1 hfl1 hR
  refine own_by (B := T44.setTop (mkF m 356 #[.val (.long j0), .second, .val (.int i2), .val (.int i3), .val (.int i4), .val (.long nn), .second, .val (.int ax), .val (.int fl), .val (.ref b1), .val (.int zz), .val (.int (f2_0 nn))] [])) (fun t k => XS.ifNo X44.here hx rfl (hb hby at_353) rfl ((if0 _ _).trans (feq hc45).1) k) ?_
  refine own_by (B := T44.setTop (mkF m 358 #[.val (.long j0), .second, .val (.int i2), .val (.int i3), .val (.int i4), .val (.long nn), .second, .val (.int ax), .val (.int fl), .val (.ref b1), .val (.int zz), .val (.int (f2_0 nn))] [(.ref b1)])) (fun t k => XS.aload X44.here hx rfl (hb hby at_356) rfl rfl k) ?_
  refine own_by (B := T44.setTop (mkF m 360 #[.val (.long j0), .second, .val (.int i2), .val (.int i3), .val (.int i4), .val (.long nn), .second, .val (.int ax), .val (.int fl), .val (.ref b1), .val (.int zz), .val (.int (f2_0 nn))] [(.int (12 : Int32)), (.ref b1)])) (fun t k => XS.bipush X44.here hx rfl (hb hby at_358) k) ?_
  refine own_by (B := T44.setTop (mkF m 362 #[.val (.long j0), .second, .val (.int i2), .val (.int i3), .val (.int i4), .val (.long nn), .second, .val (.int ax), .val (.int fl), .val (.ref b1), .val (.int zz), .val (.int (f2_0 nn))] [(.int ax), (.int (12 : Int32)), (.ref b1)])) (fun t k => XS.iload X44.here hx rfl (hb hby at_360) rfl k) ?_
  refine own_by (B := T44.setTop (mkF m 364 #[.val (.long j0), .second, .val (.int i2), .val (.int i3), .val (.int i4), .val (.long nn), .second, .val (.int ax), .val (.int fl), .val (.ref b1), .val (.int zz), .val (.int (f2_0 nn))] [(.int (f2_0 nn)), (.int ax), (.int (12 : Int32)), (.ref b1)])) (fun t k => XS.iload X44.here hx rfl (hb hby at_362) rfl k) ?_
  refine own_by (B := T44.setTop (mkF m 366 #[.val (.long j0), .second, .val (.int i2), .val (.int i3), .val (.int i4), .val (.long nn), .second, .val (.int ax), .val (.int fl), .val (.ref b1), .val (.int zz), .val (.int (f2_0 nn))] [(.long nn), (.int (f2_0 nn)), (.int ax), (.int (12 : Int32)), (.ref b1)])) (fun t k => XS.lload X44.here hx rfl (hb hby at_364) rfl k) ?_
  refine own_by (B := T44.setTop (mkF m 368 #[.val (.long j0), .second, .val (.int i2), .val (.int i3), .val (.int i4), .val (.long nn), .second, .val (.int ax), .val (.int fl), .val (.ref b1), .val (.int zz), .val (.int (f2_0 nn))] [(.int fl), (.long nn), (.int (f2_0 nn)), (.int ax), (.int (12 : Int32)), (.ref b1)])) (fun t k => XS.iload X44.here hx rfl (hb hby at_366) rfl k) ?_
  obtain ⟨v46, _, ⟨T46, L46, c46, n46⟩, -, X46, ⟨Lc46, hQ46, l46, y46, z46⟩, st46⟩ := Jvm.LawKit.callS X44 hx (y := (⟨"ro/borderou/core/rules/SeenKeysNumberPinLaw", "pos", "([BIIIJB)Z"⟩ : MethodName)) hown (mvT hZ (hw _ (List.mem_of_getElem? (i := 12) rfl))) (mvT hZ (hw _ (List.mem_of_getElem? (i := 13) rfl))) (mvT hZ (hw _ (List.mem_of_getElem? (i := 9) rfl))) (mvT hZ (hw _ (List.mem_of_getElem? (i := 14) rfl))) (by decide) (backOf (W := 0) (rm3 l Z a0 hw [] b1 (12 : Int32) ax (f2_0 nn) nn fl gg T19.heap V_b1 (by decide)) hZ (hw _ (List.mem_of_getElem? (i := 14) rfl)) (hw _ (List.mem_of_getElem? (i := 9) rfl)) (by decide) (by decide)) (g := (mkF m 368 #[.val (.long j0), .second, .val (.int i2), .val (.int i3), .val (.int i4), .val (.long nn), .second, .val (.int ax), .val (.int fl), .val (.ref b1), .val (.int zz), .val (.int (f2_0 nn))] [(.int fl), (.long nn), (.int (f2_0 nn)), (.int ax), (.int (12 : Int32)), (.ref b1)])) rfl (by rw [hml]; rfl) (argsL := [(.ref b1), (.int (12 : Int32)), (.int ax), (.int (f2_0 nn)), (.long nn), (.int fl)]) (rest := []) (lenOf pd_2 rfl) rfl (by show 2 * 0 + _ ≤ _; exact Nat.le_of_eq rfl) (hb hby at_368) (fun _ _ => ⟨rfl, e44, (by decide : 1 + 0 ≤ _), (by decide : 16 + 0 ≤ _)⟩)
  dsimp only [Pt.U, Pt.locs, Pt.cells, Pt.slots] at X46 l46 y46 z46 st46 hQ46
  subst l46 y46 z46
  obtain ⟨rfl, rfl, e46⟩ := hQ46
  have NF := Fr.app NF (Fr.nil n0)
  refine own_by (B := T46.setTop (mkF m 371 #[.val (.long j0), .second, .val (.int i2), .val (.int i3), .val (.int i4), .val (.long nn), .second, .val (.int ax), .val (.int fl), .val (.ref b1), .val (.int zz), .val (.int (f2_0 nn))] [(.int (f3_0 gg (12 : Int32) ax (f2_0 nn) nn fl))])) (fun t k => st46 _ k) ?_
  have hc47 : ¬ ((f3_0 gg (12 : Int32) ax (f2_0 nn) nn fl) = (0 : Int32)) := own_pos1 nn ax gg zz fl (12 : Int32) 12 rfl (by decide) hnn0 hax1 hfl1 hR
  refine own_by (B := T46.setTop (mkF m 374 #[.val (.long j0), .second, .val (.int i2), .val (.int i3), .val (.int i4), .val (.long nn), .second, .val (.int ax), .val (.int fl), .val (.ref b1), .val (.int zz), .val (.int (f2_0 nn))] [])) (fun t k => XS.ifNo X46.here hx rfl (hb hby at_371) rfl ((if0 _ _).trans (feq hc47).1) k) ?_
  refine own_by (B := T46.setTop (mkF m 376 #[.val (.long j0), .second, .val (.int i2), .val (.int i3), .val (.int i4), .val (.long nn), .second, .val (.int ax), .val (.int fl), .val (.ref b1), .val (.int zz), .val (.int (f2_0 nn))] [(.ref b1)])) (fun t k => XS.aload X46.here hx rfl (hb hby at_374) rfl rfl k) ?_
  refine own_by (B := T46.setTop (mkF m 378 #[.val (.long j0), .second, .val (.int i2), .val (.int i3), .val (.int i4), .val (.long nn), .second, .val (.int ax), .val (.int fl), .val (.ref b1), .val (.int zz), .val (.int (f2_0 nn))] [(.int (13 : Int32)), (.ref b1)])) (fun t k => XS.bipush X46.here hx rfl (hb hby at_376) k) ?_
  refine own_by (B := T46.setTop (mkF m 380 #[.val (.long j0), .second, .val (.int i2), .val (.int i3), .val (.int i4), .val (.long nn), .second, .val (.int ax), .val (.int fl), .val (.ref b1), .val (.int zz), .val (.int (f2_0 nn))] [(.int ax), (.int (13 : Int32)), (.ref b1)])) (fun t k => XS.iload X46.here hx rfl (hb hby at_378) rfl k) ?_
  refine own_by (B := T46.setTop (mkF m 382 #[.val (.long j0), .second, .val (.int i2), .val (.int i3), .val (.int i4), .val (.long nn), .second, .val (.int ax), .val (.int fl), .val (.ref b1), .val (.int zz), .val (.int (f2_0 nn))] [(.int (f2_0 nn)), (.int ax), (.int (13 : Int32)), (.ref b1)])) (fun t k => XS.iload X46.here hx rfl (hb hby at_380) rfl k) ?_
  refine own_by (B := T46.setTop (mkF m 384 #[.val (.long j0), .second, .val (.int i2), .val (.int i3), .val (.int i4), .val (.long nn), .second, .val (.int ax), .val (.int fl), .val (.ref b1), .val (.int zz), .val (.int (f2_0 nn))] [(.long nn), (.int (f2_0 nn)), (.int ax), (.int (13 : Int32)), (.ref b1)])) (fun t k => XS.lload X46.here hx rfl (hb hby at_382) rfl k) ?_
  refine own_by (B := T46.setTop (mkF m 386 #[.val (.long j0), .second, .val (.int i2), .val (.int i3), .val (.int i4), .val (.long nn), .second, .val (.int ax), .val (.int fl), .val (.ref b1), .val (.int zz), .val (.int (f2_0 nn))] [(.int fl), (.long nn), (.int (f2_0 nn)), (.int ax), (.int (13 : Int32)), (.ref b1)])) (fun t k => XS.iload X46.here hx rfl (hb hby at_384) rfl k) ?_
  obtain ⟨v48, _, ⟨T48, L48, c48, n48⟩, -, X48, ⟨Lc48, hQ48, l48, y48, z48⟩, st48⟩ := Jvm.LawKit.callS X46 hx (y := (⟨"ro/borderou/core/rules/SeenKeysNumberPinLaw", "pos", "([BIIIJB)Z"⟩ : MethodName)) hown (mvT hZ (hw _ (List.mem_of_getElem? (i := 12) rfl))) (mvT hZ (hw _ (List.mem_of_getElem? (i := 13) rfl))) (mvT hZ (hw _ (List.mem_of_getElem? (i := 9) rfl))) (mvT hZ (hw _ (List.mem_of_getElem? (i := 14) rfl))) (by decide) (backOf (W := 0) (rm3 l Z a0 hw [] b1 (13 : Int32) ax (f2_0 nn) nn fl gg T19.heap V_b1 (by decide)) hZ (hw _ (List.mem_of_getElem? (i := 14) rfl)) (hw _ (List.mem_of_getElem? (i := 9) rfl)) (by decide) (by decide)) (g := (mkF m 386 #[.val (.long j0), .second, .val (.int i2), .val (.int i3), .val (.int i4), .val (.long nn), .second, .val (.int ax), .val (.int fl), .val (.ref b1), .val (.int zz), .val (.int (f2_0 nn))] [(.int fl), (.long nn), (.int (f2_0 nn)), (.int ax), (.int (13 : Int32)), (.ref b1)])) rfl (by rw [hml]; rfl) (argsL := [(.ref b1), (.int (13 : Int32)), (.int ax), (.int (f2_0 nn)), (.long nn), (.int fl)]) (rest := []) (lenOf pd_2 rfl) rfl (by show 2 * 0 + _ ≤ _; exact Nat.le_of_eq rfl) (hb hby at_386) (fun _ _ => ⟨rfl, e46, (by decide : 1 + 0 ≤ _), (by decide : 16 + 0 ≤ _)⟩)
  dsimp only [Pt.U, Pt.locs, Pt.cells, Pt.slots] at X48 l48 y48 z48 st48 hQ48
  subst l48 y48 z48
  obtain ⟨rfl, rfl, e48⟩ := hQ48
  have NF := Fr.app NF (Fr.nil n0)
  refine own_by (B := T48.setTop (mkF m 389 #[.val (.long j0), .second, .val (.int i2), .val (.int i3), .val (.int i4), .val (.long nn), .second, .val (.int ax), .val (.int fl), .val (.ref b1), .val (.int zz), .val (.int (f2_0 nn))] [(.int (f3_0 gg (13 : Int32) ax (f2_0 nn) nn fl))])) (fun t k => st48 _ k) ?_
  have hc49 : ¬ ((f3_0 gg (13 : Int32) ax (f2_0 nn) nn fl) = (0 : Int32)) := own_pos1 nn ax gg zz fl (13 : Int32) 13 rfl (by decide) hnn0 hax1 hfl1 hR
  refine own_by (B := T48.setTop (mkF m 392 #[.val (.long j0), .second, .val (.int i2), .val (.int i3), .val (.int i4), .val (.long nn), .second, .val (.int ax), .val (.int fl), .val (.ref b1), .val (.int zz), .val (.int (f2_0 nn))] [])) (fun t k => XS.ifNo X48.here hx rfl (hb hby at_389) rfl ((if0 _ _).trans (feq hc49).1) k) ?_
  refine own_by (B := T48.setTop (mkF m 394 #[.val (.long j0), .second, .val (.int i2), .val (.int i3), .val (.int i4), .val (.long nn), .second, .val (.int ax), .val (.int fl), .val (.ref b1), .val (.int zz), .val (.int (f2_0 nn))] [(.ref b1)])) (fun t k => XS.aload X48.here hx rfl (hb hby at_392) rfl rfl k) ?_
  refine own_by (B := T48.setTop (mkF m 396 #[.val (.long j0), .second, .val (.int i2), .val (.int i3), .val (.int i4), .val (.long nn), .second, .val (.int ax), .val (.int fl), .val (.ref b1), .val (.int zz), .val (.int (f2_0 nn))] [(.int (14 : Int32)), (.ref b1)])) (fun t k => XS.bipush X48.here hx rfl (hb hby at_394) k) ?_
  refine own_by (B := T48.setTop (mkF m 398 #[.val (.long j0), .second, .val (.int i2), .val (.int i3), .val (.int i4), .val (.long nn), .second, .val (.int ax), .val (.int fl), .val (.ref b1), .val (.int zz), .val (.int (f2_0 nn))] [(.int ax), (.int (14 : Int32)), (.ref b1)])) (fun t k => XS.iload X48.here hx rfl (hb hby at_396) rfl k) ?_
  refine own_by (B := T48.setTop (mkF m 400 #[.val (.long j0), .second, .val (.int i2), .val (.int i3), .val (.int i4), .val (.long nn), .second, .val (.int ax), .val (.int fl), .val (.ref b1), .val (.int zz), .val (.int (f2_0 nn))] [(.int (f2_0 nn)), (.int ax), (.int (14 : Int32)), (.ref b1)])) (fun t k => XS.iload X48.here hx rfl (hb hby at_398) rfl k) ?_
  refine own_by (B := T48.setTop (mkF m 402 #[.val (.long j0), .second, .val (.int i2), .val (.int i3), .val (.int i4), .val (.long nn), .second, .val (.int ax), .val (.int fl), .val (.ref b1), .val (.int zz), .val (.int (f2_0 nn))] [(.long nn), (.int (f2_0 nn)), (.int ax), (.int (14 : Int32)), (.ref b1)])) (fun t k => XS.lload X48.here hx rfl (hb hby at_400) rfl k) ?_
  refine own_by (B := T48.setTop (mkF m 404 #[.val (.long j0), .second, .val (.int i2), .val (.int i3), .val (.int i4), .val (.long nn), .second, .val (.int ax), .val (.int fl), .val (.ref b1), .val (.int zz), .val (.int (f2_0 nn))] [(.int fl), (.long nn), (.int (f2_0 nn)), (.int ax), (.int (14 : Int32)), (.ref b1)])) (fun t k => XS.iload X48.here hx rfl (hb hby at_402) rfl k) ?_
  obtain ⟨v50, _, ⟨T50, L50, c50, n50⟩, -, X50, ⟨Lc50, hQ50, l50, y50, z50⟩, st50⟩ := Jvm.LawKit.callS X48 hx (y := (⟨"ro/borderou/core/rules/SeenKeysNumberPinLaw", "pos", "([BIIIJB)Z"⟩ : MethodName)) hown (mvT hZ (hw _ (List.mem_of_getElem? (i := 12) rfl))) (mvT hZ (hw _ (List.mem_of_getElem? (i := 13) rfl))) (mvT hZ (hw _ (List.mem_of_getElem? (i := 9) rfl))) (mvT hZ (hw _ (List.mem_of_getElem? (i := 14) rfl))) (by decide) (backOf (W := 0) (rm3 l Z a0 hw [] b1 (14 : Int32) ax (f2_0 nn) nn fl gg T19.heap V_b1 (by decide)) hZ (hw _ (List.mem_of_getElem? (i := 14) rfl)) (hw _ (List.mem_of_getElem? (i := 9) rfl)) (by decide) (by decide)) (g := (mkF m 404 #[.val (.long j0), .second, .val (.int i2), .val (.int i3), .val (.int i4), .val (.long nn), .second, .val (.int ax), .val (.int fl), .val (.ref b1), .val (.int zz), .val (.int (f2_0 nn))] [(.int fl), (.long nn), (.int (f2_0 nn)), (.int ax), (.int (14 : Int32)), (.ref b1)])) rfl (by rw [hml]; rfl) (argsL := [(.ref b1), (.int (14 : Int32)), (.int ax), (.int (f2_0 nn)), (.long nn), (.int fl)]) (rest := []) (lenOf pd_2 rfl) rfl (by show 2 * 0 + _ ≤ _; exact Nat.le_of_eq rfl) (hb hby at_404) (fun _ _ => ⟨rfl, e48, (by decide : 1 + 0 ≤ _), (by decide : 16 + 0 ≤ _)⟩)
  dsimp only [Pt.U, Pt.locs, Pt.cells, Pt.slots] at X50 l50 y50 z50 st50 hQ50
  subst l50 y50 z50
  obtain ⟨rfl, rfl, e50⟩ := hQ50
  have NF := Fr.app NF (Fr.nil n0)
  refine own_by (B := T50.setTop (mkF m 407 #[.val (.long j0), .second, .val (.int i2), .val (.int i3), .val (.int i4), .val (.long nn), .second, .val (.int ax), .val (.int fl), .val (.ref b1), .val (.int zz), .val (.int (f2_0 nn))] [(.int (f3_0 gg (14 : Int32) ax (f2_0 nn) nn fl))])) (fun t k => st50 _ k) ?_
  have hc51 : ¬ ((f3_0 gg (14 : Int32) ax (f2_0 nn) nn fl) = (0 : Int32)) := own_pos1 nn ax gg zz fl (14 : Int32) 14 rfl (by decide) hnn0 hax1 hfl1 hR
  refine own_by (B := T50.setTop (mkF m 410 #[.val (.long j0), .second, .val (.int i2), .val (.int i3), .val (.int i4), .val (.long nn), .second, .val (.int ax), .val (.int fl), .val (.ref b1), .val (.int zz), .val (.int (f2_0 nn))] [])) (fun t k => XS.ifNo X50.here hx rfl (hb hby at_407) rfl ((if0 _ _).trans (feq hc51).1) k) ?_
  refine own_by (B := T50.setTop (mkF m 412 #[.val (.long j0), .second, .val (.int i2), .val (.int i3), .val (.int i4), .val (.long nn), .second, .val (.int ax), .val (.int fl), .val (.ref b1), .val (.int zz), .val (.int (f2_0 nn))] [(.ref b1)])) (fun t k => XS.aload X50.here hx rfl (hb hby at_410) rfl rfl k) ?_
  refine own_by (B := T50.setTop (mkF m 414 #[.val (.long j0), .second, .val (.int i2), .val (.int i3), .val (.int i4), .val (.long nn), .second, .val (.int ax), .val (.int fl), .val (.ref b1), .val (.int zz), .val (.int (f2_0 nn))] [(.int (15 : Int32)), (.ref b1)])) (fun t k => XS.bipush X50.here hx rfl (hb hby at_412) k) ?_
  refine own_by (B := T50.setTop (mkF m 416 #[.val (.long j0), .second, .val (.int i2), .val (.int i3), .val (.int i4), .val (.long nn), .second, .val (.int ax), .val (.int fl), .val (.ref b1), .val (.int zz), .val (.int (f2_0 nn))] [(.int ax), (.int (15 : Int32)), (.ref b1)])) (fun t k => XS.iload X50.here hx rfl (hb hby at_414) rfl k) ?_
  refine own_by (B := T50.setTop (mkF m 418 #[.val (.long j0), .second, .val (.int i2), .val (.int i3), .val (.int i4), .val (.long nn), .second, .val (.int ax), .val (.int fl), .val (.ref b1), .val (.int zz), .val (.int (f2_0 nn))] [(.int (f2_0 nn)), (.int ax), (.int (15 : Int32)), (.ref b1)])) (fun t k => XS.iload X50.here hx rfl (hb hby at_416) rfl k) ?_
  refine own_by (B := T50.setTop (mkF m 420 #[.val (.long j0), .second, .val (.int i2), .val (.int i3), .val (.int i4), .val (.long nn), .second, .val (.int ax), .val (.int fl), .val (.ref b1), .val (.int zz), .val (.int (f2_0 nn))] [(.long nn), (.int (f2_0 nn)), (.int ax), (.int (15 : Int32)), (.ref b1)])) (fun t k => XS.lload X50.here hx rfl (hb hby at_418) rfl k) ?_
  refine own_by (B := T50.setTop (mkF m 422 #[.val (.long j0), .second, .val (.int i2), .val (.int i3), .val (.int i4), .val (.long nn), .second, .val (.int ax), .val (.int fl), .val (.ref b1), .val (.int zz), .val (.int (f2_0 nn))] [(.int fl), (.long nn), (.int (f2_0 nn)), (.int ax), (.int (15 : Int32)), (.ref b1)])) (fun t k => XS.iload X50.here hx rfl (hb hby at_420) rfl k) ?_
  obtain ⟨v52, _, ⟨T52, L52, c52, n52⟩, -, X52, ⟨Lc52, hQ52, l52, y52, z52⟩, st52⟩ := Jvm.LawKit.callS X50 hx (y := (⟨"ro/borderou/core/rules/SeenKeysNumberPinLaw", "pos", "([BIIIJB)Z"⟩ : MethodName)) hown (mvT hZ (hw _ (List.mem_of_getElem? (i := 12) rfl))) (mvT hZ (hw _ (List.mem_of_getElem? (i := 13) rfl))) (mvT hZ (hw _ (List.mem_of_getElem? (i := 9) rfl))) (mvT hZ (hw _ (List.mem_of_getElem? (i := 14) rfl))) (by decide) (backOf (W := 0) (rm3 l Z a0 hw [] b1 (15 : Int32) ax (f2_0 nn) nn fl gg T19.heap V_b1 (by decide)) hZ (hw _ (List.mem_of_getElem? (i := 14) rfl)) (hw _ (List.mem_of_getElem? (i := 9) rfl)) (by decide) (by decide)) (g := (mkF m 422 #[.val (.long j0), .second, .val (.int i2), .val (.int i3), .val (.int i4), .val (.long nn), .second, .val (.int ax), .val (.int fl), .val (.ref b1), .val (.int zz), .val (.int (f2_0 nn))] [(.int fl), (.long nn), (.int (f2_0 nn)), (.int ax), (.int (15 : Int32)), (.ref b1)])) rfl (by rw [hml]; rfl) (argsL := [(.ref b1), (.int (15 : Int32)), (.int ax), (.int (f2_0 nn)), (.long nn), (.int fl)]) (rest := []) (lenOf pd_2 rfl) rfl (by show 2 * 0 + _ ≤ _; exact Nat.le_of_eq rfl) (hb hby at_422) (fun _ _ => ⟨rfl, e50, (by decide : 1 + 0 ≤ _), (by decide : 16 + 0 ≤ _)⟩)
  dsimp only [Pt.U, Pt.locs, Pt.cells, Pt.slots] at X52 l52 y52 z52 st52 hQ52
  subst l52 y52 z52
  obtain ⟨rfl, rfl, e52⟩ := hQ52
  have NF := Fr.app NF (Fr.nil n0)
  refine own_by (B := T52.setTop (mkF m 425 #[.val (.long j0), .second, .val (.int i2), .val (.int i3), .val (.int i4), .val (.long nn), .second, .val (.int ax), .val (.int fl), .val (.ref b1), .val (.int zz), .val (.int (f2_0 nn))] [(.int (f3_0 gg (15 : Int32) ax (f2_0 nn) nn fl))])) (fun t k => st52 _ k) ?_
  have hc53 : ¬ ((f3_0 gg (15 : Int32) ax (f2_0 nn) nn fl) = (0 : Int32)) := own_pos1 nn ax gg zz fl (15 : Int32) 15 rfl (by decide) hnn0 hax1 hfl1 hR
  refine own_by (B := T52.setTop (mkF m 428 #[.val (.long j0), .second, .val (.int i2), .val (.int i3), .val (.int i4), .val (.long nn), .second, .val (.int ax), .val (.int fl), .val (.ref b1), .val (.int zz), .val (.int (f2_0 nn))] [])) (fun t k => XS.ifNo X52.here hx rfl (hb hby at_425) rfl ((if0 _ _).trans (feq hc53).1) k) ?_
  refine own_by (B := T52.setTop (mkF m 429 #[.val (.long j0), .second, .val (.int i2), .val (.int i3), .val (.int i4), .val (.long nn), .second, .val (.int ax), .val (.int fl), .val (.ref b1), .val (.int zz), .val (.int (f2_0 nn))] [(.int (1 : Int32))])) (fun t k => XS.iconst X52.here hx rfl (hb hby at_428) k) ?_
  refine own_by (B := T52.setTop (mkF m 433 #[.val (.long j0), .second, .val (.int i2), .val (.int i3), .val (.int i4), .val (.long nn), .second, .val (.int ax), .val (.int fl), .val (.ref b1), .val (.int zz), .val (.int (f2_0 nn))] [(.int (1 : Int32))])) (fun t k => XS.goto X52.here hx rfl (pc0 := 429) (pc' := 433) rfl (hb hby at_429) (by decide) (by decide) k) ?_
  exact own_retN (t := .boolean) (by simp) X52 hx hlk hret (z' := (1 : Int32)) (by decide) (hb hby at_433) ⟨rfl, NF⟩ (by decide) (by decide)
set_option maxRecDepth 65536 in
set_option maxHeartbeats 40000000 in
theorem comes_1 {Post : Tables → Env → Array Value → State → Outcome → State → Prop} (hpost : ∀ tb e args s v u, (limb_1_1.after args s (.returned v) u = true ∧ limb_1_2.after args s (.returned v) u = true ∧ True) → FrameEnd s (.returned v) u (Jvm.fieldLocs frame_1_writes args s ++ Jvm.arrayLocs frame_1_arrays args s ++ Jvm.staticLocs frame_1_statics s) 16 128 → Post tb e args s (.returned v) u) :
    ArmFor flags0 classFile x code maxLocals ret World_1 tables_1 room_1 Calls_1 rest_1 Pre_1 Post := by
  intro l hfl _ _ p e ha hc hk s m args below hf hA hF happ hP
  obtain ⟨hcalls, hrest, hpre⟩ := hP
  obtain ⟨-, -, -, hnamed, -, -, -, hat⟩ := (Spec.applies_iff hf).mp happ
  obtain ⟨hg, hn⟩ := and_e (Cond.before_iff.mp (show (Jvm.Cond.and given_1 narrow_1).before args s = true from hpre))
  obtain ⟨gg1, gg2⟩ := and_e hg
  obtain ⟨gg3, gg4⟩ := and_e gg2
  obtain ⟨gg5, gg6⟩ := and_e gg4
  obtain ⟨gg7, gg8⟩ := and_e gg6
  obtain ⟨w0, w1, w2, w3, rfl⟩ : ∃ w0 w1 w2 w3 : Value, args = #[w0, w1, w2, w3] := by
    have hs : args.size = 4 := by simpa [Cond.value, given_1] using gg1
    obtain ⟨L⟩ := args
    match L, hs with
    | [w0, w1, w2, w3], _ => exact ⟨w0, w1, w2, w3, rfl⟩
  have hw := fun d (hd : d ∈ tables_1) => atoms_spec (ws := Jvm.Cond.code x code maxLocals ret :: tables_1) hat d (List.mem_cons_of_mem _ hd)
  obtain ⟨i0, ei0⟩ := isL_v gg3
  obtain rfl : w0 = (.long i0) := Option.some.inj ei0
  obtain ⟨i1, ei1⟩ := is_v gg5
  obtain rfl : w1 = (.int i1) := Option.some.inj ei1
  obtain ⟨i2, ei2⟩ := is_v gg7
  obtain rfl : w2 = (.int i2) := Option.some.inj ei2
  obtain ⟨i3, ei3⟩ := is_v gg8
  obtain rfl : w3 = (.int i3) := Option.some.inj ei3
  obtain ⟨n, o, h1, h2, h3, _, L, rfl, ⟨rfl, N⟩, hq⟩ := rm0 l s _ hw tables_1 i0 i1 i2 i3 s.heap s.heap.size (Nat.le_refl _) p e ha hc hk s m _ below hf ((Spec.applies_iff_loose hf).mp happ).1 ⟨rfl, State.Warmed39.refl s, rfl⟩ trivial
  refine ⟨n, _, h1, h2, h3, hpost _ _ _ _ _ _ ⟨Cond.after_iff.mpr rfl, Cond.after_iff.mpr (eq_i res_at (Term.int_eval (1)) rfl), trivial⟩ ⟨hq.1, hq.2.1, (hq.2.2.sift fun y hy => Or.inr (N y hy)).mono (by decide) (by decide)⟩⟩
theorem main_1_1 : Claimed_1_1 := comes_1 fun _ _ _ _ _ _ h hF => ⟨h.1, hF⟩
theorem main_1_2 : Claimed_1_2 := comes_1 fun _ _ _ _ _ _ h hF => ⟨h.2.1, hF⟩
end Jvm.Pilot.@@N@@
namespace Jvm.Pilot.@@N@@
open Jvm Jvm.ClassFile Sem Op Lib Jvm.Free Jvm.Stand Jvm.Pilot.@@N@@.Jvm.D
/-! MADE BY PROGRAM (witnessworld.py) out of the Statement's table words and the real class files: 9 classes; the members and pool entries that the words name. The judged class is class 1, her method 3. -/
namespace start1
open Jvm.ClassFile
def u (s : String) : CpInfo := .utf8 (stringToUtf16 s)
/-- a pool by its gaps: so many unusable entries, then the entry; so many at the end -/
def gap : Nat → List CpInfo → List CpInfo
  | 0, r => r
  | n + 1, r => .unusable :: gap n r
def poolList (es : List (Nat × CpInfo)) (last : Nat) : List CpInfo := es.foldr (fun e r => gap e.1 (e.2 :: r)) (gap last [])
def pool (es : List (Nat × CpInfo)) (last : Nat) : Array CpInfo := ⟨poolList es last⟩
def fileOf (pool : Array CpInfo) (this : Nat) (attrs : Array Attribute := #[]) (ms : Array MethodInfo := #[]) (fl : Nat := 33) (sup : Nat := 0) (ifs : Array Nat := #[]) (fds : Array FieldInfo := #[]) : ClassFile where
  minorVersion := 0
  majorVersion := 65
  constantPool := pool
  accessFlags := fl
  thisClass := this
  superClass := sup
  interfaces := ifs
  fields := fds
  methods := ms
  attributes := attrs
def plain (name : String) (sup : Option ClassId) : Class where
  name := name
  kind := .ordinary
  loader := none
  accessFlags := 33
  super := sup
  interfaces := #[]
  cf := none
  fields := #[]
  methods := #[]
  instanceTypes := #[]
  staticTypes := #[]
  resolved := #[]
  callSites := []
  init := .initialized
  statics := none
  mirror := none

def pool0 : Array CpInfo := pool [(5, u "<init>"), (0, u "()V"), (1, .class_ 10), (1, u "java/lang/Object")] 113

def k0m0 : Method := { name := "<init>", desc := "()V", sig := { parameters := [], returnType := none }, accessFlags := 1, code := none }
/-- java/lang/Object -/
def k0 : Class := { plain "java/lang/Object" none with
  accessFlags := 33
  interfaces := #[]
  cf := some (fileOf pool0 8 #[] #[{ accessFlags := 1, nameIndex := 5, descriptorIndex := 6, attributes := #[] }] 33 0 #[] #[])
  fields := #[]
  methods := #[k0m0]
  instanceTypes := #[]
  staticTypes := #[]
  resolved := Array.replicate 124 none
  statics := none }

def pool1 : Array CpInfo := pool [(2, .class_ 4), (1, u "java/lang/Object"), (0, u "<init>"), (0, u "()V"), (0, .long 128), (1, .long 16384), (1, .long 2097152), (1, .long 268435456), (1, .long 34359738368), (1, .long 4398046511104), (1, .long 562949953421312), (1, .long 72057594037927936), (1, .long 127), (3, .long 9223372036854775807), (1, .methodref 30 31), (0, .class_ 32), (0, .nameAndType 33 34), (0, u "ro/borderou/core/rules/SeenKeys"), (0, u "number"), (0, u "(J[BI)I"), (0, .methodref 36 37), (0, .class_ 38), (0, .nameAndType 39 40), (0, u "ro/borderou/core/rules/SeenKeysNumberPinLaw"), (0, u "len"), (0, u "(J)I"), (0, .methodref 36 42), (0, .nameAndType 43 44), (0, u "pos"), (0, u "([BIIIJB)Z"), (3, u "law"), (0, u "(JIII)Z")] 4

def k1m0 : Method := { name := "<init>", desc := "()V", sig := { parameters := [], returnType := none }, accessFlags := 1, code := none }
def k1c1 : Code := { maxStack := 4, maxLocals := 2, code := method_2_code, exceptionTable := #[], attributes := #[] }
def k1m1 : Method := { name := "len", desc := "(J)I", sig := { parameters := [.long], returnType := some .int }, accessFlags := 10, code := some k1c1 }
def k1c2 : Code := { maxStack := 4, maxLocals := 10, code := method_3_code, exceptionTable := #[], attributes := #[] }
def k1m2 : Method := { name := "pos", desc := "([BIIIJB)Z", sig := { parameters := [(.array .byte), .int, .int, .int, .long, .byte], returnType := some .boolean }, accessFlags := 10, code := some k1c2 }
def k1c3 : Code := { maxStack := 7, maxLocals := 12, code := code, exceptionTable := #[], attributes := #[] }
def k1m3 : Method := { name := "law", desc := "(JIII)Z", sig := { parameters := [.long, .int, .int, .int], returnType := some .boolean }, accessFlags := 9, code := some k1c3 }
/-- ro/borderou/core/rules/SeenKeysNumberPinLaw -/
def k1 : Class := { plain "ro/borderou/core/rules/SeenKeysNumberPinLaw" (some 0) with
  accessFlags := 49
  interfaces := #[]
  cf := some (fileOf pool1 36 #[] #[{ accessFlags := 1, nameIndex := 5, descriptorIndex := 6, attributes := #[] }, { accessFlags := 10, nameIndex := 39, descriptorIndex := 40, attributes := #[] }, { accessFlags := 10, nameIndex := 43, descriptorIndex := 44, attributes := #[] }, { accessFlags := 9, nameIndex := 48, descriptorIndex := 49, attributes := #[] }] 49 2 #[] #[])
  fields := #[]
  methods := #[k1m0, k1m1, k1m2, k1m3]
  instanceTypes := #[]
  staticTypes := #[]
  resolved := Array.replicate 54 none
  statics := none }

def pool2 : Array CpInfo := pool [(4, .class_ 6), (1, u "ro/borderou/core/rules/SeenKeys"), (0, u "<init>"), (2, .class_ 12), (1, u "java/lang/Object"), (0, u "()V"), (2, u "bytes"), (0, u "[B"), (14, u "hash"), (0, u "Lro/borderou/core/rules/SipHash;"), (16, u "slots"), (0, u "[J"), (6, u "used"), (0, u "I"), (20, u "size"), (50, u "number"), (0, u "(J[BI)I"), (0, .long 128), (1, .long 127), (6, u "MAX_ARRAY")] 27

def k2m0 : Method := { name := "<init>", desc := "()V", sig := { parameters := [], returnType := none }, accessFlags := 1, code := none }
def k2c1 : Code := { maxStack := 8, maxLocals := 7, code := prog_98_method_9_code, exceptionTable := #[], attributes := #[] }
def k2m1 : Method := { name := "number", desc := "(J[BI)I", sig := { parameters := [.long, (.array .byte), .int], returnType := some .int }, accessFlags := 8, code := some k2c1 }
/-- ro/borderou/core/rules/SeenKeys -/
def k2 : Class := { plain "ro/borderou/core/rules/SeenKeys" (some 0) with
  accessFlags := 49
  interfaces := #[]
  cf := some (fileOf pool2 4 #[] #[{ accessFlags := 1, nameIndex := 7, descriptorIndex := 13, attributes := #[] }, { accessFlags := 8, nameIndex := 131, descriptorIndex := 132, attributes := #[] }] 49 10 #[] #[{ accessFlags := 26, nameIndex := 142, descriptorIndex := 59, attributes := #[] }, { accessFlags := 18, nameIndex := 32, descriptorIndex := 33, attributes := #[] }, { accessFlags := 2, nameIndex := 16, descriptorIndex := 17, attributes := #[] }, { accessFlags := 2, nameIndex := 58, descriptorIndex := 59, attributes := #[] }, { accessFlags := 2, nameIndex := 50, descriptorIndex := 51, attributes := #[] }, { accessFlags := 2, nameIndex := 80, descriptorIndex := 59, attributes := #[] }])
  fields := #[{ name := "MAX_ARRAY", type := .int, accessFlags := 26, slot := 0, constantValue := 0 }, { name := "hash", type := (.object "ro/borderou/core/rules/SipHash"), accessFlags := 18, slot := 0, constantValue := 0 }, { name := "bytes", type := (.array .byte), accessFlags := 2, slot := 1, constantValue := 0 }, { name := "used", type := .int, accessFlags := 2, slot := 2, constantValue := 0 }, { name := "slots", type := (.array .long), accessFlags := 2, slot := 3, constantValue := 0 }, { name := "size", type := .int, accessFlags := 2, slot := 4, constantValue := 0 }]
  methods := #[k2m0, k2m1]
  instanceTypes := #[(.object "ro/borderou/core/rules/SipHash"), (.array .byte), .int, (.array .long), .int]
  staticTypes := #[.int]
  resolved := Array.replicate 170 none
  statics := none }

def pool3 : Array CpInfo := pool [(1, u "java/lang/Cloneable"), (0, .class_ 1), (0, u "java/lang/Object"), (0, .class_ 3)] 3

/-- java/lang/Cloneable -/
def k3 : Class := { plain "java/lang/Cloneable" (some 0) with
  accessFlags := 1537
  interfaces := #[]
  cf := some (fileOf pool3 2 #[] #[] 1537 4 #[] #[])
  fields := #[]
  methods := #[]
  instanceTypes := #[]
  staticTypes := #[]
  resolved := Array.replicate 8 none
  statics := none }

def pool4 : Array CpInfo := pool [(1, u "java/io/Serializable"), (0, .class_ 1), (0, u "java/lang/Object"), (0, .class_ 3)] 3

/-- java/io/Serializable -/
def k4 : Class := { plain "java/io/Serializable" (some 0) with
  accessFlags := 1537
  interfaces := #[]
  cf := some (fileOf pool4 2 #[] #[] 1537 4 #[] #[])
  fields := #[]
  methods := #[]
  instanceTypes := #[]
  staticTypes := #[]
  resolved := Array.replicate 8 none
  statics := none }

/-- the primitive byte -/
def k5 : Class := { plain "byte" none with kind := .primitive 'B', accessFlags := 0x411 }
/-- [B -/
def k6 : Class := { plain "[B" (some 0) with kind := .array 5 .byte, interfaces := #[3, 4], accessFlags := 1041 }

/-- the primitive int -/
def k7 : Class := { plain "int" none with kind := .primitive 'I', accessFlags := 0x411 }
/-- [I -/
def k8 : Class := { plain "[I" (some 0) with kind := .array 7 .int, interfaces := #[3, 4], accessFlags := 1041 }

def heap : Heap := #[]
def classes : Array Class := #[k0, k1, k2, k3, k4, k5, k6, k7, k8]
def interned : List (Array UInt16 × Addr) := []
def slotsUsed : Nat := 0
def theMethod : MethodId := ⟨1, 3⟩
def args0 : Array Value := #[.long 5, .int 7, .int 3, .int 9]
def aboutOver (below : List Frame) : State where
  vm := { classes := classes, interned := interned.toArray }
  heap := heap
  slotsUsed := slotsUsed
  threads := #[{ frames := .invoking theMethod args0 :: below }]
def below0 : List Frame := [.native { method := ⟨0, 0⟩, args := #[] }]
def about1 : State := aboutOver below0
def p0 : Program := .bare "" "" ""
def e0 : Env := launch0.env 0 0 0
theorem w_frames : about1.frames = Frame.invoking theMethod args0 :: below0 := rfl
set_option maxRecDepth 65536 in
theorem w_args : argsFit about1.vm theMethod args0 = true := by decide +kernel
set_option maxRecDepth 65536 in
theorem w_heap : heapFits about1 = true := by decide +kernel
set_option maxRecDepth 65536 in
theorem w_runnable : about1.curStatus? = some .runnable := by decide +kernel
set_option maxRecDepth 65536 in
theorem w_alone : about1.alone = true := by decide +kernel
set_option maxRecDepth 65536 in
theorem w_named : about1.methodNamed? x = some theMethod := by decide +kernel
set_option maxRecDepth 65536 in
theorem w_hears : about1.hears theMethod below0 = true := by decide +kernel
set_option maxRecDepth 65536 in
theorem w_ripe : about1.ripe theMethod args0 below0 = true := by decide +kernel
theorem w_running : about1.status = .running := rfl
set_option maxRecDepth 65536 in
theorem w_room : about1.hasRoom e0.platform room_1 = true :=
  launch0.hasRoom_least _ room_1 (by decide +kernel) (by decide +kernel) (by decide +kernel) (by decide +kernel) (by decide +kernel) (by decide +kernel)
theorem allAtoms_all (ts : List Jvm.Cond) (a : Array Jvm.Value) (st : Jvm.State) : (allAtoms ts).before a st = ts.all (fun c => c.before a st) := by
  induction ts with
  | nil => rfl
  | cons c t ih =>
    show (Jvm.Cond.and c (allAtoms t)).before a st = _
    rw [Jvm.Cond.before_and, ih, List.all_cons]
def words1 : List Jvm.Cond := Jvm.Cond.code x code maxLocals ret :: tables_1
/-- a 'code' word, met by the world's own term for the bytes: nothing is compared byte by byte -/
theorem code_word {y : MethodName} {bytes : ByteArray} {mx : Nat} {rt : Option FieldType} {a : Array Value} {s : State} {m : MethodId} {meth : Method} {c : Code} (h1 : s.methodNamed? y = some m) (h2 : s.vm.method? m = some meth) (h3 : meth.code = some c) (h4 : c.code = bytes)
    (h5 : (c.maxLocals == mx && c.exceptionTable.isEmpty && decide (c.maxStack ≤ mostOperands) && decide (meth.sig.returnType = rt) && !meth.locks && decide (parseMethodDescriptor y.desc = some meth.sig)) = true) : (Jvm.Cond.code y bytes mx rt).before a s = true := by
  simp only [Bool.and_eq_true, beq_iff_eq, Bool.not_eq_true', decide_eq_true_eq] at h5
  obtain ⟨⟨⟨⟨⟨g1, g2⟩, g3⟩, g4⟩, g5⟩, g6⟩ := h5
  simp [Cond.before, Cond.holds, Cond.value, h1, h2, h3, h4, g1, g2, g3, g4, g5, g6]
def isCode : Jvm.Cond → Bool
  | .code _ _ _ _ => true
  | _ => false
theorem all_split {L : List Jvm.Cond} {P : Jvm.Cond → Bool} (h1 : L.all (fun c => isCode c || P c) = true) (h2 : ∀ c ∈ L.filter isCode, P c = true) : L.all P = true := by
  refine List.all_eq_true.mpr fun c hc => ?_
  have h := List.all_eq_true.mp h1 c hc
  rcases Bool.eq_false_or_eq_true (isCode c) with hi | hi
  · exact h2 c (List.mem_filter.mpr ⟨hc, hi⟩)
  · simpa [hi] using h
set_option maxRecDepth 65536 in
theorem w_c0 : (Jvm.Cond.code x code maxLocals ret).before args0 about1 = true := code_word (m := ⟨1, 3⟩) (meth := k1m3) (c := k1c3) (by decide +kernel) rfl rfl rfl (by decide +kernel)
set_option maxRecDepth 65536 in
theorem w_c1 : (Jvm.Cond.code ({ cls := "ro/borderou/core/rules/SeenKeys", name := "number", desc := "(J[BI)I" } : Jvm.MethodName) prog_98_method_9_code (7 : Nat) (Option.some Jvm.ClassFile.FieldType.int)).before args0 about1 = true := code_word (m := ⟨2, 1⟩) (meth := k2m1) (c := k2c1) (by decide +kernel) rfl rfl rfl (by decide +kernel)
set_option maxRecDepth 65536 in
theorem w_c2 : (Jvm.Cond.code ({ cls := "ro/borderou/core/rules/SeenKeysNumberPinLaw", name := "len", desc := "(J)I" } : Jvm.MethodName) method_2_code (2 : Nat) (Option.some Jvm.ClassFile.FieldType.int)).before args0 about1 = true := code_word (m := ⟨1, 1⟩) (meth := k1m1) (c := k1c1) (by decide +kernel) rfl rfl rfl (by decide +kernel)
set_option maxRecDepth 65536 in
theorem w_c3 : (Jvm.Cond.code ({ cls := "ro/borderou/core/rules/SeenKeysNumberPinLaw", name := "pos", desc := "([BIIIJB)Z" } : Jvm.MethodName) method_3_code (10 : Nat) (Option.some Jvm.ClassFile.FieldType.boolean)).before args0 about1 = true := code_word (m := ⟨1, 2⟩) (meth := k1m2) (c := k1c2) (by decide +kernel) rfl rfl rfl (by decide +kernel)
def codes1 : List Jvm.Cond := [Jvm.Cond.code x code maxLocals ret, Jvm.Cond.code ({ cls := "ro/borderou/core/rules/SeenKeys", name := "number", desc := "(J[BI)I" } : Jvm.MethodName) prog_98_method_9_code (7 : Nat) (Option.some Jvm.ClassFile.FieldType.int), Jvm.Cond.code ({ cls := "ro/borderou/core/rules/SeenKeysNumberPinLaw", name := "len", desc := "(J)I" } : Jvm.MethodName) method_2_code (2 : Nat) (Option.some Jvm.ClassFile.FieldType.int), Jvm.Cond.code ({ cls := "ro/borderou/core/rules/SeenKeysNumberPinLaw", name := "pos", desc := "([BIIIJB)Z" } : Jvm.MethodName) method_3_code (10 : Nat) (Option.some Jvm.ClassFile.FieldType.boolean)]
set_option maxRecDepth 65536 in
theorem codes_eq : words1.filter isCode = codes1 := rfl
theorem w_codes : ∀ c ∈ words1.filter isCode, c.before args0 about1 = true := by
  rw [codes_eq]
  intro c hc
  simp only [codes1, List.mem_cons, List.not_mem_nil, or_false] at hc
  rcases hc with rfl | rfl | rfl | rfl
  · exact w_c0
  · exact w_c1
  · exact w_c2
  · exact w_c3
set_option maxRecDepth 65536 in
theorem w_t1 : (words1.take 24).all (fun c => isCode c || c.before args0 about1) = true := by decide +kernel
set_option maxRecDepth 65536 in
theorem w_t2 : (words1.drop 24).all (fun c => isCode c || c.before args0 about1) = true := by decide +kernel
theorem w_tables : (allAtoms (Jvm.Cond.code x code maxLocals ret :: tables_1)).before args0 about1 = true := by
  rw [allAtoms_all]
  show words1.all (fun c => c.before args0 about1) = true
  refine all_split ?_ w_codes
  rw [← List.take_append_drop 24 words1, List.all_append, w_t1, w_t2]
  rfl
set_option maxRecDepth 65536 in
theorem w_case : (Jvm.Cond.and given_1 narrow_1).before args0 about1 = true := by decide +kernel
theorem w_applies : (headSpec (Jvm.Cond.code x code maxLocals ret :: tables_1) room_1).applies x e0.platform about1 = true :=
  (Spec.applies_iff w_frames).mpr ⟨w_running, w_runnable, w_alone, w_named, w_hears, w_ripe, w_room, w_tables⟩
theorem atStart : AtStart classFile x code maxLocals ret World_1 tables_1 room_1 Calls_1 rest_1 Pre_1 launch0 p0 e0 about1 theMethod args0 below0 :=
  ⟨lists_1, trivial, launch0.admits_env _ _ _, launch0.least_env, fairChoices_fair.cas, fairChoices_fair.clock, w_frames, w_args, w_heap, w_applies, trivial, trivial, w_case⟩
end start1
theorem witness_1 : WitnessClaimed_1 := ⟨start1.p0, start1.e0, start1.about1, start1.theMethod, start1.args0, start1.below0, start1.atStart⟩
end Jvm.Pilot.@@N@@
