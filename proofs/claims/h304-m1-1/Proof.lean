import JvmDerived
import JvmDerived.Pilot.@@N@@Statement
import JvmDerived.Pilot.@@N@@Code
set_option linter.unusedVariables false
set_option linter.unusedSimpArgs false
namespace Jvm.Pilot.@@N@@
open Jvm Jvm.ClassFile Sem Op Lib Jvm.Free Jvm.Stand Jvm.LawKit Jvm.RoadKit Bundle Jvm.Pilot.@@N@@.Jvm.D
/-! THE OWN KIT: the walk from a state to its end, as one proposition (own_Go); its steps, its leaves, its entry. -/
section OwnKit
variable {p : Program} {l : Launch} {e : Env} {R : Room} {s : State} {m : MethodId} {args : Array Value} {below : List Frame} {meth : Method} {c : Code} {T : State} {locs : List Loc} {cells slots : Nat}
variable {Q : Option Value → Heap → List Loc → Prop} {rc rs : Nat}
/-- from U the run ends in a return, and Q says what it leaves -/
def own_Go (p : Program) (e : Env) (below : List Frame) (s : State) (Q : Option Value → Heap → List Loc → Prop) (rc rs : Nat) (U : State) : Prop :=
  ∃ s₂ o, Steps p.tables e below U s₂ ∧ s₂.status = .running ∧ Ended s₂ below o ∧ ∃ v L, o = .returned v ∧ Q v s₂.heap L ∧ FrameEnd s o s₂ L rc rs
theorem own_by {A B : State} (k : ∀ t, Steps p.tables e below B t → Steps p.tables e below A t) (h : own_Go p e below s Q rc rs B) : own_Go p e below s Q rc rs A := by
  obtain ⟨s₂, o, h1, r⟩ := h
  exact ⟨s₂, o, k _ h1, r⟩
theorem own_imp {Q' : Option Value → Heap → List Loc → Prop} {A : State} (k : ∀ v h L, Q v h L → Q' v h L) (h : own_Go p e below s Q rc rs A) : own_Go p e below s Q' rc rs A := by
  obtain ⟨s₂, o, h1, h2, h3, v, L, h4, h5, h6⟩ := h
  exact ⟨s₂, o, h1, h2, h3, v, L, h4, k _ _ _ h5, h6⟩
theorem own_leave (X : Stand p l e R s m args below meth c T locs cells slots) (hlk : meth.locks = false) {v : Option Value} (hv : meth.sig.returnType = none → v = none) {U : State}
    (hst : ∀ fs, (∀ (f : JFrame) (acts : List Action), f.method = m → f.locked = none → f.entered = [] → (doReturn e (T.setTop f) acts v).1 = T.setFrames fs) → Steps p.tables e below U (T.setFrames fs))
    (hq : Q v T.heap locs) (hc : cells ≤ rc) (hs : slots ≤ rs) : own_Go p e below s Q rc rs U := by
  obtain ⟨fs, hr, hrun, hended, hW, hsame⟩ := X.leave (v := v) hv hlk
  exact ⟨_, _, hst fs hr, hrun, hended, _, _, rfl, hq, ⟨_, rfl⟩, hW, hsame.mono hc hs⟩
theorem own_ret (X : Stand p l e R s m args below meth c T locs cells slots) (hx : p.tables.exec = Jvm.exec) (hlk : meth.locks = false) (hret : meth.sig.returnType = none) {pc : Nat} {Ls : Array Slot} (hd : decode c.code pc = .ok (.return_, 1))
    (hq : Q none T.heap locs) (hc : cells ≤ rc) (hs : slots ≤ rs) : own_Go p e below s Q rc rs (T.setTop (mkF m pc Ls [])) :=
  own_leave X hlk (fun _ => rfl) (fun _ hr => X.returnOut hx hret hd hr) hq hc hs
theorem own_retI (X : Stand p l e R s m args below meth c T locs cells slots) (hx : p.tables.exec = Jvm.exec) (hlk : meth.locks = false) (hret : meth.sig.returnType = some .int) {pc : Nat} {Ls : Array Slot} {z : Int32} (hd : decode c.code pc = .ok (.ireturn, 1))
    (hq : Q (some (.int z)) T.heap locs) (hc : cells ≤ rc) (hs : slots ≤ rs) : own_Go p e below s Q rc rs (T.setTop (mkF m pc Ls [.int z])) :=
  own_leave X hlk (fun h => by rw [hret] at h; cases h) (fun _ hr => X.ireturnOut hx hret rfl (Or.inl rfl) hd hr) hq hc hs
theorem own_retN {t : FieldType} (ht : t = .boolean ∨ t = .byte ∨ t = .char ∨ t = .short) (X : Stand p l e R s m args below meth c T locs cells slots) (hx : p.tables.exec = Jvm.exec) (hlk : meth.locks = false) (hret : meth.sig.returnType = some t) {pc : Nat} {Ls : Array Slot} {z z' : Int32} (hn : nar t z = z') (hd : decode c.code pc = .ok (.ireturn, 1))
    (hq : Q (some (.int z')) T.heap locs) (hc : cells ≤ rc) (hs : slots ≤ rs) : own_Go p e below s Q rc rs (T.setTop (mkF m pc Ls [.int z])) := by
  subst hn
  exact own_leave X hlk (fun h => by rw [hret] at h; cases h) (fun _ hr => retN X hx hret ht hd hr) hq hc hs
theorem own_retJ (X : Stand p l e R s m args below meth c T locs cells slots) (hx : p.tables.exec = Jvm.exec) (hlk : meth.locks = false) (hret : meth.sig.returnType = some .long) {pc : Nat} {Ls : Array Slot} {z : Int64} (hd : decode c.code pc = .ok (.lreturn, 1))
    (hq : Q (some (.long z)) T.heap locs) (hc : cells ≤ rc) (hs : slots ≤ rs) : own_Go p e below s Q rc rs (T.setTop (mkF m pc Ls [.long z])) :=
  own_leave X hlk (fun h => by rw [hret] at h; cases h) (fun _ hr => X.lreturnOut hx hret hd hr) hq hc hs
theorem own_retA {t : FieldType} (ht : t.isReference = true) (X : Stand p l e R s m args below meth c T locs cells slots) (hx : p.tables.exec = Jvm.exec) (hlk : meth.locks = false) (hret : meth.sig.returnType = some t) {pc : Nat} {Ls : Array Slot} {a : Addr} (hd : decode c.code pc = .ok (.areturn, 1))
    (hq : Q (some (.ref a)) T.heap locs) (hc : cells ≤ rc) (hs : slots ≤ rs) : own_Go p e below s Q rc rs (T.setTop (mkF m pc Ls [.ref a])) :=
  own_leave X hlk (fun h => by rw [hret] at h; cases h) (fun _ hr => X.areturnOut hx rfl hret ht hd hr) hq hc hs
/-- a body's contract out of its walk -/
theorem own_met {y : MethodName} {bytes : ByteArray} {maxL : Nat} {ret : Option FieldType} {ws : List Jvm.Cond} {rm : Room} {as' : Array Value} {Z : State} {h0 : Heap} (hpl : plainFor y = true)
    (body : ∀ (p : Program) (e : Env) (s : State) (m : MethodId) (below : List Frame) (meth : Method) (c : Code) (T : State), Stand p l e rm s m as' below meth c T [] 0 0 → p.tables.exec = Jvm.exec → c.code = bytes → c.maxLocals = maxL → meth.sig.returnType = ret → meth.locks = false →
      Z.Warmed39 s.vm → s.vm.findClass y.cls = some m.cls → meth.name = y.name → T.heap = h0 → own_Go p e below s Q rc rs (T.setTop (entryFrame m as' maxL))) :
    MetFree l y (head1 (Jvm.Cond.code y bytes maxL ret :: ws) rm) (fun a U => a = as' ∧ Z.Warmed39 U.vm ∧ U.heap = h0) (fun _ _ _ _ _ => True) (fun _ U o U' => ∃ v L, o = .returned v ∧ Q v U'.heap L ∧ FrameEnd U o U' L rc rs) := by
  refine MetFree.of_bodySF hpl hisR ?_
  intro p e s m args below meth c s₁ Bd hml0 hP hK
  obtain ⟨rfl, hZ, hh⟩ := hP
  exact body p e s m below meth c s₁ (Stand.of_body Bd) Bd.exec Bd.bytes hml0 Bd.returns (BodyLoose.notSynchronized Bd) hZ (findClass_of_methodNamed Bd.named) (name_of_methodNamed Bd.named Bd.method).1 (by rw [← hh, Bd.state]; rfl)
theorem own_cast {g g' : JFrame} (q : g = g') (k : own_Go p e below s Q rc rs (T.setTop g')) : own_Go p e below s Q rc rs (T.setTop g) := q ▸ k
/-- what a body that writes nothing leaves -/
def own_Qp (r : Option Value) (h0 : Heap) (v : Option Value) (h : Heap) (L : List Loc) : Prop := v = r ∧ L = [] ∧ h = h0
theorem own_selPriv {a1 a2 : Array Value} {y y' z' : MethodName} {C : String} (h : (Jvm.Cond.selects C y' z').before a1 s = true) (hz : z'.cls = y.cls) (hpriv : s.PrivateAt y) (hinst : (Jvm.Cond.instanceMethod y).before a2 s = true) (hy : y.cls ≠ "java/lang/invoke/MethodHandle" ∧ y.cls ≠ "java/lang/invoke/VarHandle") : (Jvm.Cond.selects y.cls y y).before a2 s = true := by
  obtain ⟨_, _, m2, -, -, q3, -, kP, hkP, hkPi⟩ := Cond.selects_spec h
  exact selects_self_of_private (by rw [← hz]; exact findClass_of_methodNamed q3) hkP hkPi hpriv hinst hy
end OwnKit
/-! arrays of ints (bytes, booleans) by a function from places to values -/
section OwnArr
variable {Z : State} {h h' : Heap} {a b : Addr} {ty : FieldType} {n : Nat} {f : Nat → Int32} {sl : Nat} {v : Value} {ws : List Addr}
def own_BA (Z : State) (h : Heap) (a : Addr) (ty : FieldType) (n : Nat) (f : Nat → Int32) : Prop := ∃ c : Cell, Arr Z h a c ty ∧ c.slots.size = n ∧ ∀ i, i < n → c.slots[i]? = some (.int (f i))
def own_up (f : Nat → Int32) (j : Nat) (x : Int32) (i : Nat) : Int32 := if i = j then x else f i
theorem own_BA.lt (F : own_BA Z h a ty n f) : a < h.size := by obtain ⟨c, A, -⟩ := F; exact A.lt
theorem own_BA.ext (F : own_BA Z h a ty n f) (E : Ext h h') : own_BA Z h' a ty n f := by obtain ⟨c, A, r⟩ := F; exact ⟨c, A.ext E, r⟩
theorem own_BA.other (F : own_BA Z h a ty n f) (W : Wr h h' b sl v) (q : a ≠ b) : own_BA Z h' a ty n f := by obtain ⟨c, A, r⟩ := F; exact ⟨c, A.other W q, r⟩
theorem own_BA.keep (F : own_BA Z h a ty n f) (K : Keep h h' ws) (q : a ∉ ws) : own_BA Z h' a ty n f := by obtain ⟨c, A, r⟩ := F; exact ⟨c, ⟨K.2.1 a c A.1 q, A.2⟩, r⟩
theorem own_BA.new {k : ClassId} {z : Int32} (A : Arr Z h a (newA k ty z) ty) (hz : z.toNatClampNeg = n) (hd : defaultValue ty = .int 0) : own_BA Z h a ty n (fun _ => 0) := by
  refine ⟨_, A, by rw [sz_new, hz], fun i hi => ?_⟩
  simp only [newA, hd, hz]
  rw [Array.getElem?_replicate, if_pos hi]
theorem own_BA.same {j : Nat} {x : Int32} (F : own_BA Z h a ty n f) (W : Wr h h' a j (.int x)) : own_BA Z h' a ty n (own_up f j x) := by
  obtain ⟨c, A, S, H⟩ := F
  refine ⟨_, A.same W, by rw [sz_set]; exact S, fun i hi => ?_⟩
  have hs : i < c.slots.size := by rw [S]; exact hi
  show (c.slots.setIfInBounds j (.int x))[i]? = _
  by_cases q : i = j
  · subst q
    rw [Array.getElem?_setIfInBounds_self_of_lt hs]
    simp [own_up]
  · rw [Array.getElem?_setIfInBounds_ne (Ne.symm q), H i hi]
    simp [own_up, q]
theorem own_BA.cong {g : Nat → Int32} (F : own_BA Z h a ty n f) (q : ∀ i, i < n → f i = g i) : own_BA Z h a ty n g := by
  obtain ⟨c, A, S, H⟩ := F
  exact ⟨c, A, S, fun i hi => by rw [H i hi, q i hi]⟩
theorem own_in {c : Cell} {j : Int32} (S : c.slots.size = n) (q : ¬ j < 0 ∧ j.toNatClampNeg < n) : ¬ (j < 0 ∨ c.slots.size ≤ j.toNatClampNeg) := by
  rw [S]; exact fun z => z.elim q.1 (fun y => absurd q.2 (Nat.not_lt.mpr y))
theorem own_lt {c : Cell} {j : Int32} (S : c.slots.size = n) (q : ¬ (j < 0 ∨ c.slots.size ≤ j.toNatClampNeg)) : j.toNatClampNeg < n := by
  rw [S] at q; exact Nat.lt_of_not_le fun y => q (Or.inr y)
end OwnArr
theorem pd_0 : parseMethodDescriptor "(I[BI)I" = some ⟨[.int, (.array .byte), .int], some .int⟩ := by decide +kernel
theorem pd_1 : parseMethodDescriptor "([BIIIB)Z" = some ⟨[(.array .byte), .int, .int, .int, .byte], some .boolean⟩ := by decide +kernel
theorem pd_2 : parseMethodDescriptor "([BI)I" = some ⟨[(.array .byte), .int], some .int⟩ := by decide +kernel
def own_enc (ff : Nat → Int32) (x0 x2 : Int32) : Nat → Int32 := if x0 < (128 : Int32) then (own_up ff (x2).toNatClampNeg (nar .byte (x0.toInt8.toInt32))) else if x0 < (2048 : Int32) then (own_up (own_up ff (x2).toNatClampNeg (nar .byte (((192 : Int32) ||| (x0 >>> ((6 : Int32) &&& 31))).toInt8.toInt32))) ((x2 + (1 : Int32))).toNatClampNeg (nar .byte (((128 : Int32) ||| (x0 &&& (63 : Int32))).toInt8.toInt32))) else if x0 < (65536 : Int32) then (own_up (own_up (own_up ff (x2).toNatClampNeg (nar .byte (((224 : Int32) ||| (x0 >>> ((12 : Int32) &&& 31))).toInt8.toInt32))) ((x2 + (1 : Int32))).toNatClampNeg (nar .byte (((128 : Int32) ||| ((x0 >>> ((6 : Int32) &&& 31)) &&& (63 : Int32))).toInt8.toInt32))) ((x2 + (2 : Int32))).toNatClampNeg (nar .byte (((128 : Int32) ||| (x0 &&& (63 : Int32))).toInt8.toInt32))) else (own_up (own_up (own_up (own_up ff (x2).toNatClampNeg (nar .byte (((240 : Int32) ||| (x0 >>> ((18 : Int32) &&& 31))).toInt8.toInt32))) ((x2 + (1 : Int32))).toNatClampNeg (nar .byte (((128 : Int32) ||| ((x0 >>> ((12 : Int32) &&& 31)) &&& (63 : Int32))).toInt8.toInt32))) ((x2 + (2 : Int32))).toNatClampNeg (nar .byte (((128 : Int32) ||| ((x0 >>> ((6 : Int32) &&& 31)) &&& (63 : Int32))).toInt8.toInt32))) ((x2 + (3 : Int32))).toNatClampNeg (nar .byte (((128 : Int32) ||| (x0 &&& (63 : Int32))).toInt8.toInt32)))
def own_n (x0 : Int32) : Int32 := if x0 < (128 : Int32) then (1 : Int32) else if x0 < (2048 : Int32) then (2 : Int32) else if x0 < (65536 : Int32) then (3 : Int32) else (4 : Int32)
theorem own_k (x y : Int32) (d : Int) (hy : y.toInt = d) (h0 : 0 ≤ x.toInt ∧ x.toInt ≤ 3) (h1 : 0 ≤ d ∧ d ≤ 4) : (x + y).toInt = x.toInt + d := by
  have a := c_iadd x y
  have r := rng32 (x + y)
  omega
theorem own_ix (x y : Int32) (h0 : 0 ≤ x.toInt ∧ x.toInt ≤ 3) (h1 : 0 ≤ y.toInt ∧ y.toInt ≤ 4) : ¬ (x + y) < 0 ∧ (x + y).toNatClampNeg < 8 := by
  have a := own_k x y _ rfl h0 h1
  have e0 : (0 : Int32).toInt = 0 := by decide
  rw [Int32.lt_iff_toInt_lt]
  refine ⟨by omega, ?_⟩
  show (x + y).toInt.toNat < 8
  omega
theorem own_ix0 (x : Int32) (h0 : 0 ≤ x.toInt ∧ x.toInt ≤ 3) : ¬ x < 0 ∧ x.toNatClampNeg < 8 := by
  have e0 : (0 : Int32).toInt = 0 := by decide
  rw [Int32.lt_iff_toInt_lt]
  refine ⟨by omega, ?_⟩
  show x.toInt.toNat < 8
  omega
theorem d1_0 : decode prog_146_method_7_code 0 = .ok (.iload_n 0, 1) := by decide +kernel
theorem d1_1 : decode prog_146_method_7_code 1 = .ok (.sipush 128, 3) := by decide +kernel
theorem d1_4 : decode prog_146_method_7_code 4 = .ok (.if_icmp .ge 15, 3) := by decide +kernel
theorem d1_7 : decode prog_146_method_7_code 7 = .ok (.aload_n 1, 1) := by decide +kernel
theorem d1_8 : decode prog_146_method_7_code 8 = .ok (.iload_n 2, 1) := by decide +kernel
theorem d1_9 : decode prog_146_method_7_code 9 = .ok (.iload_n 0, 1) := by decide +kernel
theorem d1_10 : decode prog_146_method_7_code 10 = .ok (.i2b, 1) := by decide +kernel
theorem d1_11 : decode prog_146_method_7_code 11 = .ok (.bastore, 1) := by decide +kernel
theorem d1_12 : decode prog_146_method_7_code 12 = .ok (.iload_n 2, 1) := by decide +kernel
theorem d1_13 : decode prog_146_method_7_code 13 = .ok (.iconst 1, 1) := by decide +kernel
theorem d1_14 : decode prog_146_method_7_code 14 = .ok (.iadd, 1) := by decide +kernel
theorem d1_15 : decode prog_146_method_7_code 15 = .ok (.istore_n 3, 1) := by decide +kernel
theorem d1_16 : decode prog_146_method_7_code 16 = .ok (.goto 163, 3) := by decide +kernel
theorem d1_19 : decode prog_146_method_7_code 19 = .ok (.iload_n 0, 1) := by decide +kernel
theorem d1_20 : decode prog_146_method_7_code 20 = .ok (.sipush 2048, 3) := by decide +kernel
theorem d1_23 : decode prog_146_method_7_code 23 = .ok (.if_icmp .ge 36, 3) := by decide +kernel
theorem d1_26 : decode prog_146_method_7_code 26 = .ok (.aload_n 1, 1) := by decide +kernel
theorem d1_27 : decode prog_146_method_7_code 27 = .ok (.iload_n 2, 1) := by decide +kernel
theorem d1_28 : decode prog_146_method_7_code 28 = .ok (.sipush 192, 3) := by decide +kernel
theorem d1_31 : decode prog_146_method_7_code 31 = .ok (.iload_n 0, 1) := by decide +kernel
theorem d1_32 : decode prog_146_method_7_code 32 = .ok (.bipush 6, 2) := by decide +kernel
theorem d1_34 : decode prog_146_method_7_code 34 = .ok (.ishr, 1) := by decide +kernel
theorem d1_35 : decode prog_146_method_7_code 35 = .ok (.ior, 1) := by decide +kernel
theorem d1_36 : decode prog_146_method_7_code 36 = .ok (.i2b, 1) := by decide +kernel
theorem d1_37 : decode prog_146_method_7_code 37 = .ok (.bastore, 1) := by decide +kernel
theorem d1_38 : decode prog_146_method_7_code 38 = .ok (.aload_n 1, 1) := by decide +kernel
theorem d1_39 : decode prog_146_method_7_code 39 = .ok (.iload_n 2, 1) := by decide +kernel
theorem d1_40 : decode prog_146_method_7_code 40 = .ok (.iconst 1, 1) := by decide +kernel
theorem d1_41 : decode prog_146_method_7_code 41 = .ok (.iadd, 1) := by decide +kernel
theorem d1_42 : decode prog_146_method_7_code 42 = .ok (.sipush 128, 3) := by decide +kernel
theorem d1_45 : decode prog_146_method_7_code 45 = .ok (.iload_n 0, 1) := by decide +kernel
theorem d1_46 : decode prog_146_method_7_code 46 = .ok (.bipush 63, 2) := by decide +kernel
theorem d1_48 : decode prog_146_method_7_code 48 = .ok (.iand, 1) := by decide +kernel
theorem d1_49 : decode prog_146_method_7_code 49 = .ok (.ior, 1) := by decide +kernel
theorem d1_50 : decode prog_146_method_7_code 50 = .ok (.i2b, 1) := by decide +kernel
theorem d1_51 : decode prog_146_method_7_code 51 = .ok (.bastore, 1) := by decide +kernel
theorem d1_52 : decode prog_146_method_7_code 52 = .ok (.iload_n 2, 1) := by decide +kernel
theorem d1_53 : decode prog_146_method_7_code 53 = .ok (.iconst 2, 1) := by decide +kernel
theorem d1_54 : decode prog_146_method_7_code 54 = .ok (.iadd, 1) := by decide +kernel
theorem d1_55 : decode prog_146_method_7_code 55 = .ok (.istore_n 3, 1) := by decide +kernel
theorem d1_56 : decode prog_146_method_7_code 56 = .ok (.goto 123, 3) := by decide +kernel
theorem d1_59 : decode prog_146_method_7_code 59 = .ok (.iload_n 0, 1) := by decide +kernel
theorem d1_60 : decode prog_146_method_7_code 60 = .ok (.ldc 52, 2) := by decide +kernel
theorem d1_62 : decode prog_146_method_7_code 62 = .ok (.if_icmp .ge 53, 3) := by decide +kernel
theorem d1_65 : decode prog_146_method_7_code 65 = .ok (.aload_n 1, 1) := by decide +kernel
theorem d1_66 : decode prog_146_method_7_code 66 = .ok (.iload_n 2, 1) := by decide +kernel
theorem d1_67 : decode prog_146_method_7_code 67 = .ok (.sipush 224, 3) := by decide +kernel
theorem d1_70 : decode prog_146_method_7_code 70 = .ok (.iload_n 0, 1) := by decide +kernel
theorem d1_71 : decode prog_146_method_7_code 71 = .ok (.bipush 12, 2) := by decide +kernel
theorem d1_73 : decode prog_146_method_7_code 73 = .ok (.ishr, 1) := by decide +kernel
theorem d1_74 : decode prog_146_method_7_code 74 = .ok (.ior, 1) := by decide +kernel
theorem d1_75 : decode prog_146_method_7_code 75 = .ok (.i2b, 1) := by decide +kernel
theorem d1_76 : decode prog_146_method_7_code 76 = .ok (.bastore, 1) := by decide +kernel
theorem d1_77 : decode prog_146_method_7_code 77 = .ok (.aload_n 1, 1) := by decide +kernel
theorem d1_78 : decode prog_146_method_7_code 78 = .ok (.iload_n 2, 1) := by decide +kernel
theorem d1_79 : decode prog_146_method_7_code 79 = .ok (.iconst 1, 1) := by decide +kernel
theorem d1_80 : decode prog_146_method_7_code 80 = .ok (.iadd, 1) := by decide +kernel
theorem d1_81 : decode prog_146_method_7_code 81 = .ok (.sipush 128, 3) := by decide +kernel
theorem d1_84 : decode prog_146_method_7_code 84 = .ok (.iload_n 0, 1) := by decide +kernel
theorem d1_85 : decode prog_146_method_7_code 85 = .ok (.bipush 6, 2) := by decide +kernel
theorem d1_87 : decode prog_146_method_7_code 87 = .ok (.ishr, 1) := by decide +kernel
theorem d1_88 : decode prog_146_method_7_code 88 = .ok (.bipush 63, 2) := by decide +kernel
theorem d1_90 : decode prog_146_method_7_code 90 = .ok (.iand, 1) := by decide +kernel
theorem d1_91 : decode prog_146_method_7_code 91 = .ok (.ior, 1) := by decide +kernel
theorem d1_92 : decode prog_146_method_7_code 92 = .ok (.i2b, 1) := by decide +kernel
theorem d1_93 : decode prog_146_method_7_code 93 = .ok (.bastore, 1) := by decide +kernel
theorem d1_94 : decode prog_146_method_7_code 94 = .ok (.aload_n 1, 1) := by decide +kernel
theorem d1_95 : decode prog_146_method_7_code 95 = .ok (.iload_n 2, 1) := by decide +kernel
theorem d1_96 : decode prog_146_method_7_code 96 = .ok (.iconst 2, 1) := by decide +kernel
theorem d1_97 : decode prog_146_method_7_code 97 = .ok (.iadd, 1) := by decide +kernel
theorem d1_98 : decode prog_146_method_7_code 98 = .ok (.sipush 128, 3) := by decide +kernel
theorem d1_101 : decode prog_146_method_7_code 101 = .ok (.iload_n 0, 1) := by decide +kernel
theorem d1_102 : decode prog_146_method_7_code 102 = .ok (.bipush 63, 2) := by decide +kernel
theorem d1_104 : decode prog_146_method_7_code 104 = .ok (.iand, 1) := by decide +kernel
theorem d1_105 : decode prog_146_method_7_code 105 = .ok (.ior, 1) := by decide +kernel
theorem d1_106 : decode prog_146_method_7_code 106 = .ok (.i2b, 1) := by decide +kernel
theorem d1_107 : decode prog_146_method_7_code 107 = .ok (.bastore, 1) := by decide +kernel
theorem d1_108 : decode prog_146_method_7_code 108 = .ok (.iload_n 2, 1) := by decide +kernel
theorem d1_109 : decode prog_146_method_7_code 109 = .ok (.iconst 3, 1) := by decide +kernel
theorem d1_110 : decode prog_146_method_7_code 110 = .ok (.iadd, 1) := by decide +kernel
theorem d1_111 : decode prog_146_method_7_code 111 = .ok (.istore_n 3, 1) := by decide +kernel
theorem d1_112 : decode prog_146_method_7_code 112 = .ok (.goto 67, 3) := by decide +kernel
theorem d1_115 : decode prog_146_method_7_code 115 = .ok (.aload_n 1, 1) := by decide +kernel
theorem d1_116 : decode prog_146_method_7_code 116 = .ok (.iload_n 2, 1) := by decide +kernel
theorem d1_117 : decode prog_146_method_7_code 117 = .ok (.sipush 240, 3) := by decide +kernel
theorem d1_120 : decode prog_146_method_7_code 120 = .ok (.iload_n 0, 1) := by decide +kernel
theorem d1_121 : decode prog_146_method_7_code 121 = .ok (.bipush 18, 2) := by decide +kernel
theorem d1_123 : decode prog_146_method_7_code 123 = .ok (.ishr, 1) := by decide +kernel
theorem d1_124 : decode prog_146_method_7_code 124 = .ok (.ior, 1) := by decide +kernel
theorem d1_125 : decode prog_146_method_7_code 125 = .ok (.i2b, 1) := by decide +kernel
theorem d1_126 : decode prog_146_method_7_code 126 = .ok (.bastore, 1) := by decide +kernel
theorem d1_127 : decode prog_146_method_7_code 127 = .ok (.aload_n 1, 1) := by decide +kernel
theorem d1_128 : decode prog_146_method_7_code 128 = .ok (.iload_n 2, 1) := by decide +kernel
theorem d1_129 : decode prog_146_method_7_code 129 = .ok (.iconst 1, 1) := by decide +kernel
theorem d1_130 : decode prog_146_method_7_code 130 = .ok (.iadd, 1) := by decide +kernel
theorem d1_131 : decode prog_146_method_7_code 131 = .ok (.sipush 128, 3) := by decide +kernel
theorem d1_134 : decode prog_146_method_7_code 134 = .ok (.iload_n 0, 1) := by decide +kernel
theorem d1_135 : decode prog_146_method_7_code 135 = .ok (.bipush 12, 2) := by decide +kernel
theorem d1_137 : decode prog_146_method_7_code 137 = .ok (.ishr, 1) := by decide +kernel
theorem d1_138 : decode prog_146_method_7_code 138 = .ok (.bipush 63, 2) := by decide +kernel
theorem d1_140 : decode prog_146_method_7_code 140 = .ok (.iand, 1) := by decide +kernel
theorem d1_141 : decode prog_146_method_7_code 141 = .ok (.ior, 1) := by decide +kernel
theorem d1_142 : decode prog_146_method_7_code 142 = .ok (.i2b, 1) := by decide +kernel
theorem d1_143 : decode prog_146_method_7_code 143 = .ok (.bastore, 1) := by decide +kernel
theorem d1_144 : decode prog_146_method_7_code 144 = .ok (.aload_n 1, 1) := by decide +kernel
theorem d1_145 : decode prog_146_method_7_code 145 = .ok (.iload_n 2, 1) := by decide +kernel
theorem d1_146 : decode prog_146_method_7_code 146 = .ok (.iconst 2, 1) := by decide +kernel
theorem d1_147 : decode prog_146_method_7_code 147 = .ok (.iadd, 1) := by decide +kernel
theorem d1_148 : decode prog_146_method_7_code 148 = .ok (.sipush 128, 3) := by decide +kernel
theorem d1_151 : decode prog_146_method_7_code 151 = .ok (.iload_n 0, 1) := by decide +kernel
theorem d1_152 : decode prog_146_method_7_code 152 = .ok (.bipush 6, 2) := by decide +kernel
theorem d1_154 : decode prog_146_method_7_code 154 = .ok (.ishr, 1) := by decide +kernel
theorem d1_155 : decode prog_146_method_7_code 155 = .ok (.bipush 63, 2) := by decide +kernel
theorem d1_157 : decode prog_146_method_7_code 157 = .ok (.iand, 1) := by decide +kernel
theorem d1_158 : decode prog_146_method_7_code 158 = .ok (.ior, 1) := by decide +kernel
theorem d1_159 : decode prog_146_method_7_code 159 = .ok (.i2b, 1) := by decide +kernel
theorem d1_160 : decode prog_146_method_7_code 160 = .ok (.bastore, 1) := by decide +kernel
theorem d1_161 : decode prog_146_method_7_code 161 = .ok (.aload_n 1, 1) := by decide +kernel
theorem d1_162 : decode prog_146_method_7_code 162 = .ok (.iload_n 2, 1) := by decide +kernel
theorem d1_163 : decode prog_146_method_7_code 163 = .ok (.iconst 3, 1) := by decide +kernel
theorem d1_164 : decode prog_146_method_7_code 164 = .ok (.iadd, 1) := by decide +kernel
theorem d1_165 : decode prog_146_method_7_code 165 = .ok (.sipush 128, 3) := by decide +kernel
theorem d1_168 : decode prog_146_method_7_code 168 = .ok (.iload_n 0, 1) := by decide +kernel
theorem d1_169 : decode prog_146_method_7_code 169 = .ok (.bipush 63, 2) := by decide +kernel
theorem d1_171 : decode prog_146_method_7_code 171 = .ok (.iand, 1) := by decide +kernel
theorem d1_172 : decode prog_146_method_7_code 172 = .ok (.ior, 1) := by decide +kernel
theorem d1_173 : decode prog_146_method_7_code 173 = .ok (.i2b, 1) := by decide +kernel
theorem d1_174 : decode prog_146_method_7_code 174 = .ok (.bastore, 1) := by decide +kernel
theorem d1_175 : decode prog_146_method_7_code 175 = .ok (.iload_n 2, 1) := by decide +kernel
theorem d1_176 : decode prog_146_method_7_code 176 = .ok (.iconst 4, 1) := by decide +kernel
theorem d1_177 : decode prog_146_method_7_code 177 = .ok (.iadd, 1) := by decide +kernel
theorem d1_178 : decode prog_146_method_7_code 178 = .ok (.istore_n 3, 1) := by decide +kernel
theorem d1_179 : decode prog_146_method_7_code 179 = .ok (.iload_n 3, 1) := by decide +kernel
theorem d1_180 : decode prog_146_method_7_code 180 = .ok (.ireturn, 1) := by decide +kernel
theorem pn_1 : plainName "com/example/myriad_paths/myriadpaths/Utf8Text" = true := by first | (simp [plainName, overriddenIn]; done) | decide +kernel
theorem ef_1 (m : MethodId) (x0 : Int32) (x1 : Addr) (x2 : Int32) : entryFrame m #[(.int x0), (.ref x1), (.int x2)] 4 = mkF m 0 #[.val (.int x0), .val (.ref x1), .val (.int x2), .unset] [] := by first | (simp [entryFrame, mkF, argsToLocals, Value.category]; done) | rfl
def own_Q1 (Z : State) (x0 : Int32) (a : Addr) (x2 : Int32) (ff : Nat → Int32) (h0 : Heap) (n0 : Nat) (v : Option Value) (h : Heap) (L : List Loc) : Prop := v = some (.int (x2 + (own_n x0))) ∧ Fr n0 L ∧ Keep h0 h [a] ∧ own_BA Z h a .byte 8 (own_enc ff x0 x2)
set_option maxRecDepth 65536 in
set_option maxHeartbeats 40000000 in
theorem rm1 (l : Launch) (Z : State) (a0 : Array Value) (hw : ∀ d ∈ tables_1, d.before a0 Z = true) (ws : List Jvm.Cond) (x0 : Int32) (a : Addr) (x2 : Int32) (ff : Nat → Int32) (h0 : Heap) (n0 : Nat) (Z0 : n0 ≤ h0.size) (V_a : own_BA Z h0 a .byte 8 ff) (g_a : n0 ≤ a)  (hax : 0 ≤ x2.toInt ∧ x2.toInt ≤ 3) :
    MetFree l (⟨"com/example/myriad_paths/myriadpaths/Utf8Text", "encode", "(I[BI)I"⟩ : MethodName) (head1 (Jvm.Cond.code (⟨"com/example/myriad_paths/myriadpaths/Utf8Text", "encode", "(I[BI)I"⟩ : MethodName) prog_146_method_7_code 4 (some .int) :: ws) ({ frames := 0, cells := 0, slots := 0, locals := 0 } : Room)) (fun aa U => aa = #[(.int x0), (.ref a), (.int x2)] ∧ Z.Warmed39 U.vm ∧ U.heap = h0) (fun _ _ _ _ _ => True) (fun _ U o U' => ∃ v L, o = .returned v ∧ own_Q1 Z x0 a x2 ff h0 n0 v U'.heap L ∧ FrameEnd U o U' L ({ frames := 0, cells := 0, slots := 0, locals := 0 } : Room).cells ({ frames := 0, cells := 0, slots := 0, locals := 0 } : Room).slots) := by
  refine own_met (plainFor_of_name pn_1) fun p e s m below meth c T0 X0 hx hby hml hret hlk hZ hown hnm e0 => ?_
  refine own_cast (ef_1 m x0 a x2) ?_
  have NF := Fr.nil n0
  have Zs := Z0
  have K := Keep.refl h0 [a]
  refine own_by (B := T0.setTop (mkF m 1 #[.val (.int x0), .val (.ref a), .val (.int x2), .unset] [(.int x0)])) (fun t k => XS.iloadN X0.here hx rfl (hb hby d1_0) rfl k) ?_
  refine own_by (B := T0.setTop (mkF m 4 #[.val (.int x0), .val (.ref a), .val (.int x2), .unset] [(.int (128 : Int32)), (.int x0)])) (fun t k => XS.sipush X0.here hx rfl (hb hby d1_1) k) ?_
  by_cases hc1 : x0 < (128 : Int32)
  ·
    refine own_by (B := T0.setTop (mkF m 7 #[.val (.int x0), .val (.ref a), .val (.int x2), .unset] [])) (fun t k => XS.icmpNo X0.here hx rfl (hb hby d1_4) rfl (tlt hc1).2.1 k) ?_
    refine own_by (B := T0.setTop (mkF m 8 #[.val (.int x0), .val (.ref a), .val (.int x2), .unset] [(.ref a)])) (fun t k => XS.aloadN X0.here hx rfl (hb hby d1_7) rfl rfl k) ?_
    refine own_by (B := T0.setTop (mkF m 9 #[.val (.int x0), .val (.ref a), .val (.int x2), .unset] [(.int x2), (.ref a)])) (fun t k => XS.iloadN X0.here hx rfl (hb hby d1_8) rfl k) ?_
    refine own_by (B := T0.setTop (mkF m 10 #[.val (.int x0), .val (.ref a), .val (.int x2), .unset] [(.int x0), (.int x2), (.ref a)])) (fun t k => XS.iloadN X0.here hx rfl (hb hby d1_9) rfl k) ?_
    refine own_by (B := T0.setTop (mkF m 11 #[.val (.int x0), .val (.ref a), .val (.int x2), .unset] [(.int (x0.toInt8.toInt32)), (.int x2), (.ref a)])) (fun t k => XS.i2b X0.here hx rfl (hb hby d1_10) rfl k) ?_
    obtain ⟨cl2, Ar2, S2, H2⟩ := V_a
    have hin2 : ¬ (x2 < 0 ∨ cl2.slots.size ≤ (x2).toNatClampNeg) := own_in S2 (own_ix0 x2 hax)
    obtain ⟨T2, h2, X2, e2, W2, st2⟩ := stB X0 hx hZ e0 Ar2 (j := x2) hin2 (g := (mkF m 11 #[.val (.int x0), .val (.ref a), .val (.int x2), .unset] [(.int (x0.toInt8.toInt32)), (.int x2), (.ref a)])) rfl rfl (hb hby d1_11)
    replace V_a : own_BA Z h0 a .byte 8 ff := ⟨cl2, Ar2, S2, H2⟩
    replace V_a : own_BA Z h2 a .byte 8 (own_up ff (x2).toNatClampNeg (nar .byte (x0.toInt8.toInt32))) := V_a.same W2
    replace Zs : n0 ≤ h2.size := by rw [W2.size]; exact Zs
    replace K : Keep h0 h2 [a] := K.wr W2 (Or.inl (List.mem_of_getElem? (i := 0) rfl))
    have NF := Fr.snoc X2 NF g_a
    refine own_by (B := T2.setTop (mkF m 12 #[.val (.int x0), .val (.ref a), .val (.int x2), .unset] [])) (fun t k => st2 _ k) ?_
    refine own_by (B := T2.setTop (mkF m 13 #[.val (.int x0), .val (.ref a), .val (.int x2), .unset] [(.int x2)])) (fun t k => XS.iloadN X2.here hx rfl (hb hby d1_12) rfl k) ?_
    refine own_by (B := T2.setTop (mkF m 14 #[.val (.int x0), .val (.ref a), .val (.int x2), .unset] [(.int (1 : Int32)), (.int x2)])) (fun t k => XS.iconst X2.here hx rfl (hb hby d1_13) k) ?_
    refine own_by (B := T2.setTop (mkF m 15 #[.val (.int x0), .val (.ref a), .val (.int x2), .unset] [(.int (x2 + (1 : Int32)))])) (fun t k => XS.iadd X2.here hx rfl (hb hby d1_14) rfl k) ?_
    refine own_by (B := T2.setTop (mkF m 16 #[.val (.int x0), .val (.ref a), .val (.int x2), .val (.int (x2 + (1 : Int32)))] [])) (fun t k => XS.istoreN X2.here hx rfl (hb hby d1_15) rfl (l' := #[.val (.int x0), .val (.ref a), .val (.int x2), .val (.int (x2 + (1 : Int32)))]) rfl k) ?_
    refine own_by (B := T2.setTop (mkF m 179 #[.val (.int x0), .val (.ref a), .val (.int x2), .val (.int (x2 + (1 : Int32)))] [])) (fun t k => XS.goto X2.here hx rfl (pc0 := 16) (pc' := 179) rfl (hb hby d1_16) (by decide) (by decide) k) ?_
    refine own_by (B := T2.setTop (mkF m 180 #[.val (.int x0), .val (.ref a), .val (.int x2), .val (.int (x2 + (1 : Int32)))] [(.int (x2 + (1 : Int32)))])) (fun t k => XS.iloadN X2.here hx rfl (hb hby d1_179) rfl k) ?_
    have he : own_enc ff x0 x2 = (own_up ff (x2).toNatClampNeg (nar .byte (x0.toInt8.toInt32))) := by unfold own_enc; rw [if_pos hc1]
    have hn : own_n x0 = (1 : Int32) := by unfold own_n; rw [if_pos hc1]
    exact own_retI X2 hx hlk hret (hb hby d1_180) (by show own_Q1 Z x0 a x2 ff h0 n0 _ _ _; rw [e2]; unfold own_Q1; rw [he, hn]; exact ⟨rfl, NF, K, V_a⟩) (by decide) (by decide)
  ·
    refine own_by (B := T0.setTop (mkF m 19 #[.val (.int x0), .val (.ref a), .val (.int x2), .unset] [])) (fun t k => XS.icmpYes X0.here hx rfl (pc0 := 4) (pc' := 19) rfl (hb hby d1_4) rfl (flt hc1).2.1 (by decide) (by decide) k) ?_
    refine own_by (B := T0.setTop (mkF m 20 #[.val (.int x0), .val (.ref a), .val (.int x2), .unset] [(.int x0)])) (fun t k => XS.iloadN X0.here hx rfl (hb hby d1_19) rfl k) ?_
    refine own_by (B := T0.setTop (mkF m 23 #[.val (.int x0), .val (.ref a), .val (.int x2), .unset] [(.int (2048 : Int32)), (.int x0)])) (fun t k => XS.sipush X0.here hx rfl (hb hby d1_20) k) ?_
    by_cases hc3 : x0 < (2048 : Int32)
    ·
      refine own_by (B := T0.setTop (mkF m 26 #[.val (.int x0), .val (.ref a), .val (.int x2), .unset] [])) (fun t k => XS.icmpNo X0.here hx rfl (hb hby d1_23) rfl (tlt hc3).2.1 k) ?_
      refine own_by (B := T0.setTop (mkF m 27 #[.val (.int x0), .val (.ref a), .val (.int x2), .unset] [(.ref a)])) (fun t k => XS.aloadN X0.here hx rfl (hb hby d1_26) rfl rfl k) ?_
      refine own_by (B := T0.setTop (mkF m 28 #[.val (.int x0), .val (.ref a), .val (.int x2), .unset] [(.int x2), (.ref a)])) (fun t k => XS.iloadN X0.here hx rfl (hb hby d1_27) rfl k) ?_
      refine own_by (B := T0.setTop (mkF m 31 #[.val (.int x0), .val (.ref a), .val (.int x2), .unset] [(.int (192 : Int32)), (.int x2), (.ref a)])) (fun t k => XS.sipush X0.here hx rfl (hb hby d1_28) k) ?_
      refine own_by (B := T0.setTop (mkF m 32 #[.val (.int x0), .val (.ref a), .val (.int x2), .unset] [(.int x0), (.int (192 : Int32)), (.int x2), (.ref a)])) (fun t k => XS.iloadN X0.here hx rfl (hb hby d1_31) rfl k) ?_
      refine own_by (B := T0.setTop (mkF m 34 #[.val (.int x0), .val (.ref a), .val (.int x2), .unset] [(.int (6 : Int32)), (.int x0), (.int (192 : Int32)), (.int x2), (.ref a)])) (fun t k => XS.bipush X0.here hx rfl (hb hby d1_32) k) ?_
      refine own_by (B := T0.setTop (mkF m 35 #[.val (.int x0), .val (.ref a), .val (.int x2), .unset] [(.int (x0 >>> ((6 : Int32) &&& 31))), (.int (192 : Int32)), (.int x2), (.ref a)])) (fun t k => XS.ishr X0.here hx rfl (hb hby d1_34) rfl k) ?_
      refine own_by (B := T0.setTop (mkF m 36 #[.val (.int x0), .val (.ref a), .val (.int x2), .unset] [(.int ((192 : Int32) ||| (x0 >>> ((6 : Int32) &&& 31)))), (.int x2), (.ref a)])) (fun t k => XS.ior X0.here hx rfl (hb hby d1_35) rfl k) ?_
      refine own_by (B := T0.setTop (mkF m 37 #[.val (.int x0), .val (.ref a), .val (.int x2), .unset] [(.int (((192 : Int32) ||| (x0 >>> ((6 : Int32) &&& 31))).toInt8.toInt32)), (.int x2), (.ref a)])) (fun t k => XS.i2b X0.here hx rfl (hb hby d1_36) rfl k) ?_
      obtain ⟨cl4, Ar4, S4, H4⟩ := V_a
      have hin4 : ¬ (x2 < 0 ∨ cl4.slots.size ≤ (x2).toNatClampNeg) := own_in S4 (own_ix0 x2 hax)
      obtain ⟨T4, h4, X4, e4, W4, st4⟩ := stB X0 hx hZ e0 Ar4 (j := x2) hin4 (g := (mkF m 37 #[.val (.int x0), .val (.ref a), .val (.int x2), .unset] [(.int (((192 : Int32) ||| (x0 >>> ((6 : Int32) &&& 31))).toInt8.toInt32)), (.int x2), (.ref a)])) rfl rfl (hb hby d1_37)
      replace V_a : own_BA Z h0 a .byte 8 ff := ⟨cl4, Ar4, S4, H4⟩
      replace V_a : own_BA Z h4 a .byte 8 (own_up ff (x2).toNatClampNeg (nar .byte (((192 : Int32) ||| (x0 >>> ((6 : Int32) &&& 31))).toInt8.toInt32))) := V_a.same W4
      replace Zs : n0 ≤ h4.size := by rw [W4.size]; exact Zs
      replace K : Keep h0 h4 [a] := K.wr W4 (Or.inl (List.mem_of_getElem? (i := 0) rfl))
      have NF := Fr.snoc X4 NF g_a
      refine own_by (B := T4.setTop (mkF m 38 #[.val (.int x0), .val (.ref a), .val (.int x2), .unset] [])) (fun t k => st4 _ k) ?_
      refine own_by (B := T4.setTop (mkF m 39 #[.val (.int x0), .val (.ref a), .val (.int x2), .unset] [(.ref a)])) (fun t k => XS.aloadN X4.here hx rfl (hb hby d1_38) rfl rfl k) ?_
      refine own_by (B := T4.setTop (mkF m 40 #[.val (.int x0), .val (.ref a), .val (.int x2), .unset] [(.int x2), (.ref a)])) (fun t k => XS.iloadN X4.here hx rfl (hb hby d1_39) rfl k) ?_
      refine own_by (B := T4.setTop (mkF m 41 #[.val (.int x0), .val (.ref a), .val (.int x2), .unset] [(.int (1 : Int32)), (.int x2), (.ref a)])) (fun t k => XS.iconst X4.here hx rfl (hb hby d1_40) k) ?_
      refine own_by (B := T4.setTop (mkF m 42 #[.val (.int x0), .val (.ref a), .val (.int x2), .unset] [(.int (x2 + (1 : Int32))), (.ref a)])) (fun t k => XS.iadd X4.here hx rfl (hb hby d1_41) rfl k) ?_
      refine own_by (B := T4.setTop (mkF m 45 #[.val (.int x0), .val (.ref a), .val (.int x2), .unset] [(.int (128 : Int32)), (.int (x2 + (1 : Int32))), (.ref a)])) (fun t k => XS.sipush X4.here hx rfl (hb hby d1_42) k) ?_
      refine own_by (B := T4.setTop (mkF m 46 #[.val (.int x0), .val (.ref a), .val (.int x2), .unset] [(.int x0), (.int (128 : Int32)), (.int (x2 + (1 : Int32))), (.ref a)])) (fun t k => XS.iloadN X4.here hx rfl (hb hby d1_45) rfl k) ?_
      refine own_by (B := T4.setTop (mkF m 48 #[.val (.int x0), .val (.ref a), .val (.int x2), .unset] [(.int (63 : Int32)), (.int x0), (.int (128 : Int32)), (.int (x2 + (1 : Int32))), (.ref a)])) (fun t k => XS.bipush X4.here hx rfl (hb hby d1_46) k) ?_
      refine own_by (B := T4.setTop (mkF m 49 #[.val (.int x0), .val (.ref a), .val (.int x2), .unset] [(.int (x0 &&& (63 : Int32))), (.int (128 : Int32)), (.int (x2 + (1 : Int32))), (.ref a)])) (fun t k => XS.iand X4.here hx rfl (hb hby d1_48) rfl k) ?_
      refine own_by (B := T4.setTop (mkF m 50 #[.val (.int x0), .val (.ref a), .val (.int x2), .unset] [(.int ((128 : Int32) ||| (x0 &&& (63 : Int32)))), (.int (x2 + (1 : Int32))), (.ref a)])) (fun t k => XS.ior X4.here hx rfl (hb hby d1_49) rfl k) ?_
      refine own_by (B := T4.setTop (mkF m 51 #[.val (.int x0), .val (.ref a), .val (.int x2), .unset] [(.int (((128 : Int32) ||| (x0 &&& (63 : Int32))).toInt8.toInt32)), (.int (x2 + (1 : Int32))), (.ref a)])) (fun t k => XS.i2b X4.here hx rfl (hb hby d1_50) rfl k) ?_
      obtain ⟨cl5, Ar5, S5, H5⟩ := V_a
      have hin5 : ¬ ((x2 + (1 : Int32)) < 0 ∨ cl5.slots.size ≤ ((x2 + (1 : Int32))).toNatClampNeg) := own_in S5 (own_ix x2 _ hax (by decide))
      obtain ⟨T5, h5, X5, e5, W5, st5⟩ := stB X4 hx hZ e4 Ar5 (j := (x2 + (1 : Int32))) hin5 (g := (mkF m 51 #[.val (.int x0), .val (.ref a), .val (.int x2), .unset] [(.int (((128 : Int32) ||| (x0 &&& (63 : Int32))).toInt8.toInt32)), (.int (x2 + (1 : Int32))), (.ref a)])) rfl rfl (hb hby d1_51)
      replace V_a : own_BA Z h4 a .byte 8 (own_up ff (x2).toNatClampNeg (nar .byte (((192 : Int32) ||| (x0 >>> ((6 : Int32) &&& 31))).toInt8.toInt32))) := ⟨cl5, Ar5, S5, H5⟩
      replace V_a : own_BA Z h5 a .byte 8 (own_up (own_up ff (x2).toNatClampNeg (nar .byte (((192 : Int32) ||| (x0 >>> ((6 : Int32) &&& 31))).toInt8.toInt32))) ((x2 + (1 : Int32))).toNatClampNeg (nar .byte (((128 : Int32) ||| (x0 &&& (63 : Int32))).toInt8.toInt32))) := V_a.same W5
      replace Zs : n0 ≤ h5.size := by rw [W5.size]; exact Zs
      replace K : Keep h0 h5 [a] := K.wr W5 (Or.inl (List.mem_of_getElem? (i := 0) rfl))
      have NF := Fr.snoc X5 NF g_a
      refine own_by (B := T5.setTop (mkF m 52 #[.val (.int x0), .val (.ref a), .val (.int x2), .unset] [])) (fun t k => st5 _ k) ?_
      refine own_by (B := T5.setTop (mkF m 53 #[.val (.int x0), .val (.ref a), .val (.int x2), .unset] [(.int x2)])) (fun t k => XS.iloadN X5.here hx rfl (hb hby d1_52) rfl k) ?_
      refine own_by (B := T5.setTop (mkF m 54 #[.val (.int x0), .val (.ref a), .val (.int x2), .unset] [(.int (2 : Int32)), (.int x2)])) (fun t k => XS.iconst X5.here hx rfl (hb hby d1_53) k) ?_
      refine own_by (B := T5.setTop (mkF m 55 #[.val (.int x0), .val (.ref a), .val (.int x2), .unset] [(.int (x2 + (2 : Int32)))])) (fun t k => XS.iadd X5.here hx rfl (hb hby d1_54) rfl k) ?_
      refine own_by (B := T5.setTop (mkF m 56 #[.val (.int x0), .val (.ref a), .val (.int x2), .val (.int (x2 + (2 : Int32)))] [])) (fun t k => XS.istoreN X5.here hx rfl (hb hby d1_55) rfl (l' := #[.val (.int x0), .val (.ref a), .val (.int x2), .val (.int (x2 + (2 : Int32)))]) rfl k) ?_
      refine own_by (B := T5.setTop (mkF m 179 #[.val (.int x0), .val (.ref a), .val (.int x2), .val (.int (x2 + (2 : Int32)))] [])) (fun t k => XS.goto X5.here hx rfl (pc0 := 56) (pc' := 179) rfl (hb hby d1_56) (by decide) (by decide) k) ?_
      refine own_by (B := T5.setTop (mkF m 180 #[.val (.int x0), .val (.ref a), .val (.int x2), .val (.int (x2 + (2 : Int32)))] [(.int (x2 + (2 : Int32)))])) (fun t k => XS.iloadN X5.here hx rfl (hb hby d1_179) rfl k) ?_
      have he : own_enc ff x0 x2 = (own_up (own_up ff (x2).toNatClampNeg (nar .byte (((192 : Int32) ||| (x0 >>> ((6 : Int32) &&& 31))).toInt8.toInt32))) ((x2 + (1 : Int32))).toNatClampNeg (nar .byte (((128 : Int32) ||| (x0 &&& (63 : Int32))).toInt8.toInt32))) := by unfold own_enc; rw [if_neg hc1, if_pos hc3]
      have hn : own_n x0 = (2 : Int32) := by unfold own_n; rw [if_neg hc1, if_pos hc3]
      exact own_retI X5 hx hlk hret (hb hby d1_180) (by show own_Q1 Z x0 a x2 ff h0 n0 _ _ _; rw [e5]; unfold own_Q1; rw [he, hn]; exact ⟨rfl, NF, K, V_a⟩) (by decide) (by decide)
    ·
      refine own_by (B := T0.setTop (mkF m 59 #[.val (.int x0), .val (.ref a), .val (.int x2), .unset] [])) (fun t k => XS.icmpYes X0.here hx rfl (pc0 := 23) (pc' := 59) rfl (hb hby d1_23) rfl (flt hc3).2.1 (by decide) (by decide) k) ?_
      refine own_by (B := T0.setTop (mkF m 60 #[.val (.int x0), .val (.ref a), .val (.int x2), .unset] [(.int x0)])) (fun t k => XS.iloadN X0.here hx rfl (hb hby d1_59) rfl k) ?_
      refine own_by (B := T0.setTop (mkF m 62 #[.val (.int x0), .val (.ref a), .val (.int x2), .unset] [(.int (65536 : Int32)), (.int x0)])) (fun t k => X0.ldcInt hx hown (mvT hZ (hw _ (List.mem_of_getElem? (i := 16) rfl))) (g := (mkF m 60 #[.val (.int x0), .val (.ref a), .val (.int x2), .unset] [(.int x0)])) rfl (hb hby d1_60) _ k) ?_
      by_cases hc6 : x0 < (65536 : Int32)
      ·
        refine own_by (B := T0.setTop (mkF m 65 #[.val (.int x0), .val (.ref a), .val (.int x2), .unset] [])) (fun t k => XS.icmpNo X0.here hx rfl (hb hby d1_62) rfl (tlt hc6).2.1 k) ?_
        refine own_by (B := T0.setTop (mkF m 66 #[.val (.int x0), .val (.ref a), .val (.int x2), .unset] [(.ref a)])) (fun t k => XS.aloadN X0.here hx rfl (hb hby d1_65) rfl rfl k) ?_
        refine own_by (B := T0.setTop (mkF m 67 #[.val (.int x0), .val (.ref a), .val (.int x2), .unset] [(.int x2), (.ref a)])) (fun t k => XS.iloadN X0.here hx rfl (hb hby d1_66) rfl k) ?_
        refine own_by (B := T0.setTop (mkF m 70 #[.val (.int x0), .val (.ref a), .val (.int x2), .unset] [(.int (224 : Int32)), (.int x2), (.ref a)])) (fun t k => XS.sipush X0.here hx rfl (hb hby d1_67) k) ?_
        refine own_by (B := T0.setTop (mkF m 71 #[.val (.int x0), .val (.ref a), .val (.int x2), .unset] [(.int x0), (.int (224 : Int32)), (.int x2), (.ref a)])) (fun t k => XS.iloadN X0.here hx rfl (hb hby d1_70) rfl k) ?_
        refine own_by (B := T0.setTop (mkF m 73 #[.val (.int x0), .val (.ref a), .val (.int x2), .unset] [(.int (12 : Int32)), (.int x0), (.int (224 : Int32)), (.int x2), (.ref a)])) (fun t k => XS.bipush X0.here hx rfl (hb hby d1_71) k) ?_
        refine own_by (B := T0.setTop (mkF m 74 #[.val (.int x0), .val (.ref a), .val (.int x2), .unset] [(.int (x0 >>> ((12 : Int32) &&& 31))), (.int (224 : Int32)), (.int x2), (.ref a)])) (fun t k => XS.ishr X0.here hx rfl (hb hby d1_73) rfl k) ?_
        refine own_by (B := T0.setTop (mkF m 75 #[.val (.int x0), .val (.ref a), .val (.int x2), .unset] [(.int ((224 : Int32) ||| (x0 >>> ((12 : Int32) &&& 31)))), (.int x2), (.ref a)])) (fun t k => XS.ior X0.here hx rfl (hb hby d1_74) rfl k) ?_
        refine own_by (B := T0.setTop (mkF m 76 #[.val (.int x0), .val (.ref a), .val (.int x2), .unset] [(.int (((224 : Int32) ||| (x0 >>> ((12 : Int32) &&& 31))).toInt8.toInt32)), (.int x2), (.ref a)])) (fun t k => XS.i2b X0.here hx rfl (hb hby d1_75) rfl k) ?_
        obtain ⟨cl7, Ar7, S7, H7⟩ := V_a
        have hin7 : ¬ (x2 < 0 ∨ cl7.slots.size ≤ (x2).toNatClampNeg) := own_in S7 (own_ix0 x2 hax)
        obtain ⟨T7, h7, X7, e7, W7, st7⟩ := stB X0 hx hZ e0 Ar7 (j := x2) hin7 (g := (mkF m 76 #[.val (.int x0), .val (.ref a), .val (.int x2), .unset] [(.int (((224 : Int32) ||| (x0 >>> ((12 : Int32) &&& 31))).toInt8.toInt32)), (.int x2), (.ref a)])) rfl rfl (hb hby d1_76)
        replace V_a : own_BA Z h0 a .byte 8 ff := ⟨cl7, Ar7, S7, H7⟩
        replace V_a : own_BA Z h7 a .byte 8 (own_up ff (x2).toNatClampNeg (nar .byte (((224 : Int32) ||| (x0 >>> ((12 : Int32) &&& 31))).toInt8.toInt32))) := V_a.same W7
        replace Zs : n0 ≤ h7.size := by rw [W7.size]; exact Zs
        replace K : Keep h0 h7 [a] := K.wr W7 (Or.inl (List.mem_of_getElem? (i := 0) rfl))
        have NF := Fr.snoc X7 NF g_a
        refine own_by (B := T7.setTop (mkF m 77 #[.val (.int x0), .val (.ref a), .val (.int x2), .unset] [])) (fun t k => st7 _ k) ?_
        refine own_by (B := T7.setTop (mkF m 78 #[.val (.int x0), .val (.ref a), .val (.int x2), .unset] [(.ref a)])) (fun t k => XS.aloadN X7.here hx rfl (hb hby d1_77) rfl rfl k) ?_
        refine own_by (B := T7.setTop (mkF m 79 #[.val (.int x0), .val (.ref a), .val (.int x2), .unset] [(.int x2), (.ref a)])) (fun t k => XS.iloadN X7.here hx rfl (hb hby d1_78) rfl k) ?_
        refine own_by (B := T7.setTop (mkF m 80 #[.val (.int x0), .val (.ref a), .val (.int x2), .unset] [(.int (1 : Int32)), (.int x2), (.ref a)])) (fun t k => XS.iconst X7.here hx rfl (hb hby d1_79) k) ?_
        refine own_by (B := T7.setTop (mkF m 81 #[.val (.int x0), .val (.ref a), .val (.int x2), .unset] [(.int (x2 + (1 : Int32))), (.ref a)])) (fun t k => XS.iadd X7.here hx rfl (hb hby d1_80) rfl k) ?_
        refine own_by (B := T7.setTop (mkF m 84 #[.val (.int x0), .val (.ref a), .val (.int x2), .unset] [(.int (128 : Int32)), (.int (x2 + (1 : Int32))), (.ref a)])) (fun t k => XS.sipush X7.here hx rfl (hb hby d1_81) k) ?_
        refine own_by (B := T7.setTop (mkF m 85 #[.val (.int x0), .val (.ref a), .val (.int x2), .unset] [(.int x0), (.int (128 : Int32)), (.int (x2 + (1 : Int32))), (.ref a)])) (fun t k => XS.iloadN X7.here hx rfl (hb hby d1_84) rfl k) ?_
        refine own_by (B := T7.setTop (mkF m 87 #[.val (.int x0), .val (.ref a), .val (.int x2), .unset] [(.int (6 : Int32)), (.int x0), (.int (128 : Int32)), (.int (x2 + (1 : Int32))), (.ref a)])) (fun t k => XS.bipush X7.here hx rfl (hb hby d1_85) k) ?_
        refine own_by (B := T7.setTop (mkF m 88 #[.val (.int x0), .val (.ref a), .val (.int x2), .unset] [(.int (x0 >>> ((6 : Int32) &&& 31))), (.int (128 : Int32)), (.int (x2 + (1 : Int32))), (.ref a)])) (fun t k => XS.ishr X7.here hx rfl (hb hby d1_87) rfl k) ?_
        refine own_by (B := T7.setTop (mkF m 90 #[.val (.int x0), .val (.ref a), .val (.int x2), .unset] [(.int (63 : Int32)), (.int (x0 >>> ((6 : Int32) &&& 31))), (.int (128 : Int32)), (.int (x2 + (1 : Int32))), (.ref a)])) (fun t k => XS.bipush X7.here hx rfl (hb hby d1_88) k) ?_
        refine own_by (B := T7.setTop (mkF m 91 #[.val (.int x0), .val (.ref a), .val (.int x2), .unset] [(.int ((x0 >>> ((6 : Int32) &&& 31)) &&& (63 : Int32))), (.int (128 : Int32)), (.int (x2 + (1 : Int32))), (.ref a)])) (fun t k => XS.iand X7.here hx rfl (hb hby d1_90) rfl k) ?_
        refine own_by (B := T7.setTop (mkF m 92 #[.val (.int x0), .val (.ref a), .val (.int x2), .unset] [(.int ((128 : Int32) ||| ((x0 >>> ((6 : Int32) &&& 31)) &&& (63 : Int32)))), (.int (x2 + (1 : Int32))), (.ref a)])) (fun t k => XS.ior X7.here hx rfl (hb hby d1_91) rfl k) ?_
        refine own_by (B := T7.setTop (mkF m 93 #[.val (.int x0), .val (.ref a), .val (.int x2), .unset] [(.int (((128 : Int32) ||| ((x0 >>> ((6 : Int32) &&& 31)) &&& (63 : Int32))).toInt8.toInt32)), (.int (x2 + (1 : Int32))), (.ref a)])) (fun t k => XS.i2b X7.here hx rfl (hb hby d1_92) rfl k) ?_
        obtain ⟨cl8, Ar8, S8, H8⟩ := V_a
        have hin8 : ¬ ((x2 + (1 : Int32)) < 0 ∨ cl8.slots.size ≤ ((x2 + (1 : Int32))).toNatClampNeg) := own_in S8 (own_ix x2 _ hax (by decide))
        obtain ⟨T8, h8, X8, e8, W8, st8⟩ := stB X7 hx hZ e7 Ar8 (j := (x2 + (1 : Int32))) hin8 (g := (mkF m 93 #[.val (.int x0), .val (.ref a), .val (.int x2), .unset] [(.int (((128 : Int32) ||| ((x0 >>> ((6 : Int32) &&& 31)) &&& (63 : Int32))).toInt8.toInt32)), (.int (x2 + (1 : Int32))), (.ref a)])) rfl rfl (hb hby d1_93)
        replace V_a : own_BA Z h7 a .byte 8 (own_up ff (x2).toNatClampNeg (nar .byte (((224 : Int32) ||| (x0 >>> ((12 : Int32) &&& 31))).toInt8.toInt32))) := ⟨cl8, Ar8, S8, H8⟩
        replace V_a : own_BA Z h8 a .byte 8 (own_up (own_up ff (x2).toNatClampNeg (nar .byte (((224 : Int32) ||| (x0 >>> ((12 : Int32) &&& 31))).toInt8.toInt32))) ((x2 + (1 : Int32))).toNatClampNeg (nar .byte (((128 : Int32) ||| ((x0 >>> ((6 : Int32) &&& 31)) &&& (63 : Int32))).toInt8.toInt32))) := V_a.same W8
        replace Zs : n0 ≤ h8.size := by rw [W8.size]; exact Zs
        replace K : Keep h0 h8 [a] := K.wr W8 (Or.inl (List.mem_of_getElem? (i := 0) rfl))
        have NF := Fr.snoc X8 NF g_a
        refine own_by (B := T8.setTop (mkF m 94 #[.val (.int x0), .val (.ref a), .val (.int x2), .unset] [])) (fun t k => st8 _ k) ?_
        refine own_by (B := T8.setTop (mkF m 95 #[.val (.int x0), .val (.ref a), .val (.int x2), .unset] [(.ref a)])) (fun t k => XS.aloadN X8.here hx rfl (hb hby d1_94) rfl rfl k) ?_
        refine own_by (B := T8.setTop (mkF m 96 #[.val (.int x0), .val (.ref a), .val (.int x2), .unset] [(.int x2), (.ref a)])) (fun t k => XS.iloadN X8.here hx rfl (hb hby d1_95) rfl k) ?_
        refine own_by (B := T8.setTop (mkF m 97 #[.val (.int x0), .val (.ref a), .val (.int x2), .unset] [(.int (2 : Int32)), (.int x2), (.ref a)])) (fun t k => XS.iconst X8.here hx rfl (hb hby d1_96) k) ?_
        refine own_by (B := T8.setTop (mkF m 98 #[.val (.int x0), .val (.ref a), .val (.int x2), .unset] [(.int (x2 + (2 : Int32))), (.ref a)])) (fun t k => XS.iadd X8.here hx rfl (hb hby d1_97) rfl k) ?_
        refine own_by (B := T8.setTop (mkF m 101 #[.val (.int x0), .val (.ref a), .val (.int x2), .unset] [(.int (128 : Int32)), (.int (x2 + (2 : Int32))), (.ref a)])) (fun t k => XS.sipush X8.here hx rfl (hb hby d1_98) k) ?_
        refine own_by (B := T8.setTop (mkF m 102 #[.val (.int x0), .val (.ref a), .val (.int x2), .unset] [(.int x0), (.int (128 : Int32)), (.int (x2 + (2 : Int32))), (.ref a)])) (fun t k => XS.iloadN X8.here hx rfl (hb hby d1_101) rfl k) ?_
        refine own_by (B := T8.setTop (mkF m 104 #[.val (.int x0), .val (.ref a), .val (.int x2), .unset] [(.int (63 : Int32)), (.int x0), (.int (128 : Int32)), (.int (x2 + (2 : Int32))), (.ref a)])) (fun t k => XS.bipush X8.here hx rfl (hb hby d1_102) k) ?_
        refine own_by (B := T8.setTop (mkF m 105 #[.val (.int x0), .val (.ref a), .val (.int x2), .unset] [(.int (x0 &&& (63 : Int32))), (.int (128 : Int32)), (.int (x2 + (2 : Int32))), (.ref a)])) (fun t k => XS.iand X8.here hx rfl (hb hby d1_104) rfl k) ?_
        refine own_by (B := T8.setTop (mkF m 106 #[.val (.int x0), .val (.ref a), .val (.int x2), .unset] [(.int ((128 : Int32) ||| (x0 &&& (63 : Int32)))), (.int (x2 + (2 : Int32))), (.ref a)])) (fun t k => XS.ior X8.here hx rfl (hb hby d1_105) rfl k) ?_
        refine own_by (B := T8.setTop (mkF m 107 #[.val (.int x0), .val (.ref a), .val (.int x2), .unset] [(.int (((128 : Int32) ||| (x0 &&& (63 : Int32))).toInt8.toInt32)), (.int (x2 + (2 : Int32))), (.ref a)])) (fun t k => XS.i2b X8.here hx rfl (hb hby d1_106) rfl k) ?_
        obtain ⟨cl9, Ar9, S9, H9⟩ := V_a
        have hin9 : ¬ ((x2 + (2 : Int32)) < 0 ∨ cl9.slots.size ≤ ((x2 + (2 : Int32))).toNatClampNeg) := own_in S9 (own_ix x2 _ hax (by decide))
        obtain ⟨T9, h9, X9, e9, W9, st9⟩ := stB X8 hx hZ e8 Ar9 (j := (x2 + (2 : Int32))) hin9 (g := (mkF m 107 #[.val (.int x0), .val (.ref a), .val (.int x2), .unset] [(.int (((128 : Int32) ||| (x0 &&& (63 : Int32))).toInt8.toInt32)), (.int (x2 + (2 : Int32))), (.ref a)])) rfl rfl (hb hby d1_107)
        replace V_a : own_BA Z h8 a .byte 8 (own_up (own_up ff (x2).toNatClampNeg (nar .byte (((224 : Int32) ||| (x0 >>> ((12 : Int32) &&& 31))).toInt8.toInt32))) ((x2 + (1 : Int32))).toNatClampNeg (nar .byte (((128 : Int32) ||| ((x0 >>> ((6 : Int32) &&& 31)) &&& (63 : Int32))).toInt8.toInt32))) := ⟨cl9, Ar9, S9, H9⟩
        replace V_a : own_BA Z h9 a .byte 8 (own_up (own_up (own_up ff (x2).toNatClampNeg (nar .byte (((224 : Int32) ||| (x0 >>> ((12 : Int32) &&& 31))).toInt8.toInt32))) ((x2 + (1 : Int32))).toNatClampNeg (nar .byte (((128 : Int32) ||| ((x0 >>> ((6 : Int32) &&& 31)) &&& (63 : Int32))).toInt8.toInt32))) ((x2 + (2 : Int32))).toNatClampNeg (nar .byte (((128 : Int32) ||| (x0 &&& (63 : Int32))).toInt8.toInt32))) := V_a.same W9
        replace Zs : n0 ≤ h9.size := by rw [W9.size]; exact Zs
        replace K : Keep h0 h9 [a] := K.wr W9 (Or.inl (List.mem_of_getElem? (i := 0) rfl))
        have NF := Fr.snoc X9 NF g_a
        refine own_by (B := T9.setTop (mkF m 108 #[.val (.int x0), .val (.ref a), .val (.int x2), .unset] [])) (fun t k => st9 _ k) ?_
        refine own_by (B := T9.setTop (mkF m 109 #[.val (.int x0), .val (.ref a), .val (.int x2), .unset] [(.int x2)])) (fun t k => XS.iloadN X9.here hx rfl (hb hby d1_108) rfl k) ?_
        refine own_by (B := T9.setTop (mkF m 110 #[.val (.int x0), .val (.ref a), .val (.int x2), .unset] [(.int (3 : Int32)), (.int x2)])) (fun t k => XS.iconst X9.here hx rfl (hb hby d1_109) k) ?_
        refine own_by (B := T9.setTop (mkF m 111 #[.val (.int x0), .val (.ref a), .val (.int x2), .unset] [(.int (x2 + (3 : Int32)))])) (fun t k => XS.iadd X9.here hx rfl (hb hby d1_110) rfl k) ?_
        refine own_by (B := T9.setTop (mkF m 112 #[.val (.int x0), .val (.ref a), .val (.int x2), .val (.int (x2 + (3 : Int32)))] [])) (fun t k => XS.istoreN X9.here hx rfl (hb hby d1_111) rfl (l' := #[.val (.int x0), .val (.ref a), .val (.int x2), .val (.int (x2 + (3 : Int32)))]) rfl k) ?_
        refine own_by (B := T9.setTop (mkF m 179 #[.val (.int x0), .val (.ref a), .val (.int x2), .val (.int (x2 + (3 : Int32)))] [])) (fun t k => XS.goto X9.here hx rfl (pc0 := 112) (pc' := 179) rfl (hb hby d1_112) (by decide) (by decide) k) ?_
        refine own_by (B := T9.setTop (mkF m 180 #[.val (.int x0), .val (.ref a), .val (.int x2), .val (.int (x2 + (3 : Int32)))] [(.int (x2 + (3 : Int32)))])) (fun t k => XS.iloadN X9.here hx rfl (hb hby d1_179) rfl k) ?_
        have he : own_enc ff x0 x2 = (own_up (own_up (own_up ff (x2).toNatClampNeg (nar .byte (((224 : Int32) ||| (x0 >>> ((12 : Int32) &&& 31))).toInt8.toInt32))) ((x2 + (1 : Int32))).toNatClampNeg (nar .byte (((128 : Int32) ||| ((x0 >>> ((6 : Int32) &&& 31)) &&& (63 : Int32))).toInt8.toInt32))) ((x2 + (2 : Int32))).toNatClampNeg (nar .byte (((128 : Int32) ||| (x0 &&& (63 : Int32))).toInt8.toInt32))) := by unfold own_enc; rw [if_neg hc1, if_neg hc3, if_pos hc6]
        have hn : own_n x0 = (3 : Int32) := by unfold own_n; rw [if_neg hc1, if_neg hc3, if_pos hc6]
        exact own_retI X9 hx hlk hret (hb hby d1_180) (by show own_Q1 Z x0 a x2 ff h0 n0 _ _ _; rw [e9]; unfold own_Q1; rw [he, hn]; exact ⟨rfl, NF, K, V_a⟩) (by decide) (by decide)
      ·
        refine own_by (B := T0.setTop (mkF m 115 #[.val (.int x0), .val (.ref a), .val (.int x2), .unset] [])) (fun t k => XS.icmpYes X0.here hx rfl (pc0 := 62) (pc' := 115) rfl (hb hby d1_62) rfl (flt hc6).2.1 (by decide) (by decide) k) ?_
        refine own_by (B := T0.setTop (mkF m 116 #[.val (.int x0), .val (.ref a), .val (.int x2), .unset] [(.ref a)])) (fun t k => XS.aloadN X0.here hx rfl (hb hby d1_115) rfl rfl k) ?_
        refine own_by (B := T0.setTop (mkF m 117 #[.val (.int x0), .val (.ref a), .val (.int x2), .unset] [(.int x2), (.ref a)])) (fun t k => XS.iloadN X0.here hx rfl (hb hby d1_116) rfl k) ?_
        refine own_by (B := T0.setTop (mkF m 120 #[.val (.int x0), .val (.ref a), .val (.int x2), .unset] [(.int (240 : Int32)), (.int x2), (.ref a)])) (fun t k => XS.sipush X0.here hx rfl (hb hby d1_117) k) ?_
        refine own_by (B := T0.setTop (mkF m 121 #[.val (.int x0), .val (.ref a), .val (.int x2), .unset] [(.int x0), (.int (240 : Int32)), (.int x2), (.ref a)])) (fun t k => XS.iloadN X0.here hx rfl (hb hby d1_120) rfl k) ?_
        refine own_by (B := T0.setTop (mkF m 123 #[.val (.int x0), .val (.ref a), .val (.int x2), .unset] [(.int (18 : Int32)), (.int x0), (.int (240 : Int32)), (.int x2), (.ref a)])) (fun t k => XS.bipush X0.here hx rfl (hb hby d1_121) k) ?_
        refine own_by (B := T0.setTop (mkF m 124 #[.val (.int x0), .val (.ref a), .val (.int x2), .unset] [(.int (x0 >>> ((18 : Int32) &&& 31))), (.int (240 : Int32)), (.int x2), (.ref a)])) (fun t k => XS.ishr X0.here hx rfl (hb hby d1_123) rfl k) ?_
        refine own_by (B := T0.setTop (mkF m 125 #[.val (.int x0), .val (.ref a), .val (.int x2), .unset] [(.int ((240 : Int32) ||| (x0 >>> ((18 : Int32) &&& 31)))), (.int x2), (.ref a)])) (fun t k => XS.ior X0.here hx rfl (hb hby d1_124) rfl k) ?_
        refine own_by (B := T0.setTop (mkF m 126 #[.val (.int x0), .val (.ref a), .val (.int x2), .unset] [(.int (((240 : Int32) ||| (x0 >>> ((18 : Int32) &&& 31))).toInt8.toInt32)), (.int x2), (.ref a)])) (fun t k => XS.i2b X0.here hx rfl (hb hby d1_125) rfl k) ?_
        obtain ⟨cl10, Ar10, S10, H10⟩ := V_a
        have hin10 : ¬ (x2 < 0 ∨ cl10.slots.size ≤ (x2).toNatClampNeg) := own_in S10 (own_ix0 x2 hax)
        obtain ⟨T10, h10, X10, e10, W10, st10⟩ := stB X0 hx hZ e0 Ar10 (j := x2) hin10 (g := (mkF m 126 #[.val (.int x0), .val (.ref a), .val (.int x2), .unset] [(.int (((240 : Int32) ||| (x0 >>> ((18 : Int32) &&& 31))).toInt8.toInt32)), (.int x2), (.ref a)])) rfl rfl (hb hby d1_126)
        replace V_a : own_BA Z h0 a .byte 8 ff := ⟨cl10, Ar10, S10, H10⟩
        replace V_a : own_BA Z h10 a .byte 8 (own_up ff (x2).toNatClampNeg (nar .byte (((240 : Int32) ||| (x0 >>> ((18 : Int32) &&& 31))).toInt8.toInt32))) := V_a.same W10
        replace Zs : n0 ≤ h10.size := by rw [W10.size]; exact Zs
        replace K : Keep h0 h10 [a] := K.wr W10 (Or.inl (List.mem_of_getElem? (i := 0) rfl))
        have NF := Fr.snoc X10 NF g_a
        refine own_by (B := T10.setTop (mkF m 127 #[.val (.int x0), .val (.ref a), .val (.int x2), .unset] [])) (fun t k => st10 _ k) ?_
        refine own_by (B := T10.setTop (mkF m 128 #[.val (.int x0), .val (.ref a), .val (.int x2), .unset] [(.ref a)])) (fun t k => XS.aloadN X10.here hx rfl (hb hby d1_127) rfl rfl k) ?_
        refine own_by (B := T10.setTop (mkF m 129 #[.val (.int x0), .val (.ref a), .val (.int x2), .unset] [(.int x2), (.ref a)])) (fun t k => XS.iloadN X10.here hx rfl (hb hby d1_128) rfl k) ?_
        refine own_by (B := T10.setTop (mkF m 130 #[.val (.int x0), .val (.ref a), .val (.int x2), .unset] [(.int (1 : Int32)), (.int x2), (.ref a)])) (fun t k => XS.iconst X10.here hx rfl (hb hby d1_129) k) ?_
        refine own_by (B := T10.setTop (mkF m 131 #[.val (.int x0), .val (.ref a), .val (.int x2), .unset] [(.int (x2 + (1 : Int32))), (.ref a)])) (fun t k => XS.iadd X10.here hx rfl (hb hby d1_130) rfl k) ?_
        refine own_by (B := T10.setTop (mkF m 134 #[.val (.int x0), .val (.ref a), .val (.int x2), .unset] [(.int (128 : Int32)), (.int (x2 + (1 : Int32))), (.ref a)])) (fun t k => XS.sipush X10.here hx rfl (hb hby d1_131) k) ?_
        refine own_by (B := T10.setTop (mkF m 135 #[.val (.int x0), .val (.ref a), .val (.int x2), .unset] [(.int x0), (.int (128 : Int32)), (.int (x2 + (1 : Int32))), (.ref a)])) (fun t k => XS.iloadN X10.here hx rfl (hb hby d1_134) rfl k) ?_
        refine own_by (B := T10.setTop (mkF m 137 #[.val (.int x0), .val (.ref a), .val (.int x2), .unset] [(.int (12 : Int32)), (.int x0), (.int (128 : Int32)), (.int (x2 + (1 : Int32))), (.ref a)])) (fun t k => XS.bipush X10.here hx rfl (hb hby d1_135) k) ?_
        refine own_by (B := T10.setTop (mkF m 138 #[.val (.int x0), .val (.ref a), .val (.int x2), .unset] [(.int (x0 >>> ((12 : Int32) &&& 31))), (.int (128 : Int32)), (.int (x2 + (1 : Int32))), (.ref a)])) (fun t k => XS.ishr X10.here hx rfl (hb hby d1_137) rfl k) ?_
        refine own_by (B := T10.setTop (mkF m 140 #[.val (.int x0), .val (.ref a), .val (.int x2), .unset] [(.int (63 : Int32)), (.int (x0 >>> ((12 : Int32) &&& 31))), (.int (128 : Int32)), (.int (x2 + (1 : Int32))), (.ref a)])) (fun t k => XS.bipush X10.here hx rfl (hb hby d1_138) k) ?_
        refine own_by (B := T10.setTop (mkF m 141 #[.val (.int x0), .val (.ref a), .val (.int x2), .unset] [(.int ((x0 >>> ((12 : Int32) &&& 31)) &&& (63 : Int32))), (.int (128 : Int32)), (.int (x2 + (1 : Int32))), (.ref a)])) (fun t k => XS.iand X10.here hx rfl (hb hby d1_140) rfl k) ?_
        refine own_by (B := T10.setTop (mkF m 142 #[.val (.int x0), .val (.ref a), .val (.int x2), .unset] [(.int ((128 : Int32) ||| ((x0 >>> ((12 : Int32) &&& 31)) &&& (63 : Int32)))), (.int (x2 + (1 : Int32))), (.ref a)])) (fun t k => XS.ior X10.here hx rfl (hb hby d1_141) rfl k) ?_
        refine own_by (B := T10.setTop (mkF m 143 #[.val (.int x0), .val (.ref a), .val (.int x2), .unset] [(.int (((128 : Int32) ||| ((x0 >>> ((12 : Int32) &&& 31)) &&& (63 : Int32))).toInt8.toInt32)), (.int (x2 + (1 : Int32))), (.ref a)])) (fun t k => XS.i2b X10.here hx rfl (hb hby d1_142) rfl k) ?_
        obtain ⟨cl11, Ar11, S11, H11⟩ := V_a
        have hin11 : ¬ ((x2 + (1 : Int32)) < 0 ∨ cl11.slots.size ≤ ((x2 + (1 : Int32))).toNatClampNeg) := own_in S11 (own_ix x2 _ hax (by decide))
        obtain ⟨T11, h11, X11, e11, W11, st11⟩ := stB X10 hx hZ e10 Ar11 (j := (x2 + (1 : Int32))) hin11 (g := (mkF m 143 #[.val (.int x0), .val (.ref a), .val (.int x2), .unset] [(.int (((128 : Int32) ||| ((x0 >>> ((12 : Int32) &&& 31)) &&& (63 : Int32))).toInt8.toInt32)), (.int (x2 + (1 : Int32))), (.ref a)])) rfl rfl (hb hby d1_143)
        replace V_a : own_BA Z h10 a .byte 8 (own_up ff (x2).toNatClampNeg (nar .byte (((240 : Int32) ||| (x0 >>> ((18 : Int32) &&& 31))).toInt8.toInt32))) := ⟨cl11, Ar11, S11, H11⟩
        replace V_a : own_BA Z h11 a .byte 8 (own_up (own_up ff (x2).toNatClampNeg (nar .byte (((240 : Int32) ||| (x0 >>> ((18 : Int32) &&& 31))).toInt8.toInt32))) ((x2 + (1 : Int32))).toNatClampNeg (nar .byte (((128 : Int32) ||| ((x0 >>> ((12 : Int32) &&& 31)) &&& (63 : Int32))).toInt8.toInt32))) := V_a.same W11
        replace Zs : n0 ≤ h11.size := by rw [W11.size]; exact Zs
        replace K : Keep h0 h11 [a] := K.wr W11 (Or.inl (List.mem_of_getElem? (i := 0) rfl))
        have NF := Fr.snoc X11 NF g_a
        refine own_by (B := T11.setTop (mkF m 144 #[.val (.int x0), .val (.ref a), .val (.int x2), .unset] [])) (fun t k => st11 _ k) ?_
        refine own_by (B := T11.setTop (mkF m 145 #[.val (.int x0), .val (.ref a), .val (.int x2), .unset] [(.ref a)])) (fun t k => XS.aloadN X11.here hx rfl (hb hby d1_144) rfl rfl k) ?_
        refine own_by (B := T11.setTop (mkF m 146 #[.val (.int x0), .val (.ref a), .val (.int x2), .unset] [(.int x2), (.ref a)])) (fun t k => XS.iloadN X11.here hx rfl (hb hby d1_145) rfl k) ?_
        refine own_by (B := T11.setTop (mkF m 147 #[.val (.int x0), .val (.ref a), .val (.int x2), .unset] [(.int (2 : Int32)), (.int x2), (.ref a)])) (fun t k => XS.iconst X11.here hx rfl (hb hby d1_146) k) ?_
        refine own_by (B := T11.setTop (mkF m 148 #[.val (.int x0), .val (.ref a), .val (.int x2), .unset] [(.int (x2 + (2 : Int32))), (.ref a)])) (fun t k => XS.iadd X11.here hx rfl (hb hby d1_147) rfl k) ?_
        refine own_by (B := T11.setTop (mkF m 151 #[.val (.int x0), .val (.ref a), .val (.int x2), .unset] [(.int (128 : Int32)), (.int (x2 + (2 : Int32))), (.ref a)])) (fun t k => XS.sipush X11.here hx rfl (hb hby d1_148) k) ?_
        refine own_by (B := T11.setTop (mkF m 152 #[.val (.int x0), .val (.ref a), .val (.int x2), .unset] [(.int x0), (.int (128 : Int32)), (.int (x2 + (2 : Int32))), (.ref a)])) (fun t k => XS.iloadN X11.here hx rfl (hb hby d1_151) rfl k) ?_
        refine own_by (B := T11.setTop (mkF m 154 #[.val (.int x0), .val (.ref a), .val (.int x2), .unset] [(.int (6 : Int32)), (.int x0), (.int (128 : Int32)), (.int (x2 + (2 : Int32))), (.ref a)])) (fun t k => XS.bipush X11.here hx rfl (hb hby d1_152) k) ?_
        refine own_by (B := T11.setTop (mkF m 155 #[.val (.int x0), .val (.ref a), .val (.int x2), .unset] [(.int (x0 >>> ((6 : Int32) &&& 31))), (.int (128 : Int32)), (.int (x2 + (2 : Int32))), (.ref a)])) (fun t k => XS.ishr X11.here hx rfl (hb hby d1_154) rfl k) ?_
        refine own_by (B := T11.setTop (mkF m 157 #[.val (.int x0), .val (.ref a), .val (.int x2), .unset] [(.int (63 : Int32)), (.int (x0 >>> ((6 : Int32) &&& 31))), (.int (128 : Int32)), (.int (x2 + (2 : Int32))), (.ref a)])) (fun t k => XS.bipush X11.here hx rfl (hb hby d1_155) k) ?_
        refine own_by (B := T11.setTop (mkF m 158 #[.val (.int x0), .val (.ref a), .val (.int x2), .unset] [(.int ((x0 >>> ((6 : Int32) &&& 31)) &&& (63 : Int32))), (.int (128 : Int32)), (.int (x2 + (2 : Int32))), (.ref a)])) (fun t k => XS.iand X11.here hx rfl (hb hby d1_157) rfl k) ?_
        refine own_by (B := T11.setTop (mkF m 159 #[.val (.int x0), .val (.ref a), .val (.int x2), .unset] [(.int ((128 : Int32) ||| ((x0 >>> ((6 : Int32) &&& 31)) &&& (63 : Int32)))), (.int (x2 + (2 : Int32))), (.ref a)])) (fun t k => XS.ior X11.here hx rfl (hb hby d1_158) rfl k) ?_
        refine own_by (B := T11.setTop (mkF m 160 #[.val (.int x0), .val (.ref a), .val (.int x2), .unset] [(.int (((128 : Int32) ||| ((x0 >>> ((6 : Int32) &&& 31)) &&& (63 : Int32))).toInt8.toInt32)), (.int (x2 + (2 : Int32))), (.ref a)])) (fun t k => XS.i2b X11.here hx rfl (hb hby d1_159) rfl k) ?_
        obtain ⟨cl12, Ar12, S12, H12⟩ := V_a
        have hin12 : ¬ ((x2 + (2 : Int32)) < 0 ∨ cl12.slots.size ≤ ((x2 + (2 : Int32))).toNatClampNeg) := own_in S12 (own_ix x2 _ hax (by decide))
        obtain ⟨T12, h12, X12, e12, W12, st12⟩ := stB X11 hx hZ e11 Ar12 (j := (x2 + (2 : Int32))) hin12 (g := (mkF m 160 #[.val (.int x0), .val (.ref a), .val (.int x2), .unset] [(.int (((128 : Int32) ||| ((x0 >>> ((6 : Int32) &&& 31)) &&& (63 : Int32))).toInt8.toInt32)), (.int (x2 + (2 : Int32))), (.ref a)])) rfl rfl (hb hby d1_160)
        replace V_a : own_BA Z h11 a .byte 8 (own_up (own_up ff (x2).toNatClampNeg (nar .byte (((240 : Int32) ||| (x0 >>> ((18 : Int32) &&& 31))).toInt8.toInt32))) ((x2 + (1 : Int32))).toNatClampNeg (nar .byte (((128 : Int32) ||| ((x0 >>> ((12 : Int32) &&& 31)) &&& (63 : Int32))).toInt8.toInt32))) := ⟨cl12, Ar12, S12, H12⟩
        replace V_a : own_BA Z h12 a .byte 8 (own_up (own_up (own_up ff (x2).toNatClampNeg (nar .byte (((240 : Int32) ||| (x0 >>> ((18 : Int32) &&& 31))).toInt8.toInt32))) ((x2 + (1 : Int32))).toNatClampNeg (nar .byte (((128 : Int32) ||| ((x0 >>> ((12 : Int32) &&& 31)) &&& (63 : Int32))).toInt8.toInt32))) ((x2 + (2 : Int32))).toNatClampNeg (nar .byte (((128 : Int32) ||| ((x0 >>> ((6 : Int32) &&& 31)) &&& (63 : Int32))).toInt8.toInt32))) := V_a.same W12
        replace Zs : n0 ≤ h12.size := by rw [W12.size]; exact Zs
        replace K : Keep h0 h12 [a] := K.wr W12 (Or.inl (List.mem_of_getElem? (i := 0) rfl))
        have NF := Fr.snoc X12 NF g_a
        refine own_by (B := T12.setTop (mkF m 161 #[.val (.int x0), .val (.ref a), .val (.int x2), .unset] [])) (fun t k => st12 _ k) ?_
        refine own_by (B := T12.setTop (mkF m 162 #[.val (.int x0), .val (.ref a), .val (.int x2), .unset] [(.ref a)])) (fun t k => XS.aloadN X12.here hx rfl (hb hby d1_161) rfl rfl k) ?_
        refine own_by (B := T12.setTop (mkF m 163 #[.val (.int x0), .val (.ref a), .val (.int x2), .unset] [(.int x2), (.ref a)])) (fun t k => XS.iloadN X12.here hx rfl (hb hby d1_162) rfl k) ?_
        refine own_by (B := T12.setTop (mkF m 164 #[.val (.int x0), .val (.ref a), .val (.int x2), .unset] [(.int (3 : Int32)), (.int x2), (.ref a)])) (fun t k => XS.iconst X12.here hx rfl (hb hby d1_163) k) ?_
        refine own_by (B := T12.setTop (mkF m 165 #[.val (.int x0), .val (.ref a), .val (.int x2), .unset] [(.int (x2 + (3 : Int32))), (.ref a)])) (fun t k => XS.iadd X12.here hx rfl (hb hby d1_164) rfl k) ?_
        refine own_by (B := T12.setTop (mkF m 168 #[.val (.int x0), .val (.ref a), .val (.int x2), .unset] [(.int (128 : Int32)), (.int (x2 + (3 : Int32))), (.ref a)])) (fun t k => XS.sipush X12.here hx rfl (hb hby d1_165) k) ?_
        refine own_by (B := T12.setTop (mkF m 169 #[.val (.int x0), .val (.ref a), .val (.int x2), .unset] [(.int x0), (.int (128 : Int32)), (.int (x2 + (3 : Int32))), (.ref a)])) (fun t k => XS.iloadN X12.here hx rfl (hb hby d1_168) rfl k) ?_
        refine own_by (B := T12.setTop (mkF m 171 #[.val (.int x0), .val (.ref a), .val (.int x2), .unset] [(.int (63 : Int32)), (.int x0), (.int (128 : Int32)), (.int (x2 + (3 : Int32))), (.ref a)])) (fun t k => XS.bipush X12.here hx rfl (hb hby d1_169) k) ?_
        refine own_by (B := T12.setTop (mkF m 172 #[.val (.int x0), .val (.ref a), .val (.int x2), .unset] [(.int (x0 &&& (63 : Int32))), (.int (128 : Int32)), (.int (x2 + (3 : Int32))), (.ref a)])) (fun t k => XS.iand X12.here hx rfl (hb hby d1_171) rfl k) ?_
        refine own_by (B := T12.setTop (mkF m 173 #[.val (.int x0), .val (.ref a), .val (.int x2), .unset] [(.int ((128 : Int32) ||| (x0 &&& (63 : Int32)))), (.int (x2 + (3 : Int32))), (.ref a)])) (fun t k => XS.ior X12.here hx rfl (hb hby d1_172) rfl k) ?_
        refine own_by (B := T12.setTop (mkF m 174 #[.val (.int x0), .val (.ref a), .val (.int x2), .unset] [(.int (((128 : Int32) ||| (x0 &&& (63 : Int32))).toInt8.toInt32)), (.int (x2 + (3 : Int32))), (.ref a)])) (fun t k => XS.i2b X12.here hx rfl (hb hby d1_173) rfl k) ?_
        obtain ⟨cl13, Ar13, S13, H13⟩ := V_a
        have hin13 : ¬ ((x2 + (3 : Int32)) < 0 ∨ cl13.slots.size ≤ ((x2 + (3 : Int32))).toNatClampNeg) := own_in S13 (own_ix x2 _ hax (by decide))
        obtain ⟨T13, h13, X13, e13, W13, st13⟩ := stB X12 hx hZ e12 Ar13 (j := (x2 + (3 : Int32))) hin13 (g := (mkF m 174 #[.val (.int x0), .val (.ref a), .val (.int x2), .unset] [(.int (((128 : Int32) ||| (x0 &&& (63 : Int32))).toInt8.toInt32)), (.int (x2 + (3 : Int32))), (.ref a)])) rfl rfl (hb hby d1_174)
        replace V_a : own_BA Z h12 a .byte 8 (own_up (own_up (own_up ff (x2).toNatClampNeg (nar .byte (((240 : Int32) ||| (x0 >>> ((18 : Int32) &&& 31))).toInt8.toInt32))) ((x2 + (1 : Int32))).toNatClampNeg (nar .byte (((128 : Int32) ||| ((x0 >>> ((12 : Int32) &&& 31)) &&& (63 : Int32))).toInt8.toInt32))) ((x2 + (2 : Int32))).toNatClampNeg (nar .byte (((128 : Int32) ||| ((x0 >>> ((6 : Int32) &&& 31)) &&& (63 : Int32))).toInt8.toInt32))) := ⟨cl13, Ar13, S13, H13⟩
        replace V_a : own_BA Z h13 a .byte 8 (own_up (own_up (own_up (own_up ff (x2).toNatClampNeg (nar .byte (((240 : Int32) ||| (x0 >>> ((18 : Int32) &&& 31))).toInt8.toInt32))) ((x2 + (1 : Int32))).toNatClampNeg (nar .byte (((128 : Int32) ||| ((x0 >>> ((12 : Int32) &&& 31)) &&& (63 : Int32))).toInt8.toInt32))) ((x2 + (2 : Int32))).toNatClampNeg (nar .byte (((128 : Int32) ||| ((x0 >>> ((6 : Int32) &&& 31)) &&& (63 : Int32))).toInt8.toInt32))) ((x2 + (3 : Int32))).toNatClampNeg (nar .byte (((128 : Int32) ||| (x0 &&& (63 : Int32))).toInt8.toInt32))) := V_a.same W13
        replace Zs : n0 ≤ h13.size := by rw [W13.size]; exact Zs
        replace K : Keep h0 h13 [a] := K.wr W13 (Or.inl (List.mem_of_getElem? (i := 0) rfl))
        have NF := Fr.snoc X13 NF g_a
        refine own_by (B := T13.setTop (mkF m 175 #[.val (.int x0), .val (.ref a), .val (.int x2), .unset] [])) (fun t k => st13 _ k) ?_
        refine own_by (B := T13.setTop (mkF m 176 #[.val (.int x0), .val (.ref a), .val (.int x2), .unset] [(.int x2)])) (fun t k => XS.iloadN X13.here hx rfl (hb hby d1_175) rfl k) ?_
        refine own_by (B := T13.setTop (mkF m 177 #[.val (.int x0), .val (.ref a), .val (.int x2), .unset] [(.int (4 : Int32)), (.int x2)])) (fun t k => XS.iconst X13.here hx rfl (hb hby d1_176) k) ?_
        refine own_by (B := T13.setTop (mkF m 178 #[.val (.int x0), .val (.ref a), .val (.int x2), .unset] [(.int (x2 + (4 : Int32)))])) (fun t k => XS.iadd X13.here hx rfl (hb hby d1_177) rfl k) ?_
        refine own_by (B := T13.setTop (mkF m 179 #[.val (.int x0), .val (.ref a), .val (.int x2), .val (.int (x2 + (4 : Int32)))] [])) (fun t k => XS.istoreN X13.here hx rfl (hb hby d1_178) rfl (l' := #[.val (.int x0), .val (.ref a), .val (.int x2), .val (.int (x2 + (4 : Int32)))]) rfl k) ?_
        refine own_by (B := T13.setTop (mkF m 180 #[.val (.int x0), .val (.ref a), .val (.int x2), .val (.int (x2 + (4 : Int32)))] [(.int (x2 + (4 : Int32)))])) (fun t k => XS.iloadN X13.here hx rfl (hb hby d1_179) rfl k) ?_
        have he : own_enc ff x0 x2 = (own_up (own_up (own_up (own_up ff (x2).toNatClampNeg (nar .byte (((240 : Int32) ||| (x0 >>> ((18 : Int32) &&& 31))).toInt8.toInt32))) ((x2 + (1 : Int32))).toNatClampNeg (nar .byte (((128 : Int32) ||| ((x0 >>> ((12 : Int32) &&& 31)) &&& (63 : Int32))).toInt8.toInt32))) ((x2 + (2 : Int32))).toNatClampNeg (nar .byte (((128 : Int32) ||| ((x0 >>> ((6 : Int32) &&& 31)) &&& (63 : Int32))).toInt8.toInt32))) ((x2 + (3 : Int32))).toNatClampNeg (nar .byte (((128 : Int32) ||| (x0 &&& (63 : Int32))).toInt8.toInt32))) := by unfold own_enc; rw [if_neg hc1, if_neg hc3, if_neg hc6]
        have hn : own_n x0 = (4 : Int32) := by unfold own_n; rw [if_neg hc1, if_neg hc3, if_neg hc6]
        exact own_retI X13 hx hlk hret (hb hby d1_180) (by show own_Q1 Z x0 a x2 ff h0 n0 _ _ _; rw [e13]; unfold own_Q1; rw [he, hn]; exact ⟨rfl, NF, K, V_a⟩) (by decide) (by decide)
theorem d2_0 : decode method_3_code 0 = .ok (.iload_n 1, 1) := by decide +kernel
theorem d2_1 : decode method_3_code 1 = .ok (.iload_n 2, 1) := by decide +kernel
theorem d2_2 : decode method_3_code 2 = .ok (.if_icmp .lt 8, 3) := by decide +kernel
theorem d2_5 : decode method_3_code 5 = .ok (.iload_n 1, 1) := by decide +kernel
theorem d2_6 : decode method_3_code 6 = .ok (.iload_n 3, 1) := by decide +kernel
theorem d2_7 : decode method_3_code 7 = .ok (.if_icmp .lt 17, 3) := by decide +kernel
theorem d2_10 : decode method_3_code 10 = .ok (.aload_n 0, 1) := by decide +kernel
theorem d2_11 : decode method_3_code 11 = .ok (.iload_n 1, 1) := by decide +kernel
theorem d2_12 : decode method_3_code 12 = .ok (.baload, 1) := by decide +kernel
theorem d2_13 : decode method_3_code 13 = .ok (.iload 4, 2) := by decide +kernel
theorem d2_15 : decode method_3_code 15 = .ok (.if_icmp .ne 7, 3) := by decide +kernel
theorem d2_18 : decode method_3_code 18 = .ok (.iconst 1, 1) := by decide +kernel
theorem d2_19 : decode method_3_code 19 = .ok (.goto 4, 3) := by decide +kernel
theorem d2_22 : decode method_3_code 22 = .ok (.iconst 0, 1) := by decide +kernel
theorem d2_23 : decode method_3_code 23 = .ok (.ireturn, 1) := by decide +kernel
theorem d2_24 : decode method_3_code 24 = .ok (.iconst 1, 1) := by decide +kernel
theorem d2_25 : decode method_3_code 25 = .ok (.ireturn, 1) := by decide +kernel
theorem pn_2 : plainName "com/example/myriad_paths/myriadpaths/Utf8TextEncodePinLaw" = true := by first | (simp [plainName, overriddenIn]; done) | decide +kernel
theorem ef_2 (m : MethodId) (a : Addr) (x1 : Int32) (x2 : Int32) (x3 : Int32) (x4 : Int32) : entryFrame m #[(.ref a), (.int x1), (.int x2), (.int x3), (.int x4)] 5 = mkF m 0 #[.val (.ref a), .val (.int x1), .val (.int x2), .val (.int x3), .val (.int x4)] [] := by first | (simp [entryFrame, mkF, argsToLocals, Value.category]; done) | rfl
def f2_23 (ff : Nat → Int32) (x1 : Int32) (x2 : Int32) (x3 : Int32) (x4 : Int32) (y0 : Int32) : Int32 := (nar .boolean y0)
set_option maxRecDepth 65536 in
set_option maxHeartbeats 40000000 in
theorem bk2_23 (l : Launch) (Z : State) (a0 : Array Value) (hw : ∀ d ∈ tables_1, d.before a0 Z = true) (h0 : Heap) (a : Addr)  (ff : Nat → Int32) (V_a : own_BA Z h0 a .byte 8 ff) (x1 : Int32) (x2 : Int32) (x3 : Int32) (x4 : Int32) (y0 : Int32) (hi : ¬ x1 < 0 ∧ x1.toNatClampNeg < 8) {p : Program} {e : Env} {s : State} {m : MethodId} {args : Array Value} {below : List Frame} {meth : Method} {c : Code} {T0 : State}
    (X0 : Stand p l e ({ frames := 0, cells := 0, slots := 0, locals := 0 } : Room) s m args below meth c T0 [] 0 0) (hx : p.tables.exec = Jvm.exec) (hby : c.code = method_3_code) (hml : c.maxLocals = 5) (hret : meth.sig.returnType = (some .boolean)) (hlk : meth.locks = false) (hZ : Z.Warmed39 s.vm) (hown : s.vm.findClass "com/example/myriad_paths/myriadpaths/Utf8TextEncodePinLaw" = some m.cls) (hnm : meth.name = "kept") (e0 : T0.heap = h0) :
    own_Go p e below s (own_Qp (some (.int (f2_23 ff x1 x2 x3 x4 y0))) h0) 0 0 (T0.setTop (mkF m 23 #[.val (.ref a), .val (.int x1), .val (.int x2), .val (.int x3), .val (.int x4)] [(.int y0)])) := by
  have hf : f2_23 ff x1 x2 x3 x4 y0 = (nar .boolean y0) := rfl
  exact own_retN (t := .boolean) (by simp) X0 hx hlk hret (z' := (nar .boolean y0)) rfl (hb hby d2_23) ⟨by rw [hf], rfl, e0⟩ (by decide) (by decide)
def f2_10 (ff : Nat → Int32) (x1 : Int32) (x2 : Int32) (x3 : Int32) (x4 : Int32) : Int32 := (if (ff (x1).toNatClampNeg) = x4 then (f2_23 ff x1 x2 x3 x4 (1 : Int32)) else (f2_23 ff x1 x2 x3 x4 (0 : Int32)))
set_option maxRecDepth 65536 in
set_option maxHeartbeats 40000000 in
theorem bk2_10 (l : Launch) (Z : State) (a0 : Array Value) (hw : ∀ d ∈ tables_1, d.before a0 Z = true) (h0 : Heap) (a : Addr)  (ff : Nat → Int32) (V_a : own_BA Z h0 a .byte 8 ff) (x1 : Int32) (x2 : Int32) (x3 : Int32) (x4 : Int32) (hi : ¬ x1 < 0 ∧ x1.toNatClampNeg < 8) {p : Program} {e : Env} {s : State} {m : MethodId} {args : Array Value} {below : List Frame} {meth : Method} {c : Code} {T0 : State}
    (X0 : Stand p l e ({ frames := 0, cells := 0, slots := 0, locals := 0 } : Room) s m args below meth c T0 [] 0 0) (hx : p.tables.exec = Jvm.exec) (hby : c.code = method_3_code) (hml : c.maxLocals = 5) (hret : meth.sig.returnType = (some .boolean)) (hlk : meth.locks = false) (hZ : Z.Warmed39 s.vm) (hown : s.vm.findClass "com/example/myriad_paths/myriadpaths/Utf8TextEncodePinLaw" = some m.cls) (hnm : meth.name = "kept") (e0 : T0.heap = h0) :
    own_Go p e below s (own_Qp (some (.int (f2_10 ff x1 x2 x3 x4))) h0) 0 0 (T0.setTop (mkF m 10 #[.val (.ref a), .val (.int x1), .val (.int x2), .val (.int x3), .val (.int x4)] [])) := by
  have hf : f2_10 ff x1 x2 x3 x4 = (if (ff (x1).toNatClampNeg) = x4 then (f2_23 ff x1 x2 x3 x4 (1 : Int32)) else (f2_23 ff x1 x2 x3 x4 (0 : Int32))) := rfl
  refine own_by (B := T0.setTop (mkF m 11 #[.val (.ref a), .val (.int x1), .val (.int x2), .val (.int x3), .val (.int x4)] [(.ref a)])) (fun t k => XS.aloadN X0.here hx rfl (hb hby d2_10) rfl rfl k) ?_
  refine own_by (B := T0.setTop (mkF m 12 #[.val (.ref a), .val (.int x1), .val (.int x2), .val (.int x3), .val (.int x4)] [(.int x1), (.ref a)])) (fun t k => XS.iloadN X0.here hx rfl (hb hby d2_11) rfl k) ?_
  obtain ⟨cl1, Ar1, S1, H1⟩ := V_a
  have hin1 : ¬ (x1 < 0 ∨ cl1.slots.size ≤ (x1).toNatClampNeg) := own_in S1 hi
  have hat1 : cl1.slots[(x1).toNatClampNeg]? = some (.int (ff (x1).toNatClampNeg)) := H1 _ (own_lt S1 hin1)
  refine own_by (B := T0.setTop (mkF m 13 #[.val (.ref a), .val (.int x1), .val (.int x2), .val (.int x3), .val (.int x4)] [(.int (ff (x1).toNatClampNeg))])) (fun t k => X0.baloadBytes hx (j := x1) (v := (.int (ff (x1).toNatClampNeg))) (by rw [e0]; exact Ar1.1) (State.isArrayOf_alike hZ.alike Ar1.2.1) Ar1.2.2 hin1 hat1 (g := (mkF m 12 #[.val (.ref a), .val (.int x1), .val (.int x2), .val (.int x3), .val (.int x4)] [(.int x1), (.ref a)])) rfl rfl (hb hby d2_12) _ k) ?_
  have V_a : own_BA Z h0 a .byte 8 ff := ⟨cl1, Ar1, S1, H1⟩
  refine own_by (B := T0.setTop (mkF m 15 #[.val (.ref a), .val (.int x1), .val (.int x2), .val (.int x3), .val (.int x4)] [(.int x4), (.int (ff (x1).toNatClampNeg))])) (fun t k => XS.iload X0.here hx rfl (hb hby d2_13) rfl k) ?_
  by_cases hc2 : (ff (x1).toNatClampNeg) = x4
  ·
    rw [if_pos hc2] at hf
    refine own_by (B := T0.setTop (mkF m 18 #[.val (.ref a), .val (.int x1), .val (.int x2), .val (.int x3), .val (.int x4)] [])) (fun t k => XS.icmpNo X0.here hx rfl (hb hby d2_15) rfl (teq hc2).2 k) ?_
    refine own_by (B := T0.setTop (mkF m 19 #[.val (.ref a), .val (.int x1), .val (.int x2), .val (.int x3), .val (.int x4)] [(.int (1 : Int32))])) (fun t k => XS.iconst X0.here hx rfl (hb hby d2_18) k) ?_
    refine own_by (B := T0.setTop (mkF m 23 #[.val (.ref a), .val (.int x1), .val (.int x2), .val (.int x3), .val (.int x4)] [(.int (1 : Int32))])) (fun t k => XS.goto X0.here hx rfl (pc0 := 19) (pc' := 23) rfl (hb hby d2_19) (by decide) (by decide) k) ?_
    rw [hf]
    exact bk2_23 l Z a0 hw h0 a ff V_a x1 x2 x3 x4 (1 : Int32) hi X0 hx hby hml hret hlk hZ hown hnm e0
  ·
    rw [if_neg hc2] at hf
    refine own_by (B := T0.setTop (mkF m 22 #[.val (.ref a), .val (.int x1), .val (.int x2), .val (.int x3), .val (.int x4)] [])) (fun t k => XS.icmpYes X0.here hx rfl (pc0 := 15) (pc' := 22) rfl (hb hby d2_15) rfl (feq hc2).2 (by decide) (by decide) k) ?_
    refine own_by (B := T0.setTop (mkF m 23 #[.val (.ref a), .val (.int x1), .val (.int x2), .val (.int x3), .val (.int x4)] [(.int (0 : Int32))])) (fun t k => XS.iconst X0.here hx rfl (hb hby d2_22) k) ?_
    rw [hf]
    exact bk2_23 l Z a0 hw h0 a ff V_a x1 x2 x3 x4 (0 : Int32) hi X0 hx hby hml hret hlk hZ hown hnm e0
def f2_0 (ff : Nat → Int32) (x1 : Int32) (x2 : Int32) (x3 : Int32) (x4 : Int32) : Int32 := (if x1 < x2 then (f2_10 ff x1 x2 x3 x4) else (if x1 < x3 then (1 : Int32) else (f2_10 ff x1 x2 x3 x4)))
set_option maxRecDepth 65536 in
set_option maxHeartbeats 40000000 in
theorem bk2_0 (l : Launch) (Z : State) (a0 : Array Value) (hw : ∀ d ∈ tables_1, d.before a0 Z = true) (h0 : Heap) (a : Addr)  (ff : Nat → Int32) (V_a : own_BA Z h0 a .byte 8 ff) (x1 : Int32) (x2 : Int32) (x3 : Int32) (x4 : Int32) (hi : ¬ x1 < 0 ∧ x1.toNatClampNeg < 8) {p : Program} {e : Env} {s : State} {m : MethodId} {args : Array Value} {below : List Frame} {meth : Method} {c : Code} {T0 : State}
    (X0 : Stand p l e ({ frames := 0, cells := 0, slots := 0, locals := 0 } : Room) s m args below meth c T0 [] 0 0) (hx : p.tables.exec = Jvm.exec) (hby : c.code = method_3_code) (hml : c.maxLocals = 5) (hret : meth.sig.returnType = (some .boolean)) (hlk : meth.locks = false) (hZ : Z.Warmed39 s.vm) (hown : s.vm.findClass "com/example/myriad_paths/myriadpaths/Utf8TextEncodePinLaw" = some m.cls) (hnm : meth.name = "kept") (e0 : T0.heap = h0) :
    own_Go p e below s (own_Qp (some (.int (f2_0 ff x1 x2 x3 x4))) h0) 0 0 (T0.setTop (mkF m 0 #[.val (.ref a), .val (.int x1), .val (.int x2), .val (.int x3), .val (.int x4)] [])) := by
  have hf : f2_0 ff x1 x2 x3 x4 = (if x1 < x2 then (f2_10 ff x1 x2 x3 x4) else (if x1 < x3 then (1 : Int32) else (f2_10 ff x1 x2 x3 x4))) := rfl
  refine own_by (B := T0.setTop (mkF m 1 #[.val (.ref a), .val (.int x1), .val (.int x2), .val (.int x3), .val (.int x4)] [(.int x1)])) (fun t k => XS.iloadN X0.here hx rfl (hb hby d2_0) rfl k) ?_
  refine own_by (B := T0.setTop (mkF m 2 #[.val (.ref a), .val (.int x1), .val (.int x2), .val (.int x3), .val (.int x4)] [(.int x2), (.int x1)])) (fun t k => XS.iloadN X0.here hx rfl (hb hby d2_1) rfl k) ?_
  by_cases hc1 : x1 < x2
  ·
    rw [if_pos hc1] at hf
    refine own_by (B := T0.setTop (mkF m 10 #[.val (.ref a), .val (.int x1), .val (.int x2), .val (.int x3), .val (.int x4)] [])) (fun t k => XS.icmpYes X0.here hx rfl (pc0 := 2) (pc' := 10) rfl (hb hby d2_2) rfl (tlt hc1).1 (by decide) (by decide) k) ?_
    rw [hf]
    exact bk2_10 l Z a0 hw h0 a ff V_a x1 x2 x3 x4 hi X0 hx hby hml hret hlk hZ hown hnm e0
  ·
    rw [if_neg hc1] at hf
    refine own_by (B := T0.setTop (mkF m 5 #[.val (.ref a), .val (.int x1), .val (.int x2), .val (.int x3), .val (.int x4)] [])) (fun t k => XS.icmpNo X0.here hx rfl (hb hby d2_2) rfl (flt hc1).1 k) ?_
    refine own_by (B := T0.setTop (mkF m 6 #[.val (.ref a), .val (.int x1), .val (.int x2), .val (.int x3), .val (.int x4)] [(.int x1)])) (fun t k => XS.iloadN X0.here hx rfl (hb hby d2_5) rfl k) ?_
    refine own_by (B := T0.setTop (mkF m 7 #[.val (.ref a), .val (.int x1), .val (.int x2), .val (.int x3), .val (.int x4)] [(.int x3), (.int x1)])) (fun t k => XS.iloadN X0.here hx rfl (hb hby d2_6) rfl k) ?_
    by_cases hc2 : x1 < x3
    ·
      rw [if_pos hc2] at hf
      refine own_by (B := T0.setTop (mkF m 24 #[.val (.ref a), .val (.int x1), .val (.int x2), .val (.int x3), .val (.int x4)] [])) (fun t k => XS.icmpYes X0.here hx rfl (pc0 := 7) (pc' := 24) rfl (hb hby d2_7) rfl (tlt hc2).1 (by decide) (by decide) k) ?_
      refine own_by (B := T0.setTop (mkF m 25 #[.val (.ref a), .val (.int x1), .val (.int x2), .val (.int x3), .val (.int x4)] [(.int (1 : Int32))])) (fun t k => XS.iconst X0.here hx rfl (hb hby d2_24) k) ?_
      exact own_retN (t := .boolean) (by simp) X0 hx hlk hret (z' := (1 : Int32)) (by decide) (hb hby d2_25) ⟨by rw [hf], rfl, e0⟩ (by decide) (by decide)
    ·
      rw [if_neg hc2] at hf
      refine own_by (B := T0.setTop (mkF m 10 #[.val (.ref a), .val (.int x1), .val (.int x2), .val (.int x3), .val (.int x4)] [])) (fun t k => XS.icmpNo X0.here hx rfl (hb hby d2_7) rfl (flt hc2).1 k) ?_
      rw [hf]
      exact bk2_10 l Z a0 hw h0 a ff V_a x1 x2 x3 x4 hi X0 hx hby hml hret hlk hZ hown hnm e0
set_option maxRecDepth 65536 in
set_option maxHeartbeats 40000000 in
theorem rm2 (l : Launch) (Z : State) (a0 : Array Value) (hw : ∀ d ∈ tables_1, d.before a0 Z = true) (ws : List Jvm.Cond) (a : Addr) (x1 : Int32) (x2 : Int32) (x3 : Int32) (x4 : Int32)  (ff : Nat → Int32) (h0 : Heap) (V_a : own_BA Z h0 a .byte 8 ff) (hi : ¬ x1 < 0 ∧ x1.toNatClampNeg < 8) :
    MetFree l (⟨"com/example/myriad_paths/myriadpaths/Utf8TextEncodePinLaw", "kept", "([BIIIB)Z"⟩ : MethodName) (head1 (Jvm.Cond.code (⟨"com/example/myriad_paths/myriadpaths/Utf8TextEncodePinLaw", "kept", "([BIIIB)Z"⟩ : MethodName) method_3_code 5 (some .boolean) :: ws) ({ frames := 0, cells := 0, slots := 0, locals := 0 } : Room)) (fun aa U => aa = #[(.ref a), (.int x1), (.int x2), (.int x3), (.int x4)] ∧ Z.Warmed39 U.vm ∧ U.heap = h0) (fun _ _ _ _ _ => True) (fun _ U o U' => ∃ v L, o = .returned v ∧ own_Qp (some (.int (f2_0 ff x1 x2 x3 x4))) h0 v U'.heap L ∧ FrameEnd U o U' L ({ frames := 0, cells := 0, slots := 0, locals := 0 } : Room).cells ({ frames := 0, cells := 0, slots := 0, locals := 0 } : Room).slots) := by
  refine own_met (plainFor_of_name pn_2) fun p e s m below meth c T0 X0 hx hby hml hret hlk hZ hown hnm e0 => ?_
  refine own_cast (ef_2 m a x1 x2 x3 x4) ?_
  exact bk2_0 l Z a0 hw h0 a ff V_a x1 x2 x3 x4 hi X0 hx hby hml hret hlk hZ hown hnm e0
theorem d3_0 : decode method_2_code 0 = .ok (.aload_n 0, 1) := by decide +kernel
theorem d3_1 : decode method_2_code 1 = .ok (.iload_n 1, 1) := by decide +kernel
theorem d3_2 : decode method_2_code 2 = .ok (.baload, 1) := by decide +kernel
theorem d3_3 : decode method_2_code 3 = .ok (.sipush 255, 3) := by decide +kernel
theorem d3_6 : decode method_2_code 6 = .ok (.iand, 1) := by decide +kernel
theorem d3_7 : decode method_2_code 7 = .ok (.ireturn, 1) := by decide +kernel
theorem pn_3 : plainName "com/example/myriad_paths/myriadpaths/Utf8TextEncodePinLaw" = true := by first | (simp [plainName, overriddenIn]; done) | decide +kernel
theorem ef_3 (m : MethodId) (a : Addr) (x1 : Int32) : entryFrame m #[(.ref a), (.int x1)] 2 = mkF m 0 #[.val (.ref a), .val (.int x1)] [] := by first | (simp [entryFrame, mkF, argsToLocals, Value.category]; done) | rfl
def f3_0 (ff : Nat → Int32) (x1 : Int32) : Int32 := ((ff (x1).toNatClampNeg) &&& (255 : Int32))
set_option maxRecDepth 65536 in
set_option maxHeartbeats 40000000 in
theorem bk3_0 (l : Launch) (Z : State) (a0 : Array Value) (hw : ∀ d ∈ tables_1, d.before a0 Z = true) (h0 : Heap) (a : Addr)  (ff : Nat → Int32) (V_a : own_BA Z h0 a .byte 8 ff) (x1 : Int32) (hi : ¬ x1 < 0 ∧ x1.toNatClampNeg < 8) {p : Program} {e : Env} {s : State} {m : MethodId} {args : Array Value} {below : List Frame} {meth : Method} {c : Code} {T0 : State}
    (X0 : Stand p l e ({ frames := 0, cells := 0, slots := 0, locals := 0 } : Room) s m args below meth c T0 [] 0 0) (hx : p.tables.exec = Jvm.exec) (hby : c.code = method_2_code) (hml : c.maxLocals = 2) (hret : meth.sig.returnType = (some .int)) (hlk : meth.locks = false) (hZ : Z.Warmed39 s.vm) (hown : s.vm.findClass "com/example/myriad_paths/myriadpaths/Utf8TextEncodePinLaw" = some m.cls) (hnm : meth.name = "u") (e0 : T0.heap = h0) :
    own_Go p e below s (own_Qp (some (.int (f3_0 ff x1))) h0) 0 0 (T0.setTop (mkF m 0 #[.val (.ref a), .val (.int x1)] [])) := by
  have hf : f3_0 ff x1 = ((ff (x1).toNatClampNeg) &&& (255 : Int32)) := rfl
  refine own_by (B := T0.setTop (mkF m 1 #[.val (.ref a), .val (.int x1)] [(.ref a)])) (fun t k => XS.aloadN X0.here hx rfl (hb hby d3_0) rfl rfl k) ?_
  refine own_by (B := T0.setTop (mkF m 2 #[.val (.ref a), .val (.int x1)] [(.int x1), (.ref a)])) (fun t k => XS.iloadN X0.here hx rfl (hb hby d3_1) rfl k) ?_
  obtain ⟨cl1, Ar1, S1, H1⟩ := V_a
  have hin1 : ¬ (x1 < 0 ∨ cl1.slots.size ≤ (x1).toNatClampNeg) := own_in S1 hi
  have hat1 : cl1.slots[(x1).toNatClampNeg]? = some (.int (ff (x1).toNatClampNeg)) := H1 _ (own_lt S1 hin1)
  refine own_by (B := T0.setTop (mkF m 3 #[.val (.ref a), .val (.int x1)] [(.int (ff (x1).toNatClampNeg))])) (fun t k => X0.baloadBytes hx (j := x1) (v := (.int (ff (x1).toNatClampNeg))) (by rw [e0]; exact Ar1.1) (State.isArrayOf_alike hZ.alike Ar1.2.1) Ar1.2.2 hin1 hat1 (g := (mkF m 2 #[.val (.ref a), .val (.int x1)] [(.int x1), (.ref a)])) rfl rfl (hb hby d3_2) _ k) ?_
  have V_a : own_BA Z h0 a .byte 8 ff := ⟨cl1, Ar1, S1, H1⟩
  refine own_by (B := T0.setTop (mkF m 6 #[.val (.ref a), .val (.int x1)] [(.int (255 : Int32)), (.int (ff (x1).toNatClampNeg))])) (fun t k => XS.sipush X0.here hx rfl (hb hby d3_3) k) ?_
  refine own_by (B := T0.setTop (mkF m 7 #[.val (.ref a), .val (.int x1)] [(.int ((ff (x1).toNatClampNeg) &&& (255 : Int32)))])) (fun t k => XS.iand X0.here hx rfl (hb hby d3_6) rfl k) ?_
  exact own_retI X0 hx hlk hret (hb hby d3_7) ⟨by rw [hf], rfl, e0⟩ (by decide) (by decide)
set_option maxRecDepth 65536 in
set_option maxHeartbeats 40000000 in
theorem rm3 (l : Launch) (Z : State) (a0 : Array Value) (hw : ∀ d ∈ tables_1, d.before a0 Z = true) (ws : List Jvm.Cond) (a : Addr) (x1 : Int32)  (ff : Nat → Int32) (h0 : Heap) (V_a : own_BA Z h0 a .byte 8 ff) (hi : ¬ x1 < 0 ∧ x1.toNatClampNeg < 8) :
    MetFree l (⟨"com/example/myriad_paths/myriadpaths/Utf8TextEncodePinLaw", "u", "([BI)I"⟩ : MethodName) (head1 (Jvm.Cond.code (⟨"com/example/myriad_paths/myriadpaths/Utf8TextEncodePinLaw", "u", "([BI)I"⟩ : MethodName) method_2_code 2 (some .int) :: ws) ({ frames := 0, cells := 0, slots := 0, locals := 0 } : Room)) (fun aa U => aa = #[(.ref a), (.int x1)] ∧ Z.Warmed39 U.vm ∧ U.heap = h0) (fun _ _ _ _ _ => True) (fun _ U o U' => ∃ v L, o = .returned v ∧ own_Qp (some (.int (f3_0 ff x1))) h0 v U'.heap L ∧ FrameEnd U o U' L ({ frames := 0, cells := 0, slots := 0, locals := 0 } : Room).cells ({ frames := 0, cells := 0, slots := 0, locals := 0 } : Room).slots) := by
  refine own_met (plainFor_of_name pn_3) fun p e s m below meth c T0 X0 hx hby hml hret hlk hZ hown hnm e0 => ?_
  refine own_cast (ef_3 m a x1) ?_
  exact bk3_0 l Z a0 hw h0 a ff V_a x1 hi X0 hx hby hml hret hlk hZ hown hnm e0
theorem own_clamp (x : Int32) : x.toNatClampNeg = x.toInt.toNat := rfl
theorem own_cp (x cp0 cp : Int32) (h0 : cp0 = ((x &&& (2147483647 : Int32)) % (1114112 : Int32))) (h : cp = (if cp0 < (55296 : Int32) then cp0 else (if (57343 : Int32) < cp0 then cp0 else (cp0 - (2048 : Int32))))) : 0 ≤ cp.toInt ∧ cp.toInt ≤ 1114111 := by
  have b1 := c_and x 2147483647 (by decide)
  have b2 := (c_irem (x &&& (2147483647 : Int32)) (1114112 : Int32) 1114112 (by decide)).1 b1.1
  rw [← h0] at b2
  have hs := c_isub cp0 2048
  have r := rng32 (cp0 - (2048 : Int32))
  have e1 : (55296 : Int32).toInt = 55296 := by decide
  have e2 : (57343 : Int32).toInt = 57343 := by decide
  have e3 : (2048 : Int32).toInt = 2048 := by decide
  by_cases q1 : cp0 < (55296 : Int32)
  · rw [if_pos q1] at h; subst h; omega
  · rw [if_neg q1] at h
    by_cases q2 : (57343 : Int32) < cp0
    · rw [if_pos q2] at h; subst h; omega
    · rw [if_neg q2] at h
      rw [Int32.lt_iff_toInt_lt] at q1 q2
      subst h; omega
theorem own_ax (x ax : Int32) (h : ax = (x &&& (3 : Int32))) : 0 ≤ ax.toInt ∧ ax.toInt ≤ 3 := by
  have a := c_and x 3 (by decide)
  have e : (3 : Int32).toInt = 3 := by decide
  rw [← h] at a
  omega
theorem own_nb (x : Int32) : nar .byte (x.toInt8.toInt32) = x.toInt8.toInt32 := by
  show (x.toInt8.toInt32).toInt8.toInt32 = x.toInt8.toInt32
  have a := c_i2b (x.toInt8.toInt32)
  have b := c_i2b x
  exact Int32.toInt_inj.mp (by omega)
theorem own_E (x : Int32) (v : Int) (hx : x.toInt = v) (h0 : 0 ≤ v) (h1 : v < 256) : ((nar .byte (x.toInt8.toInt32)) &&& (255 : Int32)).toInt = v := by
  rw [own_nb]
  have a := c_i2b x
  have b := c_mask (x.toInt8.toInt32) 255 8 (by decide) (by decide)
  have e : ((2 ^ 8 : Nat) : Int) = 256 := by decide
  rw [e] at b
  omega
theorem own_hit (f : Nat → Int32) (j : Nat) (x : Int32) (i : Nat) (h : i = j) : own_up f j x i = x := if_pos h
theorem own_miss (f : Nat → Int32) (j : Nat) (x : Int32) (i : Nat) (h : i ≠ j) : own_up f j x i = f i := if_neg h
theorem own_orv (A x : Int32) (Av : Int) (k : Nat) (hk : k ≤ 31) (hA : A.toInt = Av) (h0 : Av % (2 ^ k : Nat) = 0) (h1 : 0 ≤ x.toInt) (h2 : x.toInt < (2 ^ k : Nat)) (h3 : 0 ≤ Av ∧ Av < 256) (h4 : x.toInt < 256) : (A ||| x).toInt = Av + x.toInt := by
  have a := c_or A x k hk _ rfl (by rw [hA]; exact h0) h1 h2
  have r := rng32 (A ||| x)
  omega
theorem own_m63 (x : Int32) : (x &&& (63 : Int32)).toInt = x.toInt % 64 := by
  have b := c_mask x 63 6 (by decide) (by decide)
  have e : ((2 ^ 6 : Nat) : Int) = 64 := by decide
  rw [e] at b; exact b
theorem own_s6 (x : Int32) : (x >>> ((6 : Int32) &&& 31)).toInt = x.toInt / 64 := c_ishr x 6 6 (by decide)
theorem own_s12 (x : Int32) : (x >>> ((12 : Int32) &&& 31)).toInt = x.toInt / 4096 := c_ishr x 12 12 (by decide)
theorem own_s18 (x : Int32) : (x >>> ((18 : Int32) &&& 31)).toInt = x.toInt / 262144 := c_ishr x 18 18 (by decide)
theorem own_cont (x : Int32) (v : Int) (h : x.toInt % 64 = v) : ((128 : Int32) ||| (x &&& (63 : Int32))).toInt = 128 + v := by
  have e := own_m63 x
  have p : ((2 ^ 6 : Nat) : Int) = 64 := by decide
  have h2 : (x &&& (63 : Int32)).toInt < ((2 ^ 6 : Nat) : Int) := by rw [p]; omega
  rw [own_orv 128 _ 128 6 (by decide) (by decide) (by decide) (by omega) h2 (by decide) (by omega)]
  omega
theorem own_small256 (x : Int32) (h0 : 0 ≤ x.toInt) (h1 : x.toInt < 256) : ∃ n : Fin 256, x = Int32.ofNat n.val ∧ (n.val : Int) = x.toInt := by
  refine ⟨⟨x.toInt.toNat, by omega⟩, Int32.toInt_inj.mp ?_, ?_⟩
  · show x.toInt = (Int32.ofNat x.toInt.toNat).toInt
    rw [Int32.toInt_ofNat_of_lt (by omega)]
    omega
  · show ((x.toInt.toNat : Nat) : Int) = _; omega
theorem own_t1 (x : Int32) (h0 : 128 ≤ x.toInt) (h1 : x.toInt < 192) : (x &&& (192 : Int32)) = (128 : Int32) := by
  obtain ⟨n, rfl, hn⟩ := own_small256 x (by omega) (by omega)
  have : ∀ n : Fin 256, 128 ≤ n.val → n.val < 192 → (Int32.ofNat n.val &&& (192 : Int32)) = (128 : Int32) := by decide +kernel
  exact this n (by omega) (by omega)
theorem own_t2 (x : Int32) (h0 : 192 ≤ x.toInt) (h1 : x.toInt < 224) : (x &&& (224 : Int32)) = (192 : Int32) := by
  obtain ⟨n, rfl, hn⟩ := own_small256 x (by omega) (by omega)
  have : ∀ n : Fin 256, 192 ≤ n.val → n.val < 224 → (Int32.ofNat n.val &&& (224 : Int32)) = (192 : Int32) := by decide +kernel
  exact this n (by omega) (by omega)
theorem own_t3 (x : Int32) (h0 : 224 ≤ x.toInt) (h1 : x.toInt < 240) : (x &&& (240 : Int32)) = (224 : Int32) := by
  obtain ⟨n, rfl, hn⟩ := own_small256 x (by omega) (by omega)
  have : ∀ n : Fin 256, 224 ≤ n.val → n.val < 240 → (Int32.ofNat n.val &&& (240 : Int32)) = (224 : Int32) := by decide +kernel
  exact this n (by omega) (by omega)
theorem own_t4 (x : Int32) (h0 : 240 ≤ x.toInt) (h1 : x.toInt < 248) : (x &&& (248 : Int32)) = (240 : Int32) := by
  obtain ⟨n, rfl, hn⟩ := own_small256 x (by omega) (by omega)
  have : ∀ n : Fin 256, 240 ≤ n.val → n.val < 248 → (Int32.ofNat n.val &&& (248 : Int32)) = (240 : Int32) := by decide +kernel
  exact this n (by omega) (by omega)
theorem own_pos (ax y : Int32) (d : Nat) (hy : y.toInt = (d : Int)) (h : 0 ≤ ax.toInt ∧ ax.toInt ≤ 3) (hd : d ≤ 4) : (ax + y).toNatClampNeg = ax.toNatClampNeg + d := by
  have a := own_k ax y d hy h (by omega)
  rw [own_clamp, own_clamp]
  omega
theorem own_l (x y : Int32) (v : Int) (hy : y.toInt = v) : x < y ↔ x.toInt < v := by rw [Int32.lt_iff_toInt_lt, hy]
theorem own_v1 (ff : Nat → Int32) (cp ax : Int32) (h0 : 0 ≤ cp.toInt) (h1 : cp.toInt < 128) : (f3_0 (own_enc ff cp ax) ax).toInt = cp.toInt := by
  have he : own_enc ff cp ax = (own_up ff (ax).toNatClampNeg (nar .byte (cp.toInt8.toInt32))) := by unfold own_enc; rw [if_pos ((own_l _ _ _ (by decide)).mpr h1)]
  rw [he]
  show ((own_up _ _ _ _) &&& (255 : Int32)).toInt = _
  rw [own_hit _ _ _ _ rfl]
  exact own_E _ _ rfl h0 (by omega)
theorem own_v2 (ff : Nat → Int32) (cp ax : Int32) (hax : 0 ≤ ax.toInt ∧ ax.toInt ≤ 3) (h0 : 128 ≤ cp.toInt) (h1 : cp.toInt < 2048) : (f3_0 (own_enc ff cp ax) ax).toInt = 192 + cp.toInt / 64 ∧ (f3_0 (own_enc ff cp ax) (ax + (1 : Int32))).toInt = 128 + cp.toInt % 64 := by
  have he : own_enc ff cp ax = (own_up (own_up ff (ax).toNatClampNeg (nar .byte (((192 : Int32) ||| (cp >>> ((6 : Int32) &&& 31))).toInt8.toInt32))) ((ax + (1 : Int32))).toNatClampNeg (nar .byte (((128 : Int32) ||| (cp &&& (63 : Int32))).toInt8.toInt32))) := by unfold own_enc; rw [if_neg (fun q => absurd ((own_l _ _ _ (by decide)).mp q) (by omega : ¬ cp.toInt < 128)), if_pos ((own_l _ _ 2048 (by decide)).mpr h1)]
  have p1 := own_pos ax 1 1 (by decide) hax (by decide)
  have s6 := own_s6 cp
  rw [he]
  constructor
  · show ((own_up _ _ _ _) &&& (255 : Int32)).toInt = _
    rw [own_miss _ _ _ _ (by omega), own_hit _ _ _ _ rfl]
    refine own_E _ _ ?_ (by omega) (by omega)
    rw [own_orv 192 _ 192 5 (by decide) (by decide) (by decide) (by omega) (by rw [s6]; show _ < (32 : Int); omega) (by decide) (by omega), s6]
  · show ((own_up _ _ _ _) &&& (255 : Int32)).toInt = _
    rw [own_hit _ _ _ _ rfl]
    exact own_E _ _ (own_cont cp _ rfl) (by omega) (by omega)
theorem own_v3 (ff : Nat → Int32) (cp ax : Int32) (hax : 0 ≤ ax.toInt ∧ ax.toInt ≤ 3) (h0 : 2048 ≤ cp.toInt) (h1 : cp.toInt < 65536) : (f3_0 (own_enc ff cp ax) ax).toInt = 224 + cp.toInt / 4096 ∧ (f3_0 (own_enc ff cp ax) (ax + (1 : Int32))).toInt = 128 + cp.toInt / 64 % 64 ∧ (f3_0 (own_enc ff cp ax) (ax + (2 : Int32))).toInt = 128 + cp.toInt % 64 := by
  have he : own_enc ff cp ax = (own_up (own_up (own_up ff (ax).toNatClampNeg (nar .byte (((224 : Int32) ||| (cp >>> ((12 : Int32) &&& 31))).toInt8.toInt32))) ((ax + (1 : Int32))).toNatClampNeg (nar .byte (((128 : Int32) ||| ((cp >>> ((6 : Int32) &&& 31)) &&& (63 : Int32))).toInt8.toInt32))) ((ax + (2 : Int32))).toNatClampNeg (nar .byte (((128 : Int32) ||| (cp &&& (63 : Int32))).toInt8.toInt32))) := by unfold own_enc; rw [if_neg (fun q => absurd ((own_l _ _ _ (by decide)).mp q) (by omega : ¬ cp.toInt < 128)), if_neg (fun q => absurd ((own_l _ _ _ (by decide)).mp q) (by omega : ¬ cp.toInt < 2048)), if_pos ((own_l _ _ 65536 (by decide)).mpr h1)]
  have p1 := own_pos ax 1 1 (by decide) hax (by decide)
  have p2 := own_pos ax 2 2 (by decide) hax (by decide)
  have s6 := own_s6 cp
  have s12 := own_s12 cp
  rw [he]
  refine ⟨?_, ?_, ?_⟩
  · show ((own_up _ _ _ _) &&& (255 : Int32)).toInt = _
    rw [own_miss _ _ _ _ (by omega), own_miss _ _ _ _ (by omega), own_hit _ _ _ _ rfl]
    refine own_E _ _ ?_ (by omega) (by omega)
    rw [own_orv 224 _ 224 4 (by decide) (by decide) (by decide) (by omega) (by rw [s12]; show _ < (16 : Int); omega) (by decide) (by omega), s12]
  · show ((own_up _ _ _ _) &&& (255 : Int32)).toInt = _
    rw [own_miss _ _ _ _ (by omega), own_hit _ _ _ _ rfl]
    exact own_E _ _ (own_cont _ _ (by rw [s6])) (by omega) (by omega)
  · show ((own_up _ _ _ _) &&& (255 : Int32)).toInt = _
    rw [own_hit _ _ _ _ rfl]
    exact own_E _ _ (own_cont cp _ rfl) (by omega) (by omega)
theorem own_v4 (ff : Nat → Int32) (cp ax : Int32) (hax : 0 ≤ ax.toInt ∧ ax.toInt ≤ 3) (h0 : 65536 ≤ cp.toInt) (h1 : cp.toInt ≤ 1114111) : (f3_0 (own_enc ff cp ax) ax).toInt = 240 + cp.toInt / 262144 ∧ (f3_0 (own_enc ff cp ax) (ax + (1 : Int32))).toInt = 128 + cp.toInt / 4096 % 64 ∧ (f3_0 (own_enc ff cp ax) (ax + (2 : Int32))).toInt = 128 + cp.toInt / 64 % 64 ∧ (f3_0 (own_enc ff cp ax) (ax + (3 : Int32))).toInt = 128 + cp.toInt % 64 := by
  have he : own_enc ff cp ax = (own_up (own_up (own_up (own_up ff (ax).toNatClampNeg (nar .byte (((240 : Int32) ||| (cp >>> ((18 : Int32) &&& 31))).toInt8.toInt32))) ((ax + (1 : Int32))).toNatClampNeg (nar .byte (((128 : Int32) ||| ((cp >>> ((12 : Int32) &&& 31)) &&& (63 : Int32))).toInt8.toInt32))) ((ax + (2 : Int32))).toNatClampNeg (nar .byte (((128 : Int32) ||| ((cp >>> ((6 : Int32) &&& 31)) &&& (63 : Int32))).toInt8.toInt32))) ((ax + (3 : Int32))).toNatClampNeg (nar .byte (((128 : Int32) ||| (cp &&& (63 : Int32))).toInt8.toInt32))) := by unfold own_enc; rw [if_neg (fun q => absurd ((own_l _ _ _ (by decide)).mp q) (by omega : ¬ cp.toInt < 128)), if_neg (fun q => absurd ((own_l _ _ _ (by decide)).mp q) (by omega : ¬ cp.toInt < 2048)), if_neg (fun q => absurd ((own_l _ _ _ (by decide)).mp q) (by omega : ¬ cp.toInt < 65536))]
  have p1 := own_pos ax 1 1 (by decide) hax (by decide)
  have p2 := own_pos ax 2 2 (by decide) hax (by decide)
  have p3 := own_pos ax 3 3 (by decide) hax (by decide)
  have s6 := own_s6 cp
  have s12 := own_s12 cp
  have s18 := own_s18 cp
  rw [he]
  refine ⟨?_, ?_, ?_, ?_⟩
  · show ((own_up _ _ _ _) &&& (255 : Int32)).toInt = _
    rw [own_miss _ _ _ _ (by omega), own_miss _ _ _ _ (by omega), own_miss _ _ _ _ (by omega), own_hit _ _ _ _ rfl]
    refine own_E _ _ ?_ (by omega) (by omega)
    rw [own_orv 240 _ 240 4 (by decide) (by decide) (by decide) (by omega) (by rw [s18]; show _ < (16 : Int); omega) (by decide) (by omega), s18]
  · show ((own_up _ _ _ _) &&& (255 : Int32)).toInt = _
    rw [own_miss _ _ _ _ (by omega), own_miss _ _ _ _ (by omega), own_hit _ _ _ _ rfl]
    exact own_E _ _ (own_cont _ _ (by rw [s12])) (by omega) (by omega)
  · show ((own_up _ _ _ _) &&& (255 : Int32)).toInt = _
    rw [own_miss _ _ _ _ (by omega), own_hit _ _ _ _ rfl]
    exact own_E _ _ (own_cont _ _ (by rw [s6])) (by omega) (by omega)
  · show ((own_up _ _ _ _) &&& (255 : Int32)).toInt = _
    rw [own_hit _ _ _ _ rfl]
    exact own_E _ _ (own_cont cp _ rfl) (by omega) (by omega)
theorem own_kept (cp ax fl q : Int32) (qn : Nat) (hq : q.toNatClampNeg = qn) (hqn : q.toInt = (qn : Int)) (hax : 0 ≤ ax.toInt ∧ ax.toInt ≤ 3) (hcp : 0 ≤ cp.toInt ∧ cp.toInt ≤ 1114111) : ¬ ((f2_0 (own_enc (fun _ => fl) cp ax) q ax (ax + (own_n cp)) fl) = (0 : Int32)) := by
  have p1 := own_pos ax 1 1 (by decide) hax (by decide)
  have p2 := own_pos ax 2 2 (by decide) hax (by decide)
  have p3 := own_pos ax 3 3 (by decide) hax (by decide)
  have pa := own_clamp ax
  have key : (qn < ax.toInt.toNat ∨ ax.toInt + (own_n cp).toInt ≤ (qn : Int)) → own_enc (fun _ => fl) cp ax q.toNatClampNeg = fl := by
    intro h
    rw [hq]
    unfold own_enc
    unfold own_n at h
    have n1 : (1 : Int32).toInt = 1 := by decide
    have n2 : (2 : Int32).toInt = 2 := by decide
    have n3 : (3 : Int32).toInt = 3 := by decide
    have n4 : (4 : Int32).toInt = 4 := by decide
    by_cases c1 : cp < (128 : Int32)
    · rw [if_pos c1] at h ⊢
      rw [own_miss _ _ _ _ (by omega)]
    · rw [if_neg c1] at h ⊢
      by_cases c2 : cp < (2048 : Int32)
      · rw [if_pos c2] at h ⊢
        rw [own_miss _ _ _ _ (by omega), own_miss _ _ _ _ (by omega)]
      · rw [if_neg c2] at h ⊢
        by_cases c3 : cp < (65536 : Int32)
        · rw [if_pos c3] at h ⊢
          rw [own_miss _ _ _ _ (by omega), own_miss _ _ _ _ (by omega), own_miss _ _ _ _ (by omega)]
        · rw [if_neg c3] at h ⊢
          rw [own_miss _ _ _ _ (by omega), own_miss _ _ _ _ (by omega), own_miss _ _ _ _ (by omega), own_miss _ _ _ _ (by omega)]
  have hn : 0 ≤ (own_n cp).toInt ∧ (own_n cp).toInt ≤ 4 := by
    unfold own_n
    repeat' split
    all_goals decide
  have hend := own_k ax (own_n cp) _ rfl hax hn
  generalize own_enc (fun _ => fl) cp ax = g at *
  have hf : f2_0 g q ax (ax + (own_n cp)) fl = (if q < ax then (if (g (q).toNatClampNeg) = fl then (nar .boolean (1 : Int32)) else (nar .boolean (0 : Int32))) else (if q < (ax + (own_n cp)) then (1 : Int32) else (if (g (q).toNatClampNeg) = fl then (nar .boolean (1 : Int32)) else (nar .boolean (0 : Int32))))) := rfl
  rw [hf]
  by_cases c1 : q < ax
  · rw [if_pos c1]
    rw [Int32.lt_iff_toInt_lt] at c1
    rw [if_pos (key (by omega))]
    decide
  · rw [if_neg c1]
    by_cases c2 : q < (ax + (own_n cp))
    · rw [if_pos c2]; decide
    · rw [if_neg c2]
      rw [Int32.lt_iff_toInt_lt] at c2
      rw [if_pos (key (by omega))]
      decide
theorem own_nc (cp nn : Int32) (hnn : nn = (if cp < (128 : Int32) then (1 : Int32) else (if cp < (2048 : Int32) then (2 : Int32) else (if cp < (65536 : Int32) then (3 : Int32) else (4 : Int32))))) : (nn = 1 → cp.toInt < 128) ∧ (nn = 2 → 128 ≤ cp.toInt ∧ cp.toInt < 2048) ∧ (nn = 3 → 2048 ≤ cp.toInt ∧ cp.toInt < 65536) ∧ (¬ nn = 1 → 128 ≤ cp.toInt) ∧ (¬ nn = 1 → ¬ nn = 2 → 2048 ≤ cp.toInt) ∧ (¬ nn = 1 → ¬ nn = 2 → ¬ nn = 3 → 65536 ≤ cp.toInt) := by
  have e1 : (128 : Int32).toInt = 128 := by decide
  have e2 : (2048 : Int32).toInt = 2048 := by decide
  have e3 : (65536 : Int32).toInt = 65536 := by decide
  simp only [Int32.lt_iff_toInt_lt, e1, e2, e3] at hnn
  by_cases c1 : cp.toInt < 128
  · rw [if_pos c1] at hnn
    subst hnn
    exact ⟨fun _ => c1, fun h => absurd h (by decide), fun h => absurd h (by decide), fun h => absurd rfl h, fun h => absurd rfl h, fun h => absurd rfl h⟩
  · rw [if_neg c1] at hnn
    by_cases c2 : cp.toInt < 2048
    · rw [if_pos c2] at hnn
      subst hnn
      exact ⟨fun h => absurd h (by decide), fun _ => ⟨by omega, c2⟩, fun h => absurd h (by decide), fun _ => by omega, fun _ h => absurd rfl h, fun _ h => absurd rfl h⟩
    · rw [if_neg c2] at hnn
      by_cases c3 : cp.toInt < 65536
      · rw [if_pos c3] at hnn
        subst hnn
        exact ⟨fun h => absurd h (by decide), fun h => absurd h (by decide), fun _ => ⟨by omega, c3⟩, fun _ => by omega, fun _ _ => by omega, fun _ _ h => absurd rfl h⟩
      · rw [if_neg c3] at hnn
        subst hnn
        exact ⟨fun h => absurd h (by decide), fun h => absurd h (by decide), fun h => absurd h (by decide), fun _ => by omega, fun _ _ => by omega, fun _ _ _ => by omega⟩
abbrev own_NN (cp nn : Int32) : Prop := nn = (if cp < (128 : Int32) then (1 : Int32) else (if cp < (2048 : Int32) then (2 : Int32) else (if cp < (65536 : Int32) then (3 : Int32) else (4 : Int32))))
abbrev own_CP (cp : Int32) : Prop := 0 ≤ cp.toInt ∧ cp.toInt ≤ 1114111
abbrev own_AX (ax : Int32) : Prop := 0 ≤ ax.toInt ∧ ax.toInt ≤ 3
theorem own_b1 (fl cp ax nn b0 : Int32) (hcp : own_CP cp) (hax : own_AX ax) (hnn : own_NN cp nn) (hb0 : b0 = (f3_0 (own_enc (fun _ => fl) cp ax) ax)) (h : nn = (1 : Int32)) : b0 = cp := by
  have r := (own_nc cp nn hnn).1 h
  exact Int32.toInt_inj.mp (by rw [hb0, own_v1 _ cp ax hcp.1 r])
theorem own_c1 (fl cp ax nn b1 : Int32) (hcp : own_CP cp) (hax : own_AX ax) (hnn : own_NN cp nn) (hb1 : b1 = (f3_0 (own_enc (fun _ => fl) cp ax) (ax + (1 : Int32)))) (h : ¬ nn = (1 : Int32)) : (b1 &&& (192 : Int32)) = (128 : Int32) := by
  have r := (own_nc cp nn hnn).2.2.2.1 h
  have v : 128 ≤ b1.toInt ∧ b1.toInt < 192 := by
    rw [hb1]
    by_cases c2 : cp.toInt < 2048
    · rw [(own_v2 (fun _ => fl) cp ax hax r c2).2]; omega
    · by_cases c3 : cp.toInt < 65536
      · rw [(own_v3 (fun _ => fl) cp ax hax (by omega) c3).2.1]; omega
      · rw [(own_v4 (fun _ => fl) cp ax hax (by omega) hcp.2).2.1]; omega
  exact own_t1 b1 v.1 v.2
theorem own_m (x : Int32) (m : Int32) (k : Nat) (P : Int) (hP : ((2 ^ k : Nat) : Int) = P) (hk : k ≤ 31) (hm : m.toBitVec.toNat = 2 ^ k - 1) : (x &&& m).toInt = x.toInt % P := by
  rw [c_mask x m k hk hm, hP]
theorem own_mulv (x y : Int32) (u w : Int) (hx : x.toInt = u) (hy : y.toInt = w) (h0 : 0 ≤ u * w) (h1 : u * w < 2147483648) : (x * y).toInt = u * w := by
  have a := c_imul x y
  have r := rng32 (x * y)
  rw [hx, hy] at a
  omega
theorem own_addv (x y : Int32) (u w : Int) (hx : x.toInt = u) (hy : y.toInt = w) (h0 : 0 ≤ u + w) (h1 : u + w < 2147483648) : (x + y).toInt = u + w := by
  have a := c_iadd x y
  have r := rng32 (x + y)
  omega
theorem own_b2 (fl cp ax nn b0 b1 : Int32) (hcp : own_CP cp) (hax : own_AX ax) (hnn : own_NN cp nn) (hb0 : b0 = (f3_0 (own_enc (fun _ => fl) cp ax) ax)) (hb1 : b1 = (f3_0 (own_enc (fun _ => fl) cp ax) (ax + (1 : Int32)))) (h : nn = (2 : Int32)) :
    (b0 &&& (224 : Int32)) = (192 : Int32) ∧ (((b0 &&& (31 : Int32)) * (64 : Int32)) + (b1 &&& (63 : Int32))) = cp := by
  have r := (own_nc cp nn hnn).2.1 h
  have v := own_v2 (fun _ => fl) cp ax hax r.1 r.2
  rw [← hb0, ← hb1] at v
  refine ⟨own_t2 b0 (by omega) (by omega), Int32.toInt_inj.mp ?_⟩
  have m1 := own_m b0 31 5 32 (by decide) (by decide) (by decide)
  have m2 := own_m63 b1
  rw [own_addv _ _ _ _ (own_mulv _ _ _ _ m1 (by decide : (64 : Int32).toInt = 64) (by omega) (by omega)) m2 (by omega) (by omega)]
  omega
theorem own_c2 (fl cp ax nn b2 : Int32) (hcp : own_CP cp) (hax : own_AX ax) (hnn : own_NN cp nn) (hb2 : b2 = (f3_0 (own_enc (fun _ => fl) cp ax) (ax + (2 : Int32)))) (h : ¬ nn = (1 : Int32)) (h2 : ¬ nn = (2 : Int32)) : (b2 &&& (192 : Int32)) = (128 : Int32) := by
  have r := (own_nc cp nn hnn).2.2.2.2.1 h h2
  have v : 128 ≤ b2.toInt ∧ b2.toInt < 192 := by
    rw [hb2]
    by_cases c3 : cp.toInt < 65536
    · rw [(own_v3 (fun _ => fl) cp ax hax (by omega) c3).2.2]; omega
    · rw [(own_v4 (fun _ => fl) cp ax hax (by omega) hcp.2).2.2.1]; omega
  exact own_t1 b2 v.1 v.2
theorem own_b3 (fl cp ax nn b0 b1 b2 : Int32) (hcp : own_CP cp) (hax : own_AX ax) (hnn : own_NN cp nn) (hb0 : b0 = (f3_0 (own_enc (fun _ => fl) cp ax) ax)) (hb1 : b1 = (f3_0 (own_enc (fun _ => fl) cp ax) (ax + (1 : Int32)))) (hb2 : b2 = (f3_0 (own_enc (fun _ => fl) cp ax) (ax + (2 : Int32)))) (h : nn = (3 : Int32)) :
    (b0 &&& (240 : Int32)) = (224 : Int32) ∧ ((((b0 &&& (15 : Int32)) * (4096 : Int32)) + ((b1 &&& (63 : Int32)) * (64 : Int32))) + (b2 &&& (63 : Int32))) = cp := by
  have r := (own_nc cp nn hnn).2.2.1 h
  have v := own_v3 (fun _ => fl) cp ax hax r.1 r.2
  rw [← hb0, ← hb1, ← hb2] at v
  refine ⟨own_t3 b0 (by omega) (by omega), Int32.toInt_inj.mp ?_⟩
  have m1 := own_m b0 15 4 16 (by decide) (by decide) (by decide)
  have m2 := own_m63 b1
  have m3 := own_m63 b2
  rw [own_addv _ _ _ _ (own_addv _ _ _ _ (own_mulv _ _ _ _ m1 (by decide : (4096 : Int32).toInt = 4096) (by omega) (by omega)) (own_mulv _ _ _ _ m2 (by decide : (64 : Int32).toInt = 64) (by omega) (by omega)) (by omega) (by omega)) m3 (by omega) (by omega)]
  omega
theorem own_c3 (fl cp ax nn b3 : Int32) (hcp : own_CP cp) (hax : own_AX ax) (hnn : own_NN cp nn) (hb3 : b3 = (f3_0 (own_enc (fun _ => fl) cp ax) (ax + (3 : Int32)))) (h : ¬ nn = (1 : Int32)) (h2 : ¬ nn = (2 : Int32)) (h3 : ¬ nn = (3 : Int32)) : (b3 &&& (192 : Int32)) = (128 : Int32) := by
  have r := (own_nc cp nn hnn).2.2.2.2.2 h h2 h3
  have v : 128 ≤ b3.toInt ∧ b3.toInt < 192 := by
    rw [hb3, (own_v4 (fun _ => fl) cp ax hax (by omega) hcp.2).2.2.2]; omega
  exact own_t1 b3 v.1 v.2
theorem own_b4 (fl cp ax nn b0 b1 b2 b3 : Int32) (hcp : own_CP cp) (hax : own_AX ax) (hnn : own_NN cp nn) (hb0 : b0 = (f3_0 (own_enc (fun _ => fl) cp ax) ax)) (hb1 : b1 = (f3_0 (own_enc (fun _ => fl) cp ax) (ax + (1 : Int32)))) (hb2 : b2 = (f3_0 (own_enc (fun _ => fl) cp ax) (ax + (2 : Int32)))) (hb3 : b3 = (f3_0 (own_enc (fun _ => fl) cp ax) (ax + (3 : Int32)))) (h : ¬ nn = (1 : Int32)) (h2 : ¬ nn = (2 : Int32)) (h3 : ¬ nn = (3 : Int32)) :
    (b0 &&& (248 : Int32)) = (240 : Int32) ∧ (((((b0 &&& (7 : Int32)) * (262144 : Int32)) + ((b1 &&& (63 : Int32)) * (4096 : Int32))) + ((b2 &&& (63 : Int32)) * (64 : Int32))) + (b3 &&& (63 : Int32))) = cp := by
  have r := (own_nc cp nn hnn).2.2.2.2.2 h h2 h3
  have v := own_v4 (fun _ => fl) cp ax hax r hcp.2
  have hc2 := hcp.2
  rw [← hb0, ← hb1, ← hb2, ← hb3] at v
  refine ⟨own_t4 b0 (by omega) (by omega), Int32.toInt_inj.mp ?_⟩
  have m1 := own_m b0 7 3 8 (by decide) (by decide) (by decide)
  have m2 := own_m63 b1
  have m3 := own_m63 b2
  have m4 := own_m63 b3
  rw [own_addv _ _ _ _ (own_addv _ _ _ _ (own_addv _ _ _ _ (own_mulv _ _ _ _ m1 (by decide : (262144 : Int32).toInt = 262144) (by omega) (by omega)) (own_mulv _ _ _ _ m2 (by decide : (4096 : Int32).toInt = 4096) (by omega) (by omega)) (by omega) (by omega)) (own_mulv _ _ _ _ m3 (by decide : (64 : Int32).toInt = 64) (by omega) (by omega)) (by omega) (by omega)) m4 (by omega) (by omega)]
  omega

theorem own_all (fl : Int32) : ∀ i, i < 8 → (own_up (own_up (own_up (own_up (own_up (own_up (own_up (own_up (fun _ => 0) ((0 : Int32)).toNatClampNeg fl) ((1 : Int32)).toNatClampNeg fl) ((2 : Int32)).toNatClampNeg fl) ((3 : Int32)).toNatClampNeg fl) ((4 : Int32)).toNatClampNeg fl) ((5 : Int32)).toNatClampNeg fl) ((6 : Int32)).toNatClampNeg fl) ((7 : Int32)).toNatClampNeg fl) i = (fun _ => fl) i := by
  intro i hi
  have h : i = 0 ∨ i = 1 ∨ i = 2 ∨ i = 3 ∨ i = 4 ∨ i = 5 ∨ i = 6 ∨ i = 7 := by omega
  rcases h with rfl | rfl | rfl | rfl | rfl | rfl | rfl | rfl <;> rfl
theorem pn_0 : plainName "com/example/myriad_paths/myriadpaths/Utf8TextEncodePinLaw" = true := by first | (simp [plainName, overriddenIn]; done) | decide +kernel
theorem ef_0 (m : MethodId) (i0 : Int32) (i1 : Int32) (i2 : Int32) : entryFrame m #[(.int i0), (.int i1), (.int i2)] maxLocals = mkF m 0 #[.val (.int i0), .val (.int i1), .val (.int i2), .unset, .unset, .unset, .unset, .unset, .unset, .unset, .unset, .unset, .unset, .unset] [] := by first | (simp [entryFrame, mkF, argsToLocals, Value.category, maxLocals]; done) | rfl
def own_Q0 (n0 : Nat) (v : Option Value) (h : Heap) (L : List Loc) : Prop := v = some (.int 1) ∧ Fr n0 L
set_option maxRecDepth 65536 in
set_option maxHeartbeats 40000000 in
theorem rm0 (l : Launch) (Z : State) (a0 : Array Value) (hw : ∀ d ∈ tables_1, d.before a0 Z = true) (ws : List Jvm.Cond) (i0 : Int32) (i1 : Int32) (i2 : Int32)  (h0 : Heap) (n0 : Nat) (Z0 : n0 ≤ h0.size)  :
    MetFree l x (head1 (Jvm.Cond.code x code maxLocals ret :: ws) room_1) (fun aa U => aa = #[(.int i0), (.int i1), (.int i2)] ∧ Z.Warmed39 U.vm ∧ U.heap = h0) (fun _ _ _ _ _ => True) (fun _ U o U' => ∃ v L, o = .returned v ∧ own_Q0 n0 v U'.heap L ∧ FrameEnd U o U' L room_1.cells room_1.slots) := by
  refine own_met (plainFor_of_name pn_0) fun p e s m below meth c T0 X0 hx hby hml hret hlk hZ hown hnm e0 => ?_
  refine own_cast (ef_0 m i0 i1 i2) ?_
  have NF := Fr.nil n0
  have Zs := Z0
  refine own_by (B := T0.setTop (mkF m 1 #[.val (.int i0), .val (.int i1), .val (.int i2), .unset, .unset, .unset, .unset, .unset, .unset, .unset, .unset, .unset, .unset, .unset] [(.int i0)])) (fun t k => XS.iloadN X0.here hx rfl (hb hby at_0) rfl k) ?_
  refine own_by (B := T0.setTop (mkF m 3 #[.val (.int i0), .val (.int i1), .val (.int i2), .unset, .unset, .unset, .unset, .unset, .unset, .unset, .unset, .unset, .unset, .unset] [(.int (2147483647 : Int32)), (.int i0)])) (fun t k => X0.ldcInt hx hown (mvT hZ (hw _ (List.mem_of_getElem? (i := 0) rfl))) (g := (mkF m 1 #[.val (.int i0), .val (.int i1), .val (.int i2), .unset, .unset, .unset, .unset, .unset, .unset, .unset, .unset, .unset, .unset, .unset] [(.int i0)])) rfl (hb hby at_1) _ k) ?_
  refine own_by (B := T0.setTop (mkF m 4 #[.val (.int i0), .val (.int i1), .val (.int i2), .unset, .unset, .unset, .unset, .unset, .unset, .unset, .unset, .unset, .unset, .unset] [(.int (i0 &&& (2147483647 : Int32)))])) (fun t k => XS.iand X0.here hx rfl (hb hby at_3) rfl k) ?_
  refine own_by (B := T0.setTop (mkF m 6 #[.val (.int i0), .val (.int i1), .val (.int i2), .unset, .unset, .unset, .unset, .unset, .unset, .unset, .unset, .unset, .unset, .unset] [(.int (1114112 : Int32)), (.int (i0 &&& (2147483647 : Int32)))])) (fun t k => X0.ldcInt hx hown (mvT hZ (hw _ (List.mem_of_getElem? (i := 1) rfl))) (g := (mkF m 4 #[.val (.int i0), .val (.int i1), .val (.int i2), .unset, .unset, .unset, .unset, .unset, .unset, .unset, .unset, .unset, .unset, .unset] [(.int (i0 &&& (2147483647 : Int32)))])) rfl (hb hby at_4) _ k) ?_
  refine own_by (B := T0.setTop (mkF m 7 #[.val (.int i0), .val (.int i1), .val (.int i2), .unset, .unset, .unset, .unset, .unset, .unset, .unset, .unset, .unset, .unset, .unset] [(.int ((i0 &&& (2147483647 : Int32)) % (1114112 : Int32)))])) (fun t k => iremM X0 hx rfl (hb hby at_6) rfl (by decide) k) ?_
  refine own_by (B := T0.setTop (mkF m 8 #[.val (.int i0), .val (.int i1), .val (.int i2), .val (.int ((i0 &&& (2147483647 : Int32)) % (1114112 : Int32))), .unset, .unset, .unset, .unset, .unset, .unset, .unset, .unset, .unset, .unset] [])) (fun t k => XS.istoreN X0.here hx rfl (hb hby at_7) rfl (l' := #[.val (.int i0), .val (.int i1), .val (.int i2), .val (.int ((i0 &&& (2147483647 : Int32)) % (1114112 : Int32))), .unset, .unset, .unset, .unset, .unset, .unset, .unset, .unset, .unset, .unset]) rfl k) ?_
  obtain ⟨cp0, hcp0⟩ : ∃ z : Int32, z = ((i0 &&& (2147483647 : Int32)) % (1114112 : Int32)) := ⟨_, rfl⟩
  rw [← hcp0]
  refine own_by (B := T0.setTop (mkF m 9 #[.val (.int i0), .val (.int i1), .val (.int i2), .val (.int cp0), .unset, .unset, .unset, .unset, .unset, .unset, .unset, .unset, .unset, .unset] [(.int cp0)])) (fun t k => XS.iloadN X0.here hx rfl (hb hby at_8) rfl k) ?_
  refine own_by (B := T0.setTop (mkF m 11 #[.val (.int i0), .val (.int i1), .val (.int i2), .val (.int cp0), .unset, .unset, .unset, .unset, .unset, .unset, .unset, .unset, .unset, .unset] [(.int (55296 : Int32)), (.int cp0)])) (fun t k => X0.ldcInt hx hown (mvT hZ (hw _ (List.mem_of_getElem? (i := 2) rfl))) (g := (mkF m 9 #[.val (.int i0), .val (.int i1), .val (.int i2), .val (.int cp0), .unset, .unset, .unset, .unset, .unset, .unset, .unset, .unset, .unset, .unset] [(.int cp0)])) rfl (hb hby at_9) _ k) ?_
  obtain ⟨cp, hcp⟩ : ∃ z : Int32, z = (if cp0 < (55296 : Int32) then cp0 else (if (57343 : Int32) < cp0 then cp0 else (cp0 - (2048 : Int32)))) := ⟨_, rfl⟩
  refine own_by (B := T0.setTop (mkF m 26 #[.val (.int i0), .val (.int i1), .val (.int i2), .val (.int cp), .unset, .unset, .unset, .unset, .unset, .unset, .unset, .unset, .unset, .unset] [])) (fun t k => ?_) ?_
  ·
    show Steps p.tables e below (T0.setTop (mkF m 11 #[.val (.int i0), .val (.int i1), .val (.int i2), .val (.int cp0), .unset, .unset, .unset, .unset, .unset, .unset, .unset, .unset, .unset, .unset] [(.int (55296 : Int32)), (.int cp0)])) t
    by_cases hm2 : cp0 < (55296 : Int32)
    ·
      rw [if_pos hm2] at hcp
      refine XS.icmpYes X0.here hx rfl (pc0 := 11) (pc' := 26) rfl (hb hby at_11) rfl (tlt hm2).1 (by decide) (by decide) ?_
      show Steps p.tables e below (T0.setTop (mkF m 26 #[.val (.int i0), .val (.int i1), .val (.int i2), .val (.int cp0), .unset, .unset, .unset, .unset, .unset, .unset, .unset, .unset, .unset, .unset] [])) t
      show Steps p.tables e below (T0.setTop (mkF m 26 #[.val (.int i0), .val (.int i1), .val (.int i2), .val (.int cp0), .unset, .unset, .unset, .unset, .unset, .unset, .unset, .unset, .unset, .unset] [])) t
      subst hcp
      exact k
    ·
      rw [if_neg hm2] at hcp
      refine XS.icmpNo X0.here hx rfl (hb hby at_11) rfl (flt hm2).1 ?_
      show Steps p.tables e below (T0.setTop (mkF m 14 #[.val (.int i0), .val (.int i1), .val (.int i2), .val (.int cp0), .unset, .unset, .unset, .unset, .unset, .unset, .unset, .unset, .unset, .unset] [])) t
      show Steps p.tables e below (T0.setTop (mkF m 14 #[.val (.int i0), .val (.int i1), .val (.int i2), .val (.int cp0), .unset, .unset, .unset, .unset, .unset, .unset, .unset, .unset, .unset, .unset] [])) t
      refine XS.iloadN X0.here hx rfl (hb hby at_14) rfl ?_
      show Steps p.tables e below (T0.setTop (mkF m 15 #[.val (.int i0), .val (.int i1), .val (.int i2), .val (.int cp0), .unset, .unset, .unset, .unset, .unset, .unset, .unset, .unset, .unset, .unset] [(.int cp0)])) t
      refine X0.ldcInt hx hown (mvT hZ (hw _ (List.mem_of_getElem? (i := 15) rfl))) (g := (mkF m 15 #[.val (.int i0), .val (.int i1), .val (.int i2), .val (.int cp0), .unset, .unset, .unset, .unset, .unset, .unset, .unset, .unset, .unset, .unset] [(.int cp0)])) rfl (hb hby at_15) _ ?_
      show Steps p.tables e below (T0.setTop (mkF m 17 #[.val (.int i0), .val (.int i1), .val (.int i2), .val (.int cp0), .unset, .unset, .unset, .unset, .unset, .unset, .unset, .unset, .unset, .unset] [(.int (57343 : Int32)), (.int cp0)])) t
      by_cases hm3 : (57343 : Int32) < cp0
      ·
        rw [if_pos hm3] at hcp
        refine XS.icmpYes X0.here hx rfl (pc0 := 17) (pc' := 26) rfl (hb hby at_17) rfl (tlt hm3).2.2.1 (by decide) (by decide) ?_
        show Steps p.tables e below (T0.setTop (mkF m 26 #[.val (.int i0), .val (.int i1), .val (.int i2), .val (.int cp0), .unset, .unset, .unset, .unset, .unset, .unset, .unset, .unset, .unset, .unset] [])) t
        show Steps p.tables e below (T0.setTop (mkF m 26 #[.val (.int i0), .val (.int i1), .val (.int i2), .val (.int cp0), .unset, .unset, .unset, .unset, .unset, .unset, .unset, .unset, .unset, .unset] [])) t
        subst hcp
        exact k
      ·
        rw [if_neg hm3] at hcp
        refine XS.icmpNo X0.here hx rfl (hb hby at_17) rfl (flt hm3).2.2.1 ?_
        show Steps p.tables e below (T0.setTop (mkF m 20 #[.val (.int i0), .val (.int i1), .val (.int i2), .val (.int cp0), .unset, .unset, .unset, .unset, .unset, .unset, .unset, .unset, .unset, .unset] [])) t
        show Steps p.tables e below (T0.setTop (mkF m 20 #[.val (.int i0), .val (.int i1), .val (.int i2), .val (.int cp0), .unset, .unset, .unset, .unset, .unset, .unset, .unset, .unset, .unset, .unset] [])) t
        refine XS.iloadN X0.here hx rfl (hb hby at_20) rfl ?_
        show Steps p.tables e below (T0.setTop (mkF m 21 #[.val (.int i0), .val (.int i1), .val (.int i2), .val (.int cp0), .unset, .unset, .unset, .unset, .unset, .unset, .unset, .unset, .unset, .unset] [(.int cp0)])) t
        refine XS.sipush X0.here hx rfl (hb hby at_21) ?_
        show Steps p.tables e below (T0.setTop (mkF m 24 #[.val (.int i0), .val (.int i1), .val (.int i2), .val (.int cp0), .unset, .unset, .unset, .unset, .unset, .unset, .unset, .unset, .unset, .unset] [(.int (2048 : Int32)), (.int cp0)])) t
        refine XS.isub X0.here hx rfl (hb hby at_24) rfl ?_
        show Steps p.tables e below (T0.setTop (mkF m 25 #[.val (.int i0), .val (.int i1), .val (.int i2), .val (.int cp0), .unset, .unset, .unset, .unset, .unset, .unset, .unset, .unset, .unset, .unset] [(.int (cp0 - (2048 : Int32)))])) t
        refine XS.istoreN X0.here hx rfl (hb hby at_25) rfl (l' := #[.val (.int i0), .val (.int i1), .val (.int i2), .val (.int (cp0 - (2048 : Int32))), .unset, .unset, .unset, .unset, .unset, .unset, .unset, .unset, .unset, .unset]) rfl ?_
        show Steps p.tables e below (T0.setTop (mkF m 26 #[.val (.int i0), .val (.int i1), .val (.int i2), .val (.int (cp0 - (2048 : Int32))), .unset, .unset, .unset, .unset, .unset, .unset, .unset, .unset, .unset, .unset] [])) t
        subst hcp
        exact k
  have hcp1 := own_cp i0 cp0 cp hcp0 hcp
  refine own_by (B := T0.setTop (mkF m 27 #[.val (.int i0), .val (.int i1), .val (.int i2), .val (.int cp), .unset, .unset, .unset, .unset, .unset, .unset, .unset, .unset, .unset, .unset] [(.int i1)])) (fun t k => XS.iloadN X0.here hx rfl (hb hby at_26) rfl k) ?_
  refine own_by (B := T0.setTop (mkF m 28 #[.val (.int i0), .val (.int i1), .val (.int i2), .val (.int cp), .unset, .unset, .unset, .unset, .unset, .unset, .unset, .unset, .unset, .unset] [(.int (3 : Int32)), (.int i1)])) (fun t k => XS.iconst X0.here hx rfl (hb hby at_27) k) ?_
  refine own_by (B := T0.setTop (mkF m 29 #[.val (.int i0), .val (.int i1), .val (.int i2), .val (.int cp), .unset, .unset, .unset, .unset, .unset, .unset, .unset, .unset, .unset, .unset] [(.int (i1 &&& (3 : Int32)))])) (fun t k => XS.iand X0.here hx rfl (hb hby at_28) rfl k) ?_
  refine own_by (B := T0.setTop (mkF m 31 #[.val (.int i0), .val (.int i1), .val (.int i2), .val (.int cp), .val (.int (i1 &&& (3 : Int32))), .unset, .unset, .unset, .unset, .unset, .unset, .unset, .unset, .unset] [])) (fun t k => XS.istore X0.here hx rfl (hb hby at_29) rfl (l' := #[.val (.int i0), .val (.int i1), .val (.int i2), .val (.int cp), .val (.int (i1 &&& (3 : Int32))), .unset, .unset, .unset, .unset, .unset, .unset, .unset, .unset, .unset]) rfl k) ?_
  obtain ⟨ax, hax⟩ : ∃ z : Int32, z = (i1 &&& (3 : Int32)) := ⟨_, rfl⟩
  rw [← hax]
  have hax1 := own_ax i1 ax hax
  refine own_by (B := T0.setTop (mkF m 32 #[.val (.int i0), .val (.int i1), .val (.int i2), .val (.int cp), .val (.int ax), .unset, .unset, .unset, .unset, .unset, .unset, .unset, .unset, .unset] [(.int i2)])) (fun t k => XS.iloadN X0.here hx rfl (hb hby at_31) rfl k) ?_
  refine own_by (B := T0.setTop (mkF m 33 #[.val (.int i0), .val (.int i1), .val (.int i2), .val (.int cp), .val (.int ax), .unset, .unset, .unset, .unset, .unset, .unset, .unset, .unset, .unset] [(.int (i2.toInt8.toInt32))])) (fun t k => XS.i2b X0.here hx rfl (hb hby at_32) rfl k) ?_
  refine own_by (B := T0.setTop (mkF m 35 #[.val (.int i0), .val (.int i1), .val (.int i2), .val (.int cp), .val (.int ax), .val (.int (i2.toInt8.toInt32)), .unset, .unset, .unset, .unset, .unset, .unset, .unset, .unset] [])) (fun t k => XS.istore X0.here hx rfl (hb hby at_33) rfl (l' := #[.val (.int i0), .val (.int i1), .val (.int i2), .val (.int cp), .val (.int ax), .val (.int (i2.toInt8.toInt32)), .unset, .unset, .unset, .unset, .unset, .unset, .unset, .unset]) rfl k) ?_
  obtain ⟨fl, hfl⟩ : ∃ z : Int32, z = (i2.toInt8.toInt32) := ⟨_, rfl⟩
  rw [← hfl]
  have hfl1 : nar .byte fl = fl := by rw [hfl]; exact own_nb i2
  refine own_by (B := T0.setTop (mkF m 37 #[.val (.int i0), .val (.int i1), .val (.int i2), .val (.int cp), .val (.int ax), .val (.int fl), .unset, .unset, .unset, .unset, .unset, .unset, .unset, .unset] [(.int (8 : Int32))])) (fun t k => XS.bipush X0.here hx rfl (hb hby at_35) k) ?_
  obtain ⟨T4, h4, k4, X4, e4, E4, A4, st4⟩ := newP X0 hx hZ (hw _ (List.mem_of_getElem? (i := 3) rfl)) e0 (g := (mkF m 37 #[.val (.int i0), .val (.int i1), .val (.int i2), .val (.int cp), .val (.int ax), .val (.int fl), .unset, .unset, .unset, .unset, .unset, .unset, .unset, .unset] [(.int (8 : Int32))])) rfl (hb hby at_37) rfl (by decide) (cap := 8) (by decide) (by decide) (by decide) (by decide)
  obtain ⟨b4, g4⟩ : ∃ z, z = h0.size := ⟨_, rfl⟩
  rw [← g4] at A4 st4
  have g_b4 : n0 ≤ b4 := Nat.le_trans Zs (Nat.le_of_eq g4.symm)
  replace Zs : n0 ≤ h4.size := Nat.le_trans Zs E4.1
  have V_b4 : own_BA Z h4 b4 .byte 8 (fun _ => 0) := own_BA.new A4 (by decide) rfl
  refine own_by (B := T4.setTop (mkF m 39 #[.val (.int i0), .val (.int i1), .val (.int i2), .val (.int cp), .val (.int ax), .val (.int fl), .unset, .unset, .unset, .unset, .unset, .unset, .unset, .unset] [(.ref b4)])) (fun t k => st4 _ k) ?_
  refine own_by (B := T4.setTop (mkF m 41 #[.val (.int i0), .val (.int i1), .val (.int i2), .val (.int cp), .val (.int ax), .val (.int fl), .val (.ref b4), .unset, .unset, .unset, .unset, .unset, .unset, .unset] [])) (fun t k => XS.astore X4.here hx rfl (hb hby at_39) rfl rfl (l' := #[.val (.int i0), .val (.int i1), .val (.int i2), .val (.int cp), .val (.int ax), .val (.int fl), .val (.ref b4), .unset, .unset, .unset, .unset, .unset, .unset, .unset]) rfl k) ?_
  refine own_by (B := T4.setTop (mkF m 43 #[.val (.int i0), .val (.int i1), .val (.int i2), .val (.int cp), .val (.int ax), .val (.int fl), .val (.ref b4), .unset, .unset, .unset, .unset, .unset, .unset, .unset] [(.ref b4)])) (fun t k => XS.aload X4.here hx rfl (hb hby at_41) rfl rfl k) ?_
  refine own_by (B := T4.setTop (mkF m 44 #[.val (.int i0), .val (.int i1), .val (.int i2), .val (.int cp), .val (.int ax), .val (.int fl), .val (.ref b4), .unset, .unset, .unset, .unset, .unset, .unset, .unset] [(.int (0 : Int32)), (.ref b4)])) (fun t k => XS.iconst X4.here hx rfl (hb hby at_43) k) ?_
  refine own_by (B := T4.setTop (mkF m 46 #[.val (.int i0), .val (.int i1), .val (.int i2), .val (.int cp), .val (.int ax), .val (.int fl), .val (.ref b4), .unset, .unset, .unset, .unset, .unset, .unset, .unset] [(.int fl), (.int (0 : Int32)), (.ref b4)])) (fun t k => XS.iload X4.here hx rfl (hb hby at_44) rfl k) ?_
  obtain ⟨cl5, Ar5, S5, H5⟩ := V_b4
  have hin5 : ¬ ((0 : Int32) < 0 ∨ cl5.slots.size ≤ ((0 : Int32)).toNatClampNeg) := own_in S5 (by decide)
  obtain ⟨T5, h5, X5, e5, W5, st5⟩ := stB X4 hx hZ e4 Ar5 (j := (0 : Int32)) hin5 (g := (mkF m 46 #[.val (.int i0), .val (.int i1), .val (.int i2), .val (.int cp), .val (.int ax), .val (.int fl), .val (.ref b4), .unset, .unset, .unset, .unset, .unset, .unset, .unset] [(.int fl), (.int (0 : Int32)), (.ref b4)])) rfl rfl (hb hby at_46)
  replace V_b4 : own_BA Z h4 b4 .byte 8 (fun _ => 0) := ⟨cl5, Ar5, S5, H5⟩
  replace V_b4 : own_BA Z h5 b4 .byte 8 (own_up (fun _ => 0) ((0 : Int32)).toNatClampNeg (nar .byte fl)) := V_b4.same W5
  replace Zs : n0 ≤ h5.size := by rw [W5.size]; exact Zs
  have NF := Fr.snoc X5 NF g_b4
  refine own_by (B := T5.setTop (mkF m 47 #[.val (.int i0), .val (.int i1), .val (.int i2), .val (.int cp), .val (.int ax), .val (.int fl), .val (.ref b4), .unset, .unset, .unset, .unset, .unset, .unset, .unset] [])) (fun t k => st5 _ k) ?_
  refine own_by (B := T5.setTop (mkF m 49 #[.val (.int i0), .val (.int i1), .val (.int i2), .val (.int cp), .val (.int ax), .val (.int fl), .val (.ref b4), .unset, .unset, .unset, .unset, .unset, .unset, .unset] [(.ref b4)])) (fun t k => XS.aload X5.here hx rfl (hb hby at_47) rfl rfl k) ?_
  refine own_by (B := T5.setTop (mkF m 50 #[.val (.int i0), .val (.int i1), .val (.int i2), .val (.int cp), .val (.int ax), .val (.int fl), .val (.ref b4), .unset, .unset, .unset, .unset, .unset, .unset, .unset] [(.int (1 : Int32)), (.ref b4)])) (fun t k => XS.iconst X5.here hx rfl (hb hby at_49) k) ?_
  refine own_by (B := T5.setTop (mkF m 52 #[.val (.int i0), .val (.int i1), .val (.int i2), .val (.int cp), .val (.int ax), .val (.int fl), .val (.ref b4), .unset, .unset, .unset, .unset, .unset, .unset, .unset] [(.int fl), (.int (1 : Int32)), (.ref b4)])) (fun t k => XS.iload X5.here hx rfl (hb hby at_50) rfl k) ?_
  obtain ⟨cl6, Ar6, S6, H6⟩ := V_b4
  have hin6 : ¬ ((1 : Int32) < 0 ∨ cl6.slots.size ≤ ((1 : Int32)).toNatClampNeg) := own_in S6 (by decide)
  obtain ⟨T6, h6, X6, e6, W6, st6⟩ := stB X5 hx hZ e5 Ar6 (j := (1 : Int32)) hin6 (g := (mkF m 52 #[.val (.int i0), .val (.int i1), .val (.int i2), .val (.int cp), .val (.int ax), .val (.int fl), .val (.ref b4), .unset, .unset, .unset, .unset, .unset, .unset, .unset] [(.int fl), (.int (1 : Int32)), (.ref b4)])) rfl rfl (hb hby at_52)
  replace V_b4 : own_BA Z h5 b4 .byte 8 (own_up (fun _ => 0) ((0 : Int32)).toNatClampNeg (nar .byte fl)) := ⟨cl6, Ar6, S6, H6⟩
  replace V_b4 : own_BA Z h6 b4 .byte 8 (own_up (own_up (fun _ => 0) ((0 : Int32)).toNatClampNeg (nar .byte fl)) ((1 : Int32)).toNatClampNeg (nar .byte fl)) := V_b4.same W6
  replace Zs : n0 ≤ h6.size := by rw [W6.size]; exact Zs
  have NF := Fr.snoc X6 NF g_b4
  refine own_by (B := T6.setTop (mkF m 53 #[.val (.int i0), .val (.int i1), .val (.int i2), .val (.int cp), .val (.int ax), .val (.int fl), .val (.ref b4), .unset, .unset, .unset, .unset, .unset, .unset, .unset] [])) (fun t k => st6 _ k) ?_
  refine own_by (B := T6.setTop (mkF m 55 #[.val (.int i0), .val (.int i1), .val (.int i2), .val (.int cp), .val (.int ax), .val (.int fl), .val (.ref b4), .unset, .unset, .unset, .unset, .unset, .unset, .unset] [(.ref b4)])) (fun t k => XS.aload X6.here hx rfl (hb hby at_53) rfl rfl k) ?_
  refine own_by (B := T6.setTop (mkF m 56 #[.val (.int i0), .val (.int i1), .val (.int i2), .val (.int cp), .val (.int ax), .val (.int fl), .val (.ref b4), .unset, .unset, .unset, .unset, .unset, .unset, .unset] [(.int (2 : Int32)), (.ref b4)])) (fun t k => XS.iconst X6.here hx rfl (hb hby at_55) k) ?_
  refine own_by (B := T6.setTop (mkF m 58 #[.val (.int i0), .val (.int i1), .val (.int i2), .val (.int cp), .val (.int ax), .val (.int fl), .val (.ref b4), .unset, .unset, .unset, .unset, .unset, .unset, .unset] [(.int fl), (.int (2 : Int32)), (.ref b4)])) (fun t k => XS.iload X6.here hx rfl (hb hby at_56) rfl k) ?_
  obtain ⟨cl7, Ar7, S7, H7⟩ := V_b4
  have hin7 : ¬ ((2 : Int32) < 0 ∨ cl7.slots.size ≤ ((2 : Int32)).toNatClampNeg) := own_in S7 (by decide)
  obtain ⟨T7, h7, X7, e7, W7, st7⟩ := stB X6 hx hZ e6 Ar7 (j := (2 : Int32)) hin7 (g := (mkF m 58 #[.val (.int i0), .val (.int i1), .val (.int i2), .val (.int cp), .val (.int ax), .val (.int fl), .val (.ref b4), .unset, .unset, .unset, .unset, .unset, .unset, .unset] [(.int fl), (.int (2 : Int32)), (.ref b4)])) rfl rfl (hb hby at_58)
  replace V_b4 : own_BA Z h6 b4 .byte 8 (own_up (own_up (fun _ => 0) ((0 : Int32)).toNatClampNeg (nar .byte fl)) ((1 : Int32)).toNatClampNeg (nar .byte fl)) := ⟨cl7, Ar7, S7, H7⟩
  replace V_b4 : own_BA Z h7 b4 .byte 8 (own_up (own_up (own_up (fun _ => 0) ((0 : Int32)).toNatClampNeg (nar .byte fl)) ((1 : Int32)).toNatClampNeg (nar .byte fl)) ((2 : Int32)).toNatClampNeg (nar .byte fl)) := V_b4.same W7
  replace Zs : n0 ≤ h7.size := by rw [W7.size]; exact Zs
  have NF := Fr.snoc X7 NF g_b4
  refine own_by (B := T7.setTop (mkF m 59 #[.val (.int i0), .val (.int i1), .val (.int i2), .val (.int cp), .val (.int ax), .val (.int fl), .val (.ref b4), .unset, .unset, .unset, .unset, .unset, .unset, .unset] [])) (fun t k => st7 _ k) ?_
  refine own_by (B := T7.setTop (mkF m 61 #[.val (.int i0), .val (.int i1), .val (.int i2), .val (.int cp), .val (.int ax), .val (.int fl), .val (.ref b4), .unset, .unset, .unset, .unset, .unset, .unset, .unset] [(.ref b4)])) (fun t k => XS.aload X7.here hx rfl (hb hby at_59) rfl rfl k) ?_
  refine own_by (B := T7.setTop (mkF m 62 #[.val (.int i0), .val (.int i1), .val (.int i2), .val (.int cp), .val (.int ax), .val (.int fl), .val (.ref b4), .unset, .unset, .unset, .unset, .unset, .unset, .unset] [(.int (3 : Int32)), (.ref b4)])) (fun t k => XS.iconst X7.here hx rfl (hb hby at_61) k) ?_
  refine own_by (B := T7.setTop (mkF m 64 #[.val (.int i0), .val (.int i1), .val (.int i2), .val (.int cp), .val (.int ax), .val (.int fl), .val (.ref b4), .unset, .unset, .unset, .unset, .unset, .unset, .unset] [(.int fl), (.int (3 : Int32)), (.ref b4)])) (fun t k => XS.iload X7.here hx rfl (hb hby at_62) rfl k) ?_
  obtain ⟨cl8, Ar8, S8, H8⟩ := V_b4
  have hin8 : ¬ ((3 : Int32) < 0 ∨ cl8.slots.size ≤ ((3 : Int32)).toNatClampNeg) := own_in S8 (by decide)
  obtain ⟨T8, h8, X8, e8, W8, st8⟩ := stB X7 hx hZ e7 Ar8 (j := (3 : Int32)) hin8 (g := (mkF m 64 #[.val (.int i0), .val (.int i1), .val (.int i2), .val (.int cp), .val (.int ax), .val (.int fl), .val (.ref b4), .unset, .unset, .unset, .unset, .unset, .unset, .unset] [(.int fl), (.int (3 : Int32)), (.ref b4)])) rfl rfl (hb hby at_64)
  replace V_b4 : own_BA Z h7 b4 .byte 8 (own_up (own_up (own_up (fun _ => 0) ((0 : Int32)).toNatClampNeg (nar .byte fl)) ((1 : Int32)).toNatClampNeg (nar .byte fl)) ((2 : Int32)).toNatClampNeg (nar .byte fl)) := ⟨cl8, Ar8, S8, H8⟩
  replace V_b4 : own_BA Z h8 b4 .byte 8 (own_up (own_up (own_up (own_up (fun _ => 0) ((0 : Int32)).toNatClampNeg (nar .byte fl)) ((1 : Int32)).toNatClampNeg (nar .byte fl)) ((2 : Int32)).toNatClampNeg (nar .byte fl)) ((3 : Int32)).toNatClampNeg (nar .byte fl)) := V_b4.same W8
  replace Zs : n0 ≤ h8.size := by rw [W8.size]; exact Zs
  have NF := Fr.snoc X8 NF g_b4
  refine own_by (B := T8.setTop (mkF m 65 #[.val (.int i0), .val (.int i1), .val (.int i2), .val (.int cp), .val (.int ax), .val (.int fl), .val (.ref b4), .unset, .unset, .unset, .unset, .unset, .unset, .unset] [])) (fun t k => st8 _ k) ?_
  refine own_by (B := T8.setTop (mkF m 67 #[.val (.int i0), .val (.int i1), .val (.int i2), .val (.int cp), .val (.int ax), .val (.int fl), .val (.ref b4), .unset, .unset, .unset, .unset, .unset, .unset, .unset] [(.ref b4)])) (fun t k => XS.aload X8.here hx rfl (hb hby at_65) rfl rfl k) ?_
  refine own_by (B := T8.setTop (mkF m 68 #[.val (.int i0), .val (.int i1), .val (.int i2), .val (.int cp), .val (.int ax), .val (.int fl), .val (.ref b4), .unset, .unset, .unset, .unset, .unset, .unset, .unset] [(.int (4 : Int32)), (.ref b4)])) (fun t k => XS.iconst X8.here hx rfl (hb hby at_67) k) ?_
  refine own_by (B := T8.setTop (mkF m 70 #[.val (.int i0), .val (.int i1), .val (.int i2), .val (.int cp), .val (.int ax), .val (.int fl), .val (.ref b4), .unset, .unset, .unset, .unset, .unset, .unset, .unset] [(.int fl), (.int (4 : Int32)), (.ref b4)])) (fun t k => XS.iload X8.here hx rfl (hb hby at_68) rfl k) ?_
  obtain ⟨cl9, Ar9, S9, H9⟩ := V_b4
  have hin9 : ¬ ((4 : Int32) < 0 ∨ cl9.slots.size ≤ ((4 : Int32)).toNatClampNeg) := own_in S9 (by decide)
  obtain ⟨T9, h9, X9, e9, W9, st9⟩ := stB X8 hx hZ e8 Ar9 (j := (4 : Int32)) hin9 (g := (mkF m 70 #[.val (.int i0), .val (.int i1), .val (.int i2), .val (.int cp), .val (.int ax), .val (.int fl), .val (.ref b4), .unset, .unset, .unset, .unset, .unset, .unset, .unset] [(.int fl), (.int (4 : Int32)), (.ref b4)])) rfl rfl (hb hby at_70)
  replace V_b4 : own_BA Z h8 b4 .byte 8 (own_up (own_up (own_up (own_up (fun _ => 0) ((0 : Int32)).toNatClampNeg (nar .byte fl)) ((1 : Int32)).toNatClampNeg (nar .byte fl)) ((2 : Int32)).toNatClampNeg (nar .byte fl)) ((3 : Int32)).toNatClampNeg (nar .byte fl)) := ⟨cl9, Ar9, S9, H9⟩
  replace V_b4 : own_BA Z h9 b4 .byte 8 (own_up (own_up (own_up (own_up (own_up (fun _ => 0) ((0 : Int32)).toNatClampNeg (nar .byte fl)) ((1 : Int32)).toNatClampNeg (nar .byte fl)) ((2 : Int32)).toNatClampNeg (nar .byte fl)) ((3 : Int32)).toNatClampNeg (nar .byte fl)) ((4 : Int32)).toNatClampNeg (nar .byte fl)) := V_b4.same W9
  replace Zs : n0 ≤ h9.size := by rw [W9.size]; exact Zs
  have NF := Fr.snoc X9 NF g_b4
  refine own_by (B := T9.setTop (mkF m 71 #[.val (.int i0), .val (.int i1), .val (.int i2), .val (.int cp), .val (.int ax), .val (.int fl), .val (.ref b4), .unset, .unset, .unset, .unset, .unset, .unset, .unset] [])) (fun t k => st9 _ k) ?_
  refine own_by (B := T9.setTop (mkF m 73 #[.val (.int i0), .val (.int i1), .val (.int i2), .val (.int cp), .val (.int ax), .val (.int fl), .val (.ref b4), .unset, .unset, .unset, .unset, .unset, .unset, .unset] [(.ref b4)])) (fun t k => XS.aload X9.here hx rfl (hb hby at_71) rfl rfl k) ?_
  refine own_by (B := T9.setTop (mkF m 74 #[.val (.int i0), .val (.int i1), .val (.int i2), .val (.int cp), .val (.int ax), .val (.int fl), .val (.ref b4), .unset, .unset, .unset, .unset, .unset, .unset, .unset] [(.int (5 : Int32)), (.ref b4)])) (fun t k => XS.iconst X9.here hx rfl (hb hby at_73) k) ?_
  refine own_by (B := T9.setTop (mkF m 76 #[.val (.int i0), .val (.int i1), .val (.int i2), .val (.int cp), .val (.int ax), .val (.int fl), .val (.ref b4), .unset, .unset, .unset, .unset, .unset, .unset, .unset] [(.int fl), (.int (5 : Int32)), (.ref b4)])) (fun t k => XS.iload X9.here hx rfl (hb hby at_74) rfl k) ?_
  obtain ⟨cl10, Ar10, S10, H10⟩ := V_b4
  have hin10 : ¬ ((5 : Int32) < 0 ∨ cl10.slots.size ≤ ((5 : Int32)).toNatClampNeg) := own_in S10 (by decide)
  obtain ⟨T10, h10, X10, e10, W10, st10⟩ := stB X9 hx hZ e9 Ar10 (j := (5 : Int32)) hin10 (g := (mkF m 76 #[.val (.int i0), .val (.int i1), .val (.int i2), .val (.int cp), .val (.int ax), .val (.int fl), .val (.ref b4), .unset, .unset, .unset, .unset, .unset, .unset, .unset] [(.int fl), (.int (5 : Int32)), (.ref b4)])) rfl rfl (hb hby at_76)
  replace V_b4 : own_BA Z h9 b4 .byte 8 (own_up (own_up (own_up (own_up (own_up (fun _ => 0) ((0 : Int32)).toNatClampNeg (nar .byte fl)) ((1 : Int32)).toNatClampNeg (nar .byte fl)) ((2 : Int32)).toNatClampNeg (nar .byte fl)) ((3 : Int32)).toNatClampNeg (nar .byte fl)) ((4 : Int32)).toNatClampNeg (nar .byte fl)) := ⟨cl10, Ar10, S10, H10⟩
  replace V_b4 : own_BA Z h10 b4 .byte 8 (own_up (own_up (own_up (own_up (own_up (own_up (fun _ => 0) ((0 : Int32)).toNatClampNeg (nar .byte fl)) ((1 : Int32)).toNatClampNeg (nar .byte fl)) ((2 : Int32)).toNatClampNeg (nar .byte fl)) ((3 : Int32)).toNatClampNeg (nar .byte fl)) ((4 : Int32)).toNatClampNeg (nar .byte fl)) ((5 : Int32)).toNatClampNeg (nar .byte fl)) := V_b4.same W10
  replace Zs : n0 ≤ h10.size := by rw [W10.size]; exact Zs
  have NF := Fr.snoc X10 NF g_b4
  refine own_by (B := T10.setTop (mkF m 77 #[.val (.int i0), .val (.int i1), .val (.int i2), .val (.int cp), .val (.int ax), .val (.int fl), .val (.ref b4), .unset, .unset, .unset, .unset, .unset, .unset, .unset] [])) (fun t k => st10 _ k) ?_
  refine own_by (B := T10.setTop (mkF m 79 #[.val (.int i0), .val (.int i1), .val (.int i2), .val (.int cp), .val (.int ax), .val (.int fl), .val (.ref b4), .unset, .unset, .unset, .unset, .unset, .unset, .unset] [(.ref b4)])) (fun t k => XS.aload X10.here hx rfl (hb hby at_77) rfl rfl k) ?_
  refine own_by (B := T10.setTop (mkF m 81 #[.val (.int i0), .val (.int i1), .val (.int i2), .val (.int cp), .val (.int ax), .val (.int fl), .val (.ref b4), .unset, .unset, .unset, .unset, .unset, .unset, .unset] [(.int (6 : Int32)), (.ref b4)])) (fun t k => XS.bipush X10.here hx rfl (hb hby at_79) k) ?_
  refine own_by (B := T10.setTop (mkF m 83 #[.val (.int i0), .val (.int i1), .val (.int i2), .val (.int cp), .val (.int ax), .val (.int fl), .val (.ref b4), .unset, .unset, .unset, .unset, .unset, .unset, .unset] [(.int fl), (.int (6 : Int32)), (.ref b4)])) (fun t k => XS.iload X10.here hx rfl (hb hby at_81) rfl k) ?_
  obtain ⟨cl11, Ar11, S11, H11⟩ := V_b4
  have hin11 : ¬ ((6 : Int32) < 0 ∨ cl11.slots.size ≤ ((6 : Int32)).toNatClampNeg) := own_in S11 (by decide)
  obtain ⟨T11, h11, X11, e11, W11, st11⟩ := stB X10 hx hZ e10 Ar11 (j := (6 : Int32)) hin11 (g := (mkF m 83 #[.val (.int i0), .val (.int i1), .val (.int i2), .val (.int cp), .val (.int ax), .val (.int fl), .val (.ref b4), .unset, .unset, .unset, .unset, .unset, .unset, .unset] [(.int fl), (.int (6 : Int32)), (.ref b4)])) rfl rfl (hb hby at_83)
  replace V_b4 : own_BA Z h10 b4 .byte 8 (own_up (own_up (own_up (own_up (own_up (own_up (fun _ => 0) ((0 : Int32)).toNatClampNeg (nar .byte fl)) ((1 : Int32)).toNatClampNeg (nar .byte fl)) ((2 : Int32)).toNatClampNeg (nar .byte fl)) ((3 : Int32)).toNatClampNeg (nar .byte fl)) ((4 : Int32)).toNatClampNeg (nar .byte fl)) ((5 : Int32)).toNatClampNeg (nar .byte fl)) := ⟨cl11, Ar11, S11, H11⟩
  replace V_b4 : own_BA Z h11 b4 .byte 8 (own_up (own_up (own_up (own_up (own_up (own_up (own_up (fun _ => 0) ((0 : Int32)).toNatClampNeg (nar .byte fl)) ((1 : Int32)).toNatClampNeg (nar .byte fl)) ((2 : Int32)).toNatClampNeg (nar .byte fl)) ((3 : Int32)).toNatClampNeg (nar .byte fl)) ((4 : Int32)).toNatClampNeg (nar .byte fl)) ((5 : Int32)).toNatClampNeg (nar .byte fl)) ((6 : Int32)).toNatClampNeg (nar .byte fl)) := V_b4.same W11
  replace Zs : n0 ≤ h11.size := by rw [W11.size]; exact Zs
  have NF := Fr.snoc X11 NF g_b4
  refine own_by (B := T11.setTop (mkF m 84 #[.val (.int i0), .val (.int i1), .val (.int i2), .val (.int cp), .val (.int ax), .val (.int fl), .val (.ref b4), .unset, .unset, .unset, .unset, .unset, .unset, .unset] [])) (fun t k => st11 _ k) ?_
  refine own_by (B := T11.setTop (mkF m 86 #[.val (.int i0), .val (.int i1), .val (.int i2), .val (.int cp), .val (.int ax), .val (.int fl), .val (.ref b4), .unset, .unset, .unset, .unset, .unset, .unset, .unset] [(.ref b4)])) (fun t k => XS.aload X11.here hx rfl (hb hby at_84) rfl rfl k) ?_
  refine own_by (B := T11.setTop (mkF m 88 #[.val (.int i0), .val (.int i1), .val (.int i2), .val (.int cp), .val (.int ax), .val (.int fl), .val (.ref b4), .unset, .unset, .unset, .unset, .unset, .unset, .unset] [(.int (7 : Int32)), (.ref b4)])) (fun t k => XS.bipush X11.here hx rfl (hb hby at_86) k) ?_
  refine own_by (B := T11.setTop (mkF m 90 #[.val (.int i0), .val (.int i1), .val (.int i2), .val (.int cp), .val (.int ax), .val (.int fl), .val (.ref b4), .unset, .unset, .unset, .unset, .unset, .unset, .unset] [(.int fl), (.int (7 : Int32)), (.ref b4)])) (fun t k => XS.iload X11.here hx rfl (hb hby at_88) rfl k) ?_
  obtain ⟨cl12, Ar12, S12, H12⟩ := V_b4
  have hin12 : ¬ ((7 : Int32) < 0 ∨ cl12.slots.size ≤ ((7 : Int32)).toNatClampNeg) := own_in S12 (by decide)
  obtain ⟨T12, h12, X12, e12, W12, st12⟩ := stB X11 hx hZ e11 Ar12 (j := (7 : Int32)) hin12 (g := (mkF m 90 #[.val (.int i0), .val (.int i1), .val (.int i2), .val (.int cp), .val (.int ax), .val (.int fl), .val (.ref b4), .unset, .unset, .unset, .unset, .unset, .unset, .unset] [(.int fl), (.int (7 : Int32)), (.ref b4)])) rfl rfl (hb hby at_90)
  replace V_b4 : own_BA Z h11 b4 .byte 8 (own_up (own_up (own_up (own_up (own_up (own_up (own_up (fun _ => 0) ((0 : Int32)).toNatClampNeg (nar .byte fl)) ((1 : Int32)).toNatClampNeg (nar .byte fl)) ((2 : Int32)).toNatClampNeg (nar .byte fl)) ((3 : Int32)).toNatClampNeg (nar .byte fl)) ((4 : Int32)).toNatClampNeg (nar .byte fl)) ((5 : Int32)).toNatClampNeg (nar .byte fl)) ((6 : Int32)).toNatClampNeg (nar .byte fl)) := ⟨cl12, Ar12, S12, H12⟩
  replace V_b4 : own_BA Z h12 b4 .byte 8 (own_up (own_up (own_up (own_up (own_up (own_up (own_up (own_up (fun _ => 0) ((0 : Int32)).toNatClampNeg (nar .byte fl)) ((1 : Int32)).toNatClampNeg (nar .byte fl)) ((2 : Int32)).toNatClampNeg (nar .byte fl)) ((3 : Int32)).toNatClampNeg (nar .byte fl)) ((4 : Int32)).toNatClampNeg (nar .byte fl)) ((5 : Int32)).toNatClampNeg (nar .byte fl)) ((6 : Int32)).toNatClampNeg (nar .byte fl)) ((7 : Int32)).toNatClampNeg (nar .byte fl)) := V_b4.same W12
  replace Zs : n0 ≤ h12.size := by rw [W12.size]; exact Zs
  have NF := Fr.snoc X12 NF g_b4
  refine own_by (B := T12.setTop (mkF m 91 #[.val (.int i0), .val (.int i1), .val (.int i2), .val (.int cp), .val (.int ax), .val (.int fl), .val (.ref b4), .unset, .unset, .unset, .unset, .unset, .unset, .unset] [])) (fun t k => st12 _ k) ?_
  replace V_b4 : own_BA Z h12 b4 .byte 8 (fun _ => fl) := by
    rw [hfl1] at V_b4
    exact V_b4.cong (own_all fl)
  refine own_by (B := T12.setTop (mkF m 92 #[.val (.int i0), .val (.int i1), .val (.int i2), .val (.int cp), .val (.int ax), .val (.int fl), .val (.ref b4), .unset, .unset, .unset, .unset, .unset, .unset, .unset] [(.int cp)])) (fun t k => XS.iloadN X12.here hx rfl (hb hby at_91) rfl k) ?_
  refine own_by (B := T12.setTop (mkF m 94 #[.val (.int i0), .val (.int i1), .val (.int i2), .val (.int cp), .val (.int ax), .val (.int fl), .val (.ref b4), .unset, .unset, .unset, .unset, .unset, .unset, .unset] [(.ref b4), (.int cp)])) (fun t k => XS.aload X12.here hx rfl (hb hby at_92) rfl rfl k) ?_
  refine own_by (B := T12.setTop (mkF m 96 #[.val (.int i0), .val (.int i1), .val (.int i2), .val (.int cp), .val (.int ax), .val (.int fl), .val (.ref b4), .unset, .unset, .unset, .unset, .unset, .unset, .unset] [(.int ax), (.ref b4), (.int cp)])) (fun t k => XS.iload X12.here hx rfl (hb hby at_94) rfl k) ?_
  obtain ⟨v13, _, ⟨T13, L13, c13, n13⟩, -, X13, ⟨Lc13, hQ13, l13, y13, z13⟩, st13⟩ := Jvm.LawKit.callS X12 hx (y := (⟨"com/example/myriad_paths/myriadpaths/Utf8Text", "encode", "(I[BI)I"⟩ : MethodName)) hown (mvT hZ (hw _ (List.mem_of_getElem? (i := 4) rfl))) (mvT hZ (hw _ (List.mem_of_getElem? (i := 5) rfl))) (mvT hZ (hw _ (List.mem_of_getElem? (i := 6) rfl))) (mvT hZ (hw _ (List.mem_of_getElem? (i := 7) rfl))) (by decide) (backOf (W := 0) (rm1 l Z a0 hw [] cp b4 ax (fun _ => fl) h12 n0 Zs V_b4 g_b4  hax1) hZ (hw _ (List.mem_of_getElem? (i := 7) rfl)) (hw _ (List.mem_of_getElem? (i := 6) rfl)) (by decide) (by decide)) (g := (mkF m 96 #[.val (.int i0), .val (.int i1), .val (.int i2), .val (.int cp), .val (.int ax), .val (.int fl), .val (.ref b4), .unset, .unset, .unset, .unset, .unset, .unset, .unset] [(.int ax), (.ref b4), (.int cp)])) rfl (by rw [hml]; rfl) (argsL := [(.int cp), (.ref b4), (.int ax)]) (rest := []) (lenOf pd_0 rfl) rfl (by show 2 * 0 + _ ≤ _; exact Nat.le_of_eq rfl) (hb hby at_96) (fun _ _ => ⟨rfl, e12, (by decide : 1 + 0 ≤ _), (by decide : 8 + 0 ≤ _)⟩)
  dsimp only [Pt.U, Pt.locs, Pt.cells, Pt.slots] at X13 l13 y13 z13 st13 hQ13
  subst l13 y13 z13
  obtain ⟨rfl, Nq13, Kq13, o0_13⟩ := hQ13
  have NF := Fr.app NF Nq13
  clear V_b4
  replace Zs : n0 ≤ T13.heap.size := Nat.le_trans Zs Kq13.1
  have V_b4 : own_BA Z T13.heap b4 .byte 8 (own_enc (fun _ => fl) cp ax) := o0_13
  refine own_by (B := T13.setTop (mkF m 99 #[.val (.int i0), .val (.int i1), .val (.int i2), .val (.int cp), .val (.int ax), .val (.int fl), .val (.ref b4), .unset, .unset, .unset, .unset, .unset, .unset, .unset] [(.int (ax + (own_n cp)))])) (fun t k => st13 _ k) ?_
  refine own_by (B := T13.setTop (mkF m 101 #[.val (.int i0), .val (.int i1), .val (.int i2), .val (.int cp), .val (.int ax), .val (.int fl), .val (.ref b4), .val (.int (ax + (own_n cp))), .unset, .unset, .unset, .unset, .unset, .unset] [])) (fun t k => XS.istore X13.here hx rfl (hb hby at_99) rfl (l' := #[.val (.int i0), .val (.int i1), .val (.int i2), .val (.int cp), .val (.int ax), .val (.int fl), .val (.ref b4), .val (.int (ax + (own_n cp))), .unset, .unset, .unset, .unset, .unset, .unset]) rfl k) ?_
  refine own_by (B := T13.setTop (mkF m 102 #[.val (.int i0), .val (.int i1), .val (.int i2), .val (.int cp), .val (.int ax), .val (.int fl), .val (.ref b4), .val (.int (ax + (own_n cp))), .unset, .unset, .unset, .unset, .unset, .unset] [(.int cp)])) (fun t k => XS.iloadN X13.here hx rfl (hb hby at_101) rfl k) ?_
  refine own_by (B := T13.setTop (mkF m 105 #[.val (.int i0), .val (.int i1), .val (.int i2), .val (.int cp), .val (.int ax), .val (.int fl), .val (.ref b4), .val (.int (ax + (own_n cp))), .unset, .unset, .unset, .unset, .unset, .unset] [(.int (128 : Int32)), (.int cp)])) (fun t k => XS.sipush X13.here hx rfl (hb hby at_102) k) ?_
  obtain ⟨nn, hnn⟩ : ∃ z : Int32, z = (if cp < (128 : Int32) then (1 : Int32) else (if cp < (2048 : Int32) then (2 : Int32) else (if cp < (65536 : Int32) then (3 : Int32) else (4 : Int32)))) := ⟨_, rfl⟩
  refine own_by (B := T13.setTop (mkF m 134 #[.val (.int i0), .val (.int i1), .val (.int i2), .val (.int cp), .val (.int ax), .val (.int fl), .val (.ref b4), .val (.int (ax + (own_n cp))), .unset, .unset, .unset, .unset, .unset, .unset] [(.int nn)])) (fun t k => ?_) ?_
  ·
    show Steps p.tables e below (T13.setTop (mkF m 105 #[.val (.int i0), .val (.int i1), .val (.int i2), .val (.int cp), .val (.int ax), .val (.int fl), .val (.ref b4), .val (.int (ax + (own_n cp))), .unset, .unset, .unset, .unset, .unset, .unset] [(.int (128 : Int32)), (.int cp)])) t
    by_cases hm15 : cp < (128 : Int32)
    ·
      rw [if_pos hm15] at hnn
      refine XS.icmpNo X13.here hx rfl (hb hby at_105) rfl (tlt hm15).2.1 ?_
      show Steps p.tables e below (T13.setTop (mkF m 108 #[.val (.int i0), .val (.int i1), .val (.int i2), .val (.int cp), .val (.int ax), .val (.int fl), .val (.ref b4), .val (.int (ax + (own_n cp))), .unset, .unset, .unset, .unset, .unset, .unset] [])) t
      show Steps p.tables e below (T13.setTop (mkF m 108 #[.val (.int i0), .val (.int i1), .val (.int i2), .val (.int cp), .val (.int ax), .val (.int fl), .val (.ref b4), .val (.int (ax + (own_n cp))), .unset, .unset, .unset, .unset, .unset, .unset] [])) t
      refine XS.iconst X13.here hx rfl (hb hby at_108) ?_
      show Steps p.tables e below (T13.setTop (mkF m 109 #[.val (.int i0), .val (.int i1), .val (.int i2), .val (.int cp), .val (.int ax), .val (.int fl), .val (.ref b4), .val (.int (ax + (own_n cp))), .unset, .unset, .unset, .unset, .unset, .unset] [(.int (1 : Int32))])) t
      refine XS.goto X13.here hx rfl (pc0 := 109) (pc' := 134) rfl (hb hby at_109) (by decide) (by decide) ?_
      show Steps p.tables e below (T13.setTop (mkF m 134 #[.val (.int i0), .val (.int i1), .val (.int i2), .val (.int cp), .val (.int ax), .val (.int fl), .val (.ref b4), .val (.int (ax + (own_n cp))), .unset, .unset, .unset, .unset, .unset, .unset] [(.int (1 : Int32))])) t
      subst hnn
      exact k
    ·
      rw [if_neg hm15] at hnn
      refine XS.icmpYes X13.here hx rfl (pc0 := 105) (pc' := 112) rfl (hb hby at_105) rfl (flt hm15).2.1 (by decide) (by decide) ?_
      show Steps p.tables e below (T13.setTop (mkF m 112 #[.val (.int i0), .val (.int i1), .val (.int i2), .val (.int cp), .val (.int ax), .val (.int fl), .val (.ref b4), .val (.int (ax + (own_n cp))), .unset, .unset, .unset, .unset, .unset, .unset] [])) t
      show Steps p.tables e below (T13.setTop (mkF m 112 #[.val (.int i0), .val (.int i1), .val (.int i2), .val (.int cp), .val (.int ax), .val (.int fl), .val (.ref b4), .val (.int (ax + (own_n cp))), .unset, .unset, .unset, .unset, .unset, .unset] [])) t
      refine XS.iloadN X13.here hx rfl (hb hby at_112) rfl ?_
      show Steps p.tables e below (T13.setTop (mkF m 113 #[.val (.int i0), .val (.int i1), .val (.int i2), .val (.int cp), .val (.int ax), .val (.int fl), .val (.ref b4), .val (.int (ax + (own_n cp))), .unset, .unset, .unset, .unset, .unset, .unset] [(.int cp)])) t
      refine XS.sipush X13.here hx rfl (hb hby at_113) ?_
      show Steps p.tables e below (T13.setTop (mkF m 116 #[.val (.int i0), .val (.int i1), .val (.int i2), .val (.int cp), .val (.int ax), .val (.int fl), .val (.ref b4), .val (.int (ax + (own_n cp))), .unset, .unset, .unset, .unset, .unset, .unset] [(.int (2048 : Int32)), (.int cp)])) t
      by_cases hm16 : cp < (2048 : Int32)
      ·
        rw [if_pos hm16] at hnn
        refine XS.icmpNo X13.here hx rfl (hb hby at_116) rfl (tlt hm16).2.1 ?_
        show Steps p.tables e below (T13.setTop (mkF m 119 #[.val (.int i0), .val (.int i1), .val (.int i2), .val (.int cp), .val (.int ax), .val (.int fl), .val (.ref b4), .val (.int (ax + (own_n cp))), .unset, .unset, .unset, .unset, .unset, .unset] [])) t
        show Steps p.tables e below (T13.setTop (mkF m 119 #[.val (.int i0), .val (.int i1), .val (.int i2), .val (.int cp), .val (.int ax), .val (.int fl), .val (.ref b4), .val (.int (ax + (own_n cp))), .unset, .unset, .unset, .unset, .unset, .unset] [])) t
        refine XS.iconst X13.here hx rfl (hb hby at_119) ?_
        show Steps p.tables e below (T13.setTop (mkF m 120 #[.val (.int i0), .val (.int i1), .val (.int i2), .val (.int cp), .val (.int ax), .val (.int fl), .val (.ref b4), .val (.int (ax + (own_n cp))), .unset, .unset, .unset, .unset, .unset, .unset] [(.int (2 : Int32))])) t
        refine XS.goto X13.here hx rfl (pc0 := 120) (pc' := 134) rfl (hb hby at_120) (by decide) (by decide) ?_
        show Steps p.tables e below (T13.setTop (mkF m 134 #[.val (.int i0), .val (.int i1), .val (.int i2), .val (.int cp), .val (.int ax), .val (.int fl), .val (.ref b4), .val (.int (ax + (own_n cp))), .unset, .unset, .unset, .unset, .unset, .unset] [(.int (2 : Int32))])) t
        subst hnn
        exact k
      ·
        rw [if_neg hm16] at hnn
        refine XS.icmpYes X13.here hx rfl (pc0 := 116) (pc' := 123) rfl (hb hby at_116) rfl (flt hm16).2.1 (by decide) (by decide) ?_
        show Steps p.tables e below (T13.setTop (mkF m 123 #[.val (.int i0), .val (.int i1), .val (.int i2), .val (.int cp), .val (.int ax), .val (.int fl), .val (.ref b4), .val (.int (ax + (own_n cp))), .unset, .unset, .unset, .unset, .unset, .unset] [])) t
        show Steps p.tables e below (T13.setTop (mkF m 123 #[.val (.int i0), .val (.int i1), .val (.int i2), .val (.int cp), .val (.int ax), .val (.int fl), .val (.ref b4), .val (.int (ax + (own_n cp))), .unset, .unset, .unset, .unset, .unset, .unset] [])) t
        refine XS.iloadN X13.here hx rfl (hb hby at_123) rfl ?_
        show Steps p.tables e below (T13.setTop (mkF m 124 #[.val (.int i0), .val (.int i1), .val (.int i2), .val (.int cp), .val (.int ax), .val (.int fl), .val (.ref b4), .val (.int (ax + (own_n cp))), .unset, .unset, .unset, .unset, .unset, .unset] [(.int cp)])) t
        refine X13.ldcInt hx hown (mvT hZ (hw _ (List.mem_of_getElem? (i := 17) rfl))) (g := (mkF m 124 #[.val (.int i0), .val (.int i1), .val (.int i2), .val (.int cp), .val (.int ax), .val (.int fl), .val (.ref b4), .val (.int (ax + (own_n cp))), .unset, .unset, .unset, .unset, .unset, .unset] [(.int cp)])) rfl (hb hby at_124) _ ?_
        show Steps p.tables e below (T13.setTop (mkF m 126 #[.val (.int i0), .val (.int i1), .val (.int i2), .val (.int cp), .val (.int ax), .val (.int fl), .val (.ref b4), .val (.int (ax + (own_n cp))), .unset, .unset, .unset, .unset, .unset, .unset] [(.int (65536 : Int32)), (.int cp)])) t
        by_cases hm17 : cp < (65536 : Int32)
        ·
          rw [if_pos hm17] at hnn
          refine XS.icmpNo X13.here hx rfl (hb hby at_126) rfl (tlt hm17).2.1 ?_
          show Steps p.tables e below (T13.setTop (mkF m 129 #[.val (.int i0), .val (.int i1), .val (.int i2), .val (.int cp), .val (.int ax), .val (.int fl), .val (.ref b4), .val (.int (ax + (own_n cp))), .unset, .unset, .unset, .unset, .unset, .unset] [])) t
          show Steps p.tables e below (T13.setTop (mkF m 129 #[.val (.int i0), .val (.int i1), .val (.int i2), .val (.int cp), .val (.int ax), .val (.int fl), .val (.ref b4), .val (.int (ax + (own_n cp))), .unset, .unset, .unset, .unset, .unset, .unset] [])) t
          refine XS.iconst X13.here hx rfl (hb hby at_129) ?_
          show Steps p.tables e below (T13.setTop (mkF m 130 #[.val (.int i0), .val (.int i1), .val (.int i2), .val (.int cp), .val (.int ax), .val (.int fl), .val (.ref b4), .val (.int (ax + (own_n cp))), .unset, .unset, .unset, .unset, .unset, .unset] [(.int (3 : Int32))])) t
          refine XS.goto X13.here hx rfl (pc0 := 130) (pc' := 134) rfl (hb hby at_130) (by decide) (by decide) ?_
          show Steps p.tables e below (T13.setTop (mkF m 134 #[.val (.int i0), .val (.int i1), .val (.int i2), .val (.int cp), .val (.int ax), .val (.int fl), .val (.ref b4), .val (.int (ax + (own_n cp))), .unset, .unset, .unset, .unset, .unset, .unset] [(.int (3 : Int32))])) t
          subst hnn
          exact k
        ·
          rw [if_neg hm17] at hnn
          refine XS.icmpYes X13.here hx rfl (pc0 := 126) (pc' := 133) rfl (hb hby at_126) rfl (flt hm17).2.1 (by decide) (by decide) ?_
          show Steps p.tables e below (T13.setTop (mkF m 133 #[.val (.int i0), .val (.int i1), .val (.int i2), .val (.int cp), .val (.int ax), .val (.int fl), .val (.ref b4), .val (.int (ax + (own_n cp))), .unset, .unset, .unset, .unset, .unset, .unset] [])) t
          show Steps p.tables e below (T13.setTop (mkF m 133 #[.val (.int i0), .val (.int i1), .val (.int i2), .val (.int cp), .val (.int ax), .val (.int fl), .val (.ref b4), .val (.int (ax + (own_n cp))), .unset, .unset, .unset, .unset, .unset, .unset] [])) t
          refine XS.iconst X13.here hx rfl (hb hby at_133) ?_
          show Steps p.tables e below (T13.setTop (mkF m 134 #[.val (.int i0), .val (.int i1), .val (.int i2), .val (.int cp), .val (.int ax), .val (.int fl), .val (.ref b4), .val (.int (ax + (own_n cp))), .unset, .unset, .unset, .unset, .unset, .unset] [(.int (4 : Int32))])) t
          subst hnn
          exact k
  refine own_by (B := T13.setTop (mkF m 136 #[.val (.int i0), .val (.int i1), .val (.int i2), .val (.int cp), .val (.int ax), .val (.int fl), .val (.ref b4), .val (.int (ax + (own_n cp))), .val (.int nn), .unset, .unset, .unset, .unset, .unset] [])) (fun t k => XS.istore X13.here hx rfl (hb hby at_134) rfl (l' := #[.val (.int i0), .val (.int i1), .val (.int i2), .val (.int cp), .val (.int ax), .val (.int fl), .val (.ref b4), .val (.int (ax + (own_n cp))), .val (.int nn), .unset, .unset, .unset, .unset, .unset]) rfl k) ?_
  refine own_by (B := T13.setTop (mkF m 138 #[.val (.int i0), .val (.int i1), .val (.int i2), .val (.int cp), .val (.int ax), .val (.int fl), .val (.ref b4), .val (.int (ax + (own_n cp))), .val (.int nn), .unset, .unset, .unset, .unset, .unset] [(.int (ax + (own_n cp)))])) (fun t k => XS.iload X13.here hx rfl (hb hby at_136) rfl k) ?_
  refine own_by (B := T13.setTop (mkF m 140 #[.val (.int i0), .val (.int i1), .val (.int i2), .val (.int cp), .val (.int ax), .val (.int fl), .val (.ref b4), .val (.int (ax + (own_n cp))), .val (.int nn), .unset, .unset, .unset, .unset, .unset] [(.int ax), (.int (ax + (own_n cp)))])) (fun t k => XS.iload X13.here hx rfl (hb hby at_138) rfl k) ?_
  refine own_by (B := T13.setTop (mkF m 142 #[.val (.int i0), .val (.int i1), .val (.int i2), .val (.int cp), .val (.int ax), .val (.int fl), .val (.ref b4), .val (.int (ax + (own_n cp))), .val (.int nn), .unset, .unset, .unset, .unset, .unset] [(.int nn), (.int ax), (.int (ax + (own_n cp)))])) (fun t k => XS.iload X13.here hx rfl (hb hby at_140) rfl k) ?_
  refine own_by (B := T13.setTop (mkF m 143 #[.val (.int i0), .val (.int i1), .val (.int i2), .val (.int cp), .val (.int ax), .val (.int fl), .val (.ref b4), .val (.int (ax + (own_n cp))), .val (.int nn), .unset, .unset, .unset, .unset, .unset] [(.int (ax + nn)), (.int (ax + (own_n cp)))])) (fun t k => XS.iadd X13.here hx rfl (hb hby at_142) rfl k) ?_
  have hc18 : (ax + (own_n cp)) = (ax + nn) := by rw [hnn]; rfl
  refine own_by (B := T13.setTop (mkF m 148 #[.val (.int i0), .val (.int i1), .val (.int i2), .val (.int cp), .val (.int ax), .val (.int fl), .val (.ref b4), .val (.int (ax + (own_n cp))), .val (.int nn), .unset, .unset, .unset, .unset, .unset] [])) (fun t k => XS.icmpYes X13.here hx rfl (pc0 := 143) (pc' := 148) rfl (hb hby at_143) rfl (teq hc18).1 (by decide) (by decide) k) ?_
  refine own_by (B := T13.setTop (mkF m 150 #[.val (.int i0), .val (.int i1), .val (.int i2), .val (.int cp), .val (.int ax), .val (.int fl), .val (.ref b4), .val (.int (ax + (own_n cp))), .val (.int nn), .unset, .unset, .unset, .unset, .unset] [(.ref b4)])) (fun t k => XS.aload X13.here hx rfl (hb hby at_148) rfl rfl k) ?_
  refine own_by (B := T13.setTop (mkF m 151 #[.val (.int i0), .val (.int i1), .val (.int i2), .val (.int cp), .val (.int ax), .val (.int fl), .val (.ref b4), .val (.int (ax + (own_n cp))), .val (.int nn), .unset, .unset, .unset, .unset, .unset] [(.int (0 : Int32)), (.ref b4)])) (fun t k => XS.iconst X13.here hx rfl (hb hby at_150) k) ?_
  refine own_by (B := T13.setTop (mkF m 153 #[.val (.int i0), .val (.int i1), .val (.int i2), .val (.int cp), .val (.int ax), .val (.int fl), .val (.ref b4), .val (.int (ax + (own_n cp))), .val (.int nn), .unset, .unset, .unset, .unset, .unset] [(.int ax), (.int (0 : Int32)), (.ref b4)])) (fun t k => XS.iload X13.here hx rfl (hb hby at_151) rfl k) ?_
  refine own_by (B := T13.setTop (mkF m 155 #[.val (.int i0), .val (.int i1), .val (.int i2), .val (.int cp), .val (.int ax), .val (.int fl), .val (.ref b4), .val (.int (ax + (own_n cp))), .val (.int nn), .unset, .unset, .unset, .unset, .unset] [(.int (ax + (own_n cp))), (.int ax), (.int (0 : Int32)), (.ref b4)])) (fun t k => XS.iload X13.here hx rfl (hb hby at_153) rfl k) ?_
  refine own_by (B := T13.setTop (mkF m 157 #[.val (.int i0), .val (.int i1), .val (.int i2), .val (.int cp), .val (.int ax), .val (.int fl), .val (.ref b4), .val (.int (ax + (own_n cp))), .val (.int nn), .unset, .unset, .unset, .unset, .unset] [(.int fl), (.int (ax + (own_n cp))), (.int ax), (.int (0 : Int32)), (.ref b4)])) (fun t k => XS.iload X13.here hx rfl (hb hby at_155) rfl k) ?_
  obtain ⟨v19, _, ⟨T19, L19, c19, n19⟩, -, X19, ⟨Lc19, hQ19, l19, y19, z19⟩, st19⟩ := Jvm.LawKit.callS X13 hx (y := (⟨"com/example/myriad_paths/myriadpaths/Utf8TextEncodePinLaw", "kept", "([BIIIB)Z"⟩ : MethodName)) hown (mvT hZ (hw _ (List.mem_of_getElem? (i := 8) rfl))) (mvT hZ (hw _ (List.mem_of_getElem? (i := 9) rfl))) (mvT hZ (hw _ (List.mem_of_getElem? (i := 10) rfl))) (mvT hZ (hw _ (List.mem_of_getElem? (i := 11) rfl))) (by decide) (backOf (W := 0) (rm2 l Z a0 hw [] b4 (0 : Int32) ax (ax + (own_n cp)) fl (own_enc (fun _ => fl) cp ax) T13.heap V_b4 (by decide)) hZ (hw _ (List.mem_of_getElem? (i := 11) rfl)) (hw _ (List.mem_of_getElem? (i := 10) rfl)) (by decide) (by decide)) (g := (mkF m 157 #[.val (.int i0), .val (.int i1), .val (.int i2), .val (.int cp), .val (.int ax), .val (.int fl), .val (.ref b4), .val (.int (ax + (own_n cp))), .val (.int nn), .unset, .unset, .unset, .unset, .unset] [(.int fl), (.int (ax + (own_n cp))), (.int ax), (.int (0 : Int32)), (.ref b4)])) rfl (by rw [hml]; rfl) (argsL := [(.ref b4), (.int (0 : Int32)), (.int ax), (.int (ax + (own_n cp))), (.int fl)]) (rest := []) (lenOf pd_1 rfl) rfl (by show 2 * 0 + _ ≤ _; exact Nat.le_of_eq rfl) (hb hby at_157) (fun _ _ => ⟨rfl, rfl, (by decide : 1 + 0 ≤ _), (by decide : 8 + 0 ≤ _)⟩)
  dsimp only [Pt.U, Pt.locs, Pt.cells, Pt.slots] at X19 l19 y19 z19 st19 hQ19
  subst l19 y19 z19
  obtain ⟨rfl, rfl, e19⟩ := hQ19
  have NF := Fr.app NF (Fr.nil n0)
  refine own_by (B := T19.setTop (mkF m 160 #[.val (.int i0), .val (.int i1), .val (.int i2), .val (.int cp), .val (.int ax), .val (.int fl), .val (.ref b4), .val (.int (ax + (own_n cp))), .val (.int nn), .unset, .unset, .unset, .unset, .unset] [(.int (f2_0 (own_enc (fun _ => fl) cp ax) (0 : Int32) ax (ax + (own_n cp)) fl))])) (fun t k => st19 _ k) ?_
  have hc20 : ¬ ((f2_0 (own_enc (fun _ => fl) cp ax) (0 : Int32) ax (ax + (own_n cp)) fl) = (0 : Int32)) := own_kept cp ax fl (0 : Int32) 0 rfl (by decide) hax1 hcp1
  refine own_by (B := T19.setTop (mkF m 163 #[.val (.int i0), .val (.int i1), .val (.int i2), .val (.int cp), .val (.int ax), .val (.int fl), .val (.ref b4), .val (.int (ax + (own_n cp))), .val (.int nn), .unset, .unset, .unset, .unset, .unset] [])) (fun t k => XS.ifNo X19.here hx rfl (hb hby at_160) rfl ((if0 _ _).trans (feq hc20).1) k) ?_
  refine own_by (B := T19.setTop (mkF m 165 #[.val (.int i0), .val (.int i1), .val (.int i2), .val (.int cp), .val (.int ax), .val (.int fl), .val (.ref b4), .val (.int (ax + (own_n cp))), .val (.int nn), .unset, .unset, .unset, .unset, .unset] [(.ref b4)])) (fun t k => XS.aload X19.here hx rfl (hb hby at_163) rfl rfl k) ?_
  refine own_by (B := T19.setTop (mkF m 166 #[.val (.int i0), .val (.int i1), .val (.int i2), .val (.int cp), .val (.int ax), .val (.int fl), .val (.ref b4), .val (.int (ax + (own_n cp))), .val (.int nn), .unset, .unset, .unset, .unset, .unset] [(.int (1 : Int32)), (.ref b4)])) (fun t k => XS.iconst X19.here hx rfl (hb hby at_165) k) ?_
  refine own_by (B := T19.setTop (mkF m 168 #[.val (.int i0), .val (.int i1), .val (.int i2), .val (.int cp), .val (.int ax), .val (.int fl), .val (.ref b4), .val (.int (ax + (own_n cp))), .val (.int nn), .unset, .unset, .unset, .unset, .unset] [(.int ax), (.int (1 : Int32)), (.ref b4)])) (fun t k => XS.iload X19.here hx rfl (hb hby at_166) rfl k) ?_
  refine own_by (B := T19.setTop (mkF m 170 #[.val (.int i0), .val (.int i1), .val (.int i2), .val (.int cp), .val (.int ax), .val (.int fl), .val (.ref b4), .val (.int (ax + (own_n cp))), .val (.int nn), .unset, .unset, .unset, .unset, .unset] [(.int (ax + (own_n cp))), (.int ax), (.int (1 : Int32)), (.ref b4)])) (fun t k => XS.iload X19.here hx rfl (hb hby at_168) rfl k) ?_
  refine own_by (B := T19.setTop (mkF m 172 #[.val (.int i0), .val (.int i1), .val (.int i2), .val (.int cp), .val (.int ax), .val (.int fl), .val (.ref b4), .val (.int (ax + (own_n cp))), .val (.int nn), .unset, .unset, .unset, .unset, .unset] [(.int fl), (.int (ax + (own_n cp))), (.int ax), (.int (1 : Int32)), (.ref b4)])) (fun t k => XS.iload X19.here hx rfl (hb hby at_170) rfl k) ?_
  obtain ⟨v21, _, ⟨T21, L21, c21, n21⟩, -, X21, ⟨Lc21, hQ21, l21, y21, z21⟩, st21⟩ := Jvm.LawKit.callS X19 hx (y := (⟨"com/example/myriad_paths/myriadpaths/Utf8TextEncodePinLaw", "kept", "([BIIIB)Z"⟩ : MethodName)) hown (mvT hZ (hw _ (List.mem_of_getElem? (i := 8) rfl))) (mvT hZ (hw _ (List.mem_of_getElem? (i := 9) rfl))) (mvT hZ (hw _ (List.mem_of_getElem? (i := 10) rfl))) (mvT hZ (hw _ (List.mem_of_getElem? (i := 11) rfl))) (by decide) (backOf (W := 0) (rm2 l Z a0 hw [] b4 (1 : Int32) ax (ax + (own_n cp)) fl (own_enc (fun _ => fl) cp ax) T13.heap V_b4 (by decide)) hZ (hw _ (List.mem_of_getElem? (i := 11) rfl)) (hw _ (List.mem_of_getElem? (i := 10) rfl)) (by decide) (by decide)) (g := (mkF m 172 #[.val (.int i0), .val (.int i1), .val (.int i2), .val (.int cp), .val (.int ax), .val (.int fl), .val (.ref b4), .val (.int (ax + (own_n cp))), .val (.int nn), .unset, .unset, .unset, .unset, .unset] [(.int fl), (.int (ax + (own_n cp))), (.int ax), (.int (1 : Int32)), (.ref b4)])) rfl (by rw [hml]; rfl) (argsL := [(.ref b4), (.int (1 : Int32)), (.int ax), (.int (ax + (own_n cp))), (.int fl)]) (rest := []) (lenOf pd_1 rfl) rfl (by show 2 * 0 + _ ≤ _; exact Nat.le_of_eq rfl) (hb hby at_172) (fun _ _ => ⟨rfl, e19, (by decide : 1 + 0 ≤ _), (by decide : 8 + 0 ≤ _)⟩)
  dsimp only [Pt.U, Pt.locs, Pt.cells, Pt.slots] at X21 l21 y21 z21 st21 hQ21
  subst l21 y21 z21
  obtain ⟨rfl, rfl, e21⟩ := hQ21
  have NF := Fr.app NF (Fr.nil n0)
  refine own_by (B := T21.setTop (mkF m 175 #[.val (.int i0), .val (.int i1), .val (.int i2), .val (.int cp), .val (.int ax), .val (.int fl), .val (.ref b4), .val (.int (ax + (own_n cp))), .val (.int nn), .unset, .unset, .unset, .unset, .unset] [(.int (f2_0 (own_enc (fun _ => fl) cp ax) (1 : Int32) ax (ax + (own_n cp)) fl))])) (fun t k => st21 _ k) ?_
  have hc22 : ¬ ((f2_0 (own_enc (fun _ => fl) cp ax) (1 : Int32) ax (ax + (own_n cp)) fl) = (0 : Int32)) := own_kept cp ax fl (1 : Int32) 1 rfl (by decide) hax1 hcp1
  refine own_by (B := T21.setTop (mkF m 178 #[.val (.int i0), .val (.int i1), .val (.int i2), .val (.int cp), .val (.int ax), .val (.int fl), .val (.ref b4), .val (.int (ax + (own_n cp))), .val (.int nn), .unset, .unset, .unset, .unset, .unset] [])) (fun t k => XS.ifNo X21.here hx rfl (hb hby at_175) rfl ((if0 _ _).trans (feq hc22).1) k) ?_
  refine own_by (B := T21.setTop (mkF m 180 #[.val (.int i0), .val (.int i1), .val (.int i2), .val (.int cp), .val (.int ax), .val (.int fl), .val (.ref b4), .val (.int (ax + (own_n cp))), .val (.int nn), .unset, .unset, .unset, .unset, .unset] [(.ref b4)])) (fun t k => XS.aload X21.here hx rfl (hb hby at_178) rfl rfl k) ?_
  refine own_by (B := T21.setTop (mkF m 181 #[.val (.int i0), .val (.int i1), .val (.int i2), .val (.int cp), .val (.int ax), .val (.int fl), .val (.ref b4), .val (.int (ax + (own_n cp))), .val (.int nn), .unset, .unset, .unset, .unset, .unset] [(.int (2 : Int32)), (.ref b4)])) (fun t k => XS.iconst X21.here hx rfl (hb hby at_180) k) ?_
  refine own_by (B := T21.setTop (mkF m 183 #[.val (.int i0), .val (.int i1), .val (.int i2), .val (.int cp), .val (.int ax), .val (.int fl), .val (.ref b4), .val (.int (ax + (own_n cp))), .val (.int nn), .unset, .unset, .unset, .unset, .unset] [(.int ax), (.int (2 : Int32)), (.ref b4)])) (fun t k => XS.iload X21.here hx rfl (hb hby at_181) rfl k) ?_
  refine own_by (B := T21.setTop (mkF m 185 #[.val (.int i0), .val (.int i1), .val (.int i2), .val (.int cp), .val (.int ax), .val (.int fl), .val (.ref b4), .val (.int (ax + (own_n cp))), .val (.int nn), .unset, .unset, .unset, .unset, .unset] [(.int (ax + (own_n cp))), (.int ax), (.int (2 : Int32)), (.ref b4)])) (fun t k => XS.iload X21.here hx rfl (hb hby at_183) rfl k) ?_
  refine own_by (B := T21.setTop (mkF m 187 #[.val (.int i0), .val (.int i1), .val (.int i2), .val (.int cp), .val (.int ax), .val (.int fl), .val (.ref b4), .val (.int (ax + (own_n cp))), .val (.int nn), .unset, .unset, .unset, .unset, .unset] [(.int fl), (.int (ax + (own_n cp))), (.int ax), (.int (2 : Int32)), (.ref b4)])) (fun t k => XS.iload X21.here hx rfl (hb hby at_185) rfl k) ?_
  obtain ⟨v23, _, ⟨T23, L23, c23, n23⟩, -, X23, ⟨Lc23, hQ23, l23, y23, z23⟩, st23⟩ := Jvm.LawKit.callS X21 hx (y := (⟨"com/example/myriad_paths/myriadpaths/Utf8TextEncodePinLaw", "kept", "([BIIIB)Z"⟩ : MethodName)) hown (mvT hZ (hw _ (List.mem_of_getElem? (i := 8) rfl))) (mvT hZ (hw _ (List.mem_of_getElem? (i := 9) rfl))) (mvT hZ (hw _ (List.mem_of_getElem? (i := 10) rfl))) (mvT hZ (hw _ (List.mem_of_getElem? (i := 11) rfl))) (by decide) (backOf (W := 0) (rm2 l Z a0 hw [] b4 (2 : Int32) ax (ax + (own_n cp)) fl (own_enc (fun _ => fl) cp ax) T13.heap V_b4 (by decide)) hZ (hw _ (List.mem_of_getElem? (i := 11) rfl)) (hw _ (List.mem_of_getElem? (i := 10) rfl)) (by decide) (by decide)) (g := (mkF m 187 #[.val (.int i0), .val (.int i1), .val (.int i2), .val (.int cp), .val (.int ax), .val (.int fl), .val (.ref b4), .val (.int (ax + (own_n cp))), .val (.int nn), .unset, .unset, .unset, .unset, .unset] [(.int fl), (.int (ax + (own_n cp))), (.int ax), (.int (2 : Int32)), (.ref b4)])) rfl (by rw [hml]; rfl) (argsL := [(.ref b4), (.int (2 : Int32)), (.int ax), (.int (ax + (own_n cp))), (.int fl)]) (rest := []) (lenOf pd_1 rfl) rfl (by show 2 * 0 + _ ≤ _; exact Nat.le_of_eq rfl) (hb hby at_187) (fun _ _ => ⟨rfl, e21, (by decide : 1 + 0 ≤ _), (by decide : 8 + 0 ≤ _)⟩)
  dsimp only [Pt.U, Pt.locs, Pt.cells, Pt.slots] at X23 l23 y23 z23 st23 hQ23
  subst l23 y23 z23
  obtain ⟨rfl, rfl, e23⟩ := hQ23
  have NF := Fr.app NF (Fr.nil n0)
  refine own_by (B := T23.setTop (mkF m 190 #[.val (.int i0), .val (.int i1), .val (.int i2), .val (.int cp), .val (.int ax), .val (.int fl), .val (.ref b4), .val (.int (ax + (own_n cp))), .val (.int nn), .unset, .unset, .unset, .unset, .unset] [(.int (f2_0 (own_enc (fun _ => fl) cp ax) (2 : Int32) ax (ax + (own_n cp)) fl))])) (fun t k => st23 _ k) ?_
  have hc24 : ¬ ((f2_0 (own_enc (fun _ => fl) cp ax) (2 : Int32) ax (ax + (own_n cp)) fl) = (0 : Int32)) := own_kept cp ax fl (2 : Int32) 2 rfl (by decide) hax1 hcp1
  refine own_by (B := T23.setTop (mkF m 193 #[.val (.int i0), .val (.int i1), .val (.int i2), .val (.int cp), .val (.int ax), .val (.int fl), .val (.ref b4), .val (.int (ax + (own_n cp))), .val (.int nn), .unset, .unset, .unset, .unset, .unset] [])) (fun t k => XS.ifNo X23.here hx rfl (hb hby at_190) rfl ((if0 _ _).trans (feq hc24).1) k) ?_
  refine own_by (B := T23.setTop (mkF m 195 #[.val (.int i0), .val (.int i1), .val (.int i2), .val (.int cp), .val (.int ax), .val (.int fl), .val (.ref b4), .val (.int (ax + (own_n cp))), .val (.int nn), .unset, .unset, .unset, .unset, .unset] [(.ref b4)])) (fun t k => XS.aload X23.here hx rfl (hb hby at_193) rfl rfl k) ?_
  refine own_by (B := T23.setTop (mkF m 196 #[.val (.int i0), .val (.int i1), .val (.int i2), .val (.int cp), .val (.int ax), .val (.int fl), .val (.ref b4), .val (.int (ax + (own_n cp))), .val (.int nn), .unset, .unset, .unset, .unset, .unset] [(.int (3 : Int32)), (.ref b4)])) (fun t k => XS.iconst X23.here hx rfl (hb hby at_195) k) ?_
  refine own_by (B := T23.setTop (mkF m 198 #[.val (.int i0), .val (.int i1), .val (.int i2), .val (.int cp), .val (.int ax), .val (.int fl), .val (.ref b4), .val (.int (ax + (own_n cp))), .val (.int nn), .unset, .unset, .unset, .unset, .unset] [(.int ax), (.int (3 : Int32)), (.ref b4)])) (fun t k => XS.iload X23.here hx rfl (hb hby at_196) rfl k) ?_
  refine own_by (B := T23.setTop (mkF m 200 #[.val (.int i0), .val (.int i1), .val (.int i2), .val (.int cp), .val (.int ax), .val (.int fl), .val (.ref b4), .val (.int (ax + (own_n cp))), .val (.int nn), .unset, .unset, .unset, .unset, .unset] [(.int (ax + (own_n cp))), (.int ax), (.int (3 : Int32)), (.ref b4)])) (fun t k => XS.iload X23.here hx rfl (hb hby at_198) rfl k) ?_
  refine own_by (B := T23.setTop (mkF m 202 #[.val (.int i0), .val (.int i1), .val (.int i2), .val (.int cp), .val (.int ax), .val (.int fl), .val (.ref b4), .val (.int (ax + (own_n cp))), .val (.int nn), .unset, .unset, .unset, .unset, .unset] [(.int fl), (.int (ax + (own_n cp))), (.int ax), (.int (3 : Int32)), (.ref b4)])) (fun t k => XS.iload X23.here hx rfl (hb hby at_200) rfl k) ?_
  obtain ⟨v25, _, ⟨T25, L25, c25, n25⟩, -, X25, ⟨Lc25, hQ25, l25, y25, z25⟩, st25⟩ := Jvm.LawKit.callS X23 hx (y := (⟨"com/example/myriad_paths/myriadpaths/Utf8TextEncodePinLaw", "kept", "([BIIIB)Z"⟩ : MethodName)) hown (mvT hZ (hw _ (List.mem_of_getElem? (i := 8) rfl))) (mvT hZ (hw _ (List.mem_of_getElem? (i := 9) rfl))) (mvT hZ (hw _ (List.mem_of_getElem? (i := 10) rfl))) (mvT hZ (hw _ (List.mem_of_getElem? (i := 11) rfl))) (by decide) (backOf (W := 0) (rm2 l Z a0 hw [] b4 (3 : Int32) ax (ax + (own_n cp)) fl (own_enc (fun _ => fl) cp ax) T13.heap V_b4 (by decide)) hZ (hw _ (List.mem_of_getElem? (i := 11) rfl)) (hw _ (List.mem_of_getElem? (i := 10) rfl)) (by decide) (by decide)) (g := (mkF m 202 #[.val (.int i0), .val (.int i1), .val (.int i2), .val (.int cp), .val (.int ax), .val (.int fl), .val (.ref b4), .val (.int (ax + (own_n cp))), .val (.int nn), .unset, .unset, .unset, .unset, .unset] [(.int fl), (.int (ax + (own_n cp))), (.int ax), (.int (3 : Int32)), (.ref b4)])) rfl (by rw [hml]; rfl) (argsL := [(.ref b4), (.int (3 : Int32)), (.int ax), (.int (ax + (own_n cp))), (.int fl)]) (rest := []) (lenOf pd_1 rfl) rfl (by show 2 * 0 + _ ≤ _; exact Nat.le_of_eq rfl) (hb hby at_202) (fun _ _ => ⟨rfl, e23, (by decide : 1 + 0 ≤ _), (by decide : 8 + 0 ≤ _)⟩)
  dsimp only [Pt.U, Pt.locs, Pt.cells, Pt.slots] at X25 l25 y25 z25 st25 hQ25
  subst l25 y25 z25
  obtain ⟨rfl, rfl, e25⟩ := hQ25
  have NF := Fr.app NF (Fr.nil n0)
  refine own_by (B := T25.setTop (mkF m 205 #[.val (.int i0), .val (.int i1), .val (.int i2), .val (.int cp), .val (.int ax), .val (.int fl), .val (.ref b4), .val (.int (ax + (own_n cp))), .val (.int nn), .unset, .unset, .unset, .unset, .unset] [(.int (f2_0 (own_enc (fun _ => fl) cp ax) (3 : Int32) ax (ax + (own_n cp)) fl))])) (fun t k => st25 _ k) ?_
  have hc26 : ¬ ((f2_0 (own_enc (fun _ => fl) cp ax) (3 : Int32) ax (ax + (own_n cp)) fl) = (0 : Int32)) := own_kept cp ax fl (3 : Int32) 3 rfl (by decide) hax1 hcp1
  refine own_by (B := T25.setTop (mkF m 208 #[.val (.int i0), .val (.int i1), .val (.int i2), .val (.int cp), .val (.int ax), .val (.int fl), .val (.ref b4), .val (.int (ax + (own_n cp))), .val (.int nn), .unset, .unset, .unset, .unset, .unset] [])) (fun t k => XS.ifNo X25.here hx rfl (hb hby at_205) rfl ((if0 _ _).trans (feq hc26).1) k) ?_
  refine own_by (B := T25.setTop (mkF m 210 #[.val (.int i0), .val (.int i1), .val (.int i2), .val (.int cp), .val (.int ax), .val (.int fl), .val (.ref b4), .val (.int (ax + (own_n cp))), .val (.int nn), .unset, .unset, .unset, .unset, .unset] [(.ref b4)])) (fun t k => XS.aload X25.here hx rfl (hb hby at_208) rfl rfl k) ?_
  refine own_by (B := T25.setTop (mkF m 211 #[.val (.int i0), .val (.int i1), .val (.int i2), .val (.int cp), .val (.int ax), .val (.int fl), .val (.ref b4), .val (.int (ax + (own_n cp))), .val (.int nn), .unset, .unset, .unset, .unset, .unset] [(.int (4 : Int32)), (.ref b4)])) (fun t k => XS.iconst X25.here hx rfl (hb hby at_210) k) ?_
  refine own_by (B := T25.setTop (mkF m 213 #[.val (.int i0), .val (.int i1), .val (.int i2), .val (.int cp), .val (.int ax), .val (.int fl), .val (.ref b4), .val (.int (ax + (own_n cp))), .val (.int nn), .unset, .unset, .unset, .unset, .unset] [(.int ax), (.int (4 : Int32)), (.ref b4)])) (fun t k => XS.iload X25.here hx rfl (hb hby at_211) rfl k) ?_
  refine own_by (B := T25.setTop (mkF m 215 #[.val (.int i0), .val (.int i1), .val (.int i2), .val (.int cp), .val (.int ax), .val (.int fl), .val (.ref b4), .val (.int (ax + (own_n cp))), .val (.int nn), .unset, .unset, .unset, .unset, .unset] [(.int (ax + (own_n cp))), (.int ax), (.int (4 : Int32)), (.ref b4)])) (fun t k => XS.iload X25.here hx rfl (hb hby at_213) rfl k) ?_
  refine own_by (B := T25.setTop (mkF m 217 #[.val (.int i0), .val (.int i1), .val (.int i2), .val (.int cp), .val (.int ax), .val (.int fl), .val (.ref b4), .val (.int (ax + (own_n cp))), .val (.int nn), .unset, .unset, .unset, .unset, .unset] [(.int fl), (.int (ax + (own_n cp))), (.int ax), (.int (4 : Int32)), (.ref b4)])) (fun t k => XS.iload X25.here hx rfl (hb hby at_215) rfl k) ?_
  obtain ⟨v27, _, ⟨T27, L27, c27, n27⟩, -, X27, ⟨Lc27, hQ27, l27, y27, z27⟩, st27⟩ := Jvm.LawKit.callS X25 hx (y := (⟨"com/example/myriad_paths/myriadpaths/Utf8TextEncodePinLaw", "kept", "([BIIIB)Z"⟩ : MethodName)) hown (mvT hZ (hw _ (List.mem_of_getElem? (i := 8) rfl))) (mvT hZ (hw _ (List.mem_of_getElem? (i := 9) rfl))) (mvT hZ (hw _ (List.mem_of_getElem? (i := 10) rfl))) (mvT hZ (hw _ (List.mem_of_getElem? (i := 11) rfl))) (by decide) (backOf (W := 0) (rm2 l Z a0 hw [] b4 (4 : Int32) ax (ax + (own_n cp)) fl (own_enc (fun _ => fl) cp ax) T13.heap V_b4 (by decide)) hZ (hw _ (List.mem_of_getElem? (i := 11) rfl)) (hw _ (List.mem_of_getElem? (i := 10) rfl)) (by decide) (by decide)) (g := (mkF m 217 #[.val (.int i0), .val (.int i1), .val (.int i2), .val (.int cp), .val (.int ax), .val (.int fl), .val (.ref b4), .val (.int (ax + (own_n cp))), .val (.int nn), .unset, .unset, .unset, .unset, .unset] [(.int fl), (.int (ax + (own_n cp))), (.int ax), (.int (4 : Int32)), (.ref b4)])) rfl (by rw [hml]; rfl) (argsL := [(.ref b4), (.int (4 : Int32)), (.int ax), (.int (ax + (own_n cp))), (.int fl)]) (rest := []) (lenOf pd_1 rfl) rfl (by show 2 * 0 + _ ≤ _; exact Nat.le_of_eq rfl) (hb hby at_217) (fun _ _ => ⟨rfl, e25, (by decide : 1 + 0 ≤ _), (by decide : 8 + 0 ≤ _)⟩)
  dsimp only [Pt.U, Pt.locs, Pt.cells, Pt.slots] at X27 l27 y27 z27 st27 hQ27
  subst l27 y27 z27
  obtain ⟨rfl, rfl, e27⟩ := hQ27
  have NF := Fr.app NF (Fr.nil n0)
  refine own_by (B := T27.setTop (mkF m 220 #[.val (.int i0), .val (.int i1), .val (.int i2), .val (.int cp), .val (.int ax), .val (.int fl), .val (.ref b4), .val (.int (ax + (own_n cp))), .val (.int nn), .unset, .unset, .unset, .unset, .unset] [(.int (f2_0 (own_enc (fun _ => fl) cp ax) (4 : Int32) ax (ax + (own_n cp)) fl))])) (fun t k => st27 _ k) ?_
  have hc28 : ¬ ((f2_0 (own_enc (fun _ => fl) cp ax) (4 : Int32) ax (ax + (own_n cp)) fl) = (0 : Int32)) := own_kept cp ax fl (4 : Int32) 4 rfl (by decide) hax1 hcp1
  refine own_by (B := T27.setTop (mkF m 223 #[.val (.int i0), .val (.int i1), .val (.int i2), .val (.int cp), .val (.int ax), .val (.int fl), .val (.ref b4), .val (.int (ax + (own_n cp))), .val (.int nn), .unset, .unset, .unset, .unset, .unset] [])) (fun t k => XS.ifNo X27.here hx rfl (hb hby at_220) rfl ((if0 _ _).trans (feq hc28).1) k) ?_
  refine own_by (B := T27.setTop (mkF m 225 #[.val (.int i0), .val (.int i1), .val (.int i2), .val (.int cp), .val (.int ax), .val (.int fl), .val (.ref b4), .val (.int (ax + (own_n cp))), .val (.int nn), .unset, .unset, .unset, .unset, .unset] [(.ref b4)])) (fun t k => XS.aload X27.here hx rfl (hb hby at_223) rfl rfl k) ?_
  refine own_by (B := T27.setTop (mkF m 226 #[.val (.int i0), .val (.int i1), .val (.int i2), .val (.int cp), .val (.int ax), .val (.int fl), .val (.ref b4), .val (.int (ax + (own_n cp))), .val (.int nn), .unset, .unset, .unset, .unset, .unset] [(.int (5 : Int32)), (.ref b4)])) (fun t k => XS.iconst X27.here hx rfl (hb hby at_225) k) ?_
  refine own_by (B := T27.setTop (mkF m 228 #[.val (.int i0), .val (.int i1), .val (.int i2), .val (.int cp), .val (.int ax), .val (.int fl), .val (.ref b4), .val (.int (ax + (own_n cp))), .val (.int nn), .unset, .unset, .unset, .unset, .unset] [(.int ax), (.int (5 : Int32)), (.ref b4)])) (fun t k => XS.iload X27.here hx rfl (hb hby at_226) rfl k) ?_
  refine own_by (B := T27.setTop (mkF m 230 #[.val (.int i0), .val (.int i1), .val (.int i2), .val (.int cp), .val (.int ax), .val (.int fl), .val (.ref b4), .val (.int (ax + (own_n cp))), .val (.int nn), .unset, .unset, .unset, .unset, .unset] [(.int (ax + (own_n cp))), (.int ax), (.int (5 : Int32)), (.ref b4)])) (fun t k => XS.iload X27.here hx rfl (hb hby at_228) rfl k) ?_
  refine own_by (B := T27.setTop (mkF m 232 #[.val (.int i0), .val (.int i1), .val (.int i2), .val (.int cp), .val (.int ax), .val (.int fl), .val (.ref b4), .val (.int (ax + (own_n cp))), .val (.int nn), .unset, .unset, .unset, .unset, .unset] [(.int fl), (.int (ax + (own_n cp))), (.int ax), (.int (5 : Int32)), (.ref b4)])) (fun t k => XS.iload X27.here hx rfl (hb hby at_230) rfl k) ?_
  obtain ⟨v29, _, ⟨T29, L29, c29, n29⟩, -, X29, ⟨Lc29, hQ29, l29, y29, z29⟩, st29⟩ := Jvm.LawKit.callS X27 hx (y := (⟨"com/example/myriad_paths/myriadpaths/Utf8TextEncodePinLaw", "kept", "([BIIIB)Z"⟩ : MethodName)) hown (mvT hZ (hw _ (List.mem_of_getElem? (i := 8) rfl))) (mvT hZ (hw _ (List.mem_of_getElem? (i := 9) rfl))) (mvT hZ (hw _ (List.mem_of_getElem? (i := 10) rfl))) (mvT hZ (hw _ (List.mem_of_getElem? (i := 11) rfl))) (by decide) (backOf (W := 0) (rm2 l Z a0 hw [] b4 (5 : Int32) ax (ax + (own_n cp)) fl (own_enc (fun _ => fl) cp ax) T13.heap V_b4 (by decide)) hZ (hw _ (List.mem_of_getElem? (i := 11) rfl)) (hw _ (List.mem_of_getElem? (i := 10) rfl)) (by decide) (by decide)) (g := (mkF m 232 #[.val (.int i0), .val (.int i1), .val (.int i2), .val (.int cp), .val (.int ax), .val (.int fl), .val (.ref b4), .val (.int (ax + (own_n cp))), .val (.int nn), .unset, .unset, .unset, .unset, .unset] [(.int fl), (.int (ax + (own_n cp))), (.int ax), (.int (5 : Int32)), (.ref b4)])) rfl (by rw [hml]; rfl) (argsL := [(.ref b4), (.int (5 : Int32)), (.int ax), (.int (ax + (own_n cp))), (.int fl)]) (rest := []) (lenOf pd_1 rfl) rfl (by show 2 * 0 + _ ≤ _; exact Nat.le_of_eq rfl) (hb hby at_232) (fun _ _ => ⟨rfl, e27, (by decide : 1 + 0 ≤ _), (by decide : 8 + 0 ≤ _)⟩)
  dsimp only [Pt.U, Pt.locs, Pt.cells, Pt.slots] at X29 l29 y29 z29 st29 hQ29
  subst l29 y29 z29
  obtain ⟨rfl, rfl, e29⟩ := hQ29
  have NF := Fr.app NF (Fr.nil n0)
  refine own_by (B := T29.setTop (mkF m 235 #[.val (.int i0), .val (.int i1), .val (.int i2), .val (.int cp), .val (.int ax), .val (.int fl), .val (.ref b4), .val (.int (ax + (own_n cp))), .val (.int nn), .unset, .unset, .unset, .unset, .unset] [(.int (f2_0 (own_enc (fun _ => fl) cp ax) (5 : Int32) ax (ax + (own_n cp)) fl))])) (fun t k => st29 _ k) ?_
  have hc30 : ¬ ((f2_0 (own_enc (fun _ => fl) cp ax) (5 : Int32) ax (ax + (own_n cp)) fl) = (0 : Int32)) := own_kept cp ax fl (5 : Int32) 5 rfl (by decide) hax1 hcp1
  refine own_by (B := T29.setTop (mkF m 238 #[.val (.int i0), .val (.int i1), .val (.int i2), .val (.int cp), .val (.int ax), .val (.int fl), .val (.ref b4), .val (.int (ax + (own_n cp))), .val (.int nn), .unset, .unset, .unset, .unset, .unset] [])) (fun t k => XS.ifNo X29.here hx rfl (hb hby at_235) rfl ((if0 _ _).trans (feq hc30).1) k) ?_
  refine own_by (B := T29.setTop (mkF m 240 #[.val (.int i0), .val (.int i1), .val (.int i2), .val (.int cp), .val (.int ax), .val (.int fl), .val (.ref b4), .val (.int (ax + (own_n cp))), .val (.int nn), .unset, .unset, .unset, .unset, .unset] [(.ref b4)])) (fun t k => XS.aload X29.here hx rfl (hb hby at_238) rfl rfl k) ?_
  refine own_by (B := T29.setTop (mkF m 242 #[.val (.int i0), .val (.int i1), .val (.int i2), .val (.int cp), .val (.int ax), .val (.int fl), .val (.ref b4), .val (.int (ax + (own_n cp))), .val (.int nn), .unset, .unset, .unset, .unset, .unset] [(.int (6 : Int32)), (.ref b4)])) (fun t k => XS.bipush X29.here hx rfl (hb hby at_240) k) ?_
  refine own_by (B := T29.setTop (mkF m 244 #[.val (.int i0), .val (.int i1), .val (.int i2), .val (.int cp), .val (.int ax), .val (.int fl), .val (.ref b4), .val (.int (ax + (own_n cp))), .val (.int nn), .unset, .unset, .unset, .unset, .unset] [(.int ax), (.int (6 : Int32)), (.ref b4)])) (fun t k => XS.iload X29.here hx rfl (hb hby at_242) rfl k) ?_
  refine own_by (B := T29.setTop (mkF m 246 #[.val (.int i0), .val (.int i1), .val (.int i2), .val (.int cp), .val (.int ax), .val (.int fl), .val (.ref b4), .val (.int (ax + (own_n cp))), .val (.int nn), .unset, .unset, .unset, .unset, .unset] [(.int (ax + (own_n cp))), (.int ax), (.int (6 : Int32)), (.ref b4)])) (fun t k => XS.iload X29.here hx rfl (hb hby at_244) rfl k) ?_
  refine own_by (B := T29.setTop (mkF m 248 #[.val (.int i0), .val (.int i1), .val (.int i2), .val (.int cp), .val (.int ax), .val (.int fl), .val (.ref b4), .val (.int (ax + (own_n cp))), .val (.int nn), .unset, .unset, .unset, .unset, .unset] [(.int fl), (.int (ax + (own_n cp))), (.int ax), (.int (6 : Int32)), (.ref b4)])) (fun t k => XS.iload X29.here hx rfl (hb hby at_246) rfl k) ?_
  obtain ⟨v31, _, ⟨T31, L31, c31, n31⟩, -, X31, ⟨Lc31, hQ31, l31, y31, z31⟩, st31⟩ := Jvm.LawKit.callS X29 hx (y := (⟨"com/example/myriad_paths/myriadpaths/Utf8TextEncodePinLaw", "kept", "([BIIIB)Z"⟩ : MethodName)) hown (mvT hZ (hw _ (List.mem_of_getElem? (i := 8) rfl))) (mvT hZ (hw _ (List.mem_of_getElem? (i := 9) rfl))) (mvT hZ (hw _ (List.mem_of_getElem? (i := 10) rfl))) (mvT hZ (hw _ (List.mem_of_getElem? (i := 11) rfl))) (by decide) (backOf (W := 0) (rm2 l Z a0 hw [] b4 (6 : Int32) ax (ax + (own_n cp)) fl (own_enc (fun _ => fl) cp ax) T13.heap V_b4 (by decide)) hZ (hw _ (List.mem_of_getElem? (i := 11) rfl)) (hw _ (List.mem_of_getElem? (i := 10) rfl)) (by decide) (by decide)) (g := (mkF m 248 #[.val (.int i0), .val (.int i1), .val (.int i2), .val (.int cp), .val (.int ax), .val (.int fl), .val (.ref b4), .val (.int (ax + (own_n cp))), .val (.int nn), .unset, .unset, .unset, .unset, .unset] [(.int fl), (.int (ax + (own_n cp))), (.int ax), (.int (6 : Int32)), (.ref b4)])) rfl (by rw [hml]; rfl) (argsL := [(.ref b4), (.int (6 : Int32)), (.int ax), (.int (ax + (own_n cp))), (.int fl)]) (rest := []) (lenOf pd_1 rfl) rfl (by show 2 * 0 + _ ≤ _; exact Nat.le_of_eq rfl) (hb hby at_248) (fun _ _ => ⟨rfl, e29, (by decide : 1 + 0 ≤ _), (by decide : 8 + 0 ≤ _)⟩)
  dsimp only [Pt.U, Pt.locs, Pt.cells, Pt.slots] at X31 l31 y31 z31 st31 hQ31
  subst l31 y31 z31
  obtain ⟨rfl, rfl, e31⟩ := hQ31
  have NF := Fr.app NF (Fr.nil n0)
  refine own_by (B := T31.setTop (mkF m 251 #[.val (.int i0), .val (.int i1), .val (.int i2), .val (.int cp), .val (.int ax), .val (.int fl), .val (.ref b4), .val (.int (ax + (own_n cp))), .val (.int nn), .unset, .unset, .unset, .unset, .unset] [(.int (f2_0 (own_enc (fun _ => fl) cp ax) (6 : Int32) ax (ax + (own_n cp)) fl))])) (fun t k => st31 _ k) ?_
  have hc32 : ¬ ((f2_0 (own_enc (fun _ => fl) cp ax) (6 : Int32) ax (ax + (own_n cp)) fl) = (0 : Int32)) := own_kept cp ax fl (6 : Int32) 6 rfl (by decide) hax1 hcp1
  refine own_by (B := T31.setTop (mkF m 254 #[.val (.int i0), .val (.int i1), .val (.int i2), .val (.int cp), .val (.int ax), .val (.int fl), .val (.ref b4), .val (.int (ax + (own_n cp))), .val (.int nn), .unset, .unset, .unset, .unset, .unset] [])) (fun t k => XS.ifNo X31.here hx rfl (hb hby at_251) rfl ((if0 _ _).trans (feq hc32).1) k) ?_
  refine own_by (B := T31.setTop (mkF m 256 #[.val (.int i0), .val (.int i1), .val (.int i2), .val (.int cp), .val (.int ax), .val (.int fl), .val (.ref b4), .val (.int (ax + (own_n cp))), .val (.int nn), .unset, .unset, .unset, .unset, .unset] [(.ref b4)])) (fun t k => XS.aload X31.here hx rfl (hb hby at_254) rfl rfl k) ?_
  refine own_by (B := T31.setTop (mkF m 258 #[.val (.int i0), .val (.int i1), .val (.int i2), .val (.int cp), .val (.int ax), .val (.int fl), .val (.ref b4), .val (.int (ax + (own_n cp))), .val (.int nn), .unset, .unset, .unset, .unset, .unset] [(.int (7 : Int32)), (.ref b4)])) (fun t k => XS.bipush X31.here hx rfl (hb hby at_256) k) ?_
  refine own_by (B := T31.setTop (mkF m 260 #[.val (.int i0), .val (.int i1), .val (.int i2), .val (.int cp), .val (.int ax), .val (.int fl), .val (.ref b4), .val (.int (ax + (own_n cp))), .val (.int nn), .unset, .unset, .unset, .unset, .unset] [(.int ax), (.int (7 : Int32)), (.ref b4)])) (fun t k => XS.iload X31.here hx rfl (hb hby at_258) rfl k) ?_
  refine own_by (B := T31.setTop (mkF m 262 #[.val (.int i0), .val (.int i1), .val (.int i2), .val (.int cp), .val (.int ax), .val (.int fl), .val (.ref b4), .val (.int (ax + (own_n cp))), .val (.int nn), .unset, .unset, .unset, .unset, .unset] [(.int (ax + (own_n cp))), (.int ax), (.int (7 : Int32)), (.ref b4)])) (fun t k => XS.iload X31.here hx rfl (hb hby at_260) rfl k) ?_
  refine own_by (B := T31.setTop (mkF m 264 #[.val (.int i0), .val (.int i1), .val (.int i2), .val (.int cp), .val (.int ax), .val (.int fl), .val (.ref b4), .val (.int (ax + (own_n cp))), .val (.int nn), .unset, .unset, .unset, .unset, .unset] [(.int fl), (.int (ax + (own_n cp))), (.int ax), (.int (7 : Int32)), (.ref b4)])) (fun t k => XS.iload X31.here hx rfl (hb hby at_262) rfl k) ?_
  obtain ⟨v33, _, ⟨T33, L33, c33, n33⟩, -, X33, ⟨Lc33, hQ33, l33, y33, z33⟩, st33⟩ := Jvm.LawKit.callS X31 hx (y := (⟨"com/example/myriad_paths/myriadpaths/Utf8TextEncodePinLaw", "kept", "([BIIIB)Z"⟩ : MethodName)) hown (mvT hZ (hw _ (List.mem_of_getElem? (i := 8) rfl))) (mvT hZ (hw _ (List.mem_of_getElem? (i := 9) rfl))) (mvT hZ (hw _ (List.mem_of_getElem? (i := 10) rfl))) (mvT hZ (hw _ (List.mem_of_getElem? (i := 11) rfl))) (by decide) (backOf (W := 0) (rm2 l Z a0 hw [] b4 (7 : Int32) ax (ax + (own_n cp)) fl (own_enc (fun _ => fl) cp ax) T13.heap V_b4 (by decide)) hZ (hw _ (List.mem_of_getElem? (i := 11) rfl)) (hw _ (List.mem_of_getElem? (i := 10) rfl)) (by decide) (by decide)) (g := (mkF m 264 #[.val (.int i0), .val (.int i1), .val (.int i2), .val (.int cp), .val (.int ax), .val (.int fl), .val (.ref b4), .val (.int (ax + (own_n cp))), .val (.int nn), .unset, .unset, .unset, .unset, .unset] [(.int fl), (.int (ax + (own_n cp))), (.int ax), (.int (7 : Int32)), (.ref b4)])) rfl (by rw [hml]; rfl) (argsL := [(.ref b4), (.int (7 : Int32)), (.int ax), (.int (ax + (own_n cp))), (.int fl)]) (rest := []) (lenOf pd_1 rfl) rfl (by show 2 * 0 + _ ≤ _; exact Nat.le_of_eq rfl) (hb hby at_264) (fun _ _ => ⟨rfl, e31, (by decide : 1 + 0 ≤ _), (by decide : 8 + 0 ≤ _)⟩)
  dsimp only [Pt.U, Pt.locs, Pt.cells, Pt.slots] at X33 l33 y33 z33 st33 hQ33
  subst l33 y33 z33
  obtain ⟨rfl, rfl, e33⟩ := hQ33
  have NF := Fr.app NF (Fr.nil n0)
  refine own_by (B := T33.setTop (mkF m 267 #[.val (.int i0), .val (.int i1), .val (.int i2), .val (.int cp), .val (.int ax), .val (.int fl), .val (.ref b4), .val (.int (ax + (own_n cp))), .val (.int nn), .unset, .unset, .unset, .unset, .unset] [(.int (f2_0 (own_enc (fun _ => fl) cp ax) (7 : Int32) ax (ax + (own_n cp)) fl))])) (fun t k => st33 _ k) ?_
  have hc34 : ¬ ((f2_0 (own_enc (fun _ => fl) cp ax) (7 : Int32) ax (ax + (own_n cp)) fl) = (0 : Int32)) := own_kept cp ax fl (7 : Int32) 7 rfl (by decide) hax1 hcp1
  refine own_by (B := T33.setTop (mkF m 270 #[.val (.int i0), .val (.int i1), .val (.int i2), .val (.int cp), .val (.int ax), .val (.int fl), .val (.ref b4), .val (.int (ax + (own_n cp))), .val (.int nn), .unset, .unset, .unset, .unset, .unset] [])) (fun t k => XS.ifNo X33.here hx rfl (hb hby at_267) rfl ((if0 _ _).trans (feq hc34).1) k) ?_
  refine own_by (B := T33.setTop (mkF m 271 #[.val (.int i0), .val (.int i1), .val (.int i2), .val (.int cp), .val (.int ax), .val (.int fl), .val (.ref b4), .val (.int (ax + (own_n cp))), .val (.int nn), .unset, .unset, .unset, .unset, .unset] [(.int (1 : Int32))])) (fun t k => XS.iconst X33.here hx rfl (hb hby at_270) k) ?_
  refine own_by (B := T33.setTop (mkF m 275 #[.val (.int i0), .val (.int i1), .val (.int i2), .val (.int cp), .val (.int ax), .val (.int fl), .val (.ref b4), .val (.int (ax + (own_n cp))), .val (.int nn), .unset, .unset, .unset, .unset, .unset] [(.int (1 : Int32))])) (fun t k => XS.goto X33.here hx rfl (pc0 := 271) (pc' := 275) rfl (hb hby at_271) (by decide) (by decide) k) ?_
  refine own_by (B := T33.setTop (mkF m 277 #[.val (.int i0), .val (.int i1), .val (.int i2), .val (.int cp), .val (.int ax), .val (.int fl), .val (.ref b4), .val (.int (ax + (own_n cp))), .val (.int nn), .val (.int (1 : Int32)), .unset, .unset, .unset, .unset] [])) (fun t k => XS.istore X33.here hx rfl (hb hby at_275) rfl (l' := #[.val (.int i0), .val (.int i1), .val (.int i2), .val (.int cp), .val (.int ax), .val (.int fl), .val (.ref b4), .val (.int (ax + (own_n cp))), .val (.int nn), .val (.int (1 : Int32)), .unset, .unset, .unset, .unset]) rfl k) ?_
  refine own_by (B := T33.setTop (mkF m 279 #[.val (.int i0), .val (.int i1), .val (.int i2), .val (.int cp), .val (.int ax), .val (.int fl), .val (.ref b4), .val (.int (ax + (own_n cp))), .val (.int nn), .val (.int (1 : Int32)), .unset, .unset, .unset, .unset] [(.int (1 : Int32))])) (fun t k => XS.iload X33.here hx rfl (hb hby at_277) rfl k) ?_
  have hc35 : ¬ ((1 : Int32) = (0 : Int32)) := by decide
  refine own_by (B := T33.setTop (mkF m 284 #[.val (.int i0), .val (.int i1), .val (.int i2), .val (.int cp), .val (.int ax), .val (.int fl), .val (.ref b4), .val (.int (ax + (own_n cp))), .val (.int nn), .val (.int (1 : Int32)), .unset, .unset, .unset, .unset] [])) (fun t k => XS.ifYes X33.here hx rfl (pc0 := 279) (pc' := 284) rfl (hb hby at_279) rfl ((if0 _ _).trans (feq hc35).2) (by decide) (by decide) k) ?_
  refine own_by (B := T33.setTop (mkF m 286 #[.val (.int i0), .val (.int i1), .val (.int i2), .val (.int cp), .val (.int ax), .val (.int fl), .val (.ref b4), .val (.int (ax + (own_n cp))), .val (.int nn), .val (.int (1 : Int32)), .unset, .unset, .unset, .unset] [(.ref b4)])) (fun t k => XS.aload X33.here hx rfl (hb hby at_284) rfl rfl k) ?_
  refine own_by (B := T33.setTop (mkF m 288 #[.val (.int i0), .val (.int i1), .val (.int i2), .val (.int cp), .val (.int ax), .val (.int fl), .val (.ref b4), .val (.int (ax + (own_n cp))), .val (.int nn), .val (.int (1 : Int32)), .unset, .unset, .unset, .unset] [(.int ax), (.ref b4)])) (fun t k => XS.iload X33.here hx rfl (hb hby at_286) rfl k) ?_
  obtain ⟨v36, _, ⟨T36, L36, c36, n36⟩, -, X36, ⟨Lc36, hQ36, l36, y36, z36⟩, st36⟩ := Jvm.LawKit.callS X33 hx (y := (⟨"com/example/myriad_paths/myriadpaths/Utf8TextEncodePinLaw", "u", "([BI)I"⟩ : MethodName)) hown (mvT hZ (hw _ (List.mem_of_getElem? (i := 12) rfl))) (mvT hZ (hw _ (List.mem_of_getElem? (i := 13) rfl))) (mvT hZ (hw _ (List.mem_of_getElem? (i := 10) rfl))) (mvT hZ (hw _ (List.mem_of_getElem? (i := 14) rfl))) (by decide) (backOf (W := 0) (rm3 l Z a0 hw [] b4 ax (own_enc (fun _ => fl) cp ax) T13.heap V_b4 (own_ix0 ax hax1)) hZ (hw _ (List.mem_of_getElem? (i := 14) rfl)) (hw _ (List.mem_of_getElem? (i := 10) rfl)) (by decide) (by decide)) (g := (mkF m 288 #[.val (.int i0), .val (.int i1), .val (.int i2), .val (.int cp), .val (.int ax), .val (.int fl), .val (.ref b4), .val (.int (ax + (own_n cp))), .val (.int nn), .val (.int (1 : Int32)), .unset, .unset, .unset, .unset] [(.int ax), (.ref b4)])) rfl (by rw [hml]; rfl) (argsL := [(.ref b4), (.int ax)]) (rest := []) (lenOf pd_2 rfl) rfl (by show 2 * 0 + _ ≤ _; exact Nat.le_of_eq rfl) (hb hby at_288) (fun _ _ => ⟨rfl, e33, (by decide : 1 + 0 ≤ _), (by decide : 8 + 0 ≤ _)⟩)
  dsimp only [Pt.U, Pt.locs, Pt.cells, Pt.slots] at X36 l36 y36 z36 st36 hQ36
  subst l36 y36 z36
  obtain ⟨rfl, rfl, e36⟩ := hQ36
  have NF := Fr.app NF (Fr.nil n0)
  refine own_by (B := T36.setTop (mkF m 291 #[.val (.int i0), .val (.int i1), .val (.int i2), .val (.int cp), .val (.int ax), .val (.int fl), .val (.ref b4), .val (.int (ax + (own_n cp))), .val (.int nn), .val (.int (1 : Int32)), .unset, .unset, .unset, .unset] [(.int (f3_0 (own_enc (fun _ => fl) cp ax) ax))])) (fun t k => st36 _ k) ?_
  refine own_by (B := T36.setTop (mkF m 293 #[.val (.int i0), .val (.int i1), .val (.int i2), .val (.int cp), .val (.int ax), .val (.int fl), .val (.ref b4), .val (.int (ax + (own_n cp))), .val (.int nn), .val (.int (1 : Int32)), .val (.int (f3_0 (own_enc (fun _ => fl) cp ax) ax)), .unset, .unset, .unset] [])) (fun t k => XS.istore X36.here hx rfl (hb hby at_291) rfl (l' := #[.val (.int i0), .val (.int i1), .val (.int i2), .val (.int cp), .val (.int ax), .val (.int fl), .val (.ref b4), .val (.int (ax + (own_n cp))), .val (.int nn), .val (.int (1 : Int32)), .val (.int (f3_0 (own_enc (fun _ => fl) cp ax) ax)), .unset, .unset, .unset]) rfl k) ?_
  obtain ⟨b0, hb0⟩ : ∃ z : Int32, z = (f3_0 (own_enc (fun _ => fl) cp ax) ax) := ⟨_, rfl⟩
  rw [← hb0]
  refine own_by (B := T36.setTop (mkF m 295 #[.val (.int i0), .val (.int i1), .val (.int i2), .val (.int cp), .val (.int ax), .val (.int fl), .val (.ref b4), .val (.int (ax + (own_n cp))), .val (.int nn), .val (.int (1 : Int32)), .val (.int b0), .unset, .unset, .unset] [(.int nn)])) (fun t k => XS.iload X36.here hx rfl (hb hby at_293) rfl k) ?_
  refine own_by (B := T36.setTop (mkF m 296 #[.val (.int i0), .val (.int i1), .val (.int i2), .val (.int cp), .val (.int ax), .val (.int fl), .val (.ref b4), .val (.int (ax + (own_n cp))), .val (.int nn), .val (.int (1 : Int32)), .val (.int b0), .unset, .unset, .unset] [(.int (1 : Int32)), (.int nn)])) (fun t k => XS.iconst X36.here hx rfl (hb hby at_295) k) ?_
  by_cases hc37 : nn = (1 : Int32)
  ·
    refine own_by (B := T36.setTop (mkF m 299 #[.val (.int i0), .val (.int i1), .val (.int i2), .val (.int cp), .val (.int ax), .val (.int fl), .val (.ref b4), .val (.int (ax + (own_n cp))), .val (.int nn), .val (.int (1 : Int32)), .val (.int b0), .unset, .unset, .unset] [])) (fun t k => XS.icmpNo X36.here hx rfl (hb hby at_296) rfl (teq hc37).2 k) ?_
    refine own_by (B := T36.setTop (mkF m 301 #[.val (.int i0), .val (.int i1), .val (.int i2), .val (.int cp), .val (.int ax), .val (.int fl), .val (.ref b4), .val (.int (ax + (own_n cp))), .val (.int nn), .val (.int (1 : Int32)), .val (.int b0), .unset, .unset, .unset] [(.int b0)])) (fun t k => XS.iload X36.here hx rfl (hb hby at_299) rfl k) ?_
    refine own_by (B := T36.setTop (mkF m 302 #[.val (.int i0), .val (.int i1), .val (.int i2), .val (.int cp), .val (.int ax), .val (.int fl), .val (.ref b4), .val (.int (ax + (own_n cp))), .val (.int nn), .val (.int (1 : Int32)), .val (.int b0), .unset, .unset, .unset] [(.int cp), (.int b0)])) (fun t k => XS.iloadN X36.here hx rfl (hb hby at_301) rfl k) ?_
    have hc38 : b0 = cp := own_b1 fl cp ax nn b0 hcp1 hax1 hnn hb0 hc37
    refine own_by (B := T36.setTop (mkF m 305 #[.val (.int i0), .val (.int i1), .val (.int i2), .val (.int cp), .val (.int ax), .val (.int fl), .val (.ref b4), .val (.int (ax + (own_n cp))), .val (.int nn), .val (.int (1 : Int32)), .val (.int b0), .unset, .unset, .unset] [])) (fun t k => XS.icmpNo X36.here hx rfl (hb hby at_302) rfl (teq hc38).2 k) ?_
    refine own_by (B := T36.setTop (mkF m 306 #[.val (.int i0), .val (.int i1), .val (.int i2), .val (.int cp), .val (.int ax), .val (.int fl), .val (.ref b4), .val (.int (ax + (own_n cp))), .val (.int nn), .val (.int (1 : Int32)), .val (.int b0), .unset, .unset, .unset] [(.int (1 : Int32))])) (fun t k => XS.iconst X36.here hx rfl (hb hby at_305) k) ?_
    refine own_by (B := T36.setTop (mkF m 310 #[.val (.int i0), .val (.int i1), .val (.int i2), .val (.int cp), .val (.int ax), .val (.int fl), .val (.ref b4), .val (.int (ax + (own_n cp))), .val (.int nn), .val (.int (1 : Int32)), .val (.int b0), .unset, .unset, .unset] [(.int (1 : Int32))])) (fun t k => XS.goto X36.here hx rfl (pc0 := 306) (pc' := 310) rfl (hb hby at_306) (by decide) (by decide) k) ?_
    exact own_retN (t := .boolean) (by simp) X36 hx hlk hret (z' := (1 : Int32)) (by decide) (hb hby at_310) ⟨rfl, NF⟩ (by decide) (by decide)
  ·
    refine own_by (B := T36.setTop (mkF m 311 #[.val (.int i0), .val (.int i1), .val (.int i2), .val (.int cp), .val (.int ax), .val (.int fl), .val (.ref b4), .val (.int (ax + (own_n cp))), .val (.int nn), .val (.int (1 : Int32)), .val (.int b0), .unset, .unset, .unset] [])) (fun t k => XS.icmpYes X36.here hx rfl (pc0 := 296) (pc' := 311) rfl (hb hby at_296) rfl (feq hc37).2 (by decide) (by decide) k) ?_
    refine own_by (B := T36.setTop (mkF m 313 #[.val (.int i0), .val (.int i1), .val (.int i2), .val (.int cp), .val (.int ax), .val (.int fl), .val (.ref b4), .val (.int (ax + (own_n cp))), .val (.int nn), .val (.int (1 : Int32)), .val (.int b0), .unset, .unset, .unset] [(.ref b4)])) (fun t k => XS.aload X36.here hx rfl (hb hby at_311) rfl rfl k) ?_
    refine own_by (B := T36.setTop (mkF m 315 #[.val (.int i0), .val (.int i1), .val (.int i2), .val (.int cp), .val (.int ax), .val (.int fl), .val (.ref b4), .val (.int (ax + (own_n cp))), .val (.int nn), .val (.int (1 : Int32)), .val (.int b0), .unset, .unset, .unset] [(.int ax), (.ref b4)])) (fun t k => XS.iload X36.here hx rfl (hb hby at_313) rfl k) ?_
    refine own_by (B := T36.setTop (mkF m 316 #[.val (.int i0), .val (.int i1), .val (.int i2), .val (.int cp), .val (.int ax), .val (.int fl), .val (.ref b4), .val (.int (ax + (own_n cp))), .val (.int nn), .val (.int (1 : Int32)), .val (.int b0), .unset, .unset, .unset] [(.int (1 : Int32)), (.int ax), (.ref b4)])) (fun t k => XS.iconst X36.here hx rfl (hb hby at_315) k) ?_
    refine own_by (B := T36.setTop (mkF m 317 #[.val (.int i0), .val (.int i1), .val (.int i2), .val (.int cp), .val (.int ax), .val (.int fl), .val (.ref b4), .val (.int (ax + (own_n cp))), .val (.int nn), .val (.int (1 : Int32)), .val (.int b0), .unset, .unset, .unset] [(.int (ax + (1 : Int32))), (.ref b4)])) (fun t k => XS.iadd X36.here hx rfl (hb hby at_316) rfl k) ?_
    obtain ⟨v39, _, ⟨T39, L39, c39, n39⟩, -, X39, ⟨Lc39, hQ39, l39, y39, z39⟩, st39⟩ := Jvm.LawKit.callS X36 hx (y := (⟨"com/example/myriad_paths/myriadpaths/Utf8TextEncodePinLaw", "u", "([BI)I"⟩ : MethodName)) hown (mvT hZ (hw _ (List.mem_of_getElem? (i := 12) rfl))) (mvT hZ (hw _ (List.mem_of_getElem? (i := 13) rfl))) (mvT hZ (hw _ (List.mem_of_getElem? (i := 10) rfl))) (mvT hZ (hw _ (List.mem_of_getElem? (i := 14) rfl))) (by decide) (backOf (W := 0) (rm3 l Z a0 hw [] b4 (ax + (1 : Int32)) (own_enc (fun _ => fl) cp ax) T13.heap V_b4 (own_ix ax _ hax1 (by decide))) hZ (hw _ (List.mem_of_getElem? (i := 14) rfl)) (hw _ (List.mem_of_getElem? (i := 10) rfl)) (by decide) (by decide)) (g := (mkF m 317 #[.val (.int i0), .val (.int i1), .val (.int i2), .val (.int cp), .val (.int ax), .val (.int fl), .val (.ref b4), .val (.int (ax + (own_n cp))), .val (.int nn), .val (.int (1 : Int32)), .val (.int b0), .unset, .unset, .unset] [(.int (ax + (1 : Int32))), (.ref b4)])) rfl (by rw [hml]; rfl) (argsL := [(.ref b4), (.int (ax + (1 : Int32)))]) (rest := []) (lenOf pd_2 rfl) rfl (by show 2 * 0 + _ ≤ _; exact Nat.le_of_eq rfl) (hb hby at_317) (fun _ _ => ⟨rfl, e36, (by decide : 1 + 0 ≤ _), (by decide : 8 + 0 ≤ _)⟩)
    dsimp only [Pt.U, Pt.locs, Pt.cells, Pt.slots] at X39 l39 y39 z39 st39 hQ39
    subst l39 y39 z39
    obtain ⟨rfl, rfl, e39⟩ := hQ39
    have NF := Fr.app NF (Fr.nil n0)
    refine own_by (B := T39.setTop (mkF m 320 #[.val (.int i0), .val (.int i1), .val (.int i2), .val (.int cp), .val (.int ax), .val (.int fl), .val (.ref b4), .val (.int (ax + (own_n cp))), .val (.int nn), .val (.int (1 : Int32)), .val (.int b0), .unset, .unset, .unset] [(.int (f3_0 (own_enc (fun _ => fl) cp ax) (ax + (1 : Int32))))])) (fun t k => st39 _ k) ?_
    refine own_by (B := T39.setTop (mkF m 322 #[.val (.int i0), .val (.int i1), .val (.int i2), .val (.int cp), .val (.int ax), .val (.int fl), .val (.ref b4), .val (.int (ax + (own_n cp))), .val (.int nn), .val (.int (1 : Int32)), .val (.int b0), .val (.int (f3_0 (own_enc (fun _ => fl) cp ax) (ax + (1 : Int32)))), .unset, .unset] [])) (fun t k => XS.istore X39.here hx rfl (hb hby at_320) rfl (l' := #[.val (.int i0), .val (.int i1), .val (.int i2), .val (.int cp), .val (.int ax), .val (.int fl), .val (.ref b4), .val (.int (ax + (own_n cp))), .val (.int nn), .val (.int (1 : Int32)), .val (.int b0), .val (.int (f3_0 (own_enc (fun _ => fl) cp ax) (ax + (1 : Int32)))), .unset, .unset]) rfl k) ?_
    obtain ⟨b1, hb1⟩ : ∃ z : Int32, z = (f3_0 (own_enc (fun _ => fl) cp ax) (ax + (1 : Int32))) := ⟨_, rfl⟩
    rw [← hb1]
    refine own_by (B := T39.setTop (mkF m 324 #[.val (.int i0), .val (.int i1), .val (.int i2), .val (.int cp), .val (.int ax), .val (.int fl), .val (.ref b4), .val (.int (ax + (own_n cp))), .val (.int nn), .val (.int (1 : Int32)), .val (.int b0), .val (.int b1), .unset, .unset] [(.int b1)])) (fun t k => XS.iload X39.here hx rfl (hb hby at_322) rfl k) ?_
    refine own_by (B := T39.setTop (mkF m 327 #[.val (.int i0), .val (.int i1), .val (.int i2), .val (.int cp), .val (.int ax), .val (.int fl), .val (.ref b4), .val (.int (ax + (own_n cp))), .val (.int nn), .val (.int (1 : Int32)), .val (.int b0), .val (.int b1), .unset, .unset] [(.int (192 : Int32)), (.int b1)])) (fun t k => XS.sipush X39.here hx rfl (hb hby at_324) k) ?_
    refine own_by (B := T39.setTop (mkF m 328 #[.val (.int i0), .val (.int i1), .val (.int i2), .val (.int cp), .val (.int ax), .val (.int fl), .val (.ref b4), .val (.int (ax + (own_n cp))), .val (.int nn), .val (.int (1 : Int32)), .val (.int b0), .val (.int b1), .unset, .unset] [(.int (b1 &&& (192 : Int32)))])) (fun t k => XS.iand X39.here hx rfl (hb hby at_327) rfl k) ?_
    refine own_by (B := T39.setTop (mkF m 331 #[.val (.int i0), .val (.int i1), .val (.int i2), .val (.int cp), .val (.int ax), .val (.int fl), .val (.ref b4), .val (.int (ax + (own_n cp))), .val (.int nn), .val (.int (1 : Int32)), .val (.int b0), .val (.int b1), .unset, .unset] [(.int (128 : Int32)), (.int (b1 &&& (192 : Int32)))])) (fun t k => XS.sipush X39.here hx rfl (hb hby at_328) k) ?_
    have hc40 : (b1 &&& (192 : Int32)) = (128 : Int32) := own_c1 fl cp ax nn b1 hcp1 hax1 hnn hb1 hc37
    refine own_by (B := T39.setTop (mkF m 336 #[.val (.int i0), .val (.int i1), .val (.int i2), .val (.int cp), .val (.int ax), .val (.int fl), .val (.ref b4), .val (.int (ax + (own_n cp))), .val (.int nn), .val (.int (1 : Int32)), .val (.int b0), .val (.int b1), .unset, .unset] [])) (fun t k => XS.icmpYes X39.here hx rfl (pc0 := 331) (pc' := 336) rfl (hb hby at_331) rfl (teq hc40).1 (by decide) (by decide) k) ?_
    refine own_by (B := T39.setTop (mkF m 338 #[.val (.int i0), .val (.int i1), .val (.int i2), .val (.int cp), .val (.int ax), .val (.int fl), .val (.ref b4), .val (.int (ax + (own_n cp))), .val (.int nn), .val (.int (1 : Int32)), .val (.int b0), .val (.int b1), .unset, .unset] [(.int nn)])) (fun t k => XS.iload X39.here hx rfl (hb hby at_336) rfl k) ?_
    refine own_by (B := T39.setTop (mkF m 339 #[.val (.int i0), .val (.int i1), .val (.int i2), .val (.int cp), .val (.int ax), .val (.int fl), .val (.ref b4), .val (.int (ax + (own_n cp))), .val (.int nn), .val (.int (1 : Int32)), .val (.int b0), .val (.int b1), .unset, .unset] [(.int (2 : Int32)), (.int nn)])) (fun t k => XS.iconst X39.here hx rfl (hb hby at_338) k) ?_
    by_cases hc41 : nn = (2 : Int32)
    ·
      refine own_by (B := T39.setTop (mkF m 342 #[.val (.int i0), .val (.int i1), .val (.int i2), .val (.int cp), .val (.int ax), .val (.int fl), .val (.ref b4), .val (.int (ax + (own_n cp))), .val (.int nn), .val (.int (1 : Int32)), .val (.int b0), .val (.int b1), .unset, .unset] [])) (fun t k => XS.icmpNo X39.here hx rfl (hb hby at_339) rfl (teq hc41).2 k) ?_
      refine own_by (B := T39.setTop (mkF m 344 #[.val (.int i0), .val (.int i1), .val (.int i2), .val (.int cp), .val (.int ax), .val (.int fl), .val (.ref b4), .val (.int (ax + (own_n cp))), .val (.int nn), .val (.int (1 : Int32)), .val (.int b0), .val (.int b1), .unset, .unset] [(.int b0)])) (fun t k => XS.iload X39.here hx rfl (hb hby at_342) rfl k) ?_
      refine own_by (B := T39.setTop (mkF m 347 #[.val (.int i0), .val (.int i1), .val (.int i2), .val (.int cp), .val (.int ax), .val (.int fl), .val (.ref b4), .val (.int (ax + (own_n cp))), .val (.int nn), .val (.int (1 : Int32)), .val (.int b0), .val (.int b1), .unset, .unset] [(.int (224 : Int32)), (.int b0)])) (fun t k => XS.sipush X39.here hx rfl (hb hby at_344) k) ?_
      refine own_by (B := T39.setTop (mkF m 348 #[.val (.int i0), .val (.int i1), .val (.int i2), .val (.int cp), .val (.int ax), .val (.int fl), .val (.ref b4), .val (.int (ax + (own_n cp))), .val (.int nn), .val (.int (1 : Int32)), .val (.int b0), .val (.int b1), .unset, .unset] [(.int (b0 &&& (224 : Int32)))])) (fun t k => XS.iand X39.here hx rfl (hb hby at_347) rfl k) ?_
      refine own_by (B := T39.setTop (mkF m 351 #[.val (.int i0), .val (.int i1), .val (.int i2), .val (.int cp), .val (.int ax), .val (.int fl), .val (.ref b4), .val (.int (ax + (own_n cp))), .val (.int nn), .val (.int (1 : Int32)), .val (.int b0), .val (.int b1), .unset, .unset] [(.int (192 : Int32)), (.int (b0 &&& (224 : Int32)))])) (fun t k => XS.sipush X39.here hx rfl (hb hby at_348) k) ?_
      have hc42 : (b0 &&& (224 : Int32)) = (192 : Int32) := (own_b2 fl cp ax nn b0 b1 hcp1 hax1 hnn hb0 hb1 hc41).1
      refine own_by (B := T39.setTop (mkF m 354 #[.val (.int i0), .val (.int i1), .val (.int i2), .val (.int cp), .val (.int ax), .val (.int fl), .val (.ref b4), .val (.int (ax + (own_n cp))), .val (.int nn), .val (.int (1 : Int32)), .val (.int b0), .val (.int b1), .unset, .unset] [])) (fun t k => XS.icmpNo X39.here hx rfl (hb hby at_351) rfl (teq hc42).2 k) ?_
      refine own_by (B := T39.setTop (mkF m 356 #[.val (.int i0), .val (.int i1), .val (.int i2), .val (.int cp), .val (.int ax), .val (.int fl), .val (.ref b4), .val (.int (ax + (own_n cp))), .val (.int nn), .val (.int (1 : Int32)), .val (.int b0), .val (.int b1), .unset, .unset] [(.int b0)])) (fun t k => XS.iload X39.here hx rfl (hb hby at_354) rfl k) ?_
      refine own_by (B := T39.setTop (mkF m 358 #[.val (.int i0), .val (.int i1), .val (.int i2), .val (.int cp), .val (.int ax), .val (.int fl), .val (.ref b4), .val (.int (ax + (own_n cp))), .val (.int nn), .val (.int (1 : Int32)), .val (.int b0), .val (.int b1), .unset, .unset] [(.int (31 : Int32)), (.int b0)])) (fun t k => XS.bipush X39.here hx rfl (hb hby at_356) k) ?_
      refine own_by (B := T39.setTop (mkF m 359 #[.val (.int i0), .val (.int i1), .val (.int i2), .val (.int cp), .val (.int ax), .val (.int fl), .val (.ref b4), .val (.int (ax + (own_n cp))), .val (.int nn), .val (.int (1 : Int32)), .val (.int b0), .val (.int b1), .unset, .unset] [(.int (b0 &&& (31 : Int32)))])) (fun t k => XS.iand X39.here hx rfl (hb hby at_358) rfl k) ?_
      refine own_by (B := T39.setTop (mkF m 361 #[.val (.int i0), .val (.int i1), .val (.int i2), .val (.int cp), .val (.int ax), .val (.int fl), .val (.ref b4), .val (.int (ax + (own_n cp))), .val (.int nn), .val (.int (1 : Int32)), .val (.int b0), .val (.int b1), .unset, .unset] [(.int (64 : Int32)), (.int (b0 &&& (31 : Int32)))])) (fun t k => XS.bipush X39.here hx rfl (hb hby at_359) k) ?_
      refine own_by (B := T39.setTop (mkF m 362 #[.val (.int i0), .val (.int i1), .val (.int i2), .val (.int cp), .val (.int ax), .val (.int fl), .val (.ref b4), .val (.int (ax + (own_n cp))), .val (.int nn), .val (.int (1 : Int32)), .val (.int b0), .val (.int b1), .unset, .unset] [(.int ((b0 &&& (31 : Int32)) * (64 : Int32)))])) (fun t k => XS.imul X39.here hx rfl (hb hby at_361) rfl k) ?_
      refine own_by (B := T39.setTop (mkF m 364 #[.val (.int i0), .val (.int i1), .val (.int i2), .val (.int cp), .val (.int ax), .val (.int fl), .val (.ref b4), .val (.int (ax + (own_n cp))), .val (.int nn), .val (.int (1 : Int32)), .val (.int b0), .val (.int b1), .unset, .unset] [(.int b1), (.int ((b0 &&& (31 : Int32)) * (64 : Int32)))])) (fun t k => XS.iload X39.here hx rfl (hb hby at_362) rfl k) ?_
      refine own_by (B := T39.setTop (mkF m 366 #[.val (.int i0), .val (.int i1), .val (.int i2), .val (.int cp), .val (.int ax), .val (.int fl), .val (.ref b4), .val (.int (ax + (own_n cp))), .val (.int nn), .val (.int (1 : Int32)), .val (.int b0), .val (.int b1), .unset, .unset] [(.int (63 : Int32)), (.int b1), (.int ((b0 &&& (31 : Int32)) * (64 : Int32)))])) (fun t k => XS.bipush X39.here hx rfl (hb hby at_364) k) ?_
      refine own_by (B := T39.setTop (mkF m 367 #[.val (.int i0), .val (.int i1), .val (.int i2), .val (.int cp), .val (.int ax), .val (.int fl), .val (.ref b4), .val (.int (ax + (own_n cp))), .val (.int nn), .val (.int (1 : Int32)), .val (.int b0), .val (.int b1), .unset, .unset] [(.int (b1 &&& (63 : Int32))), (.int ((b0 &&& (31 : Int32)) * (64 : Int32)))])) (fun t k => XS.iand X39.here hx rfl (hb hby at_366) rfl k) ?_
      refine own_by (B := T39.setTop (mkF m 368 #[.val (.int i0), .val (.int i1), .val (.int i2), .val (.int cp), .val (.int ax), .val (.int fl), .val (.ref b4), .val (.int (ax + (own_n cp))), .val (.int nn), .val (.int (1 : Int32)), .val (.int b0), .val (.int b1), .unset, .unset] [(.int (((b0 &&& (31 : Int32)) * (64 : Int32)) + (b1 &&& (63 : Int32))))])) (fun t k => XS.iadd X39.here hx rfl (hb hby at_367) rfl k) ?_
      refine own_by (B := T39.setTop (mkF m 369 #[.val (.int i0), .val (.int i1), .val (.int i2), .val (.int cp), .val (.int ax), .val (.int fl), .val (.ref b4), .val (.int (ax + (own_n cp))), .val (.int nn), .val (.int (1 : Int32)), .val (.int b0), .val (.int b1), .unset, .unset] [(.int cp), (.int (((b0 &&& (31 : Int32)) * (64 : Int32)) + (b1 &&& (63 : Int32))))])) (fun t k => XS.iloadN X39.here hx rfl (hb hby at_368) rfl k) ?_
      have hc43 : (((b0 &&& (31 : Int32)) * (64 : Int32)) + (b1 &&& (63 : Int32))) = cp := (own_b2 fl cp ax nn b0 b1 hcp1 hax1 hnn hb0 hb1 hc41).2
      refine own_by (B := T39.setTop (mkF m 372 #[.val (.int i0), .val (.int i1), .val (.int i2), .val (.int cp), .val (.int ax), .val (.int fl), .val (.ref b4), .val (.int (ax + (own_n cp))), .val (.int nn), .val (.int (1 : Int32)), .val (.int b0), .val (.int b1), .unset, .unset] [])) (fun t k => XS.icmpNo X39.here hx rfl (hb hby at_369) rfl (teq hc43).2 k) ?_
      refine own_by (B := T39.setTop (mkF m 373 #[.val (.int i0), .val (.int i1), .val (.int i2), .val (.int cp), .val (.int ax), .val (.int fl), .val (.ref b4), .val (.int (ax + (own_n cp))), .val (.int nn), .val (.int (1 : Int32)), .val (.int b0), .val (.int b1), .unset, .unset] [(.int (1 : Int32))])) (fun t k => XS.iconst X39.here hx rfl (hb hby at_372) k) ?_
      refine own_by (B := T39.setTop (mkF m 377 #[.val (.int i0), .val (.int i1), .val (.int i2), .val (.int cp), .val (.int ax), .val (.int fl), .val (.ref b4), .val (.int (ax + (own_n cp))), .val (.int nn), .val (.int (1 : Int32)), .val (.int b0), .val (.int b1), .unset, .unset] [(.int (1 : Int32))])) (fun t k => XS.goto X39.here hx rfl (pc0 := 373) (pc' := 377) rfl (hb hby at_373) (by decide) (by decide) k) ?_
      exact own_retN (t := .boolean) (by simp) X39 hx hlk hret (z' := (1 : Int32)) (by decide) (hb hby at_377) ⟨rfl, NF⟩ (by decide) (by decide)
    ·
      refine own_by (B := T39.setTop (mkF m 378 #[.val (.int i0), .val (.int i1), .val (.int i2), .val (.int cp), .val (.int ax), .val (.int fl), .val (.ref b4), .val (.int (ax + (own_n cp))), .val (.int nn), .val (.int (1 : Int32)), .val (.int b0), .val (.int b1), .unset, .unset] [])) (fun t k => XS.icmpYes X39.here hx rfl (pc0 := 339) (pc' := 378) rfl (hb hby at_339) rfl (feq hc41).2 (by decide) (by decide) k) ?_
      refine own_by (B := T39.setTop (mkF m 380 #[.val (.int i0), .val (.int i1), .val (.int i2), .val (.int cp), .val (.int ax), .val (.int fl), .val (.ref b4), .val (.int (ax + (own_n cp))), .val (.int nn), .val (.int (1 : Int32)), .val (.int b0), .val (.int b1), .unset, .unset] [(.ref b4)])) (fun t k => XS.aload X39.here hx rfl (hb hby at_378) rfl rfl k) ?_
      refine own_by (B := T39.setTop (mkF m 382 #[.val (.int i0), .val (.int i1), .val (.int i2), .val (.int cp), .val (.int ax), .val (.int fl), .val (.ref b4), .val (.int (ax + (own_n cp))), .val (.int nn), .val (.int (1 : Int32)), .val (.int b0), .val (.int b1), .unset, .unset] [(.int ax), (.ref b4)])) (fun t k => XS.iload X39.here hx rfl (hb hby at_380) rfl k) ?_
      refine own_by (B := T39.setTop (mkF m 383 #[.val (.int i0), .val (.int i1), .val (.int i2), .val (.int cp), .val (.int ax), .val (.int fl), .val (.ref b4), .val (.int (ax + (own_n cp))), .val (.int nn), .val (.int (1 : Int32)), .val (.int b0), .val (.int b1), .unset, .unset] [(.int (2 : Int32)), (.int ax), (.ref b4)])) (fun t k => XS.iconst X39.here hx rfl (hb hby at_382) k) ?_
      refine own_by (B := T39.setTop (mkF m 384 #[.val (.int i0), .val (.int i1), .val (.int i2), .val (.int cp), .val (.int ax), .val (.int fl), .val (.ref b4), .val (.int (ax + (own_n cp))), .val (.int nn), .val (.int (1 : Int32)), .val (.int b0), .val (.int b1), .unset, .unset] [(.int (ax + (2 : Int32))), (.ref b4)])) (fun t k => XS.iadd X39.here hx rfl (hb hby at_383) rfl k) ?_
      obtain ⟨v44, _, ⟨T44, L44, c44, n44⟩, -, X44, ⟨Lc44, hQ44, l44, y44, z44⟩, st44⟩ := Jvm.LawKit.callS X39 hx (y := (⟨"com/example/myriad_paths/myriadpaths/Utf8TextEncodePinLaw", "u", "([BI)I"⟩ : MethodName)) hown (mvT hZ (hw _ (List.mem_of_getElem? (i := 12) rfl))) (mvT hZ (hw _ (List.mem_of_getElem? (i := 13) rfl))) (mvT hZ (hw _ (List.mem_of_getElem? (i := 10) rfl))) (mvT hZ (hw _ (List.mem_of_getElem? (i := 14) rfl))) (by decide) (backOf (W := 0) (rm3 l Z a0 hw [] b4 (ax + (2 : Int32)) (own_enc (fun _ => fl) cp ax) T13.heap V_b4 (own_ix ax _ hax1 (by decide))) hZ (hw _ (List.mem_of_getElem? (i := 14) rfl)) (hw _ (List.mem_of_getElem? (i := 10) rfl)) (by decide) (by decide)) (g := (mkF m 384 #[.val (.int i0), .val (.int i1), .val (.int i2), .val (.int cp), .val (.int ax), .val (.int fl), .val (.ref b4), .val (.int (ax + (own_n cp))), .val (.int nn), .val (.int (1 : Int32)), .val (.int b0), .val (.int b1), .unset, .unset] [(.int (ax + (2 : Int32))), (.ref b4)])) rfl (by rw [hml]; rfl) (argsL := [(.ref b4), (.int (ax + (2 : Int32)))]) (rest := []) (lenOf pd_2 rfl) rfl (by show 2 * 0 + _ ≤ _; exact Nat.le_of_eq rfl) (hb hby at_384) (fun _ _ => ⟨rfl, e39, (by decide : 1 + 0 ≤ _), (by decide : 8 + 0 ≤ _)⟩)
      dsimp only [Pt.U, Pt.locs, Pt.cells, Pt.slots] at X44 l44 y44 z44 st44 hQ44
      subst l44 y44 z44
      obtain ⟨rfl, rfl, e44⟩ := hQ44
      have NF := Fr.app NF (Fr.nil n0)
      refine own_by (B := T44.setTop (mkF m 387 #[.val (.int i0), .val (.int i1), .val (.int i2), .val (.int cp), .val (.int ax), .val (.int fl), .val (.ref b4), .val (.int (ax + (own_n cp))), .val (.int nn), .val (.int (1 : Int32)), .val (.int b0), .val (.int b1), .unset, .unset] [(.int (f3_0 (own_enc (fun _ => fl) cp ax) (ax + (2 : Int32))))])) (fun t k => st44 _ k) ?_
      refine own_by (B := T44.setTop (mkF m 389 #[.val (.int i0), .val (.int i1), .val (.int i2), .val (.int cp), .val (.int ax), .val (.int fl), .val (.ref b4), .val (.int (ax + (own_n cp))), .val (.int nn), .val (.int (1 : Int32)), .val (.int b0), .val (.int b1), .val (.int (f3_0 (own_enc (fun _ => fl) cp ax) (ax + (2 : Int32)))), .unset] [])) (fun t k => XS.istore X44.here hx rfl (hb hby at_387) rfl (l' := #[.val (.int i0), .val (.int i1), .val (.int i2), .val (.int cp), .val (.int ax), .val (.int fl), .val (.ref b4), .val (.int (ax + (own_n cp))), .val (.int nn), .val (.int (1 : Int32)), .val (.int b0), .val (.int b1), .val (.int (f3_0 (own_enc (fun _ => fl) cp ax) (ax + (2 : Int32)))), .unset]) rfl k) ?_
      obtain ⟨b2, hb2⟩ : ∃ z : Int32, z = (f3_0 (own_enc (fun _ => fl) cp ax) (ax + (2 : Int32))) := ⟨_, rfl⟩
      rw [← hb2]
      refine own_by (B := T44.setTop (mkF m 391 #[.val (.int i0), .val (.int i1), .val (.int i2), .val (.int cp), .val (.int ax), .val (.int fl), .val (.ref b4), .val (.int (ax + (own_n cp))), .val (.int nn), .val (.int (1 : Int32)), .val (.int b0), .val (.int b1), .val (.int b2), .unset] [(.int b2)])) (fun t k => XS.iload X44.here hx rfl (hb hby at_389) rfl k) ?_
      refine own_by (B := T44.setTop (mkF m 394 #[.val (.int i0), .val (.int i1), .val (.int i2), .val (.int cp), .val (.int ax), .val (.int fl), .val (.ref b4), .val (.int (ax + (own_n cp))), .val (.int nn), .val (.int (1 : Int32)), .val (.int b0), .val (.int b1), .val (.int b2), .unset] [(.int (192 : Int32)), (.int b2)])) (fun t k => XS.sipush X44.here hx rfl (hb hby at_391) k) ?_
      refine own_by (B := T44.setTop (mkF m 395 #[.val (.int i0), .val (.int i1), .val (.int i2), .val (.int cp), .val (.int ax), .val (.int fl), .val (.ref b4), .val (.int (ax + (own_n cp))), .val (.int nn), .val (.int (1 : Int32)), .val (.int b0), .val (.int b1), .val (.int b2), .unset] [(.int (b2 &&& (192 : Int32)))])) (fun t k => XS.iand X44.here hx rfl (hb hby at_394) rfl k) ?_
      refine own_by (B := T44.setTop (mkF m 398 #[.val (.int i0), .val (.int i1), .val (.int i2), .val (.int cp), .val (.int ax), .val (.int fl), .val (.ref b4), .val (.int (ax + (own_n cp))), .val (.int nn), .val (.int (1 : Int32)), .val (.int b0), .val (.int b1), .val (.int b2), .unset] [(.int (128 : Int32)), (.int (b2 &&& (192 : Int32)))])) (fun t k => XS.sipush X44.here hx rfl (hb hby at_395) k) ?_
      have hc45 : (b2 &&& (192 : Int32)) = (128 : Int32) := own_c2 fl cp ax nn b2 hcp1 hax1 hnn hb2 hc37 hc41
      refine own_by (B := T44.setTop (mkF m 403 #[.val (.int i0), .val (.int i1), .val (.int i2), .val (.int cp), .val (.int ax), .val (.int fl), .val (.ref b4), .val (.int (ax + (own_n cp))), .val (.int nn), .val (.int (1 : Int32)), .val (.int b0), .val (.int b1), .val (.int b2), .unset] [])) (fun t k => XS.icmpYes X44.here hx rfl (pc0 := 398) (pc' := 403) rfl (hb hby at_398) rfl (teq hc45).1 (by decide) (by decide) k) ?_
      refine own_by (B := T44.setTop (mkF m 405 #[.val (.int i0), .val (.int i1), .val (.int i2), .val (.int cp), .val (.int ax), .val (.int fl), .val (.ref b4), .val (.int (ax + (own_n cp))), .val (.int nn), .val (.int (1 : Int32)), .val (.int b0), .val (.int b1), .val (.int b2), .unset] [(.int nn)])) (fun t k => XS.iload X44.here hx rfl (hb hby at_403) rfl k) ?_
      refine own_by (B := T44.setTop (mkF m 406 #[.val (.int i0), .val (.int i1), .val (.int i2), .val (.int cp), .val (.int ax), .val (.int fl), .val (.ref b4), .val (.int (ax + (own_n cp))), .val (.int nn), .val (.int (1 : Int32)), .val (.int b0), .val (.int b1), .val (.int b2), .unset] [(.int (3 : Int32)), (.int nn)])) (fun t k => XS.iconst X44.here hx rfl (hb hby at_405) k) ?_
      by_cases hc46 : nn = (3 : Int32)
      ·
        refine own_by (B := T44.setTop (mkF m 409 #[.val (.int i0), .val (.int i1), .val (.int i2), .val (.int cp), .val (.int ax), .val (.int fl), .val (.ref b4), .val (.int (ax + (own_n cp))), .val (.int nn), .val (.int (1 : Int32)), .val (.int b0), .val (.int b1), .val (.int b2), .unset] [])) (fun t k => XS.icmpNo X44.here hx rfl (hb hby at_406) rfl (teq hc46).2 k) ?_
        refine own_by (B := T44.setTop (mkF m 411 #[.val (.int i0), .val (.int i1), .val (.int i2), .val (.int cp), .val (.int ax), .val (.int fl), .val (.ref b4), .val (.int (ax + (own_n cp))), .val (.int nn), .val (.int (1 : Int32)), .val (.int b0), .val (.int b1), .val (.int b2), .unset] [(.int b0)])) (fun t k => XS.iload X44.here hx rfl (hb hby at_409) rfl k) ?_
        refine own_by (B := T44.setTop (mkF m 414 #[.val (.int i0), .val (.int i1), .val (.int i2), .val (.int cp), .val (.int ax), .val (.int fl), .val (.ref b4), .val (.int (ax + (own_n cp))), .val (.int nn), .val (.int (1 : Int32)), .val (.int b0), .val (.int b1), .val (.int b2), .unset] [(.int (240 : Int32)), (.int b0)])) (fun t k => XS.sipush X44.here hx rfl (hb hby at_411) k) ?_
        refine own_by (B := T44.setTop (mkF m 415 #[.val (.int i0), .val (.int i1), .val (.int i2), .val (.int cp), .val (.int ax), .val (.int fl), .val (.ref b4), .val (.int (ax + (own_n cp))), .val (.int nn), .val (.int (1 : Int32)), .val (.int b0), .val (.int b1), .val (.int b2), .unset] [(.int (b0 &&& (240 : Int32)))])) (fun t k => XS.iand X44.here hx rfl (hb hby at_414) rfl k) ?_
        refine own_by (B := T44.setTop (mkF m 418 #[.val (.int i0), .val (.int i1), .val (.int i2), .val (.int cp), .val (.int ax), .val (.int fl), .val (.ref b4), .val (.int (ax + (own_n cp))), .val (.int nn), .val (.int (1 : Int32)), .val (.int b0), .val (.int b1), .val (.int b2), .unset] [(.int (224 : Int32)), (.int (b0 &&& (240 : Int32)))])) (fun t k => XS.sipush X44.here hx rfl (hb hby at_415) k) ?_
        have hc47 : (b0 &&& (240 : Int32)) = (224 : Int32) := (own_b3 fl cp ax nn b0 b1 b2 hcp1 hax1 hnn hb0 hb1 hb2 hc46).1
        refine own_by (B := T44.setTop (mkF m 421 #[.val (.int i0), .val (.int i1), .val (.int i2), .val (.int cp), .val (.int ax), .val (.int fl), .val (.ref b4), .val (.int (ax + (own_n cp))), .val (.int nn), .val (.int (1 : Int32)), .val (.int b0), .val (.int b1), .val (.int b2), .unset] [])) (fun t k => XS.icmpNo X44.here hx rfl (hb hby at_418) rfl (teq hc47).2 k) ?_
        refine own_by (B := T44.setTop (mkF m 423 #[.val (.int i0), .val (.int i1), .val (.int i2), .val (.int cp), .val (.int ax), .val (.int fl), .val (.ref b4), .val (.int (ax + (own_n cp))), .val (.int nn), .val (.int (1 : Int32)), .val (.int b0), .val (.int b1), .val (.int b2), .unset] [(.int b0)])) (fun t k => XS.iload X44.here hx rfl (hb hby at_421) rfl k) ?_
        refine own_by (B := T44.setTop (mkF m 425 #[.val (.int i0), .val (.int i1), .val (.int i2), .val (.int cp), .val (.int ax), .val (.int fl), .val (.ref b4), .val (.int (ax + (own_n cp))), .val (.int nn), .val (.int (1 : Int32)), .val (.int b0), .val (.int b1), .val (.int b2), .unset] [(.int (15 : Int32)), (.int b0)])) (fun t k => XS.bipush X44.here hx rfl (hb hby at_423) k) ?_
        refine own_by (B := T44.setTop (mkF m 426 #[.val (.int i0), .val (.int i1), .val (.int i2), .val (.int cp), .val (.int ax), .val (.int fl), .val (.ref b4), .val (.int (ax + (own_n cp))), .val (.int nn), .val (.int (1 : Int32)), .val (.int b0), .val (.int b1), .val (.int b2), .unset] [(.int (b0 &&& (15 : Int32)))])) (fun t k => XS.iand X44.here hx rfl (hb hby at_425) rfl k) ?_
        refine own_by (B := T44.setTop (mkF m 429 #[.val (.int i0), .val (.int i1), .val (.int i2), .val (.int cp), .val (.int ax), .val (.int fl), .val (.ref b4), .val (.int (ax + (own_n cp))), .val (.int nn), .val (.int (1 : Int32)), .val (.int b0), .val (.int b1), .val (.int b2), .unset] [(.int (4096 : Int32)), (.int (b0 &&& (15 : Int32)))])) (fun t k => XS.sipush X44.here hx rfl (hb hby at_426) k) ?_
        refine own_by (B := T44.setTop (mkF m 430 #[.val (.int i0), .val (.int i1), .val (.int i2), .val (.int cp), .val (.int ax), .val (.int fl), .val (.ref b4), .val (.int (ax + (own_n cp))), .val (.int nn), .val (.int (1 : Int32)), .val (.int b0), .val (.int b1), .val (.int b2), .unset] [(.int ((b0 &&& (15 : Int32)) * (4096 : Int32)))])) (fun t k => XS.imul X44.here hx rfl (hb hby at_429) rfl k) ?_
        refine own_by (B := T44.setTop (mkF m 432 #[.val (.int i0), .val (.int i1), .val (.int i2), .val (.int cp), .val (.int ax), .val (.int fl), .val (.ref b4), .val (.int (ax + (own_n cp))), .val (.int nn), .val (.int (1 : Int32)), .val (.int b0), .val (.int b1), .val (.int b2), .unset] [(.int b1), (.int ((b0 &&& (15 : Int32)) * (4096 : Int32)))])) (fun t k => XS.iload X44.here hx rfl (hb hby at_430) rfl k) ?_
        refine own_by (B := T44.setTop (mkF m 434 #[.val (.int i0), .val (.int i1), .val (.int i2), .val (.int cp), .val (.int ax), .val (.int fl), .val (.ref b4), .val (.int (ax + (own_n cp))), .val (.int nn), .val (.int (1 : Int32)), .val (.int b0), .val (.int b1), .val (.int b2), .unset] [(.int (63 : Int32)), (.int b1), (.int ((b0 &&& (15 : Int32)) * (4096 : Int32)))])) (fun t k => XS.bipush X44.here hx rfl (hb hby at_432) k) ?_
        refine own_by (B := T44.setTop (mkF m 435 #[.val (.int i0), .val (.int i1), .val (.int i2), .val (.int cp), .val (.int ax), .val (.int fl), .val (.ref b4), .val (.int (ax + (own_n cp))), .val (.int nn), .val (.int (1 : Int32)), .val (.int b0), .val (.int b1), .val (.int b2), .unset] [(.int (b1 &&& (63 : Int32))), (.int ((b0 &&& (15 : Int32)) * (4096 : Int32)))])) (fun t k => XS.iand X44.here hx rfl (hb hby at_434) rfl k) ?_
        refine own_by (B := T44.setTop (mkF m 437 #[.val (.int i0), .val (.int i1), .val (.int i2), .val (.int cp), .val (.int ax), .val (.int fl), .val (.ref b4), .val (.int (ax + (own_n cp))), .val (.int nn), .val (.int (1 : Int32)), .val (.int b0), .val (.int b1), .val (.int b2), .unset] [(.int (64 : Int32)), (.int (b1 &&& (63 : Int32))), (.int ((b0 &&& (15 : Int32)) * (4096 : Int32)))])) (fun t k => XS.bipush X44.here hx rfl (hb hby at_435) k) ?_
        refine own_by (B := T44.setTop (mkF m 438 #[.val (.int i0), .val (.int i1), .val (.int i2), .val (.int cp), .val (.int ax), .val (.int fl), .val (.ref b4), .val (.int (ax + (own_n cp))), .val (.int nn), .val (.int (1 : Int32)), .val (.int b0), .val (.int b1), .val (.int b2), .unset] [(.int ((b1 &&& (63 : Int32)) * (64 : Int32))), (.int ((b0 &&& (15 : Int32)) * (4096 : Int32)))])) (fun t k => XS.imul X44.here hx rfl (hb hby at_437) rfl k) ?_
        refine own_by (B := T44.setTop (mkF m 439 #[.val (.int i0), .val (.int i1), .val (.int i2), .val (.int cp), .val (.int ax), .val (.int fl), .val (.ref b4), .val (.int (ax + (own_n cp))), .val (.int nn), .val (.int (1 : Int32)), .val (.int b0), .val (.int b1), .val (.int b2), .unset] [(.int (((b0 &&& (15 : Int32)) * (4096 : Int32)) + ((b1 &&& (63 : Int32)) * (64 : Int32))))])) (fun t k => XS.iadd X44.here hx rfl (hb hby at_438) rfl k) ?_
        refine own_by (B := T44.setTop (mkF m 441 #[.val (.int i0), .val (.int i1), .val (.int i2), .val (.int cp), .val (.int ax), .val (.int fl), .val (.ref b4), .val (.int (ax + (own_n cp))), .val (.int nn), .val (.int (1 : Int32)), .val (.int b0), .val (.int b1), .val (.int b2), .unset] [(.int b2), (.int (((b0 &&& (15 : Int32)) * (4096 : Int32)) + ((b1 &&& (63 : Int32)) * (64 : Int32))))])) (fun t k => XS.iload X44.here hx rfl (hb hby at_439) rfl k) ?_
        refine own_by (B := T44.setTop (mkF m 443 #[.val (.int i0), .val (.int i1), .val (.int i2), .val (.int cp), .val (.int ax), .val (.int fl), .val (.ref b4), .val (.int (ax + (own_n cp))), .val (.int nn), .val (.int (1 : Int32)), .val (.int b0), .val (.int b1), .val (.int b2), .unset] [(.int (63 : Int32)), (.int b2), (.int (((b0 &&& (15 : Int32)) * (4096 : Int32)) + ((b1 &&& (63 : Int32)) * (64 : Int32))))])) (fun t k => XS.bipush X44.here hx rfl (hb hby at_441) k) ?_
        refine own_by (B := T44.setTop (mkF m 444 #[.val (.int i0), .val (.int i1), .val (.int i2), .val (.int cp), .val (.int ax), .val (.int fl), .val (.ref b4), .val (.int (ax + (own_n cp))), .val (.int nn), .val (.int (1 : Int32)), .val (.int b0), .val (.int b1), .val (.int b2), .unset] [(.int (b2 &&& (63 : Int32))), (.int (((b0 &&& (15 : Int32)) * (4096 : Int32)) + ((b1 &&& (63 : Int32)) * (64 : Int32))))])) (fun t k => XS.iand X44.here hx rfl (hb hby at_443) rfl k) ?_
        refine own_by (B := T44.setTop (mkF m 445 #[.val (.int i0), .val (.int i1), .val (.int i2), .val (.int cp), .val (.int ax), .val (.int fl), .val (.ref b4), .val (.int (ax + (own_n cp))), .val (.int nn), .val (.int (1 : Int32)), .val (.int b0), .val (.int b1), .val (.int b2), .unset] [(.int ((((b0 &&& (15 : Int32)) * (4096 : Int32)) + ((b1 &&& (63 : Int32)) * (64 : Int32))) + (b2 &&& (63 : Int32))))])) (fun t k => XS.iadd X44.here hx rfl (hb hby at_444) rfl k) ?_
        refine own_by (B := T44.setTop (mkF m 446 #[.val (.int i0), .val (.int i1), .val (.int i2), .val (.int cp), .val (.int ax), .val (.int fl), .val (.ref b4), .val (.int (ax + (own_n cp))), .val (.int nn), .val (.int (1 : Int32)), .val (.int b0), .val (.int b1), .val (.int b2), .unset] [(.int cp), (.int ((((b0 &&& (15 : Int32)) * (4096 : Int32)) + ((b1 &&& (63 : Int32)) * (64 : Int32))) + (b2 &&& (63 : Int32))))])) (fun t k => XS.iloadN X44.here hx rfl (hb hby at_445) rfl k) ?_
        have hc48 : ((((b0 &&& (15 : Int32)) * (4096 : Int32)) + ((b1 &&& (63 : Int32)) * (64 : Int32))) + (b2 &&& (63 : Int32))) = cp := (own_b3 fl cp ax nn b0 b1 b2 hcp1 hax1 hnn hb0 hb1 hb2 hc46).2
        refine own_by (B := T44.setTop (mkF m 449 #[.val (.int i0), .val (.int i1), .val (.int i2), .val (.int cp), .val (.int ax), .val (.int fl), .val (.ref b4), .val (.int (ax + (own_n cp))), .val (.int nn), .val (.int (1 : Int32)), .val (.int b0), .val (.int b1), .val (.int b2), .unset] [])) (fun t k => XS.icmpNo X44.here hx rfl (hb hby at_446) rfl (teq hc48).2 k) ?_
        refine own_by (B := T44.setTop (mkF m 450 #[.val (.int i0), .val (.int i1), .val (.int i2), .val (.int cp), .val (.int ax), .val (.int fl), .val (.ref b4), .val (.int (ax + (own_n cp))), .val (.int nn), .val (.int (1 : Int32)), .val (.int b0), .val (.int b1), .val (.int b2), .unset] [(.int (1 : Int32))])) (fun t k => XS.iconst X44.here hx rfl (hb hby at_449) k) ?_
        refine own_by (B := T44.setTop (mkF m 454 #[.val (.int i0), .val (.int i1), .val (.int i2), .val (.int cp), .val (.int ax), .val (.int fl), .val (.ref b4), .val (.int (ax + (own_n cp))), .val (.int nn), .val (.int (1 : Int32)), .val (.int b0), .val (.int b1), .val (.int b2), .unset] [(.int (1 : Int32))])) (fun t k => XS.goto X44.here hx rfl (pc0 := 450) (pc' := 454) rfl (hb hby at_450) (by decide) (by decide) k) ?_
        exact own_retN (t := .boolean) (by simp) X44 hx hlk hret (z' := (1 : Int32)) (by decide) (hb hby at_454) ⟨rfl, NF⟩ (by decide) (by decide)
      ·
        refine own_by (B := T44.setTop (mkF m 455 #[.val (.int i0), .val (.int i1), .val (.int i2), .val (.int cp), .val (.int ax), .val (.int fl), .val (.ref b4), .val (.int (ax + (own_n cp))), .val (.int nn), .val (.int (1 : Int32)), .val (.int b0), .val (.int b1), .val (.int b2), .unset] [])) (fun t k => XS.icmpYes X44.here hx rfl (pc0 := 406) (pc' := 455) rfl (hb hby at_406) rfl (feq hc46).2 (by decide) (by decide) k) ?_
        refine own_by (B := T44.setTop (mkF m 457 #[.val (.int i0), .val (.int i1), .val (.int i2), .val (.int cp), .val (.int ax), .val (.int fl), .val (.ref b4), .val (.int (ax + (own_n cp))), .val (.int nn), .val (.int (1 : Int32)), .val (.int b0), .val (.int b1), .val (.int b2), .unset] [(.ref b4)])) (fun t k => XS.aload X44.here hx rfl (hb hby at_455) rfl rfl k) ?_
        refine own_by (B := T44.setTop (mkF m 459 #[.val (.int i0), .val (.int i1), .val (.int i2), .val (.int cp), .val (.int ax), .val (.int fl), .val (.ref b4), .val (.int (ax + (own_n cp))), .val (.int nn), .val (.int (1 : Int32)), .val (.int b0), .val (.int b1), .val (.int b2), .unset] [(.int ax), (.ref b4)])) (fun t k => XS.iload X44.here hx rfl (hb hby at_457) rfl k) ?_
        refine own_by (B := T44.setTop (mkF m 460 #[.val (.int i0), .val (.int i1), .val (.int i2), .val (.int cp), .val (.int ax), .val (.int fl), .val (.ref b4), .val (.int (ax + (own_n cp))), .val (.int nn), .val (.int (1 : Int32)), .val (.int b0), .val (.int b1), .val (.int b2), .unset] [(.int (3 : Int32)), (.int ax), (.ref b4)])) (fun t k => XS.iconst X44.here hx rfl (hb hby at_459) k) ?_
        refine own_by (B := T44.setTop (mkF m 461 #[.val (.int i0), .val (.int i1), .val (.int i2), .val (.int cp), .val (.int ax), .val (.int fl), .val (.ref b4), .val (.int (ax + (own_n cp))), .val (.int nn), .val (.int (1 : Int32)), .val (.int b0), .val (.int b1), .val (.int b2), .unset] [(.int (ax + (3 : Int32))), (.ref b4)])) (fun t k => XS.iadd X44.here hx rfl (hb hby at_460) rfl k) ?_
        obtain ⟨v49, _, ⟨T49, L49, c49, n49⟩, -, X49, ⟨Lc49, hQ49, l49, y49, z49⟩, st49⟩ := Jvm.LawKit.callS X44 hx (y := (⟨"com/example/myriad_paths/myriadpaths/Utf8TextEncodePinLaw", "u", "([BI)I"⟩ : MethodName)) hown (mvT hZ (hw _ (List.mem_of_getElem? (i := 12) rfl))) (mvT hZ (hw _ (List.mem_of_getElem? (i := 13) rfl))) (mvT hZ (hw _ (List.mem_of_getElem? (i := 10) rfl))) (mvT hZ (hw _ (List.mem_of_getElem? (i := 14) rfl))) (by decide) (backOf (W := 0) (rm3 l Z a0 hw [] b4 (ax + (3 : Int32)) (own_enc (fun _ => fl) cp ax) T13.heap V_b4 (own_ix ax _ hax1 (by decide))) hZ (hw _ (List.mem_of_getElem? (i := 14) rfl)) (hw _ (List.mem_of_getElem? (i := 10) rfl)) (by decide) (by decide)) (g := (mkF m 461 #[.val (.int i0), .val (.int i1), .val (.int i2), .val (.int cp), .val (.int ax), .val (.int fl), .val (.ref b4), .val (.int (ax + (own_n cp))), .val (.int nn), .val (.int (1 : Int32)), .val (.int b0), .val (.int b1), .val (.int b2), .unset] [(.int (ax + (3 : Int32))), (.ref b4)])) rfl (by rw [hml]; rfl) (argsL := [(.ref b4), (.int (ax + (3 : Int32)))]) (rest := []) (lenOf pd_2 rfl) rfl (by show 2 * 0 + _ ≤ _; exact Nat.le_of_eq rfl) (hb hby at_461) (fun _ _ => ⟨rfl, e44, (by decide : 1 + 0 ≤ _), (by decide : 8 + 0 ≤ _)⟩)
        dsimp only [Pt.U, Pt.locs, Pt.cells, Pt.slots] at X49 l49 y49 z49 st49 hQ49
        subst l49 y49 z49
        obtain ⟨rfl, rfl, e49⟩ := hQ49
        have NF := Fr.app NF (Fr.nil n0)
        refine own_by (B := T49.setTop (mkF m 464 #[.val (.int i0), .val (.int i1), .val (.int i2), .val (.int cp), .val (.int ax), .val (.int fl), .val (.ref b4), .val (.int (ax + (own_n cp))), .val (.int nn), .val (.int (1 : Int32)), .val (.int b0), .val (.int b1), .val (.int b2), .unset] [(.int (f3_0 (own_enc (fun _ => fl) cp ax) (ax + (3 : Int32))))])) (fun t k => st49 _ k) ?_
        refine own_by (B := T49.setTop (mkF m 466 #[.val (.int i0), .val (.int i1), .val (.int i2), .val (.int cp), .val (.int ax), .val (.int fl), .val (.ref b4), .val (.int (ax + (own_n cp))), .val (.int nn), .val (.int (1 : Int32)), .val (.int b0), .val (.int b1), .val (.int b2), .val (.int (f3_0 (own_enc (fun _ => fl) cp ax) (ax + (3 : Int32))))] [])) (fun t k => XS.istore X49.here hx rfl (hb hby at_464) rfl (l' := #[.val (.int i0), .val (.int i1), .val (.int i2), .val (.int cp), .val (.int ax), .val (.int fl), .val (.ref b4), .val (.int (ax + (own_n cp))), .val (.int nn), .val (.int (1 : Int32)), .val (.int b0), .val (.int b1), .val (.int b2), .val (.int (f3_0 (own_enc (fun _ => fl) cp ax) (ax + (3 : Int32))))]) rfl k) ?_
        obtain ⟨b3, hb3⟩ : ∃ z : Int32, z = (f3_0 (own_enc (fun _ => fl) cp ax) (ax + (3 : Int32))) := ⟨_, rfl⟩
        rw [← hb3]
        refine own_by (B := T49.setTop (mkF m 468 #[.val (.int i0), .val (.int i1), .val (.int i2), .val (.int cp), .val (.int ax), .val (.int fl), .val (.ref b4), .val (.int (ax + (own_n cp))), .val (.int nn), .val (.int (1 : Int32)), .val (.int b0), .val (.int b1), .val (.int b2), .val (.int b3)] [(.int b3)])) (fun t k => XS.iload X49.here hx rfl (hb hby at_466) rfl k) ?_
        refine own_by (B := T49.setTop (mkF m 471 #[.val (.int i0), .val (.int i1), .val (.int i2), .val (.int cp), .val (.int ax), .val (.int fl), .val (.ref b4), .val (.int (ax + (own_n cp))), .val (.int nn), .val (.int (1 : Int32)), .val (.int b0), .val (.int b1), .val (.int b2), .val (.int b3)] [(.int (192 : Int32)), (.int b3)])) (fun t k => XS.sipush X49.here hx rfl (hb hby at_468) k) ?_
        refine own_by (B := T49.setTop (mkF m 472 #[.val (.int i0), .val (.int i1), .val (.int i2), .val (.int cp), .val (.int ax), .val (.int fl), .val (.ref b4), .val (.int (ax + (own_n cp))), .val (.int nn), .val (.int (1 : Int32)), .val (.int b0), .val (.int b1), .val (.int b2), .val (.int b3)] [(.int (b3 &&& (192 : Int32)))])) (fun t k => XS.iand X49.here hx rfl (hb hby at_471) rfl k) ?_
        refine own_by (B := T49.setTop (mkF m 475 #[.val (.int i0), .val (.int i1), .val (.int i2), .val (.int cp), .val (.int ax), .val (.int fl), .val (.ref b4), .val (.int (ax + (own_n cp))), .val (.int nn), .val (.int (1 : Int32)), .val (.int b0), .val (.int b1), .val (.int b2), .val (.int b3)] [(.int (128 : Int32)), (.int (b3 &&& (192 : Int32)))])) (fun t k => XS.sipush X49.here hx rfl (hb hby at_472) k) ?_
        have hc50 : (b3 &&& (192 : Int32)) = (128 : Int32) := own_c3 fl cp ax nn b3 hcp1 hax1 hnn hb3 hc37 hc41 hc46
        refine own_by (B := T49.setTop (mkF m 480 #[.val (.int i0), .val (.int i1), .val (.int i2), .val (.int cp), .val (.int ax), .val (.int fl), .val (.ref b4), .val (.int (ax + (own_n cp))), .val (.int nn), .val (.int (1 : Int32)), .val (.int b0), .val (.int b1), .val (.int b2), .val (.int b3)] [])) (fun t k => XS.icmpYes X49.here hx rfl (pc0 := 475) (pc' := 480) rfl (hb hby at_475) rfl (teq hc50).1 (by decide) (by decide) k) ?_
        refine own_by (B := T49.setTop (mkF m 482 #[.val (.int i0), .val (.int i1), .val (.int i2), .val (.int cp), .val (.int ax), .val (.int fl), .val (.ref b4), .val (.int (ax + (own_n cp))), .val (.int nn), .val (.int (1 : Int32)), .val (.int b0), .val (.int b1), .val (.int b2), .val (.int b3)] [(.int b0)])) (fun t k => XS.iload X49.here hx rfl (hb hby at_480) rfl k) ?_
        refine own_by (B := T49.setTop (mkF m 485 #[.val (.int i0), .val (.int i1), .val (.int i2), .val (.int cp), .val (.int ax), .val (.int fl), .val (.ref b4), .val (.int (ax + (own_n cp))), .val (.int nn), .val (.int (1 : Int32)), .val (.int b0), .val (.int b1), .val (.int b2), .val (.int b3)] [(.int (248 : Int32)), (.int b0)])) (fun t k => XS.sipush X49.here hx rfl (hb hby at_482) k) ?_
        refine own_by (B := T49.setTop (mkF m 486 #[.val (.int i0), .val (.int i1), .val (.int i2), .val (.int cp), .val (.int ax), .val (.int fl), .val (.ref b4), .val (.int (ax + (own_n cp))), .val (.int nn), .val (.int (1 : Int32)), .val (.int b0), .val (.int b1), .val (.int b2), .val (.int b3)] [(.int (b0 &&& (248 : Int32)))])) (fun t k => XS.iand X49.here hx rfl (hb hby at_485) rfl k) ?_
        refine own_by (B := T49.setTop (mkF m 489 #[.val (.int i0), .val (.int i1), .val (.int i2), .val (.int cp), .val (.int ax), .val (.int fl), .val (.ref b4), .val (.int (ax + (own_n cp))), .val (.int nn), .val (.int (1 : Int32)), .val (.int b0), .val (.int b1), .val (.int b2), .val (.int b3)] [(.int (240 : Int32)), (.int (b0 &&& (248 : Int32)))])) (fun t k => XS.sipush X49.here hx rfl (hb hby at_486) k) ?_
        have hc51 : (b0 &&& (248 : Int32)) = (240 : Int32) := (own_b4 fl cp ax nn b0 b1 b2 b3 hcp1 hax1 hnn hb0 hb1 hb2 hb3 hc37 hc41 hc46).1
        refine own_by (B := T49.setTop (mkF m 492 #[.val (.int i0), .val (.int i1), .val (.int i2), .val (.int cp), .val (.int ax), .val (.int fl), .val (.ref b4), .val (.int (ax + (own_n cp))), .val (.int nn), .val (.int (1 : Int32)), .val (.int b0), .val (.int b1), .val (.int b2), .val (.int b3)] [])) (fun t k => XS.icmpNo X49.here hx rfl (hb hby at_489) rfl (teq hc51).2 k) ?_
        refine own_by (B := T49.setTop (mkF m 494 #[.val (.int i0), .val (.int i1), .val (.int i2), .val (.int cp), .val (.int ax), .val (.int fl), .val (.ref b4), .val (.int (ax + (own_n cp))), .val (.int nn), .val (.int (1 : Int32)), .val (.int b0), .val (.int b1), .val (.int b2), .val (.int b3)] [(.int b0)])) (fun t k => XS.iload X49.here hx rfl (hb hby at_492) rfl k) ?_
        refine own_by (B := T49.setTop (mkF m 496 #[.val (.int i0), .val (.int i1), .val (.int i2), .val (.int cp), .val (.int ax), .val (.int fl), .val (.ref b4), .val (.int (ax + (own_n cp))), .val (.int nn), .val (.int (1 : Int32)), .val (.int b0), .val (.int b1), .val (.int b2), .val (.int b3)] [(.int (7 : Int32)), (.int b0)])) (fun t k => XS.bipush X49.here hx rfl (hb hby at_494) k) ?_
        refine own_by (B := T49.setTop (mkF m 497 #[.val (.int i0), .val (.int i1), .val (.int i2), .val (.int cp), .val (.int ax), .val (.int fl), .val (.ref b4), .val (.int (ax + (own_n cp))), .val (.int nn), .val (.int (1 : Int32)), .val (.int b0), .val (.int b1), .val (.int b2), .val (.int b3)] [(.int (b0 &&& (7 : Int32)))])) (fun t k => XS.iand X49.here hx rfl (hb hby at_496) rfl k) ?_
        refine own_by (B := T49.setTop (mkF m 499 #[.val (.int i0), .val (.int i1), .val (.int i2), .val (.int cp), .val (.int ax), .val (.int fl), .val (.ref b4), .val (.int (ax + (own_n cp))), .val (.int nn), .val (.int (1 : Int32)), .val (.int b0), .val (.int b1), .val (.int b2), .val (.int b3)] [(.int (262144 : Int32)), (.int (b0 &&& (7 : Int32)))])) (fun t k => X49.ldcInt hx hown (mvT hZ (hw _ (List.mem_of_getElem? (i := 18) rfl))) (g := (mkF m 497 #[.val (.int i0), .val (.int i1), .val (.int i2), .val (.int cp), .val (.int ax), .val (.int fl), .val (.ref b4), .val (.int (ax + (own_n cp))), .val (.int nn), .val (.int (1 : Int32)), .val (.int b0), .val (.int b1), .val (.int b2), .val (.int b3)] [(.int (b0 &&& (7 : Int32)))])) rfl (hb hby at_497) _ k) ?_
        refine own_by (B := T49.setTop (mkF m 500 #[.val (.int i0), .val (.int i1), .val (.int i2), .val (.int cp), .val (.int ax), .val (.int fl), .val (.ref b4), .val (.int (ax + (own_n cp))), .val (.int nn), .val (.int (1 : Int32)), .val (.int b0), .val (.int b1), .val (.int b2), .val (.int b3)] [(.int ((b0 &&& (7 : Int32)) * (262144 : Int32)))])) (fun t k => XS.imul X49.here hx rfl (hb hby at_499) rfl k) ?_
        refine own_by (B := T49.setTop (mkF m 502 #[.val (.int i0), .val (.int i1), .val (.int i2), .val (.int cp), .val (.int ax), .val (.int fl), .val (.ref b4), .val (.int (ax + (own_n cp))), .val (.int nn), .val (.int (1 : Int32)), .val (.int b0), .val (.int b1), .val (.int b2), .val (.int b3)] [(.int b1), (.int ((b0 &&& (7 : Int32)) * (262144 : Int32)))])) (fun t k => XS.iload X49.here hx rfl (hb hby at_500) rfl k) ?_
        refine own_by (B := T49.setTop (mkF m 504 #[.val (.int i0), .val (.int i1), .val (.int i2), .val (.int cp), .val (.int ax), .val (.int fl), .val (.ref b4), .val (.int (ax + (own_n cp))), .val (.int nn), .val (.int (1 : Int32)), .val (.int b0), .val (.int b1), .val (.int b2), .val (.int b3)] [(.int (63 : Int32)), (.int b1), (.int ((b0 &&& (7 : Int32)) * (262144 : Int32)))])) (fun t k => XS.bipush X49.here hx rfl (hb hby at_502) k) ?_
        refine own_by (B := T49.setTop (mkF m 505 #[.val (.int i0), .val (.int i1), .val (.int i2), .val (.int cp), .val (.int ax), .val (.int fl), .val (.ref b4), .val (.int (ax + (own_n cp))), .val (.int nn), .val (.int (1 : Int32)), .val (.int b0), .val (.int b1), .val (.int b2), .val (.int b3)] [(.int (b1 &&& (63 : Int32))), (.int ((b0 &&& (7 : Int32)) * (262144 : Int32)))])) (fun t k => XS.iand X49.here hx rfl (hb hby at_504) rfl k) ?_
        refine own_by (B := T49.setTop (mkF m 508 #[.val (.int i0), .val (.int i1), .val (.int i2), .val (.int cp), .val (.int ax), .val (.int fl), .val (.ref b4), .val (.int (ax + (own_n cp))), .val (.int nn), .val (.int (1 : Int32)), .val (.int b0), .val (.int b1), .val (.int b2), .val (.int b3)] [(.int (4096 : Int32)), (.int (b1 &&& (63 : Int32))), (.int ((b0 &&& (7 : Int32)) * (262144 : Int32)))])) (fun t k => XS.sipush X49.here hx rfl (hb hby at_505) k) ?_
        refine own_by (B := T49.setTop (mkF m 509 #[.val (.int i0), .val (.int i1), .val (.int i2), .val (.int cp), .val (.int ax), .val (.int fl), .val (.ref b4), .val (.int (ax + (own_n cp))), .val (.int nn), .val (.int (1 : Int32)), .val (.int b0), .val (.int b1), .val (.int b2), .val (.int b3)] [(.int ((b1 &&& (63 : Int32)) * (4096 : Int32))), (.int ((b0 &&& (7 : Int32)) * (262144 : Int32)))])) (fun t k => XS.imul X49.here hx rfl (hb hby at_508) rfl k) ?_
        refine own_by (B := T49.setTop (mkF m 510 #[.val (.int i0), .val (.int i1), .val (.int i2), .val (.int cp), .val (.int ax), .val (.int fl), .val (.ref b4), .val (.int (ax + (own_n cp))), .val (.int nn), .val (.int (1 : Int32)), .val (.int b0), .val (.int b1), .val (.int b2), .val (.int b3)] [(.int (((b0 &&& (7 : Int32)) * (262144 : Int32)) + ((b1 &&& (63 : Int32)) * (4096 : Int32))))])) (fun t k => XS.iadd X49.here hx rfl (hb hby at_509) rfl k) ?_
        refine own_by (B := T49.setTop (mkF m 512 #[.val (.int i0), .val (.int i1), .val (.int i2), .val (.int cp), .val (.int ax), .val (.int fl), .val (.ref b4), .val (.int (ax + (own_n cp))), .val (.int nn), .val (.int (1 : Int32)), .val (.int b0), .val (.int b1), .val (.int b2), .val (.int b3)] [(.int b2), (.int (((b0 &&& (7 : Int32)) * (262144 : Int32)) + ((b1 &&& (63 : Int32)) * (4096 : Int32))))])) (fun t k => XS.iload X49.here hx rfl (hb hby at_510) rfl k) ?_
        refine own_by (B := T49.setTop (mkF m 514 #[.val (.int i0), .val (.int i1), .val (.int i2), .val (.int cp), .val (.int ax), .val (.int fl), .val (.ref b4), .val (.int (ax + (own_n cp))), .val (.int nn), .val (.int (1 : Int32)), .val (.int b0), .val (.int b1), .val (.int b2), .val (.int b3)] [(.int (63 : Int32)), (.int b2), (.int (((b0 &&& (7 : Int32)) * (262144 : Int32)) + ((b1 &&& (63 : Int32)) * (4096 : Int32))))])) (fun t k => XS.bipush X49.here hx rfl (hb hby at_512) k) ?_
        refine own_by (B := T49.setTop (mkF m 515 #[.val (.int i0), .val (.int i1), .val (.int i2), .val (.int cp), .val (.int ax), .val (.int fl), .val (.ref b4), .val (.int (ax + (own_n cp))), .val (.int nn), .val (.int (1 : Int32)), .val (.int b0), .val (.int b1), .val (.int b2), .val (.int b3)] [(.int (b2 &&& (63 : Int32))), (.int (((b0 &&& (7 : Int32)) * (262144 : Int32)) + ((b1 &&& (63 : Int32)) * (4096 : Int32))))])) (fun t k => XS.iand X49.here hx rfl (hb hby at_514) rfl k) ?_
        refine own_by (B := T49.setTop (mkF m 517 #[.val (.int i0), .val (.int i1), .val (.int i2), .val (.int cp), .val (.int ax), .val (.int fl), .val (.ref b4), .val (.int (ax + (own_n cp))), .val (.int nn), .val (.int (1 : Int32)), .val (.int b0), .val (.int b1), .val (.int b2), .val (.int b3)] [(.int (64 : Int32)), (.int (b2 &&& (63 : Int32))), (.int (((b0 &&& (7 : Int32)) * (262144 : Int32)) + ((b1 &&& (63 : Int32)) * (4096 : Int32))))])) (fun t k => XS.bipush X49.here hx rfl (hb hby at_515) k) ?_
        refine own_by (B := T49.setTop (mkF m 518 #[.val (.int i0), .val (.int i1), .val (.int i2), .val (.int cp), .val (.int ax), .val (.int fl), .val (.ref b4), .val (.int (ax + (own_n cp))), .val (.int nn), .val (.int (1 : Int32)), .val (.int b0), .val (.int b1), .val (.int b2), .val (.int b3)] [(.int ((b2 &&& (63 : Int32)) * (64 : Int32))), (.int (((b0 &&& (7 : Int32)) * (262144 : Int32)) + ((b1 &&& (63 : Int32)) * (4096 : Int32))))])) (fun t k => XS.imul X49.here hx rfl (hb hby at_517) rfl k) ?_
        refine own_by (B := T49.setTop (mkF m 519 #[.val (.int i0), .val (.int i1), .val (.int i2), .val (.int cp), .val (.int ax), .val (.int fl), .val (.ref b4), .val (.int (ax + (own_n cp))), .val (.int nn), .val (.int (1 : Int32)), .val (.int b0), .val (.int b1), .val (.int b2), .val (.int b3)] [(.int ((((b0 &&& (7 : Int32)) * (262144 : Int32)) + ((b1 &&& (63 : Int32)) * (4096 : Int32))) + ((b2 &&& (63 : Int32)) * (64 : Int32))))])) (fun t k => XS.iadd X49.here hx rfl (hb hby at_518) rfl k) ?_
        refine own_by (B := T49.setTop (mkF m 521 #[.val (.int i0), .val (.int i1), .val (.int i2), .val (.int cp), .val (.int ax), .val (.int fl), .val (.ref b4), .val (.int (ax + (own_n cp))), .val (.int nn), .val (.int (1 : Int32)), .val (.int b0), .val (.int b1), .val (.int b2), .val (.int b3)] [(.int b3), (.int ((((b0 &&& (7 : Int32)) * (262144 : Int32)) + ((b1 &&& (63 : Int32)) * (4096 : Int32))) + ((b2 &&& (63 : Int32)) * (64 : Int32))))])) (fun t k => XS.iload X49.here hx rfl (hb hby at_519) rfl k) ?_
        refine own_by (B := T49.setTop (mkF m 523 #[.val (.int i0), .val (.int i1), .val (.int i2), .val (.int cp), .val (.int ax), .val (.int fl), .val (.ref b4), .val (.int (ax + (own_n cp))), .val (.int nn), .val (.int (1 : Int32)), .val (.int b0), .val (.int b1), .val (.int b2), .val (.int b3)] [(.int (63 : Int32)), (.int b3), (.int ((((b0 &&& (7 : Int32)) * (262144 : Int32)) + ((b1 &&& (63 : Int32)) * (4096 : Int32))) + ((b2 &&& (63 : Int32)) * (64 : Int32))))])) (fun t k => XS.bipush X49.here hx rfl (hb hby at_521) k) ?_
        refine own_by (B := T49.setTop (mkF m 524 #[.val (.int i0), .val (.int i1), .val (.int i2), .val (.int cp), .val (.int ax), .val (.int fl), .val (.ref b4), .val (.int (ax + (own_n cp))), .val (.int nn), .val (.int (1 : Int32)), .val (.int b0), .val (.int b1), .val (.int b2), .val (.int b3)] [(.int (b3 &&& (63 : Int32))), (.int ((((b0 &&& (7 : Int32)) * (262144 : Int32)) + ((b1 &&& (63 : Int32)) * (4096 : Int32))) + ((b2 &&& (63 : Int32)) * (64 : Int32))))])) (fun t k => XS.iand X49.here hx rfl (hb hby at_523) rfl k) ?_
        refine own_by (B := T49.setTop (mkF m 525 #[.val (.int i0), .val (.int i1), .val (.int i2), .val (.int cp), .val (.int ax), .val (.int fl), .val (.ref b4), .val (.int (ax + (own_n cp))), .val (.int nn), .val (.int (1 : Int32)), .val (.int b0), .val (.int b1), .val (.int b2), .val (.int b3)] [(.int (((((b0 &&& (7 : Int32)) * (262144 : Int32)) + ((b1 &&& (63 : Int32)) * (4096 : Int32))) + ((b2 &&& (63 : Int32)) * (64 : Int32))) + (b3 &&& (63 : Int32))))])) (fun t k => XS.iadd X49.here hx rfl (hb hby at_524) rfl k) ?_
        refine own_by (B := T49.setTop (mkF m 526 #[.val (.int i0), .val (.int i1), .val (.int i2), .val (.int cp), .val (.int ax), .val (.int fl), .val (.ref b4), .val (.int (ax + (own_n cp))), .val (.int nn), .val (.int (1 : Int32)), .val (.int b0), .val (.int b1), .val (.int b2), .val (.int b3)] [(.int cp), (.int (((((b0 &&& (7 : Int32)) * (262144 : Int32)) + ((b1 &&& (63 : Int32)) * (4096 : Int32))) + ((b2 &&& (63 : Int32)) * (64 : Int32))) + (b3 &&& (63 : Int32))))])) (fun t k => XS.iloadN X49.here hx rfl (hb hby at_525) rfl k) ?_
        have hc52 : (((((b0 &&& (7 : Int32)) * (262144 : Int32)) + ((b1 &&& (63 : Int32)) * (4096 : Int32))) + ((b2 &&& (63 : Int32)) * (64 : Int32))) + (b3 &&& (63 : Int32))) = cp := (own_b4 fl cp ax nn b0 b1 b2 b3 hcp1 hax1 hnn hb0 hb1 hb2 hb3 hc37 hc41 hc46).2
        refine own_by (B := T49.setTop (mkF m 529 #[.val (.int i0), .val (.int i1), .val (.int i2), .val (.int cp), .val (.int ax), .val (.int fl), .val (.ref b4), .val (.int (ax + (own_n cp))), .val (.int nn), .val (.int (1 : Int32)), .val (.int b0), .val (.int b1), .val (.int b2), .val (.int b3)] [])) (fun t k => XS.icmpNo X49.here hx rfl (hb hby at_526) rfl (teq hc52).2 k) ?_
        refine own_by (B := T49.setTop (mkF m 530 #[.val (.int i0), .val (.int i1), .val (.int i2), .val (.int cp), .val (.int ax), .val (.int fl), .val (.ref b4), .val (.int (ax + (own_n cp))), .val (.int nn), .val (.int (1 : Int32)), .val (.int b0), .val (.int b1), .val (.int b2), .val (.int b3)] [(.int (1 : Int32))])) (fun t k => XS.iconst X49.here hx rfl (hb hby at_529) k) ?_
        refine own_by (B := T49.setTop (mkF m 534 #[.val (.int i0), .val (.int i1), .val (.int i2), .val (.int cp), .val (.int ax), .val (.int fl), .val (.ref b4), .val (.int (ax + (own_n cp))), .val (.int nn), .val (.int (1 : Int32)), .val (.int b0), .val (.int b1), .val (.int b2), .val (.int b3)] [(.int (1 : Int32))])) (fun t k => XS.goto X49.here hx rfl (pc0 := 530) (pc' := 534) rfl (hb hby at_530) (by decide) (by decide) k) ?_
        exact own_retN (t := .boolean) (by simp) X49 hx hlk hret (z' := (1 : Int32)) (by decide) (hb hby at_534) ⟨rfl, NF⟩ (by decide) (by decide)
set_option maxRecDepth 65536 in
set_option maxHeartbeats 40000000 in
theorem comes_1 {Post : Tables → Env → Array Value → State → Outcome → State → Prop} (hpost : ∀ tb e args s v u, (limb_1_1.after args s (.returned v) u = true ∧ limb_1_2.after args s (.returned v) u = true ∧ True) → FrameEnd s (.returned v) u (Jvm.fieldLocs frame_1_writes args s ++ Jvm.arrayLocs frame_1_arrays args s ++ Jvm.staticLocs frame_1_statics s) 16 128 → Post tb e args s (.returned v) u) :
    ArmFor flags0 classFile x code maxLocals ret World_1 tables_1 room_1 Calls_1 rest_1 Pre_1 Post := by
  intro l hfl _ _ p e ha hc hk s m args below hf hA hF happ hP
  obtain ⟨hcalls, hrest, hpre⟩ := hP
  obtain ⟨-, -, -, hnamed, -, -, -, hat⟩ := (Spec.applies_iff hf).mp happ
  obtain ⟨hg, hn⟩ := and_e (Cond.before_iff.mp (show (Jvm.Cond.and given_1 narrow_1).before args s = true from hpre))
  obtain ⟨gg1, gg2⟩ := and_e hg
  obtain ⟨gg3, gg4⟩ := and_e gg2
  obtain ⟨gg5, gg6⟩ := and_e gg4
  obtain ⟨w0, w1, w2, rfl⟩ : ∃ w0 w1 w2 : Value, args = #[w0, w1, w2] := by
    have hs : args.size = 3 := by simpa [Cond.value, given_1] using gg1
    obtain ⟨L⟩ := args
    match L, hs with
    | [w0, w1, w2], _ => exact ⟨w0, w1, w2, rfl⟩
  have hw := fun d (hd : d ∈ tables_1) => atoms_spec (ws := Jvm.Cond.code x code maxLocals ret :: tables_1) hat d (List.mem_cons_of_mem _ hd)
  obtain ⟨i0, ei0⟩ := is_v gg3
  obtain rfl : w0 = (.int i0) := Option.some.inj ei0
  obtain ⟨i1, ei1⟩ := is_v gg5
  obtain rfl : w1 = (.int i1) := Option.some.inj ei1
  obtain ⟨i2, ei2⟩ := is_v gg6
  obtain rfl : w2 = (.int i2) := Option.some.inj ei2
  obtain ⟨n, o, h1, h2, h3, _, L, rfl, ⟨rfl, N⟩, hq⟩ := rm0 l s _ hw tables_1 i0 i1 i2 s.heap s.heap.size (Nat.le_refl _) p e ha hc hk s m _ below hf ((Spec.applies_iff_loose hf).mp happ).1 ⟨rfl, State.Warmed39.refl s, rfl⟩ trivial
  refine ⟨n, _, h1, h2, h3, hpost _ _ _ _ _ _ ⟨Cond.after_iff.mpr rfl, Cond.after_iff.mpr (eq_i res_at (Term.int_eval (1)) rfl), trivial⟩ ⟨hq.1, hq.2.1, (hq.2.2.sift fun y hy => Or.inr (N y hy)).mono (by decide) (by decide)⟩⟩
theorem main_1_1 : Claimed_1_1 := comes_1 fun _ _ _ _ _ _ h hF => ⟨h.1, hF⟩
theorem main_1_2 : Claimed_1_2 := comes_1 fun _ _ _ _ _ _ h hF => ⟨h.2.1, hF⟩
end Jvm.Pilot.@@N@@
namespace Jvm.Pilot.@@N@@
open Jvm Jvm.ClassFile Sem Op Lib Jvm.Free Jvm.Stand Jvm.Pilot.@@N@@.Jvm.D
/-! MADE BY PROGRAM (witnessworld.py) out of the Statement's table words and the real class files: 9 classes; the members and pool entries that the words name. The judged class is class 1, her method 3. -/
namespace start1
open Jvm.ClassFile
def u (s : String) : CpInfo := .utf8 (stringToUtf16 s)
/-- a pool by its gaps: so many unusable entries, then the entry; so many at the end -/
def gap : Nat → List CpInfo → List CpInfo
  | 0, r => r
  | n + 1, r => .unusable :: gap n r
def poolList (es : List (Nat × CpInfo)) (last : Nat) : List CpInfo := es.foldr (fun e r => gap e.1 (e.2 :: r)) (gap last [])
def pool (es : List (Nat × CpInfo)) (last : Nat) : Array CpInfo := ⟨poolList es last⟩
def fileOf (pool : Array CpInfo) (this : Nat) (attrs : Array Attribute := #[]) (ms : Array MethodInfo := #[]) (fl : Nat := 33) (sup : Nat := 0) (ifs : Array Nat := #[]) (fds : Array FieldInfo := #[]) : ClassFile where
  minorVersion := 0
  majorVersion := 65
  constantPool := pool
  accessFlags := fl
  thisClass := this
  superClass := sup
  interfaces := ifs
  fields := fds
  methods := ms
  attributes := attrs
def plain (name : String) (sup : Option ClassId) : Class where
  name := name
  kind := .ordinary
  loader := none
  accessFlags := 33
  super := sup
  interfaces := #[]
  cf := none
  fields := #[]
  methods := #[]
  instanceTypes := #[]
  staticTypes := #[]
  resolved := #[]
  callSites := []
  init := .initialized
  statics := none
  mirror := none

def pool0 : Array CpInfo := pool [(5, u "<init>"), (0, u "()V"), (1, .class_ 10), (1, u "java/lang/Object")] 113

def k0m0 : Method := { name := "<init>", desc := "()V", sig := { parameters := [], returnType := none }, accessFlags := 1, code := none }
/-- java/lang/Object -/
def k0 : Class := { plain "java/lang/Object" none with
  accessFlags := 33
  interfaces := #[]
  cf := some (fileOf pool0 8 #[] #[{ accessFlags := 1, nameIndex := 5, descriptorIndex := 6, attributes := #[] }] 33 0 #[] #[])
  fields := #[]
  methods := #[k0m0]
  instanceTypes := #[]
  staticTypes := #[]
  resolved := Array.replicate 124 none
  statics := none }

def pool1 : Array CpInfo := pool [(2, .class_ 4), (1, u "java/lang/Object"), (0, u "<init>"), (0, u "()V"), (0, .integer 2147483647), (0, .integer 1114112), (0, .integer 55296), (0, .integer 57343), (0, .methodref 12 13), (0, .class_ 14), (0, .nameAndType 15 16), (0, u "com/example/myriad_paths/myriadpaths/Utf8Text"), (0, u "encode"), (0, u "(I[BI)I"), (0, .integer 65536), (0, .methodref 19 20), (0, .class_ 21), (0, .nameAndType 22 23), (0, u "com/example/myriad_paths/myriadpaths/Utf8TextEncodePinLaw"), (0, u "kept"), (0, u "([BIIIB)Z"), (0, .methodref 19 25), (0, .nameAndType 26 27), (0, u "u"), (0, u "([BI)I"), (0, .integer 262144), (3, u "law"), (0, u "(III)Z")] 4

def k1m0 : Method := { name := "<init>", desc := "()V", sig := { parameters := [], returnType := none }, accessFlags := 1, code := none }
def k1c1 : Code := { maxStack := 2, maxLocals := 2, code := method_2_code, exceptionTable := #[], attributes := #[] }
def k1m1 : Method := { name := "u", desc := "([BI)I", sig := { parameters := [(.array .byte), .int], returnType := some .int }, accessFlags := 10, code := some k1c1 }
def k1c2 : Code := { maxStack := 2, maxLocals := 5, code := method_3_code, exceptionTable := #[], attributes := #[] }
def k1m2 : Method := { name := "kept", desc := "([BIIIB)Z", sig := { parameters := [(.array .byte), .int, .int, .int, .byte], returnType := some .boolean }, accessFlags := 10, code := some k1c2 }
def k1c3 : Code := { maxStack := 5, maxLocals := 14, code := code, exceptionTable := #[], attributes := #[] }
def k1m3 : Method := { name := "law", desc := "(III)Z", sig := { parameters := [.int, .int, .int], returnType := some .boolean }, accessFlags := 9, code := some k1c3 }
/-- com/example/myriad_paths/myriadpaths/Utf8TextEncodePinLaw -/
def k1 : Class := { plain "com/example/myriad_paths/myriadpaths/Utf8TextEncodePinLaw" (some 0) with
  accessFlags := 49
  interfaces := #[]
  cf := some (fileOf pool1 19 #[] #[{ accessFlags := 1, nameIndex := 5, descriptorIndex := 6, attributes := #[] }, { accessFlags := 10, nameIndex := 26, descriptorIndex := 27, attributes := #[] }, { accessFlags := 10, nameIndex := 22, descriptorIndex := 23, attributes := #[] }, { accessFlags := 9, nameIndex := 32, descriptorIndex := 33, attributes := #[] }] 49 2 #[] #[])
  fields := #[]
  methods := #[k1m0, k1m1, k1m2, k1m3]
  instanceTypes := #[]
  staticTypes := #[]
  resolved := Array.replicate 38 none
  statics := none }

def pool2 : Array CpInfo := pool [(2, .class_ 4), (1, u "java/lang/Object"), (0, u "<init>"), (0, u "()V"), (1, .class_ 10), (1, u "com/example/myriad_paths/myriadpaths/Utf8Text"), (0, u "bytes"), (0, u "[B"), (2, u "length"), (0, u "I"), (2, u "chars"), (8, u "encode"), (0, u "(I[BI)I"), (22, .integer 65536)] 30

def k2m0 : Method := { name := "<init>", desc := "()V", sig := { parameters := [], returnType := none }, accessFlags := 0, code := none }
def k2c1 : Code := { maxStack := 5, maxLocals := 4, code := prog_146_method_7_code, exceptionTable := #[], attributes := #[] }
def k2m1 : Method := { name := "encode", desc := "(I[BI)I", sig := { parameters := [.int, (.array .byte), .int], returnType := some .int }, accessFlags := 8, code := some k2c1 }
/-- com/example/myriad_paths/myriadpaths/Utf8Text -/
def k2 : Class := { plain "com/example/myriad_paths/myriadpaths/Utf8Text" (some 0) with
  accessFlags := 48
  interfaces := #[]
  cf := some (fileOf pool2 8 #[] #[{ accessFlags := 0, nameIndex := 5, descriptorIndex := 6, attributes := #[] }, { accessFlags := 8, nameIndex := 28, descriptorIndex := 29, attributes := #[] }] 48 2 #[] #[{ accessFlags := 2, nameIndex := 11, descriptorIndex := 12, attributes := #[] }, { accessFlags := 2, nameIndex := 15, descriptorIndex := 16, attributes := #[] }, { accessFlags := 2, nameIndex := 19, descriptorIndex := 16, attributes := #[] }])
  fields := #[{ name := "bytes", type := (.array .byte), accessFlags := 2, slot := 0, constantValue := 0 }, { name := "length", type := .int, accessFlags := 2, slot := 1, constantValue := 0 }, { name := "chars", type := .int, accessFlags := 2, slot := 2, constantValue := 0 }]
  methods := #[k2m0, k2m1]
  instanceTypes := #[(.array .byte), .int, .int]
  staticTypes := #[]
  resolved := Array.replicate 83 none
  statics := none }

def pool3 : Array CpInfo := pool [(1, u "java/lang/Cloneable"), (0, .class_ 1), (0, u "java/lang/Object"), (0, .class_ 3)] 3

/-- java/lang/Cloneable -/
def k3 : Class := { plain "java/lang/Cloneable" (some 0) with
  accessFlags := 1537
  interfaces := #[]
  cf := some (fileOf pool3 2 #[] #[] 1537 4 #[] #[])
  fields := #[]
  methods := #[]
  instanceTypes := #[]
  staticTypes := #[]
  resolved := Array.replicate 8 none
  statics := none }

def pool4 : Array CpInfo := pool [(1, u "java/io/Serializable"), (0, .class_ 1), (0, u "java/lang/Object"), (0, .class_ 3)] 3

/-- java/io/Serializable -/
def k4 : Class := { plain "java/io/Serializable" (some 0) with
  accessFlags := 1537
  interfaces := #[]
  cf := some (fileOf pool4 2 #[] #[] 1537 4 #[] #[])
  fields := #[]
  methods := #[]
  instanceTypes := #[]
  staticTypes := #[]
  resolved := Array.replicate 8 none
  statics := none }

/-- the primitive byte -/
def k5 : Class := { plain "byte" none with kind := .primitive 'B', accessFlags := 0x411 }
/-- [B -/
def k6 : Class := { plain "[B" (some 0) with kind := .array 5 .byte, interfaces := #[3, 4], accessFlags := 1041 }

/-- the primitive int -/
def k7 : Class := { plain "int" none with kind := .primitive 'I', accessFlags := 0x411 }
/-- [I -/
def k8 : Class := { plain "[I" (some 0) with kind := .array 7 .int, interfaces := #[3, 4], accessFlags := 1041 }

def heap : Heap := #[]
def classes : Array Class := #[k0, k1, k2, k3, k4, k5, k6, k7, k8]
def interned : List (Array UInt16 × Addr) := []
def slotsUsed : Nat := 0
def theMethod : MethodId := ⟨1, 3⟩
def args0 : Array Value := #[.int 5, .int 7, .int 3]
def aboutOver (below : List Frame) : State where
  vm := { classes := classes, interned := interned.toArray }
  heap := heap
  slotsUsed := slotsUsed
  threads := #[{ frames := .invoking theMethod args0 :: below }]
def below0 : List Frame := [.native { method := ⟨0, 0⟩, args := #[] }]
def about1 : State := aboutOver below0
def p0 : Program := .bare "" "" ""
def e0 : Env := launch0.env 0 0 0
theorem w_frames : about1.frames = Frame.invoking theMethod args0 :: below0 := rfl
set_option maxRecDepth 65536 in
theorem w_args : argsFit about1.vm theMethod args0 = true := by decide +kernel
set_option maxRecDepth 65536 in
theorem w_heap : heapFits about1 = true := by decide +kernel
set_option maxRecDepth 65536 in
theorem w_runnable : about1.curStatus? = some .runnable := by decide +kernel
set_option maxRecDepth 65536 in
theorem w_alone : about1.alone = true := by decide +kernel
set_option maxRecDepth 65536 in
theorem w_named : about1.methodNamed? x = some theMethod := by decide +kernel
set_option maxRecDepth 65536 in
theorem w_hears : about1.hears theMethod below0 = true := by decide +kernel
set_option maxRecDepth 65536 in
theorem w_ripe : about1.ripe theMethod args0 below0 = true := by decide +kernel
theorem w_running : about1.status = .running := rfl
set_option maxRecDepth 65536 in
theorem w_room : about1.hasRoom e0.platform room_1 = true :=
  launch0.hasRoom_least _ room_1 (by decide +kernel) (by decide +kernel) (by decide +kernel) (by decide +kernel) (by decide +kernel) (by decide +kernel)
theorem allAtoms_all (ts : List Jvm.Cond) (a : Array Jvm.Value) (st : Jvm.State) : (allAtoms ts).before a st = ts.all (fun c => c.before a st) := by
  induction ts with
  | nil => rfl
  | cons c t ih =>
    show (Jvm.Cond.and c (allAtoms t)).before a st = _
    rw [Jvm.Cond.before_and, ih, List.all_cons]
def words1 : List Jvm.Cond := Jvm.Cond.code x code maxLocals ret :: tables_1
/-- a 'code' word, met by the world's own term for the bytes: nothing is compared byte by byte -/
theorem code_word {y : MethodName} {bytes : ByteArray} {mx : Nat} {rt : Option FieldType} {a : Array Value} {s : State} {m : MethodId} {meth : Method} {c : Code} (h1 : s.methodNamed? y = some m) (h2 : s.vm.method? m = some meth) (h3 : meth.code = some c) (h4 : c.code = bytes)
    (h5 : (c.maxLocals == mx && c.exceptionTable.isEmpty && decide (c.maxStack ≤ mostOperands) && decide (meth.sig.returnType = rt) && !meth.locks && decide (parseMethodDescriptor y.desc = some meth.sig)) = true) : (Jvm.Cond.code y bytes mx rt).before a s = true := by
  simp only [Bool.and_eq_true, beq_iff_eq, Bool.not_eq_true', decide_eq_true_eq] at h5
  obtain ⟨⟨⟨⟨⟨g1, g2⟩, g3⟩, g4⟩, g5⟩, g6⟩ := h5
  simp [Cond.before, Cond.holds, Cond.value, h1, h2, h3, h4, g1, g2, g3, g4, g5, g6]
def isCode : Jvm.Cond → Bool
  | .code _ _ _ _ => true
  | _ => false
theorem all_split {L : List Jvm.Cond} {P : Jvm.Cond → Bool} (h1 : L.all (fun c => isCode c || P c) = true) (h2 : ∀ c ∈ L.filter isCode, P c = true) : L.all P = true := by
  refine List.all_eq_true.mpr fun c hc => ?_
  have h := List.all_eq_true.mp h1 c hc
  rcases Bool.eq_false_or_eq_true (isCode c) with hi | hi
  · exact h2 c (List.mem_filter.mpr ⟨hc, hi⟩)
  · simpa [hi] using h
set_option maxRecDepth 65536 in
theorem w_c0 : (Jvm.Cond.code x code maxLocals ret).before args0 about1 = true := code_word (m := ⟨1, 3⟩) (meth := k1m3) (c := k1c3) (by decide +kernel) rfl rfl rfl (by decide +kernel)
set_option maxRecDepth 65536 in
theorem w_c1 : (Jvm.Cond.code ({ cls := "com/example/myriad_paths/myriadpaths/Utf8Text", name := "encode", desc := "(I[BI)I" } : Jvm.MethodName) prog_146_method_7_code (4 : Nat) (Option.some Jvm.ClassFile.FieldType.int)).before args0 about1 = true := code_word (m := ⟨2, 1⟩) (meth := k2m1) (c := k2c1) (by decide +kernel) rfl rfl rfl (by decide +kernel)
set_option maxRecDepth 65536 in
theorem w_c2 : (Jvm.Cond.code ({ cls := "com/example/myriad_paths/myriadpaths/Utf8TextEncodePinLaw", name := "kept", desc := "([BIIIB)Z" } : Jvm.MethodName) method_3_code (5 : Nat) (Option.some Jvm.ClassFile.FieldType.boolean)).before args0 about1 = true := code_word (m := ⟨1, 2⟩) (meth := k1m2) (c := k1c2) (by decide +kernel) rfl rfl rfl (by decide +kernel)
set_option maxRecDepth 65536 in
theorem w_c3 : (Jvm.Cond.code ({ cls := "com/example/myriad_paths/myriadpaths/Utf8TextEncodePinLaw", name := "u", desc := "([BI)I" } : Jvm.MethodName) method_2_code (2 : Nat) (Option.some Jvm.ClassFile.FieldType.int)).before args0 about1 = true := code_word (m := ⟨1, 1⟩) (meth := k1m1) (c := k1c1) (by decide +kernel) rfl rfl rfl (by decide +kernel)
def codes1 : List Jvm.Cond := [Jvm.Cond.code x code maxLocals ret, Jvm.Cond.code ({ cls := "com/example/myriad_paths/myriadpaths/Utf8Text", name := "encode", desc := "(I[BI)I" } : Jvm.MethodName) prog_146_method_7_code (4 : Nat) (Option.some Jvm.ClassFile.FieldType.int), Jvm.Cond.code ({ cls := "com/example/myriad_paths/myriadpaths/Utf8TextEncodePinLaw", name := "kept", desc := "([BIIIB)Z" } : Jvm.MethodName) method_3_code (5 : Nat) (Option.some Jvm.ClassFile.FieldType.boolean), Jvm.Cond.code ({ cls := "com/example/myriad_paths/myriadpaths/Utf8TextEncodePinLaw", name := "u", desc := "([BI)I" } : Jvm.MethodName) method_2_code (2 : Nat) (Option.some Jvm.ClassFile.FieldType.int)]
set_option maxRecDepth 65536 in
theorem codes_eq : words1.filter isCode = codes1 := rfl
theorem w_codes : ∀ c ∈ words1.filter isCode, c.before args0 about1 = true := by
  rw [codes_eq]
  intro c hc
  simp only [codes1, List.mem_cons, List.not_mem_nil, or_false] at hc
  rcases hc with rfl | rfl | rfl | rfl
  · exact w_c0
  · exact w_c1
  · exact w_c2
  · exact w_c3
set_option maxRecDepth 65536 in
theorem w_t1 : words1.all (fun c => isCode c || c.before args0 about1) = true := by decide +kernel
theorem w_tables : (allAtoms (Jvm.Cond.code x code maxLocals ret :: tables_1)).before args0 about1 = true := by
  rw [allAtoms_all]
  show words1.all (fun c => c.before args0 about1) = true
  refine all_split ?_ w_codes
  rw [w_t1]
set_option maxRecDepth 65536 in
theorem w_case : (Jvm.Cond.and given_1 narrow_1).before args0 about1 = true := by decide +kernel
theorem w_applies : (headSpec (Jvm.Cond.code x code maxLocals ret :: tables_1) room_1).applies x e0.platform about1 = true :=
  (Spec.applies_iff w_frames).mpr ⟨w_running, w_runnable, w_alone, w_named, w_hears, w_ripe, w_room, w_tables⟩
theorem atStart : AtStart classFile x code maxLocals ret World_1 tables_1 room_1 Calls_1 rest_1 Pre_1 launch0 p0 e0 about1 theMethod args0 below0 :=
  ⟨lists_1, trivial, launch0.admits_env _ _ _, launch0.least_env, fairChoices_fair.cas, fairChoices_fair.clock, w_frames, w_args, w_heap, w_applies, trivial, trivial, w_case⟩
end start1
theorem witness_1 : WitnessClaimed_1 := ⟨start1.p0, start1.e0, start1.about1, start1.theMethod, start1.args0, start1.below0, start1.atStart⟩
end Jvm.Pilot.@@N@@
