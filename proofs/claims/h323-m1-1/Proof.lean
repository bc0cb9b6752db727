import JvmDerived
import JvmDerived.Pilot.@@N@@Statement
import JvmDerived.Pilot.@@N@@Code
set_option linter.unusedVariables false
set_option linter.unusedSimpArgs false
namespace Jvm.Pilot.@@N@@
open Jvm Jvm.ClassFile Sem Op Lib Jvm.Free Jvm.Stand Jvm.LawKit Jvm.RoadKit Bundle Jvm.Pilot.@@N@@.Jvm.D
/-! THE OWN KIT: the walk from a state to its end, as one proposition (own_Go); its steps, its leaves, its entry. -/
section OwnKit
variable {p : Program} {l : Launch} {e : Env} {R : Room} {s : State} {m : MethodId} {args : Array Value} {below : List Frame} {meth : Method} {c : Code} {T : State} {locs : List Loc} {cells slots : Nat}
variable {Q : Option Value → Heap → List Loc → Prop} {rc rs : Nat}
/-- from U the run ends in a return, and Q says what it leaves -/
def own_Go (p : Program) (e : Env) (below : List Frame) (s : State) (Q : Option Value → Heap → List Loc → Prop) (rc rs : Nat) (U : State) : Prop :=
  ∃ s₂ o, Steps p.tables e below U s₂ ∧ s₂.status = .running ∧ Ended s₂ below o ∧ ∃ v L, o = .returned v ∧ Q v s₂.heap L ∧ FrameEnd s o s₂ L rc rs
theorem own_by {A B : State} (k : ∀ t, Steps p.tables e below B t → Steps p.tables e below A t) (h : own_Go p e below s Q rc rs B) : own_Go p e below s Q rc rs A := by
  obtain ⟨s₂, o, h1, r⟩ := h
  exact ⟨s₂, o, k _ h1, r⟩
theorem own_imp {Q' : Option Value → Heap → List Loc → Prop} {A : State} (k : ∀ v h L, Q v h L → Q' v h L) (h : own_Go p e below s Q rc rs A) : own_Go p e below s Q' rc rs A := by
  obtain ⟨s₂, o, h1, h2, h3, v, L, h4, h5, h6⟩ := h
  exact ⟨s₂, o, h1, h2, h3, v, L, h4, k _ _ _ h5, h6⟩
theorem own_leave (X : Stand p l e R s m args below meth c T locs cells slots) (hlk : meth.locks = false) {v : Option Value} (hv : meth.sig.returnType = none → v = none) {U : State}
    (hst : ∀ fs, (∀ (f : JFrame) (acts : List Action), f.method = m → f.locked = none → f.entered = [] → (doReturn e (T.setTop f) acts v).1 = T.setFrames fs) → Steps p.tables e below U (T.setFrames fs))
    (hq : Q v T.heap locs) (hc : cells ≤ rc) (hs : slots ≤ rs) : own_Go p e below s Q rc rs U := by
  obtain ⟨fs, hr, hrun, hended, hW, hsame⟩ := X.leave (v := v) hv hlk
  exact ⟨_, _, hst fs hr, hrun, hended, _, _, rfl, hq, ⟨_, rfl⟩, hW, hsame.mono hc hs⟩
theorem own_ret (X : Stand p l e R s m args below meth c T locs cells slots) (hx : p.tables.exec = Jvm.exec) (hlk : meth.locks = false) (hret : meth.sig.returnType = none) {pc : Nat} {Ls : Array Slot} (hd : decode c.code pc = .ok (.return_, 1))
    (hq : Q none T.heap locs) (hc : cells ≤ rc) (hs : slots ≤ rs) : own_Go p e below s Q rc rs (T.setTop (mkF m pc Ls [])) :=
  own_leave X hlk (fun _ => rfl) (fun _ hr => X.returnOut hx hret hd hr) hq hc hs
theorem own_retI (X : Stand p l e R s m args below meth c T locs cells slots) (hx : p.tables.exec = Jvm.exec) (hlk : meth.locks = false) (hret : meth.sig.returnType = some .int) {pc : Nat} {Ls : Array Slot} {z : Int32} (hd : decode c.code pc = .ok (.ireturn, 1))
    (hq : Q (some (.int z)) T.heap locs) (hc : cells ≤ rc) (hs : slots ≤ rs) : own_Go p e below s Q rc rs (T.setTop (mkF m pc Ls [.int z])) :=
  own_leave X hlk (fun h => by rw [hret] at h; cases h) (fun _ hr => X.ireturnOut hx hret rfl (Or.inl rfl) hd hr) hq hc hs
theorem own_retN {t : FieldType} (ht : t = .boolean ∨ t = .byte ∨ t = .char ∨ t = .short) (X : Stand p l e R s m args below meth c T locs cells slots) (hx : p.tables.exec = Jvm.exec) (hlk : meth.locks = false) (hret : meth.sig.returnType = some t) {pc : Nat} {Ls : Array Slot} {z z' : Int32} (hn : nar t z = z') (hd : decode c.code pc = .ok (.ireturn, 1))
    (hq : Q (some (.int z')) T.heap locs) (hc : cells ≤ rc) (hs : slots ≤ rs) : own_Go p e below s Q rc rs (T.setTop (mkF m pc Ls [.int z])) := by
  subst hn
  exact own_leave X hlk (fun h => by rw [hret] at h; cases h) (fun _ hr => retN X hx hret ht hd hr) hq hc hs
theorem own_retJ (X : Stand p l e R s m args below meth c T locs cells slots) (hx : p.tables.exec = Jvm.exec) (hlk : meth.locks = false) (hret : meth.sig.returnType = some .long) {pc : Nat} {Ls : Array Slot} {z : Int64} (hd : decode c.code pc = .ok (.lreturn, 1))
    (hq : Q (some (.long z)) T.heap locs) (hc : cells ≤ rc) (hs : slots ≤ rs) : own_Go p e below s Q rc rs (T.setTop (mkF m pc Ls [.long z])) :=
  own_leave X hlk (fun h => by rw [hret] at h; cases h) (fun _ hr => X.lreturnOut hx hret hd hr) hq hc hs
theorem own_retA {t : FieldType} (ht : t.isReference = true) (X : Stand p l e R s m args below meth c T locs cells slots) (hx : p.tables.exec = Jvm.exec) (hlk : meth.locks = false) (hret : meth.sig.returnType = some t) {pc : Nat} {Ls : Array Slot} {a : Addr} (hd : decode c.code pc = .ok (.areturn, 1))
    (hq : Q (some (.ref a)) T.heap locs) (hc : cells ≤ rc) (hs : slots ≤ rs) : own_Go p e below s Q rc rs (T.setTop (mkF m pc Ls [.ref a])) :=
  own_leave X hlk (fun h => by rw [hret] at h; cases h) (fun _ hr => X.areturnOut hx rfl hret ht hd hr) hq hc hs
/-- a body's contract out of its walk -/
theorem own_met {y : MethodName} {bytes : ByteArray} {maxL : Nat} {ret : Option FieldType} {ws : List Jvm.Cond} {rm : Room} {as' : Array Value} {Z : State} {h0 : Heap} (hpl : plainFor y = true)
    (body : ∀ (p : Program) (e : Env) (s : State) (m : MethodId) (below : List Frame) (meth : Method) (c : Code) (T : State), Stand p l e rm s m as' below meth c T [] 0 0 → p.tables.exec = Jvm.exec → c.code = bytes → c.maxLocals = maxL → meth.sig.returnType = ret → meth.locks = false →
      Z.Warmed39 s.vm → s.vm.findClass y.cls = some m.cls → meth.name = y.name → T.heap = h0 → own_Go p e below s Q rc rs (T.setTop (entryFrame m as' maxL))) :
    MetFree l y (head1 (Jvm.Cond.code y bytes maxL ret :: ws) rm) (fun a U => a = as' ∧ Z.Warmed39 U.vm ∧ U.heap = h0) (fun _ _ _ _ _ => True) (fun _ U o U' => ∃ v L, o = .returned v ∧ Q v U'.heap L ∧ FrameEnd U o U' L rc rs) := by
  refine MetFree.of_bodySF hpl hisR ?_
  intro p e s m args below meth c s₁ Bd hml0 hP hK
  obtain ⟨rfl, hZ, hh⟩ := hP
  exact body p e s m below meth c s₁ (Stand.of_body Bd) Bd.exec Bd.bytes hml0 Bd.returns (BodyLoose.notSynchronized Bd) hZ (findClass_of_methodNamed Bd.named) (name_of_methodNamed Bd.named Bd.method).1 (by rw [← hh, Bd.state]; rfl)
theorem own_cast {g g' : JFrame} (q : g = g') (k : own_Go p e below s Q rc rs (T.setTop g')) : own_Go p e below s Q rc rs (T.setTop g) := q ▸ k
/-- what a body that writes nothing leaves -/
def own_Qp (r : Option Value) (h0 : Heap) (v : Option Value) (h : Heap) (L : List Loc) : Prop := v = r ∧ L = [] ∧ h = h0
theorem own_selPriv {a1 a2 : Array Value} {y y' z' : MethodName} {C : String} (h : (Jvm.Cond.selects C y' z').before a1 s = true) (hz : z'.cls = y.cls) (hpriv : s.PrivateAt y) (hinst : (Jvm.Cond.instanceMethod y).before a2 s = true) (hy : y.cls ≠ "java/lang/invoke/MethodHandle" ∧ y.cls ≠ "java/lang/invoke/VarHandle") : (Jvm.Cond.selects y.cls y y).before a2 s = true := by
  obtain ⟨_, _, m2, -, -, q3, -, kP, hkP, hkPi⟩ := Cond.selects_spec h
  exact selects_self_of_private (by rw [← hz]; exact findClass_of_methodNamed q3) hkP hkPi hpriv hinst hy
end OwnKit
/-! arrays of ints (bytes, booleans) by a function from places to values -/
section OwnArr
variable {Z : State} {h h' : Heap} {a b : Addr} {ty : FieldType} {n : Nat} {f : Nat → Int32} {sl : Nat} {v : Value} {ws : List Addr}
def own_BA (Z : State) (h : Heap) (a : Addr) (ty : FieldType) (n : Nat) (f : Nat → Int32) : Prop := ∃ c : Cell, Arr Z h a c ty ∧ c.slots.size = n ∧ ∀ i, i < n → c.slots[i]? = some (.int (f i))
def own_up (f : Nat → Int32) (j : Nat) (x : Int32) (i : Nat) : Int32 := if i = j then x else f i
theorem own_BA.lt (F : own_BA Z h a ty n f) : a < h.size := by obtain ⟨c, A, -⟩ := F; exact A.lt
theorem own_BA.ext (F : own_BA Z h a ty n f) (E : Ext h h') : own_BA Z h' a ty n f := by obtain ⟨c, A, r⟩ := F; exact ⟨c, A.ext E, r⟩
theorem own_BA.other (F : own_BA Z h a ty n f) (W : Wr h h' b sl v) (q : a ≠ b) : own_BA Z h' a ty n f := by obtain ⟨c, A, r⟩ := F; exact ⟨c, A.other W q, r⟩
theorem own_BA.keep (F : own_BA Z h a ty n f) (K : Keep h h' ws) (q : a ∉ ws) : own_BA Z h' a ty n f := by obtain ⟨c, A, r⟩ := F; exact ⟨c, ⟨K.2.1 a c A.1 q, A.2⟩, r⟩
theorem own_BA.new {k : ClassId} {z : Int32} (A : Arr Z h a (newA k ty z) ty) (hz : z.toNatClampNeg = n) (hd : defaultValue ty = .int 0) : own_BA Z h a ty n (fun _ => 0) := by
  refine ⟨_, A, by rw [sz_new, hz], fun i hi => ?_⟩
  simp only [newA, hd, hz]
  rw [Array.getElem?_replicate, if_pos hi]
theorem own_BA.same {j : Nat} {x : Int32} (F : own_BA Z h a ty n f) (W : Wr h h' a j (.int x)) : own_BA Z h' a ty n (own_up f j x) := by
  obtain ⟨c, A, S, H⟩ := F
  refine ⟨_, A.same W, by rw [sz_set]; exact S, fun i hi => ?_⟩
  have hs : i < c.slots.size := by rw [S]; exact hi
  show (c.slots.setIfInBounds j (.int x))[i]? = _
  by_cases q : i = j
  · subst q
    rw [Array.getElem?_setIfInBounds_self_of_lt hs]
    simp [own_up]
  · rw [Array.getElem?_setIfInBounds_ne (Ne.symm q), H i hi]
    simp [own_up, q]
theorem own_BA.cong {g : Nat → Int32} (F : own_BA Z h a ty n f) (q : ∀ i, i < n → f i = g i) : own_BA Z h a ty n g := by
  obtain ⟨c, A, S, H⟩ := F
  exact ⟨c, A, S, fun i hi => by rw [H i hi, q i hi]⟩
theorem own_in {c : Cell} {j : Int32} (S : c.slots.size = n) (q : ¬ j < 0 ∧ j.toNatClampNeg < n) : ¬ (j < 0 ∨ c.slots.size ≤ j.toNatClampNeg) := by
  rw [S]; exact fun z => z.elim q.1 (fun y => absurd q.2 (Nat.not_lt.mpr y))
theorem own_lt {c : Cell} {j : Int32} (S : c.slots.size = n) (q : ¬ (j < 0 ∨ c.slots.size ≤ j.toNatClampNeg)) : j.toNatClampNeg < n := by
  rw [S] at q; exact Nat.lt_of_not_le fun y => q (Or.inr y)
end OwnArr
theorem pd_0 : parseMethodDescriptor "(I)Z" = some ⟨[.int], some .boolean⟩ := by decide +kernel
theorem d1_0 : decode prog_15_method_4_code 0 = .ok (.iload_n 0, 1) := by decide +kernel
theorem d1_1 : decode prog_15_method_4_code 1 = .ok (.bipush 65, 2) := by decide +kernel
theorem d1_3 : decode prog_15_method_4_code 3 = .ok (.if_icmp .lt 9, 3) := by decide +kernel
theorem d1_6 : decode prog_15_method_4_code 6 = .ok (.iload_n 0, 1) := by decide +kernel
theorem d1_7 : decode prog_15_method_4_code 7 = .ok (.bipush 90, 2) := by decide +kernel
theorem d1_9 : decode prog_15_method_4_code 9 = .ok (.if_icmp .le 182, 3) := by decide +kernel
theorem d1_12 : decode prog_15_method_4_code 12 = .ok (.iload_n 0, 1) := by decide +kernel
theorem d1_13 : decode prog_15_method_4_code 13 = .ok (.bipush 95, 2) := by decide +kernel
theorem d1_15 : decode prog_15_method_4_code 15 = .ok (.if_icmp .eq 176, 3) := by decide +kernel
theorem d1_18 : decode prog_15_method_4_code 18 = .ok (.iload_n 0, 1) := by decide +kernel
theorem d1_19 : decode prog_15_method_4_code 19 = .ok (.bipush 97, 2) := by decide +kernel
theorem d1_21 : decode prog_15_method_4_code 21 = .ok (.if_icmp .lt 9, 3) := by decide +kernel
theorem d1_24 : decode prog_15_method_4_code 24 = .ok (.iload_n 0, 1) := by decide +kernel
theorem d1_25 : decode prog_15_method_4_code 25 = .ok (.bipush 122, 2) := by decide +kernel
theorem d1_27 : decode prog_15_method_4_code 27 = .ok (.if_icmp .le 164, 3) := by decide +kernel
theorem d1_30 : decode prog_15_method_4_code 30 = .ok (.iload_n 0, 1) := by decide +kernel
theorem d1_31 : decode prog_15_method_4_code 31 = .ok (.sipush 192, 3) := by decide +kernel
theorem d1_34 : decode prog_15_method_4_code 34 = .ok (.if_icmp .lt 10, 3) := by decide +kernel
theorem d1_37 : decode prog_15_method_4_code 37 = .ok (.iload_n 0, 1) := by decide +kernel
theorem d1_38 : decode prog_15_method_4_code 38 = .ok (.sipush 214, 3) := by decide +kernel
theorem d1_41 : decode prog_15_method_4_code 41 = .ok (.if_icmp .le 150, 3) := by decide +kernel
theorem d1_44 : decode prog_15_method_4_code 44 = .ok (.iload_n 0, 1) := by decide +kernel
theorem d1_45 : decode prog_15_method_4_code 45 = .ok (.sipush 216, 3) := by decide +kernel
theorem d1_48 : decode prog_15_method_4_code 48 = .ok (.if_icmp .lt 10, 3) := by decide +kernel
theorem d1_51 : decode prog_15_method_4_code 51 = .ok (.iload_n 0, 1) := by decide +kernel
theorem d1_52 : decode prog_15_method_4_code 52 = .ok (.sipush 246, 3) := by decide +kernel
theorem d1_55 : decode prog_15_method_4_code 55 = .ok (.if_icmp .le 136, 3) := by decide +kernel
theorem d1_58 : decode prog_15_method_4_code 58 = .ok (.iload_n 0, 1) := by decide +kernel
theorem d1_59 : decode prog_15_method_4_code 59 = .ok (.sipush 248, 3) := by decide +kernel
theorem d1_62 : decode prog_15_method_4_code 62 = .ok (.if_icmp .lt 10, 3) := by decide +kernel
theorem d1_65 : decode prog_15_method_4_code 65 = .ok (.iload_n 0, 1) := by decide +kernel
theorem d1_66 : decode prog_15_method_4_code 66 = .ok (.sipush 767, 3) := by decide +kernel
theorem d1_69 : decode prog_15_method_4_code 69 = .ok (.if_icmp .le 122, 3) := by decide +kernel
theorem d1_72 : decode prog_15_method_4_code 72 = .ok (.iload_n 0, 1) := by decide +kernel
theorem d1_73 : decode prog_15_method_4_code 73 = .ok (.sipush 880, 3) := by decide +kernel
theorem d1_76 : decode prog_15_method_4_code 76 = .ok (.if_icmp .lt 10, 3) := by decide +kernel
theorem d1_79 : decode prog_15_method_4_code 79 = .ok (.iload_n 0, 1) := by decide +kernel
theorem d1_80 : decode prog_15_method_4_code 80 = .ok (.sipush 893, 3) := by decide +kernel
theorem d1_83 : decode prog_15_method_4_code 83 = .ok (.if_icmp .le 108, 3) := by decide +kernel
theorem d1_86 : decode prog_15_method_4_code 86 = .ok (.iload_n 0, 1) := by decide +kernel
theorem d1_87 : decode prog_15_method_4_code 87 = .ok (.sipush 895, 3) := by decide +kernel
theorem d1_90 : decode prog_15_method_4_code 90 = .ok (.if_icmp .lt 10, 3) := by decide +kernel
theorem d1_93 : decode prog_15_method_4_code 93 = .ok (.iload_n 0, 1) := by decide +kernel
theorem d1_94 : decode prog_15_method_4_code 94 = .ok (.sipush 8191, 3) := by decide +kernel
theorem d1_97 : decode prog_15_method_4_code 97 = .ok (.if_icmp .le 94, 3) := by decide +kernel
theorem d1_100 : decode prog_15_method_4_code 100 = .ok (.iload_n 0, 1) := by decide +kernel
theorem d1_101 : decode prog_15_method_4_code 101 = .ok (.sipush 8204, 3) := by decide +kernel
theorem d1_104 : decode prog_15_method_4_code 104 = .ok (.if_icmp .lt 10, 3) := by decide +kernel
theorem d1_107 : decode prog_15_method_4_code 107 = .ok (.iload_n 0, 1) := by decide +kernel
theorem d1_108 : decode prog_15_method_4_code 108 = .ok (.sipush 8205, 3) := by decide +kernel
theorem d1_111 : decode prog_15_method_4_code 111 = .ok (.if_icmp .le 80, 3) := by decide +kernel
theorem d1_114 : decode prog_15_method_4_code 114 = .ok (.iload_n 0, 1) := by decide +kernel
theorem d1_115 : decode prog_15_method_4_code 115 = .ok (.sipush 8304, 3) := by decide +kernel
theorem d1_118 : decode prog_15_method_4_code 118 = .ok (.if_icmp .lt 10, 3) := by decide +kernel
theorem d1_121 : decode prog_15_method_4_code 121 = .ok (.iload_n 0, 1) := by decide +kernel
theorem d1_122 : decode prog_15_method_4_code 122 = .ok (.sipush 8591, 3) := by decide +kernel
theorem d1_125 : decode prog_15_method_4_code 125 = .ok (.if_icmp .le 66, 3) := by decide +kernel
theorem d1_128 : decode prog_15_method_4_code 128 = .ok (.iload_n 0, 1) := by decide +kernel
theorem d1_129 : decode prog_15_method_4_code 129 = .ok (.sipush 11264, 3) := by decide +kernel
theorem d1_132 : decode prog_15_method_4_code 132 = .ok (.if_icmp .lt 10, 3) := by decide +kernel
theorem d1_135 : decode prog_15_method_4_code 135 = .ok (.iload_n 0, 1) := by decide +kernel
theorem d1_136 : decode prog_15_method_4_code 136 = .ok (.sipush 12271, 3) := by decide +kernel
theorem d1_139 : decode prog_15_method_4_code 139 = .ok (.if_icmp .le 52, 3) := by decide +kernel
theorem d1_142 : decode prog_15_method_4_code 142 = .ok (.iload_n 0, 1) := by decide +kernel
theorem d1_143 : decode prog_15_method_4_code 143 = .ok (.sipush 12289, 3) := by decide +kernel
theorem d1_146 : decode prog_15_method_4_code 146 = .ok (.if_icmp .lt 9, 3) := by decide +kernel
theorem d1_149 : decode prog_15_method_4_code 149 = .ok (.iload_n 0, 1) := by decide +kernel
theorem d1_150 : decode prog_15_method_4_code 150 = .ok (.ldc 23, 2) := by decide +kernel
theorem d1_152 : decode prog_15_method_4_code 152 = .ok (.if_icmp .le 39, 3) := by decide +kernel
theorem d1_155 : decode prog_15_method_4_code 155 = .ok (.iload_n 0, 1) := by decide +kernel
theorem d1_156 : decode prog_15_method_4_code 156 = .ok (.ldc 24, 2) := by decide +kernel
theorem d1_158 : decode prog_15_method_4_code 158 = .ok (.if_icmp .lt 9, 3) := by decide +kernel
theorem d1_161 : decode prog_15_method_4_code 161 = .ok (.iload_n 0, 1) := by decide +kernel
theorem d1_162 : decode prog_15_method_4_code 162 = .ok (.ldc 25, 2) := by decide +kernel
theorem d1_164 : decode prog_15_method_4_code 164 = .ok (.if_icmp .le 27, 3) := by decide +kernel
theorem d1_167 : decode prog_15_method_4_code 167 = .ok (.iload_n 0, 1) := by decide +kernel
theorem d1_168 : decode prog_15_method_4_code 168 = .ok (.ldc 26, 2) := by decide +kernel
theorem d1_170 : decode prog_15_method_4_code 170 = .ok (.if_icmp .lt 9, 3) := by decide +kernel
theorem d1_173 : decode prog_15_method_4_code 173 = .ok (.iload_n 0, 1) := by decide +kernel
theorem d1_174 : decode prog_15_method_4_code 174 = .ok (.ldc 27, 2) := by decide +kernel
theorem d1_176 : decode prog_15_method_4_code 176 = .ok (.if_icmp .le 15, 3) := by decide +kernel
theorem d1_179 : decode prog_15_method_4_code 179 = .ok (.iload_n 0, 1) := by decide +kernel
theorem d1_180 : decode prog_15_method_4_code 180 = .ok (.ldc 28, 2) := by decide +kernel
theorem d1_182 : decode prog_15_method_4_code 182 = .ok (.if_icmp .lt 13, 3) := by decide +kernel
theorem d1_185 : decode prog_15_method_4_code 185 = .ok (.iload_n 0, 1) := by decide +kernel
theorem d1_186 : decode prog_15_method_4_code 186 = .ok (.ldc 29, 2) := by decide +kernel
theorem d1_188 : decode prog_15_method_4_code 188 = .ok (.if_icmp .gt 7, 3) := by decide +kernel
theorem d1_191 : decode prog_15_method_4_code 191 = .ok (.iconst 1, 1) := by decide +kernel
theorem d1_192 : decode prog_15_method_4_code 192 = .ok (.goto 4, 3) := by decide +kernel
theorem d1_195 : decode prog_15_method_4_code 195 = .ok (.iconst 0, 1) := by decide +kernel
theorem d1_196 : decode prog_15_method_4_code 196 = .ok (.ireturn, 1) := by decide +kernel
theorem pn_1 : plainName "com/example/siegelbund/siegelbund/core/xml/XmlChars" = true := by first | (simp [plainName, overriddenIn]; done) | decide +kernel
theorem ef_1 (m : MethodId) (x0 : Int32) : entryFrame m #[(.int x0)] 1 = mkF m 0 #[.val (.int x0)] [] := by first | (simp [entryFrame, mkF, argsToLocals, Value.category]; done) | rfl
def f1_196  (x0 : Int32) (y0 : Int32) : Int32 := (nar .boolean y0)
set_option maxRecDepth 65536 in
set_option maxHeartbeats 40000000 in
theorem bk1_196 (l : Launch) (Z : State) (a0 : Array Value) (hw : ∀ d ∈ tables_1, d.before a0 Z = true) (h0 : Heap)     (x0 : Int32) (y0 : Int32)  {p : Program} {e : Env} {s : State} {m : MethodId} {args : Array Value} {below : List Frame} {meth : Method} {c : Code} {T0 : State}
    (X0 : Stand p l e ({ frames := 0, cells := 0, slots := 0, locals := 0 } : Room) s m args below meth c T0 [] 0 0) (hx : p.tables.exec = Jvm.exec) (hby : c.code = prog_15_method_4_code) (hml : c.maxLocals = 1) (hret : meth.sig.returnType = (some .boolean)) (hlk : meth.locks = false) (hZ : Z.Warmed39 s.vm) (hown : s.vm.findClass "com/example/siegelbund/siegelbund/core/xml/XmlChars" = some m.cls) (hnm : meth.name = "isNcNameStartChar") (e0 : T0.heap = h0) :
    own_Go p e below s (own_Qp (some (.int (f1_196  x0 y0))) h0) 0 0 (T0.setTop (mkF m 196 #[.val (.int x0)] [(.int y0)])) := by
  have hf : f1_196  x0 y0 = (nar .boolean y0) := rfl
  exact own_retN (t := .boolean) (by simp) X0 hx hlk hret (z' := (nar .boolean y0)) rfl (hb hby d1_196) ⟨by rw [hf], rfl, e0⟩ (by decide) (by decide)
def f1_191  (x0 : Int32) : Int32 := (f1_196  x0 (1 : Int32))
set_option maxRecDepth 65536 in
set_option maxHeartbeats 40000000 in
theorem bk1_191 (l : Launch) (Z : State) (a0 : Array Value) (hw : ∀ d ∈ tables_1, d.before a0 Z = true) (h0 : Heap)     (x0 : Int32)  {p : Program} {e : Env} {s : State} {m : MethodId} {args : Array Value} {below : List Frame} {meth : Method} {c : Code} {T0 : State}
    (X0 : Stand p l e ({ frames := 0, cells := 0, slots := 0, locals := 0 } : Room) s m args below meth c T0 [] 0 0) (hx : p.tables.exec = Jvm.exec) (hby : c.code = prog_15_method_4_code) (hml : c.maxLocals = 1) (hret : meth.sig.returnType = (some .boolean)) (hlk : meth.locks = false) (hZ : Z.Warmed39 s.vm) (hown : s.vm.findClass "com/example/siegelbund/siegelbund/core/xml/XmlChars" = some m.cls) (hnm : meth.name = "isNcNameStartChar") (e0 : T0.heap = h0) :
    own_Go p e below s (own_Qp (some (.int (f1_191  x0))) h0) 0 0 (T0.setTop (mkF m 191 #[.val (.int x0)] [])) := by
  have hf : f1_191  x0 = (f1_196  x0 (1 : Int32)) := rfl
  refine own_by (B := T0.setTop (mkF m 192 #[.val (.int x0)] [(.int (1 : Int32))])) (fun t k => XS.iconst X0.here hx rfl (hb hby d1_191) k) ?_
  refine own_by (B := T0.setTop (mkF m 196 #[.val (.int x0)] [(.int (1 : Int32))])) (fun t k => XS.goto X0.here hx rfl (pc0 := 192) (pc' := 196) rfl (hb hby d1_192) (by decide) (by decide) k) ?_
  rw [hf]
  exact bk1_196 l Z a0 hw h0   x0 (1 : Int32)  X0 hx hby hml hret hlk hZ hown hnm e0
def f1_195  (x0 : Int32) : Int32 := (f1_196  x0 (0 : Int32))
set_option maxRecDepth 65536 in
set_option maxHeartbeats 40000000 in
theorem bk1_195 (l : Launch) (Z : State) (a0 : Array Value) (hw : ∀ d ∈ tables_1, d.before a0 Z = true) (h0 : Heap)     (x0 : Int32)  {p : Program} {e : Env} {s : State} {m : MethodId} {args : Array Value} {below : List Frame} {meth : Method} {c : Code} {T0 : State}
    (X0 : Stand p l e ({ frames := 0, cells := 0, slots := 0, locals := 0 } : Room) s m args below meth c T0 [] 0 0) (hx : p.tables.exec = Jvm.exec) (hby : c.code = prog_15_method_4_code) (hml : c.maxLocals = 1) (hret : meth.sig.returnType = (some .boolean)) (hlk : meth.locks = false) (hZ : Z.Warmed39 s.vm) (hown : s.vm.findClass "com/example/siegelbund/siegelbund/core/xml/XmlChars" = some m.cls) (hnm : meth.name = "isNcNameStartChar") (e0 : T0.heap = h0) :
    own_Go p e below s (own_Qp (some (.int (f1_195  x0))) h0) 0 0 (T0.setTop (mkF m 195 #[.val (.int x0)] [])) := by
  have hf : f1_195  x0 = (f1_196  x0 (0 : Int32)) := rfl
  refine own_by (B := T0.setTop (mkF m 196 #[.val (.int x0)] [(.int (0 : Int32))])) (fun t k => XS.iconst X0.here hx rfl (hb hby d1_195) k) ?_
  rw [hf]
  exact bk1_196 l Z a0 hw h0   x0 (0 : Int32)  X0 hx hby hml hret hlk hZ hown hnm e0
def f1_179  (x0 : Int32) : Int32 := (if x0 < (65536 : Int32) then (f1_195  x0) else (if (983039 : Int32) < x0 then (f1_195  x0) else (f1_191  x0)))
set_option maxRecDepth 65536 in
set_option maxHeartbeats 40000000 in
theorem bk1_179 (l : Launch) (Z : State) (a0 : Array Value) (hw : ∀ d ∈ tables_1, d.before a0 Z = true) (h0 : Heap)     (x0 : Int32)  {p : Program} {e : Env} {s : State} {m : MethodId} {args : Array Value} {below : List Frame} {meth : Method} {c : Code} {T0 : State}
    (X0 : Stand p l e ({ frames := 0, cells := 0, slots := 0, locals := 0 } : Room) s m args below meth c T0 [] 0 0) (hx : p.tables.exec = Jvm.exec) (hby : c.code = prog_15_method_4_code) (hml : c.maxLocals = 1) (hret : meth.sig.returnType = (some .boolean)) (hlk : meth.locks = false) (hZ : Z.Warmed39 s.vm) (hown : s.vm.findClass "com/example/siegelbund/siegelbund/core/xml/XmlChars" = some m.cls) (hnm : meth.name = "isNcNameStartChar") (e0 : T0.heap = h0) :
    own_Go p e below s (own_Qp (some (.int (f1_179  x0))) h0) 0 0 (T0.setTop (mkF m 179 #[.val (.int x0)] [])) := by
  have hf : f1_179  x0 = (if x0 < (65536 : Int32) then (f1_195  x0) else (if (983039 : Int32) < x0 then (f1_195  x0) else (f1_191  x0))) := rfl
  refine own_by (B := T0.setTop (mkF m 180 #[.val (.int x0)] [(.int x0)])) (fun t k => XS.iloadN X0.here hx rfl (hb hby d1_179) rfl k) ?_
  refine own_by (B := T0.setTop (mkF m 182 #[.val (.int x0)] [(.int (65536 : Int32)), (.int x0)])) (fun t k => X0.ldcInt hx hown (mvT hZ (hw _ (List.mem_of_getElem? (i := 15) rfl))) (g := (mkF m 180 #[.val (.int x0)] [(.int x0)])) rfl (hb hby d1_180) _ k) ?_
  by_cases hc1 : x0 < (65536 : Int32)
  ·
    rw [if_pos hc1] at hf
    refine own_by (B := T0.setTop (mkF m 195 #[.val (.int x0)] [])) (fun t k => XS.icmpYes X0.here hx rfl (pc0 := 182) (pc' := 195) rfl (hb hby d1_182) rfl (tlt hc1).1 (by decide) (by decide) k) ?_
    rw [hf]
    exact bk1_195 l Z a0 hw h0   x0  X0 hx hby hml hret hlk hZ hown hnm e0
  ·
    rw [if_neg hc1] at hf
    refine own_by (B := T0.setTop (mkF m 185 #[.val (.int x0)] [])) (fun t k => XS.icmpNo X0.here hx rfl (hb hby d1_182) rfl (flt hc1).1 k) ?_
    refine own_by (B := T0.setTop (mkF m 186 #[.val (.int x0)] [(.int x0)])) (fun t k => XS.iloadN X0.here hx rfl (hb hby d1_185) rfl k) ?_
    refine own_by (B := T0.setTop (mkF m 188 #[.val (.int x0)] [(.int (983039 : Int32)), (.int x0)])) (fun t k => X0.ldcInt hx hown (mvT hZ (hw _ (List.mem_of_getElem? (i := 26) rfl))) (g := (mkF m 186 #[.val (.int x0)] [(.int x0)])) rfl (hb hby d1_186) _ k) ?_
    by_cases hc2 : (983039 : Int32) < x0
    ·
      rw [if_pos hc2] at hf
      refine own_by (B := T0.setTop (mkF m 195 #[.val (.int x0)] [])) (fun t k => XS.icmpYes X0.here hx rfl (pc0 := 188) (pc' := 195) rfl (hb hby d1_188) rfl (tlt hc2).2.2.1 (by decide) (by decide) k) ?_
      rw [hf]
      exact bk1_195 l Z a0 hw h0   x0  X0 hx hby hml hret hlk hZ hown hnm e0
    ·
      rw [if_neg hc2] at hf
      refine own_by (B := T0.setTop (mkF m 191 #[.val (.int x0)] [])) (fun t k => XS.icmpNo X0.here hx rfl (hb hby d1_188) rfl (flt hc2).2.2.1 k) ?_
      rw [hf]
      exact bk1_191 l Z a0 hw h0   x0  X0 hx hby hml hret hlk hZ hown hnm e0
def f1_167  (x0 : Int32) : Int32 := (if x0 < (65008 : Int32) then (f1_179  x0) else (if (65533 : Int32) < x0 then (f1_179  x0) else (f1_191  x0)))
set_option maxRecDepth 65536 in
set_option maxHeartbeats 40000000 in
theorem bk1_167 (l : Launch) (Z : State) (a0 : Array Value) (hw : ∀ d ∈ tables_1, d.before a0 Z = true) (h0 : Heap)     (x0 : Int32)  {p : Program} {e : Env} {s : State} {m : MethodId} {args : Array Value} {below : List Frame} {meth : Method} {c : Code} {T0 : State}
    (X0 : Stand p l e ({ frames := 0, cells := 0, slots := 0, locals := 0 } : Room) s m args below meth c T0 [] 0 0) (hx : p.tables.exec = Jvm.exec) (hby : c.code = prog_15_method_4_code) (hml : c.maxLocals = 1) (hret : meth.sig.returnType = (some .boolean)) (hlk : meth.locks = false) (hZ : Z.Warmed39 s.vm) (hown : s.vm.findClass "com/example/siegelbund/siegelbund/core/xml/XmlChars" = some m.cls) (hnm : meth.name = "isNcNameStartChar") (e0 : T0.heap = h0) :
    own_Go p e below s (own_Qp (some (.int (f1_167  x0))) h0) 0 0 (T0.setTop (mkF m 167 #[.val (.int x0)] [])) := by
  have hf : f1_167  x0 = (if x0 < (65008 : Int32) then (f1_179  x0) else (if (65533 : Int32) < x0 then (f1_179  x0) else (f1_191  x0))) := rfl
  refine own_by (B := T0.setTop (mkF m 168 #[.val (.int x0)] [(.int x0)])) (fun t k => XS.iloadN X0.here hx rfl (hb hby d1_167) rfl k) ?_
  refine own_by (B := T0.setTop (mkF m 170 #[.val (.int x0)] [(.int (65008 : Int32)), (.int x0)])) (fun t k => X0.ldcInt hx hown (mvT hZ (hw _ (List.mem_of_getElem? (i := 14) rfl))) (g := (mkF m 168 #[.val (.int x0)] [(.int x0)])) rfl (hb hby d1_168) _ k) ?_
  by_cases hc1 : x0 < (65008 : Int32)
  ·
    rw [if_pos hc1] at hf
    refine own_by (B := T0.setTop (mkF m 179 #[.val (.int x0)] [])) (fun t k => XS.icmpYes X0.here hx rfl (pc0 := 170) (pc' := 179) rfl (hb hby d1_170) rfl (tlt hc1).1 (by decide) (by decide) k) ?_
    rw [hf]
    exact bk1_179 l Z a0 hw h0   x0  X0 hx hby hml hret hlk hZ hown hnm e0
  ·
    rw [if_neg hc1] at hf
    refine own_by (B := T0.setTop (mkF m 173 #[.val (.int x0)] [])) (fun t k => XS.icmpNo X0.here hx rfl (hb hby d1_170) rfl (flt hc1).1 k) ?_
    refine own_by (B := T0.setTop (mkF m 174 #[.val (.int x0)] [(.int x0)])) (fun t k => XS.iloadN X0.here hx rfl (hb hby d1_173) rfl k) ?_
    refine own_by (B := T0.setTop (mkF m 176 #[.val (.int x0)] [(.int (65533 : Int32)), (.int x0)])) (fun t k => X0.ldcInt hx hown (mvT hZ (hw _ (List.mem_of_getElem? (i := 25) rfl))) (g := (mkF m 174 #[.val (.int x0)] [(.int x0)])) rfl (hb hby d1_174) _ k) ?_
    by_cases hc2 : (65533 : Int32) < x0
    ·
      rw [if_pos hc2] at hf
      refine own_by (B := T0.setTop (mkF m 179 #[.val (.int x0)] [])) (fun t k => XS.icmpNo X0.here hx rfl (hb hby d1_176) rfl (tlt hc2).2.2.2 k) ?_
      rw [hf]
      exact bk1_179 l Z a0 hw h0   x0  X0 hx hby hml hret hlk hZ hown hnm e0
    ·
      rw [if_neg hc2] at hf
      refine own_by (B := T0.setTop (mkF m 191 #[.val (.int x0)] [])) (fun t k => XS.icmpYes X0.here hx rfl (pc0 := 176) (pc' := 191) rfl (hb hby d1_176) rfl (flt hc2).2.2.2 (by decide) (by decide) k) ?_
      rw [hf]
      exact bk1_191 l Z a0 hw h0   x0  X0 hx hby hml hret hlk hZ hown hnm e0
def f1_155  (x0 : Int32) : Int32 := (if x0 < (63744 : Int32) then (f1_167  x0) else (if (64975 : Int32) < x0 then (f1_167  x0) else (f1_191  x0)))
set_option maxRecDepth 65536 in
set_option maxHeartbeats 40000000 in
theorem bk1_155 (l : Launch) (Z : State) (a0 : Array Value) (hw : ∀ d ∈ tables_1, d.before a0 Z = true) (h0 : Heap)     (x0 : Int32)  {p : Program} {e : Env} {s : State} {m : MethodId} {args : Array Value} {below : List Frame} {meth : Method} {c : Code} {T0 : State}
    (X0 : Stand p l e ({ frames := 0, cells := 0, slots := 0, locals := 0 } : Room) s m args below meth c T0 [] 0 0) (hx : p.tables.exec = Jvm.exec) (hby : c.code = prog_15_method_4_code) (hml : c.maxLocals = 1) (hret : meth.sig.returnType = (some .boolean)) (hlk : meth.locks = false) (hZ : Z.Warmed39 s.vm) (hown : s.vm.findClass "com/example/siegelbund/siegelbund/core/xml/XmlChars" = some m.cls) (hnm : meth.name = "isNcNameStartChar") (e0 : T0.heap = h0) :
    own_Go p e below s (own_Qp (some (.int (f1_155  x0))) h0) 0 0 (T0.setTop (mkF m 155 #[.val (.int x0)] [])) := by
  have hf : f1_155  x0 = (if x0 < (63744 : Int32) then (f1_167  x0) else (if (64975 : Int32) < x0 then (f1_167  x0) else (f1_191  x0))) := rfl
  refine own_by (B := T0.setTop (mkF m 156 #[.val (.int x0)] [(.int x0)])) (fun t k => XS.iloadN X0.here hx rfl (hb hby d1_155) rfl k) ?_
  refine own_by (B := T0.setTop (mkF m 158 #[.val (.int x0)] [(.int (63744 : Int32)), (.int x0)])) (fun t k => X0.ldcInt hx hown (mvT hZ (hw _ (List.mem_of_getElem? (i := 13) rfl))) (g := (mkF m 156 #[.val (.int x0)] [(.int x0)])) rfl (hb hby d1_156) _ k) ?_
  by_cases hc1 : x0 < (63744 : Int32)
  ·
    rw [if_pos hc1] at hf
    refine own_by (B := T0.setTop (mkF m 167 #[.val (.int x0)] [])) (fun t k => XS.icmpYes X0.here hx rfl (pc0 := 158) (pc' := 167) rfl (hb hby d1_158) rfl (tlt hc1).1 (by decide) (by decide) k) ?_
    rw [hf]
    exact bk1_167 l Z a0 hw h0   x0  X0 hx hby hml hret hlk hZ hown hnm e0
  ·
    rw [if_neg hc1] at hf
    refine own_by (B := T0.setTop (mkF m 161 #[.val (.int x0)] [])) (fun t k => XS.icmpNo X0.here hx rfl (hb hby d1_158) rfl (flt hc1).1 k) ?_
    refine own_by (B := T0.setTop (mkF m 162 #[.val (.int x0)] [(.int x0)])) (fun t k => XS.iloadN X0.here hx rfl (hb hby d1_161) rfl k) ?_
    refine own_by (B := T0.setTop (mkF m 164 #[.val (.int x0)] [(.int (64975 : Int32)), (.int x0)])) (fun t k => X0.ldcInt hx hown (mvT hZ (hw _ (List.mem_of_getElem? (i := 24) rfl))) (g := (mkF m 162 #[.val (.int x0)] [(.int x0)])) rfl (hb hby d1_162) _ k) ?_
    by_cases hc2 : (64975 : Int32) < x0
    ·
      rw [if_pos hc2] at hf
      refine own_by (B := T0.setTop (mkF m 167 #[.val (.int x0)] [])) (fun t k => XS.icmpNo X0.here hx rfl (hb hby d1_164) rfl (tlt hc2).2.2.2 k) ?_
      rw [hf]
      exact bk1_167 l Z a0 hw h0   x0  X0 hx hby hml hret hlk hZ hown hnm e0
    ·
      rw [if_neg hc2] at hf
      refine own_by (B := T0.setTop (mkF m 191 #[.val (.int x0)] [])) (fun t k => XS.icmpYes X0.here hx rfl (pc0 := 164) (pc' := 191) rfl (hb hby d1_164) rfl (flt hc2).2.2.2 (by decide) (by decide) k) ?_
      rw [hf]
      exact bk1_191 l Z a0 hw h0   x0  X0 hx hby hml hret hlk hZ hown hnm e0
def f1_142  (x0 : Int32) : Int32 := (if x0 < (12289 : Int32) then (f1_155  x0) else (if (55295 : Int32) < x0 then (f1_155  x0) else (f1_191  x0)))
set_option maxRecDepth 65536 in
set_option maxHeartbeats 40000000 in
theorem bk1_142 (l : Launch) (Z : State) (a0 : Array Value) (hw : ∀ d ∈ tables_1, d.before a0 Z = true) (h0 : Heap)     (x0 : Int32)  {p : Program} {e : Env} {s : State} {m : MethodId} {args : Array Value} {below : List Frame} {meth : Method} {c : Code} {T0 : State}
    (X0 : Stand p l e ({ frames := 0, cells := 0, slots := 0, locals := 0 } : Room) s m args below meth c T0 [] 0 0) (hx : p.tables.exec = Jvm.exec) (hby : c.code = prog_15_method_4_code) (hml : c.maxLocals = 1) (hret : meth.sig.returnType = (some .boolean)) (hlk : meth.locks = false) (hZ : Z.Warmed39 s.vm) (hown : s.vm.findClass "com/example/siegelbund/siegelbund/core/xml/XmlChars" = some m.cls) (hnm : meth.name = "isNcNameStartChar") (e0 : T0.heap = h0) :
    own_Go p e below s (own_Qp (some (.int (f1_142  x0))) h0) 0 0 (T0.setTop (mkF m 142 #[.val (.int x0)] [])) := by
  have hf : f1_142  x0 = (if x0 < (12289 : Int32) then (f1_155  x0) else (if (55295 : Int32) < x0 then (f1_155  x0) else (f1_191  x0))) := rfl
  refine own_by (B := T0.setTop (mkF m 143 #[.val (.int x0)] [(.int x0)])) (fun t k => XS.iloadN X0.here hx rfl (hb hby d1_142) rfl k) ?_
  refine own_by (B := T0.setTop (mkF m 146 #[.val (.int x0)] [(.int (12289 : Int32)), (.int x0)])) (fun t k => XS.sipush X0.here hx rfl (hb hby d1_143) k) ?_
  by_cases hc1 : x0 < (12289 : Int32)
  ·
    rw [if_pos hc1] at hf
    refine own_by (B := T0.setTop (mkF m 155 #[.val (.int x0)] [])) (fun t k => XS.icmpYes X0.here hx rfl (pc0 := 146) (pc' := 155) rfl (hb hby d1_146) rfl (tlt hc1).1 (by decide) (by decide) k) ?_
    rw [hf]
    exact bk1_155 l Z a0 hw h0   x0  X0 hx hby hml hret hlk hZ hown hnm e0
  ·
    rw [if_neg hc1] at hf
    refine own_by (B := T0.setTop (mkF m 149 #[.val (.int x0)] [])) (fun t k => XS.icmpNo X0.here hx rfl (hb hby d1_146) rfl (flt hc1).1 k) ?_
    refine own_by (B := T0.setTop (mkF m 150 #[.val (.int x0)] [(.int x0)])) (fun t k => XS.iloadN X0.here hx rfl (hb hby d1_149) rfl k) ?_
    refine own_by (B := T0.setTop (mkF m 152 #[.val (.int x0)] [(.int (55295 : Int32)), (.int x0)])) (fun t k => X0.ldcInt hx hown (mvT hZ (hw _ (List.mem_of_getElem? (i := 23) rfl))) (g := (mkF m 150 #[.val (.int x0)] [(.int x0)])) rfl (hb hby d1_150) _ k) ?_
    by_cases hc2 : (55295 : Int32) < x0
    ·
      rw [if_pos hc2] at hf
      refine own_by (B := T0.setTop (mkF m 155 #[.val (.int x0)] [])) (fun t k => XS.icmpNo X0.here hx rfl (hb hby d1_152) rfl (tlt hc2).2.2.2 k) ?_
      rw [hf]
      exact bk1_155 l Z a0 hw h0   x0  X0 hx hby hml hret hlk hZ hown hnm e0
    ·
      rw [if_neg hc2] at hf
      refine own_by (B := T0.setTop (mkF m 191 #[.val (.int x0)] [])) (fun t k => XS.icmpYes X0.here hx rfl (pc0 := 152) (pc' := 191) rfl (hb hby d1_152) rfl (flt hc2).2.2.2 (by decide) (by decide) k) ?_
      rw [hf]
      exact bk1_191 l Z a0 hw h0   x0  X0 hx hby hml hret hlk hZ hown hnm e0
def f1_128  (x0 : Int32) : Int32 := (if x0 < (11264 : Int32) then (f1_142  x0) else (if (12271 : Int32) < x0 then (f1_142  x0) else (f1_191  x0)))
set_option maxRecDepth 65536 in
set_option maxHeartbeats 40000000 in
theorem bk1_128 (l : Launch) (Z : State) (a0 : Array Value) (hw : ∀ d ∈ tables_1, d.before a0 Z = true) (h0 : Heap)     (x0 : Int32)  {p : Program} {e : Env} {s : State} {m : MethodId} {args : Array Value} {below : List Frame} {meth : Method} {c : Code} {T0 : State}
    (X0 : Stand p l e ({ frames := 0, cells := 0, slots := 0, locals := 0 } : Room) s m args below meth c T0 [] 0 0) (hx : p.tables.exec = Jvm.exec) (hby : c.code = prog_15_method_4_code) (hml : c.maxLocals = 1) (hret : meth.sig.returnType = (some .boolean)) (hlk : meth.locks = false) (hZ : Z.Warmed39 s.vm) (hown : s.vm.findClass "com/example/siegelbund/siegelbund/core/xml/XmlChars" = some m.cls) (hnm : meth.name = "isNcNameStartChar") (e0 : T0.heap = h0) :
    own_Go p e below s (own_Qp (some (.int (f1_128  x0))) h0) 0 0 (T0.setTop (mkF m 128 #[.val (.int x0)] [])) := by
  have hf : f1_128  x0 = (if x0 < (11264 : Int32) then (f1_142  x0) else (if (12271 : Int32) < x0 then (f1_142  x0) else (f1_191  x0))) := rfl
  refine own_by (B := T0.setTop (mkF m 129 #[.val (.int x0)] [(.int x0)])) (fun t k => XS.iloadN X0.here hx rfl (hb hby d1_128) rfl k) ?_
  refine own_by (B := T0.setTop (mkF m 132 #[.val (.int x0)] [(.int (11264 : Int32)), (.int x0)])) (fun t k => XS.sipush X0.here hx rfl (hb hby d1_129) k) ?_
  by_cases hc1 : x0 < (11264 : Int32)
  ·
    rw [if_pos hc1] at hf
    refine own_by (B := T0.setTop (mkF m 142 #[.val (.int x0)] [])) (fun t k => XS.icmpYes X0.here hx rfl (pc0 := 132) (pc' := 142) rfl (hb hby d1_132) rfl (tlt hc1).1 (by decide) (by decide) k) ?_
    rw [hf]
    exact bk1_142 l Z a0 hw h0   x0  X0 hx hby hml hret hlk hZ hown hnm e0
  ·
    rw [if_neg hc1] at hf
    refine own_by (B := T0.setTop (mkF m 135 #[.val (.int x0)] [])) (fun t k => XS.icmpNo X0.here hx rfl (hb hby d1_132) rfl (flt hc1).1 k) ?_
    refine own_by (B := T0.setTop (mkF m 136 #[.val (.int x0)] [(.int x0)])) (fun t k => XS.iloadN X0.here hx rfl (hb hby d1_135) rfl k) ?_
    refine own_by (B := T0.setTop (mkF m 139 #[.val (.int x0)] [(.int (12271 : Int32)), (.int x0)])) (fun t k => XS.sipush X0.here hx rfl (hb hby d1_136) k) ?_
    by_cases hc2 : (12271 : Int32) < x0
    ·
      rw [if_pos hc2] at hf
      refine own_by (B := T0.setTop (mkF m 142 #[.val (.int x0)] [])) (fun t k => XS.icmpNo X0.here hx rfl (hb hby d1_139) rfl (tlt hc2).2.2.2 k) ?_
      rw [hf]
      exact bk1_142 l Z a0 hw h0   x0  X0 hx hby hml hret hlk hZ hown hnm e0
    ·
      rw [if_neg hc2] at hf
      refine own_by (B := T0.setTop (mkF m 191 #[.val (.int x0)] [])) (fun t k => XS.icmpYes X0.here hx rfl (pc0 := 139) (pc' := 191) rfl (hb hby d1_139) rfl (flt hc2).2.2.2 (by decide) (by decide) k) ?_
      rw [hf]
      exact bk1_191 l Z a0 hw h0   x0  X0 hx hby hml hret hlk hZ hown hnm e0
def f1_114  (x0 : Int32) : Int32 := (if x0 < (8304 : Int32) then (f1_128  x0) else (if (8591 : Int32) < x0 then (f1_128  x0) else (f1_191  x0)))
set_option maxRecDepth 65536 in
set_option maxHeartbeats 40000000 in
theorem bk1_114 (l : Launch) (Z : State) (a0 : Array Value) (hw : ∀ d ∈ tables_1, d.before a0 Z = true) (h0 : Heap)     (x0 : Int32)  {p : Program} {e : Env} {s : State} {m : MethodId} {args : Array Value} {below : List Frame} {meth : Method} {c : Code} {T0 : State}
    (X0 : Stand p l e ({ frames := 0, cells := 0, slots := 0, locals := 0 } : Room) s m args below meth c T0 [] 0 0) (hx : p.tables.exec = Jvm.exec) (hby : c.code = prog_15_method_4_code) (hml : c.maxLocals = 1) (hret : meth.sig.returnType = (some .boolean)) (hlk : meth.locks = false) (hZ : Z.Warmed39 s.vm) (hown : s.vm.findClass "com/example/siegelbund/siegelbund/core/xml/XmlChars" = some m.cls) (hnm : meth.name = "isNcNameStartChar") (e0 : T0.heap = h0) :
    own_Go p e below s (own_Qp (some (.int (f1_114  x0))) h0) 0 0 (T0.setTop (mkF m 114 #[.val (.int x0)] [])) := by
  have hf : f1_114  x0 = (if x0 < (8304 : Int32) then (f1_128  x0) else (if (8591 : Int32) < x0 then (f1_128  x0) else (f1_191  x0))) := rfl
  refine own_by (B := T0.setTop (mkF m 115 #[.val (.int x0)] [(.int x0)])) (fun t k => XS.iloadN X0.here hx rfl (hb hby d1_114) rfl k) ?_
  refine own_by (B := T0.setTop (mkF m 118 #[.val (.int x0)] [(.int (8304 : Int32)), (.int x0)])) (fun t k => XS.sipush X0.here hx rfl (hb hby d1_115) k) ?_
  by_cases hc1 : x0 < (8304 : Int32)
  ·
    rw [if_pos hc1] at hf
    refine own_by (B := T0.setTop (mkF m 128 #[.val (.int x0)] [])) (fun t k => XS.icmpYes X0.here hx rfl (pc0 := 118) (pc' := 128) rfl (hb hby d1_118) rfl (tlt hc1).1 (by decide) (by decide) k) ?_
    rw [hf]
    exact bk1_128 l Z a0 hw h0   x0  X0 hx hby hml hret hlk hZ hown hnm e0
  ·
    rw [if_neg hc1] at hf
    refine own_by (B := T0.setTop (mkF m 121 #[.val (.int x0)] [])) (fun t k => XS.icmpNo X0.here hx rfl (hb hby d1_118) rfl (flt hc1).1 k) ?_
    refine own_by (B := T0.setTop (mkF m 122 #[.val (.int x0)] [(.int x0)])) (fun t k => XS.iloadN X0.here hx rfl (hb hby d1_121) rfl k) ?_
    refine own_by (B := T0.setTop (mkF m 125 #[.val (.int x0)] [(.int (8591 : Int32)), (.int x0)])) (fun t k => XS.sipush X0.here hx rfl (hb hby d1_122) k) ?_
    by_cases hc2 : (8591 : Int32) < x0
    ·
      rw [if_pos hc2] at hf
      refine own_by (B := T0.setTop (mkF m 128 #[.val (.int x0)] [])) (fun t k => XS.icmpNo X0.here hx rfl (hb hby d1_125) rfl (tlt hc2).2.2.2 k) ?_
      rw [hf]
      exact bk1_128 l Z a0 hw h0   x0  X0 hx hby hml hret hlk hZ hown hnm e0
    ·
      rw [if_neg hc2] at hf
      refine own_by (B := T0.setTop (mkF m 191 #[.val (.int x0)] [])) (fun t k => XS.icmpYes X0.here hx rfl (pc0 := 125) (pc' := 191) rfl (hb hby d1_125) rfl (flt hc2).2.2.2 (by decide) (by decide) k) ?_
      rw [hf]
      exact bk1_191 l Z a0 hw h0   x0  X0 hx hby hml hret hlk hZ hown hnm e0
def f1_100  (x0 : Int32) : Int32 := (if x0 < (8204 : Int32) then (f1_114  x0) else (if (8205 : Int32) < x0 then (f1_114  x0) else (f1_191  x0)))
set_option maxRecDepth 65536 in
set_option maxHeartbeats 40000000 in
theorem bk1_100 (l : Launch) (Z : State) (a0 : Array Value) (hw : ∀ d ∈ tables_1, d.before a0 Z = true) (h0 : Heap)     (x0 : Int32)  {p : Program} {e : Env} {s : State} {m : MethodId} {args : Array Value} {below : List Frame} {meth : Method} {c : Code} {T0 : State}
    (X0 : Stand p l e ({ frames := 0, cells := 0, slots := 0, locals := 0 } : Room) s m args below meth c T0 [] 0 0) (hx : p.tables.exec = Jvm.exec) (hby : c.code = prog_15_method_4_code) (hml : c.maxLocals = 1) (hret : meth.sig.returnType = (some .boolean)) (hlk : meth.locks = false) (hZ : Z.Warmed39 s.vm) (hown : s.vm.findClass "com/example/siegelbund/siegelbund/core/xml/XmlChars" = some m.cls) (hnm : meth.name = "isNcNameStartChar") (e0 : T0.heap = h0) :
    own_Go p e below s (own_Qp (some (.int (f1_100  x0))) h0) 0 0 (T0.setTop (mkF m 100 #[.val (.int x0)] [])) := by
  have hf : f1_100  x0 = (if x0 < (8204 : Int32) then (f1_114  x0) else (if (8205 : Int32) < x0 then (f1_114  x0) else (f1_191  x0))) := rfl
  refine own_by (B := T0.setTop (mkF m 101 #[.val (.int x0)] [(.int x0)])) (fun t k => XS.iloadN X0.here hx rfl (hb hby d1_100) rfl k) ?_
  refine own_by (B := T0.setTop (mkF m 104 #[.val (.int x0)] [(.int (8204 : Int32)), (.int x0)])) (fun t k => XS.sipush X0.here hx rfl (hb hby d1_101) k) ?_
  by_cases hc1 : x0 < (8204 : Int32)
  ·
    rw [if_pos hc1] at hf
    refine own_by (B := T0.setTop (mkF m 114 #[.val (.int x0)] [])) (fun t k => XS.icmpYes X0.here hx rfl (pc0 := 104) (pc' := 114) rfl (hb hby d1_104) rfl (tlt hc1).1 (by decide) (by decide) k) ?_
    rw [hf]
    exact bk1_114 l Z a0 hw h0   x0  X0 hx hby hml hret hlk hZ hown hnm e0
  ·
    rw [if_neg hc1] at hf
    refine own_by (B := T0.setTop (mkF m 107 #[.val (.int x0)] [])) (fun t k => XS.icmpNo X0.here hx rfl (hb hby d1_104) rfl (flt hc1).1 k) ?_
    refine own_by (B := T0.setTop (mkF m 108 #[.val (.int x0)] [(.int x0)])) (fun t k => XS.iloadN X0.here hx rfl (hb hby d1_107) rfl k) ?_
    refine own_by (B := T0.setTop (mkF m 111 #[.val (.int x0)] [(.int (8205 : Int32)), (.int x0)])) (fun t k => XS.sipush X0.here hx rfl (hb hby d1_108) k) ?_
    by_cases hc2 : (8205 : Int32) < x0
    ·
      rw [if_pos hc2] at hf
      refine own_by (B := T0.setTop (mkF m 114 #[.val (.int x0)] [])) (fun t k => XS.icmpNo X0.here hx rfl (hb hby d1_111) rfl (tlt hc2).2.2.2 k) ?_
      rw [hf]
      exact bk1_114 l Z a0 hw h0   x0  X0 hx hby hml hret hlk hZ hown hnm e0
    ·
      rw [if_neg hc2] at hf
      refine own_by (B := T0.setTop (mkF m 191 #[.val (.int x0)] [])) (fun t k => XS.icmpYes X0.here hx rfl (pc0 := 111) (pc' := 191) rfl (hb hby d1_111) rfl (flt hc2).2.2.2 (by decide) (by decide) k) ?_
      rw [hf]
      exact bk1_191 l Z a0 hw h0   x0  X0 hx hby hml hret hlk hZ hown hnm e0
def f1_86  (x0 : Int32) : Int32 := (if x0 < (895 : Int32) then (f1_100  x0) else (if (8191 : Int32) < x0 then (f1_100  x0) else (f1_191  x0)))
set_option maxRecDepth 65536 in
set_option maxHeartbeats 40000000 in
theorem bk1_86 (l : Launch) (Z : State) (a0 : Array Value) (hw : ∀ d ∈ tables_1, d.before a0 Z = true) (h0 : Heap)     (x0 : Int32)  {p : Program} {e : Env} {s : State} {m : MethodId} {args : Array Value} {below : List Frame} {meth : Method} {c : Code} {T0 : State}
    (X0 : Stand p l e ({ frames := 0, cells := 0, slots := 0, locals := 0 } : Room) s m args below meth c T0 [] 0 0) (hx : p.tables.exec = Jvm.exec) (hby : c.code = prog_15_method_4_code) (hml : c.maxLocals = 1) (hret : meth.sig.returnType = (some .boolean)) (hlk : meth.locks = false) (hZ : Z.Warmed39 s.vm) (hown : s.vm.findClass "com/example/siegelbund/siegelbund/core/xml/XmlChars" = some m.cls) (hnm : meth.name = "isNcNameStartChar") (e0 : T0.heap = h0) :
    own_Go p e below s (own_Qp (some (.int (f1_86  x0))) h0) 0 0 (T0.setTop (mkF m 86 #[.val (.int x0)] [])) := by
  have hf : f1_86  x0 = (if x0 < (895 : Int32) then (f1_100  x0) else (if (8191 : Int32) < x0 then (f1_100  x0) else (f1_191  x0))) := rfl
  refine own_by (B := T0.setTop (mkF m 87 #[.val (.int x0)] [(.int x0)])) (fun t k => XS.iloadN X0.here hx rfl (hb hby d1_86) rfl k) ?_
  refine own_by (B := T0.setTop (mkF m 90 #[.val (.int x0)] [(.int (895 : Int32)), (.int x0)])) (fun t k => XS.sipush X0.here hx rfl (hb hby d1_87) k) ?_
  by_cases hc1 : x0 < (895 : Int32)
  ·
    rw [if_pos hc1] at hf
    refine own_by (B := T0.setTop (mkF m 100 #[.val (.int x0)] [])) (fun t k => XS.icmpYes X0.here hx rfl (pc0 := 90) (pc' := 100) rfl (hb hby d1_90) rfl (tlt hc1).1 (by decide) (by decide) k) ?_
    rw [hf]
    exact bk1_100 l Z a0 hw h0   x0  X0 hx hby hml hret hlk hZ hown hnm e0
  ·
    rw [if_neg hc1] at hf
    refine own_by (B := T0.setTop (mkF m 93 #[.val (.int x0)] [])) (fun t k => XS.icmpNo X0.here hx rfl (hb hby d1_90) rfl (flt hc1).1 k) ?_
    refine own_by (B := T0.setTop (mkF m 94 #[.val (.int x0)] [(.int x0)])) (fun t k => XS.iloadN X0.here hx rfl (hb hby d1_93) rfl k) ?_
    refine own_by (B := T0.setTop (mkF m 97 #[.val (.int x0)] [(.int (8191 : Int32)), (.int x0)])) (fun t k => XS.sipush X0.here hx rfl (hb hby d1_94) k) ?_
    by_cases hc2 : (8191 : Int32) < x0
    ·
      rw [if_pos hc2] at hf
      refine own_by (B := T0.setTop (mkF m 100 #[.val (.int x0)] [])) (fun t k => XS.icmpNo X0.here hx rfl (hb hby d1_97) rfl (tlt hc2).2.2.2 k) ?_
      rw [hf]
      exact bk1_100 l Z a0 hw h0   x0  X0 hx hby hml hret hlk hZ hown hnm e0
    ·
      rw [if_neg hc2] at hf
      refine own_by (B := T0.setTop (mkF m 191 #[.val (.int x0)] [])) (fun t k => XS.icmpYes X0.here hx rfl (pc0 := 97) (pc' := 191) rfl (hb hby d1_97) rfl (flt hc2).2.2.2 (by decide) (by decide) k) ?_
      rw [hf]
      exact bk1_191 l Z a0 hw h0   x0  X0 hx hby hml hret hlk hZ hown hnm e0
def f1_72  (x0 : Int32) : Int32 := (if x0 < (880 : Int32) then (f1_86  x0) else (if (893 : Int32) < x0 then (f1_86  x0) else (f1_191  x0)))
set_option maxRecDepth 65536 in
set_option maxHeartbeats 40000000 in
theorem bk1_72 (l : Launch) (Z : State) (a0 : Array Value) (hw : ∀ d ∈ tables_1, d.before a0 Z = true) (h0 : Heap)     (x0 : Int32)  {p : Program} {e : Env} {s : State} {m : MethodId} {args : Array Value} {below : List Frame} {meth : Method} {c : Code} {T0 : State}
    (X0 : Stand p l e ({ frames := 0, cells := 0, slots := 0, locals := 0 } : Room) s m args below meth c T0 [] 0 0) (hx : p.tables.exec = Jvm.exec) (hby : c.code = prog_15_method_4_code) (hml : c.maxLocals = 1) (hret : meth.sig.returnType = (some .boolean)) (hlk : meth.locks = false) (hZ : Z.Warmed39 s.vm) (hown : s.vm.findClass "com/example/siegelbund/siegelbund/core/xml/XmlChars" = some m.cls) (hnm : meth.name = "isNcNameStartChar") (e0 : T0.heap = h0) :
    own_Go p e below s (own_Qp (some (.int (f1_72  x0))) h0) 0 0 (T0.setTop (mkF m 72 #[.val (.int x0)] [])) := by
  have hf : f1_72  x0 = (if x0 < (880 : Int32) then (f1_86  x0) else (if (893 : Int32) < x0 then (f1_86  x0) else (f1_191  x0))) := rfl
  refine own_by (B := T0.setTop (mkF m 73 #[.val (.int x0)] [(.int x0)])) (fun t k => XS.iloadN X0.here hx rfl (hb hby d1_72) rfl k) ?_
  refine own_by (B := T0.setTop (mkF m 76 #[.val (.int x0)] [(.int (880 : Int32)), (.int x0)])) (fun t k => XS.sipush X0.here hx rfl (hb hby d1_73) k) ?_
  by_cases hc1 : x0 < (880 : Int32)
  ·
    rw [if_pos hc1] at hf
    refine own_by (B := T0.setTop (mkF m 86 #[.val (.int x0)] [])) (fun t k => XS.icmpYes X0.here hx rfl (pc0 := 76) (pc' := 86) rfl (hb hby d1_76) rfl (tlt hc1).1 (by decide) (by decide) k) ?_
    rw [hf]
    exact bk1_86 l Z a0 hw h0   x0  X0 hx hby hml hret hlk hZ hown hnm e0
  ·
    rw [if_neg hc1] at hf
    refine own_by (B := T0.setTop (mkF m 79 #[.val (.int x0)] [])) (fun t k => XS.icmpNo X0.here hx rfl (hb hby d1_76) rfl (flt hc1).1 k) ?_
    refine own_by (B := T0.setTop (mkF m 80 #[.val (.int x0)] [(.int x0)])) (fun t k => XS.iloadN X0.here hx rfl (hb hby d1_79) rfl k) ?_
    refine own_by (B := T0.setTop (mkF m 83 #[.val (.int x0)] [(.int (893 : Int32)), (.int x0)])) (fun t k => XS.sipush X0.here hx rfl (hb hby d1_80) k) ?_
    by_cases hc2 : (893 : Int32) < x0
    ·
      rw [if_pos hc2] at hf
      refine own_by (B := T0.setTop (mkF m 86 #[.val (.int x0)] [])) (fun t k => XS.icmpNo X0.here hx rfl (hb hby d1_83) rfl (tlt hc2).2.2.2 k) ?_
      rw [hf]
      exact bk1_86 l Z a0 hw h0   x0  X0 hx hby hml hret hlk hZ hown hnm e0
    ·
      rw [if_neg hc2] at hf
      refine own_by (B := T0.setTop (mkF m 191 #[.val (.int x0)] [])) (fun t k => XS.icmpYes X0.here hx rfl (pc0 := 83) (pc' := 191) rfl (hb hby d1_83) rfl (flt hc2).2.2.2 (by decide) (by decide) k) ?_
      rw [hf]
      exact bk1_191 l Z a0 hw h0   x0  X0 hx hby hml hret hlk hZ hown hnm e0
def f1_58  (x0 : Int32) : Int32 := (if x0 < (248 : Int32) then (f1_72  x0) else (if (767 : Int32) < x0 then (f1_72  x0) else (f1_191  x0)))
set_option maxRecDepth 65536 in
set_option maxHeartbeats 40000000 in
theorem bk1_58 (l : Launch) (Z : State) (a0 : Array Value) (hw : ∀ d ∈ tables_1, d.before a0 Z = true) (h0 : Heap)     (x0 : Int32)  {p : Program} {e : Env} {s : State} {m : MethodId} {args : Array Value} {below : List Frame} {meth : Method} {c : Code} {T0 : State}
    (X0 : Stand p l e ({ frames := 0, cells := 0, slots := 0, locals := 0 } : Room) s m args below meth c T0 [] 0 0) (hx : p.tables.exec = Jvm.exec) (hby : c.code = prog_15_method_4_code) (hml : c.maxLocals = 1) (hret : meth.sig.returnType = (some .boolean)) (hlk : meth.locks = false) (hZ : Z.Warmed39 s.vm) (hown : s.vm.findClass "com/example/siegelbund/siegelbund/core/xml/XmlChars" = some m.cls) (hnm : meth.name = "isNcNameStartChar") (e0 : T0.heap = h0) :
    own_Go p e below s (own_Qp (some (.int (f1_58  x0))) h0) 0 0 (T0.setTop (mkF m 58 #[.val (.int x0)] [])) := by
  have hf : f1_58  x0 = (if x0 < (248 : Int32) then (f1_72  x0) else (if (767 : Int32) < x0 then (f1_72  x0) else (f1_191  x0))) := rfl
  refine own_by (B := T0.setTop (mkF m 59 #[.val (.int x0)] [(.int x0)])) (fun t k => XS.iloadN X0.here hx rfl (hb hby d1_58) rfl k) ?_
  refine own_by (B := T0.setTop (mkF m 62 #[.val (.int x0)] [(.int (248 : Int32)), (.int x0)])) (fun t k => XS.sipush X0.here hx rfl (hb hby d1_59) k) ?_
  by_cases hc1 : x0 < (248 : Int32)
  ·
    rw [if_pos hc1] at hf
    refine own_by (B := T0.setTop (mkF m 72 #[.val (.int x0)] [])) (fun t k => XS.icmpYes X0.here hx rfl (pc0 := 62) (pc' := 72) rfl (hb hby d1_62) rfl (tlt hc1).1 (by decide) (by decide) k) ?_
    rw [hf]
    exact bk1_72 l Z a0 hw h0   x0  X0 hx hby hml hret hlk hZ hown hnm e0
  ·
    rw [if_neg hc1] at hf
    refine own_by (B := T0.setTop (mkF m 65 #[.val (.int x0)] [])) (fun t k => XS.icmpNo X0.here hx rfl (hb hby d1_62) rfl (flt hc1).1 k) ?_
    refine own_by (B := T0.setTop (mkF m 66 #[.val (.int x0)] [(.int x0)])) (fun t k => XS.iloadN X0.here hx rfl (hb hby d1_65) rfl k) ?_
    refine own_by (B := T0.setTop (mkF m 69 #[.val (.int x0)] [(.int (767 : Int32)), (.int x0)])) (fun t k => XS.sipush X0.here hx rfl (hb hby d1_66) k) ?_
    by_cases hc2 : (767 : Int32) < x0
    ·
      rw [if_pos hc2] at hf
      refine own_by (B := T0.setTop (mkF m 72 #[.val (.int x0)] [])) (fun t k => XS.icmpNo X0.here hx rfl (hb hby d1_69) rfl (tlt hc2).2.2.2 k) ?_
      rw [hf]
      exact bk1_72 l Z a0 hw h0   x0  X0 hx hby hml hret hlk hZ hown hnm e0
    ·
      rw [if_neg hc2] at hf
      refine own_by (B := T0.setTop (mkF m 191 #[.val (.int x0)] [])) (fun t k => XS.icmpYes X0.here hx rfl (pc0 := 69) (pc' := 191) rfl (hb hby d1_69) rfl (flt hc2).2.2.2 (by decide) (by decide) k) ?_
      rw [hf]
      exact bk1_191 l Z a0 hw h0   x0  X0 hx hby hml hret hlk hZ hown hnm e0
def f1_44  (x0 : Int32) : Int32 := (if x0 < (216 : Int32) then (f1_58  x0) else (if (246 : Int32) < x0 then (f1_58  x0) else (f1_191  x0)))
set_option maxRecDepth 65536 in
set_option maxHeartbeats 40000000 in
theorem bk1_44 (l : Launch) (Z : State) (a0 : Array Value) (hw : ∀ d ∈ tables_1, d.before a0 Z = true) (h0 : Heap)     (x0 : Int32)  {p : Program} {e : Env} {s : State} {m : MethodId} {args : Array Value} {below : List Frame} {meth : Method} {c : Code} {T0 : State}
    (X0 : Stand p l e ({ frames := 0, cells := 0, slots := 0, locals := 0 } : Room) s m args below meth c T0 [] 0 0) (hx : p.tables.exec = Jvm.exec) (hby : c.code = prog_15_method_4_code) (hml : c.maxLocals = 1) (hret : meth.sig.returnType = (some .boolean)) (hlk : meth.locks = false) (hZ : Z.Warmed39 s.vm) (hown : s.vm.findClass "com/example/siegelbund/siegelbund/core/xml/XmlChars" = some m.cls) (hnm : meth.name = "isNcNameStartChar") (e0 : T0.heap = h0) :
    own_Go p e below s (own_Qp (some (.int (f1_44  x0))) h0) 0 0 (T0.setTop (mkF m 44 #[.val (.int x0)] [])) := by
  have hf : f1_44  x0 = (if x0 < (216 : Int32) then (f1_58  x0) else (if (246 : Int32) < x0 then (f1_58  x0) else (f1_191  x0))) := rfl
  refine own_by (B := T0.setTop (mkF m 45 #[.val (.int x0)] [(.int x0)])) (fun t k => XS.iloadN X0.here hx rfl (hb hby d1_44) rfl k) ?_
  refine own_by (B := T0.setTop (mkF m 48 #[.val (.int x0)] [(.int (216 : Int32)), (.int x0)])) (fun t k => XS.sipush X0.here hx rfl (hb hby d1_45) k) ?_
  by_cases hc1 : x0 < (216 : Int32)
  ·
    rw [if_pos hc1] at hf
    refine own_by (B := T0.setTop (mkF m 58 #[.val (.int x0)] [])) (fun t k => XS.icmpYes X0.here hx rfl (pc0 := 48) (pc' := 58) rfl (hb hby d1_48) rfl (tlt hc1).1 (by decide) (by decide) k) ?_
    rw [hf]
    exact bk1_58 l Z a0 hw h0   x0  X0 hx hby hml hret hlk hZ hown hnm e0
  ·
    rw [if_neg hc1] at hf
    refine own_by (B := T0.setTop (mkF m 51 #[.val (.int x0)] [])) (fun t k => XS.icmpNo X0.here hx rfl (hb hby d1_48) rfl (flt hc1).1 k) ?_
    refine own_by (B := T0.setTop (mkF m 52 #[.val (.int x0)] [(.int x0)])) (fun t k => XS.iloadN X0.here hx rfl (hb hby d1_51) rfl k) ?_
    refine own_by (B := T0.setTop (mkF m 55 #[.val (.int x0)] [(.int (246 : Int32)), (.int x0)])) (fun t k => XS.sipush X0.here hx rfl (hb hby d1_52) k) ?_
    by_cases hc2 : (246 : Int32) < x0
    ·
      rw [if_pos hc2] at hf
      refine own_by (B := T0.setTop (mkF m 58 #[.val (.int x0)] [])) (fun t k => XS.icmpNo X0.here hx rfl (hb hby d1_55) rfl (tlt hc2).2.2.2 k) ?_
      rw [hf]
      exact bk1_58 l Z a0 hw h0   x0  X0 hx hby hml hret hlk hZ hown hnm e0
    ·
      rw [if_neg hc2] at hf
      refine own_by (B := T0.setTop (mkF m 191 #[.val (.int x0)] [])) (fun t k => XS.icmpYes X0.here hx rfl (pc0 := 55) (pc' := 191) rfl (hb hby d1_55) rfl (flt hc2).2.2.2 (by decide) (by decide) k) ?_
      rw [hf]
      exact bk1_191 l Z a0 hw h0   x0  X0 hx hby hml hret hlk hZ hown hnm e0
def f1_30  (x0 : Int32) : Int32 := (if x0 < (192 : Int32) then (f1_44  x0) else (if (214 : Int32) < x0 then (f1_44  x0) else (f1_191  x0)))
set_option maxRecDepth 65536 in
set_option maxHeartbeats 40000000 in
theorem bk1_30 (l : Launch) (Z : State) (a0 : Array Value) (hw : ∀ d ∈ tables_1, d.before a0 Z = true) (h0 : Heap)     (x0 : Int32)  {p : Program} {e : Env} {s : State} {m : MethodId} {args : Array Value} {below : List Frame} {meth : Method} {c : Code} {T0 : State}
    (X0 : Stand p l e ({ frames := 0, cells := 0, slots := 0, locals := 0 } : Room) s m args below meth c T0 [] 0 0) (hx : p.tables.exec = Jvm.exec) (hby : c.code = prog_15_method_4_code) (hml : c.maxLocals = 1) (hret : meth.sig.returnType = (some .boolean)) (hlk : meth.locks = false) (hZ : Z.Warmed39 s.vm) (hown : s.vm.findClass "com/example/siegelbund/siegelbund/core/xml/XmlChars" = some m.cls) (hnm : meth.name = "isNcNameStartChar") (e0 : T0.heap = h0) :
    own_Go p e below s (own_Qp (some (.int (f1_30  x0))) h0) 0 0 (T0.setTop (mkF m 30 #[.val (.int x0)] [])) := by
  have hf : f1_30  x0 = (if x0 < (192 : Int32) then (f1_44  x0) else (if (214 : Int32) < x0 then (f1_44  x0) else (f1_191  x0))) := rfl
  refine own_by (B := T0.setTop (mkF m 31 #[.val (.int x0)] [(.int x0)])) (fun t k => XS.iloadN X0.here hx rfl (hb hby d1_30) rfl k) ?_
  refine own_by (B := T0.setTop (mkF m 34 #[.val (.int x0)] [(.int (192 : Int32)), (.int x0)])) (fun t k => XS.sipush X0.here hx rfl (hb hby d1_31) k) ?_
  by_cases hc1 : x0 < (192 : Int32)
  ·
    rw [if_pos hc1] at hf
    refine own_by (B := T0.setTop (mkF m 44 #[.val (.int x0)] [])) (fun t k => XS.icmpYes X0.here hx rfl (pc0 := 34) (pc' := 44) rfl (hb hby d1_34) rfl (tlt hc1).1 (by decide) (by decide) k) ?_
    rw [hf]
    exact bk1_44 l Z a0 hw h0   x0  X0 hx hby hml hret hlk hZ hown hnm e0
  ·
    rw [if_neg hc1] at hf
    refine own_by (B := T0.setTop (mkF m 37 #[.val (.int x0)] [])) (fun t k => XS.icmpNo X0.here hx rfl (hb hby d1_34) rfl (flt hc1).1 k) ?_
    refine own_by (B := T0.setTop (mkF m 38 #[.val (.int x0)] [(.int x0)])) (fun t k => XS.iloadN X0.here hx rfl (hb hby d1_37) rfl k) ?_
    refine own_by (B := T0.setTop (mkF m 41 #[.val (.int x0)] [(.int (214 : Int32)), (.int x0)])) (fun t k => XS.sipush X0.here hx rfl (hb hby d1_38) k) ?_
    by_cases hc2 : (214 : Int32) < x0
    ·
      rw [if_pos hc2] at hf
      refine own_by (B := T0.setTop (mkF m 44 #[.val (.int x0)] [])) (fun t k => XS.icmpNo X0.here hx rfl (hb hby d1_41) rfl (tlt hc2).2.2.2 k) ?_
      rw [hf]
      exact bk1_44 l Z a0 hw h0   x0  X0 hx hby hml hret hlk hZ hown hnm e0
    ·
      rw [if_neg hc2] at hf
      refine own_by (B := T0.setTop (mkF m 191 #[.val (.int x0)] [])) (fun t k => XS.icmpYes X0.here hx rfl (pc0 := 41) (pc' := 191) rfl (hb hby d1_41) rfl (flt hc2).2.2.2 (by decide) (by decide) k) ?_
      rw [hf]
      exact bk1_191 l Z a0 hw h0   x0  X0 hx hby hml hret hlk hZ hown hnm e0
def f1_12  (x0 : Int32) : Int32 := (if x0 = (95 : Int32) then (f1_191  x0) else (if x0 < (97 : Int32) then (f1_30  x0) else (if (122 : Int32) < x0 then (f1_30  x0) else (f1_191  x0))))
set_option maxRecDepth 65536 in
set_option maxHeartbeats 40000000 in
theorem bk1_12 (l : Launch) (Z : State) (a0 : Array Value) (hw : ∀ d ∈ tables_1, d.before a0 Z = true) (h0 : Heap)     (x0 : Int32)  {p : Program} {e : Env} {s : State} {m : MethodId} {args : Array Value} {below : List Frame} {meth : Method} {c : Code} {T0 : State}
    (X0 : Stand p l e ({ frames := 0, cells := 0, slots := 0, locals := 0 } : Room) s m args below meth c T0 [] 0 0) (hx : p.tables.exec = Jvm.exec) (hby : c.code = prog_15_method_4_code) (hml : c.maxLocals = 1) (hret : meth.sig.returnType = (some .boolean)) (hlk : meth.locks = false) (hZ : Z.Warmed39 s.vm) (hown : s.vm.findClass "com/example/siegelbund/siegelbund/core/xml/XmlChars" = some m.cls) (hnm : meth.name = "isNcNameStartChar") (e0 : T0.heap = h0) :
    own_Go p e below s (own_Qp (some (.int (f1_12  x0))) h0) 0 0 (T0.setTop (mkF m 12 #[.val (.int x0)] [])) := by
  have hf : f1_12  x0 = (if x0 = (95 : Int32) then (f1_191  x0) else (if x0 < (97 : Int32) then (f1_30  x0) else (if (122 : Int32) < x0 then (f1_30  x0) else (f1_191  x0)))) := rfl
  refine own_by (B := T0.setTop (mkF m 13 #[.val (.int x0)] [(.int x0)])) (fun t k => XS.iloadN X0.here hx rfl (hb hby d1_12) rfl k) ?_
  refine own_by (B := T0.setTop (mkF m 15 #[.val (.int x0)] [(.int (95 : Int32)), (.int x0)])) (fun t k => XS.bipush X0.here hx rfl (hb hby d1_13) k) ?_
  by_cases hc1 : x0 = (95 : Int32)
  ·
    rw [if_pos hc1] at hf
    refine own_by (B := T0.setTop (mkF m 191 #[.val (.int x0)] [])) (fun t k => XS.icmpYes X0.here hx rfl (pc0 := 15) (pc' := 191) rfl (hb hby d1_15) rfl (teq hc1).1 (by decide) (by decide) k) ?_
    rw [hf]
    exact bk1_191 l Z a0 hw h0   x0  X0 hx hby hml hret hlk hZ hown hnm e0
  ·
    rw [if_neg hc1] at hf
    refine own_by (B := T0.setTop (mkF m 18 #[.val (.int x0)] [])) (fun t k => XS.icmpNo X0.here hx rfl (hb hby d1_15) rfl (feq hc1).1 k) ?_
    refine own_by (B := T0.setTop (mkF m 19 #[.val (.int x0)] [(.int x0)])) (fun t k => XS.iloadN X0.here hx rfl (hb hby d1_18) rfl k) ?_
    refine own_by (B := T0.setTop (mkF m 21 #[.val (.int x0)] [(.int (97 : Int32)), (.int x0)])) (fun t k => XS.bipush X0.here hx rfl (hb hby d1_19) k) ?_
    by_cases hc2 : x0 < (97 : Int32)
    ·
      rw [if_pos hc2] at hf
      refine own_by (B := T0.setTop (mkF m 30 #[.val (.int x0)] [])) (fun t k => XS.icmpYes X0.here hx rfl (pc0 := 21) (pc' := 30) rfl (hb hby d1_21) rfl (tlt hc2).1 (by decide) (by decide) k) ?_
      rw [hf]
      exact bk1_30 l Z a0 hw h0   x0  X0 hx hby hml hret hlk hZ hown hnm e0
    ·
      rw [if_neg hc2] at hf
      refine own_by (B := T0.setTop (mkF m 24 #[.val (.int x0)] [])) (fun t k => XS.icmpNo X0.here hx rfl (hb hby d1_21) rfl (flt hc2).1 k) ?_
      refine own_by (B := T0.setTop (mkF m 25 #[.val (.int x0)] [(.int x0)])) (fun t k => XS.iloadN X0.here hx rfl (hb hby d1_24) rfl k) ?_
      refine own_by (B := T0.setTop (mkF m 27 #[.val (.int x0)] [(.int (122 : Int32)), (.int x0)])) (fun t k => XS.bipush X0.here hx rfl (hb hby d1_25) k) ?_
      by_cases hc3 : (122 : Int32) < x0
      ·
        rw [if_pos hc3] at hf
        refine own_by (B := T0.setTop (mkF m 30 #[.val (.int x0)] [])) (fun t k => XS.icmpNo X0.here hx rfl (hb hby d1_27) rfl (tlt hc3).2.2.2 k) ?_
        rw [hf]
        exact bk1_30 l Z a0 hw h0   x0  X0 hx hby hml hret hlk hZ hown hnm e0
      ·
        rw [if_neg hc3] at hf
        refine own_by (B := T0.setTop (mkF m 191 #[.val (.int x0)] [])) (fun t k => XS.icmpYes X0.here hx rfl (pc0 := 27) (pc' := 191) rfl (hb hby d1_27) rfl (flt hc3).2.2.2 (by decide) (by decide) k) ?_
        rw [hf]
        exact bk1_191 l Z a0 hw h0   x0  X0 hx hby hml hret hlk hZ hown hnm e0
def f1_0  (x0 : Int32) : Int32 := (if x0 < (65 : Int32) then (f1_12  x0) else (if (90 : Int32) < x0 then (f1_12  x0) else (f1_191  x0)))
set_option maxRecDepth 65536 in
set_option maxHeartbeats 40000000 in
theorem bk1_0 (l : Launch) (Z : State) (a0 : Array Value) (hw : ∀ d ∈ tables_1, d.before a0 Z = true) (h0 : Heap)     (x0 : Int32)  {p : Program} {e : Env} {s : State} {m : MethodId} {args : Array Value} {below : List Frame} {meth : Method} {c : Code} {T0 : State}
    (X0 : Stand p l e ({ frames := 0, cells := 0, slots := 0, locals := 0 } : Room) s m args below meth c T0 [] 0 0) (hx : p.tables.exec = Jvm.exec) (hby : c.code = prog_15_method_4_code) (hml : c.maxLocals = 1) (hret : meth.sig.returnType = (some .boolean)) (hlk : meth.locks = false) (hZ : Z.Warmed39 s.vm) (hown : s.vm.findClass "com/example/siegelbund/siegelbund/core/xml/XmlChars" = some m.cls) (hnm : meth.name = "isNcNameStartChar") (e0 : T0.heap = h0) :
    own_Go p e below s (own_Qp (some (.int (f1_0  x0))) h0) 0 0 (T0.setTop (mkF m 0 #[.val (.int x0)] [])) := by
  have hf : f1_0  x0 = (if x0 < (65 : Int32) then (f1_12  x0) else (if (90 : Int32) < x0 then (f1_12  x0) else (f1_191  x0))) := rfl
  refine own_by (B := T0.setTop (mkF m 1 #[.val (.int x0)] [(.int x0)])) (fun t k => XS.iloadN X0.here hx rfl (hb hby d1_0) rfl k) ?_
  refine own_by (B := T0.setTop (mkF m 3 #[.val (.int x0)] [(.int (65 : Int32)), (.int x0)])) (fun t k => XS.bipush X0.here hx rfl (hb hby d1_1) k) ?_
  by_cases hc1 : x0 < (65 : Int32)
  ·
    rw [if_pos hc1] at hf
    refine own_by (B := T0.setTop (mkF m 12 #[.val (.int x0)] [])) (fun t k => XS.icmpYes X0.here hx rfl (pc0 := 3) (pc' := 12) rfl (hb hby d1_3) rfl (tlt hc1).1 (by decide) (by decide) k) ?_
    rw [hf]
    exact bk1_12 l Z a0 hw h0   x0  X0 hx hby hml hret hlk hZ hown hnm e0
  ·
    rw [if_neg hc1] at hf
    refine own_by (B := T0.setTop (mkF m 6 #[.val (.int x0)] [])) (fun t k => XS.icmpNo X0.here hx rfl (hb hby d1_3) rfl (flt hc1).1 k) ?_
    refine own_by (B := T0.setTop (mkF m 7 #[.val (.int x0)] [(.int x0)])) (fun t k => XS.iloadN X0.here hx rfl (hb hby d1_6) rfl k) ?_
    refine own_by (B := T0.setTop (mkF m 9 #[.val (.int x0)] [(.int (90 : Int32)), (.int x0)])) (fun t k => XS.bipush X0.here hx rfl (hb hby d1_7) k) ?_
    by_cases hc2 : (90 : Int32) < x0
    ·
      rw [if_pos hc2] at hf
      refine own_by (B := T0.setTop (mkF m 12 #[.val (.int x0)] [])) (fun t k => XS.icmpNo X0.here hx rfl (hb hby d1_9) rfl (tlt hc2).2.2.2 k) ?_
      rw [hf]
      exact bk1_12 l Z a0 hw h0   x0  X0 hx hby hml hret hlk hZ hown hnm e0
    ·
      rw [if_neg hc2] at hf
      refine own_by (B := T0.setTop (mkF m 191 #[.val (.int x0)] [])) (fun t k => XS.icmpYes X0.here hx rfl (pc0 := 9) (pc' := 191) rfl (hb hby d1_9) rfl (flt hc2).2.2.2 (by decide) (by decide) k) ?_
      rw [hf]
      exact bk1_191 l Z a0 hw h0   x0  X0 hx hby hml hret hlk hZ hown hnm e0
set_option maxRecDepth 65536 in
set_option maxHeartbeats 40000000 in
theorem rm1 (l : Launch) (Z : State) (a0 : Array Value) (hw : ∀ d ∈ tables_1, d.before a0 Z = true) (ws : List Jvm.Cond) (x0 : Int32)   (h0 : Heap)   :
    MetFree l (⟨"com/example/siegelbund/siegelbund/core/xml/XmlChars", "isNcNameStartChar", "(I)Z"⟩ : MethodName) (head1 (Jvm.Cond.code (⟨"com/example/siegelbund/siegelbund/core/xml/XmlChars", "isNcNameStartChar", "(I)Z"⟩ : MethodName) prog_15_method_4_code 1 (some .boolean) :: ws) ({ frames := 0, cells := 0, slots := 0, locals := 0 } : Room)) (fun aa U => aa = #[(.int x0)] ∧ Z.Warmed39 U.vm ∧ U.heap = h0) (fun _ _ _ _ _ => True) (fun _ U o U' => ∃ v L, o = .returned v ∧ own_Qp (some (.int (f1_0  x0))) h0 v U'.heap L ∧ FrameEnd U o U' L ({ frames := 0, cells := 0, slots := 0, locals := 0 } : Room).cells ({ frames := 0, cells := 0, slots := 0, locals := 0 } : Room).slots) := by
  refine own_met (plainFor_of_name pn_1) fun p e s m below meth c T0 X0 hx hby hml hret hlk hZ hown hnm e0 => ?_
  refine own_cast (ef_1 m x0) ?_
  exact bk1_0 l Z a0 hw h0   x0  X0 hx hby hml hret hlk hZ hown hnm e0
theorem d2_0 : decode method_2_code 0 = .ok (.iload_n 0, 1) := by decide +kernel
theorem d2_1 : decode method_2_code 1 = .ok (.bipush 65, 2) := by decide +kernel
theorem d2_3 : decode method_2_code 3 = .ok (.if_icmp .lt 9, 3) := by decide +kernel
theorem d2_6 : decode method_2_code 6 = .ok (.iload_n 0, 1) := by decide +kernel
theorem d2_7 : decode method_2_code 7 = .ok (.ldc 7, 2) := by decide +kernel
theorem d2_9 : decode method_2_code 9 = .ok (.if_icmp .le 5, 3) := by decide +kernel
theorem d2_12 : decode method_2_code 12 = .ok (.iconst 0, 1) := by decide +kernel
theorem d2_13 : decode method_2_code 13 = .ok (.ireturn, 1) := by decide +kernel
theorem d2_14 : decode method_2_code 14 = .ok (.iload_n 0, 1) := by decide +kernel
theorem d2_15 : decode method_2_code 15 = .ok (.bipush 91, 2) := by decide +kernel
theorem d2_17 : decode method_2_code 17 = .ok (.if_icmp .lt 11, 3) := by decide +kernel
theorem d2_20 : decode method_2_code 20 = .ok (.iload_n 0, 1) := by decide +kernel
theorem d2_21 : decode method_2_code 21 = .ok (.bipush 94, 2) := by decide +kernel
theorem d2_23 : decode method_2_code 23 = .ok (.if_icmp .gt 5, 3) := by decide +kernel
theorem d2_26 : decode method_2_code 26 = .ok (.iconst 0, 1) := by decide +kernel
theorem d2_27 : decode method_2_code 27 = .ok (.ireturn, 1) := by decide +kernel
theorem d2_28 : decode method_2_code 28 = .ok (.iload_n 0, 1) := by decide +kernel
theorem d2_29 : decode method_2_code 29 = .ok (.bipush 96, 2) := by decide +kernel
theorem d2_31 : decode method_2_code 31 = .ok (.if_icmp .ne 5, 3) := by decide +kernel
theorem d2_34 : decode method_2_code 34 = .ok (.iconst 0, 1) := by decide +kernel
theorem d2_35 : decode method_2_code 35 = .ok (.ireturn, 1) := by decide +kernel
theorem d2_36 : decode method_2_code 36 = .ok (.iload_n 0, 1) := by decide +kernel
theorem d2_37 : decode method_2_code 37 = .ok (.bipush 123, 2) := by decide +kernel
theorem d2_39 : decode method_2_code 39 = .ok (.if_icmp .lt 12, 3) := by decide +kernel
theorem d2_42 : decode method_2_code 42 = .ok (.iload_n 0, 1) := by decide +kernel
theorem d2_43 : decode method_2_code 43 = .ok (.sipush 191, 3) := by decide +kernel
theorem d2_46 : decode method_2_code 46 = .ok (.if_icmp .gt 5, 3) := by decide +kernel
theorem d2_49 : decode method_2_code 49 = .ok (.iconst 0, 1) := by decide +kernel
theorem d2_50 : decode method_2_code 50 = .ok (.ireturn, 1) := by decide +kernel
theorem d2_51 : decode method_2_code 51 = .ok (.iload_n 0, 1) := by decide +kernel
theorem d2_52 : decode method_2_code 52 = .ok (.sipush 215, 3) := by decide +kernel
theorem d2_55 : decode method_2_code 55 = .ok (.if_icmp .eq 10, 3) := by decide +kernel
theorem d2_58 : decode method_2_code 58 = .ok (.iload_n 0, 1) := by decide +kernel
theorem d2_59 : decode method_2_code 59 = .ok (.sipush 247, 3) := by decide +kernel
theorem d2_62 : decode method_2_code 62 = .ok (.if_icmp .ne 5, 3) := by decide +kernel
theorem d2_65 : decode method_2_code 65 = .ok (.iconst 0, 1) := by decide +kernel
theorem d2_66 : decode method_2_code 66 = .ok (.ireturn, 1) := by decide +kernel
theorem d2_67 : decode method_2_code 67 = .ok (.iload_n 0, 1) := by decide +kernel
theorem d2_68 : decode method_2_code 68 = .ok (.sipush 768, 3) := by decide +kernel
theorem d2_71 : decode method_2_code 71 = .ok (.if_icmp .lt 12, 3) := by decide +kernel
theorem d2_74 : decode method_2_code 74 = .ok (.iload_n 0, 1) := by decide +kernel
theorem d2_75 : decode method_2_code 75 = .ok (.sipush 879, 3) := by decide +kernel
theorem d2_78 : decode method_2_code 78 = .ok (.if_icmp .gt 5, 3) := by decide +kernel
theorem d2_81 : decode method_2_code 81 = .ok (.iconst 0, 1) := by decide +kernel
theorem d2_82 : decode method_2_code 82 = .ok (.ireturn, 1) := by decide +kernel
theorem d2_83 : decode method_2_code 83 = .ok (.iload_n 0, 1) := by decide +kernel
theorem d2_84 : decode method_2_code 84 = .ok (.sipush 894, 3) := by decide +kernel
theorem d2_87 : decode method_2_code 87 = .ok (.if_icmp .ne 5, 3) := by decide +kernel
theorem d2_90 : decode method_2_code 90 = .ok (.iconst 0, 1) := by decide +kernel
theorem d2_91 : decode method_2_code 91 = .ok (.ireturn, 1) := by decide +kernel
theorem d2_92 : decode method_2_code 92 = .ok (.iload_n 0, 1) := by decide +kernel
theorem d2_93 : decode method_2_code 93 = .ok (.sipush 8192, 3) := by decide +kernel
theorem d2_96 : decode method_2_code 96 = .ok (.if_icmp .lt 12, 3) := by decide +kernel
theorem d2_99 : decode method_2_code 99 = .ok (.iload_n 0, 1) := by decide +kernel
theorem d2_100 : decode method_2_code 100 = .ok (.sipush 8203, 3) := by decide +kernel
theorem d2_103 : decode method_2_code 103 = .ok (.if_icmp .gt 5, 3) := by decide +kernel
theorem d2_106 : decode method_2_code 106 = .ok (.iconst 0, 1) := by decide +kernel
theorem d2_107 : decode method_2_code 107 = .ok (.ireturn, 1) := by decide +kernel
theorem d2_108 : decode method_2_code 108 = .ok (.iload_n 0, 1) := by decide +kernel
theorem d2_109 : decode method_2_code 109 = .ok (.sipush 8206, 3) := by decide +kernel
theorem d2_112 : decode method_2_code 112 = .ok (.if_icmp .lt 12, 3) := by decide +kernel
theorem d2_115 : decode method_2_code 115 = .ok (.iload_n 0, 1) := by decide +kernel
theorem d2_116 : decode method_2_code 116 = .ok (.sipush 8303, 3) := by decide +kernel
theorem d2_119 : decode method_2_code 119 = .ok (.if_icmp .gt 5, 3) := by decide +kernel
theorem d2_122 : decode method_2_code 122 = .ok (.iconst 0, 1) := by decide +kernel
theorem d2_123 : decode method_2_code 123 = .ok (.ireturn, 1) := by decide +kernel
theorem d2_124 : decode method_2_code 124 = .ok (.iload_n 0, 1) := by decide +kernel
theorem d2_125 : decode method_2_code 125 = .ok (.sipush 8592, 3) := by decide +kernel
theorem d2_128 : decode method_2_code 128 = .ok (.if_icmp .lt 12, 3) := by decide +kernel
theorem d2_131 : decode method_2_code 131 = .ok (.iload_n 0, 1) := by decide +kernel
theorem d2_132 : decode method_2_code 132 = .ok (.sipush 11263, 3) := by decide +kernel
theorem d2_135 : decode method_2_code 135 = .ok (.if_icmp .gt 5, 3) := by decide +kernel
theorem d2_138 : decode method_2_code 138 = .ok (.iconst 0, 1) := by decide +kernel
theorem d2_139 : decode method_2_code 139 = .ok (.ireturn, 1) := by decide +kernel
theorem d2_140 : decode method_2_code 140 = .ok (.iload_n 0, 1) := by decide +kernel
theorem d2_141 : decode method_2_code 141 = .ok (.sipush 12272, 3) := by decide +kernel
theorem d2_144 : decode method_2_code 144 = .ok (.if_icmp .lt 12, 3) := by decide +kernel
theorem d2_147 : decode method_2_code 147 = .ok (.iload_n 0, 1) := by decide +kernel
theorem d2_148 : decode method_2_code 148 = .ok (.sipush 12288, 3) := by decide +kernel
theorem d2_151 : decode method_2_code 151 = .ok (.if_icmp .gt 5, 3) := by decide +kernel
theorem d2_154 : decode method_2_code 154 = .ok (.iconst 0, 1) := by decide +kernel
theorem d2_155 : decode method_2_code 155 = .ok (.ireturn, 1) := by decide +kernel
theorem d2_156 : decode method_2_code 156 = .ok (.iload_n 0, 1) := by decide +kernel
theorem d2_157 : decode method_2_code 157 = .ok (.ldc 8, 2) := by decide +kernel
theorem d2_159 : decode method_2_code 159 = .ok (.if_icmp .lt 11, 3) := by decide +kernel
theorem d2_162 : decode method_2_code 162 = .ok (.iload_n 0, 1) := by decide +kernel
theorem d2_163 : decode method_2_code 163 = .ok (.ldc 9, 2) := by decide +kernel
theorem d2_165 : decode method_2_code 165 = .ok (.if_icmp .gt 5, 3) := by decide +kernel
theorem d2_168 : decode method_2_code 168 = .ok (.iconst 0, 1) := by decide +kernel
theorem d2_169 : decode method_2_code 169 = .ok (.ireturn, 1) := by decide +kernel
theorem d2_170 : decode method_2_code 170 = .ok (.iload_n 0, 1) := by decide +kernel
theorem d2_171 : decode method_2_code 171 = .ok (.ldc 10, 2) := by decide +kernel
theorem d2_173 : decode method_2_code 173 = .ok (.if_icmp .lt 11, 3) := by decide +kernel
theorem d2_176 : decode method_2_code 176 = .ok (.iload_n 0, 1) := by decide +kernel
theorem d2_177 : decode method_2_code 177 = .ok (.ldc 11, 2) := by decide +kernel
theorem d2_179 : decode method_2_code 179 = .ok (.if_icmp .gt 5, 3) := by decide +kernel
theorem d2_182 : decode method_2_code 182 = .ok (.iconst 0, 1) := by decide +kernel
theorem d2_183 : decode method_2_code 183 = .ok (.ireturn, 1) := by decide +kernel
theorem d2_184 : decode method_2_code 184 = .ok (.iload_n 0, 1) := by decide +kernel
theorem d2_185 : decode method_2_code 185 = .ok (.ldc 12, 2) := by decide +kernel
theorem d2_187 : decode method_2_code 187 = .ok (.if_icmp .lt 11, 3) := by decide +kernel
theorem d2_190 : decode method_2_code 190 = .ok (.iload_n 0, 1) := by decide +kernel
theorem d2_191 : decode method_2_code 191 = .ok (.ldc 13, 2) := by decide +kernel
theorem d2_193 : decode method_2_code 193 = .ok (.if_icmp .gt 5, 3) := by decide +kernel
theorem d2_196 : decode method_2_code 196 = .ok (.iconst 0, 1) := by decide +kernel
theorem d2_197 : decode method_2_code 197 = .ok (.ireturn, 1) := by decide +kernel
theorem d2_198 : decode method_2_code 198 = .ok (.iconst 1, 1) := by decide +kernel
theorem d2_199 : decode method_2_code 199 = .ok (.ireturn, 1) := by decide +kernel
theorem pn_2 : plainName "com/example/siegelbund/siegelbund/core/xml/XmlCharsIsNcNameStartCharPinLaw" = true := by first | (simp [plainName, overriddenIn]; done) | decide +kernel
theorem ef_2 (m : MethodId) (x0 : Int32) : entryFrame m #[(.int x0)] 1 = mkF m 0 #[.val (.int x0)] [] := by first | (simp [entryFrame, mkF, argsToLocals, Value.category]; done) | rfl
def f2_12  (x0 : Int32) : Int32 := (0 : Int32)
set_option maxRecDepth 65536 in
set_option maxHeartbeats 40000000 in
theorem bk2_12 (l : Launch) (Z : State) (a0 : Array Value) (hw : ∀ d ∈ tables_1, d.before a0 Z = true) (h0 : Heap)     (x0 : Int32)  {p : Program} {e : Env} {s : State} {m : MethodId} {args : Array Value} {below : List Frame} {meth : Method} {c : Code} {T0 : State}
    (X0 : Stand p l e ({ frames := 0, cells := 0, slots := 0, locals := 0 } : Room) s m args below meth c T0 [] 0 0) (hx : p.tables.exec = Jvm.exec) (hby : c.code = method_2_code) (hml : c.maxLocals = 1) (hret : meth.sig.returnType = (some .boolean)) (hlk : meth.locks = false) (hZ : Z.Warmed39 s.vm) (hown : s.vm.findClass "com/example/siegelbund/siegelbund/core/xml/XmlCharsIsNcNameStartCharPinLaw" = some m.cls) (hnm : meth.name = "ref") (e0 : T0.heap = h0) :
    own_Go p e below s (own_Qp (some (.int (f2_12  x0))) h0) 0 0 (T0.setTop (mkF m 12 #[.val (.int x0)] [])) := by
  have hf : f2_12  x0 = (0 : Int32) := rfl
  refine own_by (B := T0.setTop (mkF m 13 #[.val (.int x0)] [(.int (0 : Int32))])) (fun t k => XS.iconst X0.here hx rfl (hb hby d2_12) k) ?_
  exact own_retN (t := .boolean) (by simp) X0 hx hlk hret (z' := (0 : Int32)) (by decide) (hb hby d2_13) ⟨by rw [hf], rfl, e0⟩ (by decide) (by decide)
def f2_65  (x0 : Int32) : Int32 := (0 : Int32)
set_option maxRecDepth 65536 in
set_option maxHeartbeats 40000000 in
theorem bk2_65 (l : Launch) (Z : State) (a0 : Array Value) (hw : ∀ d ∈ tables_1, d.before a0 Z = true) (h0 : Heap)     (x0 : Int32)  {p : Program} {e : Env} {s : State} {m : MethodId} {args : Array Value} {below : List Frame} {meth : Method} {c : Code} {T0 : State}
    (X0 : Stand p l e ({ frames := 0, cells := 0, slots := 0, locals := 0 } : Room) s m args below meth c T0 [] 0 0) (hx : p.tables.exec = Jvm.exec) (hby : c.code = method_2_code) (hml : c.maxLocals = 1) (hret : meth.sig.returnType = (some .boolean)) (hlk : meth.locks = false) (hZ : Z.Warmed39 s.vm) (hown : s.vm.findClass "com/example/siegelbund/siegelbund/core/xml/XmlCharsIsNcNameStartCharPinLaw" = some m.cls) (hnm : meth.name = "ref") (e0 : T0.heap = h0) :
    own_Go p e below s (own_Qp (some (.int (f2_65  x0))) h0) 0 0 (T0.setTop (mkF m 65 #[.val (.int x0)] [])) := by
  have hf : f2_65  x0 = (0 : Int32) := rfl
  refine own_by (B := T0.setTop (mkF m 66 #[.val (.int x0)] [(.int (0 : Int32))])) (fun t k => XS.iconst X0.here hx rfl (hb hby d2_65) k) ?_
  exact own_retN (t := .boolean) (by simp) X0 hx hlk hret (z' := (0 : Int32)) (by decide) (hb hby d2_66) ⟨by rw [hf], rfl, e0⟩ (by decide) (by decide)
def f2_198  (x0 : Int32) : Int32 := (1 : Int32)
set_option maxRecDepth 65536 in
set_option maxHeartbeats 40000000 in
theorem bk2_198 (l : Launch) (Z : State) (a0 : Array Value) (hw : ∀ d ∈ tables_1, d.before a0 Z = true) (h0 : Heap)     (x0 : Int32)  {p : Program} {e : Env} {s : State} {m : MethodId} {args : Array Value} {below : List Frame} {meth : Method} {c : Code} {T0 : State}
    (X0 : Stand p l e ({ frames := 0, cells := 0, slots := 0, locals := 0 } : Room) s m args below meth c T0 [] 0 0) (hx : p.tables.exec = Jvm.exec) (hby : c.code = method_2_code) (hml : c.maxLocals = 1) (hret : meth.sig.returnType = (some .boolean)) (hlk : meth.locks = false) (hZ : Z.Warmed39 s.vm) (hown : s.vm.findClass "com/example/siegelbund/siegelbund/core/xml/XmlCharsIsNcNameStartCharPinLaw" = some m.cls) (hnm : meth.name = "ref") (e0 : T0.heap = h0) :
    own_Go p e below s (own_Qp (some (.int (f2_198  x0))) h0) 0 0 (T0.setTop (mkF m 198 #[.val (.int x0)] [])) := by
  have hf : f2_198  x0 = (1 : Int32) := rfl
  refine own_by (B := T0.setTop (mkF m 199 #[.val (.int x0)] [(.int (1 : Int32))])) (fun t k => XS.iconst X0.here hx rfl (hb hby d2_198) k) ?_
  exact own_retN (t := .boolean) (by simp) X0 hx hlk hret (z' := (1 : Int32)) (by decide) (hb hby d2_199) ⟨by rw [hf], rfl, e0⟩ (by decide) (by decide)
def f2_184  (x0 : Int32) : Int32 := (if x0 < (65534 : Int32) then (f2_198  x0) else (if (65535 : Int32) < x0 then (f2_198  x0) else (0 : Int32)))
set_option maxRecDepth 65536 in
set_option maxHeartbeats 40000000 in
theorem bk2_184 (l : Launch) (Z : State) (a0 : Array Value) (hw : ∀ d ∈ tables_1, d.before a0 Z = true) (h0 : Heap)     (x0 : Int32)  {p : Program} {e : Env} {s : State} {m : MethodId} {args : Array Value} {below : List Frame} {meth : Method} {c : Code} {T0 : State}
    (X0 : Stand p l e ({ frames := 0, cells := 0, slots := 0, locals := 0 } : Room) s m args below meth c T0 [] 0 0) (hx : p.tables.exec = Jvm.exec) (hby : c.code = method_2_code) (hml : c.maxLocals = 1) (hret : meth.sig.returnType = (some .boolean)) (hlk : meth.locks = false) (hZ : Z.Warmed39 s.vm) (hown : s.vm.findClass "com/example/siegelbund/siegelbund/core/xml/XmlCharsIsNcNameStartCharPinLaw" = some m.cls) (hnm : meth.name = "ref") (e0 : T0.heap = h0) :
    own_Go p e below s (own_Qp (some (.int (f2_184  x0))) h0) 0 0 (T0.setTop (mkF m 184 #[.val (.int x0)] [])) := by
  have hf : f2_184  x0 = (if x0 < (65534 : Int32) then (f2_198  x0) else (if (65535 : Int32) < x0 then (f2_198  x0) else (0 : Int32))) := rfl
  refine own_by (B := T0.setTop (mkF m 185 #[.val (.int x0)] [(.int x0)])) (fun t k => XS.iloadN X0.here hx rfl (hb hby d2_184) rfl k) ?_
  refine own_by (B := T0.setTop (mkF m 187 #[.val (.int x0)] [(.int (65534 : Int32)), (.int x0)])) (fun t k => X0.ldcInt hx hown (mvT hZ (hw _ (List.mem_of_getElem? (i := 22) rfl))) (g := (mkF m 185 #[.val (.int x0)] [(.int x0)])) rfl (hb hby d2_185) _ k) ?_
  by_cases hc1 : x0 < (65534 : Int32)
  ·
    rw [if_pos hc1] at hf
    refine own_by (B := T0.setTop (mkF m 198 #[.val (.int x0)] [])) (fun t k => XS.icmpYes X0.here hx rfl (pc0 := 187) (pc' := 198) rfl (hb hby d2_187) rfl (tlt hc1).1 (by decide) (by decide) k) ?_
    rw [hf]
    exact bk2_198 l Z a0 hw h0   x0  X0 hx hby hml hret hlk hZ hown hnm e0
  ·
    rw [if_neg hc1] at hf
    refine own_by (B := T0.setTop (mkF m 190 #[.val (.int x0)] [])) (fun t k => XS.icmpNo X0.here hx rfl (hb hby d2_187) rfl (flt hc1).1 k) ?_
    refine own_by (B := T0.setTop (mkF m 191 #[.val (.int x0)] [(.int x0)])) (fun t k => XS.iloadN X0.here hx rfl (hb hby d2_190) rfl k) ?_
    refine own_by (B := T0.setTop (mkF m 193 #[.val (.int x0)] [(.int (65535 : Int32)), (.int x0)])) (fun t k => X0.ldcInt hx hown (mvT hZ (hw _ (List.mem_of_getElem? (i := 29) rfl))) (g := (mkF m 191 #[.val (.int x0)] [(.int x0)])) rfl (hb hby d2_191) _ k) ?_
    by_cases hc2 : (65535 : Int32) < x0
    ·
      rw [if_pos hc2] at hf
      refine own_by (B := T0.setTop (mkF m 198 #[.val (.int x0)] [])) (fun t k => XS.icmpYes X0.here hx rfl (pc0 := 193) (pc' := 198) rfl (hb hby d2_193) rfl (tlt hc2).2.2.1 (by decide) (by decide) k) ?_
      rw [hf]
      exact bk2_198 l Z a0 hw h0   x0  X0 hx hby hml hret hlk hZ hown hnm e0
    ·
      rw [if_neg hc2] at hf
      refine own_by (B := T0.setTop (mkF m 196 #[.val (.int x0)] [])) (fun t k => XS.icmpNo X0.here hx rfl (hb hby d2_193) rfl (flt hc2).2.2.1 k) ?_
      refine own_by (B := T0.setTop (mkF m 197 #[.val (.int x0)] [(.int (0 : Int32))])) (fun t k => XS.iconst X0.here hx rfl (hb hby d2_196) k) ?_
      exact own_retN (t := .boolean) (by simp) X0 hx hlk hret (z' := (0 : Int32)) (by decide) (hb hby d2_197) ⟨by rw [hf], rfl, e0⟩ (by decide) (by decide)
def f2_170  (x0 : Int32) : Int32 := (if x0 < (64976 : Int32) then (f2_184  x0) else (if (65007 : Int32) < x0 then (f2_184  x0) else (0 : Int32)))
set_option maxRecDepth 65536 in
set_option maxHeartbeats 40000000 in
theorem bk2_170 (l : Launch) (Z : State) (a0 : Array Value) (hw : ∀ d ∈ tables_1, d.before a0 Z = true) (h0 : Heap)     (x0 : Int32)  {p : Program} {e : Env} {s : State} {m : MethodId} {args : Array Value} {below : List Frame} {meth : Method} {c : Code} {T0 : State}
    (X0 : Stand p l e ({ frames := 0, cells := 0, slots := 0, locals := 0 } : Room) s m args below meth c T0 [] 0 0) (hx : p.tables.exec = Jvm.exec) (hby : c.code = method_2_code) (hml : c.maxLocals = 1) (hret : meth.sig.returnType = (some .boolean)) (hlk : meth.locks = false) (hZ : Z.Warmed39 s.vm) (hown : s.vm.findClass "com/example/siegelbund/siegelbund/core/xml/XmlCharsIsNcNameStartCharPinLaw" = some m.cls) (hnm : meth.name = "ref") (e0 : T0.heap = h0) :
    own_Go p e below s (own_Qp (some (.int (f2_170  x0))) h0) 0 0 (T0.setTop (mkF m 170 #[.val (.int x0)] [])) := by
  have hf : f2_170  x0 = (if x0 < (64976 : Int32) then (f2_184  x0) else (if (65007 : Int32) < x0 then (f2_184  x0) else (0 : Int32))) := rfl
  refine own_by (B := T0.setTop (mkF m 171 #[.val (.int x0)] [(.int x0)])) (fun t k => XS.iloadN X0.here hx rfl (hb hby d2_170) rfl k) ?_
  refine own_by (B := T0.setTop (mkF m 173 #[.val (.int x0)] [(.int (64976 : Int32)), (.int x0)])) (fun t k => X0.ldcInt hx hown (mvT hZ (hw _ (List.mem_of_getElem? (i := 21) rfl))) (g := (mkF m 171 #[.val (.int x0)] [(.int x0)])) rfl (hb hby d2_171) _ k) ?_
  by_cases hc1 : x0 < (64976 : Int32)
  ·
    rw [if_pos hc1] at hf
    refine own_by (B := T0.setTop (mkF m 184 #[.val (.int x0)] [])) (fun t k => XS.icmpYes X0.here hx rfl (pc0 := 173) (pc' := 184) rfl (hb hby d2_173) rfl (tlt hc1).1 (by decide) (by decide) k) ?_
    rw [hf]
    exact bk2_184 l Z a0 hw h0   x0  X0 hx hby hml hret hlk hZ hown hnm e0
  ·
    rw [if_neg hc1] at hf
    refine own_by (B := T0.setTop (mkF m 176 #[.val (.int x0)] [])) (fun t k => XS.icmpNo X0.here hx rfl (hb hby d2_173) rfl (flt hc1).1 k) ?_
    refine own_by (B := T0.setTop (mkF m 177 #[.val (.int x0)] [(.int x0)])) (fun t k => XS.iloadN X0.here hx rfl (hb hby d2_176) rfl k) ?_
    refine own_by (B := T0.setTop (mkF m 179 #[.val (.int x0)] [(.int (65007 : Int32)), (.int x0)])) (fun t k => X0.ldcInt hx hown (mvT hZ (hw _ (List.mem_of_getElem? (i := 28) rfl))) (g := (mkF m 177 #[.val (.int x0)] [(.int x0)])) rfl (hb hby d2_177) _ k) ?_
    by_cases hc2 : (65007 : Int32) < x0
    ·
      rw [if_pos hc2] at hf
      refine own_by (B := T0.setTop (mkF m 184 #[.val (.int x0)] [])) (fun t k => XS.icmpYes X0.here hx rfl (pc0 := 179) (pc' := 184) rfl (hb hby d2_179) rfl (tlt hc2).2.2.1 (by decide) (by decide) k) ?_
      rw [hf]
      exact bk2_184 l Z a0 hw h0   x0  X0 hx hby hml hret hlk hZ hown hnm e0
    ·
      rw [if_neg hc2] at hf
      refine own_by (B := T0.setTop (mkF m 182 #[.val (.int x0)] [])) (fun t k => XS.icmpNo X0.here hx rfl (hb hby d2_179) rfl (flt hc2).2.2.1 k) ?_
      refine own_by (B := T0.setTop (mkF m 183 #[.val (.int x0)] [(.int (0 : Int32))])) (fun t k => XS.iconst X0.here hx rfl (hb hby d2_182) k) ?_
      exact own_retN (t := .boolean) (by simp) X0 hx hlk hret (z' := (0 : Int32)) (by decide) (hb hby d2_183) ⟨by rw [hf], rfl, e0⟩ (by decide) (by decide)
def f2_156  (x0 : Int32) : Int32 := (if x0 < (55296 : Int32) then (f2_170  x0) else (if (63743 : Int32) < x0 then (f2_170  x0) else (0 : Int32)))
set_option maxRecDepth 65536 in
set_option maxHeartbeats 40000000 in
theorem bk2_156 (l : Launch) (Z : State) (a0 : Array Value) (hw : ∀ d ∈ tables_1, d.before a0 Z = true) (h0 : Heap)     (x0 : Int32)  {p : Program} {e : Env} {s : State} {m : MethodId} {args : Array Value} {below : List Frame} {meth : Method} {c : Code} {T0 : State}
    (X0 : Stand p l e ({ frames := 0, cells := 0, slots := 0, locals := 0 } : Room) s m args below meth c T0 [] 0 0) (hx : p.tables.exec = Jvm.exec) (hby : c.code = method_2_code) (hml : c.maxLocals = 1) (hret : meth.sig.returnType = (some .boolean)) (hlk : meth.locks = false) (hZ : Z.Warmed39 s.vm) (hown : s.vm.findClass "com/example/siegelbund/siegelbund/core/xml/XmlCharsIsNcNameStartCharPinLaw" = some m.cls) (hnm : meth.name = "ref") (e0 : T0.heap = h0) :
    own_Go p e below s (own_Qp (some (.int (f2_156  x0))) h0) 0 0 (T0.setTop (mkF m 156 #[.val (.int x0)] [])) := by
  have hf : f2_156  x0 = (if x0 < (55296 : Int32) then (f2_170  x0) else (if (63743 : Int32) < x0 then (f2_170  x0) else (0 : Int32))) := rfl
  refine own_by (B := T0.setTop (mkF m 157 #[.val (.int x0)] [(.int x0)])) (fun t k => XS.iloadN X0.here hx rfl (hb hby d2_156) rfl k) ?_
  refine own_by (B := T0.setTop (mkF m 159 #[.val (.int x0)] [(.int (55296 : Int32)), (.int x0)])) (fun t k => X0.ldcInt hx hown (mvT hZ (hw _ (List.mem_of_getElem? (i := 20) rfl))) (g := (mkF m 157 #[.val (.int x0)] [(.int x0)])) rfl (hb hby d2_157) _ k) ?_
  by_cases hc1 : x0 < (55296 : Int32)
  ·
    rw [if_pos hc1] at hf
    refine own_by (B := T0.setTop (mkF m 170 #[.val (.int x0)] [])) (fun t k => XS.icmpYes X0.here hx rfl (pc0 := 159) (pc' := 170) rfl (hb hby d2_159) rfl (tlt hc1).1 (by decide) (by decide) k) ?_
    rw [hf]
    exact bk2_170 l Z a0 hw h0   x0  X0 hx hby hml hret hlk hZ hown hnm e0
  ·
    rw [if_neg hc1] at hf
    refine own_by (B := T0.setTop (mkF m 162 #[.val (.int x0)] [])) (fun t k => XS.icmpNo X0.here hx rfl (hb hby d2_159) rfl (flt hc1).1 k) ?_
    refine own_by (B := T0.setTop (mkF m 163 #[.val (.int x0)] [(.int x0)])) (fun t k => XS.iloadN X0.here hx rfl (hb hby d2_162) rfl k) ?_
    refine own_by (B := T0.setTop (mkF m 165 #[.val (.int x0)] [(.int (63743 : Int32)), (.int x0)])) (fun t k => X0.ldcInt hx hown (mvT hZ (hw _ (List.mem_of_getElem? (i := 27) rfl))) (g := (mkF m 163 #[.val (.int x0)] [(.int x0)])) rfl (hb hby d2_163) _ k) ?_
    by_cases hc2 : (63743 : Int32) < x0
    ·
      rw [if_pos hc2] at hf
      refine own_by (B := T0.setTop (mkF m 170 #[.val (.int x0)] [])) (fun t k => XS.icmpYes X0.here hx rfl (pc0 := 165) (pc' := 170) rfl (hb hby d2_165) rfl (tlt hc2).2.2.1 (by decide) (by decide) k) ?_
      rw [hf]
      exact bk2_170 l Z a0 hw h0   x0  X0 hx hby hml hret hlk hZ hown hnm e0
    ·
      rw [if_neg hc2] at hf
      refine own_by (B := T0.setTop (mkF m 168 #[.val (.int x0)] [])) (fun t k => XS.icmpNo X0.here hx rfl (hb hby d2_165) rfl (flt hc2).2.2.1 k) ?_
      refine own_by (B := T0.setTop (mkF m 169 #[.val (.int x0)] [(.int (0 : Int32))])) (fun t k => XS.iconst X0.here hx rfl (hb hby d2_168) k) ?_
      exact own_retN (t := .boolean) (by simp) X0 hx hlk hret (z' := (0 : Int32)) (by decide) (hb hby d2_169) ⟨by rw [hf], rfl, e0⟩ (by decide) (by decide)
def f2_140  (x0 : Int32) : Int32 := (if x0 < (12272 : Int32) then (f2_156  x0) else (if (12288 : Int32) < x0 then (f2_156  x0) else (0 : Int32)))
set_option maxRecDepth 65536 in
set_option maxHeartbeats 40000000 in
theorem bk2_140 (l : Launch) (Z : State) (a0 : Array Value) (hw : ∀ d ∈ tables_1, d.before a0 Z = true) (h0 : Heap)     (x0 : Int32)  {p : Program} {e : Env} {s : State} {m : MethodId} {args : Array Value} {below : List Frame} {meth : Method} {c : Code} {T0 : State}
    (X0 : Stand p l e ({ frames := 0, cells := 0, slots := 0, locals := 0 } : Room) s m args below meth c T0 [] 0 0) (hx : p.tables.exec = Jvm.exec) (hby : c.code = method_2_code) (hml : c.maxLocals = 1) (hret : meth.sig.returnType = (some .boolean)) (hlk : meth.locks = false) (hZ : Z.Warmed39 s.vm) (hown : s.vm.findClass "com/example/siegelbund/siegelbund/core/xml/XmlCharsIsNcNameStartCharPinLaw" = some m.cls) (hnm : meth.name = "ref") (e0 : T0.heap = h0) :
    own_Go p e below s (own_Qp (some (.int (f2_140  x0))) h0) 0 0 (T0.setTop (mkF m 140 #[.val (.int x0)] [])) := by
  have hf : f2_140  x0 = (if x0 < (12272 : Int32) then (f2_156  x0) else (if (12288 : Int32) < x0 then (f2_156  x0) else (0 : Int32))) := rfl
  refine own_by (B := T0.setTop (mkF m 141 #[.val (.int x0)] [(.int x0)])) (fun t k => XS.iloadN X0.here hx rfl (hb hby d2_140) rfl k) ?_
  refine own_by (B := T0.setTop (mkF m 144 #[.val (.int x0)] [(.int (12272 : Int32)), (.int x0)])) (fun t k => XS.sipush X0.here hx rfl (hb hby d2_141) k) ?_
  by_cases hc1 : x0 < (12272 : Int32)
  ·
    rw [if_pos hc1] at hf
    refine own_by (B := T0.setTop (mkF m 156 #[.val (.int x0)] [])) (fun t k => XS.icmpYes X0.here hx rfl (pc0 := 144) (pc' := 156) rfl (hb hby d2_144) rfl (tlt hc1).1 (by decide) (by decide) k) ?_
    rw [hf]
    exact bk2_156 l Z a0 hw h0   x0  X0 hx hby hml hret hlk hZ hown hnm e0
  ·
    rw [if_neg hc1] at hf
    refine own_by (B := T0.setTop (mkF m 147 #[.val (.int x0)] [])) (fun t k => XS.icmpNo X0.here hx rfl (hb hby d2_144) rfl (flt hc1).1 k) ?_
    refine own_by (B := T0.setTop (mkF m 148 #[.val (.int x0)] [(.int x0)])) (fun t k => XS.iloadN X0.here hx rfl (hb hby d2_147) rfl k) ?_
    refine own_by (B := T0.setTop (mkF m 151 #[.val (.int x0)] [(.int (12288 : Int32)), (.int x0)])) (fun t k => XS.sipush X0.here hx rfl (hb hby d2_148) k) ?_
    by_cases hc2 : (12288 : Int32) < x0
    ·
      rw [if_pos hc2] at hf
      refine own_by (B := T0.setTop (mkF m 156 #[.val (.int x0)] [])) (fun t k => XS.icmpYes X0.here hx rfl (pc0 := 151) (pc' := 156) rfl (hb hby d2_151) rfl (tlt hc2).2.2.1 (by decide) (by decide) k) ?_
      rw [hf]
      exact bk2_156 l Z a0 hw h0   x0  X0 hx hby hml hret hlk hZ hown hnm e0
    ·
      rw [if_neg hc2] at hf
      refine own_by (B := T0.setTop (mkF m 154 #[.val (.int x0)] [])) (fun t k => XS.icmpNo X0.here hx rfl (hb hby d2_151) rfl (flt hc2).2.2.1 k) ?_
      refine own_by (B := T0.setTop (mkF m 155 #[.val (.int x0)] [(.int (0 : Int32))])) (fun t k => XS.iconst X0.here hx rfl (hb hby d2_154) k) ?_
      exact own_retN (t := .boolean) (by simp) X0 hx hlk hret (z' := (0 : Int32)) (by decide) (hb hby d2_155) ⟨by rw [hf], rfl, e0⟩ (by decide) (by decide)
def f2_124  (x0 : Int32) : Int32 := (if x0 < (8592 : Int32) then (f2_140  x0) else (if (11263 : Int32) < x0 then (f2_140  x0) else (0 : Int32)))
set_option maxRecDepth 65536 in
set_option maxHeartbeats 40000000 in
theorem bk2_124 (l : Launch) (Z : State) (a0 : Array Value) (hw : ∀ d ∈ tables_1, d.before a0 Z = true) (h0 : Heap)     (x0 : Int32)  {p : Program} {e : Env} {s : State} {m : MethodId} {args : Array Value} {below : List Frame} {meth : Method} {c : Code} {T0 : State}
    (X0 : Stand p l e ({ frames := 0, cells := 0, slots := 0, locals := 0 } : Room) s m args below meth c T0 [] 0 0) (hx : p.tables.exec = Jvm.exec) (hby : c.code = method_2_code) (hml : c.maxLocals = 1) (hret : meth.sig.returnType = (some .boolean)) (hlk : meth.locks = false) (hZ : Z.Warmed39 s.vm) (hown : s.vm.findClass "com/example/siegelbund/siegelbund/core/xml/XmlCharsIsNcNameStartCharPinLaw" = some m.cls) (hnm : meth.name = "ref") (e0 : T0.heap = h0) :
    own_Go p e below s (own_Qp (some (.int (f2_124  x0))) h0) 0 0 (T0.setTop (mkF m 124 #[.val (.int x0)] [])) := by
  have hf : f2_124  x0 = (if x0 < (8592 : Int32) then (f2_140  x0) else (if (11263 : Int32) < x0 then (f2_140  x0) else (0 : Int32))) := rfl
  refine own_by (B := T0.setTop (mkF m 125 #[.val (.int x0)] [(.int x0)])) (fun t k => XS.iloadN X0.here hx rfl (hb hby d2_124) rfl k) ?_
  refine own_by (B := T0.setTop (mkF m 128 #[.val (.int x0)] [(.int (8592 : Int32)), (.int x0)])) (fun t k => XS.sipush X0.here hx rfl (hb hby d2_125) k) ?_
  by_cases hc1 : x0 < (8592 : Int32)
  ·
    rw [if_pos hc1] at hf
    refine own_by (B := T0.setTop (mkF m 140 #[.val (.int x0)] [])) (fun t k => XS.icmpYes X0.here hx rfl (pc0 := 128) (pc' := 140) rfl (hb hby d2_128) rfl (tlt hc1).1 (by decide) (by decide) k) ?_
    rw [hf]
    exact bk2_140 l Z a0 hw h0   x0  X0 hx hby hml hret hlk hZ hown hnm e0
  ·
    rw [if_neg hc1] at hf
    refine own_by (B := T0.setTop (mkF m 131 #[.val (.int x0)] [])) (fun t k => XS.icmpNo X0.here hx rfl (hb hby d2_128) rfl (flt hc1).1 k) ?_
    refine own_by (B := T0.setTop (mkF m 132 #[.val (.int x0)] [(.int x0)])) (fun t k => XS.iloadN X0.here hx rfl (hb hby d2_131) rfl k) ?_
    refine own_by (B := T0.setTop (mkF m 135 #[.val (.int x0)] [(.int (11263 : Int32)), (.int x0)])) (fun t k => XS.sipush X0.here hx rfl (hb hby d2_132) k) ?_
    by_cases hc2 : (11263 : Int32) < x0
    ·
      rw [if_pos hc2] at hf
      refine own_by (B := T0.setTop (mkF m 140 #[.val (.int x0)] [])) (fun t k => XS.icmpYes X0.here hx rfl (pc0 := 135) (pc' := 140) rfl (hb hby d2_135) rfl (tlt hc2).2.2.1 (by decide) (by decide) k) ?_
      rw [hf]
      exact bk2_140 l Z a0 hw h0   x0  X0 hx hby hml hret hlk hZ hown hnm e0
    ·
      rw [if_neg hc2] at hf
      refine own_by (B := T0.setTop (mkF m 138 #[.val (.int x0)] [])) (fun t k => XS.icmpNo X0.here hx rfl (hb hby d2_135) rfl (flt hc2).2.2.1 k) ?_
      refine own_by (B := T0.setTop (mkF m 139 #[.val (.int x0)] [(.int (0 : Int32))])) (fun t k => XS.iconst X0.here hx rfl (hb hby d2_138) k) ?_
      exact own_retN (t := .boolean) (by simp) X0 hx hlk hret (z' := (0 : Int32)) (by decide) (hb hby d2_139) ⟨by rw [hf], rfl, e0⟩ (by decide) (by decide)
def f2_108  (x0 : Int32) : Int32 := (if x0 < (8206 : Int32) then (f2_124  x0) else (if (8303 : Int32) < x0 then (f2_124  x0) else (0 : Int32)))
set_option maxRecDepth 65536 in
set_option maxHeartbeats 40000000 in
theorem bk2_108 (l : Launch) (Z : State) (a0 : Array Value) (hw : ∀ d ∈ tables_1, d.before a0 Z = true) (h0 : Heap)     (x0 : Int32)  {p : Program} {e : Env} {s : State} {m : MethodId} {args : Array Value} {below : List Frame} {meth : Method} {c : Code} {T0 : State}
    (X0 : Stand p l e ({ frames := 0, cells := 0, slots := 0, locals := 0 } : Room) s m args below meth c T0 [] 0 0) (hx : p.tables.exec = Jvm.exec) (hby : c.code = method_2_code) (hml : c.maxLocals = 1) (hret : meth.sig.returnType = (some .boolean)) (hlk : meth.locks = false) (hZ : Z.Warmed39 s.vm) (hown : s.vm.findClass "com/example/siegelbund/siegelbund/core/xml/XmlCharsIsNcNameStartCharPinLaw" = some m.cls) (hnm : meth.name = "ref") (e0 : T0.heap = h0) :
    own_Go p e below s (own_Qp (some (.int (f2_108  x0))) h0) 0 0 (T0.setTop (mkF m 108 #[.val (.int x0)] [])) := by
  have hf : f2_108  x0 = (if x0 < (8206 : Int32) then (f2_124  x0) else (if (8303 : Int32) < x0 then (f2_124  x0) else (0 : Int32))) := rfl
  refine own_by (B := T0.setTop (mkF m 109 #[.val (.int x0)] [(.int x0)])) (fun t k => XS.iloadN X0.here hx rfl (hb hby d2_108) rfl k) ?_
  refine own_by (B := T0.setTop (mkF m 112 #[.val (.int x0)] [(.int (8206 : Int32)), (.int x0)])) (fun t k => XS.sipush X0.here hx rfl (hb hby d2_109) k) ?_
  by_cases hc1 : x0 < (8206 : Int32)
  ·
    rw [if_pos hc1] at hf
    refine own_by (B := T0.setTop (mkF m 124 #[.val (.int x0)] [])) (fun t k => XS.icmpYes X0.here hx rfl (pc0 := 112) (pc' := 124) rfl (hb hby d2_112) rfl (tlt hc1).1 (by decide) (by decide) k) ?_
    rw [hf]
    exact bk2_124 l Z a0 hw h0   x0  X0 hx hby hml hret hlk hZ hown hnm e0
  ·
    rw [if_neg hc1] at hf
    refine own_by (B := T0.setTop (mkF m 115 #[.val (.int x0)] [])) (fun t k => XS.icmpNo X0.here hx rfl (hb hby d2_112) rfl (flt hc1).1 k) ?_
    refine own_by (B := T0.setTop (mkF m 116 #[.val (.int x0)] [(.int x0)])) (fun t k => XS.iloadN X0.here hx rfl (hb hby d2_115) rfl k) ?_
    refine own_by (B := T0.setTop (mkF m 119 #[.val (.int x0)] [(.int (8303 : Int32)), (.int x0)])) (fun t k => XS.sipush X0.here hx rfl (hb hby d2_116) k) ?_
    by_cases hc2 : (8303 : Int32) < x0
    ·
      rw [if_pos hc2] at hf
      refine own_by (B := T0.setTop (mkF m 124 #[.val (.int x0)] [])) (fun t k => XS.icmpYes X0.here hx rfl (pc0 := 119) (pc' := 124) rfl (hb hby d2_119) rfl (tlt hc2).2.2.1 (by decide) (by decide) k) ?_
      rw [hf]
      exact bk2_124 l Z a0 hw h0   x0  X0 hx hby hml hret hlk hZ hown hnm e0
    ·
      rw [if_neg hc2] at hf
      refine own_by (B := T0.setTop (mkF m 122 #[.val (.int x0)] [])) (fun t k => XS.icmpNo X0.here hx rfl (hb hby d2_119) rfl (flt hc2).2.2.1 k) ?_
      refine own_by (B := T0.setTop (mkF m 123 #[.val (.int x0)] [(.int (0 : Int32))])) (fun t k => XS.iconst X0.here hx rfl (hb hby d2_122) k) ?_
      exact own_retN (t := .boolean) (by simp) X0 hx hlk hret (z' := (0 : Int32)) (by decide) (hb hby d2_123) ⟨by rw [hf], rfl, e0⟩ (by decide) (by decide)
def f2_83  (x0 : Int32) : Int32 := (if x0 = (894 : Int32) then (0 : Int32) else (if x0 < (8192 : Int32) then (f2_108  x0) else (if (8203 : Int32) < x0 then (f2_108  x0) else (0 : Int32))))
set_option maxRecDepth 65536 in
set_option maxHeartbeats 40000000 in
theorem bk2_83 (l : Launch) (Z : State) (a0 : Array Value) (hw : ∀ d ∈ tables_1, d.before a0 Z = true) (h0 : Heap)     (x0 : Int32)  {p : Program} {e : Env} {s : State} {m : MethodId} {args : Array Value} {below : List Frame} {meth : Method} {c : Code} {T0 : State}
    (X0 : Stand p l e ({ frames := 0, cells := 0, slots := 0, locals := 0 } : Room) s m args below meth c T0 [] 0 0) (hx : p.tables.exec = Jvm.exec) (hby : c.code = method_2_code) (hml : c.maxLocals = 1) (hret : meth.sig.returnType = (some .boolean)) (hlk : meth.locks = false) (hZ : Z.Warmed39 s.vm) (hown : s.vm.findClass "com/example/siegelbund/siegelbund/core/xml/XmlCharsIsNcNameStartCharPinLaw" = some m.cls) (hnm : meth.name = "ref") (e0 : T0.heap = h0) :
    own_Go p e below s (own_Qp (some (.int (f2_83  x0))) h0) 0 0 (T0.setTop (mkF m 83 #[.val (.int x0)] [])) := by
  have hf : f2_83  x0 = (if x0 = (894 : Int32) then (0 : Int32) else (if x0 < (8192 : Int32) then (f2_108  x0) else (if (8203 : Int32) < x0 then (f2_108  x0) else (0 : Int32)))) := rfl
  refine own_by (B := T0.setTop (mkF m 84 #[.val (.int x0)] [(.int x0)])) (fun t k => XS.iloadN X0.here hx rfl (hb hby d2_83) rfl k) ?_
  refine own_by (B := T0.setTop (mkF m 87 #[.val (.int x0)] [(.int (894 : Int32)), (.int x0)])) (fun t k => XS.sipush X0.here hx rfl (hb hby d2_84) k) ?_
  by_cases hc1 : x0 = (894 : Int32)
  ·
    rw [if_pos hc1] at hf
    refine own_by (B := T0.setTop (mkF m 90 #[.val (.int x0)] [])) (fun t k => XS.icmpNo X0.here hx rfl (hb hby d2_87) rfl (teq hc1).2 k) ?_
    refine own_by (B := T0.setTop (mkF m 91 #[.val (.int x0)] [(.int (0 : Int32))])) (fun t k => XS.iconst X0.here hx rfl (hb hby d2_90) k) ?_
    exact own_retN (t := .boolean) (by simp) X0 hx hlk hret (z' := (0 : Int32)) (by decide) (hb hby d2_91) ⟨by rw [hf], rfl, e0⟩ (by decide) (by decide)
  ·
    rw [if_neg hc1] at hf
    refine own_by (B := T0.setTop (mkF m 92 #[.val (.int x0)] [])) (fun t k => XS.icmpYes X0.here hx rfl (pc0 := 87) (pc' := 92) rfl (hb hby d2_87) rfl (feq hc1).2 (by decide) (by decide) k) ?_
    refine own_by (B := T0.setTop (mkF m 93 #[.val (.int x0)] [(.int x0)])) (fun t k => XS.iloadN X0.here hx rfl (hb hby d2_92) rfl k) ?_
    refine own_by (B := T0.setTop (mkF m 96 #[.val (.int x0)] [(.int (8192 : Int32)), (.int x0)])) (fun t k => XS.sipush X0.here hx rfl (hb hby d2_93) k) ?_
    by_cases hc2 : x0 < (8192 : Int32)
    ·
      rw [if_pos hc2] at hf
      refine own_by (B := T0.setTop (mkF m 108 #[.val (.int x0)] [])) (fun t k => XS.icmpYes X0.here hx rfl (pc0 := 96) (pc' := 108) rfl (hb hby d2_96) rfl (tlt hc2).1 (by decide) (by decide) k) ?_
      rw [hf]
      exact bk2_108 l Z a0 hw h0   x0  X0 hx hby hml hret hlk hZ hown hnm e0
    ·
      rw [if_neg hc2] at hf
      refine own_by (B := T0.setTop (mkF m 99 #[.val (.int x0)] [])) (fun t k => XS.icmpNo X0.here hx rfl (hb hby d2_96) rfl (flt hc2).1 k) ?_
      refine own_by (B := T0.setTop (mkF m 100 #[.val (.int x0)] [(.int x0)])) (fun t k => XS.iloadN X0.here hx rfl (hb hby d2_99) rfl k) ?_
      refine own_by (B := T0.setTop (mkF m 103 #[.val (.int x0)] [(.int (8203 : Int32)), (.int x0)])) (fun t k => XS.sipush X0.here hx rfl (hb hby d2_100) k) ?_
      by_cases hc3 : (8203 : Int32) < x0
      ·
        rw [if_pos hc3] at hf
        refine own_by (B := T0.setTop (mkF m 108 #[.val (.int x0)] [])) (fun t k => XS.icmpYes X0.here hx rfl (pc0 := 103) (pc' := 108) rfl (hb hby d2_103) rfl (tlt hc3).2.2.1 (by decide) (by decide) k) ?_
        rw [hf]
        exact bk2_108 l Z a0 hw h0   x0  X0 hx hby hml hret hlk hZ hown hnm e0
      ·
        rw [if_neg hc3] at hf
        refine own_by (B := T0.setTop (mkF m 106 #[.val (.int x0)] [])) (fun t k => XS.icmpNo X0.here hx rfl (hb hby d2_103) rfl (flt hc3).2.2.1 k) ?_
        refine own_by (B := T0.setTop (mkF m 107 #[.val (.int x0)] [(.int (0 : Int32))])) (fun t k => XS.iconst X0.here hx rfl (hb hby d2_106) k) ?_
        exact own_retN (t := .boolean) (by simp) X0 hx hlk hret (z' := (0 : Int32)) (by decide) (hb hby d2_107) ⟨by rw [hf], rfl, e0⟩ (by decide) (by decide)
def f2_51  (x0 : Int32) : Int32 := (if x0 = (215 : Int32) then (f2_65  x0) else (if x0 = (247 : Int32) then (f2_65  x0) else (if x0 < (768 : Int32) then (f2_83  x0) else (if (879 : Int32) < x0 then (f2_83  x0) else (0 : Int32)))))
set_option maxRecDepth 65536 in
set_option maxHeartbeats 40000000 in
theorem bk2_51 (l : Launch) (Z : State) (a0 : Array Value) (hw : ∀ d ∈ tables_1, d.before a0 Z = true) (h0 : Heap)     (x0 : Int32)  {p : Program} {e : Env} {s : State} {m : MethodId} {args : Array Value} {below : List Frame} {meth : Method} {c : Code} {T0 : State}
    (X0 : Stand p l e ({ frames := 0, cells := 0, slots := 0, locals := 0 } : Room) s m args below meth c T0 [] 0 0) (hx : p.tables.exec = Jvm.exec) (hby : c.code = method_2_code) (hml : c.maxLocals = 1) (hret : meth.sig.returnType = (some .boolean)) (hlk : meth.locks = false) (hZ : Z.Warmed39 s.vm) (hown : s.vm.findClass "com/example/siegelbund/siegelbund/core/xml/XmlCharsIsNcNameStartCharPinLaw" = some m.cls) (hnm : meth.name = "ref") (e0 : T0.heap = h0) :
    own_Go p e below s (own_Qp (some (.int (f2_51  x0))) h0) 0 0 (T0.setTop (mkF m 51 #[.val (.int x0)] [])) := by
  have hf : f2_51  x0 = (if x0 = (215 : Int32) then (f2_65  x0) else (if x0 = (247 : Int32) then (f2_65  x0) else (if x0 < (768 : Int32) then (f2_83  x0) else (if (879 : Int32) < x0 then (f2_83  x0) else (0 : Int32))))) := rfl
  refine own_by (B := T0.setTop (mkF m 52 #[.val (.int x0)] [(.int x0)])) (fun t k => XS.iloadN X0.here hx rfl (hb hby d2_51) rfl k) ?_
  refine own_by (B := T0.setTop (mkF m 55 #[.val (.int x0)] [(.int (215 : Int32)), (.int x0)])) (fun t k => XS.sipush X0.here hx rfl (hb hby d2_52) k) ?_
  by_cases hc1 : x0 = (215 : Int32)
  ·
    rw [if_pos hc1] at hf
    refine own_by (B := T0.setTop (mkF m 65 #[.val (.int x0)] [])) (fun t k => XS.icmpYes X0.here hx rfl (pc0 := 55) (pc' := 65) rfl (hb hby d2_55) rfl (teq hc1).1 (by decide) (by decide) k) ?_
    rw [hf]
    exact bk2_65 l Z a0 hw h0   x0  X0 hx hby hml hret hlk hZ hown hnm e0
  ·
    rw [if_neg hc1] at hf
    refine own_by (B := T0.setTop (mkF m 58 #[.val (.int x0)] [])) (fun t k => XS.icmpNo X0.here hx rfl (hb hby d2_55) rfl (feq hc1).1 k) ?_
    refine own_by (B := T0.setTop (mkF m 59 #[.val (.int x0)] [(.int x0)])) (fun t k => XS.iloadN X0.here hx rfl (hb hby d2_58) rfl k) ?_
    refine own_by (B := T0.setTop (mkF m 62 #[.val (.int x0)] [(.int (247 : Int32)), (.int x0)])) (fun t k => XS.sipush X0.here hx rfl (hb hby d2_59) k) ?_
    by_cases hc2 : x0 = (247 : Int32)
    ·
      rw [if_pos hc2] at hf
      refine own_by (B := T0.setTop (mkF m 65 #[.val (.int x0)] [])) (fun t k => XS.icmpNo X0.here hx rfl (hb hby d2_62) rfl (teq hc2).2 k) ?_
      rw [hf]
      exact bk2_65 l Z a0 hw h0   x0  X0 hx hby hml hret hlk hZ hown hnm e0
    ·
      rw [if_neg hc2] at hf
      refine own_by (B := T0.setTop (mkF m 67 #[.val (.int x0)] [])) (fun t k => XS.icmpYes X0.here hx rfl (pc0 := 62) (pc' := 67) rfl (hb hby d2_62) rfl (feq hc2).2 (by decide) (by decide) k) ?_
      refine own_by (B := T0.setTop (mkF m 68 #[.val (.int x0)] [(.int x0)])) (fun t k => XS.iloadN X0.here hx rfl (hb hby d2_67) rfl k) ?_
      refine own_by (B := T0.setTop (mkF m 71 #[.val (.int x0)] [(.int (768 : Int32)), (.int x0)])) (fun t k => XS.sipush X0.here hx rfl (hb hby d2_68) k) ?_
      by_cases hc3 : x0 < (768 : Int32)
      ·
        rw [if_pos hc3] at hf
        refine own_by (B := T0.setTop (mkF m 83 #[.val (.int x0)] [])) (fun t k => XS.icmpYes X0.here hx rfl (pc0 := 71) (pc' := 83) rfl (hb hby d2_71) rfl (tlt hc3).1 (by decide) (by decide) k) ?_
        rw [hf]
        exact bk2_83 l Z a0 hw h0   x0  X0 hx hby hml hret hlk hZ hown hnm e0
      ·
        rw [if_neg hc3] at hf
        refine own_by (B := T0.setTop (mkF m 74 #[.val (.int x0)] [])) (fun t k => XS.icmpNo X0.here hx rfl (hb hby d2_71) rfl (flt hc3).1 k) ?_
        refine own_by (B := T0.setTop (mkF m 75 #[.val (.int x0)] [(.int x0)])) (fun t k => XS.iloadN X0.here hx rfl (hb hby d2_74) rfl k) ?_
        refine own_by (B := T0.setTop (mkF m 78 #[.val (.int x0)] [(.int (879 : Int32)), (.int x0)])) (fun t k => XS.sipush X0.here hx rfl (hb hby d2_75) k) ?_
        by_cases hc4 : (879 : Int32) < x0
        ·
          rw [if_pos hc4] at hf
          refine own_by (B := T0.setTop (mkF m 83 #[.val (.int x0)] [])) (fun t k => XS.icmpYes X0.here hx rfl (pc0 := 78) (pc' := 83) rfl (hb hby d2_78) rfl (tlt hc4).2.2.1 (by decide) (by decide) k) ?_
          rw [hf]
          exact bk2_83 l Z a0 hw h0   x0  X0 hx hby hml hret hlk hZ hown hnm e0
        ·
          rw [if_neg hc4] at hf
          refine own_by (B := T0.setTop (mkF m 81 #[.val (.int x0)] [])) (fun t k => XS.icmpNo X0.here hx rfl (hb hby d2_78) rfl (flt hc4).2.2.1 k) ?_
          refine own_by (B := T0.setTop (mkF m 82 #[.val (.int x0)] [(.int (0 : Int32))])) (fun t k => XS.iconst X0.here hx rfl (hb hby d2_81) k) ?_
          exact own_retN (t := .boolean) (by simp) X0 hx hlk hret (z' := (0 : Int32)) (by decide) (hb hby d2_82) ⟨by rw [hf], rfl, e0⟩ (by decide) (by decide)
def f2_28  (x0 : Int32) : Int32 := (if x0 = (96 : Int32) then (0 : Int32) else (if x0 < (123 : Int32) then (f2_51  x0) else (if (191 : Int32) < x0 then (f2_51  x0) else (0 : Int32))))
set_option maxRecDepth 65536 in
set_option maxHeartbeats 40000000 in
theorem bk2_28 (l : Launch) (Z : State) (a0 : Array Value) (hw : ∀ d ∈ tables_1, d.before a0 Z = true) (h0 : Heap)     (x0 : Int32)  {p : Program} {e : Env} {s : State} {m : MethodId} {args : Array Value} {below : List Frame} {meth : Method} {c : Code} {T0 : State}
    (X0 : Stand p l e ({ frames := 0, cells := 0, slots := 0, locals := 0 } : Room) s m args below meth c T0 [] 0 0) (hx : p.tables.exec = Jvm.exec) (hby : c.code = method_2_code) (hml : c.maxLocals = 1) (hret : meth.sig.returnType = (some .boolean)) (hlk : meth.locks = false) (hZ : Z.Warmed39 s.vm) (hown : s.vm.findClass "com/example/siegelbund/siegelbund/core/xml/XmlCharsIsNcNameStartCharPinLaw" = some m.cls) (hnm : meth.name = "ref") (e0 : T0.heap = h0) :
    own_Go p e below s (own_Qp (some (.int (f2_28  x0))) h0) 0 0 (T0.setTop (mkF m 28 #[.val (.int x0)] [])) := by
  have hf : f2_28  x0 = (if x0 = (96 : Int32) then (0 : Int32) else (if x0 < (123 : Int32) then (f2_51  x0) else (if (191 : Int32) < x0 then (f2_51  x0) else (0 : Int32)))) := rfl
  refine own_by (B := T0.setTop (mkF m 29 #[.val (.int x0)] [(.int x0)])) (fun t k => XS.iloadN X0.here hx rfl (hb hby d2_28) rfl k) ?_
  refine own_by (B := T0.setTop (mkF m 31 #[.val (.int x0)] [(.int (96 : Int32)), (.int x0)])) (fun t k => XS.bipush X0.here hx rfl (hb hby d2_29) k) ?_
  by_cases hc1 : x0 = (96 : Int32)
  ·
    rw [if_pos hc1] at hf
    refine own_by (B := T0.setTop (mkF m 34 #[.val (.int x0)] [])) (fun t k => XS.icmpNo X0.here hx rfl (hb hby d2_31) rfl (teq hc1).2 k) ?_
    refine own_by (B := T0.setTop (mkF m 35 #[.val (.int x0)] [(.int (0 : Int32))])) (fun t k => XS.iconst X0.here hx rfl (hb hby d2_34) k) ?_
    exact own_retN (t := .boolean) (by simp) X0 hx hlk hret (z' := (0 : Int32)) (by decide) (hb hby d2_35) ⟨by rw [hf], rfl, e0⟩ (by decide) (by decide)
  ·
    rw [if_neg hc1] at hf
    refine own_by (B := T0.setTop (mkF m 36 #[.val (.int x0)] [])) (fun t k => XS.icmpYes X0.here hx rfl (pc0 := 31) (pc' := 36) rfl (hb hby d2_31) rfl (feq hc1).2 (by decide) (by decide) k) ?_
    refine own_by (B := T0.setTop (mkF m 37 #[.val (.int x0)] [(.int x0)])) (fun t k => XS.iloadN X0.here hx rfl (hb hby d2_36) rfl k) ?_
    refine own_by (B := T0.setTop (mkF m 39 #[.val (.int x0)] [(.int (123 : Int32)), (.int x0)])) (fun t k => XS.bipush X0.here hx rfl (hb hby d2_37) k) ?_
    by_cases hc2 : x0 < (123 : Int32)
    ·
      rw [if_pos hc2] at hf
      refine own_by (B := T0.setTop (mkF m 51 #[.val (.int x0)] [])) (fun t k => XS.icmpYes X0.here hx rfl (pc0 := 39) (pc' := 51) rfl (hb hby d2_39) rfl (tlt hc2).1 (by decide) (by decide) k) ?_
      rw [hf]
      exact bk2_51 l Z a0 hw h0   x0  X0 hx hby hml hret hlk hZ hown hnm e0
    ·
      rw [if_neg hc2] at hf
      refine own_by (B := T0.setTop (mkF m 42 #[.val (.int x0)] [])) (fun t k => XS.icmpNo X0.here hx rfl (hb hby d2_39) rfl (flt hc2).1 k) ?_
      refine own_by (B := T0.setTop (mkF m 43 #[.val (.int x0)] [(.int x0)])) (fun t k => XS.iloadN X0.here hx rfl (hb hby d2_42) rfl k) ?_
      refine own_by (B := T0.setTop (mkF m 46 #[.val (.int x0)] [(.int (191 : Int32)), (.int x0)])) (fun t k => XS.sipush X0.here hx rfl (hb hby d2_43) k) ?_
      by_cases hc3 : (191 : Int32) < x0
      ·
        rw [if_pos hc3] at hf
        refine own_by (B := T0.setTop (mkF m 51 #[.val (.int x0)] [])) (fun t k => XS.icmpYes X0.here hx rfl (pc0 := 46) (pc' := 51) rfl (hb hby d2_46) rfl (tlt hc3).2.2.1 (by decide) (by decide) k) ?_
        rw [hf]
        exact bk2_51 l Z a0 hw h0   x0  X0 hx hby hml hret hlk hZ hown hnm e0
      ·
        rw [if_neg hc3] at hf
        refine own_by (B := T0.setTop (mkF m 49 #[.val (.int x0)] [])) (fun t k => XS.icmpNo X0.here hx rfl (hb hby d2_46) rfl (flt hc3).2.2.1 k) ?_
        refine own_by (B := T0.setTop (mkF m 50 #[.val (.int x0)] [(.int (0 : Int32))])) (fun t k => XS.iconst X0.here hx rfl (hb hby d2_49) k) ?_
        exact own_retN (t := .boolean) (by simp) X0 hx hlk hret (z' := (0 : Int32)) (by decide) (hb hby d2_50) ⟨by rw [hf], rfl, e0⟩ (by decide) (by decide)
def f2_0  (x0 : Int32) : Int32 := (if x0 < (65 : Int32) then (f2_12  x0) else (if (983039 : Int32) < x0 then (f2_12  x0) else (if x0 < (91 : Int32) then (f2_28  x0) else (if (94 : Int32) < x0 then (f2_28  x0) else (0 : Int32)))))
set_option maxRecDepth 65536 in
set_option maxHeartbeats 40000000 in
theorem bk2_0 (l : Launch) (Z : State) (a0 : Array Value) (hw : ∀ d ∈ tables_1, d.before a0 Z = true) (h0 : Heap)     (x0 : Int32)  {p : Program} {e : Env} {s : State} {m : MethodId} {args : Array Value} {below : List Frame} {meth : Method} {c : Code} {T0 : State}
    (X0 : Stand p l e ({ frames := 0, cells := 0, slots := 0, locals := 0 } : Room) s m args below meth c T0 [] 0 0) (hx : p.tables.exec = Jvm.exec) (hby : c.code = method_2_code) (hml : c.maxLocals = 1) (hret : meth.sig.returnType = (some .boolean)) (hlk : meth.locks = false) (hZ : Z.Warmed39 s.vm) (hown : s.vm.findClass "com/example/siegelbund/siegelbund/core/xml/XmlCharsIsNcNameStartCharPinLaw" = some m.cls) (hnm : meth.name = "ref") (e0 : T0.heap = h0) :
    own_Go p e below s (own_Qp (some (.int (f2_0  x0))) h0) 0 0 (T0.setTop (mkF m 0 #[.val (.int x0)] [])) := by
  have hf : f2_0  x0 = (if x0 < (65 : Int32) then (f2_12  x0) else (if (983039 : Int32) < x0 then (f2_12  x0) else (if x0 < (91 : Int32) then (f2_28  x0) else (if (94 : Int32) < x0 then (f2_28  x0) else (0 : Int32))))) := rfl
  refine own_by (B := T0.setTop (mkF m 1 #[.val (.int x0)] [(.int x0)])) (fun t k => XS.iloadN X0.here hx rfl (hb hby d2_0) rfl k) ?_
  refine own_by (B := T0.setTop (mkF m 3 #[.val (.int x0)] [(.int (65 : Int32)), (.int x0)])) (fun t k => XS.bipush X0.here hx rfl (hb hby d2_1) k) ?_
  by_cases hc1 : x0 < (65 : Int32)
  ·
    rw [if_pos hc1] at hf
    refine own_by (B := T0.setTop (mkF m 12 #[.val (.int x0)] [])) (fun t k => XS.icmpYes X0.here hx rfl (pc0 := 3) (pc' := 12) rfl (hb hby d2_3) rfl (tlt hc1).1 (by decide) (by decide) k) ?_
    rw [hf]
    exact bk2_12 l Z a0 hw h0   x0  X0 hx hby hml hret hlk hZ hown hnm e0
  ·
    rw [if_neg hc1] at hf
    refine own_by (B := T0.setTop (mkF m 6 #[.val (.int x0)] [])) (fun t k => XS.icmpNo X0.here hx rfl (hb hby d2_3) rfl (flt hc1).1 k) ?_
    refine own_by (B := T0.setTop (mkF m 7 #[.val (.int x0)] [(.int x0)])) (fun t k => XS.iloadN X0.here hx rfl (hb hby d2_6) rfl k) ?_
    refine own_by (B := T0.setTop (mkF m 9 #[.val (.int x0)] [(.int (983039 : Int32)), (.int x0)])) (fun t k => X0.ldcInt hx hown (mvT hZ (hw _ (List.mem_of_getElem? (i := 7) rfl))) (g := (mkF m 7 #[.val (.int x0)] [(.int x0)])) rfl (hb hby d2_7) _ k) ?_
    by_cases hc2 : (983039 : Int32) < x0
    ·
      rw [if_pos hc2] at hf
      refine own_by (B := T0.setTop (mkF m 12 #[.val (.int x0)] [])) (fun t k => XS.icmpNo X0.here hx rfl (hb hby d2_9) rfl (tlt hc2).2.2.2 k) ?_
      rw [hf]
      exact bk2_12 l Z a0 hw h0   x0  X0 hx hby hml hret hlk hZ hown hnm e0
    ·
      rw [if_neg hc2] at hf
      refine own_by (B := T0.setTop (mkF m 14 #[.val (.int x0)] [])) (fun t k => XS.icmpYes X0.here hx rfl (pc0 := 9) (pc' := 14) rfl (hb hby d2_9) rfl (flt hc2).2.2.2 (by decide) (by decide) k) ?_
      refine own_by (B := T0.setTop (mkF m 15 #[.val (.int x0)] [(.int x0)])) (fun t k => XS.iloadN X0.here hx rfl (hb hby d2_14) rfl k) ?_
      refine own_by (B := T0.setTop (mkF m 17 #[.val (.int x0)] [(.int (91 : Int32)), (.int x0)])) (fun t k => XS.bipush X0.here hx rfl (hb hby d2_15) k) ?_
      by_cases hc3 : x0 < (91 : Int32)
      ·
        rw [if_pos hc3] at hf
        refine own_by (B := T0.setTop (mkF m 28 #[.val (.int x0)] [])) (fun t k => XS.icmpYes X0.here hx rfl (pc0 := 17) (pc' := 28) rfl (hb hby d2_17) rfl (tlt hc3).1 (by decide) (by decide) k) ?_
        rw [hf]
        exact bk2_28 l Z a0 hw h0   x0  X0 hx hby hml hret hlk hZ hown hnm e0
      ·
        rw [if_neg hc3] at hf
        refine own_by (B := T0.setTop (mkF m 20 #[.val (.int x0)] [])) (fun t k => XS.icmpNo X0.here hx rfl (hb hby d2_17) rfl (flt hc3).1 k) ?_
        refine own_by (B := T0.setTop (mkF m 21 #[.val (.int x0)] [(.int x0)])) (fun t k => XS.iloadN X0.here hx rfl (hb hby d2_20) rfl k) ?_
        refine own_by (B := T0.setTop (mkF m 23 #[.val (.int x0)] [(.int (94 : Int32)), (.int x0)])) (fun t k => XS.bipush X0.here hx rfl (hb hby d2_21) k) ?_
        by_cases hc4 : (94 : Int32) < x0
        ·
          rw [if_pos hc4] at hf
          refine own_by (B := T0.setTop (mkF m 28 #[.val (.int x0)] [])) (fun t k => XS.icmpYes X0.here hx rfl (pc0 := 23) (pc' := 28) rfl (hb hby d2_23) rfl (tlt hc4).2.2.1 (by decide) (by decide) k) ?_
          rw [hf]
          exact bk2_28 l Z a0 hw h0   x0  X0 hx hby hml hret hlk hZ hown hnm e0
        ·
          rw [if_neg hc4] at hf
          refine own_by (B := T0.setTop (mkF m 26 #[.val (.int x0)] [])) (fun t k => XS.icmpNo X0.here hx rfl (hb hby d2_23) rfl (flt hc4).2.2.1 k) ?_
          refine own_by (B := T0.setTop (mkF m 27 #[.val (.int x0)] [(.int (0 : Int32))])) (fun t k => XS.iconst X0.here hx rfl (hb hby d2_26) k) ?_
          exact own_retN (t := .boolean) (by simp) X0 hx hlk hret (z' := (0 : Int32)) (by decide) (hb hby d2_27) ⟨by rw [hf], rfl, e0⟩ (by decide) (by decide)
set_option maxRecDepth 65536 in
set_option maxHeartbeats 40000000 in
theorem rm2 (l : Launch) (Z : State) (a0 : Array Value) (hw : ∀ d ∈ tables_1, d.before a0 Z = true) (ws : List Jvm.Cond) (x0 : Int32)   (h0 : Heap)   :
    MetFree l (⟨"com/example/siegelbund/siegelbund/core/xml/XmlCharsIsNcNameStartCharPinLaw", "ref", "(I)Z"⟩ : MethodName) (head1 (Jvm.Cond.code (⟨"com/example/siegelbund/siegelbund/core/xml/XmlCharsIsNcNameStartCharPinLaw", "ref", "(I)Z"⟩ : MethodName) method_2_code 1 (some .boolean) :: ws) ({ frames := 0, cells := 0, slots := 0, locals := 0 } : Room)) (fun aa U => aa = #[(.int x0)] ∧ Z.Warmed39 U.vm ∧ U.heap = h0) (fun _ _ _ _ _ => True) (fun _ U o U' => ∃ v L, o = .returned v ∧ own_Qp (some (.int (f2_0  x0))) h0 v U'.heap L ∧ FrameEnd U o U' L ({ frames := 0, cells := 0, slots := 0, locals := 0 } : Room).cells ({ frames := 0, cells := 0, slots := 0, locals := 0 } : Room).slots) := by
  refine own_met (plainFor_of_name pn_2) fun p e s m below meth c T0 X0 hx hby hml hret hlk hZ hown hnm e0 => ?_
  refine own_cast (ef_2 m x0) ?_
  exact bk2_0 l Z a0 hw h0   x0  X0 hx hby hml hret hlk hZ hown hnm e0
theorem own_f1_196 (x y : Int32) : f1_196 x y = nar .boolean y := rfl
theorem own_rin (n a b : Int) (R : Prop) [Decidable R] : (if n < a then (if R then (1 : Int32) else (0 : Int32)) else (if b < n then (if R then (1 : Int32) else (0 : Int32)) else (1 : Int32))) = (if (a ≤ n ∧ n ≤ b) ∨ R then (1 : Int32) else (0 : Int32)) := by
  by_cases hR : R
  · simp only [if_pos hR]
    have hp : (a ≤ n ∧ n ≤ b) ∨ R := Or.inr hR
    rw [if_pos hp]
    repeat' split
    all_goals rfl
  · simp only [if_neg hR]
    by_cases h : a ≤ n ∧ n ≤ b
    · have hp : (a ≤ n ∧ n ≤ b) ∨ R := Or.inl h
      have q1 : ¬ n < a := by omega
      have q2 : ¬ b < n := by omega
      rw [if_pos hp, if_neg q1, if_neg q2]
    · have hp : ¬ ((a ≤ n ∧ n ≤ b) ∨ R) := fun q => q.elim h hR
      rw [if_neg hp]
      by_cases g : n < a
      · rw [if_pos g]
      · rw [if_neg g, if_pos (by omega : b < n)]
theorem own_last (n a b : Int) : (if n < a then (0 : Int32) else (if b < n then (0 : Int32) else (1 : Int32))) = (if (a ≤ n ∧ n ≤ b) then (1 : Int32) else (0 : Int32)) := by
  by_cases h : a ≤ n ∧ n ≤ b
  · have q1 : ¬ n < a := by omega
    have q2 : ¬ b < n := by omega
    rw [if_pos h, if_neg q1, if_neg q2]
  · rw [if_neg h]
    by_cases g : n < a
    · rw [if_pos g]
    · rw [if_neg g, if_pos (by omega : b < n)]
theorem own_eq (n a : Int) (R : Prop) [Decidable R] : (if n = a then (1 : Int32) else (if R then (1 : Int32) else (0 : Int32))) = (if (a ≤ n ∧ n ≤ a) ∨ R then (1 : Int32) else (0 : Int32)) := by
  by_cases h : n = a
  · have hp : (a ≤ n ∧ n ≤ a) ∨ R := Or.inl (by omega)
    rw [if_pos h, if_pos hp]
  · rw [if_neg h]
    by_cases hR : R
    · have hp : (a ≤ n ∧ n ≤ a) ∨ R := Or.inr hR
      rw [if_pos hR, if_pos hp]
    · have hp : ¬ ((a ≤ n ∧ n ≤ a) ∨ R) := fun q => q.elim (fun z => h (by omega)) hR
      rw [if_neg hR, if_neg hp]
theorem own_out (n a b : Int) (R : Prop) [Decidable R] : (if n < a then (if R then (1 : Int32) else (0 : Int32)) else (if b < n then (if R then (1 : Int32) else (0 : Int32)) else (0 : Int32))) = (if ¬ (a ≤ n ∧ n ≤ b) ∧ R then (1 : Int32) else (0 : Int32)) := by
  by_cases hR : R
  · simp only [if_pos hR]
    by_cases h : a ≤ n ∧ n ≤ b
    · have hp : ¬ (¬ (a ≤ n ∧ n ≤ b) ∧ R) := fun q => q.1 h
      have q1 : ¬ n < a := by omega
      have q2 : ¬ b < n := by omega
      rw [if_neg hp, if_neg q1, if_neg q2]
    · have hp : ¬ (a ≤ n ∧ n ≤ b) ∧ R := ⟨h, hR⟩
      rw [if_pos hp]
      by_cases g : n < a
      · rw [if_pos g]
      · rw [if_neg g, if_pos (by omega : b < n)]
  · simp only [if_neg hR]
    have hp : ¬ (¬ (a ≤ n ∧ n ≤ b) ∧ R) := fun q => hR q.2
    rw [if_neg hp]
    repeat' split
    all_goals rfl
theorem own_outl (n a b : Int) : (if n < a then (1 : Int32) else (if b < n then (1 : Int32) else (0 : Int32))) = (if ¬ (a ≤ n ∧ n ≤ b) then (1 : Int32) else (0 : Int32)) := by
  by_cases h : a ≤ n ∧ n ≤ b
  · have hp : ¬ ¬ (a ≤ n ∧ n ≤ b) := fun q => q h
    have q1 : ¬ n < a := by omega
    have q2 : ¬ b < n := by omega
    rw [if_neg hp, if_neg q1, if_neg q2]
  · rw [if_pos h]
    by_cases g : n < a
    · rw [if_pos g]
    · rw [if_neg g, if_pos (by omega : b < n)]
theorem own_oute (n a : Int) (R : Prop) [Decidable R] : (if n = a then (0 : Int32) else (if R then (1 : Int32) else (0 : Int32))) = (if ¬ (a ≤ n ∧ n ≤ a) ∧ R then (1 : Int32) else (0 : Int32)) := by
  by_cases h : n = a
  · have hp : ¬ (¬ (a ≤ n ∧ n ≤ a) ∧ R) := fun q => q.1 (by omega)
    rw [if_pos h, if_neg hp]
  · rw [if_neg h]
    by_cases hR : R
    · have hp : ¬ (a ≤ n ∧ n ≤ a) ∧ R := ⟨fun z => h (by omega), hR⟩
      rw [if_pos hR, if_pos hp]
    · have hp : ¬ (¬ (a ≤ n ∧ n ≤ a) ∧ R) := fun q => hR q.2
      rw [if_neg hR, if_neg hp]
theorem own_both (n a b : Int) (R : Prop) [Decidable R] : (if n < a then (0 : Int32) else (if b < n then (0 : Int32) else (if R then (1 : Int32) else (0 : Int32)))) = (if (a ≤ n ∧ n ≤ b) ∧ R then (1 : Int32) else (0 : Int32)) := by
  by_cases h : a ≤ n ∧ n ≤ b
  · have q1 : ¬ n < a := by omega
    have q2 : ¬ b < n := by omega
    rw [if_neg q1, if_neg q2]
    by_cases hR : R
    · have hp : (a ≤ n ∧ n ≤ b) ∧ R := ⟨h, hR⟩
      rw [if_pos hR, if_pos hp]
    · have hp : ¬ ((a ≤ n ∧ n ≤ b) ∧ R) := fun q => hR q.2
      rw [if_neg hR, if_neg hp]
  · have hp : ¬ ((a ≤ n ∧ n ≤ b) ∧ R) := fun q => h q.1
    rw [if_neg hp]
    by_cases g : n < a
    · rw [if_pos g]
    · rw [if_neg g, if_pos (by omega : b < n)]
theorem own_f1_195 (x0 : Int32) : f1_195 x0 = (if False then (1 : Int32) else (0 : Int32)) := by
  show nar .boolean (0 : Int32) = _
  decide
theorem own_f1_191 (x0 : Int32) : f1_191 x0 = (if True then (1 : Int32) else (0 : Int32)) := by
  show nar .boolean (1 : Int32) = _
  decide
theorem own_f1_179 (x0 : Int32) : f1_179 x0 = (if (65536 ≤ x0.toInt ∧ x0.toInt ≤ 983039) then (1 : Int32) else (0 : Int32)) := by
  have e65536 : (65536 : Int32).toInt = 65536 := by decide
  have e983039 : (983039 : Int32).toInt = 983039 := by decide
  have hf : f1_179 x0 = (if x0 < (65536 : Int32) then (f1_195  x0) else (if (983039 : Int32) < x0 then (f1_195  x0) else (f1_191  x0))) := rfl
  rw [hf, own_f1_195, own_f1_191]
  simp only [Int32.lt_iff_toInt_lt, ← Int32.toInt_inj, if_true, if_false, e65536, e983039]
  rw [own_last]
theorem own_f1_167 (x0 : Int32) : f1_167 x0 = (if (65008 ≤ x0.toInt ∧ x0.toInt ≤ 65533) ∨ (65536 ≤ x0.toInt ∧ x0.toInt ≤ 983039) then (1 : Int32) else (0 : Int32)) := by
  have e65008 : (65008 : Int32).toInt = 65008 := by decide
  have e65533 : (65533 : Int32).toInt = 65533 := by decide
  have hf : f1_167 x0 = (if x0 < (65008 : Int32) then (f1_179  x0) else (if (65533 : Int32) < x0 then (f1_179  x0) else (f1_191  x0))) := rfl
  rw [hf, own_f1_179, own_f1_191]
  simp only [Int32.lt_iff_toInt_lt, ← Int32.toInt_inj, if_true, if_false, e65008, e65533]
  rw [own_rin]
theorem own_f1_155 (x0 : Int32) : f1_155 x0 = (if (63744 ≤ x0.toInt ∧ x0.toInt ≤ 64975) ∨ (65008 ≤ x0.toInt ∧ x0.toInt ≤ 65533) ∨ (65536 ≤ x0.toInt ∧ x0.toInt ≤ 983039) then (1 : Int32) else (0 : Int32)) := by
  have e63744 : (63744 : Int32).toInt = 63744 := by decide
  have e64975 : (64975 : Int32).toInt = 64975 := by decide
  have hf : f1_155 x0 = (if x0 < (63744 : Int32) then (f1_167  x0) else (if (64975 : Int32) < x0 then (f1_167  x0) else (f1_191  x0))) := rfl
  rw [hf, own_f1_167, own_f1_191]
  simp only [Int32.lt_iff_toInt_lt, ← Int32.toInt_inj, if_true, if_false, e63744, e64975]
  rw [own_rin]
theorem own_f1_142 (x0 : Int32) : f1_142 x0 = (if (12289 ≤ x0.toInt ∧ x0.toInt ≤ 55295) ∨ (63744 ≤ x0.toInt ∧ x0.toInt ≤ 64975) ∨ (65008 ≤ x0.toInt ∧ x0.toInt ≤ 65533) ∨ (65536 ≤ x0.toInt ∧ x0.toInt ≤ 983039) then (1 : Int32) else (0 : Int32)) := by
  have e12289 : (12289 : Int32).toInt = 12289 := by decide
  have e55295 : (55295 : Int32).toInt = 55295 := by decide
  have hf : f1_142 x0 = (if x0 < (12289 : Int32) then (f1_155  x0) else (if (55295 : Int32) < x0 then (f1_155  x0) else (f1_191  x0))) := rfl
  rw [hf, own_f1_155, own_f1_191]
  simp only [Int32.lt_iff_toInt_lt, ← Int32.toInt_inj, if_true, if_false, e12289, e55295]
  rw [own_rin]
theorem own_f1_128 (x0 : Int32) : f1_128 x0 = (if (11264 ≤ x0.toInt ∧ x0.toInt ≤ 12271) ∨ (12289 ≤ x0.toInt ∧ x0.toInt ≤ 55295) ∨ (63744 ≤ x0.toInt ∧ x0.toInt ≤ 64975) ∨ (65008 ≤ x0.toInt ∧ x0.toInt ≤ 65533) ∨ (65536 ≤ x0.toInt ∧ x0.toInt ≤ 983039) then (1 : Int32) else (0 : Int32)) := by
  have e11264 : (11264 : Int32).toInt = 11264 := by decide
  have e12271 : (12271 : Int32).toInt = 12271 := by decide
  have hf : f1_128 x0 = (if x0 < (11264 : Int32) then (f1_142  x0) else (if (12271 : Int32) < x0 then (f1_142  x0) else (f1_191  x0))) := rfl
  rw [hf, own_f1_142, own_f1_191]
  simp only [Int32.lt_iff_toInt_lt, ← Int32.toInt_inj, if_true, if_false, e11264, e12271]
  rw [own_rin]
theorem own_f1_114 (x0 : Int32) : f1_114 x0 = (if (8304 ≤ x0.toInt ∧ x0.toInt ≤ 8591) ∨ (11264 ≤ x0.toInt ∧ x0.toInt ≤ 12271) ∨ (12289 ≤ x0.toInt ∧ x0.toInt ≤ 55295) ∨ (63744 ≤ x0.toInt ∧ x0.toInt ≤ 64975) ∨ (65008 ≤ x0.toInt ∧ x0.toInt ≤ 65533) ∨ (65536 ≤ x0.toInt ∧ x0.toInt ≤ 983039) then (1 : Int32) else (0 : Int32)) := by
  have e8304 : (8304 : Int32).toInt = 8304 := by decide
  have e8591 : (8591 : Int32).toInt = 8591 := by decide
  have hf : f1_114 x0 = (if x0 < (8304 : Int32) then (f1_128  x0) else (if (8591 : Int32) < x0 then (f1_128  x0) else (f1_191  x0))) := rfl
  rw [hf, own_f1_128, own_f1_191]
  simp only [Int32.lt_iff_toInt_lt, ← Int32.toInt_inj, if_true, if_false, e8304, e8591]
  rw [own_rin]
theorem own_f1_100 (x0 : Int32) : f1_100 x0 = (if (8204 ≤ x0.toInt ∧ x0.toInt ≤ 8205) ∨ (8304 ≤ x0.toInt ∧ x0.toInt ≤ 8591) ∨ (11264 ≤ x0.toInt ∧ x0.toInt ≤ 12271) ∨ (12289 ≤ x0.toInt ∧ x0.toInt ≤ 55295) ∨ (63744 ≤ x0.toInt ∧ x0.toInt ≤ 64975) ∨ (65008 ≤ x0.toInt ∧ x0.toInt ≤ 65533) ∨ (65536 ≤ x0.toInt ∧ x0.toInt ≤ 983039) then (1 : Int32) else (0 : Int32)) := by
  have e8204 : (8204 : Int32).toInt = 8204 := by decide
  have e8205 : (8205 : Int32).toInt = 8205 := by decide
  have hf : f1_100 x0 = (if x0 < (8204 : Int32) then (f1_114  x0) else (if (8205 : Int32) < x0 then (f1_114  x0) else (f1_191  x0))) := rfl
  rw [hf, own_f1_114, own_f1_191]
  simp only [Int32.lt_iff_toInt_lt, ← Int32.toInt_inj, if_true, if_false, e8204, e8205]
  rw [own_rin]
theorem own_f1_86 (x0 : Int32) : f1_86 x0 = (if (895 ≤ x0.toInt ∧ x0.toInt ≤ 8191) ∨ (8204 ≤ x0.toInt ∧ x0.toInt ≤ 8205) ∨ (8304 ≤ x0.toInt ∧ x0.toInt ≤ 8591) ∨ (11264 ≤ x0.toInt ∧ x0.toInt ≤ 12271) ∨ (12289 ≤ x0.toInt ∧ x0.toInt ≤ 55295) ∨ (63744 ≤ x0.toInt ∧ x0.toInt ≤ 64975) ∨ (65008 ≤ x0.toInt ∧ x0.toInt ≤ 65533) ∨ (65536 ≤ x0.toInt ∧ x0.toInt ≤ 983039) then (1 : Int32) else (0 : Int32)) := by
  have e895 : (895 : Int32).toInt = 895 := by decide
  have e8191 : (8191 : Int32).toInt = 8191 := by decide
  have hf : f1_86 x0 = (if x0 < (895 : Int32) then (f1_100  x0) else (if (8191 : Int32) < x0 then (f1_100  x0) else (f1_191  x0))) := rfl
  rw [hf, own_f1_100, own_f1_191]
  simp only [Int32.lt_iff_toInt_lt, ← Int32.toInt_inj, if_true, if_false, e895, e8191]
  rw [own_rin]
theorem own_f1_72 (x0 : Int32) : f1_72 x0 = (if (880 ≤ x0.toInt ∧ x0.toInt ≤ 893) ∨ (895 ≤ x0.toInt ∧ x0.toInt ≤ 8191) ∨ (8204 ≤ x0.toInt ∧ x0.toInt ≤ 8205) ∨ (8304 ≤ x0.toInt ∧ x0.toInt ≤ 8591) ∨ (11264 ≤ x0.toInt ∧ x0.toInt ≤ 12271) ∨ (12289 ≤ x0.toInt ∧ x0.toInt ≤ 55295) ∨ (63744 ≤ x0.toInt ∧ x0.toInt ≤ 64975) ∨ (65008 ≤ x0.toInt ∧ x0.toInt ≤ 65533) ∨ (65536 ≤ x0.toInt ∧ x0.toInt ≤ 983039) then (1 : Int32) else (0 : Int32)) := by
  have e880 : (880 : Int32).toInt = 880 := by decide
  have e893 : (893 : Int32).toInt = 893 := by decide
  have hf : f1_72 x0 = (if x0 < (880 : Int32) then (f1_86  x0) else (if (893 : Int32) < x0 then (f1_86  x0) else (f1_191  x0))) := rfl
  rw [hf, own_f1_86, own_f1_191]
  simp only [Int32.lt_iff_toInt_lt, ← Int32.toInt_inj, if_true, if_false, e880, e893]
  rw [own_rin]
theorem own_f1_58 (x0 : Int32) : f1_58 x0 = (if (248 ≤ x0.toInt ∧ x0.toInt ≤ 767) ∨ (880 ≤ x0.toInt ∧ x0.toInt ≤ 893) ∨ (895 ≤ x0.toInt ∧ x0.toInt ≤ 8191) ∨ (8204 ≤ x0.toInt ∧ x0.toInt ≤ 8205) ∨ (8304 ≤ x0.toInt ∧ x0.toInt ≤ 8591) ∨ (11264 ≤ x0.toInt ∧ x0.toInt ≤ 12271) ∨ (12289 ≤ x0.toInt ∧ x0.toInt ≤ 55295) ∨ (63744 ≤ x0.toInt ∧ x0.toInt ≤ 64975) ∨ (65008 ≤ x0.toInt ∧ x0.toInt ≤ 65533) ∨ (65536 ≤ x0.toInt ∧ x0.toInt ≤ 983039) then (1 : Int32) else (0 : Int32)) := by
  have e248 : (248 : Int32).toInt = 248 := by decide
  have e767 : (767 : Int32).toInt = 767 := by decide
  have hf : f1_58 x0 = (if x0 < (248 : Int32) then (f1_72  x0) else (if (767 : Int32) < x0 then (f1_72  x0) else (f1_191  x0))) := rfl
  rw [hf, own_f1_72, own_f1_191]
  simp only [Int32.lt_iff_toInt_lt, ← Int32.toInt_inj, if_true, if_false, e248, e767]
  rw [own_rin]
theorem own_f1_44 (x0 : Int32) : f1_44 x0 = (if (216 ≤ x0.toInt ∧ x0.toInt ≤ 246) ∨ (248 ≤ x0.toInt ∧ x0.toInt ≤ 767) ∨ (880 ≤ x0.toInt ∧ x0.toInt ≤ 893) ∨ (895 ≤ x0.toInt ∧ x0.toInt ≤ 8191) ∨ (8204 ≤ x0.toInt ∧ x0.toInt ≤ 8205) ∨ (8304 ≤ x0.toInt ∧ x0.toInt ≤ 8591) ∨ (11264 ≤ x0.toInt ∧ x0.toInt ≤ 12271) ∨ (12289 ≤ x0.toInt ∧ x0.toInt ≤ 55295) ∨ (63744 ≤ x0.toInt ∧ x0.toInt ≤ 64975) ∨ (65008 ≤ x0.toInt ∧ x0.toInt ≤ 65533) ∨ (65536 ≤ x0.toInt ∧ x0.toInt ≤ 983039) then (1 : Int32) else (0 : Int32)) := by
  have e216 : (216 : Int32).toInt = 216 := by decide
  have e246 : (246 : Int32).toInt = 246 := by decide
  have hf : f1_44 x0 = (if x0 < (216 : Int32) then (f1_58  x0) else (if (246 : Int32) < x0 then (f1_58  x0) else (f1_191  x0))) := rfl
  rw [hf, own_f1_58, own_f1_191]
  simp only [Int32.lt_iff_toInt_lt, ← Int32.toInt_inj, if_true, if_false, e216, e246]
  rw [own_rin]
theorem own_f1_30 (x0 : Int32) : f1_30 x0 = (if (192 ≤ x0.toInt ∧ x0.toInt ≤ 214) ∨ (216 ≤ x0.toInt ∧ x0.toInt ≤ 246) ∨ (248 ≤ x0.toInt ∧ x0.toInt ≤ 767) ∨ (880 ≤ x0.toInt ∧ x0.toInt ≤ 893) ∨ (895 ≤ x0.toInt ∧ x0.toInt ≤ 8191) ∨ (8204 ≤ x0.toInt ∧ x0.toInt ≤ 8205) ∨ (8304 ≤ x0.toInt ∧ x0.toInt ≤ 8591) ∨ (11264 ≤ x0.toInt ∧ x0.toInt ≤ 12271) ∨ (12289 ≤ x0.toInt ∧ x0.toInt ≤ 55295) ∨ (63744 ≤ x0.toInt ∧ x0.toInt ≤ 64975) ∨ (65008 ≤ x0.toInt ∧ x0.toInt ≤ 65533) ∨ (65536 ≤ x0.toInt ∧ x0.toInt ≤ 983039) then (1 : Int32) else (0 : Int32)) := by
  have e192 : (192 : Int32).toInt = 192 := by decide
  have e214 : (214 : Int32).toInt = 214 := by decide
  have hf : f1_30 x0 = (if x0 < (192 : Int32) then (f1_44  x0) else (if (214 : Int32) < x0 then (f1_44  x0) else (f1_191  x0))) := rfl
  rw [hf, own_f1_44, own_f1_191]
  simp only [Int32.lt_iff_toInt_lt, ← Int32.toInt_inj, if_true, if_false, e192, e214]
  rw [own_rin]
theorem own_f1_12 (x0 : Int32) : f1_12 x0 = (if (95 ≤ x0.toInt ∧ x0.toInt ≤ 95) ∨ (97 ≤ x0.toInt ∧ x0.toInt ≤ 122) ∨ (192 ≤ x0.toInt ∧ x0.toInt ≤ 214) ∨ (216 ≤ x0.toInt ∧ x0.toInt ≤ 246) ∨ (248 ≤ x0.toInt ∧ x0.toInt ≤ 767) ∨ (880 ≤ x0.toInt ∧ x0.toInt ≤ 893) ∨ (895 ≤ x0.toInt ∧ x0.toInt ≤ 8191) ∨ (8204 ≤ x0.toInt ∧ x0.toInt ≤ 8205) ∨ (8304 ≤ x0.toInt ∧ x0.toInt ≤ 8591) ∨ (11264 ≤ x0.toInt ∧ x0.toInt ≤ 12271) ∨ (12289 ≤ x0.toInt ∧ x0.toInt ≤ 55295) ∨ (63744 ≤ x0.toInt ∧ x0.toInt ≤ 64975) ∨ (65008 ≤ x0.toInt ∧ x0.toInt ≤ 65533) ∨ (65536 ≤ x0.toInt ∧ x0.toInt ≤ 983039) then (1 : Int32) else (0 : Int32)) := by
  have e95 : (95 : Int32).toInt = 95 := by decide
  have e97 : (97 : Int32).toInt = 97 := by decide
  have e122 : (122 : Int32).toInt = 122 := by decide
  have hf : f1_12 x0 = (if x0 = (95 : Int32) then (f1_191  x0) else (if x0 < (97 : Int32) then (f1_30  x0) else (if (122 : Int32) < x0 then (f1_30  x0) else (f1_191  x0)))) := rfl
  rw [hf, own_f1_191, own_f1_30]
  simp only [Int32.lt_iff_toInt_lt, ← Int32.toInt_inj, if_true, if_false, e95, e97, e122]
  rw [own_rin, own_eq]
theorem own_f1_0 (x0 : Int32) : f1_0 x0 = (if (65 ≤ x0.toInt ∧ x0.toInt ≤ 90) ∨ (95 ≤ x0.toInt ∧ x0.toInt ≤ 95) ∨ (97 ≤ x0.toInt ∧ x0.toInt ≤ 122) ∨ (192 ≤ x0.toInt ∧ x0.toInt ≤ 214) ∨ (216 ≤ x0.toInt ∧ x0.toInt ≤ 246) ∨ (248 ≤ x0.toInt ∧ x0.toInt ≤ 767) ∨ (880 ≤ x0.toInt ∧ x0.toInt ≤ 893) ∨ (895 ≤ x0.toInt ∧ x0.toInt ≤ 8191) ∨ (8204 ≤ x0.toInt ∧ x0.toInt ≤ 8205) ∨ (8304 ≤ x0.toInt ∧ x0.toInt ≤ 8591) ∨ (11264 ≤ x0.toInt ∧ x0.toInt ≤ 12271) ∨ (12289 ≤ x0.toInt ∧ x0.toInt ≤ 55295) ∨ (63744 ≤ x0.toInt ∧ x0.toInt ≤ 64975) ∨ (65008 ≤ x0.toInt ∧ x0.toInt ≤ 65533) ∨ (65536 ≤ x0.toInt ∧ x0.toInt ≤ 983039) then (1 : Int32) else (0 : Int32)) := by
  have e65 : (65 : Int32).toInt = 65 := by decide
  have e90 : (90 : Int32).toInt = 90 := by decide
  have hf : f1_0 x0 = (if x0 < (65 : Int32) then (f1_12  x0) else (if (90 : Int32) < x0 then (f1_12  x0) else (f1_191  x0))) := rfl
  rw [hf, own_f1_12, own_f1_191]
  simp only [Int32.lt_iff_toInt_lt, ← Int32.toInt_inj, if_true, if_false, e65, e90]
  rw [own_rin]
theorem own_f2_198 (x0 : Int32) : f2_198 x0 = (if True then (1 : Int32) else (0 : Int32)) := by
  show (1 : Int32) = _
  decide
theorem own_f2_184 (x0 : Int32) : f2_184 x0 = (if ¬ (65534 ≤ x0.toInt ∧ x0.toInt ≤ 65535) then (1 : Int32) else (0 : Int32)) := by
  have e0 : (0 : Int32).toInt = 0 := by decide
  have e65534 : (65534 : Int32).toInt = 65534 := by decide
  have e65535 : (65535 : Int32).toInt = 65535 := by decide
  have hf : f2_184 x0 = (if x0 < (65534 : Int32) then (f2_198  x0) else (if (65535 : Int32) < x0 then (f2_198  x0) else (0 : Int32))) := rfl
  rw [hf, own_f2_198]
  simp only [Int32.lt_iff_toInt_lt, ← Int32.toInt_inj, if_true, if_false, e0, e65534, e65535]
  rw [own_outl]
theorem own_f2_170 (x0 : Int32) : f2_170 x0 = (if ¬ (64976 ≤ x0.toInt ∧ x0.toInt ≤ 65007) ∧ ¬ (65534 ≤ x0.toInt ∧ x0.toInt ≤ 65535) then (1 : Int32) else (0 : Int32)) := by
  have e0 : (0 : Int32).toInt = 0 := by decide
  have e64976 : (64976 : Int32).toInt = 64976 := by decide
  have e65007 : (65007 : Int32).toInt = 65007 := by decide
  have hf : f2_170 x0 = (if x0 < (64976 : Int32) then (f2_184  x0) else (if (65007 : Int32) < x0 then (f2_184  x0) else (0 : Int32))) := rfl
  rw [hf, own_f2_184]
  simp only [Int32.lt_iff_toInt_lt, ← Int32.toInt_inj, if_true, if_false, e0, e64976, e65007]
  rw [own_out]
theorem own_f2_156 (x0 : Int32) : f2_156 x0 = (if ¬ (55296 ≤ x0.toInt ∧ x0.toInt ≤ 63743) ∧ ¬ (64976 ≤ x0.toInt ∧ x0.toInt ≤ 65007) ∧ ¬ (65534 ≤ x0.toInt ∧ x0.toInt ≤ 65535) then (1 : Int32) else (0 : Int32)) := by
  have e0 : (0 : Int32).toInt = 0 := by decide
  have e55296 : (55296 : Int32).toInt = 55296 := by decide
  have e63743 : (63743 : Int32).toInt = 63743 := by decide
  have hf : f2_156 x0 = (if x0 < (55296 : Int32) then (f2_170  x0) else (if (63743 : Int32) < x0 then (f2_170  x0) else (0 : Int32))) := rfl
  rw [hf, own_f2_170]
  simp only [Int32.lt_iff_toInt_lt, ← Int32.toInt_inj, if_true, if_false, e0, e55296, e63743]
  rw [own_out]
theorem own_f2_140 (x0 : Int32) : f2_140 x0 = (if ¬ (12272 ≤ x0.toInt ∧ x0.toInt ≤ 12288) ∧ ¬ (55296 ≤ x0.toInt ∧ x0.toInt ≤ 63743) ∧ ¬ (64976 ≤ x0.toInt ∧ x0.toInt ≤ 65007) ∧ ¬ (65534 ≤ x0.toInt ∧ x0.toInt ≤ 65535) then (1 : Int32) else (0 : Int32)) := by
  have e0 : (0 : Int32).toInt = 0 := by decide
  have e12272 : (12272 : Int32).toInt = 12272 := by decide
  have e12288 : (12288 : Int32).toInt = 12288 := by decide
  have hf : f2_140 x0 = (if x0 < (12272 : Int32) then (f2_156  x0) else (if (12288 : Int32) < x0 then (f2_156  x0) else (0 : Int32))) := rfl
  rw [hf, own_f2_156]
  simp only [Int32.lt_iff_toInt_lt, ← Int32.toInt_inj, if_true, if_false, e0, e12272, e12288]
  rw [own_out]
theorem own_f2_124 (x0 : Int32) : f2_124 x0 = (if ¬ (8592 ≤ x0.toInt ∧ x0.toInt ≤ 11263) ∧ ¬ (12272 ≤ x0.toInt ∧ x0.toInt ≤ 12288) ∧ ¬ (55296 ≤ x0.toInt ∧ x0.toInt ≤ 63743) ∧ ¬ (64976 ≤ x0.toInt ∧ x0.toInt ≤ 65007) ∧ ¬ (65534 ≤ x0.toInt ∧ x0.toInt ≤ 65535) then (1 : Int32) else (0 : Int32)) := by
  have e0 : (0 : Int32).toInt = 0 := by decide
  have e8592 : (8592 : Int32).toInt = 8592 := by decide
  have e11263 : (11263 : Int32).toInt = 11263 := by decide
  have hf : f2_124 x0 = (if x0 < (8592 : Int32) then (f2_140  x0) else (if (11263 : Int32) < x0 then (f2_140  x0) else (0 : Int32))) := rfl
  rw [hf, own_f2_140]
  simp only [Int32.lt_iff_toInt_lt, ← Int32.toInt_inj, if_true, if_false, e0, e8592, e11263]
  rw [own_out]
theorem own_f2_108 (x0 : Int32) : f2_108 x0 = (if ¬ (8206 ≤ x0.toInt ∧ x0.toInt ≤ 8303) ∧ ¬ (8592 ≤ x0.toInt ∧ x0.toInt ≤ 11263) ∧ ¬ (12272 ≤ x0.toInt ∧ x0.toInt ≤ 12288) ∧ ¬ (55296 ≤ x0.toInt ∧ x0.toInt ≤ 63743) ∧ ¬ (64976 ≤ x0.toInt ∧ x0.toInt ≤ 65007) ∧ ¬ (65534 ≤ x0.toInt ∧ x0.toInt ≤ 65535) then (1 : Int32) else (0 : Int32)) := by
  have e0 : (0 : Int32).toInt = 0 := by decide
  have e8206 : (8206 : Int32).toInt = 8206 := by decide
  have e8303 : (8303 : Int32).toInt = 8303 := by decide
  have hf : f2_108 x0 = (if x0 < (8206 : Int32) then (f2_124  x0) else (if (8303 : Int32) < x0 then (f2_124  x0) else (0 : Int32))) := rfl
  rw [hf, own_f2_124]
  simp only [Int32.lt_iff_toInt_lt, ← Int32.toInt_inj, if_true, if_false, e0, e8206, e8303]
  rw [own_out]
theorem own_f2_83 (x0 : Int32) : f2_83 x0 = (if ¬ (894 ≤ x0.toInt ∧ x0.toInt ≤ 894) ∧ ¬ (8192 ≤ x0.toInt ∧ x0.toInt ≤ 8203) ∧ ¬ (8206 ≤ x0.toInt ∧ x0.toInt ≤ 8303) ∧ ¬ (8592 ≤ x0.toInt ∧ x0.toInt ≤ 11263) ∧ ¬ (12272 ≤ x0.toInt ∧ x0.toInt ≤ 12288) ∧ ¬ (55296 ≤ x0.toInt ∧ x0.toInt ≤ 63743) ∧ ¬ (64976 ≤ x0.toInt ∧ x0.toInt ≤ 65007) ∧ ¬ (65534 ≤ x0.toInt ∧ x0.toInt ≤ 65535) then (1 : Int32) else (0 : Int32)) := by
  have e0 : (0 : Int32).toInt = 0 := by decide
  have e894 : (894 : Int32).toInt = 894 := by decide
  have e8192 : (8192 : Int32).toInt = 8192 := by decide
  have e8203 : (8203 : Int32).toInt = 8203 := by decide
  have hf : f2_83 x0 = (if x0 = (894 : Int32) then (0 : Int32) else (if x0 < (8192 : Int32) then (f2_108  x0) else (if (8203 : Int32) < x0 then (f2_108  x0) else (0 : Int32)))) := rfl
  rw [hf, own_f2_108]
  simp only [Int32.lt_iff_toInt_lt, ← Int32.toInt_inj, if_true, if_false, e0, e894, e8192, e8203]
  rw [own_out, own_oute]
theorem own_f2_65 (x0 : Int32) : f2_65 x0 = (if False then (1 : Int32) else (0 : Int32)) := by
  show (0 : Int32) = _
  decide
theorem own_f2_51 (x0 : Int32) : f2_51 x0 = (if ¬ (215 ≤ x0.toInt ∧ x0.toInt ≤ 215) ∧ ¬ (247 ≤ x0.toInt ∧ x0.toInt ≤ 247) ∧ ¬ (768 ≤ x0.toInt ∧ x0.toInt ≤ 879) ∧ ¬ (894 ≤ x0.toInt ∧ x0.toInt ≤ 894) ∧ ¬ (8192 ≤ x0.toInt ∧ x0.toInt ≤ 8203) ∧ ¬ (8206 ≤ x0.toInt ∧ x0.toInt ≤ 8303) ∧ ¬ (8592 ≤ x0.toInt ∧ x0.toInt ≤ 11263) ∧ ¬ (12272 ≤ x0.toInt ∧ x0.toInt ≤ 12288) ∧ ¬ (55296 ≤ x0.toInt ∧ x0.toInt ≤ 63743) ∧ ¬ (64976 ≤ x0.toInt ∧ x0.toInt ≤ 65007) ∧ ¬ (65534 ≤ x0.toInt ∧ x0.toInt ≤ 65535) then (1 : Int32) else (0 : Int32)) := by
  have e0 : (0 : Int32).toInt = 0 := by decide
  have e215 : (215 : Int32).toInt = 215 := by decide
  have e247 : (247 : Int32).toInt = 247 := by decide
  have e768 : (768 : Int32).toInt = 768 := by decide
  have e879 : (879 : Int32).toInt = 879 := by decide
  have hf : f2_51 x0 = (if x0 = (215 : Int32) then (f2_65  x0) else (if x0 = (247 : Int32) then (f2_65  x0) else (if x0 < (768 : Int32) then (f2_83  x0) else (if (879 : Int32) < x0 then (f2_83  x0) else (0 : Int32))))) := rfl
  rw [hf, own_f2_65, own_f2_83]
  simp only [Int32.lt_iff_toInt_lt, ← Int32.toInt_inj, if_true, if_false, e0, e215, e247, e768, e879]
  rw [own_out, own_oute, own_oute]
theorem own_f2_28 (x0 : Int32) : f2_28 x0 = (if ¬ (96 ≤ x0.toInt ∧ x0.toInt ≤ 96) ∧ ¬ (123 ≤ x0.toInt ∧ x0.toInt ≤ 191) ∧ ¬ (215 ≤ x0.toInt ∧ x0.toInt ≤ 215) ∧ ¬ (247 ≤ x0.toInt ∧ x0.toInt ≤ 247) ∧ ¬ (768 ≤ x0.toInt ∧ x0.toInt ≤ 879) ∧ ¬ (894 ≤ x0.toInt ∧ x0.toInt ≤ 894) ∧ ¬ (8192 ≤ x0.toInt ∧ x0.toInt ≤ 8203) ∧ ¬ (8206 ≤ x0.toInt ∧ x0.toInt ≤ 8303) ∧ ¬ (8592 ≤ x0.toInt ∧ x0.toInt ≤ 11263) ∧ ¬ (12272 ≤ x0.toInt ∧ x0.toInt ≤ 12288) ∧ ¬ (55296 ≤ x0.toInt ∧ x0.toInt ≤ 63743) ∧ ¬ (64976 ≤ x0.toInt ∧ x0.toInt ≤ 65007) ∧ ¬ (65534 ≤ x0.toInt ∧ x0.toInt ≤ 65535) then (1 : Int32) else (0 : Int32)) := by
  have e0 : (0 : Int32).toInt = 0 := by decide
  have e96 : (96 : Int32).toInt = 96 := by decide
  have e123 : (123 : Int32).toInt = 123 := by decide
  have e191 : (191 : Int32).toInt = 191 := by decide
  have hf : f2_28 x0 = (if x0 = (96 : Int32) then (0 : Int32) else (if x0 < (123 : Int32) then (f2_51  x0) else (if (191 : Int32) < x0 then (f2_51  x0) else (0 : Int32)))) := rfl
  rw [hf, own_f2_51]
  simp only [Int32.lt_iff_toInt_lt, ← Int32.toInt_inj, if_true, if_false, e0, e96, e123, e191]
  rw [own_out, own_oute]
theorem own_f2_12 (x0 : Int32) : f2_12 x0 = (if False then (1 : Int32) else (0 : Int32)) := by
  show (0 : Int32) = _
  decide
theorem own_f2_0 (x0 : Int32) : f2_0 x0 = (if (65 ≤ x0.toInt ∧ x0.toInt ≤ 983039) ∧ ¬ (91 ≤ x0.toInt ∧ x0.toInt ≤ 94) ∧ ¬ (96 ≤ x0.toInt ∧ x0.toInt ≤ 96) ∧ ¬ (123 ≤ x0.toInt ∧ x0.toInt ≤ 191) ∧ ¬ (215 ≤ x0.toInt ∧ x0.toInt ≤ 215) ∧ ¬ (247 ≤ x0.toInt ∧ x0.toInt ≤ 247) ∧ ¬ (768 ≤ x0.toInt ∧ x0.toInt ≤ 879) ∧ ¬ (894 ≤ x0.toInt ∧ x0.toInt ≤ 894) ∧ ¬ (8192 ≤ x0.toInt ∧ x0.toInt ≤ 8203) ∧ ¬ (8206 ≤ x0.toInt ∧ x0.toInt ≤ 8303) ∧ ¬ (8592 ≤ x0.toInt ∧ x0.toInt ≤ 11263) ∧ ¬ (12272 ≤ x0.toInt ∧ x0.toInt ≤ 12288) ∧ ¬ (55296 ≤ x0.toInt ∧ x0.toInt ≤ 63743) ∧ ¬ (64976 ≤ x0.toInt ∧ x0.toInt ≤ 65007) ∧ ¬ (65534 ≤ x0.toInt ∧ x0.toInt ≤ 65535) then (1 : Int32) else (0 : Int32)) := by
  have e0 : (0 : Int32).toInt = 0 := by decide
  have e65 : (65 : Int32).toInt = 65 := by decide
  have e91 : (91 : Int32).toInt = 91 := by decide
  have e94 : (94 : Int32).toInt = 94 := by decide
  have e983039 : (983039 : Int32).toInt = 983039 := by decide
  have hf : f2_0 x0 = (if x0 < (65 : Int32) then (f2_12  x0) else (if (983039 : Int32) < x0 then (f2_12  x0) else (if x0 < (91 : Int32) then (f2_28  x0) else (if (94 : Int32) < x0 then (f2_28  x0) else (0 : Int32))))) := rfl
  rw [hf, own_f2_12, own_f2_28]
  simp only [Int32.lt_iff_toInt_lt, ← Int32.toInt_inj, if_true, if_false, e0, e65, e91, e94, e983039]
  rw [own_out, own_both]
theorem own_same (x0 : Int32) : f1_0 x0 = f2_0 x0 := by
  rw [own_f1_0, own_f2_0]
  generalize x0.toInt = n
  by_cases h : (65 ≤ n ∧ n ≤ 90) ∨ (95 ≤ n ∧ n ≤ 95) ∨ (97 ≤ n ∧ n ≤ 122) ∨ (192 ≤ n ∧ n ≤ 214) ∨ (216 ≤ n ∧ n ≤ 246) ∨ (248 ≤ n ∧ n ≤ 767) ∨ (880 ≤ n ∧ n ≤ 893) ∨ (895 ≤ n ∧ n ≤ 8191) ∨ (8204 ≤ n ∧ n ≤ 8205) ∨ (8304 ≤ n ∧ n ≤ 8591) ∨ (11264 ≤ n ∧ n ≤ 12271) ∨ (12289 ≤ n ∧ n ≤ 55295) ∨ (63744 ≤ n ∧ n ≤ 64975) ∨ (65008 ≤ n ∧ n ≤ 65533) ∨ (65536 ≤ n ∧ n ≤ 983039)
  · rw [if_pos h, if_pos (by omega)]
  · rw [if_neg h, if_neg (by omega)]
theorem own_idx (k : Int32) : ¬ ((k &&& (2147483647 : Int32)) % (31 : Int32)) < 0 ∧ ((k &&& (2147483647 : Int32)) % (31 : Int32)).toNatClampNeg < 31 := by
  have b1 := c_and k 2147483647 (by decide)
  have b2 := (c_irem (k &&& (2147483647 : Int32)) (31 : Int32) 31 (by decide)).1 b1.1
  have e0 : (0 : Int32).toInt = 0 := by decide
  rw [Int32.lt_iff_toInt_lt]
  refine ⟨by omega, ?_⟩
  show ((k &&& (2147483647 : Int32)) % (31 : Int32)).toInt.toNat < 31
  omega
theorem pn_0 : plainName "com/example/siegelbund/siegelbund/core/xml/XmlCharsIsNcNameStartCharPinLaw" = true := by first | (simp [plainName, overriddenIn]; done) | decide +kernel
theorem ef_0 (m : MethodId) (i0 : Int32) (i1 : Int32) (i2 : Int32) : entryFrame m #[(.int i0), (.int i1), (.int i2)] maxLocals = mkF m 0 #[.val (.int i0), .val (.int i1), .val (.int i2), .unset, .unset, .unset, .unset] [] := by first | (simp [entryFrame, mkF, argsToLocals, Value.category, maxLocals]; done) | rfl
def own_Q0 (n0 : Nat) (v : Option Value) (h : Heap) (L : List Loc) : Prop := v = some (.int 1) ∧ Fr n0 L
set_option maxRecDepth 65536 in
set_option maxHeartbeats 40000000 in
theorem rm0 (l : Launch) (Z : State) (a0 : Array Value) (hw : ∀ d ∈ tables_1, d.before a0 Z = true) (ws : List Jvm.Cond) (i0 : Int32) (i1 : Int32) (i2 : Int32)  (h0 : Heap) (n0 : Nat) (Z0 : n0 ≤ h0.size)  :
    MetFree l x (head1 (Jvm.Cond.code x code maxLocals ret :: ws) room_1) (fun aa U => aa = #[(.int i0), (.int i1), (.int i2)] ∧ Z.Warmed39 U.vm ∧ U.heap = h0) (fun _ _ _ _ _ => True) (fun _ U o U' => ∃ v L, o = .returned v ∧ own_Q0 n0 v U'.heap L ∧ FrameEnd U o U' L room_1.cells room_1.slots) := by
  refine own_met (plainFor_of_name pn_0) fun p e s m below meth c T0 X0 hx hby hml hret hlk hZ hown hnm e0 => ?_
  refine own_cast (ef_0 m i0 i1 i2) ?_
  have NF := Fr.nil n0
  have Zs := Z0
  refine own_by (B := T0.setTop (mkF m 2 #[.val (.int i0), .val (.int i1), .val (.int i2), .unset, .unset, .unset, .unset] [(.int (31 : Int32))])) (fun t k => XS.bipush X0.here hx rfl (hb hby at_0) k) ?_
  obtain ⟨T1, h1, k1, X1, e1, E1, A1, st1⟩ := newP X0 hx hZ (hw _ (List.mem_of_getElem? (i := 0) rfl)) e0 (g := (mkF m 2 #[.val (.int i0), .val (.int i1), .val (.int i2), .unset, .unset, .unset, .unset] [(.int (31 : Int32))])) rfl (hb hby at_2) rfl (by decide) (cap := 31) (by decide) (by decide) (by decide) (by decide)
  obtain ⟨b1, g1⟩ : ∃ z, z = h0.size := ⟨_, rfl⟩
  rw [← g1] at A1 st1
  have g_b1 : n0 ≤ b1 := Nat.le_trans Zs (Nat.le_of_eq g1.symm)
  replace Zs : n0 ≤ h1.size := Nat.le_trans Zs E1.1
  have V_b1 : own_BA Z h1 b1 .int 31 (fun _ => 0) := own_BA.new A1 (by decide) rfl
  refine own_by (B := T1.setTop (mkF m 4 #[.val (.int i0), .val (.int i1), .val (.int i2), .unset, .unset, .unset, .unset] [(.ref b1)])) (fun t k => st1 _ k) ?_
  refine own_by (B := T1.setTop (mkF m 5 #[.val (.int i0), .val (.int i1), .val (.int i2), .unset, .unset, .unset, .unset] [(.ref b1), (.ref b1)])) (fun t k => XS.dup X1.here hx rfl (hb hby at_4) rfl rfl k) ?_
  refine own_by (B := T1.setTop (mkF m 6 #[.val (.int i0), .val (.int i1), .val (.int i2), .unset, .unset, .unset, .unset] [(.int (0 : Int32)), (.ref b1), (.ref b1)])) (fun t k => XS.iconst X1.here hx rfl (hb hby at_5) k) ?_
  refine own_by (B := T1.setTop (mkF m 7 #[.val (.int i0), .val (.int i1), .val (.int i2), .unset, .unset, .unset, .unset] [(.int (0 : Int32)), (.int (0 : Int32)), (.ref b1), (.ref b1)])) (fun t k => XS.iconst X1.here hx rfl (hb hby at_6) k) ?_
  obtain ⟨cl2, Ar2, S2, H2⟩ := V_b1
  have hin2 : ¬ ((0 : Int32) < 0 ∨ cl2.slots.size ≤ ((0 : Int32)).toNatClampNeg) := own_in S2 (by decide)
  obtain ⟨T2, h2, X2, e2, W2, st2⟩ := stI X1 hx hZ e1 Ar2 (j := (0 : Int32)) hin2 (g := (mkF m 7 #[.val (.int i0), .val (.int i1), .val (.int i2), .unset, .unset, .unset, .unset] [(.int (0 : Int32)), (.int (0 : Int32)), (.ref b1), (.ref b1)])) rfl rfl (hb hby at_7)
  replace V_b1 : own_BA Z h1 b1 .int 31 (fun _ => 0) := ⟨cl2, Ar2, S2, H2⟩
  replace V_b1 : own_BA Z h2 b1 .int 31 (own_up (fun _ => 0) ((0 : Int32)).toNatClampNeg (0 : Int32)) := V_b1.same W2
  replace Zs : n0 ≤ h2.size := by rw [W2.size]; exact Zs
  have NF := Fr.snoc X2 NF g_b1
  obtain ⟨fn2, V_b1⟩ : ∃ g, own_BA Z h2 b1 .int 31 g := ⟨_, V_b1⟩
  refine own_by (B := T2.setTop (mkF m 8 #[.val (.int i0), .val (.int i1), .val (.int i2), .unset, .unset, .unset, .unset] [(.ref b1)])) (fun t k => st2 _ k) ?_
  refine own_by (B := T2.setTop (mkF m 9 #[.val (.int i0), .val (.int i1), .val (.int i2), .unset, .unset, .unset, .unset] [(.ref b1), (.ref b1)])) (fun t k => XS.dup X2.here hx rfl (hb hby at_8) rfl rfl k) ?_
  refine own_by (B := T2.setTop (mkF m 10 #[.val (.int i0), .val (.int i1), .val (.int i2), .unset, .unset, .unset, .unset] [(.int (1 : Int32)), (.ref b1), (.ref b1)])) (fun t k => XS.iconst X2.here hx rfl (hb hby at_9) k) ?_
  refine own_by (B := T2.setTop (mkF m 12 #[.val (.int i0), .val (.int i1), .val (.int i2), .unset, .unset, .unset, .unset] [(.int (58 : Int32)), (.int (1 : Int32)), (.ref b1), (.ref b1)])) (fun t k => XS.bipush X2.here hx rfl (hb hby at_10) k) ?_
  obtain ⟨cl3, Ar3, S3, H3⟩ := V_b1
  have hin3 : ¬ ((1 : Int32) < 0 ∨ cl3.slots.size ≤ ((1 : Int32)).toNatClampNeg) := own_in S3 (by decide)
  obtain ⟨T3, h3, X3, e3, W3, st3⟩ := stI X2 hx hZ e2 Ar3 (j := (1 : Int32)) hin3 (g := (mkF m 12 #[.val (.int i0), .val (.int i1), .val (.int i2), .unset, .unset, .unset, .unset] [(.int (58 : Int32)), (.int (1 : Int32)), (.ref b1), (.ref b1)])) rfl rfl (hb hby at_12)
  replace V_b1 : own_BA Z h2 b1 .int 31 fn2 := ⟨cl3, Ar3, S3, H3⟩
  replace V_b1 : own_BA Z h3 b1 .int 31 (own_up fn2 ((1 : Int32)).toNatClampNeg (58 : Int32)) := V_b1.same W3
  replace Zs : n0 ≤ h3.size := by rw [W3.size]; exact Zs
  have NF := Fr.snoc X3 NF g_b1
  obtain ⟨fn3, V_b1⟩ : ∃ g, own_BA Z h3 b1 .int 31 g := ⟨_, V_b1⟩
  refine own_by (B := T3.setTop (mkF m 13 #[.val (.int i0), .val (.int i1), .val (.int i2), .unset, .unset, .unset, .unset] [(.ref b1)])) (fun t k => st3 _ k) ?_
  refine own_by (B := T3.setTop (mkF m 14 #[.val (.int i0), .val (.int i1), .val (.int i2), .unset, .unset, .unset, .unset] [(.ref b1), (.ref b1)])) (fun t k => XS.dup X3.here hx rfl (hb hby at_13) rfl rfl k) ?_
  refine own_by (B := T3.setTop (mkF m 15 #[.val (.int i0), .val (.int i1), .val (.int i2), .unset, .unset, .unset, .unset] [(.int (2 : Int32)), (.ref b1), (.ref b1)])) (fun t k => XS.iconst X3.here hx rfl (hb hby at_14) k) ?_
  refine own_by (B := T3.setTop (mkF m 17 #[.val (.int i0), .val (.int i1), .val (.int i2), .unset, .unset, .unset, .unset] [(.int (65 : Int32)), (.int (2 : Int32)), (.ref b1), (.ref b1)])) (fun t k => XS.bipush X3.here hx rfl (hb hby at_15) k) ?_
  obtain ⟨cl4, Ar4, S4, H4⟩ := V_b1
  have hin4 : ¬ ((2 : Int32) < 0 ∨ cl4.slots.size ≤ ((2 : Int32)).toNatClampNeg) := own_in S4 (by decide)
  obtain ⟨T4, h4, X4, e4, W4, st4⟩ := stI X3 hx hZ e3 Ar4 (j := (2 : Int32)) hin4 (g := (mkF m 17 #[.val (.int i0), .val (.int i1), .val (.int i2), .unset, .unset, .unset, .unset] [(.int (65 : Int32)), (.int (2 : Int32)), (.ref b1), (.ref b1)])) rfl rfl (hb hby at_17)
  replace V_b1 : own_BA Z h3 b1 .int 31 fn3 := ⟨cl4, Ar4, S4, H4⟩
  replace V_b1 : own_BA Z h4 b1 .int 31 (own_up fn3 ((2 : Int32)).toNatClampNeg (65 : Int32)) := V_b1.same W4
  replace Zs : n0 ≤ h4.size := by rw [W4.size]; exact Zs
  have NF := Fr.snoc X4 NF g_b1
  obtain ⟨fn4, V_b1⟩ : ∃ g, own_BA Z h4 b1 .int 31 g := ⟨_, V_b1⟩
  refine own_by (B := T4.setTop (mkF m 18 #[.val (.int i0), .val (.int i1), .val (.int i2), .unset, .unset, .unset, .unset] [(.ref b1)])) (fun t k => st4 _ k) ?_
  refine own_by (B := T4.setTop (mkF m 19 #[.val (.int i0), .val (.int i1), .val (.int i2), .unset, .unset, .unset, .unset] [(.ref b1), (.ref b1)])) (fun t k => XS.dup X4.here hx rfl (hb hby at_18) rfl rfl k) ?_
  refine own_by (B := T4.setTop (mkF m 20 #[.val (.int i0), .val (.int i1), .val (.int i2), .unset, .unset, .unset, .unset] [(.int (3 : Int32)), (.ref b1), (.ref b1)])) (fun t k => XS.iconst X4.here hx rfl (hb hby at_19) k) ?_
  refine own_by (B := T4.setTop (mkF m 22 #[.val (.int i0), .val (.int i1), .val (.int i2), .unset, .unset, .unset, .unset] [(.int (90 : Int32)), (.int (3 : Int32)), (.ref b1), (.ref b1)])) (fun t k => XS.bipush X4.here hx rfl (hb hby at_20) k) ?_
  obtain ⟨cl5, Ar5, S5, H5⟩ := V_b1
  have hin5 : ¬ ((3 : Int32) < 0 ∨ cl5.slots.size ≤ ((3 : Int32)).toNatClampNeg) := own_in S5 (by decide)
  obtain ⟨T5, h5, X5, e5, W5, st5⟩ := stI X4 hx hZ e4 Ar5 (j := (3 : Int32)) hin5 (g := (mkF m 22 #[.val (.int i0), .val (.int i1), .val (.int i2), .unset, .unset, .unset, .unset] [(.int (90 : Int32)), (.int (3 : Int32)), (.ref b1), (.ref b1)])) rfl rfl (hb hby at_22)
  replace V_b1 : own_BA Z h4 b1 .int 31 fn4 := ⟨cl5, Ar5, S5, H5⟩
  replace V_b1 : own_BA Z h5 b1 .int 31 (own_up fn4 ((3 : Int32)).toNatClampNeg (90 : Int32)) := V_b1.same W5
  replace Zs : n0 ≤ h5.size := by rw [W5.size]; exact Zs
  have NF := Fr.snoc X5 NF g_b1
  obtain ⟨fn5, V_b1⟩ : ∃ g, own_BA Z h5 b1 .int 31 g := ⟨_, V_b1⟩
  refine own_by (B := T5.setTop (mkF m 23 #[.val (.int i0), .val (.int i1), .val (.int i2), .unset, .unset, .unset, .unset] [(.ref b1)])) (fun t k => st5 _ k) ?_
  refine own_by (B := T5.setTop (mkF m 24 #[.val (.int i0), .val (.int i1), .val (.int i2), .unset, .unset, .unset, .unset] [(.ref b1), (.ref b1)])) (fun t k => XS.dup X5.here hx rfl (hb hby at_23) rfl rfl k) ?_
  refine own_by (B := T5.setTop (mkF m 25 #[.val (.int i0), .val (.int i1), .val (.int i2), .unset, .unset, .unset, .unset] [(.int (4 : Int32)), (.ref b1), (.ref b1)])) (fun t k => XS.iconst X5.here hx rfl (hb hby at_24) k) ?_
  refine own_by (B := T5.setTop (mkF m 27 #[.val (.int i0), .val (.int i1), .val (.int i2), .unset, .unset, .unset, .unset] [(.int (95 : Int32)), (.int (4 : Int32)), (.ref b1), (.ref b1)])) (fun t k => XS.bipush X5.here hx rfl (hb hby at_25) k) ?_
  obtain ⟨cl6, Ar6, S6, H6⟩ := V_b1
  have hin6 : ¬ ((4 : Int32) < 0 ∨ cl6.slots.size ≤ ((4 : Int32)).toNatClampNeg) := own_in S6 (by decide)
  obtain ⟨T6, h6, X6, e6, W6, st6⟩ := stI X5 hx hZ e5 Ar6 (j := (4 : Int32)) hin6 (g := (mkF m 27 #[.val (.int i0), .val (.int i1), .val (.int i2), .unset, .unset, .unset, .unset] [(.int (95 : Int32)), (.int (4 : Int32)), (.ref b1), (.ref b1)])) rfl rfl (hb hby at_27)
  replace V_b1 : own_BA Z h5 b1 .int 31 fn5 := ⟨cl6, Ar6, S6, H6⟩
  replace V_b1 : own_BA Z h6 b1 .int 31 (own_up fn5 ((4 : Int32)).toNatClampNeg (95 : Int32)) := V_b1.same W6
  replace Zs : n0 ≤ h6.size := by rw [W6.size]; exact Zs
  have NF := Fr.snoc X6 NF g_b1
  obtain ⟨fn6, V_b1⟩ : ∃ g, own_BA Z h6 b1 .int 31 g := ⟨_, V_b1⟩
  refine own_by (B := T6.setTop (mkF m 28 #[.val (.int i0), .val (.int i1), .val (.int i2), .unset, .unset, .unset, .unset] [(.ref b1)])) (fun t k => st6 _ k) ?_
  refine own_by (B := T6.setTop (mkF m 29 #[.val (.int i0), .val (.int i1), .val (.int i2), .unset, .unset, .unset, .unset] [(.ref b1), (.ref b1)])) (fun t k => XS.dup X6.here hx rfl (hb hby at_28) rfl rfl k) ?_
  refine own_by (B := T6.setTop (mkF m 30 #[.val (.int i0), .val (.int i1), .val (.int i2), .unset, .unset, .unset, .unset] [(.int (5 : Int32)), (.ref b1), (.ref b1)])) (fun t k => XS.iconst X6.here hx rfl (hb hby at_29) k) ?_
  refine own_by (B := T6.setTop (mkF m 32 #[.val (.int i0), .val (.int i1), .val (.int i2), .unset, .unset, .unset, .unset] [(.int (97 : Int32)), (.int (5 : Int32)), (.ref b1), (.ref b1)])) (fun t k => XS.bipush X6.here hx rfl (hb hby at_30) k) ?_
  obtain ⟨cl7, Ar7, S7, H7⟩ := V_b1
  have hin7 : ¬ ((5 : Int32) < 0 ∨ cl7.slots.size ≤ ((5 : Int32)).toNatClampNeg) := own_in S7 (by decide)
  obtain ⟨T7, h7, X7, e7, W7, st7⟩ := stI X6 hx hZ e6 Ar7 (j := (5 : Int32)) hin7 (g := (mkF m 32 #[.val (.int i0), .val (.int i1), .val (.int i2), .unset, .unset, .unset, .unset] [(.int (97 : Int32)), (.int (5 : Int32)), (.ref b1), (.ref b1)])) rfl rfl (hb hby at_32)
  replace V_b1 : own_BA Z h6 b1 .int 31 fn6 := ⟨cl7, Ar7, S7, H7⟩
  replace V_b1 : own_BA Z h7 b1 .int 31 (own_up fn6 ((5 : Int32)).toNatClampNeg (97 : Int32)) := V_b1.same W7
  replace Zs : n0 ≤ h7.size := by rw [W7.size]; exact Zs
  have NF := Fr.snoc X7 NF g_b1
  obtain ⟨fn7, V_b1⟩ : ∃ g, own_BA Z h7 b1 .int 31 g := ⟨_, V_b1⟩
  refine own_by (B := T7.setTop (mkF m 33 #[.val (.int i0), .val (.int i1), .val (.int i2), .unset, .unset, .unset, .unset] [(.ref b1)])) (fun t k => st7 _ k) ?_
  refine own_by (B := T7.setTop (mkF m 34 #[.val (.int i0), .val (.int i1), .val (.int i2), .unset, .unset, .unset, .unset] [(.ref b1), (.ref b1)])) (fun t k => XS.dup X7.here hx rfl (hb hby at_33) rfl rfl k) ?_
  refine own_by (B := T7.setTop (mkF m 36 #[.val (.int i0), .val (.int i1), .val (.int i2), .unset, .unset, .unset, .unset] [(.int (6 : Int32)), (.ref b1), (.ref b1)])) (fun t k => XS.bipush X7.here hx rfl (hb hby at_34) k) ?_
  refine own_by (B := T7.setTop (mkF m 38 #[.val (.int i0), .val (.int i1), .val (.int i2), .unset, .unset, .unset, .unset] [(.int (122 : Int32)), (.int (6 : Int32)), (.ref b1), (.ref b1)])) (fun t k => XS.bipush X7.here hx rfl (hb hby at_36) k) ?_
  obtain ⟨cl8, Ar8, S8, H8⟩ := V_b1
  have hin8 : ¬ ((6 : Int32) < 0 ∨ cl8.slots.size ≤ ((6 : Int32)).toNatClampNeg) := own_in S8 (by decide)
  obtain ⟨T8, h8, X8, e8, W8, st8⟩ := stI X7 hx hZ e7 Ar8 (j := (6 : Int32)) hin8 (g := (mkF m 38 #[.val (.int i0), .val (.int i1), .val (.int i2), .unset, .unset, .unset, .unset] [(.int (122 : Int32)), (.int (6 : Int32)), (.ref b1), (.ref b1)])) rfl rfl (hb hby at_38)
  replace V_b1 : own_BA Z h7 b1 .int 31 fn7 := ⟨cl8, Ar8, S8, H8⟩
  replace V_b1 : own_BA Z h8 b1 .int 31 (own_up fn7 ((6 : Int32)).toNatClampNeg (122 : Int32)) := V_b1.same W8
  replace Zs : n0 ≤ h8.size := by rw [W8.size]; exact Zs
  have NF := Fr.snoc X8 NF g_b1
  obtain ⟨fn8, V_b1⟩ : ∃ g, own_BA Z h8 b1 .int 31 g := ⟨_, V_b1⟩
  refine own_by (B := T8.setTop (mkF m 39 #[.val (.int i0), .val (.int i1), .val (.int i2), .unset, .unset, .unset, .unset] [(.ref b1)])) (fun t k => st8 _ k) ?_
  refine own_by (B := T8.setTop (mkF m 40 #[.val (.int i0), .val (.int i1), .val (.int i2), .unset, .unset, .unset, .unset] [(.ref b1), (.ref b1)])) (fun t k => XS.dup X8.here hx rfl (hb hby at_39) rfl rfl k) ?_
  refine own_by (B := T8.setTop (mkF m 42 #[.val (.int i0), .val (.int i1), .val (.int i2), .unset, .unset, .unset, .unset] [(.int (7 : Int32)), (.ref b1), (.ref b1)])) (fun t k => XS.bipush X8.here hx rfl (hb hby at_40) k) ?_
  refine own_by (B := T8.setTop (mkF m 45 #[.val (.int i0), .val (.int i1), .val (.int i2), .unset, .unset, .unset, .unset] [(.int (192 : Int32)), (.int (7 : Int32)), (.ref b1), (.ref b1)])) (fun t k => XS.sipush X8.here hx rfl (hb hby at_42) k) ?_
  obtain ⟨cl9, Ar9, S9, H9⟩ := V_b1
  have hin9 : ¬ ((7 : Int32) < 0 ∨ cl9.slots.size ≤ ((7 : Int32)).toNatClampNeg) := own_in S9 (by decide)
  obtain ⟨T9, h9, X9, e9, W9, st9⟩ := stI X8 hx hZ e8 Ar9 (j := (7 : Int32)) hin9 (g := (mkF m 45 #[.val (.int i0), .val (.int i1), .val (.int i2), .unset, .unset, .unset, .unset] [(.int (192 : Int32)), (.int (7 : Int32)), (.ref b1), (.ref b1)])) rfl rfl (hb hby at_45)
  replace V_b1 : own_BA Z h8 b1 .int 31 fn8 := ⟨cl9, Ar9, S9, H9⟩
  replace V_b1 : own_BA Z h9 b1 .int 31 (own_up fn8 ((7 : Int32)).toNatClampNeg (192 : Int32)) := V_b1.same W9
  replace Zs : n0 ≤ h9.size := by rw [W9.size]; exact Zs
  have NF := Fr.snoc X9 NF g_b1
  obtain ⟨fn9, V_b1⟩ : ∃ g, own_BA Z h9 b1 .int 31 g := ⟨_, V_b1⟩
  refine own_by (B := T9.setTop (mkF m 46 #[.val (.int i0), .val (.int i1), .val (.int i2), .unset, .unset, .unset, .unset] [(.ref b1)])) (fun t k => st9 _ k) ?_
  refine own_by (B := T9.setTop (mkF m 47 #[.val (.int i0), .val (.int i1), .val (.int i2), .unset, .unset, .unset, .unset] [(.ref b1), (.ref b1)])) (fun t k => XS.dup X9.here hx rfl (hb hby at_46) rfl rfl k) ?_
  refine own_by (B := T9.setTop (mkF m 49 #[.val (.int i0), .val (.int i1), .val (.int i2), .unset, .unset, .unset, .unset] [(.int (8 : Int32)), (.ref b1), (.ref b1)])) (fun t k => XS.bipush X9.here hx rfl (hb hby at_47) k) ?_
  refine own_by (B := T9.setTop (mkF m 52 #[.val (.int i0), .val (.int i1), .val (.int i2), .unset, .unset, .unset, .unset] [(.int (214 : Int32)), (.int (8 : Int32)), (.ref b1), (.ref b1)])) (fun t k => XS.sipush X9.here hx rfl (hb hby at_49) k) ?_
  obtain ⟨cl10, Ar10, S10, H10⟩ := V_b1
  have hin10 : ¬ ((8 : Int32) < 0 ∨ cl10.slots.size ≤ ((8 : Int32)).toNatClampNeg) := own_in S10 (by decide)
  obtain ⟨T10, h10, X10, e10, W10, st10⟩ := stI X9 hx hZ e9 Ar10 (j := (8 : Int32)) hin10 (g := (mkF m 52 #[.val (.int i0), .val (.int i1), .val (.int i2), .unset, .unset, .unset, .unset] [(.int (214 : Int32)), (.int (8 : Int32)), (.ref b1), (.ref b1)])) rfl rfl (hb hby at_52)
  replace V_b1 : own_BA Z h9 b1 .int 31 fn9 := ⟨cl10, Ar10, S10, H10⟩
  replace V_b1 : own_BA Z h10 b1 .int 31 (own_up fn9 ((8 : Int32)).toNatClampNeg (214 : Int32)) := V_b1.same W10
  replace Zs : n0 ≤ h10.size := by rw [W10.size]; exact Zs
  have NF := Fr.snoc X10 NF g_b1
  obtain ⟨fn10, V_b1⟩ : ∃ g, own_BA Z h10 b1 .int 31 g := ⟨_, V_b1⟩
  refine own_by (B := T10.setTop (mkF m 53 #[.val (.int i0), .val (.int i1), .val (.int i2), .unset, .unset, .unset, .unset] [(.ref b1)])) (fun t k => st10 _ k) ?_
  refine own_by (B := T10.setTop (mkF m 54 #[.val (.int i0), .val (.int i1), .val (.int i2), .unset, .unset, .unset, .unset] [(.ref b1), (.ref b1)])) (fun t k => XS.dup X10.here hx rfl (hb hby at_53) rfl rfl k) ?_
  refine own_by (B := T10.setTop (mkF m 56 #[.val (.int i0), .val (.int i1), .val (.int i2), .unset, .unset, .unset, .unset] [(.int (9 : Int32)), (.ref b1), (.ref b1)])) (fun t k => XS.bipush X10.here hx rfl (hb hby at_54) k) ?_
  refine own_by (B := T10.setTop (mkF m 59 #[.val (.int i0), .val (.int i1), .val (.int i2), .unset, .unset, .unset, .unset] [(.int (216 : Int32)), (.int (9 : Int32)), (.ref b1), (.ref b1)])) (fun t k => XS.sipush X10.here hx rfl (hb hby at_56) k) ?_
  obtain ⟨cl11, Ar11, S11, H11⟩ := V_b1
  have hin11 : ¬ ((9 : Int32) < 0 ∨ cl11.slots.size ≤ ((9 : Int32)).toNatClampNeg) := own_in S11 (by decide)
  obtain ⟨T11, h11, X11, e11, W11, st11⟩ := stI X10 hx hZ e10 Ar11 (j := (9 : Int32)) hin11 (g := (mkF m 59 #[.val (.int i0), .val (.int i1), .val (.int i2), .unset, .unset, .unset, .unset] [(.int (216 : Int32)), (.int (9 : Int32)), (.ref b1), (.ref b1)])) rfl rfl (hb hby at_59)
  replace V_b1 : own_BA Z h10 b1 .int 31 fn10 := ⟨cl11, Ar11, S11, H11⟩
  replace V_b1 : own_BA Z h11 b1 .int 31 (own_up fn10 ((9 : Int32)).toNatClampNeg (216 : Int32)) := V_b1.same W11
  replace Zs : n0 ≤ h11.size := by rw [W11.size]; exact Zs
  have NF := Fr.snoc X11 NF g_b1
  obtain ⟨fn11, V_b1⟩ : ∃ g, own_BA Z h11 b1 .int 31 g := ⟨_, V_b1⟩
  refine own_by (B := T11.setTop (mkF m 60 #[.val (.int i0), .val (.int i1), .val (.int i2), .unset, .unset, .unset, .unset] [(.ref b1)])) (fun t k => st11 _ k) ?_
  refine own_by (B := T11.setTop (mkF m 61 #[.val (.int i0), .val (.int i1), .val (.int i2), .unset, .unset, .unset, .unset] [(.ref b1), (.ref b1)])) (fun t k => XS.dup X11.here hx rfl (hb hby at_60) rfl rfl k) ?_
  refine own_by (B := T11.setTop (mkF m 63 #[.val (.int i0), .val (.int i1), .val (.int i2), .unset, .unset, .unset, .unset] [(.int (10 : Int32)), (.ref b1), (.ref b1)])) (fun t k => XS.bipush X11.here hx rfl (hb hby at_61) k) ?_
  refine own_by (B := T11.setTop (mkF m 66 #[.val (.int i0), .val (.int i1), .val (.int i2), .unset, .unset, .unset, .unset] [(.int (246 : Int32)), (.int (10 : Int32)), (.ref b1), (.ref b1)])) (fun t k => XS.sipush X11.here hx rfl (hb hby at_63) k) ?_
  obtain ⟨cl12, Ar12, S12, H12⟩ := V_b1
  have hin12 : ¬ ((10 : Int32) < 0 ∨ cl12.slots.size ≤ ((10 : Int32)).toNatClampNeg) := own_in S12 (by decide)
  obtain ⟨T12, h12, X12, e12, W12, st12⟩ := stI X11 hx hZ e11 Ar12 (j := (10 : Int32)) hin12 (g := (mkF m 66 #[.val (.int i0), .val (.int i1), .val (.int i2), .unset, .unset, .unset, .unset] [(.int (246 : Int32)), (.int (10 : Int32)), (.ref b1), (.ref b1)])) rfl rfl (hb hby at_66)
  replace V_b1 : own_BA Z h11 b1 .int 31 fn11 := ⟨cl12, Ar12, S12, H12⟩
  replace V_b1 : own_BA Z h12 b1 .int 31 (own_up fn11 ((10 : Int32)).toNatClampNeg (246 : Int32)) := V_b1.same W12
  replace Zs : n0 ≤ h12.size := by rw [W12.size]; exact Zs
  have NF := Fr.snoc X12 NF g_b1
  obtain ⟨fn12, V_b1⟩ : ∃ g, own_BA Z h12 b1 .int 31 g := ⟨_, V_b1⟩
  refine own_by (B := T12.setTop (mkF m 67 #[.val (.int i0), .val (.int i1), .val (.int i2), .unset, .unset, .unset, .unset] [(.ref b1)])) (fun t k => st12 _ k) ?_
  refine own_by (B := T12.setTop (mkF m 68 #[.val (.int i0), .val (.int i1), .val (.int i2), .unset, .unset, .unset, .unset] [(.ref b1), (.ref b1)])) (fun t k => XS.dup X12.here hx rfl (hb hby at_67) rfl rfl k) ?_
  refine own_by (B := T12.setTop (mkF m 70 #[.val (.int i0), .val (.int i1), .val (.int i2), .unset, .unset, .unset, .unset] [(.int (11 : Int32)), (.ref b1), (.ref b1)])) (fun t k => XS.bipush X12.here hx rfl (hb hby at_68) k) ?_
  refine own_by (B := T12.setTop (mkF m 73 #[.val (.int i0), .val (.int i1), .val (.int i2), .unset, .unset, .unset, .unset] [(.int (248 : Int32)), (.int (11 : Int32)), (.ref b1), (.ref b1)])) (fun t k => XS.sipush X12.here hx rfl (hb hby at_70) k) ?_
  obtain ⟨cl13, Ar13, S13, H13⟩ := V_b1
  have hin13 : ¬ ((11 : Int32) < 0 ∨ cl13.slots.size ≤ ((11 : Int32)).toNatClampNeg) := own_in S13 (by decide)
  obtain ⟨T13, h13, X13, e13, W13, st13⟩ := stI X12 hx hZ e12 Ar13 (j := (11 : Int32)) hin13 (g := (mkF m 73 #[.val (.int i0), .val (.int i1), .val (.int i2), .unset, .unset, .unset, .unset] [(.int (248 : Int32)), (.int (11 : Int32)), (.ref b1), (.ref b1)])) rfl rfl (hb hby at_73)
  replace V_b1 : own_BA Z h12 b1 .int 31 fn12 := ⟨cl13, Ar13, S13, H13⟩
  replace V_b1 : own_BA Z h13 b1 .int 31 (own_up fn12 ((11 : Int32)).toNatClampNeg (248 : Int32)) := V_b1.same W13
  replace Zs : n0 ≤ h13.size := by rw [W13.size]; exact Zs
  have NF := Fr.snoc X13 NF g_b1
  obtain ⟨fn13, V_b1⟩ : ∃ g, own_BA Z h13 b1 .int 31 g := ⟨_, V_b1⟩
  refine own_by (B := T13.setTop (mkF m 74 #[.val (.int i0), .val (.int i1), .val (.int i2), .unset, .unset, .unset, .unset] [(.ref b1)])) (fun t k => st13 _ k) ?_
  refine own_by (B := T13.setTop (mkF m 75 #[.val (.int i0), .val (.int i1), .val (.int i2), .unset, .unset, .unset, .unset] [(.ref b1), (.ref b1)])) (fun t k => XS.dup X13.here hx rfl (hb hby at_74) rfl rfl k) ?_
  refine own_by (B := T13.setTop (mkF m 77 #[.val (.int i0), .val (.int i1), .val (.int i2), .unset, .unset, .unset, .unset] [(.int (12 : Int32)), (.ref b1), (.ref b1)])) (fun t k => XS.bipush X13.here hx rfl (hb hby at_75) k) ?_
  refine own_by (B := T13.setTop (mkF m 80 #[.val (.int i0), .val (.int i1), .val (.int i2), .unset, .unset, .unset, .unset] [(.int (767 : Int32)), (.int (12 : Int32)), (.ref b1), (.ref b1)])) (fun t k => XS.sipush X13.here hx rfl (hb hby at_77) k) ?_
  obtain ⟨cl14, Ar14, S14, H14⟩ := V_b1
  have hin14 : ¬ ((12 : Int32) < 0 ∨ cl14.slots.size ≤ ((12 : Int32)).toNatClampNeg) := own_in S14 (by decide)
  obtain ⟨T14, h14, X14, e14, W14, st14⟩ := stI X13 hx hZ e13 Ar14 (j := (12 : Int32)) hin14 (g := (mkF m 80 #[.val (.int i0), .val (.int i1), .val (.int i2), .unset, .unset, .unset, .unset] [(.int (767 : Int32)), (.int (12 : Int32)), (.ref b1), (.ref b1)])) rfl rfl (hb hby at_80)
  replace V_b1 : own_BA Z h13 b1 .int 31 fn13 := ⟨cl14, Ar14, S14, H14⟩
  replace V_b1 : own_BA Z h14 b1 .int 31 (own_up fn13 ((12 : Int32)).toNatClampNeg (767 : Int32)) := V_b1.same W14
  replace Zs : n0 ≤ h14.size := by rw [W14.size]; exact Zs
  have NF := Fr.snoc X14 NF g_b1
  obtain ⟨fn14, V_b1⟩ : ∃ g, own_BA Z h14 b1 .int 31 g := ⟨_, V_b1⟩
  refine own_by (B := T14.setTop (mkF m 81 #[.val (.int i0), .val (.int i1), .val (.int i2), .unset, .unset, .unset, .unset] [(.ref b1)])) (fun t k => st14 _ k) ?_
  refine own_by (B := T14.setTop (mkF m 82 #[.val (.int i0), .val (.int i1), .val (.int i2), .unset, .unset, .unset, .unset] [(.ref b1), (.ref b1)])) (fun t k => XS.dup X14.here hx rfl (hb hby at_81) rfl rfl k) ?_
  refine own_by (B := T14.setTop (mkF m 84 #[.val (.int i0), .val (.int i1), .val (.int i2), .unset, .unset, .unset, .unset] [(.int (13 : Int32)), (.ref b1), (.ref b1)])) (fun t k => XS.bipush X14.here hx rfl (hb hby at_82) k) ?_
  refine own_by (B := T14.setTop (mkF m 87 #[.val (.int i0), .val (.int i1), .val (.int i2), .unset, .unset, .unset, .unset] [(.int (880 : Int32)), (.int (13 : Int32)), (.ref b1), (.ref b1)])) (fun t k => XS.sipush X14.here hx rfl (hb hby at_84) k) ?_
  obtain ⟨cl15, Ar15, S15, H15⟩ := V_b1
  have hin15 : ¬ ((13 : Int32) < 0 ∨ cl15.slots.size ≤ ((13 : Int32)).toNatClampNeg) := own_in S15 (by decide)
  obtain ⟨T15, h15, X15, e15, W15, st15⟩ := stI X14 hx hZ e14 Ar15 (j := (13 : Int32)) hin15 (g := (mkF m 87 #[.val (.int i0), .val (.int i1), .val (.int i2), .unset, .unset, .unset, .unset] [(.int (880 : Int32)), (.int (13 : Int32)), (.ref b1), (.ref b1)])) rfl rfl (hb hby at_87)
  replace V_b1 : own_BA Z h14 b1 .int 31 fn14 := ⟨cl15, Ar15, S15, H15⟩
  replace V_b1 : own_BA Z h15 b1 .int 31 (own_up fn14 ((13 : Int32)).toNatClampNeg (880 : Int32)) := V_b1.same W15
  replace Zs : n0 ≤ h15.size := by rw [W15.size]; exact Zs
  have NF := Fr.snoc X15 NF g_b1
  obtain ⟨fn15, V_b1⟩ : ∃ g, own_BA Z h15 b1 .int 31 g := ⟨_, V_b1⟩
  refine own_by (B := T15.setTop (mkF m 88 #[.val (.int i0), .val (.int i1), .val (.int i2), .unset, .unset, .unset, .unset] [(.ref b1)])) (fun t k => st15 _ k) ?_
  refine own_by (B := T15.setTop (mkF m 89 #[.val (.int i0), .val (.int i1), .val (.int i2), .unset, .unset, .unset, .unset] [(.ref b1), (.ref b1)])) (fun t k => XS.dup X15.here hx rfl (hb hby at_88) rfl rfl k) ?_
  refine own_by (B := T15.setTop (mkF m 91 #[.val (.int i0), .val (.int i1), .val (.int i2), .unset, .unset, .unset, .unset] [(.int (14 : Int32)), (.ref b1), (.ref b1)])) (fun t k => XS.bipush X15.here hx rfl (hb hby at_89) k) ?_
  refine own_by (B := T15.setTop (mkF m 94 #[.val (.int i0), .val (.int i1), .val (.int i2), .unset, .unset, .unset, .unset] [(.int (893 : Int32)), (.int (14 : Int32)), (.ref b1), (.ref b1)])) (fun t k => XS.sipush X15.here hx rfl (hb hby at_91) k) ?_
  obtain ⟨cl16, Ar16, S16, H16⟩ := V_b1
  have hin16 : ¬ ((14 : Int32) < 0 ∨ cl16.slots.size ≤ ((14 : Int32)).toNatClampNeg) := own_in S16 (by decide)
  obtain ⟨T16, h16, X16, e16, W16, st16⟩ := stI X15 hx hZ e15 Ar16 (j := (14 : Int32)) hin16 (g := (mkF m 94 #[.val (.int i0), .val (.int i1), .val (.int i2), .unset, .unset, .unset, .unset] [(.int (893 : Int32)), (.int (14 : Int32)), (.ref b1), (.ref b1)])) rfl rfl (hb hby at_94)
  replace V_b1 : own_BA Z h15 b1 .int 31 fn15 := ⟨cl16, Ar16, S16, H16⟩
  replace V_b1 : own_BA Z h16 b1 .int 31 (own_up fn15 ((14 : Int32)).toNatClampNeg (893 : Int32)) := V_b1.same W16
  replace Zs : n0 ≤ h16.size := by rw [W16.size]; exact Zs
  have NF := Fr.snoc X16 NF g_b1
  obtain ⟨fn16, V_b1⟩ : ∃ g, own_BA Z h16 b1 .int 31 g := ⟨_, V_b1⟩
  refine own_by (B := T16.setTop (mkF m 95 #[.val (.int i0), .val (.int i1), .val (.int i2), .unset, .unset, .unset, .unset] [(.ref b1)])) (fun t k => st16 _ k) ?_
  refine own_by (B := T16.setTop (mkF m 96 #[.val (.int i0), .val (.int i1), .val (.int i2), .unset, .unset, .unset, .unset] [(.ref b1), (.ref b1)])) (fun t k => XS.dup X16.here hx rfl (hb hby at_95) rfl rfl k) ?_
  refine own_by (B := T16.setTop (mkF m 98 #[.val (.int i0), .val (.int i1), .val (.int i2), .unset, .unset, .unset, .unset] [(.int (15 : Int32)), (.ref b1), (.ref b1)])) (fun t k => XS.bipush X16.here hx rfl (hb hby at_96) k) ?_
  refine own_by (B := T16.setTop (mkF m 101 #[.val (.int i0), .val (.int i1), .val (.int i2), .unset, .unset, .unset, .unset] [(.int (895 : Int32)), (.int (15 : Int32)), (.ref b1), (.ref b1)])) (fun t k => XS.sipush X16.here hx rfl (hb hby at_98) k) ?_
  obtain ⟨cl17, Ar17, S17, H17⟩ := V_b1
  have hin17 : ¬ ((15 : Int32) < 0 ∨ cl17.slots.size ≤ ((15 : Int32)).toNatClampNeg) := own_in S17 (by decide)
  obtain ⟨T17, h17, X17, e17, W17, st17⟩ := stI X16 hx hZ e16 Ar17 (j := (15 : Int32)) hin17 (g := (mkF m 101 #[.val (.int i0), .val (.int i1), .val (.int i2), .unset, .unset, .unset, .unset] [(.int (895 : Int32)), (.int (15 : Int32)), (.ref b1), (.ref b1)])) rfl rfl (hb hby at_101)
  replace V_b1 : own_BA Z h16 b1 .int 31 fn16 := ⟨cl17, Ar17, S17, H17⟩
  replace V_b1 : own_BA Z h17 b1 .int 31 (own_up fn16 ((15 : Int32)).toNatClampNeg (895 : Int32)) := V_b1.same W17
  replace Zs : n0 ≤ h17.size := by rw [W17.size]; exact Zs
  have NF := Fr.snoc X17 NF g_b1
  obtain ⟨fn17, V_b1⟩ : ∃ g, own_BA Z h17 b1 .int 31 g := ⟨_, V_b1⟩
  refine own_by (B := T17.setTop (mkF m 102 #[.val (.int i0), .val (.int i1), .val (.int i2), .unset, .unset, .unset, .unset] [(.ref b1)])) (fun t k => st17 _ k) ?_
  refine own_by (B := T17.setTop (mkF m 103 #[.val (.int i0), .val (.int i1), .val (.int i2), .unset, .unset, .unset, .unset] [(.ref b1), (.ref b1)])) (fun t k => XS.dup X17.here hx rfl (hb hby at_102) rfl rfl k) ?_
  refine own_by (B := T17.setTop (mkF m 105 #[.val (.int i0), .val (.int i1), .val (.int i2), .unset, .unset, .unset, .unset] [(.int (16 : Int32)), (.ref b1), (.ref b1)])) (fun t k => XS.bipush X17.here hx rfl (hb hby at_103) k) ?_
  refine own_by (B := T17.setTop (mkF m 108 #[.val (.int i0), .val (.int i1), .val (.int i2), .unset, .unset, .unset, .unset] [(.int (8191 : Int32)), (.int (16 : Int32)), (.ref b1), (.ref b1)])) (fun t k => XS.sipush X17.here hx rfl (hb hby at_105) k) ?_
  obtain ⟨cl18, Ar18, S18, H18⟩ := V_b1
  have hin18 : ¬ ((16 : Int32) < 0 ∨ cl18.slots.size ≤ ((16 : Int32)).toNatClampNeg) := own_in S18 (by decide)
  obtain ⟨T18, h18, X18, e18, W18, st18⟩ := stI X17 hx hZ e17 Ar18 (j := (16 : Int32)) hin18 (g := (mkF m 108 #[.val (.int i0), .val (.int i1), .val (.int i2), .unset, .unset, .unset, .unset] [(.int (8191 : Int32)), (.int (16 : Int32)), (.ref b1), (.ref b1)])) rfl rfl (hb hby at_108)
  replace V_b1 : own_BA Z h17 b1 .int 31 fn17 := ⟨cl18, Ar18, S18, H18⟩
  replace V_b1 : own_BA Z h18 b1 .int 31 (own_up fn17 ((16 : Int32)).toNatClampNeg (8191 : Int32)) := V_b1.same W18
  replace Zs : n0 ≤ h18.size := by rw [W18.size]; exact Zs
  have NF := Fr.snoc X18 NF g_b1
  obtain ⟨fn18, V_b1⟩ : ∃ g, own_BA Z h18 b1 .int 31 g := ⟨_, V_b1⟩
  refine own_by (B := T18.setTop (mkF m 109 #[.val (.int i0), .val (.int i1), .val (.int i2), .unset, .unset, .unset, .unset] [(.ref b1)])) (fun t k => st18 _ k) ?_
  refine own_by (B := T18.setTop (mkF m 110 #[.val (.int i0), .val (.int i1), .val (.int i2), .unset, .unset, .unset, .unset] [(.ref b1), (.ref b1)])) (fun t k => XS.dup X18.here hx rfl (hb hby at_109) rfl rfl k) ?_
  refine own_by (B := T18.setTop (mkF m 112 #[.val (.int i0), .val (.int i1), .val (.int i2), .unset, .unset, .unset, .unset] [(.int (17 : Int32)), (.ref b1), (.ref b1)])) (fun t k => XS.bipush X18.here hx rfl (hb hby at_110) k) ?_
  refine own_by (B := T18.setTop (mkF m 115 #[.val (.int i0), .val (.int i1), .val (.int i2), .unset, .unset, .unset, .unset] [(.int (8204 : Int32)), (.int (17 : Int32)), (.ref b1), (.ref b1)])) (fun t k => XS.sipush X18.here hx rfl (hb hby at_112) k) ?_
  obtain ⟨cl19, Ar19, S19, H19⟩ := V_b1
  have hin19 : ¬ ((17 : Int32) < 0 ∨ cl19.slots.size ≤ ((17 : Int32)).toNatClampNeg) := own_in S19 (by decide)
  obtain ⟨T19, h19, X19, e19, W19, st19⟩ := stI X18 hx hZ e18 Ar19 (j := (17 : Int32)) hin19 (g := (mkF m 115 #[.val (.int i0), .val (.int i1), .val (.int i2), .unset, .unset, .unset, .unset] [(.int (8204 : Int32)), (.int (17 : Int32)), (.ref b1), (.ref b1)])) rfl rfl (hb hby at_115)
  replace V_b1 : own_BA Z h18 b1 .int 31 fn18 := ⟨cl19, Ar19, S19, H19⟩
  replace V_b1 : own_BA Z h19 b1 .int 31 (own_up fn18 ((17 : Int32)).toNatClampNeg (8204 : Int32)) := V_b1.same W19
  replace Zs : n0 ≤ h19.size := by rw [W19.size]; exact Zs
  have NF := Fr.snoc X19 NF g_b1
  obtain ⟨fn19, V_b1⟩ : ∃ g, own_BA Z h19 b1 .int 31 g := ⟨_, V_b1⟩
  refine own_by (B := T19.setTop (mkF m 116 #[.val (.int i0), .val (.int i1), .val (.int i2), .unset, .unset, .unset, .unset] [(.ref b1)])) (fun t k => st19 _ k) ?_
  refine own_by (B := T19.setTop (mkF m 117 #[.val (.int i0), .val (.int i1), .val (.int i2), .unset, .unset, .unset, .unset] [(.ref b1), (.ref b1)])) (fun t k => XS.dup X19.here hx rfl (hb hby at_116) rfl rfl k) ?_
  refine own_by (B := T19.setTop (mkF m 119 #[.val (.int i0), .val (.int i1), .val (.int i2), .unset, .unset, .unset, .unset] [(.int (18 : Int32)), (.ref b1), (.ref b1)])) (fun t k => XS.bipush X19.here hx rfl (hb hby at_117) k) ?_
  refine own_by (B := T19.setTop (mkF m 122 #[.val (.int i0), .val (.int i1), .val (.int i2), .unset, .unset, .unset, .unset] [(.int (8205 : Int32)), (.int (18 : Int32)), (.ref b1), (.ref b1)])) (fun t k => XS.sipush X19.here hx rfl (hb hby at_119) k) ?_
  obtain ⟨cl20, Ar20, S20, H20⟩ := V_b1
  have hin20 : ¬ ((18 : Int32) < 0 ∨ cl20.slots.size ≤ ((18 : Int32)).toNatClampNeg) := own_in S20 (by decide)
  obtain ⟨T20, h20, X20, e20, W20, st20⟩ := stI X19 hx hZ e19 Ar20 (j := (18 : Int32)) hin20 (g := (mkF m 122 #[.val (.int i0), .val (.int i1), .val (.int i2), .unset, .unset, .unset, .unset] [(.int (8205 : Int32)), (.int (18 : Int32)), (.ref b1), (.ref b1)])) rfl rfl (hb hby at_122)
  replace V_b1 : own_BA Z h19 b1 .int 31 fn19 := ⟨cl20, Ar20, S20, H20⟩
  replace V_b1 : own_BA Z h20 b1 .int 31 (own_up fn19 ((18 : Int32)).toNatClampNeg (8205 : Int32)) := V_b1.same W20
  replace Zs : n0 ≤ h20.size := by rw [W20.size]; exact Zs
  have NF := Fr.snoc X20 NF g_b1
  obtain ⟨fn20, V_b1⟩ : ∃ g, own_BA Z h20 b1 .int 31 g := ⟨_, V_b1⟩
  refine own_by (B := T20.setTop (mkF m 123 #[.val (.int i0), .val (.int i1), .val (.int i2), .unset, .unset, .unset, .unset] [(.ref b1)])) (fun t k => st20 _ k) ?_
  refine own_by (B := T20.setTop (mkF m 124 #[.val (.int i0), .val (.int i1), .val (.int i2), .unset, .unset, .unset, .unset] [(.ref b1), (.ref b1)])) (fun t k => XS.dup X20.here hx rfl (hb hby at_123) rfl rfl k) ?_
  refine own_by (B := T20.setTop (mkF m 126 #[.val (.int i0), .val (.int i1), .val (.int i2), .unset, .unset, .unset, .unset] [(.int (19 : Int32)), (.ref b1), (.ref b1)])) (fun t k => XS.bipush X20.here hx rfl (hb hby at_124) k) ?_
  refine own_by (B := T20.setTop (mkF m 129 #[.val (.int i0), .val (.int i1), .val (.int i2), .unset, .unset, .unset, .unset] [(.int (8304 : Int32)), (.int (19 : Int32)), (.ref b1), (.ref b1)])) (fun t k => XS.sipush X20.here hx rfl (hb hby at_126) k) ?_
  obtain ⟨cl21, Ar21, S21, H21⟩ := V_b1
  have hin21 : ¬ ((19 : Int32) < 0 ∨ cl21.slots.size ≤ ((19 : Int32)).toNatClampNeg) := own_in S21 (by decide)
  obtain ⟨T21, h21, X21, e21, W21, st21⟩ := stI X20 hx hZ e20 Ar21 (j := (19 : Int32)) hin21 (g := (mkF m 129 #[.val (.int i0), .val (.int i1), .val (.int i2), .unset, .unset, .unset, .unset] [(.int (8304 : Int32)), (.int (19 : Int32)), (.ref b1), (.ref b1)])) rfl rfl (hb hby at_129)
  replace V_b1 : own_BA Z h20 b1 .int 31 fn20 := ⟨cl21, Ar21, S21, H21⟩
  replace V_b1 : own_BA Z h21 b1 .int 31 (own_up fn20 ((19 : Int32)).toNatClampNeg (8304 : Int32)) := V_b1.same W21
  replace Zs : n0 ≤ h21.size := by rw [W21.size]; exact Zs
  have NF := Fr.snoc X21 NF g_b1
  obtain ⟨fn21, V_b1⟩ : ∃ g, own_BA Z h21 b1 .int 31 g := ⟨_, V_b1⟩
  refine own_by (B := T21.setTop (mkF m 130 #[.val (.int i0), .val (.int i1), .val (.int i2), .unset, .unset, .unset, .unset] [(.ref b1)])) (fun t k => st21 _ k) ?_
  refine own_by (B := T21.setTop (mkF m 131 #[.val (.int i0), .val (.int i1), .val (.int i2), .unset, .unset, .unset, .unset] [(.ref b1), (.ref b1)])) (fun t k => XS.dup X21.here hx rfl (hb hby at_130) rfl rfl k) ?_
  refine own_by (B := T21.setTop (mkF m 133 #[.val (.int i0), .val (.int i1), .val (.int i2), .unset, .unset, .unset, .unset] [(.int (20 : Int32)), (.ref b1), (.ref b1)])) (fun t k => XS.bipush X21.here hx rfl (hb hby at_131) k) ?_
  refine own_by (B := T21.setTop (mkF m 136 #[.val (.int i0), .val (.int i1), .val (.int i2), .unset, .unset, .unset, .unset] [(.int (8591 : Int32)), (.int (20 : Int32)), (.ref b1), (.ref b1)])) (fun t k => XS.sipush X21.here hx rfl (hb hby at_133) k) ?_
  obtain ⟨cl22, Ar22, S22, H22⟩ := V_b1
  have hin22 : ¬ ((20 : Int32) < 0 ∨ cl22.slots.size ≤ ((20 : Int32)).toNatClampNeg) := own_in S22 (by decide)
  obtain ⟨T22, h22, X22, e22, W22, st22⟩ := stI X21 hx hZ e21 Ar22 (j := (20 : Int32)) hin22 (g := (mkF m 136 #[.val (.int i0), .val (.int i1), .val (.int i2), .unset, .unset, .unset, .unset] [(.int (8591 : Int32)), (.int (20 : Int32)), (.ref b1), (.ref b1)])) rfl rfl (hb hby at_136)
  replace V_b1 : own_BA Z h21 b1 .int 31 fn21 := ⟨cl22, Ar22, S22, H22⟩
  replace V_b1 : own_BA Z h22 b1 .int 31 (own_up fn21 ((20 : Int32)).toNatClampNeg (8591 : Int32)) := V_b1.same W22
  replace Zs : n0 ≤ h22.size := by rw [W22.size]; exact Zs
  have NF := Fr.snoc X22 NF g_b1
  obtain ⟨fn22, V_b1⟩ : ∃ g, own_BA Z h22 b1 .int 31 g := ⟨_, V_b1⟩
  refine own_by (B := T22.setTop (mkF m 137 #[.val (.int i0), .val (.int i1), .val (.int i2), .unset, .unset, .unset, .unset] [(.ref b1)])) (fun t k => st22 _ k) ?_
  refine own_by (B := T22.setTop (mkF m 138 #[.val (.int i0), .val (.int i1), .val (.int i2), .unset, .unset, .unset, .unset] [(.ref b1), (.ref b1)])) (fun t k => XS.dup X22.here hx rfl (hb hby at_137) rfl rfl k) ?_
  refine own_by (B := T22.setTop (mkF m 140 #[.val (.int i0), .val (.int i1), .val (.int i2), .unset, .unset, .unset, .unset] [(.int (21 : Int32)), (.ref b1), (.ref b1)])) (fun t k => XS.bipush X22.here hx rfl (hb hby at_138) k) ?_
  refine own_by (B := T22.setTop (mkF m 143 #[.val (.int i0), .val (.int i1), .val (.int i2), .unset, .unset, .unset, .unset] [(.int (11264 : Int32)), (.int (21 : Int32)), (.ref b1), (.ref b1)])) (fun t k => XS.sipush X22.here hx rfl (hb hby at_140) k) ?_
  obtain ⟨cl23, Ar23, S23, H23⟩ := V_b1
  have hin23 : ¬ ((21 : Int32) < 0 ∨ cl23.slots.size ≤ ((21 : Int32)).toNatClampNeg) := own_in S23 (by decide)
  obtain ⟨T23, h23, X23, e23, W23, st23⟩ := stI X22 hx hZ e22 Ar23 (j := (21 : Int32)) hin23 (g := (mkF m 143 #[.val (.int i0), .val (.int i1), .val (.int i2), .unset, .unset, .unset, .unset] [(.int (11264 : Int32)), (.int (21 : Int32)), (.ref b1), (.ref b1)])) rfl rfl (hb hby at_143)
  replace V_b1 : own_BA Z h22 b1 .int 31 fn22 := ⟨cl23, Ar23, S23, H23⟩
  replace V_b1 : own_BA Z h23 b1 .int 31 (own_up fn22 ((21 : Int32)).toNatClampNeg (11264 : Int32)) := V_b1.same W23
  replace Zs : n0 ≤ h23.size := by rw [W23.size]; exact Zs
  have NF := Fr.snoc X23 NF g_b1
  obtain ⟨fn23, V_b1⟩ : ∃ g, own_BA Z h23 b1 .int 31 g := ⟨_, V_b1⟩
  refine own_by (B := T23.setTop (mkF m 144 #[.val (.int i0), .val (.int i1), .val (.int i2), .unset, .unset, .unset, .unset] [(.ref b1)])) (fun t k => st23 _ k) ?_
  refine own_by (B := T23.setTop (mkF m 145 #[.val (.int i0), .val (.int i1), .val (.int i2), .unset, .unset, .unset, .unset] [(.ref b1), (.ref b1)])) (fun t k => XS.dup X23.here hx rfl (hb hby at_144) rfl rfl k) ?_
  refine own_by (B := T23.setTop (mkF m 147 #[.val (.int i0), .val (.int i1), .val (.int i2), .unset, .unset, .unset, .unset] [(.int (22 : Int32)), (.ref b1), (.ref b1)])) (fun t k => XS.bipush X23.here hx rfl (hb hby at_145) k) ?_
  refine own_by (B := T23.setTop (mkF m 150 #[.val (.int i0), .val (.int i1), .val (.int i2), .unset, .unset, .unset, .unset] [(.int (12271 : Int32)), (.int (22 : Int32)), (.ref b1), (.ref b1)])) (fun t k => XS.sipush X23.here hx rfl (hb hby at_147) k) ?_
  obtain ⟨cl24, Ar24, S24, H24⟩ := V_b1
  have hin24 : ¬ ((22 : Int32) < 0 ∨ cl24.slots.size ≤ ((22 : Int32)).toNatClampNeg) := own_in S24 (by decide)
  obtain ⟨T24, h24, X24, e24, W24, st24⟩ := stI X23 hx hZ e23 Ar24 (j := (22 : Int32)) hin24 (g := (mkF m 150 #[.val (.int i0), .val (.int i1), .val (.int i2), .unset, .unset, .unset, .unset] [(.int (12271 : Int32)), (.int (22 : Int32)), (.ref b1), (.ref b1)])) rfl rfl (hb hby at_150)
  replace V_b1 : own_BA Z h23 b1 .int 31 fn23 := ⟨cl24, Ar24, S24, H24⟩
  replace V_b1 : own_BA Z h24 b1 .int 31 (own_up fn23 ((22 : Int32)).toNatClampNeg (12271 : Int32)) := V_b1.same W24
  replace Zs : n0 ≤ h24.size := by rw [W24.size]; exact Zs
  have NF := Fr.snoc X24 NF g_b1
  obtain ⟨fn24, V_b1⟩ : ∃ g, own_BA Z h24 b1 .int 31 g := ⟨_, V_b1⟩
  refine own_by (B := T24.setTop (mkF m 151 #[.val (.int i0), .val (.int i1), .val (.int i2), .unset, .unset, .unset, .unset] [(.ref b1)])) (fun t k => st24 _ k) ?_
  refine own_by (B := T24.setTop (mkF m 152 #[.val (.int i0), .val (.int i1), .val (.int i2), .unset, .unset, .unset, .unset] [(.ref b1), (.ref b1)])) (fun t k => XS.dup X24.here hx rfl (hb hby at_151) rfl rfl k) ?_
  refine own_by (B := T24.setTop (mkF m 154 #[.val (.int i0), .val (.int i1), .val (.int i2), .unset, .unset, .unset, .unset] [(.int (23 : Int32)), (.ref b1), (.ref b1)])) (fun t k => XS.bipush X24.here hx rfl (hb hby at_152) k) ?_
  refine own_by (B := T24.setTop (mkF m 157 #[.val (.int i0), .val (.int i1), .val (.int i2), .unset, .unset, .unset, .unset] [(.int (12289 : Int32)), (.int (23 : Int32)), (.ref b1), (.ref b1)])) (fun t k => XS.sipush X24.here hx rfl (hb hby at_154) k) ?_
  obtain ⟨cl25, Ar25, S25, H25⟩ := V_b1
  have hin25 : ¬ ((23 : Int32) < 0 ∨ cl25.slots.size ≤ ((23 : Int32)).toNatClampNeg) := own_in S25 (by decide)
  obtain ⟨T25, h25, X25, e25, W25, st25⟩ := stI X24 hx hZ e24 Ar25 (j := (23 : Int32)) hin25 (g := (mkF m 157 #[.val (.int i0), .val (.int i1), .val (.int i2), .unset, .unset, .unset, .unset] [(.int (12289 : Int32)), (.int (23 : Int32)), (.ref b1), (.ref b1)])) rfl rfl (hb hby at_157)
  replace V_b1 : own_BA Z h24 b1 .int 31 fn24 := ⟨cl25, Ar25, S25, H25⟩
  replace V_b1 : own_BA Z h25 b1 .int 31 (own_up fn24 ((23 : Int32)).toNatClampNeg (12289 : Int32)) := V_b1.same W25
  replace Zs : n0 ≤ h25.size := by rw [W25.size]; exact Zs
  have NF := Fr.snoc X25 NF g_b1
  obtain ⟨fn25, V_b1⟩ : ∃ g, own_BA Z h25 b1 .int 31 g := ⟨_, V_b1⟩
  refine own_by (B := T25.setTop (mkF m 158 #[.val (.int i0), .val (.int i1), .val (.int i2), .unset, .unset, .unset, .unset] [(.ref b1)])) (fun t k => st25 _ k) ?_
  refine own_by (B := T25.setTop (mkF m 159 #[.val (.int i0), .val (.int i1), .val (.int i2), .unset, .unset, .unset, .unset] [(.ref b1), (.ref b1)])) (fun t k => XS.dup X25.here hx rfl (hb hby at_158) rfl rfl k) ?_
  refine own_by (B := T25.setTop (mkF m 161 #[.val (.int i0), .val (.int i1), .val (.int i2), .unset, .unset, .unset, .unset] [(.int (24 : Int32)), (.ref b1), (.ref b1)])) (fun t k => XS.bipush X25.here hx rfl (hb hby at_159) k) ?_
  refine own_by (B := T25.setTop (mkF m 163 #[.val (.int i0), .val (.int i1), .val (.int i2), .unset, .unset, .unset, .unset] [(.int (55295 : Int32)), (.int (24 : Int32)), (.ref b1), (.ref b1)])) (fun t k => X25.ldcInt hx hown (mvT hZ (hw _ (List.mem_of_getElem? (i := 1) rfl))) (g := (mkF m 161 #[.val (.int i0), .val (.int i1), .val (.int i2), .unset, .unset, .unset, .unset] [(.int (24 : Int32)), (.ref b1), (.ref b1)])) rfl (hb hby at_161) _ k) ?_
  obtain ⟨cl26, Ar26, S26, H26⟩ := V_b1
  have hin26 : ¬ ((24 : Int32) < 0 ∨ cl26.slots.size ≤ ((24 : Int32)).toNatClampNeg) := own_in S26 (by decide)
  obtain ⟨T26, h26, X26, e26, W26, st26⟩ := stI X25 hx hZ e25 Ar26 (j := (24 : Int32)) hin26 (g := (mkF m 163 #[.val (.int i0), .val (.int i1), .val (.int i2), .unset, .unset, .unset, .unset] [(.int (55295 : Int32)), (.int (24 : Int32)), (.ref b1), (.ref b1)])) rfl rfl (hb hby at_163)
  replace V_b1 : own_BA Z h25 b1 .int 31 fn25 := ⟨cl26, Ar26, S26, H26⟩
  replace V_b1 : own_BA Z h26 b1 .int 31 (own_up fn25 ((24 : Int32)).toNatClampNeg (55295 : Int32)) := V_b1.same W26
  replace Zs : n0 ≤ h26.size := by rw [W26.size]; exact Zs
  have NF := Fr.snoc X26 NF g_b1
  obtain ⟨fn26, V_b1⟩ : ∃ g, own_BA Z h26 b1 .int 31 g := ⟨_, V_b1⟩
  refine own_by (B := T26.setTop (mkF m 164 #[.val (.int i0), .val (.int i1), .val (.int i2), .unset, .unset, .unset, .unset] [(.ref b1)])) (fun t k => st26 _ k) ?_
  refine own_by (B := T26.setTop (mkF m 165 #[.val (.int i0), .val (.int i1), .val (.int i2), .unset, .unset, .unset, .unset] [(.ref b1), (.ref b1)])) (fun t k => XS.dup X26.here hx rfl (hb hby at_164) rfl rfl k) ?_
  refine own_by (B := T26.setTop (mkF m 167 #[.val (.int i0), .val (.int i1), .val (.int i2), .unset, .unset, .unset, .unset] [(.int (25 : Int32)), (.ref b1), (.ref b1)])) (fun t k => XS.bipush X26.here hx rfl (hb hby at_165) k) ?_
  refine own_by (B := T26.setTop (mkF m 169 #[.val (.int i0), .val (.int i1), .val (.int i2), .unset, .unset, .unset, .unset] [(.int (63744 : Int32)), (.int (25 : Int32)), (.ref b1), (.ref b1)])) (fun t k => X26.ldcInt hx hown (mvT hZ (hw _ (List.mem_of_getElem? (i := 2) rfl))) (g := (mkF m 167 #[.val (.int i0), .val (.int i1), .val (.int i2), .unset, .unset, .unset, .unset] [(.int (25 : Int32)), (.ref b1), (.ref b1)])) rfl (hb hby at_167) _ k) ?_
  obtain ⟨cl27, Ar27, S27, H27⟩ := V_b1
  have hin27 : ¬ ((25 : Int32) < 0 ∨ cl27.slots.size ≤ ((25 : Int32)).toNatClampNeg) := own_in S27 (by decide)
  obtain ⟨T27, h27, X27, e27, W27, st27⟩ := stI X26 hx hZ e26 Ar27 (j := (25 : Int32)) hin27 (g := (mkF m 169 #[.val (.int i0), .val (.int i1), .val (.int i2), .unset, .unset, .unset, .unset] [(.int (63744 : Int32)), (.int (25 : Int32)), (.ref b1), (.ref b1)])) rfl rfl (hb hby at_169)
  replace V_b1 : own_BA Z h26 b1 .int 31 fn26 := ⟨cl27, Ar27, S27, H27⟩
  replace V_b1 : own_BA Z h27 b1 .int 31 (own_up fn26 ((25 : Int32)).toNatClampNeg (63744 : Int32)) := V_b1.same W27
  replace Zs : n0 ≤ h27.size := by rw [W27.size]; exact Zs
  have NF := Fr.snoc X27 NF g_b1
  obtain ⟨fn27, V_b1⟩ : ∃ g, own_BA Z h27 b1 .int 31 g := ⟨_, V_b1⟩
  refine own_by (B := T27.setTop (mkF m 170 #[.val (.int i0), .val (.int i1), .val (.int i2), .unset, .unset, .unset, .unset] [(.ref b1)])) (fun t k => st27 _ k) ?_
  refine own_by (B := T27.setTop (mkF m 171 #[.val (.int i0), .val (.int i1), .val (.int i2), .unset, .unset, .unset, .unset] [(.ref b1), (.ref b1)])) (fun t k => XS.dup X27.here hx rfl (hb hby at_170) rfl rfl k) ?_
  refine own_by (B := T27.setTop (mkF m 173 #[.val (.int i0), .val (.int i1), .val (.int i2), .unset, .unset, .unset, .unset] [(.int (26 : Int32)), (.ref b1), (.ref b1)])) (fun t k => XS.bipush X27.here hx rfl (hb hby at_171) k) ?_
  refine own_by (B := T27.setTop (mkF m 175 #[.val (.int i0), .val (.int i1), .val (.int i2), .unset, .unset, .unset, .unset] [(.int (64975 : Int32)), (.int (26 : Int32)), (.ref b1), (.ref b1)])) (fun t k => X27.ldcInt hx hown (mvT hZ (hw _ (List.mem_of_getElem? (i := 3) rfl))) (g := (mkF m 173 #[.val (.int i0), .val (.int i1), .val (.int i2), .unset, .unset, .unset, .unset] [(.int (26 : Int32)), (.ref b1), (.ref b1)])) rfl (hb hby at_173) _ k) ?_
  obtain ⟨cl28, Ar28, S28, H28⟩ := V_b1
  have hin28 : ¬ ((26 : Int32) < 0 ∨ cl28.slots.size ≤ ((26 : Int32)).toNatClampNeg) := own_in S28 (by decide)
  obtain ⟨T28, h28, X28, e28, W28, st28⟩ := stI X27 hx hZ e27 Ar28 (j := (26 : Int32)) hin28 (g := (mkF m 175 #[.val (.int i0), .val (.int i1), .val (.int i2), .unset, .unset, .unset, .unset] [(.int (64975 : Int32)), (.int (26 : Int32)), (.ref b1), (.ref b1)])) rfl rfl (hb hby at_175)
  replace V_b1 : own_BA Z h27 b1 .int 31 fn27 := ⟨cl28, Ar28, S28, H28⟩
  replace V_b1 : own_BA Z h28 b1 .int 31 (own_up fn27 ((26 : Int32)).toNatClampNeg (64975 : Int32)) := V_b1.same W28
  replace Zs : n0 ≤ h28.size := by rw [W28.size]; exact Zs
  have NF := Fr.snoc X28 NF g_b1
  obtain ⟨fn28, V_b1⟩ : ∃ g, own_BA Z h28 b1 .int 31 g := ⟨_, V_b1⟩
  refine own_by (B := T28.setTop (mkF m 176 #[.val (.int i0), .val (.int i1), .val (.int i2), .unset, .unset, .unset, .unset] [(.ref b1)])) (fun t k => st28 _ k) ?_
  refine own_by (B := T28.setTop (mkF m 177 #[.val (.int i0), .val (.int i1), .val (.int i2), .unset, .unset, .unset, .unset] [(.ref b1), (.ref b1)])) (fun t k => XS.dup X28.here hx rfl (hb hby at_176) rfl rfl k) ?_
  refine own_by (B := T28.setTop (mkF m 179 #[.val (.int i0), .val (.int i1), .val (.int i2), .unset, .unset, .unset, .unset] [(.int (27 : Int32)), (.ref b1), (.ref b1)])) (fun t k => XS.bipush X28.here hx rfl (hb hby at_177) k) ?_
  refine own_by (B := T28.setTop (mkF m 181 #[.val (.int i0), .val (.int i1), .val (.int i2), .unset, .unset, .unset, .unset] [(.int (65008 : Int32)), (.int (27 : Int32)), (.ref b1), (.ref b1)])) (fun t k => X28.ldcInt hx hown (mvT hZ (hw _ (List.mem_of_getElem? (i := 4) rfl))) (g := (mkF m 179 #[.val (.int i0), .val (.int i1), .val (.int i2), .unset, .unset, .unset, .unset] [(.int (27 : Int32)), (.ref b1), (.ref b1)])) rfl (hb hby at_179) _ k) ?_
  obtain ⟨cl29, Ar29, S29, H29⟩ := V_b1
  have hin29 : ¬ ((27 : Int32) < 0 ∨ cl29.slots.size ≤ ((27 : Int32)).toNatClampNeg) := own_in S29 (by decide)
  obtain ⟨T29, h29, X29, e29, W29, st29⟩ := stI X28 hx hZ e28 Ar29 (j := (27 : Int32)) hin29 (g := (mkF m 181 #[.val (.int i0), .val (.int i1), .val (.int i2), .unset, .unset, .unset, .unset] [(.int (65008 : Int32)), (.int (27 : Int32)), (.ref b1), (.ref b1)])) rfl rfl (hb hby at_181)
  replace V_b1 : own_BA Z h28 b1 .int 31 fn28 := ⟨cl29, Ar29, S29, H29⟩
  replace V_b1 : own_BA Z h29 b1 .int 31 (own_up fn28 ((27 : Int32)).toNatClampNeg (65008 : Int32)) := V_b1.same W29
  replace Zs : n0 ≤ h29.size := by rw [W29.size]; exact Zs
  have NF := Fr.snoc X29 NF g_b1
  obtain ⟨fn29, V_b1⟩ : ∃ g, own_BA Z h29 b1 .int 31 g := ⟨_, V_b1⟩
  refine own_by (B := T29.setTop (mkF m 182 #[.val (.int i0), .val (.int i1), .val (.int i2), .unset, .unset, .unset, .unset] [(.ref b1)])) (fun t k => st29 _ k) ?_
  refine own_by (B := T29.setTop (mkF m 183 #[.val (.int i0), .val (.int i1), .val (.int i2), .unset, .unset, .unset, .unset] [(.ref b1), (.ref b1)])) (fun t k => XS.dup X29.here hx rfl (hb hby at_182) rfl rfl k) ?_
  refine own_by (B := T29.setTop (mkF m 185 #[.val (.int i0), .val (.int i1), .val (.int i2), .unset, .unset, .unset, .unset] [(.int (28 : Int32)), (.ref b1), (.ref b1)])) (fun t k => XS.bipush X29.here hx rfl (hb hby at_183) k) ?_
  refine own_by (B := T29.setTop (mkF m 187 #[.val (.int i0), .val (.int i1), .val (.int i2), .unset, .unset, .unset, .unset] [(.int (65533 : Int32)), (.int (28 : Int32)), (.ref b1), (.ref b1)])) (fun t k => X29.ldcInt hx hown (mvT hZ (hw _ (List.mem_of_getElem? (i := 5) rfl))) (g := (mkF m 185 #[.val (.int i0), .val (.int i1), .val (.int i2), .unset, .unset, .unset, .unset] [(.int (28 : Int32)), (.ref b1), (.ref b1)])) rfl (hb hby at_185) _ k) ?_
  obtain ⟨cl30, Ar30, S30, H30⟩ := V_b1
  have hin30 : ¬ ((28 : Int32) < 0 ∨ cl30.slots.size ≤ ((28 : Int32)).toNatClampNeg) := own_in S30 (by decide)
  obtain ⟨T30, h30, X30, e30, W30, st30⟩ := stI X29 hx hZ e29 Ar30 (j := (28 : Int32)) hin30 (g := (mkF m 187 #[.val (.int i0), .val (.int i1), .val (.int i2), .unset, .unset, .unset, .unset] [(.int (65533 : Int32)), (.int (28 : Int32)), (.ref b1), (.ref b1)])) rfl rfl (hb hby at_187)
  replace V_b1 : own_BA Z h29 b1 .int 31 fn29 := ⟨cl30, Ar30, S30, H30⟩
  replace V_b1 : own_BA Z h30 b1 .int 31 (own_up fn29 ((28 : Int32)).toNatClampNeg (65533 : Int32)) := V_b1.same W30
  replace Zs : n0 ≤ h30.size := by rw [W30.size]; exact Zs
  have NF := Fr.snoc X30 NF g_b1
  obtain ⟨fn30, V_b1⟩ : ∃ g, own_BA Z h30 b1 .int 31 g := ⟨_, V_b1⟩
  refine own_by (B := T30.setTop (mkF m 188 #[.val (.int i0), .val (.int i1), .val (.int i2), .unset, .unset, .unset, .unset] [(.ref b1)])) (fun t k => st30 _ k) ?_
  refine own_by (B := T30.setTop (mkF m 189 #[.val (.int i0), .val (.int i1), .val (.int i2), .unset, .unset, .unset, .unset] [(.ref b1), (.ref b1)])) (fun t k => XS.dup X30.here hx rfl (hb hby at_188) rfl rfl k) ?_
  refine own_by (B := T30.setTop (mkF m 191 #[.val (.int i0), .val (.int i1), .val (.int i2), .unset, .unset, .unset, .unset] [(.int (29 : Int32)), (.ref b1), (.ref b1)])) (fun t k => XS.bipush X30.here hx rfl (hb hby at_189) k) ?_
  refine own_by (B := T30.setTop (mkF m 193 #[.val (.int i0), .val (.int i1), .val (.int i2), .unset, .unset, .unset, .unset] [(.int (65536 : Int32)), (.int (29 : Int32)), (.ref b1), (.ref b1)])) (fun t k => X30.ldcInt hx hown (mvT hZ (hw _ (List.mem_of_getElem? (i := 6) rfl))) (g := (mkF m 191 #[.val (.int i0), .val (.int i1), .val (.int i2), .unset, .unset, .unset, .unset] [(.int (29 : Int32)), (.ref b1), (.ref b1)])) rfl (hb hby at_191) _ k) ?_
  obtain ⟨cl31, Ar31, S31, H31⟩ := V_b1
  have hin31 : ¬ ((29 : Int32) < 0 ∨ cl31.slots.size ≤ ((29 : Int32)).toNatClampNeg) := own_in S31 (by decide)
  obtain ⟨T31, h31, X31, e31, W31, st31⟩ := stI X30 hx hZ e30 Ar31 (j := (29 : Int32)) hin31 (g := (mkF m 193 #[.val (.int i0), .val (.int i1), .val (.int i2), .unset, .unset, .unset, .unset] [(.int (65536 : Int32)), (.int (29 : Int32)), (.ref b1), (.ref b1)])) rfl rfl (hb hby at_193)
  replace V_b1 : own_BA Z h30 b1 .int 31 fn30 := ⟨cl31, Ar31, S31, H31⟩
  replace V_b1 : own_BA Z h31 b1 .int 31 (own_up fn30 ((29 : Int32)).toNatClampNeg (65536 : Int32)) := V_b1.same W31
  replace Zs : n0 ≤ h31.size := by rw [W31.size]; exact Zs
  have NF := Fr.snoc X31 NF g_b1
  obtain ⟨fn31, V_b1⟩ : ∃ g, own_BA Z h31 b1 .int 31 g := ⟨_, V_b1⟩
  refine own_by (B := T31.setTop (mkF m 194 #[.val (.int i0), .val (.int i1), .val (.int i2), .unset, .unset, .unset, .unset] [(.ref b1)])) (fun t k => st31 _ k) ?_
  refine own_by (B := T31.setTop (mkF m 195 #[.val (.int i0), .val (.int i1), .val (.int i2), .unset, .unset, .unset, .unset] [(.ref b1), (.ref b1)])) (fun t k => XS.dup X31.here hx rfl (hb hby at_194) rfl rfl k) ?_
  refine own_by (B := T31.setTop (mkF m 197 #[.val (.int i0), .val (.int i1), .val (.int i2), .unset, .unset, .unset, .unset] [(.int (30 : Int32)), (.ref b1), (.ref b1)])) (fun t k => XS.bipush X31.here hx rfl (hb hby at_195) k) ?_
  refine own_by (B := T31.setTop (mkF m 199 #[.val (.int i0), .val (.int i1), .val (.int i2), .unset, .unset, .unset, .unset] [(.int (983039 : Int32)), (.int (30 : Int32)), (.ref b1), (.ref b1)])) (fun t k => X31.ldcInt hx hown (mvT hZ (hw _ (List.mem_of_getElem? (i := 7) rfl))) (g := (mkF m 197 #[.val (.int i0), .val (.int i1), .val (.int i2), .unset, .unset, .unset, .unset] [(.int (30 : Int32)), (.ref b1), (.ref b1)])) rfl (hb hby at_197) _ k) ?_
  obtain ⟨cl32, Ar32, S32, H32⟩ := V_b1
  have hin32 : ¬ ((30 : Int32) < 0 ∨ cl32.slots.size ≤ ((30 : Int32)).toNatClampNeg) := own_in S32 (by decide)
  obtain ⟨T32, h32, X32, e32, W32, st32⟩ := stI X31 hx hZ e31 Ar32 (j := (30 : Int32)) hin32 (g := (mkF m 199 #[.val (.int i0), .val (.int i1), .val (.int i2), .unset, .unset, .unset, .unset] [(.int (983039 : Int32)), (.int (30 : Int32)), (.ref b1), (.ref b1)])) rfl rfl (hb hby at_199)
  replace V_b1 : own_BA Z h31 b1 .int 31 fn31 := ⟨cl32, Ar32, S32, H32⟩
  replace V_b1 : own_BA Z h32 b1 .int 31 (own_up fn31 ((30 : Int32)).toNatClampNeg (983039 : Int32)) := V_b1.same W32
  replace Zs : n0 ≤ h32.size := by rw [W32.size]; exact Zs
  have NF := Fr.snoc X32 NF g_b1
  obtain ⟨fn32, V_b1⟩ : ∃ g, own_BA Z h32 b1 .int 31 g := ⟨_, V_b1⟩
  refine own_by (B := T32.setTop (mkF m 200 #[.val (.int i0), .val (.int i1), .val (.int i2), .unset, .unset, .unset, .unset] [(.ref b1)])) (fun t k => st32 _ k) ?_
  refine own_by (B := T32.setTop (mkF m 201 #[.val (.int i0), .val (.int i1), .val (.int i2), .val (.ref b1), .unset, .unset, .unset] [])) (fun t k => XS.astoreN X32.here hx rfl (hb hby at_200) rfl rfl (l' := #[.val (.int i0), .val (.int i1), .val (.int i2), .val (.ref b1), .unset, .unset, .unset]) rfl k) ?_
  refine own_by (B := T32.setTop (mkF m 202 #[.val (.int i0), .val (.int i1), .val (.int i2), .val (.ref b1), .unset, .unset, .unset] [(.ref b1)])) (fun t k => XS.aloadN X32.here hx rfl (hb hby at_201) rfl rfl k) ?_
  refine own_by (B := T32.setTop (mkF m 203 #[.val (.int i0), .val (.int i1), .val (.int i2), .val (.ref b1), .unset, .unset, .unset] [(.int i1), (.ref b1)])) (fun t k => XS.iloadN X32.here hx rfl (hb hby at_202) rfl k) ?_
  refine own_by (B := T32.setTop (mkF m 205 #[.val (.int i0), .val (.int i1), .val (.int i2), .val (.ref b1), .unset, .unset, .unset] [(.int (2147483647 : Int32)), (.int i1), (.ref b1)])) (fun t k => X32.ldcInt hx hown (mvT hZ (hw _ (List.mem_of_getElem? (i := 8) rfl))) (g := (mkF m 203 #[.val (.int i0), .val (.int i1), .val (.int i2), .val (.ref b1), .unset, .unset, .unset] [(.int i1), (.ref b1)])) rfl (hb hby at_203) _ k) ?_
  refine own_by (B := T32.setTop (mkF m 206 #[.val (.int i0), .val (.int i1), .val (.int i2), .val (.ref b1), .unset, .unset, .unset] [(.int (i1 &&& (2147483647 : Int32))), (.ref b1)])) (fun t k => XS.iand X32.here hx rfl (hb hby at_205) rfl k) ?_
  refine own_by (B := T32.setTop (mkF m 207 #[.val (.int i0), .val (.int i1), .val (.int i2), .val (.ref b1), .unset, .unset, .unset] [(.ref b1), (.int (i1 &&& (2147483647 : Int32))), (.ref b1)])) (fun t k => XS.aloadN X32.here hx rfl (hb hby at_206) rfl rfl k) ?_
  obtain ⟨cl33, Ar33, S33, H33⟩ := V_b1
  have hle33 : cl33.slots.size.toInt32 = (31 : Int32) := by rw [S33]; rfl
  refine own_by (B := T32.setTop (mkF m 208 #[.val (.int i0), .val (.int i1), .val (.int i2), .val (.ref b1), .unset, .unset, .unset] [(.int (31 : Int32)), (.int (i1 &&& (2147483647 : Int32))), (.ref b1)])) (fun t k => X32.arraylength hx (by rw [e32]; exact Ar33.1) (State.isArrayOf_alike hZ.alike Ar33.2.1) (g := (mkF m 207 #[.val (.int i0), .val (.int i1), .val (.int i2), .val (.ref b1), .unset, .unset, .unset] [(.ref b1), (.int (i1 &&& (2147483647 : Int32))), (.ref b1)])) rfl rfl (hb hby at_207) _ (by rw [hle33]; exact k)) ?_
  have V_b1 : own_BA Z h32 b1 .int 31 fn32 := ⟨cl33, Ar33, S33, H33⟩
  refine own_by (B := T32.setTop (mkF m 209 #[.val (.int i0), .val (.int i1), .val (.int i2), .val (.ref b1), .unset, .unset, .unset] [(.int ((i1 &&& (2147483647 : Int32)) % (31 : Int32))), (.ref b1)])) (fun t k => iremM X32 hx rfl (hb hby at_208) rfl (by decide) k) ?_
  obtain ⟨cl34, Ar34, S34, H34⟩ := V_b1
  have hin34 : ¬ (((i1 &&& (2147483647 : Int32)) % (31 : Int32)) < 0 ∨ cl34.slots.size ≤ (((i1 &&& (2147483647 : Int32)) % (31 : Int32))).toNatClampNeg) := own_in S34 (own_idx i1)
  have hat34 : cl34.slots[(((i1 &&& (2147483647 : Int32)) % (31 : Int32))).toNatClampNeg]? = some (.int (fn32 (((i1 &&& (2147483647 : Int32)) % (31 : Int32))).toNatClampNeg)) := H34 _ (own_lt S34 hin34)
  refine own_by (B := T32.setTop (mkF m 210 #[.val (.int i0), .val (.int i1), .val (.int i2), .val (.ref b1), .unset, .unset, .unset] [(.int (fn32 (((i1 &&& (2147483647 : Int32)) % (31 : Int32))).toNatClampNeg))])) (fun t k => X32.iaload hx (j := ((i1 &&& (2147483647 : Int32)) % (31 : Int32))) (v := (.int (fn32 (((i1 &&& (2147483647 : Int32)) % (31 : Int32))).toNatClampNeg))) (by rw [e32]; exact Ar34.1) (State.isArrayOf_alike hZ.alike Ar34.2.1) Ar34.2.2 hin34 hat34 (g := (mkF m 209 #[.val (.int i0), .val (.int i1), .val (.int i2), .val (.ref b1), .unset, .unset, .unset] [(.int ((i1 &&& (2147483647 : Int32)) % (31 : Int32))), (.ref b1)])) rfl rfl (hb hby at_209) _ k) ?_
  have V_b1 : own_BA Z h32 b1 .int 31 fn32 := ⟨cl34, Ar34, S34, H34⟩
  refine own_by (B := T32.setTop (mkF m 211 #[.val (.int i0), .val (.int i1), .val (.int i2), .val (.ref b1), .unset, .unset, .unset] [(.int i2), (.int (fn32 (((i1 &&& (2147483647 : Int32)) % (31 : Int32))).toNatClampNeg))])) (fun t k => XS.iloadN X32.here hx rfl (hb hby at_210) rfl k) ?_
  refine own_by (B := T32.setTop (mkF m 213 #[.val (.int i0), .val (.int i1), .val (.int i2), .val (.ref b1), .unset, .unset, .unset] [(.int (2147483647 : Int32)), (.int i2), (.int (fn32 (((i1 &&& (2147483647 : Int32)) % (31 : Int32))).toNatClampNeg))])) (fun t k => X32.ldcInt hx hown (mvT hZ (hw _ (List.mem_of_getElem? (i := 8) rfl))) (g := (mkF m 211 #[.val (.int i0), .val (.int i1), .val (.int i2), .val (.ref b1), .unset, .unset, .unset] [(.int i2), (.int (fn32 (((i1 &&& (2147483647 : Int32)) % (31 : Int32))).toNatClampNeg))])) rfl (hb hby at_211) _ k) ?_
  refine own_by (B := T32.setTop (mkF m 214 #[.val (.int i0), .val (.int i1), .val (.int i2), .val (.ref b1), .unset, .unset, .unset] [(.int (i2 &&& (2147483647 : Int32))), (.int (fn32 (((i1 &&& (2147483647 : Int32)) % (31 : Int32))).toNatClampNeg))])) (fun t k => XS.iand X32.here hx rfl (hb hby at_213) rfl k) ?_
  refine own_by (B := T32.setTop (mkF m 215 #[.val (.int i0), .val (.int i1), .val (.int i2), .val (.ref b1), .unset, .unset, .unset] [(.int (5 : Int32)), (.int (i2 &&& (2147483647 : Int32))), (.int (fn32 (((i1 &&& (2147483647 : Int32)) % (31 : Int32))).toNatClampNeg))])) (fun t k => XS.iconst X32.here hx rfl (hb hby at_214) k) ?_
  refine own_by (B := T32.setTop (mkF m 216 #[.val (.int i0), .val (.int i1), .val (.int i2), .val (.ref b1), .unset, .unset, .unset] [(.int ((i2 &&& (2147483647 : Int32)) % (5 : Int32))), (.int (fn32 (((i1 &&& (2147483647 : Int32)) % (31 : Int32))).toNatClampNeg))])) (fun t k => iremM X32 hx rfl (hb hby at_215) rfl (by decide) k) ?_
  refine own_by (B := T32.setTop (mkF m 217 #[.val (.int i0), .val (.int i1), .val (.int i2), .val (.ref b1), .unset, .unset, .unset] [(.int ((fn32 (((i1 &&& (2147483647 : Int32)) % (31 : Int32))).toNatClampNeg) + ((i2 &&& (2147483647 : Int32)) % (5 : Int32))))])) (fun t k => XS.iadd X32.here hx rfl (hb hby at_216) rfl k) ?_
  refine own_by (B := T32.setTop (mkF m 218 #[.val (.int i0), .val (.int i1), .val (.int i2), .val (.ref b1), .unset, .unset, .unset] [(.int (2 : Int32)), (.int ((fn32 (((i1 &&& (2147483647 : Int32)) % (31 : Int32))).toNatClampNeg) + ((i2 &&& (2147483647 : Int32)) % (5 : Int32))))])) (fun t k => XS.iconst X32.here hx rfl (hb hby at_217) k) ?_
  refine own_by (B := T32.setTop (mkF m 219 #[.val (.int i0), .val (.int i1), .val (.int i2), .val (.ref b1), .unset, .unset, .unset] [(.int (((fn32 (((i1 &&& (2147483647 : Int32)) % (31 : Int32))).toNatClampNeg) + ((i2 &&& (2147483647 : Int32)) % (5 : Int32))) - (2 : Int32)))])) (fun t k => XS.isub X32.here hx rfl (hb hby at_218) rfl k) ?_
  refine own_by (B := T32.setTop (mkF m 221 #[.val (.int i0), .val (.int i1), .val (.int i2), .val (.ref b1), .val (.int (((fn32 (((i1 &&& (2147483647 : Int32)) % (31 : Int32))).toNatClampNeg) + ((i2 &&& (2147483647 : Int32)) % (5 : Int32))) - (2 : Int32))), .unset, .unset] [])) (fun t k => XS.istore X32.here hx rfl (hb hby at_219) rfl (l' := #[.val (.int i0), .val (.int i1), .val (.int i2), .val (.ref b1), .val (.int (((fn32 (((i1 &&& (2147483647 : Int32)) % (31 : Int32))).toNatClampNeg) + ((i2 &&& (2147483647 : Int32)) % (5 : Int32))) - (2 : Int32))), .unset, .unset]) rfl k) ?_
  obtain ⟨ee, hee⟩ : ∃ z : Int32, z = (((fn32 (((i1 &&& (2147483647 : Int32)) % (31 : Int32))).toNatClampNeg) + ((i2 &&& (2147483647 : Int32)) % (5 : Int32))) - (2 : Int32)) := ⟨_, rfl⟩
  rw [← hee]
  refine own_by (B := T32.setTop (mkF m 222 #[.val (.int i0), .val (.int i1), .val (.int i2), .val (.ref b1), .val (.int ee), .unset, .unset] [(.int i0)])) (fun t k => XS.iloadN X32.here hx rfl (hb hby at_221) rfl k) ?_
  obtain ⟨lo35, X32, NF⟩ : ∃ L, Stand p l e room_1 s m #[(.int i0), (.int i1), (.int i2)] below meth c T32 L 1 31 ∧ Fr n0 L := ⟨_, X32, NF⟩
  obtain ⟨v36, _, ⟨T36, L36, c36, n36⟩, -, X36, ⟨Lc36, hQ36, l36, y36, z36⟩, st36⟩ := Jvm.LawKit.callS X32 hx (y := (⟨"com/example/siegelbund/siegelbund/core/xml/XmlChars", "isNcNameStartChar", "(I)Z"⟩ : MethodName)) hown (mvT hZ (hw _ (List.mem_of_getElem? (i := 9) rfl))) (mvT hZ (hw _ (List.mem_of_getElem? (i := 10) rfl))) (mvT hZ (hw _ (List.mem_of_getElem? (i := 11) rfl))) (mvT hZ (hw _ (List.mem_of_getElem? (i := 12) rfl))) (by decide) (backOf (W := 0) (rm1 l Z a0 hw [] i0  h32 ) hZ (hw _ (List.mem_of_getElem? (i := 12) rfl)) (hw _ (List.mem_of_getElem? (i := 11) rfl)) (by decide) (by decide)) (g := (mkF m 222 #[.val (.int i0), .val (.int i1), .val (.int i2), .val (.ref b1), .val (.int ee), .unset, .unset] [(.int i0)])) rfl (by rw [hml]; rfl) (argsL := [(.int i0)]) (rest := []) (lenOf pd_0 rfl) rfl (by show 2 * 0 + _ ≤ _; exact Nat.le_of_eq rfl) (hb hby at_222) (fun _ _ => ⟨rfl, e32, (by decide : 1 + 0 ≤ _), (by decide : 31 + 0 ≤ _)⟩)
  dsimp only [Pt.U, Pt.locs, Pt.cells, Pt.slots] at X36 l36 y36 z36 st36 hQ36
  subst l36 y36 z36
  obtain ⟨rfl, rfl, e36⟩ := hQ36
  have NF := Fr.app NF (Fr.nil n0)
  refine own_by (B := T36.setTop (mkF m 225 #[.val (.int i0), .val (.int i1), .val (.int i2), .val (.ref b1), .val (.int ee), .unset, .unset] [(.int (f1_0 i0))])) (fun t k => st36 _ k) ?_
  refine own_by (B := T36.setTop (mkF m 226 #[.val (.int i0), .val (.int i1), .val (.int i2), .val (.ref b1), .val (.int ee), .unset, .unset] [(.int i0), (.int (f1_0 i0))])) (fun t k => XS.iloadN X36.here hx rfl (hb hby at_225) rfl k) ?_
  obtain ⟨v37, _, ⟨T37, L37, c37, n37⟩, -, X37, ⟨Lc37, hQ37, l37, y37, z37⟩, st37⟩ := Jvm.LawKit.callS X36 hx (y := (⟨"com/example/siegelbund/siegelbund/core/xml/XmlCharsIsNcNameStartCharPinLaw", "ref", "(I)Z"⟩ : MethodName)) hown (mvT hZ (hw _ (List.mem_of_getElem? (i := 16) rfl))) (mvT hZ (hw _ (List.mem_of_getElem? (i := 17) rfl))) (mvT hZ (hw _ (List.mem_of_getElem? (i := 18) rfl))) (mvT hZ (hw _ (List.mem_of_getElem? (i := 19) rfl))) (by decide) (backOf (W := 1) (rm2 l Z a0 hw [] i0  h32 ) hZ (hw _ (List.mem_of_getElem? (i := 19) rfl)) (hw _ (List.mem_of_getElem? (i := 18) rfl)) (by decide) (by decide)) (g := (mkF m 226 #[.val (.int i0), .val (.int i1), .val (.int i2), .val (.ref b1), .val (.int ee), .unset, .unset] [(.int i0), (.int (f1_0 i0))])) rfl (by rw [hml]; rfl) (argsL := [(.int i0)]) (rest := [(.int (f1_0 i0))]) (lenOf pd_0 rfl) rfl (by show 2 * 0 + _ ≤ _; exact Nat.le_of_eq rfl) (hb hby at_226) (fun _ _ => ⟨rfl, e36, (by decide : 1 + 0 ≤ _), (by decide : 31 + 0 ≤ _)⟩)
  dsimp only [Pt.U, Pt.locs, Pt.cells, Pt.slots] at X37 l37 y37 z37 st37 hQ37
  subst l37 y37 z37
  obtain ⟨rfl, rfl, e37⟩ := hQ37
  have NF := Fr.app NF (Fr.nil n0)
  refine own_by (B := T37.setTop (mkF m 229 #[.val (.int i0), .val (.int i1), .val (.int i2), .val (.ref b1), .val (.int ee), .unset, .unset] [(.int (f2_0 i0)), (.int (f1_0 i0))])) (fun t k => st37 _ k) ?_
  have hc38 : (f1_0 i0) = (f2_0 i0) := own_same i0
  refine own_by (B := T37.setTop (mkF m 232 #[.val (.int i0), .val (.int i1), .val (.int i2), .val (.ref b1), .val (.int ee), .unset, .unset] [])) (fun t k => XS.icmpNo X37.here hx rfl (hb hby at_229) rfl (teq hc38).2 k) ?_
  refine own_by (B := T37.setTop (mkF m 233 #[.val (.int i0), .val (.int i1), .val (.int i2), .val (.ref b1), .val (.int ee), .unset, .unset] [(.int (1 : Int32))])) (fun t k => XS.iconst X37.here hx rfl (hb hby at_232) k) ?_
  refine own_by (B := T37.setTop (mkF m 237 #[.val (.int i0), .val (.int i1), .val (.int i2), .val (.ref b1), .val (.int ee), .unset, .unset] [(.int (1 : Int32))])) (fun t k => XS.goto X37.here hx rfl (pc0 := 233) (pc' := 237) rfl (hb hby at_233) (by decide) (by decide) k) ?_
  refine own_by (B := T37.setTop (mkF m 239 #[.val (.int i0), .val (.int i1), .val (.int i2), .val (.ref b1), .val (.int ee), .val (.int (1 : Int32)), .unset] [])) (fun t k => XS.istore X37.here hx rfl (hb hby at_237) rfl (l' := #[.val (.int i0), .val (.int i1), .val (.int i2), .val (.ref b1), .val (.int ee), .val (.int (1 : Int32)), .unset]) rfl k) ?_
  refine own_by (B := T37.setTop (mkF m 241 #[.val (.int i0), .val (.int i1), .val (.int i2), .val (.ref b1), .val (.int ee), .val (.int (1 : Int32)), .unset] [(.int ee)])) (fun t k => XS.iload X37.here hx rfl (hb hby at_239) rfl k) ?_
  obtain ⟨v39, _, ⟨T39, L39, c39, n39⟩, -, X39, ⟨Lc39, hQ39, l39, y39, z39⟩, st39⟩ := Jvm.LawKit.callS X37 hx (y := (⟨"com/example/siegelbund/siegelbund/core/xml/XmlChars", "isNcNameStartChar", "(I)Z"⟩ : MethodName)) hown (mvT hZ (hw _ (List.mem_of_getElem? (i := 9) rfl))) (mvT hZ (hw _ (List.mem_of_getElem? (i := 10) rfl))) (mvT hZ (hw _ (List.mem_of_getElem? (i := 11) rfl))) (mvT hZ (hw _ (List.mem_of_getElem? (i := 12) rfl))) (by decide) (backOf (W := 0) (rm1 l Z a0 hw [] ee  h32 ) hZ (hw _ (List.mem_of_getElem? (i := 12) rfl)) (hw _ (List.mem_of_getElem? (i := 11) rfl)) (by decide) (by decide)) (g := (mkF m 241 #[.val (.int i0), .val (.int i1), .val (.int i2), .val (.ref b1), .val (.int ee), .val (.int (1 : Int32)), .unset] [(.int ee)])) rfl (by rw [hml]; rfl) (argsL := [(.int ee)]) (rest := []) (lenOf pd_0 rfl) rfl (by show 2 * 0 + _ ≤ _; exact Nat.le_of_eq rfl) (hb hby at_241) (fun _ _ => ⟨rfl, e37, (by decide : 1 + 0 ≤ _), (by decide : 31 + 0 ≤ _)⟩)
  dsimp only [Pt.U, Pt.locs, Pt.cells, Pt.slots] at X39 l39 y39 z39 st39 hQ39
  subst l39 y39 z39
  obtain ⟨rfl, rfl, e39⟩ := hQ39
  have NF := Fr.app NF (Fr.nil n0)
  refine own_by (B := T39.setTop (mkF m 244 #[.val (.int i0), .val (.int i1), .val (.int i2), .val (.ref b1), .val (.int ee), .val (.int (1 : Int32)), .unset] [(.int (f1_0 ee))])) (fun t k => st39 _ k) ?_
  refine own_by (B := T39.setTop (mkF m 246 #[.val (.int i0), .val (.int i1), .val (.int i2), .val (.ref b1), .val (.int ee), .val (.int (1 : Int32)), .unset] [(.int ee), (.int (f1_0 ee))])) (fun t k => XS.iload X39.here hx rfl (hb hby at_244) rfl k) ?_
  obtain ⟨v40, _, ⟨T40, L40, c40, n40⟩, -, X40, ⟨Lc40, hQ40, l40, y40, z40⟩, st40⟩ := Jvm.LawKit.callS X39 hx (y := (⟨"com/example/siegelbund/siegelbund/core/xml/XmlCharsIsNcNameStartCharPinLaw", "ref", "(I)Z"⟩ : MethodName)) hown (mvT hZ (hw _ (List.mem_of_getElem? (i := 16) rfl))) (mvT hZ (hw _ (List.mem_of_getElem? (i := 17) rfl))) (mvT hZ (hw _ (List.mem_of_getElem? (i := 18) rfl))) (mvT hZ (hw _ (List.mem_of_getElem? (i := 19) rfl))) (by decide) (backOf (W := 1) (rm2 l Z a0 hw [] ee  h32 ) hZ (hw _ (List.mem_of_getElem? (i := 19) rfl)) (hw _ (List.mem_of_getElem? (i := 18) rfl)) (by decide) (by decide)) (g := (mkF m 246 #[.val (.int i0), .val (.int i1), .val (.int i2), .val (.ref b1), .val (.int ee), .val (.int (1 : Int32)), .unset] [(.int ee), (.int (f1_0 ee))])) rfl (by rw [hml]; rfl) (argsL := [(.int ee)]) (rest := [(.int (f1_0 ee))]) (lenOf pd_0 rfl) rfl (by show 2 * 0 + _ ≤ _; exact Nat.le_of_eq rfl) (hb hby at_246) (fun _ _ => ⟨rfl, e39, (by decide : 1 + 0 ≤ _), (by decide : 31 + 0 ≤ _)⟩)
  dsimp only [Pt.U, Pt.locs, Pt.cells, Pt.slots] at X40 l40 y40 z40 st40 hQ40
  subst l40 y40 z40
  obtain ⟨rfl, rfl, e40⟩ := hQ40
  have NF := Fr.app NF (Fr.nil n0)
  refine own_by (B := T40.setTop (mkF m 249 #[.val (.int i0), .val (.int i1), .val (.int i2), .val (.ref b1), .val (.int ee), .val (.int (1 : Int32)), .unset] [(.int (f2_0 ee)), (.int (f1_0 ee))])) (fun t k => st40 _ k) ?_
  have hc41 : (f1_0 ee) = (f2_0 ee) := own_same ee
  refine own_by (B := T40.setTop (mkF m 252 #[.val (.int i0), .val (.int i1), .val (.int i2), .val (.ref b1), .val (.int ee), .val (.int (1 : Int32)), .unset] [])) (fun t k => XS.icmpNo X40.here hx rfl (hb hby at_249) rfl (teq hc41).2 k) ?_
  refine own_by (B := T40.setTop (mkF m 253 #[.val (.int i0), .val (.int i1), .val (.int i2), .val (.ref b1), .val (.int ee), .val (.int (1 : Int32)), .unset] [(.int (1 : Int32))])) (fun t k => XS.iconst X40.here hx rfl (hb hby at_252) k) ?_
  refine own_by (B := T40.setTop (mkF m 257 #[.val (.int i0), .val (.int i1), .val (.int i2), .val (.ref b1), .val (.int ee), .val (.int (1 : Int32)), .unset] [(.int (1 : Int32))])) (fun t k => XS.goto X40.here hx rfl (pc0 := 253) (pc' := 257) rfl (hb hby at_253) (by decide) (by decide) k) ?_
  refine own_by (B := T40.setTop (mkF m 259 #[.val (.int i0), .val (.int i1), .val (.int i2), .val (.ref b1), .val (.int ee), .val (.int (1 : Int32)), .val (.int (1 : Int32))] [])) (fun t k => XS.istore X40.here hx rfl (hb hby at_257) rfl (l' := #[.val (.int i0), .val (.int i1), .val (.int i2), .val (.ref b1), .val (.int ee), .val (.int (1 : Int32)), .val (.int (1 : Int32))]) rfl k) ?_
  refine own_by (B := T40.setTop (mkF m 261 #[.val (.int i0), .val (.int i1), .val (.int i2), .val (.ref b1), .val (.int ee), .val (.int (1 : Int32)), .val (.int (1 : Int32))] [(.int (1 : Int32))])) (fun t k => XS.iload X40.here hx rfl (hb hby at_259) rfl k) ?_
  have hc42 : ¬ ((1 : Int32) = (0 : Int32)) := by decide
  refine own_by (B := T40.setTop (mkF m 264 #[.val (.int i0), .val (.int i1), .val (.int i2), .val (.ref b1), .val (.int ee), .val (.int (1 : Int32)), .val (.int (1 : Int32))] [])) (fun t k => XS.ifNo X40.here hx rfl (hb hby at_261) rfl ((if0 _ _).trans (feq hc42).1) k) ?_
  refine own_by (B := T40.setTop (mkF m 266 #[.val (.int i0), .val (.int i1), .val (.int i2), .val (.ref b1), .val (.int ee), .val (.int (1 : Int32)), .val (.int (1 : Int32))] [(.int (1 : Int32))])) (fun t k => XS.iload X40.here hx rfl (hb hby at_264) rfl k) ?_
  have hc43 : ¬ ((1 : Int32) = (0 : Int32)) := by decide
  refine own_by (B := T40.setTop (mkF m 269 #[.val (.int i0), .val (.int i1), .val (.int i2), .val (.ref b1), .val (.int ee), .val (.int (1 : Int32)), .val (.int (1 : Int32))] [])) (fun t k => XS.ifNo X40.here hx rfl (hb hby at_266) rfl ((if0 _ _).trans (feq hc43).1) k) ?_
  refine own_by (B := T40.setTop (mkF m 270 #[.val (.int i0), .val (.int i1), .val (.int i2), .val (.ref b1), .val (.int ee), .val (.int (1 : Int32)), .val (.int (1 : Int32))] [(.int (1 : Int32))])) (fun t k => XS.iconst X40.here hx rfl (hb hby at_269) k) ?_
  refine own_by (B := T40.setTop (mkF m 274 #[.val (.int i0), .val (.int i1), .val (.int i2), .val (.ref b1), .val (.int ee), .val (.int (1 : Int32)), .val (.int (1 : Int32))] [(.int (1 : Int32))])) (fun t k => XS.goto X40.here hx rfl (pc0 := 270) (pc' := 274) rfl (hb hby at_270) (by decide) (by decide) k) ?_
  exact own_retN (t := .boolean) (by simp) X40 hx hlk hret (z' := (1 : Int32)) (by decide) (hb hby at_274) ⟨rfl, NF⟩ (by decide) (by decide)
set_option maxRecDepth 65536 in
set_option maxHeartbeats 40000000 in
theorem comes_1 {Post : Tables → Env → Array Value → State → Outcome → State → Prop} (hpost : ∀ tb e args s v u, (limb_1_1.after args s (.returned v) u = true ∧ limb_1_2.after args s (.returned v) u = true ∧ True) → FrameEnd s (.returned v) u (Jvm.fieldLocs frame_1_writes args s ++ Jvm.arrayLocs frame_1_arrays args s ++ Jvm.staticLocs frame_1_statics s) 16 128 → Post tb e args s (.returned v) u) :
    ArmFor flags0 classFile x code maxLocals ret World_1 tables_1 room_1 Calls_1 rest_1 Pre_1 Post := by
  intro l hfl _ _ p e ha hc hk s m args below hf hA hF happ hP
  obtain ⟨hcalls, hrest, hpre⟩ := hP
  obtain ⟨-, -, -, hnamed, -, -, -, hat⟩ := (Spec.applies_iff hf).mp happ
  obtain ⟨hg, hn⟩ := and_e (Cond.before_iff.mp (show (Jvm.Cond.and given_1 narrow_1).before args s = true from hpre))
  obtain ⟨gg1, gg2⟩ := and_e hg
  obtain ⟨gg3, gg4⟩ := and_e gg2
  obtain ⟨gg5, gg6⟩ := and_e gg4
  obtain ⟨w0, w1, w2, rfl⟩ : ∃ w0 w1 w2 : Value, args = #[w0, w1, w2] := by
    have hs : args.size = 3 := by simpa [Cond.value, given_1] using gg1
    obtain ⟨L⟩ := args
    match L, hs with
    | [w0, w1, w2], _ => exact ⟨w0, w1, w2, rfl⟩
  have hw := fun d (hd : d ∈ tables_1) => atoms_spec (ws := Jvm.Cond.code x code maxLocals ret :: tables_1) hat d (List.mem_cons_of_mem _ hd)
  obtain ⟨i0, ei0⟩ := is_v gg3
  obtain rfl : w0 = (.int i0) := Option.some.inj ei0
  obtain ⟨i1, ei1⟩ := is_v gg5
  obtain rfl : w1 = (.int i1) := Option.some.inj ei1
  obtain ⟨i2, ei2⟩ := is_v gg6
  obtain rfl : w2 = (.int i2) := Option.some.inj ei2
  obtain ⟨n, o, h1, h2, h3, _, L, rfl, ⟨rfl, N⟩, hq⟩ := rm0 l s _ hw tables_1 i0 i1 i2 s.heap s.heap.size (Nat.le_refl _) p e ha hc hk s m _ below hf ((Spec.applies_iff_loose hf).mp happ).1 ⟨rfl, State.Warmed39.refl s, rfl⟩ trivial
  refine ⟨n, _, h1, h2, h3, hpost _ _ _ _ _ _ ⟨Cond.after_iff.mpr rfl, Cond.after_iff.mpr (eq_i res_at (Term.int_eval (1)) rfl), trivial⟩ ⟨hq.1, hq.2.1, (hq.2.2.sift fun y hy => Or.inr (N y hy)).mono (by decide) (by decide)⟩⟩
theorem main_1_1 : Claimed_1_1 := comes_1 fun _ _ _ _ _ _ h hF => ⟨h.1, hF⟩
theorem main_1_2 : Claimed_1_2 := comes_1 fun _ _ _ _ _ _ h hF => ⟨h.2.1, hF⟩
end Jvm.Pilot.@@N@@
namespace Jvm.Pilot.@@N@@
open Jvm Jvm.ClassFile Sem Op Lib Jvm.Free Jvm.Stand Jvm.Pilot.@@N@@.Jvm.D
/-! MADE BY PROGRAM (witnessworld.py) out of the Statement's table words and the real class files: 9 classes; the members and pool entries that the words name. The judged class is class 1, her method 2. -/
namespace start1
open Jvm.ClassFile
def u (s : String) : CpInfo := .utf8 (stringToUtf16 s)
/-- a pool by its gaps: so many unusable entries, then the entry; so many at the end -/
def gap : Nat → List CpInfo → List CpInfo
  | 0, r => r
  | n + 1, r => .unusable :: gap n r
def poolList (es : List (Nat × CpInfo)) (last : Nat) : List CpInfo := es.foldr (fun e r => gap e.1 (e.2 :: r)) (gap last [])
def pool (es : List (Nat × CpInfo)) (last : Nat) : Array CpInfo := ⟨poolList es last⟩
def fileOf (pool : Array CpInfo) (this : Nat) (attrs : Array Attribute := #[]) (ms : Array MethodInfo := #[]) (fl : Nat := 33) (sup : Nat := 0) (ifs : Array Nat := #[]) (fds : Array FieldInfo := #[]) : ClassFile where
  minorVersion := 0
  majorVersion := 65
  constantPool := pool
  accessFlags := fl
  thisClass := this
  superClass := sup
  interfaces := ifs
  fields := fds
  methods := ms
  attributes := attrs
def plain (name : String) (sup : Option ClassId) : Class where
  name := name
  kind := .ordinary
  loader := none
  accessFlags := 33
  super := sup
  interfaces := #[]
  cf := none
  fields := #[]
  methods := #[]
  instanceTypes := #[]
  staticTypes := #[]
  resolved := #[]
  callSites := []
  init := .initialized
  statics := none
  mirror := none

def pool0 : Array CpInfo := pool [(5, u "<init>"), (0, u "()V"), (1, .class_ 10), (1, u "java/lang/Object")] 113

def k0m0 : Method := { name := "<init>", desc := "()V", sig := { parameters := [], returnType := none }, accessFlags := 1, code := none }
/-- java/lang/Object -/
def k0 : Class := { plain "java/lang/Object" none with
  accessFlags := 33
  interfaces := #[]
  cf := some (fileOf pool0 8 #[] #[{ accessFlags := 1, nameIndex := 5, descriptorIndex := 6, attributes := #[] }] 33 0 #[] #[])
  fields := #[]
  methods := #[k0m0]
  instanceTypes := #[]
  staticTypes := #[]
  resolved := Array.replicate 124 none
  statics := none }

def pool1 : Array CpInfo := pool [(2, .class_ 4), (1, u "java/lang/Object"), (0, u "<init>"), (0, u "()V"), (0, .integer 983039), (0, .integer 55296), (0, .integer 63743), (0, .integer 64976), (0, .integer 65007), (0, .integer 65534), (0, .integer 65535), (0, .integer 55295), (0, .integer 63744), (0, .integer 64975), (0, .integer 65008), (0, .integer 65533), (0, .integer 65536), (0, .integer 2147483647), (0, .methodref 22 23), (0, .class_ 24), (0, .nameAndType 25 26), (0, u "com/example/siegelbund/siegelbund/core/xml/XmlChars"), (0, u "isNcNameStartChar"), (0, u "(I)Z"), (0, .methodref 28 29), (0, .class_ 30), (0, .nameAndType 31 26), (0, u "com/example/siegelbund/siegelbund/core/xml/XmlCharsIsNcNameStartCharPinLaw"), (0, u "ref"), (3, u "law"), (0, u "(III)Z")] 4

def k1m0 : Method := { name := "<init>", desc := "()V", sig := { parameters := [], returnType := none }, accessFlags := 2, code := none }
def k1c1 : Code := { maxStack := 2, maxLocals := 1, code := method_2_code, exceptionTable := #[], attributes := #[] }
def k1m1 : Method := { name := "ref", desc := "(I)Z", sig := { parameters := [.int], returnType := some .boolean }, accessFlags := 10, code := some k1c1 }
def k1c2 : Code := { maxStack := 4, maxLocals := 7, code := code, exceptionTable := #[], attributes := #[] }
def k1m2 : Method := { name := "law", desc := "(III)Z", sig := { parameters := [.int, .int, .int], returnType := some .boolean }, accessFlags := 9, code := some k1c2 }
/-- com/example/siegelbund/siegelbund/core/xml/XmlCharsIsNcNameStartCharPinLaw -/
def k1 : Class := { plain "com/example/siegelbund/siegelbund/core/xml/XmlCharsIsNcNameStartCharPinLaw" (some 0) with
  accessFlags := 49
  interfaces := #[]
  cf := some (fileOf pool1 28 #[] #[{ accessFlags := 2, nameIndex := 5, descriptorIndex := 6, attributes := #[] }, { accessFlags := 10, nameIndex := 31, descriptorIndex := 26, attributes := #[] }, { accessFlags := 9, nameIndex := 35, descriptorIndex := 36, attributes := #[] }] 49 2 #[] #[])
  fields := #[]
  methods := #[k1m0, k1m1, k1m2]
  instanceTypes := #[]
  staticTypes := #[]
  resolved := Array.replicate 41 none
  statics := none }

def pool2 : Array CpInfo := pool [(2, .class_ 4), (1, u "java/lang/Object"), (0, u "<init>"), (0, u "()V"), (11, .class_ 20), (1, u "com/example/siegelbund/siegelbund/core/xml/XmlChars"), (2, .integer 55295), (0, .integer 63744), (0, .integer 64975), (0, .integer 65008), (0, .integer 65533), (0, .integer 65536), (0, .integer 983039), (2, u "isNcNameStartChar"), (0, u "(I)Z")] 7

def k2m0 : Method := { name := "<init>", desc := "()V", sig := { parameters := [], returnType := none }, accessFlags := 2, code := none }
def k2c1 : Code := { maxStack := 2, maxLocals := 1, code := prog_15_method_4_code, exceptionTable := #[], attributes := #[] }
def k2m1 : Method := { name := "isNcNameStartChar", desc := "(I)Z", sig := { parameters := [.int], returnType := some .boolean }, accessFlags := 9, code := some k2c1 }
/-- com/example/siegelbund/siegelbund/core/xml/XmlChars -/
def k2 : Class := { plain "com/example/siegelbund/siegelbund/core/xml/XmlChars" (some 0) with
  accessFlags := 49
  interfaces := #[]
  cf := some (fileOf pool2 18 #[] #[{ accessFlags := 2, nameIndex := 5, descriptorIndex := 6, attributes := #[] }, { accessFlags := 9, nameIndex := 32, descriptorIndex := 33, attributes := #[] }] 49 2 #[] #[])
  fields := #[]
  methods := #[k2m0, k2m1]
  instanceTypes := #[]
  staticTypes := #[]
  resolved := Array.replicate 41 none
  statics := none }

def pool3 : Array CpInfo := pool [(1, u "java/lang/Cloneable"), (0, .class_ 1), (0, u "java/lang/Object"), (0, .class_ 3)] 3

/-- java/lang/Cloneable -/
def k3 : Class := { plain "java/lang/Cloneable" (some 0) with
  accessFlags := 1537
  interfaces := #[]
  cf := some (fileOf pool3 2 #[] #[] 1537 4 #[] #[])
  fields := #[]
  methods := #[]
  instanceTypes := #[]
  staticTypes := #[]
  resolved := Array.replicate 8 none
  statics := none }

def pool4 : Array CpInfo := pool [(1, u "java/io/Serializable"), (0, .class_ 1), (0, u "java/lang/Object"), (0, .class_ 3)] 3

/-- java/io/Serializable -/
def k4 : Class := { plain "java/io/Serializable" (some 0) with
  accessFlags := 1537
  interfaces := #[]
  cf := some (fileOf pool4 2 #[] #[] 1537 4 #[] #[])
  fields := #[]
  methods := #[]
  instanceTypes := #[]
  staticTypes := #[]
  resolved := Array.replicate 8 none
  statics := none }

/-- the primitive byte -/
def k5 : Class := { plain "byte" none with kind := .primitive 'B', accessFlags := 0x411 }
/-- [B -/
def k6 : Class := { plain "[B" (some 0) with kind := .array 5 .byte, interfaces := #[3, 4], accessFlags := 1041 }

/-- the primitive int -/
def k7 : Class := { plain "int" none with kind := .primitive 'I', accessFlags := 0x411 }
/-- [I -/
def k8 : Class := { plain "[I" (some 0) with kind := .array 7 .int, interfaces := #[3, 4], accessFlags := 1041 }

def heap : Heap := #[]
def classes : Array Class := #[k0, k1, k2, k3, k4, k5, k6, k7, k8]
def interned : List (Array UInt16 × Addr) := []
def slotsUsed : Nat := 0
def theMethod : MethodId := ⟨1, 2⟩
def args0 : Array Value := #[.int 5, .int 7, .int 3]
def aboutOver (below : List Frame) : State where
  vm := { classes := classes, interned := interned.toArray }
  heap := heap
  slotsUsed := slotsUsed
  threads := #[{ frames := .invoking theMethod args0 :: below }]
def below0 : List Frame := [.native { method := ⟨0, 0⟩, args := #[] }]
def about1 : State := aboutOver below0
def p0 : Program := .bare "" "" ""
def e0 : Env := launch0.env 0 0 0
theorem w_frames : about1.frames = Frame.invoking theMethod args0 :: below0 := rfl
set_option maxRecDepth 65536 in
theorem w_args : argsFit about1.vm theMethod args0 = true := by decide +kernel
set_option maxRecDepth 65536 in
theorem w_heap : heapFits about1 = true := by decide +kernel
set_option maxRecDepth 65536 in
theorem w_runnable : about1.curStatus? = some .runnable := by decide +kernel
set_option maxRecDepth 65536 in
theorem w_alone : about1.alone = true := by decide +kernel
set_option maxRecDepth 65536 in
theorem w_named : about1.methodNamed? x = some theMethod := by decide +kernel
set_option maxRecDepth 65536 in
theorem w_hears : about1.hears theMethod below0 = true := by decide +kernel
set_option maxRecDepth 65536 in
theorem w_ripe : about1.ripe theMethod args0 below0 = true := by decide +kernel
theorem w_running : about1.status = .running := rfl
set_option maxRecDepth 65536 in
theorem w_room : about1.hasRoom e0.platform room_1 = true :=
  launch0.hasRoom_least _ room_1 (by decide +kernel) (by decide +kernel) (by decide +kernel) (by decide +kernel) (by decide +kernel) (by decide +kernel)
theorem allAtoms_all (ts : List Jvm.Cond) (a : Array Jvm.Value) (st : Jvm.State) : (allAtoms ts).before a st = ts.all (fun c => c.before a st) := by
  induction ts with
  | nil => rfl
  | cons c t ih =>
    show (Jvm.Cond.and c (allAtoms t)).before a st = _
    rw [Jvm.Cond.before_and, ih, List.all_cons]
def words1 : List Jvm.Cond := Jvm.Cond.code x code maxLocals ret :: tables_1
/-- a 'code' word, met by the world's own term for the bytes: nothing is compared byte by byte -/
theorem code_word {y : MethodName} {bytes : ByteArray} {mx : Nat} {rt : Option FieldType} {a : Array Value} {s : State} {m : MethodId} {meth : Method} {c : Code} (h1 : s.methodNamed? y = some m) (h2 : s.vm.method? m = some meth) (h3 : meth.code = some c) (h4 : c.code = bytes)
    (h5 : (c.maxLocals == mx && c.exceptionTable.isEmpty && decide (c.maxStack ≤ mostOperands) && decide (meth.sig.returnType = rt) && !meth.locks && decide (parseMethodDescriptor y.desc = some meth.sig)) = true) : (Jvm.Cond.code y bytes mx rt).before a s = true := by
  simp only [Bool.and_eq_true, beq_iff_eq, Bool.not_eq_true', decide_eq_true_eq] at h5
  obtain ⟨⟨⟨⟨⟨g1, g2⟩, g3⟩, g4⟩, g5⟩, g6⟩ := h5
  simp [Cond.before, Cond.holds, Cond.value, h1, h2, h3, h4, g1, g2, g3, g4, g5, g6]
def isCode : Jvm.Cond → Bool
  | .code _ _ _ _ => true
  | _ => false
theorem all_split {L : List Jvm.Cond} {P : Jvm.Cond → Bool} (h1 : L.all (fun c => isCode c || P c) = true) (h2 : ∀ c ∈ L.filter isCode, P c = true) : L.all P = true := by
  refine List.all_eq_true.mpr fun c hc => ?_
  have h := List.all_eq_true.mp h1 c hc
  rcases Bool.eq_false_or_eq_true (isCode c) with hi | hi
  · exact h2 c (List.mem_filter.mpr ⟨hc, hi⟩)
  · simpa [hi] using h
set_option maxRecDepth 65536 in
theorem w_c0 : (Jvm.Cond.code x code maxLocals ret).before args0 about1 = true := code_word (m := ⟨1, 2⟩) (meth := k1m2) (c := k1c2) (by decide +kernel) rfl rfl rfl (by decide +kernel)
set_option maxRecDepth 65536 in
theorem w_c1 : (Jvm.Cond.code ({ cls := "com/example/siegelbund/siegelbund/core/xml/XmlChars", name := "isNcNameStartChar", desc := "(I)Z" } : Jvm.MethodName) prog_15_method_4_code (1 : Nat) (Option.some Jvm.ClassFile.FieldType.boolean)).before args0 about1 = true := code_word (m := ⟨2, 1⟩) (meth := k2m1) (c := k2c1) (by decide +kernel) rfl rfl rfl (by decide +kernel)
set_option maxRecDepth 65536 in
theorem w_c2 : (Jvm.Cond.code ({ cls := "com/example/siegelbund/siegelbund/core/xml/XmlCharsIsNcNameStartCharPinLaw", name := "ref", desc := "(I)Z" } : Jvm.MethodName) method_2_code (1 : Nat) (Option.some Jvm.ClassFile.FieldType.boolean)).before args0 about1 = true := code_word (m := ⟨1, 1⟩) (meth := k1m1) (c := k1c1) (by decide +kernel) rfl rfl rfl (by decide +kernel)
def codes1 : List Jvm.Cond := [Jvm.Cond.code x code maxLocals ret, Jvm.Cond.code ({ cls := "com/example/siegelbund/siegelbund/core/xml/XmlChars", name := "isNcNameStartChar", desc := "(I)Z" } : Jvm.MethodName) prog_15_method_4_code (1 : Nat) (Option.some Jvm.ClassFile.FieldType.boolean), Jvm.Cond.code ({ cls := "com/example/siegelbund/siegelbund/core/xml/XmlCharsIsNcNameStartCharPinLaw", name := "ref", desc := "(I)Z" } : Jvm.MethodName) method_2_code (1 : Nat) (Option.some Jvm.ClassFile.FieldType.boolean)]
set_option maxRecDepth 65536 in
theorem codes_eq : words1.filter isCode = codes1 := rfl
theorem w_codes : ∀ c ∈ words1.filter isCode, c.before args0 about1 = true := by
  rw [codes_eq]
  intro c hc
  simp only [codes1, List.mem_cons, List.not_mem_nil, or_false] at hc
  rcases hc with rfl | rfl | rfl
  · exact w_c0
  · exact w_c1
  · exact w_c2
set_option maxRecDepth 65536 in
theorem w_t1 : (words1.take 24).all (fun c => isCode c || c.before args0 about1) = true := by decide +kernel
set_option maxRecDepth 65536 in
theorem w_t2 : (words1.drop 24).all (fun c => isCode c || c.before args0 about1) = true := by decide +kernel
theorem w_tables : (allAtoms (Jvm.Cond.code x code maxLocals ret :: tables_1)).before args0 about1 = true := by
  rw [allAtoms_all]
  show words1.all (fun c => c.before args0 about1) = true
  refine all_split ?_ w_codes
  rw [← List.take_append_drop 24 words1, List.all_append, w_t1, w_t2]
  rfl
set_option maxRecDepth 65536 in
theorem w_case : (Jvm.Cond.and given_1 narrow_1).before args0 about1 = true := by decide +kernel
theorem w_applies : (headSpec (Jvm.Cond.code x code maxLocals ret :: tables_1) room_1).applies x e0.platform about1 = true :=
  (Spec.applies_iff w_frames).mpr ⟨w_running, w_runnable, w_alone, w_named, w_hears, w_ripe, w_room, w_tables⟩
theorem atStart : AtStart classFile x code maxLocals ret World_1 tables_1 room_1 Calls_1 rest_1 Pre_1 launch0 p0 e0 about1 theMethod args0 below0 :=
  ⟨lists_1, trivial, launch0.admits_env _ _ _, launch0.least_env, fairChoices_fair.cas, fairChoices_fair.clock, w_frames, w_args, w_heap, w_applies, trivial, trivial, w_case⟩
end start1
theorem witness_1 : WitnessClaimed_1 := ⟨start1.p0, start1.e0, start1.about1, start1.theMethod, start1.args0, start1.below0, start1.atStart⟩
end Jvm.Pilot.@@N@@
