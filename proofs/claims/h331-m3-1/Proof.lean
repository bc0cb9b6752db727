import JvmDerived
import JvmDerived.Pilot.@@N@@Statement
import JvmDerived.Pilot.@@N@@Code
set_option linter.unusedVariables false
set_option linter.unusedSimpArgs false
namespace Jvm.Pilot.@@N@@
open Jvm Jvm.ClassFile Sem Op Lib Jvm.Free Jvm.Stand Jvm.LawKit Jvm.RoadKit Bundle Jvm.Pilot.@@N@@.Jvm.D
/-! THE OWN KIT: the walk from a state to its end, as one proposition (own_Go); its steps, its leaves, its entry. -/
section OwnKit
variable {p : Program} {l : Launch} {e : Env} {R : Room} {s : State} {m : MethodId} {args : Array Value} {below : List Frame} {meth : Method} {c : Code} {T : State} {locs : List Loc} {cells slots : Nat}
variable {Q : Option Value → Heap → List Loc → Prop} {rc rs : Nat}
/-- from U the run ends in a return, and Q says what it leaves -/
def own_Go (p : Program) (e : Env) (below : List Frame) (s : State) (Q : Option Value → Heap → List Loc → Prop) (rc rs : Nat) (U : State) : Prop :=
  ∃ s₂ o, Steps p.tables e below U s₂ ∧ s₂.status = .running ∧ Ended s₂ below o ∧ ∃ v L, o = .returned v ∧ Q v s₂.heap L ∧ FrameEnd s o s₂ L rc rs
theorem own_by {A B : State} (k : ∀ t, Steps p.tables e below B t → Steps p.tables e below A t) (h : own_Go p e below s Q rc rs B) : own_Go p e below s Q rc rs A := by
  obtain ⟨s₂, o, h1, r⟩ := h
  exact ⟨s₂, o, k _ h1, r⟩
theorem own_imp {Q' : Option Value → Heap → List Loc → Prop} {A : State} (k : ∀ v h L, Q v h L → Q' v h L) (h : own_Go p e below s Q rc rs A) : own_Go p e below s Q' rc rs A := by
  obtain ⟨s₂, o, h1, h2, h3, v, L, h4, h5, h6⟩ := h
  exact ⟨s₂, o, h1, h2, h3, v, L, h4, k _ _ _ h5, h6⟩
theorem own_leave (X : Stand p l e R s m args below meth c T locs cells slots) (hlk : meth.locks = false) {v : Option Value} (hv : meth.sig.returnType = none → v = none) {U : State}
    (hst : ∀ fs, (∀ (f : JFrame) (acts : List Action), f.method = m → f.locked = none → f.entered = [] → (doReturn e (T.setTop f) acts v).1 = T.setFrames fs) → Steps p.tables e below U (T.setFrames fs))
    (hq : Q v T.heap locs) (hc : cells ≤ rc) (hs : slots ≤ rs) : own_Go p e below s Q rc rs U := by
  obtain ⟨fs, hr, hrun, hended, hW, hsame⟩ := X.leave (v := v) hv hlk
  exact ⟨_, _, hst fs hr, hrun, hended, _, _, rfl, hq, ⟨_, rfl⟩, hW, hsame.mono hc hs⟩
theorem own_ret (X : Stand p l e R s m args below meth c T locs cells slots) (hx : p.tables.exec = Jvm.exec) (hlk : meth.locks = false) (hret : meth.sig.returnType = none) {pc : Nat} {Ls : Array Slot} (hd : decode c.code pc = .ok (.return_, 1))
    (hq : Q none T.heap locs) (hc : cells ≤ rc) (hs : slots ≤ rs) : own_Go p e below s Q rc rs (T.setTop (mkF m pc Ls [])) :=
  own_leave X hlk (fun _ => rfl) (fun _ hr => X.returnOut hx hret hd hr) hq hc hs
theorem own_retI (X : Stand p l e R s m args below meth c T locs cells slots) (hx : p.tables.exec = Jvm.exec) (hlk : meth.locks = false) (hret : meth.sig.returnType = some .int) {pc : Nat} {Ls : Array Slot} {z : Int32} (hd : decode c.code pc = .ok (.ireturn, 1))
    (hq : Q (some (.int z)) T.heap locs) (hc : cells ≤ rc) (hs : slots ≤ rs) : own_Go p e below s Q rc rs (T.setTop (mkF m pc Ls [.int z])) :=
  own_leave X hlk (fun h => by rw [hret] at h; cases h) (fun _ hr => X.ireturnOut hx hret rfl (Or.inl rfl) hd hr) hq hc hs
theorem own_retN {t : FieldType} (ht : t = .boolean ∨ t = .byte ∨ t = .char ∨ t = .short) (X : Stand p l e R s m args below meth c T locs cells slots) (hx : p.tables.exec = Jvm.exec) (hlk : meth.locks = false) (hret : meth.sig.returnType = some t) {pc : Nat} {Ls : Array Slot} {z z' : Int32} (hn : nar t z = z') (hd : decode c.code pc = .ok (.ireturn, 1))
    (hq : Q (some (.int z')) T.heap locs) (hc : cells ≤ rc) (hs : slots ≤ rs) : own_Go p e below s Q rc rs (T.setTop (mkF m pc Ls [.int z])) := by
  subst hn
  exact own_leave X hlk (fun h => by rw [hret] at h; cases h) (fun _ hr => retN X hx hret ht hd hr) hq hc hs
theorem own_retJ (X : Stand p l e R s m args below meth c T locs cells slots) (hx : p.tables.exec = Jvm.exec) (hlk : meth.locks = false) (hret : meth.sig.returnType = some .long) {pc : Nat} {Ls : Array Slot} {z : Int64} (hd : decode c.code pc = .ok (.lreturn, 1))
    (hq : Q (some (.long z)) T.heap locs) (hc : cells ≤ rc) (hs : slots ≤ rs) : own_Go p e below s Q rc rs (T.setTop (mkF m pc Ls [.long z])) :=
  own_leave X hlk (fun h => by rw [hret] at h; cases h) (fun _ hr => X.lreturnOut hx hret hd hr) hq hc hs
theorem own_retA {t : FieldType} (ht : t.isReference = true) (X : Stand p l e R s m args below meth c T locs cells slots) (hx : p.tables.exec = Jvm.exec) (hlk : meth.locks = false) (hret : meth.sig.returnType = some t) {pc : Nat} {Ls : Array Slot} {a : Addr} (hd : decode c.code pc = .ok (.areturn, 1))
    (hq : Q (some (.ref a)) T.heap locs) (hc : cells ≤ rc) (hs : slots ≤ rs) : own_Go p e below s Q rc rs (T.setTop (mkF m pc Ls [.ref a])) :=
  own_leave X hlk (fun h => by rw [hret] at h; cases h) (fun _ hr => X.areturnOut hx rfl hret ht hd hr) hq hc hs
/-- a body's contract out of its walk -/
theorem own_met {y : MethodName} {bytes : ByteArray} {maxL : Nat} {ret : Option FieldType} {ws : List Jvm.Cond} {rm : Room} {as' : Array Value} {Z : State} {h0 : Heap} (hpl : plainFor y = true)
    (body : ∀ (p : Program) (e : Env) (s : State) (m : MethodId) (below : List Frame) (meth : Method) (c : Code) (T : State), Stand p l e rm s m as' below meth c T [] 0 0 → p.tables.exec = Jvm.exec → c.code = bytes → c.maxLocals = maxL → meth.sig.returnType = ret → meth.locks = false →
      Z.Warmed39 s.vm → s.vm.findClass y.cls = some m.cls → meth.name = y.name → T.heap = h0 → own_Go p e below s Q rc rs (T.setTop (entryFrame m as' maxL))) :
    MetFree l y (head1 (Jvm.Cond.code y bytes maxL ret :: ws) rm) (fun a U => a = as' ∧ Z.Warmed39 U.vm ∧ U.heap = h0) (fun _ _ _ _ _ => True) (fun _ U o U' => ∃ v L, o = .returned v ∧ Q v U'.heap L ∧ FrameEnd U o U' L rc rs) := by
  refine MetFree.of_bodySF hpl hisR ?_
  intro p e s m args below meth c s₁ Bd hml0 hP hK
  obtain ⟨rfl, hZ, hh⟩ := hP
  exact body p e s m below meth c s₁ (Stand.of_body Bd) Bd.exec Bd.bytes hml0 Bd.returns (BodyLoose.notSynchronized Bd) hZ (findClass_of_methodNamed Bd.named) (name_of_methodNamed Bd.named Bd.method).1 (by rw [← hh, Bd.state]; rfl)
theorem own_cast {g g' : JFrame} (q : g = g') (k : own_Go p e below s Q rc rs (T.setTop g')) : own_Go p e below s Q rc rs (T.setTop g) := q ▸ k
/-- what a body that writes nothing leaves -/
def own_Qp (r : Option Value) (h0 : Heap) (v : Option Value) (h : Heap) (L : List Loc) : Prop := v = r ∧ L = [] ∧ h = h0
theorem own_selPriv {a1 a2 : Array Value} {y y' z' : MethodName} {C : String} (h : (Jvm.Cond.selects C y' z').before a1 s = true) (hz : z'.cls = y.cls) (hpriv : s.PrivateAt y) (hinst : (Jvm.Cond.instanceMethod y).before a2 s = true) (hy : y.cls ≠ "java/lang/invoke/MethodHandle" ∧ y.cls ≠ "java/lang/invoke/VarHandle") : (Jvm.Cond.selects y.cls y y).before a2 s = true := by
  obtain ⟨_, _, m2, -, -, q3, -, kP, hkP, hkPi⟩ := Cond.selects_spec h
  exact selects_self_of_private (by rw [← hz]; exact findClass_of_methodNamed q3) hkP hkPi hpriv hinst hy
end OwnKit
/-! arrays of ints (bytes, booleans) by a function from places to values -/
section OwnArr
variable {Z : State} {h h' : Heap} {a b : Addr} {ty : FieldType} {n : Nat} {f : Nat → Int32} {sl : Nat} {v : Value} {ws : List Addr}
def own_BA (Z : State) (h : Heap) (a : Addr) (ty : FieldType) (n : Nat) (f : Nat → Int32) : Prop := ∃ c : Cell, Arr Z h a c ty ∧ c.slots.size = n ∧ ∀ i, i < n → c.slots[i]? = some (.int (f i))
def own_up (f : Nat → Int32) (j : Nat) (x : Int32) (i : Nat) : Int32 := if i = j then x else f i
theorem own_BA.lt (F : own_BA Z h a ty n f) : a < h.size := by obtain ⟨c, A, -⟩ := F; exact A.lt
theorem own_BA.ext (F : own_BA Z h a ty n f) (E : Ext h h') : own_BA Z h' a ty n f := by obtain ⟨c, A, r⟩ := F; exact ⟨c, A.ext E, r⟩
theorem own_BA.other (F : own_BA Z h a ty n f) (W : Wr h h' b sl v) (q : a ≠ b) : own_BA Z h' a ty n f := by obtain ⟨c, A, r⟩ := F; exact ⟨c, A.other W q, r⟩
theorem own_BA.keep (F : own_BA Z h a ty n f) (K : Keep h h' ws) (q : a ∉ ws) : own_BA Z h' a ty n f := by obtain ⟨c, A, r⟩ := F; exact ⟨c, ⟨K.2.1 a c A.1 q, A.2⟩, r⟩
theorem own_BA.new {k : ClassId} {z : Int32} (A : Arr Z h a (newA k ty z) ty) (hz : z.toNatClampNeg = n) (hd : defaultValue ty = .int 0) : own_BA Z h a ty n (fun _ => 0) := by
  refine ⟨_, A, by rw [sz_new, hz], fun i hi => ?_⟩
  simp only [newA, hd, hz]
  rw [Array.getElem?_replicate, if_pos hi]
theorem own_BA.same {j : Nat} {x : Int32} (F : own_BA Z h a ty n f) (W : Wr h h' a j (.int x)) : own_BA Z h' a ty n (own_up f j x) := by
  obtain ⟨c, A, S, H⟩ := F
  refine ⟨_, A.same W, by rw [sz_set]; exact S, fun i hi => ?_⟩
  have hs : i < c.slots.size := by rw [S]; exact hi
  show (c.slots.setIfInBounds j (.int x))[i]? = _
  by_cases q : i = j
  · subst q
    rw [Array.getElem?_setIfInBounds_self_of_lt hs]
    simp [own_up]
  · rw [Array.getElem?_setIfInBounds_ne (Ne.symm q), H i hi]
    simp [own_up, q]
theorem own_BA.cong {g : Nat → Int32} (F : own_BA Z h a ty n f) (q : ∀ i, i < n → f i = g i) : own_BA Z h a ty n g := by
  obtain ⟨c, A, S, H⟩ := F
  exact ⟨c, A, S, fun i hi => by rw [H i hi, q i hi]⟩
theorem own_in {c : Cell} {j : Int32} (S : c.slots.size = n) (q : ¬ j < 0 ∧ j.toNatClampNeg < n) : ¬ (j < 0 ∨ c.slots.size ≤ j.toNatClampNeg) := by
  rw [S]; exact fun z => z.elim q.1 (fun y => absurd q.2 (Nat.not_lt.mpr y))
theorem own_lt {c : Cell} {j : Int32} (S : c.slots.size = n) (q : ¬ (j < 0 ∨ c.slots.size ≤ j.toNatClampNeg)) : j.toNatClampNeg < n := by
  rw [S] at q; exact Nat.lt_of_not_le fun y => q (Or.inr y)
end OwnArr
/-! the same for a walk that may load String constants: over the invariant CHv (what the tables book for the constants of EL says its text) -/
section OwnW
variable {p : Program} {l : Launch} {e : Env} {R : Room} {s : State} {m : MethodId} {args : Array Value} {below : List Frame} {meth : Method} {c : Code} {T : State} {locs : List Loc} {cells slots : Nat}
variable {Q : Option Value → Heap → List Loc → Prop} {rc rs : Nat} {Z : State} {EL : List (String × Nat)} {h0 : Heap}
def own_GoW (Z : State) (EL : List (String × Nat)) (h0 : Heap) (p : Program) (e : Env) (below : List Frame) (s : State) (Q : Option Value → Heap → List Loc → Prop) (rc rs : Nat) (U : State) : Prop :=
  ∃ s₂ o, Steps p.tables e below U s₂ ∧ s₂.status = .running ∧ Ended s₂ below o ∧ ∃ v L, o = .returned v ∧ Q v s₂.heap L ∧ CHr Z EL s.vm h0 s₂.vm s₂.heap ∧ ReturnedEndW s o s₂ L rc rs
theorem own_byW {A B : State} (k : ∀ t, Steps p.tables e below B t → Steps p.tables e below A t) (h : own_GoW Z EL h0 p e below s Q rc rs B) : own_GoW Z EL h0 p e below s Q rc rs A := by
  obtain ⟨s₂, o, h1, r⟩ := h
  exact ⟨s₂, o, k _ h1, r⟩
theorem own_since (s : State) : s.Since s.vm 0 := State.WarmedH.since (State.WarmedH.refl s) 0
theorem own_retNW {vm₁ : Vm} {t : FieldType} (ht : t = .boolean ∨ t = .byte ∨ t = .char ∨ t = .short) (X : Stand p l e R (s.setVm vm₁) m args below meth c T locs cells slots) {k0 : Nat} (hS : s.Since vm₁ k0) (hk : k0 ≤ T.heap.size) (hx : p.tables.exec = Jvm.exec) (hlk : meth.locks = false) (hret : meth.sig.returnType = some t) {pc : Nat} {Ls : Array Slot} {z z' : Int32} (hn : nar t z = z') (hd : decode c.code pc = .ok (.ireturn, 1))
    (hq : Q (some (.int z')) T.heap locs) (hC : CHr Z EL s.vm h0 T.vm T.heap) (hc : cells ≤ rc) (hs : slots ≤ rs) : own_GoW Z EL h0 p e below s Q rc rs (T.setTop (mkF m pc Ls [.int z])) := by
  subst hn
  obtain ⟨fs, hr, hrun, hended, hE⟩ := X.leaveW hS hk (v := some (.int (nar t z))) (fun h => by rw [hret] at h; cases h) hlk
  exact ⟨_, _, retN X hx hret ht hd hr, hrun, hended, _, _, rfl, hq, hC, hE.1, hE.2.1, hE.2.2.1, hE.2.2.2.mono hc hs⟩
theorem own_castW {g g' : JFrame} (q : g = g') (k : own_GoW Z EL h0 p e below s Q rc rs (T.setTop g')) : own_GoW Z EL h0 p e below s Q rc rs (T.setTop g) := q ▸ k
theorem own_metW {y : MethodName} {bytes : ByteArray} {maxL : Nat} {ret : Option FieldType} {ws : List Jvm.Cond} {rm : Room} {as' : Array Value} (hpl : plainFor y = true)
    (body : ∀ (p : Program) (e : Env) (s : State) (m : MethodId) (below : List Frame) (meth : Method) (c : Code) (T : State), Stand p l e rm s m as' below meth c T [] 0 0 → p.tables.exec = Jvm.exec → c.code = bytes → c.maxLocals = maxL → meth.sig.returnType = ret → meth.locks = false →
      Z.Warmed39 s.vm → s.vm.findClass y.cls = some m.cls → meth.name = y.name → T.heap = h0 → CHv Z EL s.vm h0 → own_GoW Z EL h0 p e below s Q rc rs (T.setTop (entryFrame m as' maxL))) :
    MetFree l y (head1 (Jvm.Cond.code y bytes maxL ret :: ws) rm) (fun a U => a = as' ∧ Z.Warmed39 U.vm ∧ U.heap = h0 ∧ CHv Z EL U.vm h0) (fun _ _ _ _ _ => True) (fun _ U o U' => ∃ v L, o = .returned v ∧ Q v U'.heap L ∧ CHr Z EL U.vm U.heap U'.vm U'.heap ∧ ReturnedEndW U o U' L rc rs) := by
  refine MetFree.of_bodySF hpl hisR ?_
  intro p e s m args below meth c s₁ Bd hml0 hP hK
  obtain ⟨rfl, hZ, hh, hC⟩ := hP
  have g := body p e s m below meth c s₁ (Stand.of_body Bd) Bd.exec Bd.bytes hml0 Bd.returns (BodyLoose.notSynchronized Bd) hZ (findClass_of_methodNamed Bd.named) (name_of_methodNamed Bd.named Bd.method).1 (by rw [← hh, Bd.state]; rfl) hC
  rw [hh]
  exact g
def own_Qt (r : Option Value) (h0 : Heap) (v : Option Value) (h : Heap) (L : List Loc) : Prop := v = r ∧ L = [] ∧ Ext h0 h
theorem own_xr (h : Heap) : Ext h h := ⟨Nat.le_refl _, fun _ _ q => q⟩
theorem own_xt {h h1 h2 : Heap} (A : Ext h h1) (B : Ext h1 h2) : Ext h h2 := ⟨Nat.le_trans A.1 B.1, fun a c q => B.2 a c (A.2 a c q)⟩
end OwnW
theorem pd_0 : parseMethodDescriptor "()B" = some ⟨[], some .byte⟩ := by decide +kernel
theorem pd_1 : parseMethodDescriptor "(I)Z" = some ⟨[.int], some .boolean⟩ := by decide +kernel
theorem pd_2 : parseMethodDescriptor "(II)I" = some ⟨[.int, .int], some .int⟩ := by decide +kernel
theorem pd_3 : parseMethodDescriptor "([BIII)I" = some ⟨[(.array .byte), .int, .int, .int], some .int⟩ := by decide +kernel
theorem pd_4 : parseMethodDescriptor "()Z" = some ⟨[], some .boolean⟩ := by decide +kernel
theorem pd_5 : parseMethodDescriptor "()I" = some ⟨[], some .int⟩ := by decide +kernel
theorem pd_6 : parseMethodDescriptor "(I)I" = some ⟨[.int], some .int⟩ := by decide +kernel
theorem d4_0 : decode jdk_42_method_154_code 0 = .ok (.getstatic 38, 3) := by decide +kernel
theorem d4_3 : decode jdk_42_method_154_code 3 = .ok (.ifCond .eq 14, 3) := by decide +kernel
theorem d4_6 : decode jdk_42_method_154_code 6 = .ok (.aload_n 0, 1) := by decide +kernel
theorem d4_7 : decode jdk_42_method_154_code 7 = .ok (.getfield 15, 3) := by decide +kernel
theorem d4_10 : decode jdk_42_method_154_code 10 = .ok (.ifCond .ne 7, 3) := by decide +kernel
theorem d4_13 : decode jdk_42_method_154_code 13 = .ok (.iconst 1, 1) := by decide +kernel
theorem d4_14 : decode jdk_42_method_154_code 14 = .ok (.goto 4, 3) := by decide +kernel
theorem d4_18 : decode jdk_42_method_154_code 18 = .ok (.ireturn, 1) := by decide +kernel
theorem pn_4 : plainName "java/lang/String" = true := by first | (simp [plainName, overriddenIn]; done) | decide +kernel
theorem ef_4 (m : MethodId) (y0 : Addr) : entryFrame m #[(.ref y0)] 1 = mkF m 0 #[.val (.ref y0)] [] := by first | (simp [entryFrame, mkF, argsToLocals, Value.category]; done) | rfl
def f4_18 (wz : Int32) (y0 : Int32) : Int32 := (nar .boolean y0)
set_option maxRecDepth 65536 in
set_option maxHeartbeats 40000000 in
theorem bk4_18 (l : Launch) (Z : State) (a0 : Array Value) (hw : ∀ d ∈ tables_1, d.before a0 Z = true) (h0 : Heap) (a : Addr)  (wz : Int32) (Sc : Sta Z h0 "java/lang/String" "COMPACT_STRINGS" "Z" (.int wz)) (F_coder_a : Fld Z h0 a "java/lang/String" "coder" "B" (.int (0 : Int32))) (y0 : Int32) (hwz : ¬ wz = (0 : Int32)) {p : Program} {e : Env} {s : State} {m : MethodId} {args : Array Value} {below : List Frame} {meth : Method} {c : Code} {T0 : State}
    (X0 : Stand p l e ({ frames := 0, cells := 0, slots := 0, locals := 0 } : Room) s m args below meth c T0 [] 0 0) (hx : p.tables.exec = Jvm.exec) (hby : c.code = jdk_42_method_154_code) (hml : c.maxLocals = 1) (hret : meth.sig.returnType = (some .boolean)) (hlk : meth.locks = false) (hZ : Z.Warmed39 s.vm) (hown : s.vm.findClass "java/lang/String" = some m.cls) (hnm : meth.name = "isLatin1") (e0 : T0.heap = h0) :
    own_Go p e below s (own_Qp (some (.int (f4_18 wz y0))) h0) 0 0 (T0.setTop (mkF m 18 #[.val (.ref a)] [(.int y0)])) := by
  have hf : f4_18 wz y0 = (nar .boolean y0) := rfl
  exact own_retN (t := .boolean) (by simp) X0 hx hlk hret (z' := (nar .boolean y0)) rfl (hb hby d4_18) ⟨by rw [hf], rfl, e0⟩ (by decide) (by decide)
def f4_0 (wz : Int32)  : Int32 := (f4_18 wz (1 : Int32))
set_option maxRecDepth 65536 in
set_option maxHeartbeats 40000000 in
theorem bk4_0 (l : Launch) (Z : State) (a0 : Array Value) (hw : ∀ d ∈ tables_1, d.before a0 Z = true) (h0 : Heap) (a : Addr)  (wz : Int32) (Sc : Sta Z h0 "java/lang/String" "COMPACT_STRINGS" "Z" (.int wz)) (F_coder_a : Fld Z h0 a "java/lang/String" "coder" "B" (.int (0 : Int32)))  (hwz : ¬ wz = (0 : Int32)) {p : Program} {e : Env} {s : State} {m : MethodId} {args : Array Value} {below : List Frame} {meth : Method} {c : Code} {T0 : State}
    (X0 : Stand p l e ({ frames := 0, cells := 0, slots := 0, locals := 0 } : Room) s m args below meth c T0 [] 0 0) (hx : p.tables.exec = Jvm.exec) (hby : c.code = jdk_42_method_154_code) (hml : c.maxLocals = 1) (hret : meth.sig.returnType = (some .boolean)) (hlk : meth.locks = false) (hZ : Z.Warmed39 s.vm) (hown : s.vm.findClass "java/lang/String" = some m.cls) (hnm : meth.name = "isLatin1") (e0 : T0.heap = h0) :
    own_Go p e below s (own_Qp (some (.int (f4_0 wz ))) h0) 0 0 (T0.setTop (mkF m 0 #[.val (.ref a)] [])) := by
  have hf : f4_0 wz  = (f4_18 wz (1 : Int32)) := rfl
  obtain ⟨T1, X1, e1, st1⟩ := getS2 X0 hx hZ hown (host := "") (Or.inl (hw _ (List.mem_of_getElem? (i := 27) rfl))) Via.refl e0 Sc (g := (mkF m 0 #[.val (.ref a)] [])) rfl (hb hby d4_0)
  refine own_by (B := T1.setTop (mkF m 3 #[.val (.ref a)] [(.int wz)])) (fun t k => st1 _ k) ?_
  have hc2 : ¬ (wz = (0 : Int32)) := hwz
  refine own_by (B := T1.setTop (mkF m 6 #[.val (.ref a)] [])) (fun t k => XS.ifNo X1.here hx rfl (hb hby d4_3) rfl ((if0 _ _).trans (feq hc2).1) k) ?_
  refine own_by (B := T1.setTop (mkF m 7 #[.val (.ref a)] [(.ref a)])) (fun t k => XS.aloadN X1.here hx rfl (hb hby d4_6) rfl rfl k) ?_
  obtain ⟨T3, X3, e3, st3⟩ := getF X1 hx hZ hown (host := "") (Or.inl (hw _ (List.mem_of_getElem? (i := 28) rfl))) Via.refl e1 F_coder_a (g := (mkF m 7 #[.val (.ref a)] [(.ref a)])) rfl rfl (hb hby d4_7)
  refine own_by (B := T3.setTop (mkF m 10 #[.val (.ref a)] [(.int (0 : Int32))])) (fun t k => st3 _ k) ?_
  have hc4 : (0 : Int32) = (0 : Int32) := rfl
  refine own_by (B := T3.setTop (mkF m 13 #[.val (.ref a)] [])) (fun t k => XS.ifNo X3.here hx rfl (hb hby d4_10) rfl ((if0 _ _).trans (teq hc4).2) k) ?_
  refine own_by (B := T3.setTop (mkF m 14 #[.val (.ref a)] [(.int (1 : Int32))])) (fun t k => XS.iconst X3.here hx rfl (hb hby d4_13) k) ?_
  refine own_by (B := T3.setTop (mkF m 18 #[.val (.ref a)] [(.int (1 : Int32))])) (fun t k => XS.goto X3.here hx rfl (pc0 := 14) (pc' := 18) rfl (hb hby d4_14) (by decide) (by decide) k) ?_
  rw [hf]
  exact bk4_18 l Z a0 hw h0 a wz Sc F_coder_a (1 : Int32) hwz X3 hx hby hml hret hlk hZ hown hnm e3
set_option maxRecDepth 65536 in
set_option maxHeartbeats 40000000 in
theorem rm4 (l : Launch) (Z : State) (a0 : Array Value) (hw : ∀ d ∈ tables_1, d.before a0 Z = true) (ws : List Jvm.Cond) (a : Addr)  (wz : Int32) (h0 : Heap) (Sc : Sta Z h0 "java/lang/String" "COMPACT_STRINGS" "Z" (.int wz)) (F_coder_a : Fld Z h0 a "java/lang/String" "coder" "B" (.int (0 : Int32))) (hwz : ¬ wz = (0 : Int32)) :
    MetFree l (⟨"java/lang/String", "isLatin1", "()Z"⟩ : MethodName) (head1 (Jvm.Cond.code (⟨"java/lang/String", "isLatin1", "()Z"⟩ : MethodName) jdk_42_method_154_code 1 (some .boolean) :: ws) ({ frames := 0, cells := 0, slots := 0, locals := 0 } : Room)) (fun aa U => aa = #[(.ref a)] ∧ Z.Warmed39 U.vm ∧ U.heap = h0) (fun _ _ _ _ _ => True) (fun _ U o U' => ∃ v L, o = .returned v ∧ own_Qp (some (.int (f4_0 wz ))) h0 v U'.heap L ∧ FrameEnd U o U' L ({ frames := 0, cells := 0, slots := 0, locals := 0 } : Room).cells ({ frames := 0, cells := 0, slots := 0, locals := 0 } : Room).slots) := by
  refine own_met (plainFor_of_name pn_4) fun p e s m below meth c T0 X0 hx hby hml hret hlk hZ hown hnm e0 => ?_
  refine own_cast (ef_4 m a) ?_
  exact bk4_0 l Z a0 hw h0 a wz Sc F_coder_a  hwz X0 hx hby hml hret hlk hZ hown hnm e0
theorem d6_0 : decode jdk_42_method_152_code 0 = .ok (.getstatic 38, 3) := by decide +kernel
theorem d6_3 : decode jdk_42_method_152_code 3 = .ok (.ifCond .eq 10, 3) := by decide +kernel
theorem d6_6 : decode jdk_42_method_152_code 6 = .ok (.aload_n 0, 1) := by decide +kernel
theorem d6_7 : decode jdk_42_method_152_code 7 = .ok (.getfield 15, 3) := by decide +kernel
theorem d6_10 : decode jdk_42_method_152_code 10 = .ok (.goto 4, 3) := by decide +kernel
theorem d6_14 : decode jdk_42_method_152_code 14 = .ok (.ireturn, 1) := by decide +kernel
theorem pn_6 : plainName "java/lang/String" = true := by first | (simp [plainName, overriddenIn]; done) | decide +kernel
theorem ef_6 (m : MethodId) (y0 : Addr) : entryFrame m #[(.ref y0)] 1 = mkF m 0 #[.val (.ref y0)] [] := by first | (simp [entryFrame, mkF, argsToLocals, Value.category]; done) | rfl
def f6_14 (wz : Int32) (y0 : Int32) : Int32 := (nar .byte y0)
set_option maxRecDepth 65536 in
set_option maxHeartbeats 40000000 in
theorem bk6_14 (l : Launch) (Z : State) (a0 : Array Value) (hw : ∀ d ∈ tables_1, d.before a0 Z = true) (h0 : Heap) (a : Addr)  (wz : Int32) (Sc : Sta Z h0 "java/lang/String" "COMPACT_STRINGS" "Z" (.int wz)) (F_coder_a : Fld Z h0 a "java/lang/String" "coder" "B" (.int (0 : Int32))) (y0 : Int32) (hwz : ¬ wz = (0 : Int32)) {p : Program} {e : Env} {s : State} {m : MethodId} {args : Array Value} {below : List Frame} {meth : Method} {c : Code} {T0 : State}
    (X0 : Stand p l e ({ frames := 0, cells := 0, slots := 0, locals := 0 } : Room) s m args below meth c T0 [] 0 0) (hx : p.tables.exec = Jvm.exec) (hby : c.code = jdk_42_method_152_code) (hml : c.maxLocals = 1) (hret : meth.sig.returnType = (some .byte)) (hlk : meth.locks = false) (hZ : Z.Warmed39 s.vm) (hown : s.vm.findClass "java/lang/String" = some m.cls) (hnm : meth.name = "coder") (e0 : T0.heap = h0) :
    own_Go p e below s (own_Qp (some (.int (f6_14 wz y0))) h0) 0 0 (T0.setTop (mkF m 14 #[.val (.ref a)] [(.int y0)])) := by
  have hf : f6_14 wz y0 = (nar .byte y0) := rfl
  exact own_retN (t := .byte) (by simp) X0 hx hlk hret (z' := (nar .byte y0)) rfl (hb hby d6_14) ⟨by rw [hf], rfl, e0⟩ (by decide) (by decide)
def f6_0 (wz : Int32)  : Int32 := (f6_14 wz (0 : Int32))
set_option maxRecDepth 65536 in
set_option maxHeartbeats 40000000 in
theorem bk6_0 (l : Launch) (Z : State) (a0 : Array Value) (hw : ∀ d ∈ tables_1, d.before a0 Z = true) (h0 : Heap) (a : Addr)  (wz : Int32) (Sc : Sta Z h0 "java/lang/String" "COMPACT_STRINGS" "Z" (.int wz)) (F_coder_a : Fld Z h0 a "java/lang/String" "coder" "B" (.int (0 : Int32)))  (hwz : ¬ wz = (0 : Int32)) {p : Program} {e : Env} {s : State} {m : MethodId} {args : Array Value} {below : List Frame} {meth : Method} {c : Code} {T0 : State}
    (X0 : Stand p l e ({ frames := 0, cells := 0, slots := 0, locals := 0 } : Room) s m args below meth c T0 [] 0 0) (hx : p.tables.exec = Jvm.exec) (hby : c.code = jdk_42_method_152_code) (hml : c.maxLocals = 1) (hret : meth.sig.returnType = (some .byte)) (hlk : meth.locks = false) (hZ : Z.Warmed39 s.vm) (hown : s.vm.findClass "java/lang/String" = some m.cls) (hnm : meth.name = "coder") (e0 : T0.heap = h0) :
    own_Go p e below s (own_Qp (some (.int (f6_0 wz ))) h0) 0 0 (T0.setTop (mkF m 0 #[.val (.ref a)] [])) := by
  have hf : f6_0 wz  = (f6_14 wz (0 : Int32)) := rfl
  obtain ⟨T1, X1, e1, st1⟩ := getS2 X0 hx hZ hown (host := "") (Or.inl (hw _ (List.mem_of_getElem? (i := 27) rfl))) Via.refl e0 Sc (g := (mkF m 0 #[.val (.ref a)] [])) rfl (hb hby d6_0)
  refine own_by (B := T1.setTop (mkF m 3 #[.val (.ref a)] [(.int wz)])) (fun t k => st1 _ k) ?_
  have hc2 : ¬ (wz = (0 : Int32)) := hwz
  refine own_by (B := T1.setTop (mkF m 6 #[.val (.ref a)] [])) (fun t k => XS.ifNo X1.here hx rfl (hb hby d6_3) rfl ((if0 _ _).trans (feq hc2).1) k) ?_
  refine own_by (B := T1.setTop (mkF m 7 #[.val (.ref a)] [(.ref a)])) (fun t k => XS.aloadN X1.here hx rfl (hb hby d6_6) rfl rfl k) ?_
  obtain ⟨T3, X3, e3, st3⟩ := getF X1 hx hZ hown (host := "") (Or.inl (hw _ (List.mem_of_getElem? (i := 28) rfl))) Via.refl e1 F_coder_a (g := (mkF m 7 #[.val (.ref a)] [(.ref a)])) rfl rfl (hb hby d6_7)
  refine own_by (B := T3.setTop (mkF m 10 #[.val (.ref a)] [(.int (0 : Int32))])) (fun t k => st3 _ k) ?_
  refine own_by (B := T3.setTop (mkF m 14 #[.val (.ref a)] [(.int (0 : Int32))])) (fun t k => XS.goto X3.here hx rfl (pc0 := 10) (pc' := 14) rfl (hb hby d6_10) (by decide) (by decide) k) ?_
  rw [hf]
  exact bk6_14 l Z a0 hw h0 a wz Sc F_coder_a (0 : Int32) hwz X3 hx hby hml hret hlk hZ hown hnm e3
set_option maxRecDepth 65536 in
set_option maxHeartbeats 40000000 in
theorem rm6 (l : Launch) (Z : State) (a0 : Array Value) (hw : ∀ d ∈ tables_1, d.before a0 Z = true) (ws : List Jvm.Cond) (a : Addr)  (wz : Int32) (h0 : Heap) (Sc : Sta Z h0 "java/lang/String" "COMPACT_STRINGS" "Z" (.int wz)) (F_coder_a : Fld Z h0 a "java/lang/String" "coder" "B" (.int (0 : Int32))) (hwz : ¬ wz = (0 : Int32)) :
    MetFree l (⟨"java/lang/String", "coder", "()B"⟩ : MethodName) (head1 (Jvm.Cond.code (⟨"java/lang/String", "coder", "()B"⟩ : MethodName) jdk_42_method_152_code 1 (some .byte) :: ws) ({ frames := 0, cells := 0, slots := 0, locals := 0 } : Room)) (fun aa U => aa = #[(.ref a)] ∧ Z.Warmed39 U.vm ∧ U.heap = h0) (fun _ _ _ _ _ => True) (fun _ U o U' => ∃ v L, o = .returned v ∧ own_Qp (some (.int (f6_0 wz ))) h0 v U'.heap L ∧ FrameEnd U o U' L ({ frames := 0, cells := 0, slots := 0, locals := 0 } : Room).cells ({ frames := 0, cells := 0, slots := 0, locals := 0 } : Room).slots) := by
  refine own_met (plainFor_of_name pn_6) fun p e s m below meth c T0 X0 hx hby hml hret hlk hZ hown hnm e0 => ?_
  refine own_cast (ef_6 m a) ?_
  exact bk6_0 l Z a0 hw h0 a wz Sc F_coder_a  hwz X0 hx hby hml hret hlk hZ hown hnm e0
theorem d5_0 : decode jdk_42_method_54_code 0 = .ok (.aload_n 0, 1) := by decide +kernel
theorem d5_1 : decode jdk_42_method_54_code 1 = .ok (.getfield 9, 3) := by decide +kernel
theorem d5_4 : decode jdk_42_method_54_code 4 = .ok (.arraylength, 1) := by decide +kernel
theorem d5_5 : decode jdk_42_method_54_code 5 = .ok (.aload_n 0, 1) := by decide +kernel
theorem d5_6 : decode jdk_42_method_54_code 6 = .ok (.invokevirtual 335, 3) := by decide +kernel
theorem d5_9 : decode jdk_42_method_54_code 9 = .ok (.ishr, 1) := by decide +kernel
theorem d5_10 : decode jdk_42_method_54_code 10 = .ok (.ireturn, 1) := by decide +kernel
theorem pn_5 : plainName "java/lang/String" = true := by first | (simp [plainName, overriddenIn]; done) | decide +kernel
theorem ef_5 (m : MethodId) (y0 : Addr) : entryFrame m #[(.ref y0)] 1 = mkF m 0 #[.val (.ref y0)] [] := by first | (simp [entryFrame, mkF, argsToLocals, Value.category]; done) | rfl
def f5_0 (b : Addr) (wz : Int32) (ff : Nat → Int32)  : Int32 := ((15 : Int32) >>> ((f6_0 wz) &&& 31))
set_option maxRecDepth 65536 in
set_option maxHeartbeats 40000000 in
theorem bk5_0 (l : Launch) (Z : State) (a0 : Array Value) (hw : ∀ d ∈ tables_1, d.before a0 Z = true) (h0 : Heap) (a : Addr)  (b : Addr) (wz : Int32) (ff : Nat → Int32) (Sc : Sta Z h0 "java/lang/String" "COMPACT_STRINGS" "Z" (.int wz)) (F_coder_a : Fld Z h0 a "java/lang/String" "coder" "B" (.int (0 : Int32))) (F_value_a : Fld Z h0 a "java/lang/String" "value" "[B" (.ref b)) (E_a : Exa Z h0 a "java/lang/String") (V_b : own_BA Z h0 b .byte 15 ff)  (hwz : ¬ wz = (0 : Int32)) {p : Program} {e : Env} {s : State} {m : MethodId} {args : Array Value} {below : List Frame} {meth : Method} {c : Code} {T0 : State}
    (X0 : Stand p l e ({ frames := 1, cells := 0, slots := 0, locals := 13 } : Room) s m args below meth c T0 [] 0 0) (hx : p.tables.exec = Jvm.exec) (hby : c.code = jdk_42_method_54_code) (hml : c.maxLocals = 1) (hret : meth.sig.returnType = (some .int)) (hlk : meth.locks = false) (hZ : Z.Warmed39 s.vm) (hown : s.vm.findClass "java/lang/String" = some m.cls) (hnm : meth.name = "length") (e0 : T0.heap = h0) :
    own_Go p e below s (own_Qp (some (.int (f5_0 b wz ff ))) h0) 0 0 (T0.setTop (mkF m 0 #[.val (.ref a)] [])) := by
  have hf : f5_0 b wz ff  = ((15 : Int32) >>> ((f6_0 wz) &&& 31)) := rfl
  refine own_by (B := T0.setTop (mkF m 1 #[.val (.ref a)] [(.ref a)])) (fun t k => XS.aloadN X0.here hx rfl (hb hby d5_0) rfl rfl k) ?_
  obtain ⟨T1, X1, e1, st1⟩ := getF X0 hx hZ hown (host := "") (Or.inl (hw _ (List.mem_of_getElem? (i := 29) rfl))) Via.refl e0 F_value_a (g := (mkF m 1 #[.val (.ref a)] [(.ref a)])) rfl rfl (hb hby d5_1)
  refine own_by (B := T1.setTop (mkF m 4 #[.val (.ref a)] [(.ref b)])) (fun t k => st1 _ k) ?_
  obtain ⟨cl2, Ar2, S2, H2⟩ := V_b
  have hle2 : cl2.slots.size.toInt32 = (15 : Int32) := by rw [S2]; rfl
  refine own_by (B := T1.setTop (mkF m 5 #[.val (.ref a)] [(.int (15 : Int32))])) (fun t k => X1.arraylength hx (by rw [e1]; exact Ar2.1) (State.isArrayOf_alike hZ.alike Ar2.2.1) (g := (mkF m 4 #[.val (.ref a)] [(.ref b)])) rfl rfl (hb hby d5_4) _ (by rw [hle2]; exact k)) ?_
  have V_b : own_BA Z h0 b .byte 15 ff := ⟨cl2, Ar2, S2, H2⟩
  refine own_by (B := T1.setTop (mkF m 6 #[.val (.ref a)] [(.ref a), (.int (15 : Int32))])) (fun t k => XS.aloadN X1.here hx rfl (hb hby d5_5) rfl rfl k) ?_
  obtain ⟨cq3, kq3, q3a, q3b, q3c⟩ := isOf hZ e1 E_a
  obtain ⟨v3, _, ⟨T3, L3, c3, n3⟩, -, X3, ⟨Lc3, hQ3, l3, y3, z3⟩, st3⟩ := X1.virtualBack hx (y := (⟨"java/lang/String", "coder", "()B"⟩ : MethodName)) (z := (⟨"java/lang/String", "coder", "()B"⟩ : MethodName)) hown (mvT hZ (hw _ (List.mem_of_getElem? (i := 35) rfl))) (mvT hZ (hw _ (List.mem_of_getElem? (i := 36) rfl))) (notFace_of_selects (args := #[]) (mvT hZ (hw _ (List.mem_of_getElem? (i := 38) rfl)))) (mvT hZ (hw _ (List.mem_of_getElem? (i := 38) rfl))) (mvT hZ (hw _ (List.mem_of_getElem? (i := 37) rfl))) (by decide) (backOf (W := 1) (rm6 l Z a0 hw [] a wz h0 Sc F_coder_a hwz) hZ (hw _ (List.mem_of_getElem? (i := 39) rfl)) (hw _ (List.mem_of_getElem? (i := 5) rfl)) (by decide) (by decide)) q3a q3c (g := (mkF m 6 #[.val (.ref a)] [(.ref a), (.int (15 : Int32))])) rfl (by rw [hml]; rfl) (Steps.refl _) (argsL := []) (rest := [(.int (15 : Int32))]) (lenOf pd_0 rfl) rfl (by show 2 * 0 + _ ≤ _; exact Nat.le_of_eq rfl) (hb hby d5_6) (fun _ _ => ⟨rfl, e1, (by decide : 0 + 0 ≤ _), (by decide : 0 + 0 ≤ _)⟩)
  dsimp only [Pt.U, Pt.locs, Pt.cells, Pt.slots] at X3 l3 y3 z3 st3 hQ3
  subst l3 y3 z3
  obtain ⟨rfl, rfl, e3⟩ := hQ3
  refine own_by (B := T3.setTop (mkF m 9 #[.val (.ref a)] [(.int (f6_0 wz)), (.int (15 : Int32))])) (fun t k => st3.trans k) ?_
  refine own_by (B := T3.setTop (mkF m 10 #[.val (.ref a)] [(.int ((15 : Int32) >>> ((f6_0 wz) &&& 31)))])) (fun t k => XS.ishr X3.here hx rfl (hb hby d5_9) rfl k) ?_
  exact own_retI X3 hx hlk hret (hb hby d5_10) ⟨by rw [hf], rfl, e3⟩ (by decide) (by decide)
set_option maxRecDepth 65536 in
set_option maxHeartbeats 40000000 in
theorem rm5 (l : Launch) (Z : State) (a0 : Array Value) (hw : ∀ d ∈ tables_1, d.before a0 Z = true) (ws : List Jvm.Cond) (a : Addr)  (b : Addr) (wz : Int32) (ff : Nat → Int32) (h0 : Heap) (Sc : Sta Z h0 "java/lang/String" "COMPACT_STRINGS" "Z" (.int wz)) (F_coder_a : Fld Z h0 a "java/lang/String" "coder" "B" (.int (0 : Int32))) (F_value_a : Fld Z h0 a "java/lang/String" "value" "[B" (.ref b)) (E_a : Exa Z h0 a "java/lang/String") (V_b : own_BA Z h0 b .byte 15 ff) (hwz : ¬ wz = (0 : Int32)) :
    MetFree l (⟨"java/lang/String", "length", "()I"⟩ : MethodName) (head1 (Jvm.Cond.code (⟨"java/lang/String", "length", "()I"⟩ : MethodName) jdk_42_method_54_code 1 (some .int) :: ws) ({ frames := 1, cells := 0, slots := 0, locals := 13 } : Room)) (fun aa U => aa = #[(.ref a)] ∧ Z.Warmed39 U.vm ∧ U.heap = h0) (fun _ _ _ _ _ => True) (fun _ U o U' => ∃ v L, o = .returned v ∧ own_Qp (some (.int (f5_0 b wz ff ))) h0 v U'.heap L ∧ FrameEnd U o U' L ({ frames := 1, cells := 0, slots := 0, locals := 13 } : Room).cells ({ frames := 1, cells := 0, slots := 0, locals := 13 } : Room).slots) := by
  refine own_met (plainFor_of_name pn_5) fun p e s m below meth c T0 X0 hx hby hml hret hlk hZ hown hnm e0 => ?_
  refine own_cast (ef_5 m a) ?_
  exact bk5_0 l Z a0 hw h0 a b wz ff Sc F_coder_a F_value_a E_a V_b  hwz X0 hx hby hml hret hlk hZ hown hnm e0
theorem own_lat (wz : Int32) : ¬ ((f4_0 wz) = (0 : Int32)) := (by decide : ¬ (nar .boolean (1 : Int32)) = 0)
theorem own_len (b : Addr) (wz : Int32) (ff : Nat → Int32) : (f5_0 b wz ff) = (15 : Int32) := (by decide : (((15 : Int32) >>> ((nar .byte (0 : Int32)) &&& 31)) = (15 : Int32)))
theorem d8_0 : decode jdk_43_method_4_code 0 = .ok (.iload_n 0, 1) := by decide +kernel
theorem d8_1 : decode jdk_43_method_4_code 1 = .ok (.ifCond .lt 14, 3) := by decide +kernel
theorem d8_4 : decode jdk_43_method_4_code 4 = .ok (.iload_n 0, 1) := by decide +kernel
theorem d8_5 : decode jdk_43_method_4_code 5 = .ok (.sipush 255, 3) := by decide +kernel
theorem d8_8 : decode jdk_43_method_4_code 8 = .ok (.if_icmp .gt 7, 3) := by decide +kernel
theorem d8_11 : decode jdk_43_method_4_code 11 = .ok (.iconst 1, 1) := by decide +kernel
theorem d8_12 : decode jdk_43_method_4_code 12 = .ok (.goto 4, 3) := by decide +kernel
theorem d8_15 : decode jdk_43_method_4_code 15 = .ok (.iconst 0, 1) := by decide +kernel
theorem d8_16 : decode jdk_43_method_4_code 16 = .ok (.ireturn, 1) := by decide +kernel
theorem pn_8 : plainName "java/lang/StringLatin1" = true := by first | (simp [plainName, overriddenIn]; done) | decide +kernel
theorem ef_8 (m : MethodId) (y0 : Int32) : entryFrame m #[(.int y0)] 1 = mkF m 0 #[.val (.int y0)] [] := by first | (simp [entryFrame, mkF, argsToLocals, Value.category]; done) | rfl
def f8_16  (x0 : Int32) (y0 : Int32) : Int32 := (nar .boolean y0)
set_option maxRecDepth 65536 in
set_option maxHeartbeats 40000000 in
theorem bk8_16 (l : Launch) (Z : State) (a0 : Array Value) (hw : ∀ d ∈ tables_1, d.before a0 Z = true) (h0 : Heap)     (x0 : Int32) (y0 : Int32)  {p : Program} {e : Env} {s : State} {m : MethodId} {args : Array Value} {below : List Frame} {meth : Method} {c : Code} {T0 : State}
    (X0 : Stand p l e ({ frames := 0, cells := 0, slots := 0, locals := 0 } : Room) s m args below meth c T0 [] 0 0) (hx : p.tables.exec = Jvm.exec) (hby : c.code = jdk_43_method_4_code) (hml : c.maxLocals = 1) (hret : meth.sig.returnType = (some .boolean)) (hlk : meth.locks = false) (hZ : Z.Warmed39 s.vm) (hown : s.vm.findClass "java/lang/StringLatin1" = some m.cls) (hnm : meth.name = "canEncode") (e0 : T0.heap = h0) :
    own_Go p e below s (own_Qp (some (.int (f8_16  x0 y0))) h0) 0 0 (T0.setTop (mkF m 16 #[.val (.int x0)] [(.int y0)])) := by
  have hf : f8_16  x0 y0 = (nar .boolean y0) := rfl
  exact own_retN (t := .boolean) (by simp) X0 hx hlk hret (z' := (nar .boolean y0)) rfl (hb hby d8_16) ⟨by rw [hf], rfl, e0⟩ (by decide) (by decide)
def f8_15  (x0 : Int32) : Int32 := (f8_16  x0 (0 : Int32))
set_option maxRecDepth 65536 in
set_option maxHeartbeats 40000000 in
theorem bk8_15 (l : Launch) (Z : State) (a0 : Array Value) (hw : ∀ d ∈ tables_1, d.before a0 Z = true) (h0 : Heap)     (x0 : Int32)  {p : Program} {e : Env} {s : State} {m : MethodId} {args : Array Value} {below : List Frame} {meth : Method} {c : Code} {T0 : State}
    (X0 : Stand p l e ({ frames := 0, cells := 0, slots := 0, locals := 0 } : Room) s m args below meth c T0 [] 0 0) (hx : p.tables.exec = Jvm.exec) (hby : c.code = jdk_43_method_4_code) (hml : c.maxLocals = 1) (hret : meth.sig.returnType = (some .boolean)) (hlk : meth.locks = false) (hZ : Z.Warmed39 s.vm) (hown : s.vm.findClass "java/lang/StringLatin1" = some m.cls) (hnm : meth.name = "canEncode") (e0 : T0.heap = h0) :
    own_Go p e below s (own_Qp (some (.int (f8_15  x0))) h0) 0 0 (T0.setTop (mkF m 15 #[.val (.int x0)] [])) := by
  have hf : f8_15  x0 = (f8_16  x0 (0 : Int32)) := rfl
  refine own_by (B := T0.setTop (mkF m 16 #[.val (.int x0)] [(.int (0 : Int32))])) (fun t k => XS.iconst X0.here hx rfl (hb hby d8_15) k) ?_
  rw [hf]
  exact bk8_16 l Z a0 hw h0   x0 (0 : Int32)  X0 hx hby hml hret hlk hZ hown hnm e0
def f8_0  (x0 : Int32) : Int32 := (if x0 < (0 : Int32) then (f8_15  x0) else (if (255 : Int32) < x0 then (f8_15  x0) else (f8_16  x0 (1 : Int32))))
set_option maxRecDepth 65536 in
set_option maxHeartbeats 40000000 in
theorem bk8_0 (l : Launch) (Z : State) (a0 : Array Value) (hw : ∀ d ∈ tables_1, d.before a0 Z = true) (h0 : Heap)     (x0 : Int32)  {p : Program} {e : Env} {s : State} {m : MethodId} {args : Array Value} {below : List Frame} {meth : Method} {c : Code} {T0 : State}
    (X0 : Stand p l e ({ frames := 0, cells := 0, slots := 0, locals := 0 } : Room) s m args below meth c T0 [] 0 0) (hx : p.tables.exec = Jvm.exec) (hby : c.code = jdk_43_method_4_code) (hml : c.maxLocals = 1) (hret : meth.sig.returnType = (some .boolean)) (hlk : meth.locks = false) (hZ : Z.Warmed39 s.vm) (hown : s.vm.findClass "java/lang/StringLatin1" = some m.cls) (hnm : meth.name = "canEncode") (e0 : T0.heap = h0) :
    own_Go p e below s (own_Qp (some (.int (f8_0  x0))) h0) 0 0 (T0.setTop (mkF m 0 #[.val (.int x0)] [])) := by
  have hf : f8_0  x0 = (if x0 < (0 : Int32) then (f8_15  x0) else (if (255 : Int32) < x0 then (f8_15  x0) else (f8_16  x0 (1 : Int32)))) := rfl
  refine own_by (B := T0.setTop (mkF m 1 #[.val (.int x0)] [(.int x0)])) (fun t k => XS.iloadN X0.here hx rfl (hb hby d8_0) rfl k) ?_
  by_cases hc1 : x0 < (0 : Int32)
  ·
    rw [if_pos hc1] at hf
    refine own_by (B := T0.setTop (mkF m 15 #[.val (.int x0)] [])) (fun t k => XS.ifYes X0.here hx rfl (pc0 := 1) (pc' := 15) rfl (hb hby d8_1) rfl ((if0 _ _).trans (tlt hc1).1) (by decide) (by decide) k) ?_
    rw [hf]
    exact bk8_15 l Z a0 hw h0   x0  X0 hx hby hml hret hlk hZ hown hnm e0
  ·
    rw [if_neg hc1] at hf
    refine own_by (B := T0.setTop (mkF m 4 #[.val (.int x0)] [])) (fun t k => XS.ifNo X0.here hx rfl (hb hby d8_1) rfl ((if0 _ _).trans (flt hc1).1) k) ?_
    refine own_by (B := T0.setTop (mkF m 5 #[.val (.int x0)] [(.int x0)])) (fun t k => XS.iloadN X0.here hx rfl (hb hby d8_4) rfl k) ?_
    refine own_by (B := T0.setTop (mkF m 8 #[.val (.int x0)] [(.int (255 : Int32)), (.int x0)])) (fun t k => XS.sipush X0.here hx rfl (hb hby d8_5) k) ?_
    by_cases hc2 : (255 : Int32) < x0
    ·
      rw [if_pos hc2] at hf
      refine own_by (B := T0.setTop (mkF m 15 #[.val (.int x0)] [])) (fun t k => XS.icmpYes X0.here hx rfl (pc0 := 8) (pc' := 15) rfl (hb hby d8_8) rfl (tlt hc2).2.2.1 (by decide) (by decide) k) ?_
      rw [hf]
      exact bk8_15 l Z a0 hw h0   x0  X0 hx hby hml hret hlk hZ hown hnm e0
    ·
      rw [if_neg hc2] at hf
      refine own_by (B := T0.setTop (mkF m 11 #[.val (.int x0)] [])) (fun t k => XS.icmpNo X0.here hx rfl (hb hby d8_8) rfl (flt hc2).2.2.1 k) ?_
      refine own_by (B := T0.setTop (mkF m 12 #[.val (.int x0)] [(.int (1 : Int32))])) (fun t k => XS.iconst X0.here hx rfl (hb hby d8_11) k) ?_
      refine own_by (B := T0.setTop (mkF m 16 #[.val (.int x0)] [(.int (1 : Int32))])) (fun t k => XS.goto X0.here hx rfl (pc0 := 12) (pc' := 16) rfl (hb hby d8_12) (by decide) (by decide) k) ?_
      rw [hf]
      exact bk8_16 l Z a0 hw h0   x0 (1 : Int32)  X0 hx hby hml hret hlk hZ hown hnm e0
set_option maxRecDepth 65536 in
set_option maxHeartbeats 40000000 in
theorem rm8 (l : Launch) (Z : State) (a0 : Array Value) (hw : ∀ d ∈ tables_1, d.before a0 Z = true) (ws : List Jvm.Cond) (x0 : Int32)   (h0 : Heap)   :
    MetFree l (⟨"java/lang/StringLatin1", "canEncode", "(I)Z"⟩ : MethodName) (head1 (Jvm.Cond.code (⟨"java/lang/StringLatin1", "canEncode", "(I)Z"⟩ : MethodName) jdk_43_method_4_code 1 (some .boolean) :: ws) ({ frames := 0, cells := 0, slots := 0, locals := 0 } : Room)) (fun aa U => aa = #[(.int x0)] ∧ Z.Warmed39 U.vm ∧ U.heap = h0) (fun _ _ _ _ _ => True) (fun _ U o U' => ∃ v L, o = .returned v ∧ own_Qp (some (.int (f8_0  x0))) h0 v U'.heap L ∧ FrameEnd U o U' L ({ frames := 0, cells := 0, slots := 0, locals := 0 } : Room).cells ({ frames := 0, cells := 0, slots := 0, locals := 0 } : Room).slots) := by
  refine own_met (plainFor_of_name pn_8) fun p e s m below meth c T0 X0 hx hby hml hret hlk hZ hown hnm e0 => ?_
  refine own_cast (ef_8 m x0) ?_
  exact bk8_0 l Z a0 hw h0   x0  X0 hx hby hml hret hlk hZ hown hnm e0
theorem d9_0 : decode jdk_29_method_65_code 0 = .ok (.iload_n 0, 1) := by decide +kernel
theorem d9_1 : decode jdk_29_method_65_code 1 = .ok (.iload_n 1, 1) := by decide +kernel
theorem d9_2 : decode jdk_29_method_65_code 2 = .ok (.if_icmp .lt 7, 3) := by decide +kernel
theorem d9_5 : decode jdk_29_method_65_code 5 = .ok (.iload_n 0, 1) := by decide +kernel
theorem d9_6 : decode jdk_29_method_65_code 6 = .ok (.goto 4, 3) := by decide +kernel
theorem d9_9 : decode jdk_29_method_65_code 9 = .ok (.iload_n 1, 1) := by decide +kernel
theorem d9_10 : decode jdk_29_method_65_code 10 = .ok (.ireturn, 1) := by decide +kernel
theorem ef_9 (m : MethodId) (y0 : Int32) (y1 : Int32) : entryFrame m #[(.int y0), (.int y1)] 2 = mkF m 0 #[.val (.int y0), .val (.int y1)] [] := by first | (simp [entryFrame, mkF, argsToLocals, Value.category]; done) | rfl
def f9_10  (x0 : Int32) (x1 : Int32) (y0 : Int32) : Int32 := y0
set_option maxRecDepth 65536 in
set_option maxHeartbeats 40000000 in
theorem bk9_10 (l : Launch) (Z : State) (a0 : Array Value) (hw : ∀ d ∈ tables_1, d.before a0 Z = true) (h0 : Heap)     (x0 : Int32) (x1 : Int32) (y0 : Int32)  {p : Program} {e : Env} {s : State} {m : MethodId} {args : Array Value} {below : List Frame} {meth : Method} {c : Code} {T0 : State}
    (X0 : Stand p l e ({ frames := 0, cells := 0, slots := 0, locals := 0 } : Room) s m args below meth c T0 [] 0 0) (hx : p.tables.exec = Jvm.exec) (hby : c.code = jdk_29_method_65_code) (hml : c.maxLocals = 2) (hret : meth.sig.returnType = (some .int)) (hlk : meth.locks = false) (hZ : Z.Warmed39 s.vm) (hown : s.vm.findClass "java/lang/Math" = some m.cls) (hnm : meth.name = "max") (e0 : T0.heap = h0) :
    own_Go p e below s (own_Qp (some (.int (f9_10  x0 x1 y0))) h0) 0 0 (T0.setTop (mkF m 10 #[.val (.int x0), .val (.int x1)] [(.int y0)])) := by
  have hf : f9_10  x0 x1 y0 = y0 := rfl
  exact own_retI X0 hx hlk hret (hb hby d9_10) ⟨by rw [hf], rfl, e0⟩ (by decide) (by decide)
def f9_0  (x0 : Int32) (x1 : Int32) : Int32 := (if x0 < x1 then (f9_10  x0 x1 x1) else (f9_10  x0 x1 x0))
set_option maxRecDepth 65536 in
set_option maxHeartbeats 40000000 in
theorem bk9_0 (l : Launch) (Z : State) (a0 : Array Value) (hw : ∀ d ∈ tables_1, d.before a0 Z = true) (h0 : Heap)     (x0 : Int32) (x1 : Int32)  {p : Program} {e : Env} {s : State} {m : MethodId} {args : Array Value} {below : List Frame} {meth : Method} {c : Code} {T0 : State}
    (X0 : Stand p l e ({ frames := 0, cells := 0, slots := 0, locals := 0 } : Room) s m args below meth c T0 [] 0 0) (hx : p.tables.exec = Jvm.exec) (hby : c.code = jdk_29_method_65_code) (hml : c.maxLocals = 2) (hret : meth.sig.returnType = (some .int)) (hlk : meth.locks = false) (hZ : Z.Warmed39 s.vm) (hown : s.vm.findClass "java/lang/Math" = some m.cls) (hnm : meth.name = "max") (e0 : T0.heap = h0) :
    own_Go p e below s (own_Qp (some (.int (f9_0  x0 x1))) h0) 0 0 (T0.setTop (mkF m 0 #[.val (.int x0), .val (.int x1)] [])) := by
  have hf : f9_0  x0 x1 = (if x0 < x1 then (f9_10  x0 x1 x1) else (f9_10  x0 x1 x0)) := rfl
  refine own_by (B := T0.setTop (mkF m 1 #[.val (.int x0), .val (.int x1)] [(.int x0)])) (fun t k => XS.iloadN X0.here hx rfl (hb hby d9_0) rfl k) ?_
  refine own_by (B := T0.setTop (mkF m 2 #[.val (.int x0), .val (.int x1)] [(.int x1), (.int x0)])) (fun t k => XS.iloadN X0.here hx rfl (hb hby d9_1) rfl k) ?_
  by_cases hc1 : x0 < x1
  ·
    rw [if_pos hc1] at hf
    refine own_by (B := T0.setTop (mkF m 9 #[.val (.int x0), .val (.int x1)] [])) (fun t k => XS.icmpYes X0.here hx rfl (pc0 := 2) (pc' := 9) rfl (hb hby d9_2) rfl (tlt hc1).1 (by decide) (by decide) k) ?_
    refine own_by (B := T0.setTop (mkF m 10 #[.val (.int x0), .val (.int x1)] [(.int x1)])) (fun t k => XS.iloadN X0.here hx rfl (hb hby d9_9) rfl k) ?_
    rw [hf]
    exact bk9_10 l Z a0 hw h0   x0 x1 x1  X0 hx hby hml hret hlk hZ hown hnm e0
  ·
    rw [if_neg hc1] at hf
    refine own_by (B := T0.setTop (mkF m 5 #[.val (.int x0), .val (.int x1)] [])) (fun t k => XS.icmpNo X0.here hx rfl (hb hby d9_2) rfl (flt hc1).1 k) ?_
    refine own_by (B := T0.setTop (mkF m 6 #[.val (.int x0), .val (.int x1)] [(.int x0)])) (fun t k => XS.iloadN X0.here hx rfl (hb hby d9_5) rfl k) ?_
    refine own_by (B := T0.setTop (mkF m 10 #[.val (.int x0), .val (.int x1)] [(.int x0)])) (fun t k => XS.goto X0.here hx rfl (pc0 := 6) (pc' := 10) rfl (hb hby d9_6) (by decide) (by decide) k) ?_
    rw [hf]
    exact bk9_10 l Z a0 hw h0   x0 x1 x0  X0 hx hby hml hret hlk hZ hown hnm e0
set_option maxRecDepth 65536 in
set_option maxHeartbeats 40000000 in
theorem rm9 (l : Launch) (Z : State) (a0 : Array Value) (hw : ∀ d ∈ tables_1, d.before a0 Z = true) (ws : List Jvm.Cond) (x0 : Int32) (x1 : Int32)   (h0 : Heap)   :
    MetFree l (⟨"java/lang/Math", "max", "(II)I"⟩ : MethodName) (head1 (Jvm.Cond.code (⟨"java/lang/Math", "max", "(II)I"⟩ : MethodName) jdk_29_method_65_code 2 (some .int) :: ws) ({ frames := 0, cells := 0, slots := 0, locals := 0 } : Room)) (fun aa U => aa = #[(.int x0), (.int x1)] ∧ Z.Warmed39 U.vm ∧ U.heap = h0) (fun _ _ _ _ _ => True) (fun _ U o U' => ∃ v L, o = .returned v ∧ own_Qp (some (.int (f9_0  x0 x1))) h0 v U'.heap L ∧ FrameEnd U o U' L ({ frames := 0, cells := 0, slots := 0, locals := 0 } : Room).cells ({ frames := 0, cells := 0, slots := 0, locals := 0 } : Room).slots) := by
  refine own_met (Jvm.Free.JP.mathPlain rfl (by decide +kernel)) fun p e s m below meth c T0 X0 hx hby hml hret hlk hZ hown hnm e0 => ?_
  refine own_cast (ef_9 m x0 x1) ?_
  exact bk9_0 l Z a0 hw h0   x0 x1  X0 hx hby hml hret hlk hZ hown hnm e0
theorem d10_0 : decode jdk_29_method_69_code 0 = .ok (.iload_n 0, 1) := by decide +kernel
theorem d10_1 : decode jdk_29_method_69_code 1 = .ok (.iload_n 1, 1) := by decide +kernel
theorem d10_2 : decode jdk_29_method_69_code 2 = .ok (.if_icmp .gt 7, 3) := by decide +kernel
theorem d10_5 : decode jdk_29_method_69_code 5 = .ok (.iload_n 0, 1) := by decide +kernel
theorem d10_6 : decode jdk_29_method_69_code 6 = .ok (.goto 4, 3) := by decide +kernel
theorem d10_9 : decode jdk_29_method_69_code 9 = .ok (.iload_n 1, 1) := by decide +kernel
theorem d10_10 : decode jdk_29_method_69_code 10 = .ok (.ireturn, 1) := by decide +kernel
theorem ef_10 (m : MethodId) (y0 : Int32) (y1 : Int32) : entryFrame m #[(.int y0), (.int y1)] 2 = mkF m 0 #[.val (.int y0), .val (.int y1)] [] := by first | (simp [entryFrame, mkF, argsToLocals, Value.category]; done) | rfl
def f10_10  (x0 : Int32) (x1 : Int32) (y0 : Int32) : Int32 := y0
set_option maxRecDepth 65536 in
set_option maxHeartbeats 40000000 in
theorem bk10_10 (l : Launch) (Z : State) (a0 : Array Value) (hw : ∀ d ∈ tables_1, d.before a0 Z = true) (h0 : Heap)     (x0 : Int32) (x1 : Int32) (y0 : Int32)  {p : Program} {e : Env} {s : State} {m : MethodId} {args : Array Value} {below : List Frame} {meth : Method} {c : Code} {T0 : State}
    (X0 : Stand p l e ({ frames := 0, cells := 0, slots := 0, locals := 0 } : Room) s m args below meth c T0 [] 0 0) (hx : p.tables.exec = Jvm.exec) (hby : c.code = jdk_29_method_69_code) (hml : c.maxLocals = 2) (hret : meth.sig.returnType = (some .int)) (hlk : meth.locks = false) (hZ : Z.Warmed39 s.vm) (hown : s.vm.findClass "java/lang/Math" = some m.cls) (hnm : meth.name = "min") (e0 : T0.heap = h0) :
    own_Go p e below s (own_Qp (some (.int (f10_10  x0 x1 y0))) h0) 0 0 (T0.setTop (mkF m 10 #[.val (.int x0), .val (.int x1)] [(.int y0)])) := by
  have hf : f10_10  x0 x1 y0 = y0 := rfl
  exact own_retI X0 hx hlk hret (hb hby d10_10) ⟨by rw [hf], rfl, e0⟩ (by decide) (by decide)
def f10_0  (x0 : Int32) (x1 : Int32) : Int32 := (if x1 < x0 then (f10_10  x0 x1 x1) else (f10_10  x0 x1 x0))
set_option maxRecDepth 65536 in
set_option maxHeartbeats 40000000 in
theorem bk10_0 (l : Launch) (Z : State) (a0 : Array Value) (hw : ∀ d ∈ tables_1, d.before a0 Z = true) (h0 : Heap)     (x0 : Int32) (x1 : Int32)  {p : Program} {e : Env} {s : State} {m : MethodId} {args : Array Value} {below : List Frame} {meth : Method} {c : Code} {T0 : State}
    (X0 : Stand p l e ({ frames := 0, cells := 0, slots := 0, locals := 0 } : Room) s m args below meth c T0 [] 0 0) (hx : p.tables.exec = Jvm.exec) (hby : c.code = jdk_29_method_69_code) (hml : c.maxLocals = 2) (hret : meth.sig.returnType = (some .int)) (hlk : meth.locks = false) (hZ : Z.Warmed39 s.vm) (hown : s.vm.findClass "java/lang/Math" = some m.cls) (hnm : meth.name = "min") (e0 : T0.heap = h0) :
    own_Go p e below s (own_Qp (some (.int (f10_0  x0 x1))) h0) 0 0 (T0.setTop (mkF m 0 #[.val (.int x0), .val (.int x1)] [])) := by
  have hf : f10_0  x0 x1 = (if x1 < x0 then (f10_10  x0 x1 x1) else (f10_10  x0 x1 x0)) := rfl
  refine own_by (B := T0.setTop (mkF m 1 #[.val (.int x0), .val (.int x1)] [(.int x0)])) (fun t k => XS.iloadN X0.here hx rfl (hb hby d10_0) rfl k) ?_
  refine own_by (B := T0.setTop (mkF m 2 #[.val (.int x0), .val (.int x1)] [(.int x1), (.int x0)])) (fun t k => XS.iloadN X0.here hx rfl (hb hby d10_1) rfl k) ?_
  by_cases hc1 : x1 < x0
  ·
    rw [if_pos hc1] at hf
    refine own_by (B := T0.setTop (mkF m 9 #[.val (.int x0), .val (.int x1)] [])) (fun t k => XS.icmpYes X0.here hx rfl (pc0 := 2) (pc' := 9) rfl (hb hby d10_2) rfl (tlt hc1).2.2.1 (by decide) (by decide) k) ?_
    refine own_by (B := T0.setTop (mkF m 10 #[.val (.int x0), .val (.int x1)] [(.int x1)])) (fun t k => XS.iloadN X0.here hx rfl (hb hby d10_9) rfl k) ?_
    rw [hf]
    exact bk10_10 l Z a0 hw h0   x0 x1 x1  X0 hx hby hml hret hlk hZ hown hnm e0
  ·
    rw [if_neg hc1] at hf
    refine own_by (B := T0.setTop (mkF m 5 #[.val (.int x0), .val (.int x1)] [])) (fun t k => XS.icmpNo X0.here hx rfl (hb hby d10_2) rfl (flt hc1).2.2.1 k) ?_
    refine own_by (B := T0.setTop (mkF m 6 #[.val (.int x0), .val (.int x1)] [(.int x0)])) (fun t k => XS.iloadN X0.here hx rfl (hb hby d10_5) rfl k) ?_
    refine own_by (B := T0.setTop (mkF m 10 #[.val (.int x0), .val (.int x1)] [(.int x0)])) (fun t k => XS.goto X0.here hx rfl (pc0 := 6) (pc' := 10) rfl (hb hby d10_6) (by decide) (by decide) k) ?_
    rw [hf]
    exact bk10_10 l Z a0 hw h0   x0 x1 x0  X0 hx hby hml hret hlk hZ hown hnm e0
set_option maxRecDepth 65536 in
set_option maxHeartbeats 40000000 in
theorem rm10 (l : Launch) (Z : State) (a0 : Array Value) (hw : ∀ d ∈ tables_1, d.before a0 Z = true) (ws : List Jvm.Cond) (x0 : Int32) (x1 : Int32)   (h0 : Heap)   :
    MetFree l (⟨"java/lang/Math", "min", "(II)I"⟩ : MethodName) (head1 (Jvm.Cond.code (⟨"java/lang/Math", "min", "(II)I"⟩ : MethodName) jdk_29_method_69_code 2 (some .int) :: ws) ({ frames := 0, cells := 0, slots := 0, locals := 0 } : Room)) (fun aa U => aa = #[(.int x0), (.int x1)] ∧ Z.Warmed39 U.vm ∧ U.heap = h0) (fun _ _ _ _ _ => True) (fun _ U o U' => ∃ v L, o = .returned v ∧ own_Qp (some (.int (f10_0  x0 x1))) h0 v U'.heap L ∧ FrameEnd U o U' L ({ frames := 0, cells := 0, slots := 0, locals := 0 } : Room).cells ({ frames := 0, cells := 0, slots := 0, locals := 0 } : Room).slots) := by
  refine own_met (Jvm.Free.JP.mathPlain rfl (by decide +kernel)) fun p e s m below meth c T0 X0 hx hby hml hret hlk hZ hown hnm e0 => ?_
  refine own_cast (ef_10 m x0 x1) ?_
  exact bk10_0 l Z a0 hw h0   x0 x1  X0 hx hby hml hret hlk hZ hown hnm e0
theorem d11_0 : decode jdk_43_method_23_code 0 = .ok (.iload_n 1, 1) := by decide +kernel
theorem d11_1 : decode jdk_43_method_23_code 1 = .ok (.i2b, 1) := by decide +kernel
theorem d11_2 : decode jdk_43_method_23_code 2 = .ok (.istore 4, 2) := by decide +kernel
theorem d11_4 : decode jdk_43_method_23_code 4 = .ok (.iload_n 2, 1) := by decide +kernel
theorem d11_5 : decode jdk_43_method_23_code 5 = .ok (.istore 5, 2) := by decide +kernel
theorem d11_7 : decode jdk_43_method_23_code 7 = .ok (.iload 5, 2) := by decide +kernel
theorem d11_9 : decode jdk_43_method_23_code 9 = .ok (.iload_n 3, 1) := by decide +kernel
theorem d11_10 : decode jdk_43_method_23_code 10 = .ok (.if_icmp .ge 21, 3) := by decide +kernel
theorem d11_13 : decode jdk_43_method_23_code 13 = .ok (.aload_n 0, 1) := by decide +kernel
theorem d11_14 : decode jdk_43_method_23_code 14 = .ok (.iload 5, 2) := by decide +kernel
theorem d11_16 : decode jdk_43_method_23_code 16 = .ok (.baload, 1) := by decide +kernel
theorem d11_17 : decode jdk_43_method_23_code 17 = .ok (.iload 4, 2) := by decide +kernel
theorem d11_19 : decode jdk_43_method_23_code 19 = .ok (.if_icmp .ne 6, 3) := by decide +kernel
theorem d11_22 : decode jdk_43_method_23_code 22 = .ok (.iload 5, 2) := by decide +kernel
theorem d11_24 : decode jdk_43_method_23_code 24 = .ok (.ireturn, 1) := by decide +kernel
theorem d11_25 : decode jdk_43_method_23_code 25 = .ok (.iinc 5 1, 3) := by decide +kernel
theorem d11_28 : decode jdk_43_method_23_code 28 = .ok (.goto (-21), 3) := by decide +kernel
theorem d11_31 : decode jdk_43_method_23_code 31 = .ok (.iconst (-1), 1) := by decide +kernel
theorem d11_32 : decode jdk_43_method_23_code 32 = .ok (.ireturn, 1) := by decide +kernel
theorem pn_11 : plainName "java/lang/StringLatin1" = true := by first | (simp [plainName, overriddenIn]; done) | decide +kernel
theorem ef_11 (m : MethodId) (y0 : Addr) (y1 : Int32) (y2 : Int32) (y3 : Int32) : entryFrame m #[(.ref y0), (.int y1), (.int y2), (.int y3)] 6 = mkF m 0 #[.val (.ref y0), .val (.int y1), .val (.int y2), .val (.int y3), .unset, .unset] [] := by first | (simp [entryFrame, mkF, argsToLocals, Value.category]; done) | rfl
def f11_0 (ff : Nat → Int32) (x1 : Int32) : Int32 := (if (ff ((0 : Int32)).toNatClampNeg) = (x1.toInt8.toInt32) then (0 : Int32) else (if (ff ((1 : Int32)).toNatClampNeg) = (x1.toInt8.toInt32) then (1 : Int32) else (if (ff ((2 : Int32)).toNatClampNeg) = (x1.toInt8.toInt32) then (2 : Int32) else (if (ff ((3 : Int32)).toNatClampNeg) = (x1.toInt8.toInt32) then (3 : Int32) else (if (ff ((4 : Int32)).toNatClampNeg) = (x1.toInt8.toInt32) then (4 : Int32) else (if (ff ((5 : Int32)).toNatClampNeg) = (x1.toInt8.toInt32) then (5 : Int32) else (if (ff ((6 : Int32)).toNatClampNeg) = (x1.toInt8.toInt32) then (6 : Int32) else (if (ff ((7 : Int32)).toNatClampNeg) = (x1.toInt8.toInt32) then (7 : Int32) else (if (ff ((8 : Int32)).toNatClampNeg) = (x1.toInt8.toInt32) then (8 : Int32) else (if (ff ((9 : Int32)).toNatClampNeg) = (x1.toInt8.toInt32) then (9 : Int32) else (if (ff ((10 : Int32)).toNatClampNeg) = (x1.toInt8.toInt32) then (10 : Int32) else (if (ff ((11 : Int32)).toNatClampNeg) = (x1.toInt8.toInt32) then (11 : Int32) else (if (ff ((12 : Int32)).toNatClampNeg) = (x1.toInt8.toInt32) then (12 : Int32) else (if (ff ((13 : Int32)).toNatClampNeg) = (x1.toInt8.toInt32) then (13 : Int32) else (if (ff ((14 : Int32)).toNatClampNeg) = (x1.toInt8.toInt32) then (14 : Int32) else (-1 : Int32))))))))))))))))
set_option maxRecDepth 65536 in
set_option maxHeartbeats 40000000 in
theorem bk11_0 (l : Launch) (Z : State) (a0 : Array Value) (hw : ∀ d ∈ tables_1, d.before a0 Z = true) (h0 : Heap) (b : Addr)  (ff : Nat → Int32) (V_b : own_BA Z h0 b .byte 15 ff) (x1 : Int32)  {p : Program} {e : Env} {s : State} {m : MethodId} {args : Array Value} {below : List Frame} {meth : Method} {c : Code} {T0 : State}
    (X0 : Stand p l e ({ frames := 0, cells := 0, slots := 0, locals := 0 } : Room) s m args below meth c T0 [] 0 0) (hx : p.tables.exec = Jvm.exec) (hby : c.code = jdk_43_method_23_code) (hml : c.maxLocals = 6) (hret : meth.sig.returnType = (some .int)) (hlk : meth.locks = false) (hZ : Z.Warmed39 s.vm) (hown : s.vm.findClass "java/lang/StringLatin1" = some m.cls) (hnm : meth.name = "indexOfChar") (e0 : T0.heap = h0) :
    own_Go p e below s (own_Qp (some (.int (f11_0 ff x1))) h0) 0 0 (T0.setTop (mkF m 0 #[.val (.ref b), .val (.int x1), .val (.int (0 : Int32)), .val (.int (15 : Int32)), .unset, .unset] [])) := by
  have hf : f11_0 ff x1 = (if (ff ((0 : Int32)).toNatClampNeg) = (x1.toInt8.toInt32) then (0 : Int32) else (if (ff ((1 : Int32)).toNatClampNeg) = (x1.toInt8.toInt32) then (1 : Int32) else (if (ff ((2 : Int32)).toNatClampNeg) = (x1.toInt8.toInt32) then (2 : Int32) else (if (ff ((3 : Int32)).toNatClampNeg) = (x1.toInt8.toInt32) then (3 : Int32) else (if (ff ((4 : Int32)).toNatClampNeg) = (x1.toInt8.toInt32) then (4 : Int32) else (if (ff ((5 : Int32)).toNatClampNeg) = (x1.toInt8.toInt32) then (5 : Int32) else (if (ff ((6 : Int32)).toNatClampNeg) = (x1.toInt8.toInt32) then (6 : Int32) else (if (ff ((7 : Int32)).toNatClampNeg) = (x1.toInt8.toInt32) then (7 : Int32) else (if (ff ((8 : Int32)).toNatClampNeg) = (x1.toInt8.toInt32) then (8 : Int32) else (if (ff ((9 : Int32)).toNatClampNeg) = (x1.toInt8.toInt32) then (9 : Int32) else (if (ff ((10 : Int32)).toNatClampNeg) = (x1.toInt8.toInt32) then (10 : Int32) else (if (ff ((11 : Int32)).toNatClampNeg) = (x1.toInt8.toInt32) then (11 : Int32) else (if (ff ((12 : Int32)).toNatClampNeg) = (x1.toInt8.toInt32) then (12 : Int32) else (if (ff ((13 : Int32)).toNatClampNeg) = (x1.toInt8.toInt32) then (13 : Int32) else (if (ff ((14 : Int32)).toNatClampNeg) = (x1.toInt8.toInt32) then (14 : Int32) else (-1 : Int32)))))))))))))))) := rfl
  refine own_by (B := T0.setTop (mkF m 1 #[.val (.ref b), .val (.int x1), .val (.int (0 : Int32)), .val (.int (15 : Int32)), .unset, .unset] [(.int x1)])) (fun t k => XS.iloadN X0.here hx rfl (hb hby d11_0) rfl k) ?_
  refine own_by (B := T0.setTop (mkF m 2 #[.val (.ref b), .val (.int x1), .val (.int (0 : Int32)), .val (.int (15 : Int32)), .unset, .unset] [(.int (x1.toInt8.toInt32))])) (fun t k => XS.i2b X0.here hx rfl (hb hby d11_1) rfl k) ?_
  refine own_by (B := T0.setTop (mkF m 4 #[.val (.ref b), .val (.int x1), .val (.int (0 : Int32)), .val (.int (15 : Int32)), .val (.int (x1.toInt8.toInt32)), .unset] [])) (fun t k => XS.istore X0.here hx rfl (hb hby d11_2) rfl (l' := #[.val (.ref b), .val (.int x1), .val (.int (0 : Int32)), .val (.int (15 : Int32)), .val (.int (x1.toInt8.toInt32)), .unset]) rfl k) ?_
  refine own_by (B := T0.setTop (mkF m 5 #[.val (.ref b), .val (.int x1), .val (.int (0 : Int32)), .val (.int (15 : Int32)), .val (.int (x1.toInt8.toInt32)), .unset] [(.int (0 : Int32))])) (fun t k => XS.iloadN X0.here hx rfl (hb hby d11_4) rfl k) ?_
  refine own_by (B := T0.setTop (mkF m 7 #[.val (.ref b), .val (.int x1), .val (.int (0 : Int32)), .val (.int (15 : Int32)), .val (.int (x1.toInt8.toInt32)), .val (.int (0 : Int32))] [])) (fun t k => XS.istore X0.here hx rfl (hb hby d11_5) rfl (l' := #[.val (.ref b), .val (.int x1), .val (.int (0 : Int32)), .val (.int (15 : Int32)), .val (.int (x1.toInt8.toInt32)), .val (.int (0 : Int32))]) rfl k) ?_
  refine own_by (B := T0.setTop (mkF m 9 #[.val (.ref b), .val (.int x1), .val (.int (0 : Int32)), .val (.int (15 : Int32)), .val (.int (x1.toInt8.toInt32)), .val (.int (0 : Int32))] [(.int (0 : Int32))])) (fun t k => XS.iload X0.here hx rfl (hb hby d11_7) rfl k) ?_
  refine own_by (B := T0.setTop (mkF m 10 #[.val (.ref b), .val (.int x1), .val (.int (0 : Int32)), .val (.int (15 : Int32)), .val (.int (x1.toInt8.toInt32)), .val (.int (0 : Int32))] [(.int (15 : Int32)), (.int (0 : Int32))])) (fun t k => XS.iloadN X0.here hx rfl (hb hby d11_9) rfl k) ?_
  have hc1 : (0 : Int32) < (15 : Int32) := by decide
  refine own_by (B := T0.setTop (mkF m 13 #[.val (.ref b), .val (.int x1), .val (.int (0 : Int32)), .val (.int (15 : Int32)), .val (.int (x1.toInt8.toInt32)), .val (.int (0 : Int32))] [])) (fun t k => XS.icmpNo X0.here hx rfl (hb hby d11_10) rfl (tlt hc1).2.1 k) ?_
  refine own_by (B := T0.setTop (mkF m 14 #[.val (.ref b), .val (.int x1), .val (.int (0 : Int32)), .val (.int (15 : Int32)), .val (.int (x1.toInt8.toInt32)), .val (.int (0 : Int32))] [(.ref b)])) (fun t k => XS.aloadN X0.here hx rfl (hb hby d11_13) rfl rfl k) ?_
  refine own_by (B := T0.setTop (mkF m 16 #[.val (.ref b), .val (.int x1), .val (.int (0 : Int32)), .val (.int (15 : Int32)), .val (.int (x1.toInt8.toInt32)), .val (.int (0 : Int32))] [(.int (0 : Int32)), (.ref b)])) (fun t k => XS.iload X0.here hx rfl (hb hby d11_14) rfl k) ?_
  obtain ⟨cl2, Ar2, S2, H2⟩ := V_b
  have hin2 : ¬ ((0 : Int32) < 0 ∨ cl2.slots.size ≤ ((0 : Int32)).toNatClampNeg) := own_in S2 (by decide)
  have hat2 : cl2.slots[((0 : Int32)).toNatClampNeg]? = some (.int (ff ((0 : Int32)).toNatClampNeg)) := H2 _ (own_lt S2 hin2)
  refine own_by (B := T0.setTop (mkF m 17 #[.val (.ref b), .val (.int x1), .val (.int (0 : Int32)), .val (.int (15 : Int32)), .val (.int (x1.toInt8.toInt32)), .val (.int (0 : Int32))] [(.int (ff ((0 : Int32)).toNatClampNeg))])) (fun t k => X0.baloadBytes hx (j := (0 : Int32)) (v := (.int (ff ((0 : Int32)).toNatClampNeg))) (by rw [e0]; exact Ar2.1) (State.isArrayOf_alike hZ.alike Ar2.2.1) Ar2.2.2 hin2 hat2 (g := (mkF m 16 #[.val (.ref b), .val (.int x1), .val (.int (0 : Int32)), .val (.int (15 : Int32)), .val (.int (x1.toInt8.toInt32)), .val (.int (0 : Int32))] [(.int (0 : Int32)), (.ref b)])) rfl rfl (hb hby d11_16) _ k) ?_
  have V_b : own_BA Z h0 b .byte 15 ff := ⟨cl2, Ar2, S2, H2⟩
  refine own_by (B := T0.setTop (mkF m 19 #[.val (.ref b), .val (.int x1), .val (.int (0 : Int32)), .val (.int (15 : Int32)), .val (.int (x1.toInt8.toInt32)), .val (.int (0 : Int32))] [(.int (x1.toInt8.toInt32)), (.int (ff ((0 : Int32)).toNatClampNeg))])) (fun t k => XS.iload X0.here hx rfl (hb hby d11_17) rfl k) ?_
  by_cases hc3 : (ff ((0 : Int32)).toNatClampNeg) = (x1.toInt8.toInt32)
  ·
    rw [if_pos hc3] at hf
    refine own_by (B := T0.setTop (mkF m 22 #[.val (.ref b), .val (.int x1), .val (.int (0 : Int32)), .val (.int (15 : Int32)), .val (.int (x1.toInt8.toInt32)), .val (.int (0 : Int32))] [])) (fun t k => XS.icmpNo X0.here hx rfl (hb hby d11_19) rfl (teq hc3).2 k) ?_
    refine own_by (B := T0.setTop (mkF m 24 #[.val (.ref b), .val (.int x1), .val (.int (0 : Int32)), .val (.int (15 : Int32)), .val (.int (x1.toInt8.toInt32)), .val (.int (0 : Int32))] [(.int (0 : Int32))])) (fun t k => XS.iload X0.here hx rfl (hb hby d11_22) rfl k) ?_
    exact own_retI X0 hx hlk hret (hb hby d11_24) ⟨by rw [hf], rfl, e0⟩ (by decide) (by decide)
  ·
    rw [if_neg hc3] at hf
    refine own_by (B := T0.setTop (mkF m 25 #[.val (.ref b), .val (.int x1), .val (.int (0 : Int32)), .val (.int (15 : Int32)), .val (.int (x1.toInt8.toInt32)), .val (.int (0 : Int32))] [])) (fun t k => XS.icmpYes X0.here hx rfl (pc0 := 19) (pc' := 25) rfl (hb hby d11_19) rfl (feq hc3).2 (by decide) (by decide) k) ?_
    refine own_by (B := T0.setTop (mkF m 28 #[.val (.ref b), .val (.int x1), .val (.int (0 : Int32)), .val (.int (15 : Int32)), .val (.int (x1.toInt8.toInt32)), .val (.int (1 : Int32))] [])) (fun t k => XS.iinc X0.here hx rfl (hb hby d11_25) rfl (l' := #[.val (.ref b), .val (.int x1), .val (.int (0 : Int32)), .val (.int (15 : Int32)), .val (.int (x1.toInt8.toInt32)), .val (.int (1 : Int32))]) rfl k) ?_
    refine own_by (B := T0.setTop (mkF m 7 #[.val (.ref b), .val (.int x1), .val (.int (0 : Int32)), .val (.int (15 : Int32)), .val (.int (x1.toInt8.toInt32)), .val (.int (1 : Int32))] [])) (fun t k => XS.goto X0.here hx rfl (pc0 := 28) (pc' := 7) rfl (hb hby d11_28) (by decide) (by decide) k) ?_
    refine own_by (B := T0.setTop (mkF m 9 #[.val (.ref b), .val (.int x1), .val (.int (0 : Int32)), .val (.int (15 : Int32)), .val (.int (x1.toInt8.toInt32)), .val (.int (1 : Int32))] [(.int (1 : Int32))])) (fun t k => XS.iload X0.here hx rfl (hb hby d11_7) rfl k) ?_
    refine own_by (B := T0.setTop (mkF m 10 #[.val (.ref b), .val (.int x1), .val (.int (0 : Int32)), .val (.int (15 : Int32)), .val (.int (x1.toInt8.toInt32)), .val (.int (1 : Int32))] [(.int (15 : Int32)), (.int (1 : Int32))])) (fun t k => XS.iloadN X0.here hx rfl (hb hby d11_9) rfl k) ?_
    have hc4 : (1 : Int32) < (15 : Int32) := by decide
    refine own_by (B := T0.setTop (mkF m 13 #[.val (.ref b), .val (.int x1), .val (.int (0 : Int32)), .val (.int (15 : Int32)), .val (.int (x1.toInt8.toInt32)), .val (.int (1 : Int32))] [])) (fun t k => XS.icmpNo X0.here hx rfl (hb hby d11_10) rfl (tlt hc4).2.1 k) ?_
    refine own_by (B := T0.setTop (mkF m 14 #[.val (.ref b), .val (.int x1), .val (.int (0 : Int32)), .val (.int (15 : Int32)), .val (.int (x1.toInt8.toInt32)), .val (.int (1 : Int32))] [(.ref b)])) (fun t k => XS.aloadN X0.here hx rfl (hb hby d11_13) rfl rfl k) ?_
    refine own_by (B := T0.setTop (mkF m 16 #[.val (.ref b), .val (.int x1), .val (.int (0 : Int32)), .val (.int (15 : Int32)), .val (.int (x1.toInt8.toInt32)), .val (.int (1 : Int32))] [(.int (1 : Int32)), (.ref b)])) (fun t k => XS.iload X0.here hx rfl (hb hby d11_14) rfl k) ?_
    obtain ⟨cl5, Ar5, S5, H5⟩ := V_b
    have hin5 : ¬ ((1 : Int32) < 0 ∨ cl5.slots.size ≤ ((1 : Int32)).toNatClampNeg) := own_in S5 (by decide)
    have hat5 : cl5.slots[((1 : Int32)).toNatClampNeg]? = some (.int (ff ((1 : Int32)).toNatClampNeg)) := H5 _ (own_lt S5 hin5)
    refine own_by (B := T0.setTop (mkF m 17 #[.val (.ref b), .val (.int x1), .val (.int (0 : Int32)), .val (.int (15 : Int32)), .val (.int (x1.toInt8.toInt32)), .val (.int (1 : Int32))] [(.int (ff ((1 : Int32)).toNatClampNeg))])) (fun t k => X0.baloadBytes hx (j := (1 : Int32)) (v := (.int (ff ((1 : Int32)).toNatClampNeg))) (by rw [e0]; exact Ar5.1) (State.isArrayOf_alike hZ.alike Ar5.2.1) Ar5.2.2 hin5 hat5 (g := (mkF m 16 #[.val (.ref b), .val (.int x1), .val (.int (0 : Int32)), .val (.int (15 : Int32)), .val (.int (x1.toInt8.toInt32)), .val (.int (1 : Int32))] [(.int (1 : Int32)), (.ref b)])) rfl rfl (hb hby d11_16) _ k) ?_
    have V_b : own_BA Z h0 b .byte 15 ff := ⟨cl5, Ar5, S5, H5⟩
    refine own_by (B := T0.setTop (mkF m 19 #[.val (.ref b), .val (.int x1), .val (.int (0 : Int32)), .val (.int (15 : Int32)), .val (.int (x1.toInt8.toInt32)), .val (.int (1 : Int32))] [(.int (x1.toInt8.toInt32)), (.int (ff ((1 : Int32)).toNatClampNeg))])) (fun t k => XS.iload X0.here hx rfl (hb hby d11_17) rfl k) ?_
    by_cases hc6 : (ff ((1 : Int32)).toNatClampNeg) = (x1.toInt8.toInt32)
    ·
      rw [if_pos hc6] at hf
      refine own_by (B := T0.setTop (mkF m 22 #[.val (.ref b), .val (.int x1), .val (.int (0 : Int32)), .val (.int (15 : Int32)), .val (.int (x1.toInt8.toInt32)), .val (.int (1 : Int32))] [])) (fun t k => XS.icmpNo X0.here hx rfl (hb hby d11_19) rfl (teq hc6).2 k) ?_
      refine own_by (B := T0.setTop (mkF m 24 #[.val (.ref b), .val (.int x1), .val (.int (0 : Int32)), .val (.int (15 : Int32)), .val (.int (x1.toInt8.toInt32)), .val (.int (1 : Int32))] [(.int (1 : Int32))])) (fun t k => XS.iload X0.here hx rfl (hb hby d11_22) rfl k) ?_
      exact own_retI X0 hx hlk hret (hb hby d11_24) ⟨by rw [hf], rfl, e0⟩ (by decide) (by decide)
    ·
      rw [if_neg hc6] at hf
      refine own_by (B := T0.setTop (mkF m 25 #[.val (.ref b), .val (.int x1), .val (.int (0 : Int32)), .val (.int (15 : Int32)), .val (.int (x1.toInt8.toInt32)), .val (.int (1 : Int32))] [])) (fun t k => XS.icmpYes X0.here hx rfl (pc0 := 19) (pc' := 25) rfl (hb hby d11_19) rfl (feq hc6).2 (by decide) (by decide) k) ?_
      refine own_by (B := T0.setTop (mkF m 28 #[.val (.ref b), .val (.int x1), .val (.int (0 : Int32)), .val (.int (15 : Int32)), .val (.int (x1.toInt8.toInt32)), .val (.int (2 : Int32))] [])) (fun t k => XS.iinc X0.here hx rfl (hb hby d11_25) rfl (l' := #[.val (.ref b), .val (.int x1), .val (.int (0 : Int32)), .val (.int (15 : Int32)), .val (.int (x1.toInt8.toInt32)), .val (.int (2 : Int32))]) rfl k) ?_
      refine own_by (B := T0.setTop (mkF m 7 #[.val (.ref b), .val (.int x1), .val (.int (0 : Int32)), .val (.int (15 : Int32)), .val (.int (x1.toInt8.toInt32)), .val (.int (2 : Int32))] [])) (fun t k => XS.goto X0.here hx rfl (pc0 := 28) (pc' := 7) rfl (hb hby d11_28) (by decide) (by decide) k) ?_
      refine own_by (B := T0.setTop (mkF m 9 #[.val (.ref b), .val (.int x1), .val (.int (0 : Int32)), .val (.int (15 : Int32)), .val (.int (x1.toInt8.toInt32)), .val (.int (2 : Int32))] [(.int (2 : Int32))])) (fun t k => XS.iload X0.here hx rfl (hb hby d11_7) rfl k) ?_
      refine own_by (B := T0.setTop (mkF m 10 #[.val (.ref b), .val (.int x1), .val (.int (0 : Int32)), .val (.int (15 : Int32)), .val (.int (x1.toInt8.toInt32)), .val (.int (2 : Int32))] [(.int (15 : Int32)), (.int (2 : Int32))])) (fun t k => XS.iloadN X0.here hx rfl (hb hby d11_9) rfl k) ?_
      have hc7 : (2 : Int32) < (15 : Int32) := by decide
      refine own_by (B := T0.setTop (mkF m 13 #[.val (.ref b), .val (.int x1), .val (.int (0 : Int32)), .val (.int (15 : Int32)), .val (.int (x1.toInt8.toInt32)), .val (.int (2 : Int32))] [])) (fun t k => XS.icmpNo X0.here hx rfl (hb hby d11_10) rfl (tlt hc7).2.1 k) ?_
      refine own_by (B := T0.setTop (mkF m 14 #[.val (.ref b), .val (.int x1), .val (.int (0 : Int32)), .val (.int (15 : Int32)), .val (.int (x1.toInt8.toInt32)), .val (.int (2 : Int32))] [(.ref b)])) (fun t k => XS.aloadN X0.here hx rfl (hb hby d11_13) rfl rfl k) ?_
      refine own_by (B := T0.setTop (mkF m 16 #[.val (.ref b), .val (.int x1), .val (.int (0 : Int32)), .val (.int (15 : Int32)), .val (.int (x1.toInt8.toInt32)), .val (.int (2 : Int32))] [(.int (2 : Int32)), (.ref b)])) (fun t k => XS.iload X0.here hx rfl (hb hby d11_14) rfl k) ?_
      obtain ⟨cl8, Ar8, S8, H8⟩ := V_b
      have hin8 : ¬ ((2 : Int32) < 0 ∨ cl8.slots.size ≤ ((2 : Int32)).toNatClampNeg) := own_in S8 (by decide)
      have hat8 : cl8.slots[((2 : Int32)).toNatClampNeg]? = some (.int (ff ((2 : Int32)).toNatClampNeg)) := H8 _ (own_lt S8 hin8)
      refine own_by (B := T0.setTop (mkF m 17 #[.val (.ref b), .val (.int x1), .val (.int (0 : Int32)), .val (.int (15 : Int32)), .val (.int (x1.toInt8.toInt32)), .val (.int (2 : Int32))] [(.int (ff ((2 : Int32)).toNatClampNeg))])) (fun t k => X0.baloadBytes hx (j := (2 : Int32)) (v := (.int (ff ((2 : Int32)).toNatClampNeg))) (by rw [e0]; exact Ar8.1) (State.isArrayOf_alike hZ.alike Ar8.2.1) Ar8.2.2 hin8 hat8 (g := (mkF m 16 #[.val (.ref b), .val (.int x1), .val (.int (0 : Int32)), .val (.int (15 : Int32)), .val (.int (x1.toInt8.toInt32)), .val (.int (2 : Int32))] [(.int (2 : Int32)), (.ref b)])) rfl rfl (hb hby d11_16) _ k) ?_
      have V_b : own_BA Z h0 b .byte 15 ff := ⟨cl8, Ar8, S8, H8⟩
      refine own_by (B := T0.setTop (mkF m 19 #[.val (.ref b), .val (.int x1), .val (.int (0 : Int32)), .val (.int (15 : Int32)), .val (.int (x1.toInt8.toInt32)), .val (.int (2 : Int32))] [(.int (x1.toInt8.toInt32)), (.int (ff ((2 : Int32)).toNatClampNeg))])) (fun t k => XS.iload X0.here hx rfl (hb hby d11_17) rfl k) ?_
      by_cases hc9 : (ff ((2 : Int32)).toNatClampNeg) = (x1.toInt8.toInt32)
      ·
        rw [if_pos hc9] at hf
        refine own_by (B := T0.setTop (mkF m 22 #[.val (.ref b), .val (.int x1), .val (.int (0 : Int32)), .val (.int (15 : Int32)), .val (.int (x1.toInt8.toInt32)), .val (.int (2 : Int32))] [])) (fun t k => XS.icmpNo X0.here hx rfl (hb hby d11_19) rfl (teq hc9).2 k) ?_
        refine own_by (B := T0.setTop (mkF m 24 #[.val (.ref b), .val (.int x1), .val (.int (0 : Int32)), .val (.int (15 : Int32)), .val (.int (x1.toInt8.toInt32)), .val (.int (2 : Int32))] [(.int (2 : Int32))])) (fun t k => XS.iload X0.here hx rfl (hb hby d11_22) rfl k) ?_
        exact own_retI X0 hx hlk hret (hb hby d11_24) ⟨by rw [hf], rfl, e0⟩ (by decide) (by decide)
      ·
        rw [if_neg hc9] at hf
        refine own_by (B := T0.setTop (mkF m 25 #[.val (.ref b), .val (.int x1), .val (.int (0 : Int32)), .val (.int (15 : Int32)), .val (.int (x1.toInt8.toInt32)), .val (.int (2 : Int32))] [])) (fun t k => XS.icmpYes X0.here hx rfl (pc0 := 19) (pc' := 25) rfl (hb hby d11_19) rfl (feq hc9).2 (by decide) (by decide) k) ?_
        refine own_by (B := T0.setTop (mkF m 28 #[.val (.ref b), .val (.int x1), .val (.int (0 : Int32)), .val (.int (15 : Int32)), .val (.int (x1.toInt8.toInt32)), .val (.int (3 : Int32))] [])) (fun t k => XS.iinc X0.here hx rfl (hb hby d11_25) rfl (l' := #[.val (.ref b), .val (.int x1), .val (.int (0 : Int32)), .val (.int (15 : Int32)), .val (.int (x1.toInt8.toInt32)), .val (.int (3 : Int32))]) rfl k) ?_
        refine own_by (B := T0.setTop (mkF m 7 #[.val (.ref b), .val (.int x1), .val (.int (0 : Int32)), .val (.int (15 : Int32)), .val (.int (x1.toInt8.toInt32)), .val (.int (3 : Int32))] [])) (fun t k => XS.goto X0.here hx rfl (pc0 := 28) (pc' := 7) rfl (hb hby d11_28) (by decide) (by decide) k) ?_
        refine own_by (B := T0.setTop (mkF m 9 #[.val (.ref b), .val (.int x1), .val (.int (0 : Int32)), .val (.int (15 : Int32)), .val (.int (x1.toInt8.toInt32)), .val (.int (3 : Int32))] [(.int (3 : Int32))])) (fun t k => XS.iload X0.here hx rfl (hb hby d11_7) rfl k) ?_
        refine own_by (B := T0.setTop (mkF m 10 #[.val (.ref b), .val (.int x1), .val (.int (0 : Int32)), .val (.int (15 : Int32)), .val (.int (x1.toInt8.toInt32)), .val (.int (3 : Int32))] [(.int (15 : Int32)), (.int (3 : Int32))])) (fun t k => XS.iloadN X0.here hx rfl (hb hby d11_9) rfl k) ?_
        have hc10 : (3 : Int32) < (15 : Int32) := by decide
        refine own_by (B := T0.setTop (mkF m 13 #[.val (.ref b), .val (.int x1), .val (.int (0 : Int32)), .val (.int (15 : Int32)), .val (.int (x1.toInt8.toInt32)), .val (.int (3 : Int32))] [])) (fun t k => XS.icmpNo X0.here hx rfl (hb hby d11_10) rfl (tlt hc10).2.1 k) ?_
        refine own_by (B := T0.setTop (mkF m 14 #[.val (.ref b), .val (.int x1), .val (.int (0 : Int32)), .val (.int (15 : Int32)), .val (.int (x1.toInt8.toInt32)), .val (.int (3 : Int32))] [(.ref b)])) (fun t k => XS.aloadN X0.here hx rfl (hb hby d11_13) rfl rfl k) ?_
        refine own_by (B := T0.setTop (mkF m 16 #[.val (.ref b), .val (.int x1), .val (.int (0 : Int32)), .val (.int (15 : Int32)), .val (.int (x1.toInt8.toInt32)), .val (.int (3 : Int32))] [(.int (3 : Int32)), (.ref b)])) (fun t k => XS.iload X0.here hx rfl (hb hby d11_14) rfl k) ?_
        obtain ⟨cl11, Ar11, S11, H11⟩ := V_b
        have hin11 : ¬ ((3 : Int32) < 0 ∨ cl11.slots.size ≤ ((3 : Int32)).toNatClampNeg) := own_in S11 (by decide)
        have hat11 : cl11.slots[((3 : Int32)).toNatClampNeg]? = some (.int (ff ((3 : Int32)).toNatClampNeg)) := H11 _ (own_lt S11 hin11)
        refine own_by (B := T0.setTop (mkF m 17 #[.val (.ref b), .val (.int x1), .val (.int (0 : Int32)), .val (.int (15 : Int32)), .val (.int (x1.toInt8.toInt32)), .val (.int (3 : Int32))] [(.int (ff ((3 : Int32)).toNatClampNeg))])) (fun t k => X0.baloadBytes hx (j := (3 : Int32)) (v := (.int (ff ((3 : Int32)).toNatClampNeg))) (by rw [e0]; exact Ar11.1) (State.isArrayOf_alike hZ.alike Ar11.2.1) Ar11.2.2 hin11 hat11 (g := (mkF m 16 #[.val (.ref b), .val (.int x1), .val (.int (0 : Int32)), .val (.int (15 : Int32)), .val (.int (x1.toInt8.toInt32)), .val (.int (3 : Int32))] [(.int (3 : Int32)), (.ref b)])) rfl rfl (hb hby d11_16) _ k) ?_
        have V_b : own_BA Z h0 b .byte 15 ff := ⟨cl11, Ar11, S11, H11⟩
        refine own_by (B := T0.setTop (mkF m 19 #[.val (.ref b), .val (.int x1), .val (.int (0 : Int32)), .val (.int (15 : Int32)), .val (.int (x1.toInt8.toInt32)), .val (.int (3 : Int32))] [(.int (x1.toInt8.toInt32)), (.int (ff ((3 : Int32)).toNatClampNeg))])) (fun t k => XS.iload X0.here hx rfl (hb hby d11_17) rfl k) ?_
        by_cases hc12 : (ff ((3 : Int32)).toNatClampNeg) = (x1.toInt8.toInt32)
        ·
          rw [if_pos hc12] at hf
          refine own_by (B := T0.setTop (mkF m 22 #[.val (.ref b), .val (.int x1), .val (.int (0 : Int32)), .val (.int (15 : Int32)), .val (.int (x1.toInt8.toInt32)), .val (.int (3 : Int32))] [])) (fun t k => XS.icmpNo X0.here hx rfl (hb hby d11_19) rfl (teq hc12).2 k) ?_
          refine own_by (B := T0.setTop (mkF m 24 #[.val (.ref b), .val (.int x1), .val (.int (0 : Int32)), .val (.int (15 : Int32)), .val (.int (x1.toInt8.toInt32)), .val (.int (3 : Int32))] [(.int (3 : Int32))])) (fun t k => XS.iload X0.here hx rfl (hb hby d11_22) rfl k) ?_
          exact own_retI X0 hx hlk hret (hb hby d11_24) ⟨by rw [hf], rfl, e0⟩ (by decide) (by decide)
        ·
          rw [if_neg hc12] at hf
          refine own_by (B := T0.setTop (mkF m 25 #[.val (.ref b), .val (.int x1), .val (.int (0 : Int32)), .val (.int (15 : Int32)), .val (.int (x1.toInt8.toInt32)), .val (.int (3 : Int32))] [])) (fun t k => XS.icmpYes X0.here hx rfl (pc0 := 19) (pc' := 25) rfl (hb hby d11_19) rfl (feq hc12).2 (by decide) (by decide) k) ?_
          refine own_by (B := T0.setTop (mkF m 28 #[.val (.ref b), .val (.int x1), .val (.int (0 : Int32)), .val (.int (15 : Int32)), .val (.int (x1.toInt8.toInt32)), .val (.int (4 : Int32))] [])) (fun t k => XS.iinc X0.here hx rfl (hb hby d11_25) rfl (l' := #[.val (.ref b), .val (.int x1), .val (.int (0 : Int32)), .val (.int (15 : Int32)), .val (.int (x1.toInt8.toInt32)), .val (.int (4 : Int32))]) rfl k) ?_
          refine own_by (B := T0.setTop (mkF m 7 #[.val (.ref b), .val (.int x1), .val (.int (0 : Int32)), .val (.int (15 : Int32)), .val (.int (x1.toInt8.toInt32)), .val (.int (4 : Int32))] [])) (fun t k => XS.goto X0.here hx rfl (pc0 := 28) (pc' := 7) rfl (hb hby d11_28) (by decide) (by decide) k) ?_
          refine own_by (B := T0.setTop (mkF m 9 #[.val (.ref b), .val (.int x1), .val (.int (0 : Int32)), .val (.int (15 : Int32)), .val (.int (x1.toInt8.toInt32)), .val (.int (4 : Int32))] [(.int (4 : Int32))])) (fun t k => XS.iload X0.here hx rfl (hb hby d11_7) rfl k) ?_
          refine own_by (B := T0.setTop (mkF m 10 #[.val (.ref b), .val (.int x1), .val (.int (0 : Int32)), .val (.int (15 : Int32)), .val (.int (x1.toInt8.toInt32)), .val (.int (4 : Int32))] [(.int (15 : Int32)), (.int (4 : Int32))])) (fun t k => XS.iloadN X0.here hx rfl (hb hby d11_9) rfl k) ?_
          have hc13 : (4 : Int32) < (15 : Int32) := by decide
          refine own_by (B := T0.setTop (mkF m 13 #[.val (.ref b), .val (.int x1), .val (.int (0 : Int32)), .val (.int (15 : Int32)), .val (.int (x1.toInt8.toInt32)), .val (.int (4 : Int32))] [])) (fun t k => XS.icmpNo X0.here hx rfl (hb hby d11_10) rfl (tlt hc13).2.1 k) ?_
          refine own_by (B := T0.setTop (mkF m 14 #[.val (.ref b), .val (.int x1), .val (.int (0 : Int32)), .val (.int (15 : Int32)), .val (.int (x1.toInt8.toInt32)), .val (.int (4 : Int32))] [(.ref b)])) (fun t k => XS.aloadN X0.here hx rfl (hb hby d11_13) rfl rfl k) ?_
          refine own_by (B := T0.setTop (mkF m 16 #[.val (.ref b), .val (.int x1), .val (.int (0 : Int32)), .val (.int (15 : Int32)), .val (.int (x1.toInt8.toInt32)), .val (.int (4 : Int32))] [(.int (4 : Int32)), (.ref b)])) (fun t k => XS.iload X0.here hx rfl (hb hby d11_14) rfl k) ?_
          obtain ⟨cl14, Ar14, S14, H14⟩ := V_b
          have hin14 : ¬ ((4 : Int32) < 0 ∨ cl14.slots.size ≤ ((4 : Int32)).toNatClampNeg) := own_in S14 (by decide)
          have hat14 : cl14.slots[((4 : Int32)).toNatClampNeg]? = some (.int (ff ((4 : Int32)).toNatClampNeg)) := H14 _ (own_lt S14 hin14)
          refine own_by (B := T0.setTop (mkF m 17 #[.val (.ref b), .val (.int x1), .val (.int (0 : Int32)), .val (.int (15 : Int32)), .val (.int (x1.toInt8.toInt32)), .val (.int (4 : Int32))] [(.int (ff ((4 : Int32)).toNatClampNeg))])) (fun t k => X0.baloadBytes hx (j := (4 : Int32)) (v := (.int (ff ((4 : Int32)).toNatClampNeg))) (by rw [e0]; exact Ar14.1) (State.isArrayOf_alike hZ.alike Ar14.2.1) Ar14.2.2 hin14 hat14 (g := (mkF m 16 #[.val (.ref b), .val (.int x1), .val (.int (0 : Int32)), .val (.int (15 : Int32)), .val (.int (x1.toInt8.toInt32)), .val (.int (4 : Int32))] [(.int (4 : Int32)), (.ref b)])) rfl rfl (hb hby d11_16) _ k) ?_
          have V_b : own_BA Z h0 b .byte 15 ff := ⟨cl14, Ar14, S14, H14⟩
          refine own_by (B := T0.setTop (mkF m 19 #[.val (.ref b), .val (.int x1), .val (.int (0 : Int32)), .val (.int (15 : Int32)), .val (.int (x1.toInt8.toInt32)), .val (.int (4 : Int32))] [(.int (x1.toInt8.toInt32)), (.int (ff ((4 : Int32)).toNatClampNeg))])) (fun t k => XS.iload X0.here hx rfl (hb hby d11_17) rfl k) ?_
          by_cases hc15 : (ff ((4 : Int32)).toNatClampNeg) = (x1.toInt8.toInt32)
          ·
            rw [if_pos hc15] at hf
            refine own_by (B := T0.setTop (mkF m 22 #[.val (.ref b), .val (.int x1), .val (.int (0 : Int32)), .val (.int (15 : Int32)), .val (.int (x1.toInt8.toInt32)), .val (.int (4 : Int32))] [])) (fun t k => XS.icmpNo X0.here hx rfl (hb hby d11_19) rfl (teq hc15).2 k) ?_
            refine own_by (B := T0.setTop (mkF m 24 #[.val (.ref b), .val (.int x1), .val (.int (0 : Int32)), .val (.int (15 : Int32)), .val (.int (x1.toInt8.toInt32)), .val (.int (4 : Int32))] [(.int (4 : Int32))])) (fun t k => XS.iload X0.here hx rfl (hb hby d11_22) rfl k) ?_
            exact own_retI X0 hx hlk hret (hb hby d11_24) ⟨by rw [hf], rfl, e0⟩ (by decide) (by decide)
          ·
            rw [if_neg hc15] at hf
            refine own_by (B := T0.setTop (mkF m 25 #[.val (.ref b), .val (.int x1), .val (.int (0 : Int32)), .val (.int (15 : Int32)), .val (.int (x1.toInt8.toInt32)), .val (.int (4 : Int32))] [])) (fun t k => XS.icmpYes X0.here hx rfl (pc0 := 19) (pc' := 25) rfl (hb hby d11_19) rfl (feq hc15).2 (by decide) (by decide) k) ?_
            refine own_by (B := T0.setTop (mkF m 28 #[.val (.ref b), .val (.int x1), .val (.int (0 : Int32)), .val (.int (15 : Int32)), .val (.int (x1.toInt8.toInt32)), .val (.int (5 : Int32))] [])) (fun t k => XS.iinc X0.here hx rfl (hb hby d11_25) rfl (l' := #[.val (.ref b), .val (.int x1), .val (.int (0 : Int32)), .val (.int (15 : Int32)), .val (.int (x1.toInt8.toInt32)), .val (.int (5 : Int32))]) rfl k) ?_
            refine own_by (B := T0.setTop (mkF m 7 #[.val (.ref b), .val (.int x1), .val (.int (0 : Int32)), .val (.int (15 : Int32)), .val (.int (x1.toInt8.toInt32)), .val (.int (5 : Int32))] [])) (fun t k => XS.goto X0.here hx rfl (pc0 := 28) (pc' := 7) rfl (hb hby d11_28) (by decide) (by decide) k) ?_
            refine own_by (B := T0.setTop (mkF m 9 #[.val (.ref b), .val (.int x1), .val (.int (0 : Int32)), .val (.int (15 : Int32)), .val (.int (x1.toInt8.toInt32)), .val (.int (5 : Int32))] [(.int (5 : Int32))])) (fun t k => XS.iload X0.here hx rfl (hb hby d11_7) rfl k) ?_
            refine own_by (B := T0.setTop (mkF m 10 #[.val (.ref b), .val (.int x1), .val (.int (0 : Int32)), .val (.int (15 : Int32)), .val (.int (x1.toInt8.toInt32)), .val (.int (5 : Int32))] [(.int (15 : Int32)), (.int (5 : Int32))])) (fun t k => XS.iloadN X0.here hx rfl (hb hby d11_9) rfl k) ?_
            have hc16 : (5 : Int32) < (15 : Int32) := by decide
            refine own_by (B := T0.setTop (mkF m 13 #[.val (.ref b), .val (.int x1), .val (.int (0 : Int32)), .val (.int (15 : Int32)), .val (.int (x1.toInt8.toInt32)), .val (.int (5 : Int32))] [])) (fun t k => XS.icmpNo X0.here hx rfl (hb hby d11_10) rfl (tlt hc16).2.1 k) ?_
            refine own_by (B := T0.setTop (mkF m 14 #[.val (.ref b), .val (.int x1), .val (.int (0 : Int32)), .val (.int (15 : Int32)), .val (.int (x1.toInt8.toInt32)), .val (.int (5 : Int32))] [(.ref b)])) (fun t k => XS.aloadN X0.here hx rfl (hb hby d11_13) rfl rfl k) ?_
            refine own_by (B := T0.setTop (mkF m 16 #[.val (.ref b), .val (.int x1), .val (.int (0 : Int32)), .val (.int (15 : Int32)), .val (.int (x1.toInt8.toInt32)), .val (.int (5 : Int32))] [(.int (5 : Int32)), (.ref b)])) (fun t k => XS.iload X0.here hx rfl (hb hby d11_14) rfl k) ?_
            obtain ⟨cl17, Ar17, S17, H17⟩ := V_b
            have hin17 : ¬ ((5 : Int32) < 0 ∨ cl17.slots.size ≤ ((5 : Int32)).toNatClampNeg) := own_in S17 (by decide)
            have hat17 : cl17.slots[((5 : Int32)).toNatClampNeg]? = some (.int (ff ((5 : Int32)).toNatClampNeg)) := H17 _ (own_lt S17 hin17)
            refine own_by (B := T0.setTop (mkF m 17 #[.val (.ref b), .val (.int x1), .val (.int (0 : Int32)), .val (.int (15 : Int32)), .val (.int (x1.toInt8.toInt32)), .val (.int (5 : Int32))] [(.int (ff ((5 : Int32)).toNatClampNeg))])) (fun t k => X0.baloadBytes hx (j := (5 : Int32)) (v := (.int (ff ((5 : Int32)).toNatClampNeg))) (by rw [e0]; exact Ar17.1) (State.isArrayOf_alike hZ.alike Ar17.2.1) Ar17.2.2 hin17 hat17 (g := (mkF m 16 #[.val (.ref b), .val (.int x1), .val (.int (0 : Int32)), .val (.int (15 : Int32)), .val (.int (x1.toInt8.toInt32)), .val (.int (5 : Int32))] [(.int (5 : Int32)), (.ref b)])) rfl rfl (hb hby d11_16) _ k) ?_
            have V_b : own_BA Z h0 b .byte 15 ff := ⟨cl17, Ar17, S17, H17⟩
            refine own_by (B := T0.setTop (mkF m 19 #[.val (.ref b), .val (.int x1), .val (.int (0 : Int32)), .val (.int (15 : Int32)), .val (.int (x1.toInt8.toInt32)), .val (.int (5 : Int32))] [(.int (x1.toInt8.toInt32)), (.int (ff ((5 : Int32)).toNatClampNeg))])) (fun t k => XS.iload X0.here hx rfl (hb hby d11_17) rfl k) ?_
            by_cases hc18 : (ff ((5 : Int32)).toNatClampNeg) = (x1.toInt8.toInt32)
            ·
              rw [if_pos hc18] at hf
              refine own_by (B := T0.setTop (mkF m 22 #[.val (.ref b), .val (.int x1), .val (.int (0 : Int32)), .val (.int (15 : Int32)), .val (.int (x1.toInt8.toInt32)), .val (.int (5 : Int32))] [])) (fun t k => XS.icmpNo X0.here hx rfl (hb hby d11_19) rfl (teq hc18).2 k) ?_
              refine own_by (B := T0.setTop (mkF m 24 #[.val (.ref b), .val (.int x1), .val (.int (0 : Int32)), .val (.int (15 : Int32)), .val (.int (x1.toInt8.toInt32)), .val (.int (5 : Int32))] [(.int (5 : Int32))])) (fun t k => XS.iload X0.here hx rfl (hb hby d11_22) rfl k) ?_
              exact own_retI X0 hx hlk hret (hb hby d11_24) ⟨by rw [hf], rfl, e0⟩ (by decide) (by decide)
            ·
              rw [if_neg hc18] at hf
              refine own_by (B := T0.setTop (mkF m 25 #[.val (.ref b), .val (.int x1), .val (.int (0 : Int32)), .val (.int (15 : Int32)), .val (.int (x1.toInt8.toInt32)), .val (.int (5 : Int32))] [])) (fun t k => XS.icmpYes X0.here hx rfl (pc0 := 19) (pc' := 25) rfl (hb hby d11_19) rfl (feq hc18).2 (by decide) (by decide) k) ?_
              refine own_by (B := T0.setTop (mkF m 28 #[.val (.ref b), .val (.int x1), .val (.int (0 : Int32)), .val (.int (15 : Int32)), .val (.int (x1.toInt8.toInt32)), .val (.int (6 : Int32))] [])) (fun t k => XS.iinc X0.here hx rfl (hb hby d11_25) rfl (l' := #[.val (.ref b), .val (.int x1), .val (.int (0 : Int32)), .val (.int (15 : Int32)), .val (.int (x1.toInt8.toInt32)), .val (.int (6 : Int32))]) rfl k) ?_
              refine own_by (B := T0.setTop (mkF m 7 #[.val (.ref b), .val (.int x1), .val (.int (0 : Int32)), .val (.int (15 : Int32)), .val (.int (x1.toInt8.toInt32)), .val (.int (6 : Int32))] [])) (fun t k => XS.goto X0.here hx rfl (pc0 := 28) (pc' := 7) rfl (hb hby d11_28) (by decide) (by decide) k) ?_
              refine own_by (B := T0.setTop (mkF m 9 #[.val (.ref b), .val (.int x1), .val (.int (0 : Int32)), .val (.int (15 : Int32)), .val (.int (x1.toInt8.toInt32)), .val (.int (6 : Int32))] [(.int (6 : Int32))])) (fun t k => XS.iload X0.here hx rfl (hb hby d11_7) rfl k) ?_
              refine own_by (B := T0.setTop (mkF m 10 #[.val (.ref b), .val (.int x1), .val (.int (0 : Int32)), .val (.int (15 : Int32)), .val (.int (x1.toInt8.toInt32)), .val (.int (6 : Int32))] [(.int (15 : Int32)), (.int (6 : Int32))])) (fun t k => XS.iloadN X0.here hx rfl (hb hby d11_9) rfl k) ?_
              have hc19 : (6 : Int32) < (15 : Int32) := by decide
              refine own_by (B := T0.setTop (mkF m 13 #[.val (.ref b), .val (.int x1), .val (.int (0 : Int32)), .val (.int (15 : Int32)), .val (.int (x1.toInt8.toInt32)), .val (.int (6 : Int32))] [])) (fun t k => XS.icmpNo X0.here hx rfl (hb hby d11_10) rfl (tlt hc19).2.1 k) ?_
              refine own_by (B := T0.setTop (mkF m 14 #[.val (.ref b), .val (.int x1), .val (.int (0 : Int32)), .val (.int (15 : Int32)), .val (.int (x1.toInt8.toInt32)), .val (.int (6 : Int32))] [(.ref b)])) (fun t k => XS.aloadN X0.here hx rfl (hb hby d11_13) rfl rfl k) ?_
              refine own_by (B := T0.setTop (mkF m 16 #[.val (.ref b), .val (.int x1), .val (.int (0 : Int32)), .val (.int (15 : Int32)), .val (.int (x1.toInt8.toInt32)), .val (.int (6 : Int32))] [(.int (6 : Int32)), (.ref b)])) (fun t k => XS.iload X0.here hx rfl (hb hby d11_14) rfl k) ?_
              obtain ⟨cl20, Ar20, S20, H20⟩ := V_b
              have hin20 : ¬ ((6 : Int32) < 0 ∨ cl20.slots.size ≤ ((6 : Int32)).toNatClampNeg) := own_in S20 (by decide)
              have hat20 : cl20.slots[((6 : Int32)).toNatClampNeg]? = some (.int (ff ((6 : Int32)).toNatClampNeg)) := H20 _ (own_lt S20 hin20)
              refine own_by (B := T0.setTop (mkF m 17 #[.val (.ref b), .val (.int x1), .val (.int (0 : Int32)), .val (.int (15 : Int32)), .val (.int (x1.toInt8.toInt32)), .val (.int (6 : Int32))] [(.int (ff ((6 : Int32)).toNatClampNeg))])) (fun t k => X0.baloadBytes hx (j := (6 : Int32)) (v := (.int (ff ((6 : Int32)).toNatClampNeg))) (by rw [e0]; exact Ar20.1) (State.isArrayOf_alike hZ.alike Ar20.2.1) Ar20.2.2 hin20 hat20 (g := (mkF m 16 #[.val (.ref b), .val (.int x1), .val (.int (0 : Int32)), .val (.int (15 : Int32)), .val (.int (x1.toInt8.toInt32)), .val (.int (6 : Int32))] [(.int (6 : Int32)), (.ref b)])) rfl rfl (hb hby d11_16) _ k) ?_
              have V_b : own_BA Z h0 b .byte 15 ff := ⟨cl20, Ar20, S20, H20⟩
              refine own_by (B := T0.setTop (mkF m 19 #[.val (.ref b), .val (.int x1), .val (.int (0 : Int32)), .val (.int (15 : Int32)), .val (.int (x1.toInt8.toInt32)), .val (.int (6 : Int32))] [(.int (x1.toInt8.toInt32)), (.int (ff ((6 : Int32)).toNatClampNeg))])) (fun t k => XS.iload X0.here hx rfl (hb hby d11_17) rfl k) ?_
              by_cases hc21 : (ff ((6 : Int32)).toNatClampNeg) = (x1.toInt8.toInt32)
              ·
                rw [if_pos hc21] at hf
                refine own_by (B := T0.setTop (mkF m 22 #[.val (.ref b), .val (.int x1), .val (.int (0 : Int32)), .val (.int (15 : Int32)), .val (.int (x1.toInt8.toInt32)), .val (.int (6 : Int32))] [])) (fun t k => XS.icmpNo X0.here hx rfl (hb hby d11_19) rfl (teq hc21).2 k) ?_
                refine own_by (B := T0.setTop (mkF m 24 #[.val (.ref b), .val (.int x1), .val (.int (0 : Int32)), .val (.int (15 : Int32)), .val (.int (x1.toInt8.toInt32)), .val (.int (6 : Int32))] [(.int (6 : Int32))])) (fun t k => XS.iload X0.here hx rfl (hb hby d11_22) rfl k) ?_
                exact own_retI X0 hx hlk hret (hb hby d11_24) ⟨by rw [hf], rfl, e0⟩ (by decide) (by decide)
              ·
                rw [if_neg hc21] at hf
                refine own_by (B := T0.setTop (mkF m 25 #[.val (.ref b), .val (.int x1), .val (.int (0 : Int32)), .val (.int (15 : Int32)), .val (.int (x1.toInt8.toInt32)), .val (.int (6 : Int32))] [])) (fun t k => XS.icmpYes X0.here hx rfl (pc0 := 19) (pc' := 25) rfl (hb hby d11_19) rfl (feq hc21).2 (by decide) (by decide) k) ?_
                refine own_by (B := T0.setTop (mkF m 28 #[.val (.ref b), .val (.int x1), .val (.int (0 : Int32)), .val (.int (15 : Int32)), .val (.int (x1.toInt8.toInt32)), .val (.int (7 : Int32))] [])) (fun t k => XS.iinc X0.here hx rfl (hb hby d11_25) rfl (l' := #[.val (.ref b), .val (.int x1), .val (.int (0 : Int32)), .val (.int (15 : Int32)), .val (.int (x1.toInt8.toInt32)), .val (.int (7 : Int32))]) rfl k) ?_
                refine own_by (B := T0.setTop (mkF m 7 #[.val (.ref b), .val (.int x1), .val (.int (0 : Int32)), .val (.int (15 : Int32)), .val (.int (x1.toInt8.toInt32)), .val (.int (7 : Int32))] [])) (fun t k => XS.goto X0.here hx rfl (pc0 := 28) (pc' := 7) rfl (hb hby d11_28) (by decide) (by decide) k) ?_
                refine own_by (B := T0.setTop (mkF m 9 #[.val (.ref b), .val (.int x1), .val (.int (0 : Int32)), .val (.int (15 : Int32)), .val (.int (x1.toInt8.toInt32)), .val (.int (7 : Int32))] [(.int (7 : Int32))])) (fun t k => XS.iload X0.here hx rfl (hb hby d11_7) rfl k) ?_
                refine own_by (B := T0.setTop (mkF m 10 #[.val (.ref b), .val (.int x1), .val (.int (0 : Int32)), .val (.int (15 : Int32)), .val (.int (x1.toInt8.toInt32)), .val (.int (7 : Int32))] [(.int (15 : Int32)), (.int (7 : Int32))])) (fun t k => XS.iloadN X0.here hx rfl (hb hby d11_9) rfl k) ?_
                have hc22 : (7 : Int32) < (15 : Int32) := by decide
                refine own_by (B := T0.setTop (mkF m 13 #[.val (.ref b), .val (.int x1), .val (.int (0 : Int32)), .val (.int (15 : Int32)), .val (.int (x1.toInt8.toInt32)), .val (.int (7 : Int32))] [])) (fun t k => XS.icmpNo X0.here hx rfl (hb hby d11_10) rfl (tlt hc22).2.1 k) ?_
                refine own_by (B := T0.setTop (mkF m 14 #[.val (.ref b), .val (.int x1), .val (.int (0 : Int32)), .val (.int (15 : Int32)), .val (.int (x1.toInt8.toInt32)), .val (.int (7 : Int32))] [(.ref b)])) (fun t k => XS.aloadN X0.here hx rfl (hb hby d11_13) rfl rfl k) ?_
                refine own_by (B := T0.setTop (mkF m 16 #[.val (.ref b), .val (.int x1), .val (.int (0 : Int32)), .val (.int (15 : Int32)), .val (.int (x1.toInt8.toInt32)), .val (.int (7 : Int32))] [(.int (7 : Int32)), (.ref b)])) (fun t k => XS.iload X0.here hx rfl (hb hby d11_14) rfl k) ?_
                obtain ⟨cl23, Ar23, S23, H23⟩ := V_b
                have hin23 : ¬ ((7 : Int32) < 0 ∨ cl23.slots.size ≤ ((7 : Int32)).toNatClampNeg) := own_in S23 (by decide)
                have hat23 : cl23.slots[((7 : Int32)).toNatClampNeg]? = some (.int (ff ((7 : Int32)).toNatClampNeg)) := H23 _ (own_lt S23 hin23)
                refine own_by (B := T0.setTop (mkF m 17 #[.val (.ref b), .val (.int x1), .val (.int (0 : Int32)), .val (.int (15 : Int32)), .val (.int (x1.toInt8.toInt32)), .val (.int (7 : Int32))] [(.int (ff ((7 : Int32)).toNatClampNeg))])) (fun t k => X0.baloadBytes hx (j := (7 : Int32)) (v := (.int (ff ((7 : Int32)).toNatClampNeg))) (by rw [e0]; exact Ar23.1) (State.isArrayOf_alike hZ.alike Ar23.2.1) Ar23.2.2 hin23 hat23 (g := (mkF m 16 #[.val (.ref b), .val (.int x1), .val (.int (0 : Int32)), .val (.int (15 : Int32)), .val (.int (x1.toInt8.toInt32)), .val (.int (7 : Int32))] [(.int (7 : Int32)), (.ref b)])) rfl rfl (hb hby d11_16) _ k) ?_
                have V_b : own_BA Z h0 b .byte 15 ff := ⟨cl23, Ar23, S23, H23⟩
                refine own_by (B := T0.setTop (mkF m 19 #[.val (.ref b), .val (.int x1), .val (.int (0 : Int32)), .val (.int (15 : Int32)), .val (.int (x1.toInt8.toInt32)), .val (.int (7 : Int32))] [(.int (x1.toInt8.toInt32)), (.int (ff ((7 : Int32)).toNatClampNeg))])) (fun t k => XS.iload X0.here hx rfl (hb hby d11_17) rfl k) ?_
                by_cases hc24 : (ff ((7 : Int32)).toNatClampNeg) = (x1.toInt8.toInt32)
                ·
                  rw [if_pos hc24] at hf
                  refine own_by (B := T0.setTop (mkF m 22 #[.val (.ref b), .val (.int x1), .val (.int (0 : Int32)), .val (.int (15 : Int32)), .val (.int (x1.toInt8.toInt32)), .val (.int (7 : Int32))] [])) (fun t k => XS.icmpNo X0.here hx rfl (hb hby d11_19) rfl (teq hc24).2 k) ?_
                  refine own_by (B := T0.setTop (mkF m 24 #[.val (.ref b), .val (.int x1), .val (.int (0 : Int32)), .val (.int (15 : Int32)), .val (.int (x1.toInt8.toInt32)), .val (.int (7 : Int32))] [(.int (7 : Int32))])) (fun t k => XS.iload X0.here hx rfl (hb hby d11_22) rfl k) ?_
                  exact own_retI X0 hx hlk hret (hb hby d11_24) ⟨by rw [hf], rfl, e0⟩ (by decide) (by decide)
                ·
                  rw [if_neg hc24] at hf
                  refine own_by (B := T0.setTop (mkF m 25 #[.val (.ref b), .val (.int x1), .val (.int (0 : Int32)), .val (.int (15 : Int32)), .val (.int (x1.toInt8.toInt32)), .val (.int (7 : Int32))] [])) (fun t k => XS.icmpYes X0.here hx rfl (pc0 := 19) (pc' := 25) rfl (hb hby d11_19) rfl (feq hc24).2 (by decide) (by decide) k) ?_
                  refine own_by (B := T0.setTop (mkF m 28 #[.val (.ref b), .val (.int x1), .val (.int (0 : Int32)), .val (.int (15 : Int32)), .val (.int (x1.toInt8.toInt32)), .val (.int (8 : Int32))] [])) (fun t k => XS.iinc X0.here hx rfl (hb hby d11_25) rfl (l' := #[.val (.ref b), .val (.int x1), .val (.int (0 : Int32)), .val (.int (15 : Int32)), .val (.int (x1.toInt8.toInt32)), .val (.int (8 : Int32))]) rfl k) ?_
                  refine own_by (B := T0.setTop (mkF m 7 #[.val (.ref b), .val (.int x1), .val (.int (0 : Int32)), .val (.int (15 : Int32)), .val (.int (x1.toInt8.toInt32)), .val (.int (8 : Int32))] [])) (fun t k => XS.goto X0.here hx rfl (pc0 := 28) (pc' := 7) rfl (hb hby d11_28) (by decide) (by decide) k) ?_
                  refine own_by (B := T0.setTop (mkF m 9 #[.val (.ref b), .val (.int x1), .val (.int (0 : Int32)), .val (.int (15 : Int32)), .val (.int (x1.toInt8.toInt32)), .val (.int (8 : Int32))] [(.int (8 : Int32))])) (fun t k => XS.iload X0.here hx rfl (hb hby d11_7) rfl k) ?_
                  refine own_by (B := T0.setTop (mkF m 10 #[.val (.ref b), .val (.int x1), .val (.int (0 : Int32)), .val (.int (15 : Int32)), .val (.int (x1.toInt8.toInt32)), .val (.int (8 : Int32))] [(.int (15 : Int32)), (.int (8 : Int32))])) (fun t k => XS.iloadN X0.here hx rfl (hb hby d11_9) rfl k) ?_
                  have hc25 : (8 : Int32) < (15 : Int32) := by decide
                  refine own_by (B := T0.setTop (mkF m 13 #[.val (.ref b), .val (.int x1), .val (.int (0 : Int32)), .val (.int (15 : Int32)), .val (.int (x1.toInt8.toInt32)), .val (.int (8 : Int32))] [])) (fun t k => XS.icmpNo X0.here hx rfl (hb hby d11_10) rfl (tlt hc25).2.1 k) ?_
                  refine own_by (B := T0.setTop (mkF m 14 #[.val (.ref b), .val (.int x1), .val (.int (0 : Int32)), .val (.int (15 : Int32)), .val (.int (x1.toInt8.toInt32)), .val (.int (8 : Int32))] [(.ref b)])) (fun t k => XS.aloadN X0.here hx rfl (hb hby d11_13) rfl rfl k) ?_
                  refine own_by (B := T0.setTop (mkF m 16 #[.val (.ref b), .val (.int x1), .val (.int (0 : Int32)), .val (.int (15 : Int32)), .val (.int (x1.toInt8.toInt32)), .val (.int (8 : Int32))] [(.int (8 : Int32)), (.ref b)])) (fun t k => XS.iload X0.here hx rfl (hb hby d11_14) rfl k) ?_
                  obtain ⟨cl26, Ar26, S26, H26⟩ := V_b
                  have hin26 : ¬ ((8 : Int32) < 0 ∨ cl26.slots.size ≤ ((8 : Int32)).toNatClampNeg) := own_in S26 (by decide)
                  have hat26 : cl26.slots[((8 : Int32)).toNatClampNeg]? = some (.int (ff ((8 : Int32)).toNatClampNeg)) := H26 _ (own_lt S26 hin26)
                  refine own_by (B := T0.setTop (mkF m 17 #[.val (.ref b), .val (.int x1), .val (.int (0 : Int32)), .val (.int (15 : Int32)), .val (.int (x1.toInt8.toInt32)), .val (.int (8 : Int32))] [(.int (ff ((8 : Int32)).toNatClampNeg))])) (fun t k => X0.baloadBytes hx (j := (8 : Int32)) (v := (.int (ff ((8 : Int32)).toNatClampNeg))) (by rw [e0]; exact Ar26.1) (State.isArrayOf_alike hZ.alike Ar26.2.1) Ar26.2.2 hin26 hat26 (g := (mkF m 16 #[.val (.ref b), .val (.int x1), .val (.int (0 : Int32)), .val (.int (15 : Int32)), .val (.int (x1.toInt8.toInt32)), .val (.int (8 : Int32))] [(.int (8 : Int32)), (.ref b)])) rfl rfl (hb hby d11_16) _ k) ?_
                  have V_b : own_BA Z h0 b .byte 15 ff := ⟨cl26, Ar26, S26, H26⟩
                  refine own_by (B := T0.setTop (mkF m 19 #[.val (.ref b), .val (.int x1), .val (.int (0 : Int32)), .val (.int (15 : Int32)), .val (.int (x1.toInt8.toInt32)), .val (.int (8 : Int32))] [(.int (x1.toInt8.toInt32)), (.int (ff ((8 : Int32)).toNatClampNeg))])) (fun t k => XS.iload X0.here hx rfl (hb hby d11_17) rfl k) ?_
                  by_cases hc27 : (ff ((8 : Int32)).toNatClampNeg) = (x1.toInt8.toInt32)
                  ·
                    rw [if_pos hc27] at hf
                    refine own_by (B := T0.setTop (mkF m 22 #[.val (.ref b), .val (.int x1), .val (.int (0 : Int32)), .val (.int (15 : Int32)), .val (.int (x1.toInt8.toInt32)), .val (.int (8 : Int32))] [])) (fun t k => XS.icmpNo X0.here hx rfl (hb hby d11_19) rfl (teq hc27).2 k) ?_
                    refine own_by (B := T0.setTop (mkF m 24 #[.val (.ref b), .val (.int x1), .val (.int (0 : Int32)), .val (.int (15 : Int32)), .val (.int (x1.toInt8.toInt32)), .val (.int (8 : Int32))] [(.int (8 : Int32))])) (fun t k => XS.iload X0.here hx rfl (hb hby d11_22) rfl k) ?_
                    exact own_retI X0 hx hlk hret (hb hby d11_24) ⟨by rw [hf], rfl, e0⟩ (by decide) (by decide)
                  ·
                    rw [if_neg hc27] at hf
                    refine own_by (B := T0.setTop (mkF m 25 #[.val (.ref b), .val (.int x1), .val (.int (0 : Int32)), .val (.int (15 : Int32)), .val (.int (x1.toInt8.toInt32)), .val (.int (8 : Int32))] [])) (fun t k => XS.icmpYes X0.here hx rfl (pc0 := 19) (pc' := 25) rfl (hb hby d11_19) rfl (feq hc27).2 (by decide) (by decide) k) ?_
                    refine own_by (B := T0.setTop (mkF m 28 #[.val (.ref b), .val (.int x1), .val (.int (0 : Int32)), .val (.int (15 : Int32)), .val (.int (x1.toInt8.toInt32)), .val (.int (9 : Int32))] [])) (fun t k => XS.iinc X0.here hx rfl (hb hby d11_25) rfl (l' := #[.val (.ref b), .val (.int x1), .val (.int (0 : Int32)), .val (.int (15 : Int32)), .val (.int (x1.toInt8.toInt32)), .val (.int (9 : Int32))]) rfl k) ?_
                    refine own_by (B := T0.setTop (mkF m 7 #[.val (.ref b), .val (.int x1), .val (.int (0 : Int32)), .val (.int (15 : Int32)), .val (.int (x1.toInt8.toInt32)), .val (.int (9 : Int32))] [])) (fun t k => XS.goto X0.here hx rfl (pc0 := 28) (pc' := 7) rfl (hb hby d11_28) (by decide) (by decide) k) ?_
                    refine own_by (B := T0.setTop (mkF m 9 #[.val (.ref b), .val (.int x1), .val (.int (0 : Int32)), .val (.int (15 : Int32)), .val (.int (x1.toInt8.toInt32)), .val (.int (9 : Int32))] [(.int (9 : Int32))])) (fun t k => XS.iload X0.here hx rfl (hb hby d11_7) rfl k) ?_
                    refine own_by (B := T0.setTop (mkF m 10 #[.val (.ref b), .val (.int x1), .val (.int (0 : Int32)), .val (.int (15 : Int32)), .val (.int (x1.toInt8.toInt32)), .val (.int (9 : Int32))] [(.int (15 : Int32)), (.int (9 : Int32))])) (fun t k => XS.iloadN X0.here hx rfl (hb hby d11_9) rfl k) ?_
                    have hc28 : (9 : Int32) < (15 : Int32) := by decide
                    refine own_by (B := T0.setTop (mkF m 13 #[.val (.ref b), .val (.int x1), .val (.int (0 : Int32)), .val (.int (15 : Int32)), .val (.int (x1.toInt8.toInt32)), .val (.int (9 : Int32))] [])) (fun t k => XS.icmpNo X0.here hx rfl (hb hby d11_10) rfl (tlt hc28).2.1 k) ?_
                    refine own_by (B := T0.setTop (mkF m 14 #[.val (.ref b), .val (.int x1), .val (.int (0 : Int32)), .val (.int (15 : Int32)), .val (.int (x1.toInt8.toInt32)), .val (.int (9 : Int32))] [(.ref b)])) (fun t k => XS.aloadN X0.here hx rfl (hb hby d11_13) rfl rfl k) ?_
                    refine own_by (B := T0.setTop (mkF m 16 #[.val (.ref b), .val (.int x1), .val (.int (0 : Int32)), .val (.int (15 : Int32)), .val (.int (x1.toInt8.toInt32)), .val (.int (9 : Int32))] [(.int (9 : Int32)), (.ref b)])) (fun t k => XS.iload X0.here hx rfl (hb hby d11_14) rfl k) ?_
                    obtain ⟨cl29, Ar29, S29, H29⟩ := V_b
                    have hin29 : ¬ ((9 : Int32) < 0 ∨ cl29.slots.size ≤ ((9 : Int32)).toNatClampNeg) := own_in S29 (by decide)
                    have hat29 : cl29.slots[((9 : Int32)).toNatClampNeg]? = some (.int (ff ((9 : Int32)).toNatClampNeg)) := H29 _ (own_lt S29 hin29)
                    refine own_by (B := T0.setTop (mkF m 17 #[.val (.ref b), .val (.int x1), .val (.int (0 : Int32)), .val (.int (15 : Int32)), .val (.int (x1.toInt8.toInt32)), .val (.int (9 : Int32))] [(.int (ff ((9 : Int32)).toNatClampNeg))])) (fun t k => X0.baloadBytes hx (j := (9 : Int32)) (v := (.int (ff ((9 : Int32)).toNatClampNeg))) (by rw [e0]; exact Ar29.1) (State.isArrayOf_alike hZ.alike Ar29.2.1) Ar29.2.2 hin29 hat29 (g := (mkF m 16 #[.val (.ref b), .val (.int x1), .val (.int (0 : Int32)), .val (.int (15 : Int32)), .val (.int (x1.toInt8.toInt32)), .val (.int (9 : Int32))] [(.int (9 : Int32)), (.ref b)])) rfl rfl (hb hby d11_16) _ k) ?_
                    have V_b : own_BA Z h0 b .byte 15 ff := ⟨cl29, Ar29, S29, H29⟩
                    refine own_by (B := T0.setTop (mkF m 19 #[.val (.ref b), .val (.int x1), .val (.int (0 : Int32)), .val (.int (15 : Int32)), .val (.int (x1.toInt8.toInt32)), .val (.int (9 : Int32))] [(.int (x1.toInt8.toInt32)), (.int (ff ((9 : Int32)).toNatClampNeg))])) (fun t k => XS.iload X0.here hx rfl (hb hby d11_17) rfl k) ?_
                    by_cases hc30 : (ff ((9 : Int32)).toNatClampNeg) = (x1.toInt8.toInt32)
                    ·
                      rw [if_pos hc30] at hf
                      refine own_by (B := T0.setTop (mkF m 22 #[.val (.ref b), .val (.int x1), .val (.int (0 : Int32)), .val (.int (15 : Int32)), .val (.int (x1.toInt8.toInt32)), .val (.int (9 : Int32))] [])) (fun t k => XS.icmpNo X0.here hx rfl (hb hby d11_19) rfl (teq hc30).2 k) ?_
                      refine own_by (B := T0.setTop (mkF m 24 #[.val (.ref b), .val (.int x1), .val (.int (0 : Int32)), .val (.int (15 : Int32)), .val (.int (x1.toInt8.toInt32)), .val (.int (9 : Int32))] [(.int (9 : Int32))])) (fun t k => XS.iload X0.here hx rfl (hb hby d11_22) rfl k) ?_
                      exact own_retI X0 hx hlk hret (hb hby d11_24) ⟨by rw [hf], rfl, e0⟩ (by decide) (by decide)
                    ·
                      rw [if_neg hc30] at hf
                      refine own_by (B := T0.setTop (mkF m 25 #[.val (.ref b), .val (.int x1), .val (.int (0 : Int32)), .val (.int (15 : Int32)), .val (.int (x1.toInt8.toInt32)), .val (.int (9 : Int32))] [])) (fun t k => XS.icmpYes X0.here hx rfl (pc0 := 19) (pc' := 25) rfl (hb hby d11_19) rfl (feq hc30).2 (by decide) (by decide) k) ?_
                      refine own_by (B := T0.setTop (mkF m 28 #[.val (.ref b), .val (.int x1), .val (.int (0 : Int32)), .val (.int (15 : Int32)), .val (.int (x1.toInt8.toInt32)), .val (.int (10 : Int32))] [])) (fun t k => XS.iinc X0.here hx rfl (hb hby d11_25) rfl (l' := #[.val (.ref b), .val (.int x1), .val (.int (0 : Int32)), .val (.int (15 : Int32)), .val (.int (x1.toInt8.toInt32)), .val (.int (10 : Int32))]) rfl k) ?_
                      refine own_by (B := T0.setTop (mkF m 7 #[.val (.ref b), .val (.int x1), .val (.int (0 : Int32)), .val (.int (15 : Int32)), .val (.int (x1.toInt8.toInt32)), .val (.int (10 : Int32))] [])) (fun t k => XS.goto X0.here hx rfl (pc0 := 28) (pc' := 7) rfl (hb hby d11_28) (by decide) (by decide) k) ?_
                      refine own_by (B := T0.setTop (mkF m 9 #[.val (.ref b), .val (.int x1), .val (.int (0 : Int32)), .val (.int (15 : Int32)), .val (.int (x1.toInt8.toInt32)), .val (.int (10 : Int32))] [(.int (10 : Int32))])) (fun t k => XS.iload X0.here hx rfl (hb hby d11_7) rfl k) ?_
                      refine own_by (B := T0.setTop (mkF m 10 #[.val (.ref b), .val (.int x1), .val (.int (0 : Int32)), .val (.int (15 : Int32)), .val (.int (x1.toInt8.toInt32)), .val (.int (10 : Int32))] [(.int (15 : Int32)), (.int (10 : Int32))])) (fun t k => XS.iloadN X0.here hx rfl (hb hby d11_9) rfl k) ?_
                      have hc31 : (10 : Int32) < (15 : Int32) := by decide
                      refine own_by (B := T0.setTop (mkF m 13 #[.val (.ref b), .val (.int x1), .val (.int (0 : Int32)), .val (.int (15 : Int32)), .val (.int (x1.toInt8.toInt32)), .val (.int (10 : Int32))] [])) (fun t k => XS.icmpNo X0.here hx rfl (hb hby d11_10) rfl (tlt hc31).2.1 k) ?_
                      refine own_by (B := T0.setTop (mkF m 14 #[.val (.ref b), .val (.int x1), .val (.int (0 : Int32)), .val (.int (15 : Int32)), .val (.int (x1.toInt8.toInt32)), .val (.int (10 : Int32))] [(.ref b)])) (fun t k => XS.aloadN X0.here hx rfl (hb hby d11_13) rfl rfl k) ?_
                      refine own_by (B := T0.setTop (mkF m 16 #[.val (.ref b), .val (.int x1), .val (.int (0 : Int32)), .val (.int (15 : Int32)), .val (.int (x1.toInt8.toInt32)), .val (.int (10 : Int32))] [(.int (10 : Int32)), (.ref b)])) (fun t k => XS.iload X0.here hx rfl (hb hby d11_14) rfl k) ?_
                      obtain ⟨cl32, Ar32, S32, H32⟩ := V_b
                      have hin32 : ¬ ((10 : Int32) < 0 ∨ cl32.slots.size ≤ ((10 : Int32)).toNatClampNeg) := own_in S32 (by decide)
                      have hat32 : cl32.slots[((10 : Int32)).toNatClampNeg]? = some (.int (ff ((10 : Int32)).toNatClampNeg)) := H32 _ (own_lt S32 hin32)
                      refine own_by (B := T0.setTop (mkF m 17 #[.val (.ref b), .val (.int x1), .val (.int (0 : Int32)), .val (.int (15 : Int32)), .val (.int (x1.toInt8.toInt32)), .val (.int (10 : Int32))] [(.int (ff ((10 : Int32)).toNatClampNeg))])) (fun t k => X0.baloadBytes hx (j := (10 : Int32)) (v := (.int (ff ((10 : Int32)).toNatClampNeg))) (by rw [e0]; exact Ar32.1) (State.isArrayOf_alike hZ.alike Ar32.2.1) Ar32.2.2 hin32 hat32 (g := (mkF m 16 #[.val (.ref b), .val (.int x1), .val (.int (0 : Int32)), .val (.int (15 : Int32)), .val (.int (x1.toInt8.toInt32)), .val (.int (10 : Int32))] [(.int (10 : Int32)), (.ref b)])) rfl rfl (hb hby d11_16) _ k) ?_
                      have V_b : own_BA Z h0 b .byte 15 ff := ⟨cl32, Ar32, S32, H32⟩
                      refine own_by (B := T0.setTop (mkF m 19 #[.val (.ref b), .val (.int x1), .val (.int (0 : Int32)), .val (.int (15 : Int32)), .val (.int (x1.toInt8.toInt32)), .val (.int (10 : Int32))] [(.int (x1.toInt8.toInt32)), (.int (ff ((10 : Int32)).toNatClampNeg))])) (fun t k => XS.iload X0.here hx rfl (hb hby d11_17) rfl k) ?_
                      by_cases hc33 : (ff ((10 : Int32)).toNatClampNeg) = (x1.toInt8.toInt32)
                      ·
                        rw [if_pos hc33] at hf
                        refine own_by (B := T0.setTop (mkF m 22 #[.val (.ref b), .val (.int x1), .val (.int (0 : Int32)), .val (.int (15 : Int32)), .val (.int (x1.toInt8.toInt32)), .val (.int (10 : Int32))] [])) (fun t k => XS.icmpNo X0.here hx rfl (hb hby d11_19) rfl (teq hc33).2 k) ?_
                        refine own_by (B := T0.setTop (mkF m 24 #[.val (.ref b), .val (.int x1), .val (.int (0 : Int32)), .val (.int (15 : Int32)), .val (.int (x1.toInt8.toInt32)), .val (.int (10 : Int32))] [(.int (10 : Int32))])) (fun t k => XS.iload X0.here hx rfl (hb hby d11_22) rfl k) ?_
                        exact own_retI X0 hx hlk hret (hb hby d11_24) ⟨by rw [hf], rfl, e0⟩ (by decide) (by decide)
                      ·
                        rw [if_neg hc33] at hf
                        refine own_by (B := T0.setTop (mkF m 25 #[.val (.ref b), .val (.int x1), .val (.int (0 : Int32)), .val (.int (15 : Int32)), .val (.int (x1.toInt8.toInt32)), .val (.int (10 : Int32))] [])) (fun t k => XS.icmpYes X0.here hx rfl (pc0 := 19) (pc' := 25) rfl (hb hby d11_19) rfl (feq hc33).2 (by decide) (by decide) k) ?_
                        refine own_by (B := T0.setTop (mkF m 28 #[.val (.ref b), .val (.int x1), .val (.int (0 : Int32)), .val (.int (15 : Int32)), .val (.int (x1.toInt8.toInt32)), .val (.int (11 : Int32))] [])) (fun t k => XS.iinc X0.here hx rfl (hb hby d11_25) rfl (l' := #[.val (.ref b), .val (.int x1), .val (.int (0 : Int32)), .val (.int (15 : Int32)), .val (.int (x1.toInt8.toInt32)), .val (.int (11 : Int32))]) rfl k) ?_
                        refine own_by (B := T0.setTop (mkF m 7 #[.val (.ref b), .val (.int x1), .val (.int (0 : Int32)), .val (.int (15 : Int32)), .val (.int (x1.toInt8.toInt32)), .val (.int (11 : Int32))] [])) (fun t k => XS.goto X0.here hx rfl (pc0 := 28) (pc' := 7) rfl (hb hby d11_28) (by decide) (by decide) k) ?_
                        refine own_by (B := T0.setTop (mkF m 9 #[.val (.ref b), .val (.int x1), .val (.int (0 : Int32)), .val (.int (15 : Int32)), .val (.int (x1.toInt8.toInt32)), .val (.int (11 : Int32))] [(.int (11 : Int32))])) (fun t k => XS.iload X0.here hx rfl (hb hby d11_7) rfl k) ?_
                        refine own_by (B := T0.setTop (mkF m 10 #[.val (.ref b), .val (.int x1), .val (.int (0 : Int32)), .val (.int (15 : Int32)), .val (.int (x1.toInt8.toInt32)), .val (.int (11 : Int32))] [(.int (15 : Int32)), (.int (11 : Int32))])) (fun t k => XS.iloadN X0.here hx rfl (hb hby d11_9) rfl k) ?_
                        have hc34 : (11 : Int32) < (15 : Int32) := by decide
                        refine own_by (B := T0.setTop (mkF m 13 #[.val (.ref b), .val (.int x1), .val (.int (0 : Int32)), .val (.int (15 : Int32)), .val (.int (x1.toInt8.toInt32)), .val (.int (11 : Int32))] [])) (fun t k => XS.icmpNo X0.here hx rfl (hb hby d11_10) rfl (tlt hc34).2.1 k) ?_
                        refine own_by (B := T0.setTop (mkF m 14 #[.val (.ref b), .val (.int x1), .val (.int (0 : Int32)), .val (.int (15 : Int32)), .val (.int (x1.toInt8.toInt32)), .val (.int (11 : Int32))] [(.ref b)])) (fun t k => XS.aloadN X0.here hx rfl (hb hby d11_13) rfl rfl k) ?_
                        refine own_by (B := T0.setTop (mkF m 16 #[.val (.ref b), .val (.int x1), .val (.int (0 : Int32)), .val (.int (15 : Int32)), .val (.int (x1.toInt8.toInt32)), .val (.int (11 : Int32))] [(.int (11 : Int32)), (.ref b)])) (fun t k => XS.iload X0.here hx rfl (hb hby d11_14) rfl k) ?_
                        obtain ⟨cl35, Ar35, S35, H35⟩ := V_b
                        have hin35 : ¬ ((11 : Int32) < 0 ∨ cl35.slots.size ≤ ((11 : Int32)).toNatClampNeg) := own_in S35 (by decide)
                        have hat35 : cl35.slots[((11 : Int32)).toNatClampNeg]? = some (.int (ff ((11 : Int32)).toNatClampNeg)) := H35 _ (own_lt S35 hin35)
                        refine own_by (B := T0.setTop (mkF m 17 #[.val (.ref b), .val (.int x1), .val (.int (0 : Int32)), .val (.int (15 : Int32)), .val (.int (x1.toInt8.toInt32)), .val (.int (11 : Int32))] [(.int (ff ((11 : Int32)).toNatClampNeg))])) (fun t k => X0.baloadBytes hx (j := (11 : Int32)) (v := (.int (ff ((11 : Int32)).toNatClampNeg))) (by rw [e0]; exact Ar35.1) (State.isArrayOf_alike hZ.alike Ar35.2.1) Ar35.2.2 hin35 hat35 (g := (mkF m 16 #[.val (.ref b), .val (.int x1), .val (.int (0 : Int32)), .val (.int (15 : Int32)), .val (.int (x1.toInt8.toInt32)), .val (.int (11 : Int32))] [(.int (11 : Int32)), (.ref b)])) rfl rfl (hb hby d11_16) _ k) ?_
                        have V_b : own_BA Z h0 b .byte 15 ff := ⟨cl35, Ar35, S35, H35⟩
                        refine own_by (B := T0.setTop (mkF m 19 #[.val (.ref b), .val (.int x1), .val (.int (0 : Int32)), .val (.int (15 : Int32)), .val (.int (x1.toInt8.toInt32)), .val (.int (11 : Int32))] [(.int (x1.toInt8.toInt32)), (.int (ff ((11 : Int32)).toNatClampNeg))])) (fun t k => XS.iload X0.here hx rfl (hb hby d11_17) rfl k) ?_
                        by_cases hc36 : (ff ((11 : Int32)).toNatClampNeg) = (x1.toInt8.toInt32)
                        ·
                          rw [if_pos hc36] at hf
                          refine own_by (B := T0.setTop (mkF m 22 #[.val (.ref b), .val (.int x1), .val (.int (0 : Int32)), .val (.int (15 : Int32)), .val (.int (x1.toInt8.toInt32)), .val (.int (11 : Int32))] [])) (fun t k => XS.icmpNo X0.here hx rfl (hb hby d11_19) rfl (teq hc36).2 k) ?_
                          refine own_by (B := T0.setTop (mkF m 24 #[.val (.ref b), .val (.int x1), .val (.int (0 : Int32)), .val (.int (15 : Int32)), .val (.int (x1.toInt8.toInt32)), .val (.int (11 : Int32))] [(.int (11 : Int32))])) (fun t k => XS.iload X0.here hx rfl (hb hby d11_22) rfl k) ?_
                          exact own_retI X0 hx hlk hret (hb hby d11_24) ⟨by rw [hf], rfl, e0⟩ (by decide) (by decide)
                        ·
                          rw [if_neg hc36] at hf
                          refine own_by (B := T0.setTop (mkF m 25 #[.val (.ref b), .val (.int x1), .val (.int (0 : Int32)), .val (.int (15 : Int32)), .val (.int (x1.toInt8.toInt32)), .val (.int (11 : Int32))] [])) (fun t k => XS.icmpYes X0.here hx rfl (pc0 := 19) (pc' := 25) rfl (hb hby d11_19) rfl (feq hc36).2 (by decide) (by decide) k) ?_
                          refine own_by (B := T0.setTop (mkF m 28 #[.val (.ref b), .val (.int x1), .val (.int (0 : Int32)), .val (.int (15 : Int32)), .val (.int (x1.toInt8.toInt32)), .val (.int (12 : Int32))] [])) (fun t k => XS.iinc X0.here hx rfl (hb hby d11_25) rfl (l' := #[.val (.ref b), .val (.int x1), .val (.int (0 : Int32)), .val (.int (15 : Int32)), .val (.int (x1.toInt8.toInt32)), .val (.int (12 : Int32))]) rfl k) ?_
                          refine own_by (B := T0.setTop (mkF m 7 #[.val (.ref b), .val (.int x1), .val (.int (0 : Int32)), .val (.int (15 : Int32)), .val (.int (x1.toInt8.toInt32)), .val (.int (12 : Int32))] [])) (fun t k => XS.goto X0.here hx rfl (pc0 := 28) (pc' := 7) rfl (hb hby d11_28) (by decide) (by decide) k) ?_
                          refine own_by (B := T0.setTop (mkF m 9 #[.val (.ref b), .val (.int x1), .val (.int (0 : Int32)), .val (.int (15 : Int32)), .val (.int (x1.toInt8.toInt32)), .val (.int (12 : Int32))] [(.int (12 : Int32))])) (fun t k => XS.iload X0.here hx rfl (hb hby d11_7) rfl k) ?_
                          refine own_by (B := T0.setTop (mkF m 10 #[.val (.ref b), .val (.int x1), .val (.int (0 : Int32)), .val (.int (15 : Int32)), .val (.int (x1.toInt8.toInt32)), .val (.int (12 : Int32))] [(.int (15 : Int32)), (.int (12 : Int32))])) (fun t k => XS.iloadN X0.here hx rfl (hb hby d11_9) rfl k) ?_
                          have hc37 : (12 : Int32) < (15 : Int32) := by decide
                          refine own_by (B := T0.setTop (mkF m 13 #[.val (.ref b), .val (.int x1), .val (.int (0 : Int32)), .val (.int (15 : Int32)), .val (.int (x1.toInt8.toInt32)), .val (.int (12 : Int32))] [])) (fun t k => XS.icmpNo X0.here hx rfl (hb hby d11_10) rfl (tlt hc37).2.1 k) ?_
                          refine own_by (B := T0.setTop (mkF m 14 #[.val (.ref b), .val (.int x1), .val (.int (0 : Int32)), .val (.int (15 : Int32)), .val (.int (x1.toInt8.toInt32)), .val (.int (12 : Int32))] [(.ref b)])) (fun t k => XS.aloadN X0.here hx rfl (hb hby d11_13) rfl rfl k) ?_
                          refine own_by (B := T0.setTop (mkF m 16 #[.val (.ref b), .val (.int x1), .val (.int (0 : Int32)), .val (.int (15 : Int32)), .val (.int (x1.toInt8.toInt32)), .val (.int (12 : Int32))] [(.int (12 : Int32)), (.ref b)])) (fun t k => XS.iload X0.here hx rfl (hb hby d11_14) rfl k) ?_
                          obtain ⟨cl38, Ar38, S38, H38⟩ := V_b
                          have hin38 : ¬ ((12 : Int32) < 0 ∨ cl38.slots.size ≤ ((12 : Int32)).toNatClampNeg) := own_in S38 (by decide)
                          have hat38 : cl38.slots[((12 : Int32)).toNatClampNeg]? = some (.int (ff ((12 : Int32)).toNatClampNeg)) := H38 _ (own_lt S38 hin38)
                          refine own_by (B := T0.setTop (mkF m 17 #[.val (.ref b), .val (.int x1), .val (.int (0 : Int32)), .val (.int (15 : Int32)), .val (.int (x1.toInt8.toInt32)), .val (.int (12 : Int32))] [(.int (ff ((12 : Int32)).toNatClampNeg))])) (fun t k => X0.baloadBytes hx (j := (12 : Int32)) (v := (.int (ff ((12 : Int32)).toNatClampNeg))) (by rw [e0]; exact Ar38.1) (State.isArrayOf_alike hZ.alike Ar38.2.1) Ar38.2.2 hin38 hat38 (g := (mkF m 16 #[.val (.ref b), .val (.int x1), .val (.int (0 : Int32)), .val (.int (15 : Int32)), .val (.int (x1.toInt8.toInt32)), .val (.int (12 : Int32))] [(.int (12 : Int32)), (.ref b)])) rfl rfl (hb hby d11_16) _ k) ?_
                          have V_b : own_BA Z h0 b .byte 15 ff := ⟨cl38, Ar38, S38, H38⟩
                          refine own_by (B := T0.setTop (mkF m 19 #[.val (.ref b), .val (.int x1), .val (.int (0 : Int32)), .val (.int (15 : Int32)), .val (.int (x1.toInt8.toInt32)), .val (.int (12 : Int32))] [(.int (x1.toInt8.toInt32)), (.int (ff ((12 : Int32)).toNatClampNeg))])) (fun t k => XS.iload X0.here hx rfl (hb hby d11_17) rfl k) ?_
                          by_cases hc39 : (ff ((12 : Int32)).toNatClampNeg) = (x1.toInt8.toInt32)
                          ·
                            rw [if_pos hc39] at hf
                            refine own_by (B := T0.setTop (mkF m 22 #[.val (.ref b), .val (.int x1), .val (.int (0 : Int32)), .val (.int (15 : Int32)), .val (.int (x1.toInt8.toInt32)), .val (.int (12 : Int32))] [])) (fun t k => XS.icmpNo X0.here hx rfl (hb hby d11_19) rfl (teq hc39).2 k) ?_
                            refine own_by (B := T0.setTop (mkF m 24 #[.val (.ref b), .val (.int x1), .val (.int (0 : Int32)), .val (.int (15 : Int32)), .val (.int (x1.toInt8.toInt32)), .val (.int (12 : Int32))] [(.int (12 : Int32))])) (fun t k => XS.iload X0.here hx rfl (hb hby d11_22) rfl k) ?_
                            exact own_retI X0 hx hlk hret (hb hby d11_24) ⟨by rw [hf], rfl, e0⟩ (by decide) (by decide)
                          ·
                            rw [if_neg hc39] at hf
                            refine own_by (B := T0.setTop (mkF m 25 #[.val (.ref b), .val (.int x1), .val (.int (0 : Int32)), .val (.int (15 : Int32)), .val (.int (x1.toInt8.toInt32)), .val (.int (12 : Int32))] [])) (fun t k => XS.icmpYes X0.here hx rfl (pc0 := 19) (pc' := 25) rfl (hb hby d11_19) rfl (feq hc39).2 (by decide) (by decide) k) ?_
                            refine own_by (B := T0.setTop (mkF m 28 #[.val (.ref b), .val (.int x1), .val (.int (0 : Int32)), .val (.int (15 : Int32)), .val (.int (x1.toInt8.toInt32)), .val (.int (13 : Int32))] [])) (fun t k => XS.iinc X0.here hx rfl (hb hby d11_25) rfl (l' := #[.val (.ref b), .val (.int x1), .val (.int (0 : Int32)), .val (.int (15 : Int32)), .val (.int (x1.toInt8.toInt32)), .val (.int (13 : Int32))]) rfl k) ?_
                            refine own_by (B := T0.setTop (mkF m 7 #[.val (.ref b), .val (.int x1), .val (.int (0 : Int32)), .val (.int (15 : Int32)), .val (.int (x1.toInt8.toInt32)), .val (.int (13 : Int32))] [])) (fun t k => XS.goto X0.here hx rfl (pc0 := 28) (pc' := 7) rfl (hb hby d11_28) (by decide) (by decide) k) ?_
                            refine own_by (B := T0.setTop (mkF m 9 #[.val (.ref b), .val (.int x1), .val (.int (0 : Int32)), .val (.int (15 : Int32)), .val (.int (x1.toInt8.toInt32)), .val (.int (13 : Int32))] [(.int (13 : Int32))])) (fun t k => XS.iload X0.here hx rfl (hb hby d11_7) rfl k) ?_
                            refine own_by (B := T0.setTop (mkF m 10 #[.val (.ref b), .val (.int x1), .val (.int (0 : Int32)), .val (.int (15 : Int32)), .val (.int (x1.toInt8.toInt32)), .val (.int (13 : Int32))] [(.int (15 : Int32)), (.int (13 : Int32))])) (fun t k => XS.iloadN X0.here hx rfl (hb hby d11_9) rfl k) ?_
                            have hc40 : (13 : Int32) < (15 : Int32) := by decide
                            refine own_by (B := T0.setTop (mkF m 13 #[.val (.ref b), .val (.int x1), .val (.int (0 : Int32)), .val (.int (15 : Int32)), .val (.int (x1.toInt8.toInt32)), .val (.int (13 : Int32))] [])) (fun t k => XS.icmpNo X0.here hx rfl (hb hby d11_10) rfl (tlt hc40).2.1 k) ?_
                            refine own_by (B := T0.setTop (mkF m 14 #[.val (.ref b), .val (.int x1), .val (.int (0 : Int32)), .val (.int (15 : Int32)), .val (.int (x1.toInt8.toInt32)), .val (.int (13 : Int32))] [(.ref b)])) (fun t k => XS.aloadN X0.here hx rfl (hb hby d11_13) rfl rfl k) ?_
                            refine own_by (B := T0.setTop (mkF m 16 #[.val (.ref b), .val (.int x1), .val (.int (0 : Int32)), .val (.int (15 : Int32)), .val (.int (x1.toInt8.toInt32)), .val (.int (13 : Int32))] [(.int (13 : Int32)), (.ref b)])) (fun t k => XS.iload X0.here hx rfl (hb hby d11_14) rfl k) ?_
                            obtain ⟨cl41, Ar41, S41, H41⟩ := V_b
                            have hin41 : ¬ ((13 : Int32) < 0 ∨ cl41.slots.size ≤ ((13 : Int32)).toNatClampNeg) := own_in S41 (by decide)
                            have hat41 : cl41.slots[((13 : Int32)).toNatClampNeg]? = some (.int (ff ((13 : Int32)).toNatClampNeg)) := H41 _ (own_lt S41 hin41)
                            refine own_by (B := T0.setTop (mkF m 17 #[.val (.ref b), .val (.int x1), .val (.int (0 : Int32)), .val (.int (15 : Int32)), .val (.int (x1.toInt8.toInt32)), .val (.int (13 : Int32))] [(.int (ff ((13 : Int32)).toNatClampNeg))])) (fun t k => X0.baloadBytes hx (j := (13 : Int32)) (v := (.int (ff ((13 : Int32)).toNatClampNeg))) (by rw [e0]; exact Ar41.1) (State.isArrayOf_alike hZ.alike Ar41.2.1) Ar41.2.2 hin41 hat41 (g := (mkF m 16 #[.val (.ref b), .val (.int x1), .val (.int (0 : Int32)), .val (.int (15 : Int32)), .val (.int (x1.toInt8.toInt32)), .val (.int (13 : Int32))] [(.int (13 : Int32)), (.ref b)])) rfl rfl (hb hby d11_16) _ k) ?_
                            have V_b : own_BA Z h0 b .byte 15 ff := ⟨cl41, Ar41, S41, H41⟩
                            refine own_by (B := T0.setTop (mkF m 19 #[.val (.ref b), .val (.int x1), .val (.int (0 : Int32)), .val (.int (15 : Int32)), .val (.int (x1.toInt8.toInt32)), .val (.int (13 : Int32))] [(.int (x1.toInt8.toInt32)), (.int (ff ((13 : Int32)).toNatClampNeg))])) (fun t k => XS.iload X0.here hx rfl (hb hby d11_17) rfl k) ?_
                            by_cases hc42 : (ff ((13 : Int32)).toNatClampNeg) = (x1.toInt8.toInt32)
                            ·
                              rw [if_pos hc42] at hf
                              refine own_by (B := T0.setTop (mkF m 22 #[.val (.ref b), .val (.int x1), .val (.int (0 : Int32)), .val (.int (15 : Int32)), .val (.int (x1.toInt8.toInt32)), .val (.int (13 : Int32))] [])) (fun t k => XS.icmpNo X0.here hx rfl (hb hby d11_19) rfl (teq hc42).2 k) ?_
                              refine own_by (B := T0.setTop (mkF m 24 #[.val (.ref b), .val (.int x1), .val (.int (0 : Int32)), .val (.int (15 : Int32)), .val (.int (x1.toInt8.toInt32)), .val (.int (13 : Int32))] [(.int (13 : Int32))])) (fun t k => XS.iload X0.here hx rfl (hb hby d11_22) rfl k) ?_
                              exact own_retI X0 hx hlk hret (hb hby d11_24) ⟨by rw [hf], rfl, e0⟩ (by decide) (by decide)
                            ·
                              rw [if_neg hc42] at hf
                              refine own_by (B := T0.setTop (mkF m 25 #[.val (.ref b), .val (.int x1), .val (.int (0 : Int32)), .val (.int (15 : Int32)), .val (.int (x1.toInt8.toInt32)), .val (.int (13 : Int32))] [])) (fun t k => XS.icmpYes X0.here hx rfl (pc0 := 19) (pc' := 25) rfl (hb hby d11_19) rfl (feq hc42).2 (by decide) (by decide) k) ?_
                              refine own_by (B := T0.setTop (mkF m 28 #[.val (.ref b), .val (.int x1), .val (.int (0 : Int32)), .val (.int (15 : Int32)), .val (.int (x1.toInt8.toInt32)), .val (.int (14 : Int32))] [])) (fun t k => XS.iinc X0.here hx rfl (hb hby d11_25) rfl (l' := #[.val (.ref b), .val (.int x1), .val (.int (0 : Int32)), .val (.int (15 : Int32)), .val (.int (x1.toInt8.toInt32)), .val (.int (14 : Int32))]) rfl k) ?_
                              refine own_by (B := T0.setTop (mkF m 7 #[.val (.ref b), .val (.int x1), .val (.int (0 : Int32)), .val (.int (15 : Int32)), .val (.int (x1.toInt8.toInt32)), .val (.int (14 : Int32))] [])) (fun t k => XS.goto X0.here hx rfl (pc0 := 28) (pc' := 7) rfl (hb hby d11_28) (by decide) (by decide) k) ?_
                              refine own_by (B := T0.setTop (mkF m 9 #[.val (.ref b), .val (.int x1), .val (.int (0 : Int32)), .val (.int (15 : Int32)), .val (.int (x1.toInt8.toInt32)), .val (.int (14 : Int32))] [(.int (14 : Int32))])) (fun t k => XS.iload X0.here hx rfl (hb hby d11_7) rfl k) ?_
                              refine own_by (B := T0.setTop (mkF m 10 #[.val (.ref b), .val (.int x1), .val (.int (0 : Int32)), .val (.int (15 : Int32)), .val (.int (x1.toInt8.toInt32)), .val (.int (14 : Int32))] [(.int (15 : Int32)), (.int (14 : Int32))])) (fun t k => XS.iloadN X0.here hx rfl (hb hby d11_9) rfl k) ?_
                              have hc43 : (14 : Int32) < (15 : Int32) := by decide
                              refine own_by (B := T0.setTop (mkF m 13 #[.val (.ref b), .val (.int x1), .val (.int (0 : Int32)), .val (.int (15 : Int32)), .val (.int (x1.toInt8.toInt32)), .val (.int (14 : Int32))] [])) (fun t k => XS.icmpNo X0.here hx rfl (hb hby d11_10) rfl (tlt hc43).2.1 k) ?_
                              refine own_by (B := T0.setTop (mkF m 14 #[.val (.ref b), .val (.int x1), .val (.int (0 : Int32)), .val (.int (15 : Int32)), .val (.int (x1.toInt8.toInt32)), .val (.int (14 : Int32))] [(.ref b)])) (fun t k => XS.aloadN X0.here hx rfl (hb hby d11_13) rfl rfl k) ?_
                              refine own_by (B := T0.setTop (mkF m 16 #[.val (.ref b), .val (.int x1), .val (.int (0 : Int32)), .val (.int (15 : Int32)), .val (.int (x1.toInt8.toInt32)), .val (.int (14 : Int32))] [(.int (14 : Int32)), (.ref b)])) (fun t k => XS.iload X0.here hx rfl (hb hby d11_14) rfl k) ?_
                              obtain ⟨cl44, Ar44, S44, H44⟩ := V_b
                              have hin44 : ¬ ((14 : Int32) < 0 ∨ cl44.slots.size ≤ ((14 : Int32)).toNatClampNeg) := own_in S44 (by decide)
                              have hat44 : cl44.slots[((14 : Int32)).toNatClampNeg]? = some (.int (ff ((14 : Int32)).toNatClampNeg)) := H44 _ (own_lt S44 hin44)
                              refine own_by (B := T0.setTop (mkF m 17 #[.val (.ref b), .val (.int x1), .val (.int (0 : Int32)), .val (.int (15 : Int32)), .val (.int (x1.toInt8.toInt32)), .val (.int (14 : Int32))] [(.int (ff ((14 : Int32)).toNatClampNeg))])) (fun t k => X0.baloadBytes hx (j := (14 : Int32)) (v := (.int (ff ((14 : Int32)).toNatClampNeg))) (by rw [e0]; exact Ar44.1) (State.isArrayOf_alike hZ.alike Ar44.2.1) Ar44.2.2 hin44 hat44 (g := (mkF m 16 #[.val (.ref b), .val (.int x1), .val (.int (0 : Int32)), .val (.int (15 : Int32)), .val (.int (x1.toInt8.toInt32)), .val (.int (14 : Int32))] [(.int (14 : Int32)), (.ref b)])) rfl rfl (hb hby d11_16) _ k) ?_
                              have V_b : own_BA Z h0 b .byte 15 ff := ⟨cl44, Ar44, S44, H44⟩
                              refine own_by (B := T0.setTop (mkF m 19 #[.val (.ref b), .val (.int x1), .val (.int (0 : Int32)), .val (.int (15 : Int32)), .val (.int (x1.toInt8.toInt32)), .val (.int (14 : Int32))] [(.int (x1.toInt8.toInt32)), (.int (ff ((14 : Int32)).toNatClampNeg))])) (fun t k => XS.iload X0.here hx rfl (hb hby d11_17) rfl k) ?_
                              by_cases hc45 : (ff ((14 : Int32)).toNatClampNeg) = (x1.toInt8.toInt32)
                              ·
                                rw [if_pos hc45] at hf
                                refine own_by (B := T0.setTop (mkF m 22 #[.val (.ref b), .val (.int x1), .val (.int (0 : Int32)), .val (.int (15 : Int32)), .val (.int (x1.toInt8.toInt32)), .val (.int (14 : Int32))] [])) (fun t k => XS.icmpNo X0.here hx rfl (hb hby d11_19) rfl (teq hc45).2 k) ?_
                                refine own_by (B := T0.setTop (mkF m 24 #[.val (.ref b), .val (.int x1), .val (.int (0 : Int32)), .val (.int (15 : Int32)), .val (.int (x1.toInt8.toInt32)), .val (.int (14 : Int32))] [(.int (14 : Int32))])) (fun t k => XS.iload X0.here hx rfl (hb hby d11_22) rfl k) ?_
                                exact own_retI X0 hx hlk hret (hb hby d11_24) ⟨by rw [hf], rfl, e0⟩ (by decide) (by decide)
                              ·
                                rw [if_neg hc45] at hf
                                refine own_by (B := T0.setTop (mkF m 25 #[.val (.ref b), .val (.int x1), .val (.int (0 : Int32)), .val (.int (15 : Int32)), .val (.int (x1.toInt8.toInt32)), .val (.int (14 : Int32))] [])) (fun t k => XS.icmpYes X0.here hx rfl (pc0 := 19) (pc' := 25) rfl (hb hby d11_19) rfl (feq hc45).2 (by decide) (by decide) k) ?_
                                refine own_by (B := T0.setTop (mkF m 28 #[.val (.ref b), .val (.int x1), .val (.int (0 : Int32)), .val (.int (15 : Int32)), .val (.int (x1.toInt8.toInt32)), .val (.int (15 : Int32))] [])) (fun t k => XS.iinc X0.here hx rfl (hb hby d11_25) rfl (l' := #[.val (.ref b), .val (.int x1), .val (.int (0 : Int32)), .val (.int (15 : Int32)), .val (.int (x1.toInt8.toInt32)), .val (.int (15 : Int32))]) rfl k) ?_
                                refine own_by (B := T0.setTop (mkF m 7 #[.val (.ref b), .val (.int x1), .val (.int (0 : Int32)), .val (.int (15 : Int32)), .val (.int (x1.toInt8.toInt32)), .val (.int (15 : Int32))] [])) (fun t k => XS.goto X0.here hx rfl (pc0 := 28) (pc' := 7) rfl (hb hby d11_28) (by decide) (by decide) k) ?_
                                refine own_by (B := T0.setTop (mkF m 9 #[.val (.ref b), .val (.int x1), .val (.int (0 : Int32)), .val (.int (15 : Int32)), .val (.int (x1.toInt8.toInt32)), .val (.int (15 : Int32))] [(.int (15 : Int32))])) (fun t k => XS.iload X0.here hx rfl (hb hby d11_7) rfl k) ?_
                                refine own_by (B := T0.setTop (mkF m 10 #[.val (.ref b), .val (.int x1), .val (.int (0 : Int32)), .val (.int (15 : Int32)), .val (.int (x1.toInt8.toInt32)), .val (.int (15 : Int32))] [(.int (15 : Int32)), (.int (15 : Int32))])) (fun t k => XS.iloadN X0.here hx rfl (hb hby d11_9) rfl k) ?_
                                have hc46 : ¬ ((15 : Int32) < (15 : Int32)) := by decide
                                refine own_by (B := T0.setTop (mkF m 31 #[.val (.ref b), .val (.int x1), .val (.int (0 : Int32)), .val (.int (15 : Int32)), .val (.int (x1.toInt8.toInt32)), .val (.int (15 : Int32))] [])) (fun t k => XS.icmpYes X0.here hx rfl (pc0 := 10) (pc' := 31) rfl (hb hby d11_10) rfl (flt hc46).2.1 (by decide) (by decide) k) ?_
                                refine own_by (B := T0.setTop (mkF m 32 #[.val (.ref b), .val (.int x1), .val (.int (0 : Int32)), .val (.int (15 : Int32)), .val (.int (x1.toInt8.toInt32)), .val (.int (15 : Int32))] [(.int (-1 : Int32))])) (fun t k => XS.iconst X0.here hx rfl (hb hby d11_31) k) ?_
                                exact own_retI X0 hx hlk hret (hb hby d11_32) ⟨by rw [hf], rfl, e0⟩ (by decide) (by decide)
set_option maxRecDepth 65536 in
set_option maxHeartbeats 40000000 in
theorem rm11 (l : Launch) (Z : State) (a0 : Array Value) (hw : ∀ d ∈ tables_1, d.before a0 Z = true) (ws : List Jvm.Cond) (b : Addr) (x1 : Int32)  (ff : Nat → Int32) (h0 : Heap) (V_b : own_BA Z h0 b .byte 15 ff)  :
    MetFree l (⟨"java/lang/StringLatin1", "indexOfChar", "([BIII)I"⟩ : MethodName) (head1 (Jvm.Cond.code (⟨"java/lang/StringLatin1", "indexOfChar", "([BIII)I"⟩ : MethodName) jdk_43_method_23_code 6 (some .int) :: ws) ({ frames := 0, cells := 0, slots := 0, locals := 0 } : Room)) (fun aa U => aa = #[(.ref b), (.int x1), (.int (0 : Int32)), (.int (15 : Int32))] ∧ Z.Warmed39 U.vm ∧ U.heap = h0) (fun _ _ _ _ _ => True) (fun _ U o U' => ∃ v L, o = .returned v ∧ own_Qp (some (.int (f11_0 ff x1))) h0 v U'.heap L ∧ FrameEnd U o U' L ({ frames := 0, cells := 0, slots := 0, locals := 0 } : Room).cells ({ frames := 0, cells := 0, slots := 0, locals := 0 } : Room).slots) := by
  refine own_met (plainFor_of_name pn_11) fun p e s m below meth c T0 X0 hx hby hml hret hlk hZ hown hnm e0 => ?_
  refine own_cast (ef_11 m b x1 (0 : Int32) (15 : Int32)) ?_
  exact bk11_0 l Z a0 hw h0 b ff V_b x1  X0 hx hby hml hret hlk hZ hown hnm e0
theorem d7_0 : decode jdk_43_method_22_code 0 = .ok (.iload_n 1, 1) := by decide +kernel
theorem d7_1 : decode jdk_43_method_22_code 1 = .ok (.invokestatic 88, 3) := by decide +kernel
theorem d7_4 : decode jdk_43_method_22_code 4 = .ok (.ifCond .ne 5, 3) := by decide +kernel
theorem d7_7 : decode jdk_43_method_22_code 7 = .ok (.iconst (-1), 1) := by decide +kernel
theorem d7_8 : decode jdk_43_method_22_code 8 = .ok (.ireturn, 1) := by decide +kernel
theorem d7_9 : decode jdk_43_method_22_code 9 = .ok (.iload_n 2, 1) := by decide +kernel
theorem d7_10 : decode jdk_43_method_22_code 10 = .ok (.iconst 0, 1) := by decide +kernel
theorem d7_11 : decode jdk_43_method_22_code 11 = .ok (.invokestatic 92, 3) := by decide +kernel
theorem d7_14 : decode jdk_43_method_22_code 14 = .ok (.istore_n 2, 1) := by decide +kernel
theorem d7_15 : decode jdk_43_method_22_code 15 = .ok (.iload_n 3, 1) := by decide +kernel
theorem d7_16 : decode jdk_43_method_22_code 16 = .ok (.aload_n 0, 1) := by decide +kernel
theorem d7_17 : decode jdk_43_method_22_code 17 = .ok (.arraylength, 1) := by decide +kernel
theorem d7_18 : decode jdk_43_method_22_code 18 = .ok (.invokestatic 38, 3) := by decide +kernel
theorem d7_21 : decode jdk_43_method_22_code 21 = .ok (.istore_n 3, 1) := by decide +kernel
theorem d7_22 : decode jdk_43_method_22_code 22 = .ok (.iload_n 2, 1) := by decide +kernel
theorem d7_23 : decode jdk_43_method_22_code 23 = .ok (.iload_n 3, 1) := by decide +kernel
theorem d7_24 : decode jdk_43_method_22_code 24 = .ok (.if_icmp .lt 5, 3) := by decide +kernel
theorem d7_29 : decode jdk_43_method_22_code 29 = .ok (.aload_n 0, 1) := by decide +kernel
theorem d7_30 : decode jdk_43_method_22_code 30 = .ok (.iload_n 1, 1) := by decide +kernel
theorem d7_31 : decode jdk_43_method_22_code 31 = .ok (.iload_n 2, 1) := by decide +kernel
theorem d7_32 : decode jdk_43_method_22_code 32 = .ok (.iload_n 3, 1) := by decide +kernel
theorem d7_33 : decode jdk_43_method_22_code 33 = .ok (.invokestatic 95, 3) := by decide +kernel
theorem d7_36 : decode jdk_43_method_22_code 36 = .ok (.ireturn, 1) := by decide +kernel
theorem pn_7 : plainName "java/lang/StringLatin1" = true := by first | (simp [plainName, overriddenIn]; done) | decide +kernel
theorem ef_7 (m : MethodId) (y0 : Addr) (y1 : Int32) (y2 : Int32) (y3 : Int32) : entryFrame m #[(.ref y0), (.int y1), (.int y2), (.int y3)] 4 = mkF m 0 #[.val (.ref y0), .val (.int y1), .val (.int y2), .val (.int y3)] [] := by first | (simp [entryFrame, mkF, argsToLocals, Value.category]; done) | rfl
def f7_0 (ff : Nat → Int32) (x1 : Int32) : Int32 := (if (f8_0 x1) = (0 : Int32) then (-1 : Int32) else (f11_0 ff x1))
set_option maxRecDepth 65536 in
set_option maxHeartbeats 40000000 in
theorem bk7_0 (l : Launch) (Z : State) (a0 : Array Value) (hw : ∀ d ∈ tables_1, d.before a0 Z = true) (h0 : Heap) (b : Addr)  (ff : Nat → Int32) (V_b : own_BA Z h0 b .byte 15 ff) (x1 : Int32)  {p : Program} {e : Env} {s : State} {m : MethodId} {args : Array Value} {below : List Frame} {meth : Method} {c : Code} {T0 : State}
    (X0 : Stand p l e ({ frames := 1, cells := 0, slots := 0, locals := 17 } : Room) s m args below meth c T0 [] 0 0) (hx : p.tables.exec = Jvm.exec) (hby : c.code = jdk_43_method_22_code) (hml : c.maxLocals = 4) (hret : meth.sig.returnType = (some .int)) (hlk : meth.locks = false) (hZ : Z.Warmed39 s.vm) (hown : s.vm.findClass "java/lang/StringLatin1" = some m.cls) (hnm : meth.name = "indexOf") (e0 : T0.heap = h0) :
    own_Go p e below s (own_Qp (some (.int (f7_0 ff x1))) h0) 0 0 (T0.setTop (mkF m 0 #[.val (.ref b), .val (.int x1), .val (.int (0 : Int32)), .val (.int (15 : Int32))] [])) := by
  have hf : f7_0 ff x1 = (if (f8_0 x1) = (0 : Int32) then (-1 : Int32) else (f11_0 ff x1)) := rfl
  refine own_by (B := T0.setTop (mkF m 1 #[.val (.ref b), .val (.int x1), .val (.int (0 : Int32)), .val (.int (15 : Int32))] [(.int x1)])) (fun t k => XS.iloadN X0.here hx rfl (hb hby d7_0) rfl k) ?_
  obtain ⟨v1, _, ⟨T1, L1, c1, n1⟩, -, X1, ⟨Lc1, hQ1, l1, y1, z1⟩, st1⟩ := Jvm.LawKit.callS X0 hx (y := (⟨"java/lang/StringLatin1", "canEncode", "(I)Z"⟩ : MethodName)) hown (mvT hZ (hw _ (List.mem_of_getElem? (i := 44) rfl))) (mvT hZ (hw _ (List.mem_of_getElem? (i := 45) rfl))) (mvT hZ (hw _ (List.mem_of_getElem? (i := 42) rfl))) (mvT hZ (hw _ (List.mem_of_getElem? (i := 46) rfl))) (by decide) (backOf (W := 0) (rm8 l Z a0 hw [] x1  h0 ) hZ (hw _ (List.mem_of_getElem? (i := 46) rfl)) (hw _ (List.mem_of_getElem? (i := 42) rfl)) (by decide) (by decide)) (g := (mkF m 1 #[.val (.ref b), .val (.int x1), .val (.int (0 : Int32)), .val (.int (15 : Int32))] [(.int x1)])) rfl (by rw [hml]; rfl) (argsL := [(.int x1)]) (rest := []) (lenOf pd_1 rfl) rfl (by show 2 * 0 + _ ≤ _; exact Nat.le_of_eq rfl) (hb hby d7_1) (fun _ _ => ⟨rfl, e0, (by decide : 0 + 0 ≤ _), (by decide : 0 + 0 ≤ _)⟩)
  dsimp only [Pt.U, Pt.locs, Pt.cells, Pt.slots] at X1 l1 y1 z1 st1 hQ1
  subst l1 y1 z1
  obtain ⟨rfl, rfl, e1⟩ := hQ1
  refine own_by (B := T1.setTop (mkF m 4 #[.val (.ref b), .val (.int x1), .val (.int (0 : Int32)), .val (.int (15 : Int32))] [(.int (f8_0 x1))])) (fun t k => st1 _ k) ?_
  by_cases hc2 : (f8_0 x1) = (0 : Int32)
  ·
    rw [if_pos hc2] at hf
    refine own_by (B := T1.setTop (mkF m 7 #[.val (.ref b), .val (.int x1), .val (.int (0 : Int32)), .val (.int (15 : Int32))] [])) (fun t k => XS.ifNo X1.here hx rfl (hb hby d7_4) rfl ((if0 _ _).trans (teq hc2).2) k) ?_
    refine own_by (B := T1.setTop (mkF m 8 #[.val (.ref b), .val (.int x1), .val (.int (0 : Int32)), .val (.int (15 : Int32))] [(.int (-1 : Int32))])) (fun t k => XS.iconst X1.here hx rfl (hb hby d7_7) k) ?_
    exact own_retI X1 hx hlk hret (hb hby d7_8) ⟨by rw [hf], rfl, e1⟩ (by decide) (by decide)
  ·
    rw [if_neg hc2] at hf
    refine own_by (B := T1.setTop (mkF m 9 #[.val (.ref b), .val (.int x1), .val (.int (0 : Int32)), .val (.int (15 : Int32))] [])) (fun t k => XS.ifYes X1.here hx rfl (pc0 := 4) (pc' := 9) rfl (hb hby d7_4) rfl ((if0 _ _).trans (feq hc2).2) (by decide) (by decide) k) ?_
    refine own_by (B := T1.setTop (mkF m 10 #[.val (.ref b), .val (.int x1), .val (.int (0 : Int32)), .val (.int (15 : Int32))] [(.int (0 : Int32))])) (fun t k => XS.iloadN X1.here hx rfl (hb hby d7_9) rfl k) ?_
    refine own_by (B := T1.setTop (mkF m 11 #[.val (.ref b), .val (.int x1), .val (.int (0 : Int32)), .val (.int (15 : Int32))] [(.int (0 : Int32)), (.int (0 : Int32))])) (fun t k => XS.iconst X1.here hx rfl (hb hby d7_10) k) ?_
    obtain ⟨v3, _, ⟨T3, L3, c3, n3⟩, -, X3, ⟨Lc3, hQ3, l3, y3, z3⟩, st3⟩ := Jvm.LawKit.callS X1 hx (y := (⟨"java/lang/Math", "max", "(II)I"⟩ : MethodName)) hown (mvT hZ (hw _ (List.mem_of_getElem? (i := 47) rfl))) (mvT hZ (hw _ (List.mem_of_getElem? (i := 48) rfl))) (mvT hZ (hw _ (List.mem_of_getElem? (i := 49) rfl))) (mvT hZ (hw _ (List.mem_of_getElem? (i := 50) rfl))) (by decide) (backOf (W := 0) (rm9 l Z a0 hw [] (0 : Int32) (0 : Int32)  h0 ) hZ (hw _ (List.mem_of_getElem? (i := 50) rfl)) (hw _ (List.mem_of_getElem? (i := 49) rfl)) (by decide) (by decide)) (g := (mkF m 11 #[.val (.ref b), .val (.int x1), .val (.int (0 : Int32)), .val (.int (15 : Int32))] [(.int (0 : Int32)), (.int (0 : Int32))])) rfl (by rw [hml]; rfl) (argsL := [(.int (0 : Int32)), (.int (0 : Int32))]) (rest := []) (lenOf pd_2 rfl) rfl (by show 2 * 0 + _ ≤ _; exact Nat.le_of_eq rfl) (hb hby d7_11) (fun _ _ => ⟨rfl, e1, (by decide : 0 + 0 ≤ _), (by decide : 0 + 0 ≤ _)⟩)
    dsimp only [Pt.U, Pt.locs, Pt.cells, Pt.slots] at X3 l3 y3 z3 st3 hQ3
    subst l3 y3 z3
    obtain ⟨rfl, rfl, e3⟩ := hQ3
    refine own_by (B := T3.setTop (mkF m 14 #[.val (.ref b), .val (.int x1), .val (.int (0 : Int32)), .val (.int (15 : Int32))] [(.int (f9_0 (0 : Int32) (0 : Int32)))])) (fun t k => st3 _ k) ?_
    refine own_by (B := T3.setTop (mkF m 15 #[.val (.ref b), .val (.int x1), .val (.int (f9_0 (0 : Int32) (0 : Int32))), .val (.int (15 : Int32))] [])) (fun t k => XS.istoreN X3.here hx rfl (hb hby d7_14) rfl (l' := #[.val (.ref b), .val (.int x1), .val (.int (f9_0 (0 : Int32) (0 : Int32))), .val (.int (15 : Int32))]) rfl k) ?_
    have hlit15 : (f9_0 (0 : Int32) (0 : Int32)) = (0 : Int32) := by decide
    rw [hlit15]
    refine own_by (B := T3.setTop (mkF m 16 #[.val (.ref b), .val (.int x1), .val (.int (0 : Int32)), .val (.int (15 : Int32))] [(.int (15 : Int32))])) (fun t k => XS.iloadN X3.here hx rfl (hb hby d7_15) rfl k) ?_
    refine own_by (B := T3.setTop (mkF m 17 #[.val (.ref b), .val (.int x1), .val (.int (0 : Int32)), .val (.int (15 : Int32))] [(.ref b), (.int (15 : Int32))])) (fun t k => XS.aloadN X3.here hx rfl (hb hby d7_16) rfl rfl k) ?_
    obtain ⟨cl4, Ar4, S4, H4⟩ := V_b
    have hle4 : cl4.slots.size.toInt32 = (15 : Int32) := by rw [S4]; rfl
    refine own_by (B := T3.setTop (mkF m 18 #[.val (.ref b), .val (.int x1), .val (.int (0 : Int32)), .val (.int (15 : Int32))] [(.int (15 : Int32)), (.int (15 : Int32))])) (fun t k => X3.arraylength hx (by rw [e3]; exact Ar4.1) (State.isArrayOf_alike hZ.alike Ar4.2.1) (g := (mkF m 17 #[.val (.ref b), .val (.int x1), .val (.int (0 : Int32)), .val (.int (15 : Int32))] [(.ref b), (.int (15 : Int32))])) rfl rfl (hb hby d7_17) _ (by rw [hle4]; exact k)) ?_
    have V_b : own_BA Z h0 b .byte 15 ff := ⟨cl4, Ar4, S4, H4⟩
    obtain ⟨v5, _, ⟨T5, L5, c5, n5⟩, -, X5, ⟨Lc5, hQ5, l5, y5, z5⟩, st5⟩ := Jvm.LawKit.callS X3 hx (y := (⟨"java/lang/Math", "min", "(II)I"⟩ : MethodName)) hown (mvT hZ (hw _ (List.mem_of_getElem? (i := 51) rfl))) (mvT hZ (hw _ (List.mem_of_getElem? (i := 52) rfl))) (mvT hZ (hw _ (List.mem_of_getElem? (i := 49) rfl))) (mvT hZ (hw _ (List.mem_of_getElem? (i := 53) rfl))) (by decide) (backOf (W := 0) (rm10 l Z a0 hw [] (15 : Int32) (15 : Int32)  h0 ) hZ (hw _ (List.mem_of_getElem? (i := 53) rfl)) (hw _ (List.mem_of_getElem? (i := 49) rfl)) (by decide) (by decide)) (g := (mkF m 18 #[.val (.ref b), .val (.int x1), .val (.int (0 : Int32)), .val (.int (15 : Int32))] [(.int (15 : Int32)), (.int (15 : Int32))])) rfl (by rw [hml]; rfl) (argsL := [(.int (15 : Int32)), (.int (15 : Int32))]) (rest := []) (lenOf pd_2 rfl) rfl (by show 2 * 0 + _ ≤ _; exact Nat.le_of_eq rfl) (hb hby d7_18) (fun _ _ => ⟨rfl, e3, (by decide : 0 + 0 ≤ _), (by decide : 0 + 0 ≤ _)⟩)
    dsimp only [Pt.U, Pt.locs, Pt.cells, Pt.slots] at X5 l5 y5 z5 st5 hQ5
    subst l5 y5 z5
    obtain ⟨rfl, rfl, e5⟩ := hQ5
    refine own_by (B := T5.setTop (mkF m 21 #[.val (.ref b), .val (.int x1), .val (.int (0 : Int32)), .val (.int (15 : Int32))] [(.int (f10_0 (15 : Int32) (15 : Int32)))])) (fun t k => st5 _ k) ?_
    refine own_by (B := T5.setTop (mkF m 22 #[.val (.ref b), .val (.int x1), .val (.int (0 : Int32)), .val (.int (f10_0 (15 : Int32) (15 : Int32)))] [])) (fun t k => XS.istoreN X5.here hx rfl (hb hby d7_21) rfl (l' := #[.val (.ref b), .val (.int x1), .val (.int (0 : Int32)), .val (.int (f10_0 (15 : Int32) (15 : Int32)))]) rfl k) ?_
    have hlit22 : (f10_0 (15 : Int32) (15 : Int32)) = (15 : Int32) := by decide
    rw [hlit22]
    refine own_by (B := T5.setTop (mkF m 23 #[.val (.ref b), .val (.int x1), .val (.int (0 : Int32)), .val (.int (15 : Int32))] [(.int (0 : Int32))])) (fun t k => XS.iloadN X5.here hx rfl (hb hby d7_22) rfl k) ?_
    refine own_by (B := T5.setTop (mkF m 24 #[.val (.ref b), .val (.int x1), .val (.int (0 : Int32)), .val (.int (15 : Int32))] [(.int (15 : Int32)), (.int (0 : Int32))])) (fun t k => XS.iloadN X5.here hx rfl (hb hby d7_23) rfl k) ?_
    have hc6 : (0 : Int32) < (15 : Int32) := by decide
    refine own_by (B := T5.setTop (mkF m 29 #[.val (.ref b), .val (.int x1), .val (.int (0 : Int32)), .val (.int (15 : Int32))] [])) (fun t k => XS.icmpYes X5.here hx rfl (pc0 := 24) (pc' := 29) rfl (hb hby d7_24) rfl (tlt hc6).1 (by decide) (by decide) k) ?_
    refine own_by (B := T5.setTop (mkF m 30 #[.val (.ref b), .val (.int x1), .val (.int (0 : Int32)), .val (.int (15 : Int32))] [(.ref b)])) (fun t k => XS.aloadN X5.here hx rfl (hb hby d7_29) rfl rfl k) ?_
    refine own_by (B := T5.setTop (mkF m 31 #[.val (.ref b), .val (.int x1), .val (.int (0 : Int32)), .val (.int (15 : Int32))] [(.int x1), (.ref b)])) (fun t k => XS.iloadN X5.here hx rfl (hb hby d7_30) rfl k) ?_
    refine own_by (B := T5.setTop (mkF m 32 #[.val (.ref b), .val (.int x1), .val (.int (0 : Int32)), .val (.int (15 : Int32))] [(.int (0 : Int32)), (.int x1), (.ref b)])) (fun t k => XS.iloadN X5.here hx rfl (hb hby d7_31) rfl k) ?_
    refine own_by (B := T5.setTop (mkF m 33 #[.val (.ref b), .val (.int x1), .val (.int (0 : Int32)), .val (.int (15 : Int32))] [(.int (15 : Int32)), (.int (0 : Int32)), (.int x1), (.ref b)])) (fun t k => XS.iloadN X5.here hx rfl (hb hby d7_32) rfl k) ?_
    obtain ⟨v7, _, ⟨T7, L7, c7, n7⟩, -, X7, ⟨Lc7, hQ7, l7, y7, z7⟩, st7⟩ := Jvm.LawKit.callS X5 hx (y := (⟨"java/lang/StringLatin1", "indexOfChar", "([BIII)I"⟩ : MethodName)) hown (mvT hZ (hw _ (List.mem_of_getElem? (i := 54) rfl))) (mvT hZ (hw _ (List.mem_of_getElem? (i := 55) rfl))) (mvT hZ (hw _ (List.mem_of_getElem? (i := 42) rfl))) (mvT hZ (hw _ (List.mem_of_getElem? (i := 56) rfl))) (by decide) (backOf (W := 0) (rm11 l Z a0 hw [] b x1 ff h0 V_b) hZ (hw _ (List.mem_of_getElem? (i := 56) rfl)) (hw _ (List.mem_of_getElem? (i := 42) rfl)) (by decide) (by decide)) (g := (mkF m 33 #[.val (.ref b), .val (.int x1), .val (.int (0 : Int32)), .val (.int (15 : Int32))] [(.int (15 : Int32)), (.int (0 : Int32)), (.int x1), (.ref b)])) rfl (by rw [hml]; rfl) (argsL := [(.ref b), (.int x1), (.int (0 : Int32)), (.int (15 : Int32))]) (rest := []) (lenOf pd_3 rfl) rfl (by show 2 * 0 + _ ≤ _; exact Nat.le_of_eq rfl) (hb hby d7_33) (fun _ _ => ⟨rfl, e5, (by decide : 0 + 0 ≤ _), (by decide : 0 + 0 ≤ _)⟩)
    dsimp only [Pt.U, Pt.locs, Pt.cells, Pt.slots] at X7 l7 y7 z7 st7 hQ7
    subst l7 y7 z7
    obtain ⟨rfl, rfl, e7⟩ := hQ7
    refine own_by (B := T7.setTop (mkF m 36 #[.val (.ref b), .val (.int x1), .val (.int (0 : Int32)), .val (.int (15 : Int32))] [(.int (f11_0 ff x1))])) (fun t k => st7 _ k) ?_
    exact own_retI X7 hx hlk hret (hb hby d7_36) ⟨by rw [hf], rfl, e7⟩ (by decide) (by decide)
set_option maxRecDepth 65536 in
set_option maxHeartbeats 40000000 in
theorem rm7 (l : Launch) (Z : State) (a0 : Array Value) (hw : ∀ d ∈ tables_1, d.before a0 Z = true) (ws : List Jvm.Cond) (b : Addr) (x1 : Int32)  (ff : Nat → Int32) (h0 : Heap) (V_b : own_BA Z h0 b .byte 15 ff)  :
    MetFree l (⟨"java/lang/StringLatin1", "indexOf", "([BIII)I"⟩ : MethodName) (head1 (Jvm.Cond.code (⟨"java/lang/StringLatin1", "indexOf", "([BIII)I"⟩ : MethodName) jdk_43_method_22_code 4 (some .int) :: ws) ({ frames := 1, cells := 0, slots := 0, locals := 17 } : Room)) (fun aa U => aa = #[(.ref b), (.int x1), (.int (0 : Int32)), (.int (15 : Int32))] ∧ Z.Warmed39 U.vm ∧ U.heap = h0) (fun _ _ _ _ _ => True) (fun _ U o U' => ∃ v L, o = .returned v ∧ own_Qp (some (.int (f7_0 ff x1))) h0 v U'.heap L ∧ FrameEnd U o U' L ({ frames := 1, cells := 0, slots := 0, locals := 17 } : Room).cells ({ frames := 1, cells := 0, slots := 0, locals := 17 } : Room).slots) := by
  refine own_met (plainFor_of_name pn_7) fun p e s m below meth c T0 X0 hx hby hml hret hlk hZ hown hnm e0 => ?_
  refine own_cast (ef_7 m b x1 (0 : Int32) (15 : Int32)) ?_
  exact bk7_0 l Z a0 hw h0 b ff V_b x1  X0 hx hby hml hret hlk hZ hown hnm e0
theorem d3_0 : decode jdk_42_method_80_code 0 = .ok (.aload_n 0, 1) := by decide +kernel
theorem d3_1 : decode jdk_42_method_80_code 1 = .ok (.invokevirtual 492, 3) := by decide +kernel
theorem d3_4 : decode jdk_42_method_80_code 4 = .ok (.ifCond .eq 19, 3) := by decide +kernel
theorem d3_7 : decode jdk_42_method_80_code 7 = .ok (.aload_n 0, 1) := by decide +kernel
theorem d3_8 : decode jdk_42_method_80_code 8 = .ok (.getfield 9, 3) := by decide +kernel
theorem d3_11 : decode jdk_42_method_80_code 11 = .ok (.iload_n 1, 1) := by decide +kernel
theorem d3_12 : decode jdk_42_method_80_code 12 = .ok (.iload_n 2, 1) := by decide +kernel
theorem d3_13 : decode jdk_42_method_80_code 13 = .ok (.aload_n 0, 1) := by decide +kernel
theorem d3_14 : decode jdk_42_method_80_code 14 = .ok (.invokevirtual 505, 3) := by decide +kernel
theorem d3_17 : decode jdk_42_method_80_code 17 = .ok (.invokestatic 637, 3) := by decide +kernel
theorem d3_20 : decode jdk_42_method_80_code 20 = .ok (.goto 16, 3) := by decide +kernel
theorem d3_36 : decode jdk_42_method_80_code 36 = .ok (.ireturn, 1) := by decide +kernel
theorem pn_3 : plainName "java/lang/String" = true := by first | (simp [plainName, overriddenIn]; done) | decide +kernel
theorem ef_3 (m : MethodId) (y0 : Addr) (y1 : Int32) (y2 : Int32) : entryFrame m #[(.ref y0), (.int y1), (.int y2)] 3 = mkF m 0 #[.val (.ref y0), .val (.int y1), .val (.int y2)] [] := by first | (simp [entryFrame, mkF, argsToLocals, Value.category]; done) | rfl
def f3_0 (b : Addr) (wz : Int32) (ff : Nat → Int32) (x1 : Int32) : Int32 := (f7_0 ff x1)
set_option maxRecDepth 65536 in
set_option maxHeartbeats 40000000 in
theorem bk3_0 (l : Launch) (Z : State) (a0 : Array Value) (hw : ∀ d ∈ tables_1, d.before a0 Z = true) (h0 : Heap) (a : Addr)  (b : Addr) (wz : Int32) (ff : Nat → Int32) (Sc : Sta Z h0 "java/lang/String" "COMPACT_STRINGS" "Z" (.int wz)) (F_coder_a : Fld Z h0 a "java/lang/String" "coder" "B" (.int (0 : Int32))) (F_value_a : Fld Z h0 a "java/lang/String" "value" "[B" (.ref b)) (E_a : Exa Z h0 a "java/lang/String") (V_b : own_BA Z h0 b .byte 15 ff) (x1 : Int32) (hwz : ¬ wz = (0 : Int32)) {p : Program} {e : Env} {s : State} {m : MethodId} {args : Array Value} {below : List Frame} {meth : Method} {c : Code} {T0 : State}
    (X0 : Stand p l e ({ frames := 2, cells := 0, slots := 0, locals := 32 } : Room) s m args below meth c T0 [] 0 0) (hx : p.tables.exec = Jvm.exec) (hby : c.code = jdk_42_method_80_code) (hml : c.maxLocals = 3) (hret : meth.sig.returnType = (some .int)) (hlk : meth.locks = false) (hZ : Z.Warmed39 s.vm) (hown : s.vm.findClass "java/lang/String" = some m.cls) (hnm : meth.name = "indexOf") (e0 : T0.heap = h0) :
    own_Go p e below s (own_Qp (some (.int (f3_0 b wz ff x1))) h0) 0 0 (T0.setTop (mkF m 0 #[.val (.ref a), .val (.int x1), .val (.int (0 : Int32))] [])) := by
  have hf : f3_0 b wz ff x1 = (f7_0 ff x1) := rfl
  refine own_by (B := T0.setTop (mkF m 1 #[.val (.ref a), .val (.int x1), .val (.int (0 : Int32))] [(.ref a)])) (fun t k => XS.aloadN X0.here hx rfl (hb hby d3_0) rfl rfl k) ?_
  obtain ⟨cq1, kq1, q1a, q1b, q1c⟩ := isOf hZ e0 E_a
  obtain ⟨v1, _, ⟨T1, L1, c1, n1⟩, -, X1, ⟨Lc1, hQ1, l1, y1, z1⟩, st1⟩ := X0.virtualBack hx (y := (⟨"java/lang/String", "isLatin1", "()Z"⟩ : MethodName)) (z := (⟨"java/lang/String", "isLatin1", "()Z"⟩ : MethodName)) hown (mvT hZ (hw _ (List.mem_of_getElem? (i := 22) rfl))) (mvT hZ (hw _ (List.mem_of_getElem? (i := 23) rfl))) (notFace_of_selects (args := #[]) (mvT hZ (hw _ (List.mem_of_getElem? (i := 25) rfl)))) (mvT hZ (hw _ (List.mem_of_getElem? (i := 25) rfl))) (mvT hZ (hw _ (List.mem_of_getElem? (i := 24) rfl))) (by decide) (backOf (W := 0) (rm4 l Z a0 hw [] a wz h0 Sc F_coder_a hwz) hZ (hw _ (List.mem_of_getElem? (i := 26) rfl)) (hw _ (List.mem_of_getElem? (i := 5) rfl)) (by decide) (by decide)) q1a q1c (g := (mkF m 1 #[.val (.ref a), .val (.int x1), .val (.int (0 : Int32))] [(.ref a)])) rfl (by rw [hml]; rfl) (Steps.refl _) (argsL := []) (rest := []) (lenOf pd_4 rfl) rfl (by show 2 * 0 + _ ≤ _; exact Nat.le_of_eq rfl) (hb hby d3_1) (fun _ _ => ⟨rfl, e0, (by decide : 0 + 0 ≤ _), (by decide : 0 + 0 ≤ _)⟩)
  dsimp only [Pt.U, Pt.locs, Pt.cells, Pt.slots] at X1 l1 y1 z1 st1 hQ1
  subst l1 y1 z1
  obtain ⟨rfl, rfl, e1⟩ := hQ1
  refine own_by (B := T1.setTop (mkF m 4 #[.val (.ref a), .val (.int x1), .val (.int (0 : Int32))] [(.int (f4_0 wz))])) (fun t k => st1.trans k) ?_
  have hc2 : ¬ ((f4_0 wz) = (0 : Int32)) := own_lat wz
  refine own_by (B := T1.setTop (mkF m 7 #[.val (.ref a), .val (.int x1), .val (.int (0 : Int32))] [])) (fun t k => XS.ifNo X1.here hx rfl (hb hby d3_4) rfl ((if0 _ _).trans (feq hc2).1) k) ?_
  refine own_by (B := T1.setTop (mkF m 8 #[.val (.ref a), .val (.int x1), .val (.int (0 : Int32))] [(.ref a)])) (fun t k => XS.aloadN X1.here hx rfl (hb hby d3_7) rfl rfl k) ?_
  obtain ⟨T3, X3, e3, st3⟩ := getF X1 hx hZ hown (host := "") (Or.inl (hw _ (List.mem_of_getElem? (i := 29) rfl))) Via.refl e1 F_value_a (g := (mkF m 8 #[.val (.ref a), .val (.int x1), .val (.int (0 : Int32))] [(.ref a)])) rfl rfl (hb hby d3_8)
  refine own_by (B := T3.setTop (mkF m 11 #[.val (.ref a), .val (.int x1), .val (.int (0 : Int32))] [(.ref b)])) (fun t k => st3 _ k) ?_
  refine own_by (B := T3.setTop (mkF m 12 #[.val (.ref a), .val (.int x1), .val (.int (0 : Int32))] [(.int x1), (.ref b)])) (fun t k => XS.iloadN X3.here hx rfl (hb hby d3_11) rfl k) ?_
  refine own_by (B := T3.setTop (mkF m 13 #[.val (.ref a), .val (.int x1), .val (.int (0 : Int32))] [(.int (0 : Int32)), (.int x1), (.ref b)])) (fun t k => XS.iloadN X3.here hx rfl (hb hby d3_12) rfl k) ?_
  refine own_by (B := T3.setTop (mkF m 14 #[.val (.ref a), .val (.int x1), .val (.int (0 : Int32))] [(.ref a), (.int (0 : Int32)), (.int x1), (.ref b)])) (fun t k => XS.aloadN X3.here hx rfl (hb hby d3_13) rfl rfl k) ?_
  obtain ⟨cq4, kq4, q4a, q4b, q4c⟩ := isOf hZ e3 E_a
  obtain ⟨v4, _, ⟨T4, L4, c4, n4⟩, -, X4, ⟨Lc4, hQ4, l4, y4, z4⟩, st4⟩ := X3.virtualBack hx (y := (⟨"java/lang/String", "length", "()I"⟩ : MethodName)) (z := (⟨"java/lang/String", "length", "()I"⟩ : MethodName)) hown (mvT hZ (hw _ (List.mem_of_getElem? (i := 30) rfl))) (mvT hZ (hw _ (List.mem_of_getElem? (i := 31) rfl))) (notFace_of_selects (args := #[]) (mvT hZ (hw _ (List.mem_of_getElem? (i := 33) rfl)))) (mvT hZ (hw _ (List.mem_of_getElem? (i := 33) rfl))) (mvT hZ (hw _ (List.mem_of_getElem? (i := 32) rfl))) (by decide) (backOf (W := 3) (rm5 l Z a0 hw [] a b wz ff h0 Sc F_coder_a F_value_a E_a V_b hwz) hZ (hw _ (List.mem_of_getElem? (i := 34) rfl)) (hw _ (List.mem_of_getElem? (i := 5) rfl)) (by decide) (by decide)) q4a q4c (g := (mkF m 14 #[.val (.ref a), .val (.int x1), .val (.int (0 : Int32))] [(.ref a), (.int (0 : Int32)), (.int x1), (.ref b)])) rfl (by rw [hml]; rfl) (Steps.refl _) (argsL := []) (rest := [(.int (0 : Int32)), (.int x1), (.ref b)]) (lenOf pd_5 rfl) rfl (by show 2 * 0 + _ ≤ _; exact Nat.le_of_eq rfl) (hb hby d3_14) (fun _ _ => ⟨rfl, e3, (by decide : 0 + 0 ≤ _), (by decide : 0 + 0 ≤ _)⟩)
  dsimp only [Pt.U, Pt.locs, Pt.cells, Pt.slots] at X4 l4 y4 z4 st4 hQ4
  subst l4 y4 z4
  obtain ⟨rfl, rfl, e4⟩ := hQ4
  refine own_by (B := T4.setTop (mkF m 17 #[.val (.ref a), .val (.int x1), .val (.int (0 : Int32))] [(.int (f5_0 b wz ff)), (.int (0 : Int32)), (.int x1), (.ref b)])) (fun t k => st4.trans k) ?_
  have hlen : (f5_0 b wz ff) = (15 : Int32) := own_len b wz ff
  rw [hlen]
  obtain ⟨v5, _, ⟨T5, L5, c5, n5⟩, -, X5, ⟨Lc5, hQ5, l5, y5, z5⟩, st5⟩ := Jvm.LawKit.callS X4 hx (y := (⟨"java/lang/StringLatin1", "indexOf", "([BIII)I"⟩ : MethodName)) hown (mvT hZ (hw _ (List.mem_of_getElem? (i := 40) rfl))) (mvT hZ (hw _ (List.mem_of_getElem? (i := 41) rfl))) (mvT hZ (hw _ (List.mem_of_getElem? (i := 42) rfl))) (mvT hZ (hw _ (List.mem_of_getElem? (i := 43) rfl))) (by decide) (backOf (W := 0) (rm7 l Z a0 hw [] b x1 ff h0 V_b) hZ (hw _ (List.mem_of_getElem? (i := 43) rfl)) (hw _ (List.mem_of_getElem? (i := 42) rfl)) (by decide) (by decide)) (g := (mkF m 17 #[.val (.ref a), .val (.int x1), .val (.int (0 : Int32))] [(.int (15 : Int32)), (.int (0 : Int32)), (.int x1), (.ref b)])) rfl (by rw [hml]; rfl) (argsL := [(.ref b), (.int x1), (.int (0 : Int32)), (.int (15 : Int32))]) (rest := []) (lenOf pd_3 rfl) rfl (by show 2 * 0 + _ ≤ _; exact Nat.le_of_eq rfl) (hb hby d3_17) (fun _ _ => ⟨rfl, e4, (by decide : 0 + 0 ≤ _), (by decide : 0 + 0 ≤ _)⟩)
  dsimp only [Pt.U, Pt.locs, Pt.cells, Pt.slots] at X5 l5 y5 z5 st5 hQ5
  subst l5 y5 z5
  obtain ⟨rfl, rfl, e5⟩ := hQ5
  refine own_by (B := T5.setTop (mkF m 20 #[.val (.ref a), .val (.int x1), .val (.int (0 : Int32))] [(.int (f7_0 ff x1))])) (fun t k => st5 _ k) ?_
  refine own_by (B := T5.setTop (mkF m 36 #[.val (.ref a), .val (.int x1), .val (.int (0 : Int32))] [(.int (f7_0 ff x1))])) (fun t k => XS.goto X5.here hx rfl (pc0 := 20) (pc' := 36) rfl (hb hby d3_20) (by decide) (by decide) k) ?_
  exact own_retI X5 hx hlk hret (hb hby d3_36) ⟨by rw [hf], rfl, e5⟩ (by decide) (by decide)
set_option maxRecDepth 65536 in
set_option maxHeartbeats 40000000 in
theorem rm3 (l : Launch) (Z : State) (a0 : Array Value) (hw : ∀ d ∈ tables_1, d.before a0 Z = true) (ws : List Jvm.Cond) (a : Addr) (x1 : Int32)  (b : Addr) (wz : Int32) (ff : Nat → Int32) (h0 : Heap) (Sc : Sta Z h0 "java/lang/String" "COMPACT_STRINGS" "Z" (.int wz)) (F_coder_a : Fld Z h0 a "java/lang/String" "coder" "B" (.int (0 : Int32))) (F_value_a : Fld Z h0 a "java/lang/String" "value" "[B" (.ref b)) (E_a : Exa Z h0 a "java/lang/String") (V_b : own_BA Z h0 b .byte 15 ff) (hwz : ¬ wz = (0 : Int32)) :
    MetFree l (⟨"java/lang/String", "indexOf", "(II)I"⟩ : MethodName) (head1 (Jvm.Cond.code (⟨"java/lang/String", "indexOf", "(II)I"⟩ : MethodName) jdk_42_method_80_code 3 (some .int) :: ws) ({ frames := 2, cells := 0, slots := 0, locals := 32 } : Room)) (fun aa U => aa = #[(.ref a), (.int x1), (.int (0 : Int32))] ∧ Z.Warmed39 U.vm ∧ U.heap = h0) (fun _ _ _ _ _ => True) (fun _ U o U' => ∃ v L, o = .returned v ∧ own_Qp (some (.int (f3_0 b wz ff x1))) h0 v U'.heap L ∧ FrameEnd U o U' L ({ frames := 2, cells := 0, slots := 0, locals := 32 } : Room).cells ({ frames := 2, cells := 0, slots := 0, locals := 32 } : Room).slots) := by
  refine own_met (plainFor_of_name pn_3) fun p e s m below meth c T0 X0 hx hby hml hret hlk hZ hown hnm e0 => ?_
  refine own_cast (ef_3 m a x1 (0 : Int32)) ?_
  exact bk3_0 l Z a0 hw h0 a b wz ff Sc F_coder_a F_value_a E_a V_b x1 hwz X0 hx hby hml hret hlk hZ hown hnm e0
theorem d2_0 : decode jdk_42_method_79_code 0 = .ok (.aload_n 0, 1) := by decide +kernel
theorem d2_1 : decode jdk_42_method_79_code 1 = .ok (.iload_n 1, 1) := by decide +kernel
theorem d2_2 : decode jdk_42_method_79_code 2 = .ok (.iconst 0, 1) := by decide +kernel
theorem d2_3 : decode jdk_42_method_79_code 3 = .ok (.invokevirtual 633, 3) := by decide +kernel
theorem d2_6 : decode jdk_42_method_79_code 6 = .ok (.ireturn, 1) := by decide +kernel
theorem pn_2 : plainName "java/lang/String" = true := by first | (simp [plainName, overriddenIn]; done) | decide +kernel
theorem ef_2 (m : MethodId) (y0 : Addr) (y1 : Int32) : entryFrame m #[(.ref y0), (.int y1)] 2 = mkF m 0 #[.val (.ref y0), .val (.int y1)] [] := by first | (simp [entryFrame, mkF, argsToLocals, Value.category]; done) | rfl
def f2_0 (b : Addr) (wz : Int32) (ff : Nat → Int32) (x1 : Int32) : Int32 := (f3_0 b wz ff x1)
set_option maxRecDepth 65536 in
set_option maxHeartbeats 40000000 in
theorem bk2_0 (l : Launch) (Z : State) (a0 : Array Value) (hw : ∀ d ∈ tables_1, d.before a0 Z = true) (h0 : Heap) (a : Addr)  (b : Addr) (wz : Int32) (ff : Nat → Int32) (Sc : Sta Z h0 "java/lang/String" "COMPACT_STRINGS" "Z" (.int wz)) (F_coder_a : Fld Z h0 a "java/lang/String" "coder" "B" (.int (0 : Int32))) (F_value_a : Fld Z h0 a "java/lang/String" "value" "[B" (.ref b)) (E_a : Exa Z h0 a "java/lang/String") (V_b : own_BA Z h0 b .byte 15 ff) (x1 : Int32) (hwz : ¬ wz = (0 : Int32)) {p : Program} {e : Env} {s : State} {m : MethodId} {args : Array Value} {below : List Frame} {meth : Method} {c : Code} {T0 : State}
    (X0 : Stand p l e ({ frames := 3, cells := 0, slots := 0, locals := 46 } : Room) s m args below meth c T0 [] 0 0) (hx : p.tables.exec = Jvm.exec) (hby : c.code = jdk_42_method_79_code) (hml : c.maxLocals = 2) (hret : meth.sig.returnType = (some .int)) (hlk : meth.locks = false) (hZ : Z.Warmed39 s.vm) (hown : s.vm.findClass "java/lang/String" = some m.cls) (hnm : meth.name = "indexOf") (e0 : T0.heap = h0) :
    own_Go p e below s (own_Qp (some (.int (f2_0 b wz ff x1))) h0) 0 0 (T0.setTop (mkF m 0 #[.val (.ref a), .val (.int x1)] [])) := by
  have hf : f2_0 b wz ff x1 = (f3_0 b wz ff x1) := rfl
  refine own_by (B := T0.setTop (mkF m 1 #[.val (.ref a), .val (.int x1)] [(.ref a)])) (fun t k => XS.aloadN X0.here hx rfl (hb hby d2_0) rfl rfl k) ?_
  refine own_by (B := T0.setTop (mkF m 2 #[.val (.ref a), .val (.int x1)] [(.int x1), (.ref a)])) (fun t k => XS.iloadN X0.here hx rfl (hb hby d2_1) rfl k) ?_
  refine own_by (B := T0.setTop (mkF m 3 #[.val (.ref a), .val (.int x1)] [(.int (0 : Int32)), (.int x1), (.ref a)])) (fun t k => XS.iconst X0.here hx rfl (hb hby d2_2) k) ?_
  obtain ⟨cq1, kq1, q1a, q1b, q1c⟩ := isOf hZ e0 E_a
  obtain ⟨v1, _, ⟨T1, L1, c1, n1⟩, -, X1, ⟨Lc1, hQ1, l1, y1, z1⟩, st1⟩ := X0.virtualBack hx (y := (⟨"java/lang/String", "indexOf", "(II)I"⟩ : MethodName)) (z := (⟨"java/lang/String", "indexOf", "(II)I"⟩ : MethodName)) hown (mvT hZ (hw _ (List.mem_of_getElem? (i := 17) rfl))) (mvT hZ (hw _ (List.mem_of_getElem? (i := 18) rfl))) (notFace_of_selects (args := #[]) (mvT hZ (hw _ (List.mem_of_getElem? (i := 20) rfl)))) (mvT hZ (hw _ (List.mem_of_getElem? (i := 20) rfl))) (mvT hZ (hw _ (List.mem_of_getElem? (i := 19) rfl))) (by decide) (backOf (W := 0) (rm3 l Z a0 hw [] a x1 b wz ff h0 Sc F_coder_a F_value_a E_a V_b hwz) hZ (hw _ (List.mem_of_getElem? (i := 21) rfl)) (hw _ (List.mem_of_getElem? (i := 5) rfl)) (by decide) (by decide)) q1a q1c (g := (mkF m 3 #[.val (.ref a), .val (.int x1)] [(.int (0 : Int32)), (.int x1), (.ref a)])) rfl (by rw [hml]; rfl) (Steps.refl _) (argsL := [(.int x1), (.int (0 : Int32))]) (rest := []) (lenOf pd_2 rfl) rfl (by show 2 * 0 + _ ≤ _; exact Nat.le_of_eq rfl) (hb hby d2_3) (fun _ _ => ⟨rfl, e0, (by decide : 0 + 0 ≤ _), (by decide : 0 + 0 ≤ _)⟩)
  dsimp only [Pt.U, Pt.locs, Pt.cells, Pt.slots] at X1 l1 y1 z1 st1 hQ1
  subst l1 y1 z1
  obtain ⟨rfl, rfl, e1⟩ := hQ1
  refine own_by (B := T1.setTop (mkF m 6 #[.val (.ref a), .val (.int x1)] [(.int (f3_0 b wz ff x1))])) (fun t k => st1.trans k) ?_
  exact own_retI X1 hx hlk hret (hb hby d2_6) ⟨by rw [hf], rfl, e1⟩ (by decide) (by decide)
set_option maxRecDepth 65536 in
set_option maxHeartbeats 40000000 in
theorem rm2 (l : Launch) (Z : State) (a0 : Array Value) (hw : ∀ d ∈ tables_1, d.before a0 Z = true) (ws : List Jvm.Cond) (a : Addr) (x1 : Int32)  (b : Addr) (wz : Int32) (ff : Nat → Int32) (h0 : Heap) (Sc : Sta Z h0 "java/lang/String" "COMPACT_STRINGS" "Z" (.int wz)) (F_coder_a : Fld Z h0 a "java/lang/String" "coder" "B" (.int (0 : Int32))) (F_value_a : Fld Z h0 a "java/lang/String" "value" "[B" (.ref b)) (E_a : Exa Z h0 a "java/lang/String") (V_b : own_BA Z h0 b .byte 15 ff) (hwz : ¬ wz = (0 : Int32)) :
    MetFree l (⟨"java/lang/String", "indexOf", "(I)I"⟩ : MethodName) (head1 (Jvm.Cond.code (⟨"java/lang/String", "indexOf", "(I)I"⟩ : MethodName) jdk_42_method_79_code 2 (some .int) :: ws) ({ frames := 3, cells := 0, slots := 0, locals := 46 } : Room)) (fun aa U => aa = #[(.ref a), (.int x1)] ∧ Z.Warmed39 U.vm ∧ U.heap = h0) (fun _ _ _ _ _ => True) (fun _ U o U' => ∃ v L, o = .returned v ∧ own_Qp (some (.int (f2_0 b wz ff x1))) h0 v U'.heap L ∧ FrameEnd U o U' L ({ frames := 3, cells := 0, slots := 0, locals := 46 } : Room).cells ({ frames := 3, cells := 0, slots := 0, locals := 46 } : Room).slots) := by
  refine own_met (plainFor_of_name pn_2) fun p e s m below meth c T0 X0 hx hby hml hret hlk hZ hown hnm e0 => ?_
  refine own_cast (ef_2 m a x1) ?_
  exact bk2_0 l Z a0 hw h0 a b wz ff Sc F_coder_a F_value_a E_a V_b x1 hwz X0 hx hby hml hret hlk hZ hown hnm e0
theorem d13_0 : decode method_2_code 0 = .ok (.iload_n 0, 1) := by decide +kernel
theorem d13_1 : decode method_2_code 1 = .ok (.bipush 34, 2) := by decide +kernel
theorem d13_3 : decode method_2_code 3 = .ok (.if_icmp .eq 99, 3) := by decide +kernel
theorem d13_6 : decode method_2_code 6 = .ok (.iload_n 0, 1) := by decide +kernel
theorem d13_7 : decode method_2_code 7 = .ok (.bipush 40, 2) := by decide +kernel
theorem d13_9 : decode method_2_code 9 = .ok (.if_icmp .eq 93, 3) := by decide +kernel
theorem d13_12 : decode method_2_code 12 = .ok (.iload_n 0, 1) := by decide +kernel
theorem d13_13 : decode method_2_code 13 = .ok (.bipush 41, 2) := by decide +kernel
theorem d13_15 : decode method_2_code 15 = .ok (.if_icmp .eq 87, 3) := by decide +kernel
theorem d13_18 : decode method_2_code 18 = .ok (.iload_n 0, 1) := by decide +kernel
theorem d13_19 : decode method_2_code 19 = .ok (.bipush 44, 2) := by decide +kernel
theorem d13_21 : decode method_2_code 21 = .ok (.if_icmp .eq 81, 3) := by decide +kernel
theorem d13_24 : decode method_2_code 24 = .ok (.iload_n 0, 1) := by decide +kernel
theorem d13_25 : decode method_2_code 25 = .ok (.bipush 47, 2) := by decide +kernel
theorem d13_27 : decode method_2_code 27 = .ok (.if_icmp .eq 75, 3) := by decide +kernel
theorem d13_30 : decode method_2_code 30 = .ok (.iload_n 0, 1) := by decide +kernel
theorem d13_31 : decode method_2_code 31 = .ok (.bipush 58, 2) := by decide +kernel
theorem d13_33 : decode method_2_code 33 = .ok (.if_icmp .eq 69, 3) := by decide +kernel
theorem d13_36 : decode method_2_code 36 = .ok (.iload_n 0, 1) := by decide +kernel
theorem d13_37 : decode method_2_code 37 = .ok (.bipush 59, 2) := by decide +kernel
theorem d13_39 : decode method_2_code 39 = .ok (.if_icmp .eq 63, 3) := by decide +kernel
theorem d13_42 : decode method_2_code 42 = .ok (.iload_n 0, 1) := by decide +kernel
theorem d13_43 : decode method_2_code 43 = .ok (.bipush 60, 2) := by decide +kernel
theorem d13_45 : decode method_2_code 45 = .ok (.if_icmp .eq 57, 3) := by decide +kernel
theorem d13_48 : decode method_2_code 48 = .ok (.iload_n 0, 1) := by decide +kernel
theorem d13_49 : decode method_2_code 49 = .ok (.bipush 61, 2) := by decide +kernel
theorem d13_51 : decode method_2_code 51 = .ok (.if_icmp .eq 51, 3) := by decide +kernel
theorem d13_54 : decode method_2_code 54 = .ok (.iload_n 0, 1) := by decide +kernel
theorem d13_55 : decode method_2_code 55 = .ok (.bipush 62, 2) := by decide +kernel
theorem d13_57 : decode method_2_code 57 = .ok (.if_icmp .eq 45, 3) := by decide +kernel
theorem d13_60 : decode method_2_code 60 = .ok (.iload_n 0, 1) := by decide +kernel
theorem d13_61 : decode method_2_code 61 = .ok (.bipush 63, 2) := by decide +kernel
theorem d13_63 : decode method_2_code 63 = .ok (.if_icmp .eq 39, 3) := by decide +kernel
theorem d13_66 : decode method_2_code 66 = .ok (.iload_n 0, 1) := by decide +kernel
theorem d13_67 : decode method_2_code 67 = .ok (.bipush 64, 2) := by decide +kernel
theorem d13_69 : decode method_2_code 69 = .ok (.if_icmp .eq 33, 3) := by decide +kernel
theorem d13_72 : decode method_2_code 72 = .ok (.iload_n 0, 1) := by decide +kernel
theorem d13_73 : decode method_2_code 73 = .ok (.bipush 91, 2) := by decide +kernel
theorem d13_75 : decode method_2_code 75 = .ok (.if_icmp .eq 27, 3) := by decide +kernel
theorem d13_78 : decode method_2_code 78 = .ok (.iload_n 0, 1) := by decide +kernel
theorem d13_79 : decode method_2_code 79 = .ok (.bipush 92, 2) := by decide +kernel
theorem d13_81 : decode method_2_code 81 = .ok (.if_icmp .eq 21, 3) := by decide +kernel
theorem d13_84 : decode method_2_code 84 = .ok (.iload_n 0, 1) := by decide +kernel
theorem d13_85 : decode method_2_code 85 = .ok (.bipush 93, 2) := by decide +kernel
theorem d13_87 : decode method_2_code 87 = .ok (.if_icmp .eq 15, 3) := by decide +kernel
theorem d13_90 : decode method_2_code 90 = .ok (.iload_n 0, 1) := by decide +kernel
theorem d13_91 : decode method_2_code 91 = .ok (.bipush 123, 2) := by decide +kernel
theorem d13_93 : decode method_2_code 93 = .ok (.if_icmp .eq 9, 3) := by decide +kernel
theorem d13_96 : decode method_2_code 96 = .ok (.iload_n 0, 1) := by decide +kernel
theorem d13_97 : decode method_2_code 97 = .ok (.bipush 125, 2) := by decide +kernel
theorem d13_99 : decode method_2_code 99 = .ok (.if_icmp .ne 7, 3) := by decide +kernel
theorem d13_102 : decode method_2_code 102 = .ok (.iconst 1, 1) := by decide +kernel
theorem d13_103 : decode method_2_code 103 = .ok (.goto 4, 3) := by decide +kernel
theorem d13_106 : decode method_2_code 106 = .ok (.iconst 0, 1) := by decide +kernel
theorem d13_107 : decode method_2_code 107 = .ok (.ireturn, 1) := by decide +kernel
theorem pn_13 : plainName "com/example/portico/portico/core/http/HttpSyntaxIsTokenCharPinLaw" = true := by first | (simp [plainName, overriddenIn]; done) | decide +kernel
theorem ef_13 (m : MethodId) (y0 : Int32) : entryFrame m #[(.int y0)] 1 = mkF m 0 #[.val (.int y0)] [] := by first | (simp [entryFrame, mkF, argsToLocals, Value.category]; done) | rfl
def f13_107  (x0 : Int32) (y0 : Int32) : Int32 := (nar .boolean y0)
set_option maxRecDepth 65536 in
set_option maxHeartbeats 40000000 in
theorem bk13_107 (l : Launch) (Z : State) (a0 : Array Value) (hw : ∀ d ∈ tables_1, d.before a0 Z = true) (h0 : Heap)     (x0 : Int32) (y0 : Int32)  {p : Program} {e : Env} {s : State} {m : MethodId} {args : Array Value} {below : List Frame} {meth : Method} {c : Code} {T0 : State}
    (X0 : Stand p l e ({ frames := 0, cells := 0, slots := 0, locals := 0 } : Room) s m args below meth c T0 [] 0 0) (hx : p.tables.exec = Jvm.exec) (hby : c.code = method_2_code) (hml : c.maxLocals = 1) (hret : meth.sig.returnType = (some .boolean)) (hlk : meth.locks = false) (hZ : Z.Warmed39 s.vm) (hown : s.vm.findClass "com/example/portico/portico/core/http/HttpSyntaxIsTokenCharPinLaw" = some m.cls) (hnm : meth.name = "isDelimiter") (e0 : T0.heap = h0) :
    own_Go p e below s (own_Qp (some (.int (f13_107  x0 y0))) h0) 0 0 (T0.setTop (mkF m 107 #[.val (.int x0)] [(.int y0)])) := by
  have hf : f13_107  x0 y0 = (nar .boolean y0) := rfl
  exact own_retN (t := .boolean) (by simp) X0 hx hlk hret (z' := (nar .boolean y0)) rfl (hb hby d13_107) ⟨by rw [hf], rfl, e0⟩ (by decide) (by decide)
def f13_102  (x0 : Int32) : Int32 := (f13_107  x0 (1 : Int32))
set_option maxRecDepth 65536 in
set_option maxHeartbeats 40000000 in
theorem bk13_102 (l : Launch) (Z : State) (a0 : Array Value) (hw : ∀ d ∈ tables_1, d.before a0 Z = true) (h0 : Heap)     (x0 : Int32)  {p : Program} {e : Env} {s : State} {m : MethodId} {args : Array Value} {below : List Frame} {meth : Method} {c : Code} {T0 : State}
    (X0 : Stand p l e ({ frames := 0, cells := 0, slots := 0, locals := 0 } : Room) s m args below meth c T0 [] 0 0) (hx : p.tables.exec = Jvm.exec) (hby : c.code = method_2_code) (hml : c.maxLocals = 1) (hret : meth.sig.returnType = (some .boolean)) (hlk : meth.locks = false) (hZ : Z.Warmed39 s.vm) (hown : s.vm.findClass "com/example/portico/portico/core/http/HttpSyntaxIsTokenCharPinLaw" = some m.cls) (hnm : meth.name = "isDelimiter") (e0 : T0.heap = h0) :
    own_Go p e below s (own_Qp (some (.int (f13_102  x0))) h0) 0 0 (T0.setTop (mkF m 102 #[.val (.int x0)] [])) := by
  have hf : f13_102  x0 = (f13_107  x0 (1 : Int32)) := rfl
  refine own_by (B := T0.setTop (mkF m 103 #[.val (.int x0)] [(.int (1 : Int32))])) (fun t k => XS.iconst X0.here hx rfl (hb hby d13_102) k) ?_
  refine own_by (B := T0.setTop (mkF m 107 #[.val (.int x0)] [(.int (1 : Int32))])) (fun t k => XS.goto X0.here hx rfl (pc0 := 103) (pc' := 107) rfl (hb hby d13_103) (by decide) (by decide) k) ?_
  rw [hf]
  exact bk13_107 l Z a0 hw h0   x0 (1 : Int32)  X0 hx hby hml hret hlk hZ hown hnm e0
def f13_0  (x0 : Int32) : Int32 := (if x0 = (34 : Int32) then (f13_102  x0) else (if x0 = (40 : Int32) then (f13_102  x0) else (if x0 = (41 : Int32) then (f13_102  x0) else (if x0 = (44 : Int32) then (f13_102  x0) else (if x0 = (47 : Int32) then (f13_102  x0) else (if x0 = (58 : Int32) then (f13_102  x0) else (if x0 = (59 : Int32) then (f13_102  x0) else (if x0 = (60 : Int32) then (f13_102  x0) else (if x0 = (61 : Int32) then (f13_102  x0) else (if x0 = (62 : Int32) then (f13_102  x0) else (if x0 = (63 : Int32) then (f13_102  x0) else (if x0 = (64 : Int32) then (f13_102  x0) else (if x0 = (91 : Int32) then (f13_102  x0) else (if x0 = (92 : Int32) then (f13_102  x0) else (if x0 = (93 : Int32) then (f13_102  x0) else (if x0 = (123 : Int32) then (f13_102  x0) else (if x0 = (125 : Int32) then (f13_102  x0) else (f13_107  x0 (0 : Int32)))))))))))))))))))
set_option maxRecDepth 65536 in
set_option maxHeartbeats 40000000 in
theorem bk13_0 (l : Launch) (Z : State) (a0 : Array Value) (hw : ∀ d ∈ tables_1, d.before a0 Z = true) (h0 : Heap)     (x0 : Int32)  {p : Program} {e : Env} {s : State} {m : MethodId} {args : Array Value} {below : List Frame} {meth : Method} {c : Code} {T0 : State}
    (X0 : Stand p l e ({ frames := 0, cells := 0, slots := 0, locals := 0 } : Room) s m args below meth c T0 [] 0 0) (hx : p.tables.exec = Jvm.exec) (hby : c.code = method_2_code) (hml : c.maxLocals = 1) (hret : meth.sig.returnType = (some .boolean)) (hlk : meth.locks = false) (hZ : Z.Warmed39 s.vm) (hown : s.vm.findClass "com/example/portico/portico/core/http/HttpSyntaxIsTokenCharPinLaw" = some m.cls) (hnm : meth.name = "isDelimiter") (e0 : T0.heap = h0) :
    own_Go p e below s (own_Qp (some (.int (f13_0  x0))) h0) 0 0 (T0.setTop (mkF m 0 #[.val (.int x0)] [])) := by
  have hf : f13_0  x0 = (if x0 = (34 : Int32) then (f13_102  x0) else (if x0 = (40 : Int32) then (f13_102  x0) else (if x0 = (41 : Int32) then (f13_102  x0) else (if x0 = (44 : Int32) then (f13_102  x0) else (if x0 = (47 : Int32) then (f13_102  x0) else (if x0 = (58 : Int32) then (f13_102  x0) else (if x0 = (59 : Int32) then (f13_102  x0) else (if x0 = (60 : Int32) then (f13_102  x0) else (if x0 = (61 : Int32) then (f13_102  x0) else (if x0 = (62 : Int32) then (f13_102  x0) else (if x0 = (63 : Int32) then (f13_102  x0) else (if x0 = (64 : Int32) then (f13_102  x0) else (if x0 = (91 : Int32) then (f13_102  x0) else (if x0 = (92 : Int32) then (f13_102  x0) else (if x0 = (93 : Int32) then (f13_102  x0) else (if x0 = (123 : Int32) then (f13_102  x0) else (if x0 = (125 : Int32) then (f13_102  x0) else (f13_107  x0 (0 : Int32))))))))))))))))))) := rfl
  refine own_by (B := T0.setTop (mkF m 1 #[.val (.int x0)] [(.int x0)])) (fun t k => XS.iloadN X0.here hx rfl (hb hby d13_0) rfl k) ?_
  refine own_by (B := T0.setTop (mkF m 3 #[.val (.int x0)] [(.int (34 : Int32)), (.int x0)])) (fun t k => XS.bipush X0.here hx rfl (hb hby d13_1) k) ?_
  by_cases hc1 : x0 = (34 : Int32)
  ·
    rw [if_pos hc1] at hf
    refine own_by (B := T0.setTop (mkF m 102 #[.val (.int x0)] [])) (fun t k => XS.icmpYes X0.here hx rfl (pc0 := 3) (pc' := 102) rfl (hb hby d13_3) rfl (teq hc1).1 (by decide) (by decide) k) ?_
    rw [hf]
    exact bk13_102 l Z a0 hw h0   x0  X0 hx hby hml hret hlk hZ hown hnm e0
  ·
    rw [if_neg hc1] at hf
    refine own_by (B := T0.setTop (mkF m 6 #[.val (.int x0)] [])) (fun t k => XS.icmpNo X0.here hx rfl (hb hby d13_3) rfl (feq hc1).1 k) ?_
    refine own_by (B := T0.setTop (mkF m 7 #[.val (.int x0)] [(.int x0)])) (fun t k => XS.iloadN X0.here hx rfl (hb hby d13_6) rfl k) ?_
    refine own_by (B := T0.setTop (mkF m 9 #[.val (.int x0)] [(.int (40 : Int32)), (.int x0)])) (fun t k => XS.bipush X0.here hx rfl (hb hby d13_7) k) ?_
    by_cases hc2 : x0 = (40 : Int32)
    ·
      rw [if_pos hc2] at hf
      refine own_by (B := T0.setTop (mkF m 102 #[.val (.int x0)] [])) (fun t k => XS.icmpYes X0.here hx rfl (pc0 := 9) (pc' := 102) rfl (hb hby d13_9) rfl (teq hc2).1 (by decide) (by decide) k) ?_
      rw [hf]
      exact bk13_102 l Z a0 hw h0   x0  X0 hx hby hml hret hlk hZ hown hnm e0
    ·
      rw [if_neg hc2] at hf
      refine own_by (B := T0.setTop (mkF m 12 #[.val (.int x0)] [])) (fun t k => XS.icmpNo X0.here hx rfl (hb hby d13_9) rfl (feq hc2).1 k) ?_
      refine own_by (B := T0.setTop (mkF m 13 #[.val (.int x0)] [(.int x0)])) (fun t k => XS.iloadN X0.here hx rfl (hb hby d13_12) rfl k) ?_
      refine own_by (B := T0.setTop (mkF m 15 #[.val (.int x0)] [(.int (41 : Int32)), (.int x0)])) (fun t k => XS.bipush X0.here hx rfl (hb hby d13_13) k) ?_
      by_cases hc3 : x0 = (41 : Int32)
      ·
        rw [if_pos hc3] at hf
        refine own_by (B := T0.setTop (mkF m 102 #[.val (.int x0)] [])) (fun t k => XS.icmpYes X0.here hx rfl (pc0 := 15) (pc' := 102) rfl (hb hby d13_15) rfl (teq hc3).1 (by decide) (by decide) k) ?_
        rw [hf]
        exact bk13_102 l Z a0 hw h0   x0  X0 hx hby hml hret hlk hZ hown hnm e0
      ·
        rw [if_neg hc3] at hf
        refine own_by (B := T0.setTop (mkF m 18 #[.val (.int x0)] [])) (fun t k => XS.icmpNo X0.here hx rfl (hb hby d13_15) rfl (feq hc3).1 k) ?_
        refine own_by (B := T0.setTop (mkF m 19 #[.val (.int x0)] [(.int x0)])) (fun t k => XS.iloadN X0.here hx rfl (hb hby d13_18) rfl k) ?_
        refine own_by (B := T0.setTop (mkF m 21 #[.val (.int x0)] [(.int (44 : Int32)), (.int x0)])) (fun t k => XS.bipush X0.here hx rfl (hb hby d13_19) k) ?_
        by_cases hc4 : x0 = (44 : Int32)
        ·
          rw [if_pos hc4] at hf
          refine own_by (B := T0.setTop (mkF m 102 #[.val (.int x0)] [])) (fun t k => XS.icmpYes X0.here hx rfl (pc0 := 21) (pc' := 102) rfl (hb hby d13_21) rfl (teq hc4).1 (by decide) (by decide) k) ?_
          rw [hf]
          exact bk13_102 l Z a0 hw h0   x0  X0 hx hby hml hret hlk hZ hown hnm e0
        ·
          rw [if_neg hc4] at hf
          refine own_by (B := T0.setTop (mkF m 24 #[.val (.int x0)] [])) (fun t k => XS.icmpNo X0.here hx rfl (hb hby d13_21) rfl (feq hc4).1 k) ?_
          refine own_by (B := T0.setTop (mkF m 25 #[.val (.int x0)] [(.int x0)])) (fun t k => XS.iloadN X0.here hx rfl (hb hby d13_24) rfl k) ?_
          refine own_by (B := T0.setTop (mkF m 27 #[.val (.int x0)] [(.int (47 : Int32)), (.int x0)])) (fun t k => XS.bipush X0.here hx rfl (hb hby d13_25) k) ?_
          by_cases hc5 : x0 = (47 : Int32)
          ·
            rw [if_pos hc5] at hf
            refine own_by (B := T0.setTop (mkF m 102 #[.val (.int x0)] [])) (fun t k => XS.icmpYes X0.here hx rfl (pc0 := 27) (pc' := 102) rfl (hb hby d13_27) rfl (teq hc5).1 (by decide) (by decide) k) ?_
            rw [hf]
            exact bk13_102 l Z a0 hw h0   x0  X0 hx hby hml hret hlk hZ hown hnm e0
          ·
            rw [if_neg hc5] at hf
            refine own_by (B := T0.setTop (mkF m 30 #[.val (.int x0)] [])) (fun t k => XS.icmpNo X0.here hx rfl (hb hby d13_27) rfl (feq hc5).1 k) ?_
            refine own_by (B := T0.setTop (mkF m 31 #[.val (.int x0)] [(.int x0)])) (fun t k => XS.iloadN X0.here hx rfl (hb hby d13_30) rfl k) ?_
            refine own_by (B := T0.setTop (mkF m 33 #[.val (.int x0)] [(.int (58 : Int32)), (.int x0)])) (fun t k => XS.bipush X0.here hx rfl (hb hby d13_31) k) ?_
            by_cases hc6 : x0 = (58 : Int32)
            ·
              rw [if_pos hc6] at hf
              refine own_by (B := T0.setTop (mkF m 102 #[.val (.int x0)] [])) (fun t k => XS.icmpYes X0.here hx rfl (pc0 := 33) (pc' := 102) rfl (hb hby d13_33) rfl (teq hc6).1 (by decide) (by decide) k) ?_
              rw [hf]
              exact bk13_102 l Z a0 hw h0   x0  X0 hx hby hml hret hlk hZ hown hnm e0
            ·
              rw [if_neg hc6] at hf
              refine own_by (B := T0.setTop (mkF m 36 #[.val (.int x0)] [])) (fun t k => XS.icmpNo X0.here hx rfl (hb hby d13_33) rfl (feq hc6).1 k) ?_
              refine own_by (B := T0.setTop (mkF m 37 #[.val (.int x0)] [(.int x0)])) (fun t k => XS.iloadN X0.here hx rfl (hb hby d13_36) rfl k) ?_
              refine own_by (B := T0.setTop (mkF m 39 #[.val (.int x0)] [(.int (59 : Int32)), (.int x0)])) (fun t k => XS.bipush X0.here hx rfl (hb hby d13_37) k) ?_
              by_cases hc7 : x0 = (59 : Int32)
              ·
                rw [if_pos hc7] at hf
                refine own_by (B := T0.setTop (mkF m 102 #[.val (.int x0)] [])) (fun t k => XS.icmpYes X0.here hx rfl (pc0 := 39) (pc' := 102) rfl (hb hby d13_39) rfl (teq hc7).1 (by decide) (by decide) k) ?_
                rw [hf]
                exact bk13_102 l Z a0 hw h0   x0  X0 hx hby hml hret hlk hZ hown hnm e0
              ·
                rw [if_neg hc7] at hf
                refine own_by (B := T0.setTop (mkF m 42 #[.val (.int x0)] [])) (fun t k => XS.icmpNo X0.here hx rfl (hb hby d13_39) rfl (feq hc7).1 k) ?_
                refine own_by (B := T0.setTop (mkF m 43 #[.val (.int x0)] [(.int x0)])) (fun t k => XS.iloadN X0.here hx rfl (hb hby d13_42) rfl k) ?_
                refine own_by (B := T0.setTop (mkF m 45 #[.val (.int x0)] [(.int (60 : Int32)), (.int x0)])) (fun t k => XS.bipush X0.here hx rfl (hb hby d13_43) k) ?_
                by_cases hc8 : x0 = (60 : Int32)
                ·
                  rw [if_pos hc8] at hf
                  refine own_by (B := T0.setTop (mkF m 102 #[.val (.int x0)] [])) (fun t k => XS.icmpYes X0.here hx rfl (pc0 := 45) (pc' := 102) rfl (hb hby d13_45) rfl (teq hc8).1 (by decide) (by decide) k) ?_
                  rw [hf]
                  exact bk13_102 l Z a0 hw h0   x0  X0 hx hby hml hret hlk hZ hown hnm e0
                ·
                  rw [if_neg hc8] at hf
                  refine own_by (B := T0.setTop (mkF m 48 #[.val (.int x0)] [])) (fun t k => XS.icmpNo X0.here hx rfl (hb hby d13_45) rfl (feq hc8).1 k) ?_
                  refine own_by (B := T0.setTop (mkF m 49 #[.val (.int x0)] [(.int x0)])) (fun t k => XS.iloadN X0.here hx rfl (hb hby d13_48) rfl k) ?_
                  refine own_by (B := T0.setTop (mkF m 51 #[.val (.int x0)] [(.int (61 : Int32)), (.int x0)])) (fun t k => XS.bipush X0.here hx rfl (hb hby d13_49) k) ?_
                  by_cases hc9 : x0 = (61 : Int32)
                  ·
                    rw [if_pos hc9] at hf
                    refine own_by (B := T0.setTop (mkF m 102 #[.val (.int x0)] [])) (fun t k => XS.icmpYes X0.here hx rfl (pc0 := 51) (pc' := 102) rfl (hb hby d13_51) rfl (teq hc9).1 (by decide) (by decide) k) ?_
                    rw [hf]
                    exact bk13_102 l Z a0 hw h0   x0  X0 hx hby hml hret hlk hZ hown hnm e0
                  ·
                    rw [if_neg hc9] at hf
                    refine own_by (B := T0.setTop (mkF m 54 #[.val (.int x0)] [])) (fun t k => XS.icmpNo X0.here hx rfl (hb hby d13_51) rfl (feq hc9).1 k) ?_
                    refine own_by (B := T0.setTop (mkF m 55 #[.val (.int x0)] [(.int x0)])) (fun t k => XS.iloadN X0.here hx rfl (hb hby d13_54) rfl k) ?_
                    refine own_by (B := T0.setTop (mkF m 57 #[.val (.int x0)] [(.int (62 : Int32)), (.int x0)])) (fun t k => XS.bipush X0.here hx rfl (hb hby d13_55) k) ?_
                    by_cases hc10 : x0 = (62 : Int32)
                    ·
                      rw [if_pos hc10] at hf
                      refine own_by (B := T0.setTop (mkF m 102 #[.val (.int x0)] [])) (fun t k => XS.icmpYes X0.here hx rfl (pc0 := 57) (pc' := 102) rfl (hb hby d13_57) rfl (teq hc10).1 (by decide) (by decide) k) ?_
                      rw [hf]
                      exact bk13_102 l Z a0 hw h0   x0  X0 hx hby hml hret hlk hZ hown hnm e0
                    ·
                      rw [if_neg hc10] at hf
                      refine own_by (B := T0.setTop (mkF m 60 #[.val (.int x0)] [])) (fun t k => XS.icmpNo X0.here hx rfl (hb hby d13_57) rfl (feq hc10).1 k) ?_
                      refine own_by (B := T0.setTop (mkF m 61 #[.val (.int x0)] [(.int x0)])) (fun t k => XS.iloadN X0.here hx rfl (hb hby d13_60) rfl k) ?_
                      refine own_by (B := T0.setTop (mkF m 63 #[.val (.int x0)] [(.int (63 : Int32)), (.int x0)])) (fun t k => XS.bipush X0.here hx rfl (hb hby d13_61) k) ?_
                      by_cases hc11 : x0 = (63 : Int32)
                      ·
                        rw [if_pos hc11] at hf
                        refine own_by (B := T0.setTop (mkF m 102 #[.val (.int x0)] [])) (fun t k => XS.icmpYes X0.here hx rfl (pc0 := 63) (pc' := 102) rfl (hb hby d13_63) rfl (teq hc11).1 (by decide) (by decide) k) ?_
                        rw [hf]
                        exact bk13_102 l Z a0 hw h0   x0  X0 hx hby hml hret hlk hZ hown hnm e0
                      ·
                        rw [if_neg hc11] at hf
                        refine own_by (B := T0.setTop (mkF m 66 #[.val (.int x0)] [])) (fun t k => XS.icmpNo X0.here hx rfl (hb hby d13_63) rfl (feq hc11).1 k) ?_
                        refine own_by (B := T0.setTop (mkF m 67 #[.val (.int x0)] [(.int x0)])) (fun t k => XS.iloadN X0.here hx rfl (hb hby d13_66) rfl k) ?_
                        refine own_by (B := T0.setTop (mkF m 69 #[.val (.int x0)] [(.int (64 : Int32)), (.int x0)])) (fun t k => XS.bipush X0.here hx rfl (hb hby d13_67) k) ?_
                        by_cases hc12 : x0 = (64 : Int32)
                        ·
                          rw [if_pos hc12] at hf
                          refine own_by (B := T0.setTop (mkF m 102 #[.val (.int x0)] [])) (fun t k => XS.icmpYes X0.here hx rfl (pc0 := 69) (pc' := 102) rfl (hb hby d13_69) rfl (teq hc12).1 (by decide) (by decide) k) ?_
                          rw [hf]
                          exact bk13_102 l Z a0 hw h0   x0  X0 hx hby hml hret hlk hZ hown hnm e0
                        ·
                          rw [if_neg hc12] at hf
                          refine own_by (B := T0.setTop (mkF m 72 #[.val (.int x0)] [])) (fun t k => XS.icmpNo X0.here hx rfl (hb hby d13_69) rfl (feq hc12).1 k) ?_
                          refine own_by (B := T0.setTop (mkF m 73 #[.val (.int x0)] [(.int x0)])) (fun t k => XS.iloadN X0.here hx rfl (hb hby d13_72) rfl k) ?_
                          refine own_by (B := T0.setTop (mkF m 75 #[.val (.int x0)] [(.int (91 : Int32)), (.int x0)])) (fun t k => XS.bipush X0.here hx rfl (hb hby d13_73) k) ?_
                          by_cases hc13 : x0 = (91 : Int32)
                          ·
                            rw [if_pos hc13] at hf
                            refine own_by (B := T0.setTop (mkF m 102 #[.val (.int x0)] [])) (fun t k => XS.icmpYes X0.here hx rfl (pc0 := 75) (pc' := 102) rfl (hb hby d13_75) rfl (teq hc13).1 (by decide) (by decide) k) ?_
                            rw [hf]
                            exact bk13_102 l Z a0 hw h0   x0  X0 hx hby hml hret hlk hZ hown hnm e0
                          ·
                            rw [if_neg hc13] at hf
                            refine own_by (B := T0.setTop (mkF m 78 #[.val (.int x0)] [])) (fun t k => XS.icmpNo X0.here hx rfl (hb hby d13_75) rfl (feq hc13).1 k) ?_
                            refine own_by (B := T0.setTop (mkF m 79 #[.val (.int x0)] [(.int x0)])) (fun t k => XS.iloadN X0.here hx rfl (hb hby d13_78) rfl k) ?_
                            refine own_by (B := T0.setTop (mkF m 81 #[.val (.int x0)] [(.int (92 : Int32)), (.int x0)])) (fun t k => XS.bipush X0.here hx rfl (hb hby d13_79) k) ?_
                            by_cases hc14 : x0 = (92 : Int32)
                            ·
                              rw [if_pos hc14] at hf
                              refine own_by (B := T0.setTop (mkF m 102 #[.val (.int x0)] [])) (fun t k => XS.icmpYes X0.here hx rfl (pc0 := 81) (pc' := 102) rfl (hb hby d13_81) rfl (teq hc14).1 (by decide) (by decide) k) ?_
                              rw [hf]
                              exact bk13_102 l Z a0 hw h0   x0  X0 hx hby hml hret hlk hZ hown hnm e0
                            ·
                              rw [if_neg hc14] at hf
                              refine own_by (B := T0.setTop (mkF m 84 #[.val (.int x0)] [])) (fun t k => XS.icmpNo X0.here hx rfl (hb hby d13_81) rfl (feq hc14).1 k) ?_
                              refine own_by (B := T0.setTop (mkF m 85 #[.val (.int x0)] [(.int x0)])) (fun t k => XS.iloadN X0.here hx rfl (hb hby d13_84) rfl k) ?_
                              refine own_by (B := T0.setTop (mkF m 87 #[.val (.int x0)] [(.int (93 : Int32)), (.int x0)])) (fun t k => XS.bipush X0.here hx rfl (hb hby d13_85) k) ?_
                              by_cases hc15 : x0 = (93 : Int32)
                              ·
                                rw [if_pos hc15] at hf
                                refine own_by (B := T0.setTop (mkF m 102 #[.val (.int x0)] [])) (fun t k => XS.icmpYes X0.here hx rfl (pc0 := 87) (pc' := 102) rfl (hb hby d13_87) rfl (teq hc15).1 (by decide) (by decide) k) ?_
                                rw [hf]
                                exact bk13_102 l Z a0 hw h0   x0  X0 hx hby hml hret hlk hZ hown hnm e0
                              ·
                                rw [if_neg hc15] at hf
                                refine own_by (B := T0.setTop (mkF m 90 #[.val (.int x0)] [])) (fun t k => XS.icmpNo X0.here hx rfl (hb hby d13_87) rfl (feq hc15).1 k) ?_
                                refine own_by (B := T0.setTop (mkF m 91 #[.val (.int x0)] [(.int x0)])) (fun t k => XS.iloadN X0.here hx rfl (hb hby d13_90) rfl k) ?_
                                refine own_by (B := T0.setTop (mkF m 93 #[.val (.int x0)] [(.int (123 : Int32)), (.int x0)])) (fun t k => XS.bipush X0.here hx rfl (hb hby d13_91) k) ?_
                                by_cases hc16 : x0 = (123 : Int32)
                                ·
                                  rw [if_pos hc16] at hf
                                  refine own_by (B := T0.setTop (mkF m 102 #[.val (.int x0)] [])) (fun t k => XS.icmpYes X0.here hx rfl (pc0 := 93) (pc' := 102) rfl (hb hby d13_93) rfl (teq hc16).1 (by decide) (by decide) k) ?_
                                  rw [hf]
                                  exact bk13_102 l Z a0 hw h0   x0  X0 hx hby hml hret hlk hZ hown hnm e0
                                ·
                                  rw [if_neg hc16] at hf
                                  refine own_by (B := T0.setTop (mkF m 96 #[.val (.int x0)] [])) (fun t k => XS.icmpNo X0.here hx rfl (hb hby d13_93) rfl (feq hc16).1 k) ?_
                                  refine own_by (B := T0.setTop (mkF m 97 #[.val (.int x0)] [(.int x0)])) (fun t k => XS.iloadN X0.here hx rfl (hb hby d13_96) rfl k) ?_
                                  refine own_by (B := T0.setTop (mkF m 99 #[.val (.int x0)] [(.int (125 : Int32)), (.int x0)])) (fun t k => XS.bipush X0.here hx rfl (hb hby d13_97) k) ?_
                                  by_cases hc17 : x0 = (125 : Int32)
                                  ·
                                    rw [if_pos hc17] at hf
                                    refine own_by (B := T0.setTop (mkF m 102 #[.val (.int x0)] [])) (fun t k => XS.icmpNo X0.here hx rfl (hb hby d13_99) rfl (teq hc17).2 k) ?_
                                    rw [hf]
                                    exact bk13_102 l Z a0 hw h0   x0  X0 hx hby hml hret hlk hZ hown hnm e0
                                  ·
                                    rw [if_neg hc17] at hf
                                    refine own_by (B := T0.setTop (mkF m 106 #[.val (.int x0)] [])) (fun t k => XS.icmpYes X0.here hx rfl (pc0 := 99) (pc' := 106) rfl (hb hby d13_99) rfl (feq hc17).2 (by decide) (by decide) k) ?_
                                    refine own_by (B := T0.setTop (mkF m 107 #[.val (.int x0)] [(.int (0 : Int32))])) (fun t k => XS.iconst X0.here hx rfl (hb hby d13_106) k) ?_
                                    rw [hf]
                                    exact bk13_107 l Z a0 hw h0   x0 (0 : Int32)  X0 hx hby hml hret hlk hZ hown hnm e0
set_option maxRecDepth 65536 in
set_option maxHeartbeats 40000000 in
theorem rm13 (l : Launch) (Z : State) (a0 : Array Value) (hw : ∀ d ∈ tables_1, d.before a0 Z = true) (ws : List Jvm.Cond) (x0 : Int32)   (h0 : Heap)   :
    MetFree l (⟨"com/example/portico/portico/core/http/HttpSyntaxIsTokenCharPinLaw", "isDelimiter", "(I)Z"⟩ : MethodName) (head1 (Jvm.Cond.code (⟨"com/example/portico/portico/core/http/HttpSyntaxIsTokenCharPinLaw", "isDelimiter", "(I)Z"⟩ : MethodName) method_2_code 1 (some .boolean) :: ws) ({ frames := 0, cells := 0, slots := 0, locals := 0 } : Room)) (fun aa U => aa = #[(.int x0)] ∧ Z.Warmed39 U.vm ∧ U.heap = h0) (fun _ _ _ _ _ => True) (fun _ U o U' => ∃ v L, o = .returned v ∧ own_Qp (some (.int (f13_0  x0))) h0 v U'.heap L ∧ FrameEnd U o U' L ({ frames := 0, cells := 0, slots := 0, locals := 0 } : Room).cells ({ frames := 0, cells := 0, slots := 0, locals := 0 } : Room).slots) := by
  refine own_met (plainFor_of_name pn_13) fun p e s m below meth c T0 X0 hx hby hml hret hlk hZ hown hnm e0 => ?_
  refine own_cast (ef_13 m x0) ?_
  exact bk13_0 l Z a0 hw h0   x0  X0 hx hby hml hret hlk hZ hown hnm e0
theorem d12_0 : decode method_3_code 0 = .ok (.iload_n 0, 1) := by decide +kernel
theorem d12_1 : decode method_3_code 1 = .ok (.bipush 33, 2) := by decide +kernel
theorem d12_3 : decode method_3_code 3 = .ok (.if_icmp .ge 5, 3) := by decide +kernel
theorem d12_6 : decode method_3_code 6 = .ok (.iconst 0, 1) := by decide +kernel
theorem d12_7 : decode method_3_code 7 = .ok (.ireturn, 1) := by decide +kernel
theorem d12_8 : decode method_3_code 8 = .ok (.iload_n 0, 1) := by decide +kernel
theorem d12_9 : decode method_3_code 9 = .ok (.bipush 126, 2) := by decide +kernel
theorem d12_11 : decode method_3_code 11 = .ok (.if_icmp .le 5, 3) := by decide +kernel
theorem d12_14 : decode method_3_code 14 = .ok (.iconst 0, 1) := by decide +kernel
theorem d12_15 : decode method_3_code 15 = .ok (.ireturn, 1) := by decide +kernel
theorem d12_16 : decode method_3_code 16 = .ok (.iload_n 0, 1) := by decide +kernel
theorem d12_17 : decode method_3_code 17 = .ok (.invokestatic 7, 3) := by decide +kernel
theorem d12_20 : decode method_3_code 20 = .ok (.ifCond .ne 7, 3) := by decide +kernel
theorem d12_23 : decode method_3_code 23 = .ok (.iconst 1, 1) := by decide +kernel
theorem d12_24 : decode method_3_code 24 = .ok (.goto 4, 3) := by decide +kernel
theorem d12_27 : decode method_3_code 27 = .ok (.iconst 0, 1) := by decide +kernel
theorem d12_28 : decode method_3_code 28 = .ok (.ireturn, 1) := by decide +kernel
theorem pn_12 : plainName "com/example/portico/portico/core/http/HttpSyntaxIsTokenCharPinLaw" = true := by first | (simp [plainName, overriddenIn]; done) | decide +kernel
theorem ef_12 (m : MethodId) (y0 : Int32) : entryFrame m #[(.int y0)] 1 = mkF m 0 #[.val (.int y0)] [] := by first | (simp [entryFrame, mkF, argsToLocals, Value.category]; done) | rfl
def f12_28  (x0 : Int32) (y0 : Int32) : Int32 := (nar .boolean y0)
set_option maxRecDepth 65536 in
set_option maxHeartbeats 40000000 in
theorem bk12_28 (l : Launch) (Z : State) (a0 : Array Value) (hw : ∀ d ∈ tables_1, d.before a0 Z = true) (h0 : Heap)     (x0 : Int32) (y0 : Int32)  {p : Program} {e : Env} {s : State} {m : MethodId} {args : Array Value} {below : List Frame} {meth : Method} {c : Code} {T0 : State}
    (X0 : Stand p l e ({ frames := 1, cells := 0, slots := 0, locals := 12 } : Room) s m args below meth c T0 [] 0 0) (hx : p.tables.exec = Jvm.exec) (hby : c.code = method_3_code) (hml : c.maxLocals = 1) (hret : meth.sig.returnType = (some .boolean)) (hlk : meth.locks = false) (hZ : Z.Warmed39 s.vm) (hown : s.vm.findClass "com/example/portico/portico/core/http/HttpSyntaxIsTokenCharPinLaw" = some m.cls) (hnm : meth.name = "expected") (e0 : T0.heap = h0) :
    own_Go p e below s (own_Qp (some (.int (f12_28  x0 y0))) h0) 0 0 (T0.setTop (mkF m 28 #[.val (.int x0)] [(.int y0)])) := by
  have hf : f12_28  x0 y0 = (nar .boolean y0) := rfl
  exact own_retN (t := .boolean) (by simp) X0 hx hlk hret (z' := (nar .boolean y0)) rfl (hb hby d12_28) ⟨by rw [hf], rfl, e0⟩ (by decide) (by decide)
def f12_0  (x0 : Int32) : Int32 := (if x0 < (33 : Int32) then (0 : Int32) else (if (126 : Int32) < x0 then (0 : Int32) else (if (f13_0 x0) = (0 : Int32) then (f12_28  x0 (1 : Int32)) else (f12_28  x0 (0 : Int32)))))
set_option maxRecDepth 65536 in
set_option maxHeartbeats 40000000 in
theorem bk12_0 (l : Launch) (Z : State) (a0 : Array Value) (hw : ∀ d ∈ tables_1, d.before a0 Z = true) (h0 : Heap)     (x0 : Int32)  {p : Program} {e : Env} {s : State} {m : MethodId} {args : Array Value} {below : List Frame} {meth : Method} {c : Code} {T0 : State}
    (X0 : Stand p l e ({ frames := 1, cells := 0, slots := 0, locals := 12 } : Room) s m args below meth c T0 [] 0 0) (hx : p.tables.exec = Jvm.exec) (hby : c.code = method_3_code) (hml : c.maxLocals = 1) (hret : meth.sig.returnType = (some .boolean)) (hlk : meth.locks = false) (hZ : Z.Warmed39 s.vm) (hown : s.vm.findClass "com/example/portico/portico/core/http/HttpSyntaxIsTokenCharPinLaw" = some m.cls) (hnm : meth.name = "expected") (e0 : T0.heap = h0) :
    own_Go p e below s (own_Qp (some (.int (f12_0  x0))) h0) 0 0 (T0.setTop (mkF m 0 #[.val (.int x0)] [])) := by
  have hf : f12_0  x0 = (if x0 < (33 : Int32) then (0 : Int32) else (if (126 : Int32) < x0 then (0 : Int32) else (if (f13_0 x0) = (0 : Int32) then (f12_28  x0 (1 : Int32)) else (f12_28  x0 (0 : Int32))))) := rfl
  refine own_by (B := T0.setTop (mkF m 1 #[.val (.int x0)] [(.int x0)])) (fun t k => XS.iloadN X0.here hx rfl (hb hby d12_0) rfl k) ?_
  refine own_by (B := T0.setTop (mkF m 3 #[.val (.int x0)] [(.int (33 : Int32)), (.int x0)])) (fun t k => XS.bipush X0.here hx rfl (hb hby d12_1) k) ?_
  by_cases hc1 : x0 < (33 : Int32)
  ·
    rw [if_pos hc1] at hf
    refine own_by (B := T0.setTop (mkF m 6 #[.val (.int x0)] [])) (fun t k => XS.icmpNo X0.here hx rfl (hb hby d12_3) rfl (tlt hc1).2.1 k) ?_
    refine own_by (B := T0.setTop (mkF m 7 #[.val (.int x0)] [(.int (0 : Int32))])) (fun t k => XS.iconst X0.here hx rfl (hb hby d12_6) k) ?_
    exact own_retN (t := .boolean) (by simp) X0 hx hlk hret (z' := (0 : Int32)) (by decide) (hb hby d12_7) ⟨by rw [hf], rfl, e0⟩ (by decide) (by decide)
  ·
    rw [if_neg hc1] at hf
    refine own_by (B := T0.setTop (mkF m 8 #[.val (.int x0)] [])) (fun t k => XS.icmpYes X0.here hx rfl (pc0 := 3) (pc' := 8) rfl (hb hby d12_3) rfl (flt hc1).2.1 (by decide) (by decide) k) ?_
    refine own_by (B := T0.setTop (mkF m 9 #[.val (.int x0)] [(.int x0)])) (fun t k => XS.iloadN X0.here hx rfl (hb hby d12_8) rfl k) ?_
    refine own_by (B := T0.setTop (mkF m 11 #[.val (.int x0)] [(.int (126 : Int32)), (.int x0)])) (fun t k => XS.bipush X0.here hx rfl (hb hby d12_9) k) ?_
    by_cases hc2 : (126 : Int32) < x0
    ·
      rw [if_pos hc2] at hf
      refine own_by (B := T0.setTop (mkF m 14 #[.val (.int x0)] [])) (fun t k => XS.icmpNo X0.here hx rfl (hb hby d12_11) rfl (tlt hc2).2.2.2 k) ?_
      refine own_by (B := T0.setTop (mkF m 15 #[.val (.int x0)] [(.int (0 : Int32))])) (fun t k => XS.iconst X0.here hx rfl (hb hby d12_14) k) ?_
      exact own_retN (t := .boolean) (by simp) X0 hx hlk hret (z' := (0 : Int32)) (by decide) (hb hby d12_15) ⟨by rw [hf], rfl, e0⟩ (by decide) (by decide)
    ·
      rw [if_neg hc2] at hf
      refine own_by (B := T0.setTop (mkF m 16 #[.val (.int x0)] [])) (fun t k => XS.icmpYes X0.here hx rfl (pc0 := 11) (pc' := 16) rfl (hb hby d12_11) rfl (flt hc2).2.2.2 (by decide) (by decide) k) ?_
      refine own_by (B := T0.setTop (mkF m 17 #[.val (.int x0)] [(.int x0)])) (fun t k => XS.iloadN X0.here hx rfl (hb hby d12_16) rfl k) ?_
      obtain ⟨v3, _, ⟨T3, L3, c3, n3⟩, -, X3, ⟨Lc3, hQ3, l3, y3, z3⟩, st3⟩ := Jvm.LawKit.callS X0 hx (y := (⟨"com/example/portico/portico/core/http/HttpSyntaxIsTokenCharPinLaw", "isDelimiter", "(I)Z"⟩ : MethodName)) hown (mvT hZ (hw _ (List.mem_of_getElem? (i := 61) rfl))) (mvT hZ (hw _ (List.mem_of_getElem? (i := 62) rfl))) (mvT hZ (hw _ (List.mem_of_getElem? (i := 59) rfl))) (mvT hZ (hw _ (List.mem_of_getElem? (i := 63) rfl))) (by decide) (backOf (W := 0) (rm13 l Z a0 hw [] x0  h0 ) hZ (hw _ (List.mem_of_getElem? (i := 63) rfl)) (hw _ (List.mem_of_getElem? (i := 59) rfl)) (by decide) (by decide)) (g := (mkF m 17 #[.val (.int x0)] [(.int x0)])) rfl (by rw [hml]; rfl) (argsL := [(.int x0)]) (rest := []) (lenOf pd_1 rfl) rfl (by show 2 * 0 + _ ≤ _; exact Nat.le_of_eq rfl) (hb hby d12_17) (fun _ _ => ⟨rfl, e0, (by decide : 0 + 0 ≤ _), (by decide : 0 + 0 ≤ _)⟩)
      dsimp only [Pt.U, Pt.locs, Pt.cells, Pt.slots] at X3 l3 y3 z3 st3 hQ3
      subst l3 y3 z3
      obtain ⟨rfl, rfl, e3⟩ := hQ3
      refine own_by (B := T3.setTop (mkF m 20 #[.val (.int x0)] [(.int (f13_0 x0))])) (fun t k => st3 _ k) ?_
      by_cases hc4 : (f13_0 x0) = (0 : Int32)
      ·
        rw [if_pos hc4] at hf
        refine own_by (B := T3.setTop (mkF m 23 #[.val (.int x0)] [])) (fun t k => XS.ifNo X3.here hx rfl (hb hby d12_20) rfl ((if0 _ _).trans (teq hc4).2) k) ?_
        refine own_by (B := T3.setTop (mkF m 24 #[.val (.int x0)] [(.int (1 : Int32))])) (fun t k => XS.iconst X3.here hx rfl (hb hby d12_23) k) ?_
        refine own_by (B := T3.setTop (mkF m 28 #[.val (.int x0)] [(.int (1 : Int32))])) (fun t k => XS.goto X3.here hx rfl (pc0 := 24) (pc' := 28) rfl (hb hby d12_24) (by decide) (by decide) k) ?_
        rw [hf]
        exact bk12_28 l Z a0 hw h0   x0 (1 : Int32)  X3 hx hby hml hret hlk hZ hown hnm e3
      ·
        rw [if_neg hc4] at hf
        refine own_by (B := T3.setTop (mkF m 27 #[.val (.int x0)] [])) (fun t k => XS.ifYes X3.here hx rfl (pc0 := 20) (pc' := 27) rfl (hb hby d12_20) rfl ((if0 _ _).trans (feq hc4).2) (by decide) (by decide) k) ?_
        refine own_by (B := T3.setTop (mkF m 28 #[.val (.int x0)] [(.int (0 : Int32))])) (fun t k => XS.iconst X3.here hx rfl (hb hby d12_27) k) ?_
        rw [hf]
        exact bk12_28 l Z a0 hw h0   x0 (0 : Int32)  X3 hx hby hml hret hlk hZ hown hnm e3
set_option maxRecDepth 65536 in
set_option maxHeartbeats 40000000 in
theorem rm12 (l : Launch) (Z : State) (a0 : Array Value) (hw : ∀ d ∈ tables_1, d.before a0 Z = true) (ws : List Jvm.Cond) (x0 : Int32)   (h0 : Heap)   :
    MetFree l (⟨"com/example/portico/portico/core/http/HttpSyntaxIsTokenCharPinLaw", "expected", "(I)Z"⟩ : MethodName) (head1 (Jvm.Cond.code (⟨"com/example/portico/portico/core/http/HttpSyntaxIsTokenCharPinLaw", "expected", "(I)Z"⟩ : MethodName) method_3_code 1 (some .boolean) :: ws) ({ frames := 1, cells := 0, slots := 0, locals := 12 } : Room)) (fun aa U => aa = #[(.int x0)] ∧ Z.Warmed39 U.vm ∧ U.heap = h0) (fun _ _ _ _ _ => True) (fun _ U o U' => ∃ v L, o = .returned v ∧ own_Qp (some (.int (f12_0  x0))) h0 v U'.heap L ∧ FrameEnd U o U' L ({ frames := 1, cells := 0, slots := 0, locals := 12 } : Room).cells ({ frames := 1, cells := 0, slots := 0, locals := 12 } : Room).slots) := by
  refine own_met (plainFor_of_name pn_12) fun p e s m below meth c T0 X0 hx hby hml hret hlk hZ hown hnm e0 => ?_
  refine own_cast (ef_12 m x0) ?_
  exact bk12_0 l Z a0 hw h0   x0  X0 hx hby hml hret hlk hZ hown hnm e0
def own_vs : List Value := [.int 33, .int 35, .int 36, .int 37, .int 38, .int 39, .int 42, .int 43, .int 45, .int 46, .int 94, .int 95, .int 96, .int 124, .int 126]
def own_ff (i : Nat) : Int32 := ([33, 35, 36, 37, 38, 39, 42, 43, 45, 46, 94, 95, 96, 124, 126] : List Int32).getD i 0
theorem own_vf : ∀ i, i < 15 → own_vs.getD i (.int 0) = .int (own_ff i) := by
  intro i hi
  have h : i = 0 ∨ i = 1 ∨ i = 2 ∨ i = 3 ∨ i = 4 ∨ i = 5 ∨ i = 6 ∨ i = 7 ∨ i = 8 ∨ i = 9 ∨ i = 10 ∨ i = 11 ∨ i = 12 ∨ i = 13 ∨ i = 14 := by omega
  rcases h with rfl | rfl | rfl | rfl | rfl | rfl | rfl | rfl | rfl | rfl | rfl | rfl | rfl | rfl | rfl <;> rfl
theorem own_ofArv {Z : State} {h : Heap} {b : Addr} {k : ClassId} (F : Arv Z h b k .byte (15 : Int32) own_vs (.int 0)) : own_BA Z h b .byte 15 own_ff := by
  obtain ⟨cl, A, -, S, -, Hs, -⟩ := F
  have S' : cl.slots.size = 15 := S.trans (by decide)
  exact ⟨cl, A, S', fun i hi => by rw [Hs i (by omega), own_vf i hi]⟩
theorem own_sA {Z : State} {a0 : Array Value} (hw : ∀ d ∈ tables_1, d.before a0 Z = true) : ∀ a ∈ Bundle.stringAtoms, a.before a0 Z = true := by
  intro d hd
  have hd' : d ∈ ([.initialized "java/lang/String", .instantiable "java/lang/String" 4, .arrayClass .byte, .laysFinal "java/lang/String" "java/lang/String" "value" "[B", .laysFinal "java/lang/String" "java/lang/String" "coder" "B", .soleField "java/lang/String" "value", .soleField "java/lang/String" "coder"] : List Jvm.Cond) := hd
  simp only [List.mem_cons, List.not_mem_nil, or_false] at hd'
  rcases hd' with rfl | rfl | rfl | rfl | rfl | rfl | rfl
  · exact hw _ (List.mem_of_getElem? (i := 5) rfl)
  · exact hw _ (List.mem_of_getElem? (i := 6) rfl)
  · exact hw _ (List.mem_of_getElem? (i := 7) rfl)
  · exact hw _ (List.mem_of_getElem? (i := 8) rfl)
  · exact hw _ (List.mem_of_getElem? (i := 9) rfl)
  · exact hw _ (List.mem_of_getElem? (i := 10) rfl)
  · exact hw _ (List.mem_of_getElem? (i := 11) rfl)
theorem d1_0 : decode prog_29_method_2_code 0 = .ok (.iload_n 0, 1) := by decide +kernel
theorem d1_1 : decode prog_29_method_2_code 1 = .ok (.bipush 48, 2) := by decide +kernel
theorem d1_3 : decode prog_29_method_2_code 3 = .ok (.if_icmp .lt 9, 3) := by decide +kernel
theorem d1_6 : decode prog_29_method_2_code 6 = .ok (.iload_n 0, 1) := by decide +kernel
theorem d1_7 : decode prog_29_method_2_code 7 = .ok (.bipush 57, 2) := by decide +kernel
theorem d1_9 : decode prog_29_method_2_code 9 = .ok (.if_icmp .le 36, 3) := by decide +kernel
theorem d1_12 : decode prog_29_method_2_code 12 = .ok (.iload_n 0, 1) := by decide +kernel
theorem d1_13 : decode prog_29_method_2_code 13 = .ok (.bipush 97, 2) := by decide +kernel
theorem d1_15 : decode prog_29_method_2_code 15 = .ok (.if_icmp .lt 9, 3) := by decide +kernel
theorem d1_18 : decode prog_29_method_2_code 18 = .ok (.iload_n 0, 1) := by decide +kernel
theorem d1_19 : decode prog_29_method_2_code 19 = .ok (.bipush 122, 2) := by decide +kernel
theorem d1_21 : decode prog_29_method_2_code 21 = .ok (.if_icmp .le 24, 3) := by decide +kernel
theorem d1_24 : decode prog_29_method_2_code 24 = .ok (.iload_n 0, 1) := by decide +kernel
theorem d1_25 : decode prog_29_method_2_code 25 = .ok (.bipush 65, 2) := by decide +kernel
theorem d1_27 : decode prog_29_method_2_code 27 = .ok (.if_icmp .lt 9, 3) := by decide +kernel
theorem d1_30 : decode prog_29_method_2_code 30 = .ok (.iload_n 0, 1) := by decide +kernel
theorem d1_31 : decode prog_29_method_2_code 31 = .ok (.bipush 90, 2) := by decide +kernel
theorem d1_33 : decode prog_29_method_2_code 33 = .ok (.if_icmp .le 12, 3) := by decide +kernel
theorem d1_36 : decode prog_29_method_2_code 36 = .ok (.ldc 9, 2) := by decide +kernel
theorem d1_38 : decode prog_29_method_2_code 38 = .ok (.iload_n 0, 1) := by decide +kernel
theorem d1_39 : decode prog_29_method_2_code 39 = .ok (.invokevirtual 11, 3) := by decide +kernel
theorem d1_42 : decode prog_29_method_2_code 42 = .ok (.ifCond .lt 7, 3) := by decide +kernel
theorem d1_45 : decode prog_29_method_2_code 45 = .ok (.iconst 1, 1) := by decide +kernel
theorem d1_46 : decode prog_29_method_2_code 46 = .ok (.goto 4, 3) := by decide +kernel
theorem d1_49 : decode prog_29_method_2_code 49 = .ok (.iconst 0, 1) := by decide +kernel
theorem d1_50 : decode prog_29_method_2_code 50 = .ok (.ireturn, 1) := by decide +kernel
theorem pn_1 : plainName "com/example/portico/portico/core/http/HttpSyntax" = true := by first | (simp [plainName, overriddenIn]; done) | decide +kernel
theorem ef_1 (m : MethodId) (x0 : Int32) : entryFrame m #[(.int x0)] 1 = mkF m 0 #[.val (.int x0)] [] := by first | (simp [entryFrame, mkF, argsToLocals, Value.category]; done) | rfl
def f1_36 (x0 : Int32) : Int32 := (if (f7_0 own_ff x0) < (0 : Int32) then (0 : Int32) else (1 : Int32))
set_option maxRecDepth 65536 in
set_option maxHeartbeats 40000000 in
theorem bk1_36 (l : Launch) (Z : State) (a0 : Array Value) (hw : ∀ d ∈ tables_1, d.before a0 Z = true) (hEL : EW Z a0 consts_1) (h0 : Heap) (wz : Int32) (Sc : Sta Z h0 "java/lang/String" "COMPACT_STRINGS" "Z" (.int wz)) (hwz : ¬ wz = (0 : Int32)) (x0 : Int32) {p : Program} {e : Env} {s : State} {m : MethodId} {args : Array Value} {below : List Frame} {meth : Method} {c : Code} {T0 : State}
    (X0 : Stand p l e ({ frames := 4, cells := 2, slots := 64, locals := 59 } : Room) s m args below meth c T0 [] 0 0) (hx : p.tables.exec = Jvm.exec) (hby : c.code = prog_29_method_2_code) (hml : c.maxLocals = 1) (hret : meth.sig.returnType = (some .boolean)) (hlk : meth.locks = false) (hZ : Z.Warmed39 s.vm) (hown : s.vm.findClass "com/example/portico/portico/core/http/HttpSyntax" = some m.cls) (hnm : meth.name = "isTokenChar") (e0 : T0.heap = h0) (H : CHv Z consts_1 s.vm h0) :
    own_GoW Z consts_1 h0 p e below s (own_Qt (some (.int (f1_36 x0))) h0) ({ frames := 4, cells := 2, slots := 64, locals := 59 } : Room).cells ({ frames := 4, cells := 2, slots := 64, locals := 59 } : Room).slots (T0.setTop (mkF m 36 #[.val (.int x0)] [])) := by
  have hf : f1_36 x0 = (if (f7_0 own_ff x0) < (0 : Int32) then (0 : Int32) else (1 : Int32)) := rfl
  obtain ⟨sa, T1, h1, k1, sb, kc1, X1, e1, E1, hS1, hk1, hZ, hown, E_sa, F_coder_sa, F_value_sa, AV1, -, -, hC1, -, -, st1⟩ := ldcCH (s := s) (vm0 := s.vm) (EL := consts_1) X0 hx hZ hown (hw _ (List.mem_of_getElem? (i := 4) rfl)) (own_sA hw) e0 (own_since s) (Nat.zero_le _) hEL (List.mem_of_getElem? (i := 0) rfl) H (vs := own_vs) (z := (15 : Int32)) ⟨by decide +kernel, by rfl⟩ (by decide) (by decide) (g := (mkF m 36 #[.val (.int x0)] [])) rfl (hb hby d1_36) (n := 60) (by decide +kernel) (by decide) (by decide) (by decide)
  have V_sb := own_ofArv AV1
  have Sc := Sc.ext E1
  refine own_byW (B := T1.setTop (mkF m 38 #[.val (.int x0)] [(.ref sa)])) (fun t k => st1 _ k) ?_
  refine own_byW (B := T1.setTop (mkF m 39 #[.val (.int x0)] [(.int x0), (.ref sa)])) (fun t k => XS.iloadN X1.here hx rfl (hb hby d1_38) rfl k) ?_
  obtain ⟨cq2, kq2, q2a, q2b, q2c⟩ := isOf hZ e1 E_sa
  obtain ⟨v2, _, ⟨T2, L2, c2, n2⟩, -, X2, ⟨Lc2, hQ2, l2, y2, z2⟩, st2⟩ := X1.virtualBack hx (y := (⟨"java/lang/String", "indexOf", "(I)I"⟩ : MethodName)) (z := (⟨"java/lang/String", "indexOf", "(I)I"⟩ : MethodName)) hown (mvT hZ (hw _ (List.mem_of_getElem? (i := 12) rfl))) (mvT hZ (hw _ (List.mem_of_getElem? (i := 13) rfl))) (notFace_of_selects (args := #[]) (mvT hZ (hw _ (List.mem_of_getElem? (i := 15) rfl)))) (mvT hZ (hw _ (List.mem_of_getElem? (i := 15) rfl))) (mvT hZ (hw _ (List.mem_of_getElem? (i := 14) rfl))) (by decide) (backOf (W := 0) (rm2 l Z a0 hw [] sa x0 sb wz own_ff h1 Sc F_coder_sa F_value_sa E_sa V_sb hwz) hZ (hw _ (List.mem_of_getElem? (i := 16) rfl)) (hw _ (List.mem_of_getElem? (i := 5) rfl)) (by decide) (by decide)) q2a q2c (g := (mkF m 39 #[.val (.int x0)] [(.int x0), (.ref sa)])) rfl (by rw [hml]; rfl) (Steps.refl _) (argsL := [(.int x0)]) (rest := []) (lenOf pd_6 rfl) rfl (by show 2 * 0 + _ ≤ _; exact Nat.le_of_eq rfl) (hb hby d1_39) (fun _ _ => ⟨rfl, e1, (by decide : 2 + 0 ≤ _), (by decide : 64 + 0 ≤ _)⟩)
  dsimp only [Pt.U, Pt.locs, Pt.cells, Pt.slots] at X2 l2 y2 z2 st2 hQ2
  subst l2 y2 z2
  obtain ⟨rfl, rfl, e2⟩ := hQ2
  refine own_byW (B := T2.setTop (mkF m 42 #[.val (.int x0)] [(.int (f7_0 own_ff x0))])) (fun t k => st2.trans k) ?_
  by_cases hc3 : (f7_0 own_ff x0) < (0 : Int32)
  ·
    rw [if_pos hc3] at hf
    refine own_byW (B := T2.setTop (mkF m 49 #[.val (.int x0)] [])) (fun t k => XS.ifYes X2.here hx rfl (pc0 := 42) (pc' := 49) rfl (hb hby d1_42) rfl ((if0 _ _).trans (tlt hc3).1) (by decide) (by decide) k) ?_
    refine own_byW (B := T2.setTop (mkF m 50 #[.val (.int x0)] [(.int (0 : Int32))])) (fun t k => XS.iconst X2.here hx rfl (hb hby d1_49) k) ?_
    exact own_retNW (s := s) (t := .boolean) (vm₁ := T1.vm) (by simp) X2 hS1 (by rw [e2]; exact hk1) hx hlk hret (z' := (0 : Int32)) (by decide) (hb hby d1_50) ⟨by rw [hf], rfl, (by rw [e2]; exact E1)⟩ (by rw [e2]; exact hC1.trans (CHv.at (s := s) (vm0 := T1.vm) X2 hZ hEL hC1.1)) (by decide) (by decide)
  ·
    rw [if_neg hc3] at hf
    refine own_byW (B := T2.setTop (mkF m 45 #[.val (.int x0)] [])) (fun t k => XS.ifNo X2.here hx rfl (hb hby d1_42) rfl ((if0 _ _).trans (flt hc3).1) k) ?_
    refine own_byW (B := T2.setTop (mkF m 46 #[.val (.int x0)] [(.int (1 : Int32))])) (fun t k => XS.iconst X2.here hx rfl (hb hby d1_45) k) ?_
    refine own_byW (B := T2.setTop (mkF m 50 #[.val (.int x0)] [(.int (1 : Int32))])) (fun t k => XS.goto X2.here hx rfl (pc0 := 46) (pc' := 50) rfl (hb hby d1_46) (by decide) (by decide) k) ?_
    exact own_retNW (s := s) (t := .boolean) (vm₁ := T1.vm) (by simp) X2 hS1 (by rw [e2]; exact hk1) hx hlk hret (z' := (1 : Int32)) (by decide) (hb hby d1_50) ⟨by rw [hf], rfl, (by rw [e2]; exact E1)⟩ (by rw [e2]; exact hC1.trans (CHv.at (s := s) (vm0 := T1.vm) X2 hZ hEL hC1.1)) (by decide) (by decide)
def f1_24 (x0 : Int32) : Int32 := (if x0 < (65 : Int32) then (f1_36 x0) else (if (90 : Int32) < x0 then (f1_36 x0) else (1 : Int32)))
set_option maxRecDepth 65536 in
set_option maxHeartbeats 40000000 in
theorem bk1_24 (l : Launch) (Z : State) (a0 : Array Value) (hw : ∀ d ∈ tables_1, d.before a0 Z = true) (hEL : EW Z a0 consts_1) (h0 : Heap) (wz : Int32) (Sc : Sta Z h0 "java/lang/String" "COMPACT_STRINGS" "Z" (.int wz)) (hwz : ¬ wz = (0 : Int32)) (x0 : Int32) {p : Program} {e : Env} {s : State} {m : MethodId} {args : Array Value} {below : List Frame} {meth : Method} {c : Code} {T0 : State}
    (X0 : Stand p l e ({ frames := 4, cells := 2, slots := 64, locals := 59 } : Room) s m args below meth c T0 [] 0 0) (hx : p.tables.exec = Jvm.exec) (hby : c.code = prog_29_method_2_code) (hml : c.maxLocals = 1) (hret : meth.sig.returnType = (some .boolean)) (hlk : meth.locks = false) (hZ : Z.Warmed39 s.vm) (hown : s.vm.findClass "com/example/portico/portico/core/http/HttpSyntax" = some m.cls) (hnm : meth.name = "isTokenChar") (e0 : T0.heap = h0) (H : CHv Z consts_1 s.vm h0) :
    own_GoW Z consts_1 h0 p e below s (own_Qt (some (.int (f1_24 x0))) h0) ({ frames := 4, cells := 2, slots := 64, locals := 59 } : Room).cells ({ frames := 4, cells := 2, slots := 64, locals := 59 } : Room).slots (T0.setTop (mkF m 24 #[.val (.int x0)] [])) := by
  have hf : f1_24 x0 = (if x0 < (65 : Int32) then (f1_36 x0) else (if (90 : Int32) < x0 then (f1_36 x0) else (1 : Int32))) := rfl
  refine own_byW (B := T0.setTop (mkF m 25 #[.val (.int x0)] [(.int x0)])) (fun t k => XS.iloadN X0.here hx rfl (hb hby d1_24) rfl k) ?_
  refine own_byW (B := T0.setTop (mkF m 27 #[.val (.int x0)] [(.int (65 : Int32)), (.int x0)])) (fun t k => XS.bipush X0.here hx rfl (hb hby d1_25) k) ?_
  by_cases hc1 : x0 < (65 : Int32)
  ·
    rw [if_pos hc1] at hf
    refine own_byW (B := T0.setTop (mkF m 36 #[.val (.int x0)] [])) (fun t k => XS.icmpYes X0.here hx rfl (pc0 := 27) (pc' := 36) rfl (hb hby d1_27) rfl (tlt hc1).1 (by decide) (by decide) k) ?_
    rw [hf]
    exact bk1_36 l Z a0 hw hEL h0 wz Sc hwz x0 X0 hx hby hml hret hlk hZ hown hnm e0 H
  ·
    rw [if_neg hc1] at hf
    refine own_byW (B := T0.setTop (mkF m 30 #[.val (.int x0)] [])) (fun t k => XS.icmpNo X0.here hx rfl (hb hby d1_27) rfl (flt hc1).1 k) ?_
    refine own_byW (B := T0.setTop (mkF m 31 #[.val (.int x0)] [(.int x0)])) (fun t k => XS.iloadN X0.here hx rfl (hb hby d1_30) rfl k) ?_
    refine own_byW (B := T0.setTop (mkF m 33 #[.val (.int x0)] [(.int (90 : Int32)), (.int x0)])) (fun t k => XS.bipush X0.here hx rfl (hb hby d1_31) k) ?_
    by_cases hc2 : (90 : Int32) < x0
    ·
      rw [if_pos hc2] at hf
      refine own_byW (B := T0.setTop (mkF m 36 #[.val (.int x0)] [])) (fun t k => XS.icmpNo X0.here hx rfl (hb hby d1_33) rfl (tlt hc2).2.2.2 k) ?_
      rw [hf]
      exact bk1_36 l Z a0 hw hEL h0 wz Sc hwz x0 X0 hx hby hml hret hlk hZ hown hnm e0 H
    ·
      rw [if_neg hc2] at hf
      refine own_byW (B := T0.setTop (mkF m 45 #[.val (.int x0)] [])) (fun t k => XS.icmpYes X0.here hx rfl (pc0 := 33) (pc' := 45) rfl (hb hby d1_33) rfl (flt hc2).2.2.2 (by decide) (by decide) k) ?_
      refine own_byW (B := T0.setTop (mkF m 46 #[.val (.int x0)] [(.int (1 : Int32))])) (fun t k => XS.iconst X0.here hx rfl (hb hby d1_45) k) ?_
      refine own_byW (B := T0.setTop (mkF m 50 #[.val (.int x0)] [(.int (1 : Int32))])) (fun t k => XS.goto X0.here hx rfl (pc0 := 46) (pc' := 50) rfl (hb hby d1_46) (by decide) (by decide) k) ?_
      exact own_retNW (s := s) (t := .boolean) (vm₁ := s.vm) (by simp) X0 (own_since s) (Nat.zero_le _) hx hlk hret (z' := (1 : Int32)) (by decide) (hb hby d1_50) ⟨by rw [hf], rfl, (by rw [e0]; exact own_xr _)⟩ (by rw [e0]; exact CHv.at (s := s) (vm0 := s.vm) X0 hZ hEL H) (by decide) (by decide)
def f1_12 (x0 : Int32) : Int32 := (if x0 < (97 : Int32) then (f1_24 x0) else (if (122 : Int32) < x0 then (f1_24 x0) else (1 : Int32)))
set_option maxRecDepth 65536 in
set_option maxHeartbeats 40000000 in
theorem bk1_12 (l : Launch) (Z : State) (a0 : Array Value) (hw : ∀ d ∈ tables_1, d.before a0 Z = true) (hEL : EW Z a0 consts_1) (h0 : Heap) (wz : Int32) (Sc : Sta Z h0 "java/lang/String" "COMPACT_STRINGS" "Z" (.int wz)) (hwz : ¬ wz = (0 : Int32)) (x0 : Int32) {p : Program} {e : Env} {s : State} {m : MethodId} {args : Array Value} {below : List Frame} {meth : Method} {c : Code} {T0 : State}
    (X0 : Stand p l e ({ frames := 4, cells := 2, slots := 64, locals := 59 } : Room) s m args below meth c T0 [] 0 0) (hx : p.tables.exec = Jvm.exec) (hby : c.code = prog_29_method_2_code) (hml : c.maxLocals = 1) (hret : meth.sig.returnType = (some .boolean)) (hlk : meth.locks = false) (hZ : Z.Warmed39 s.vm) (hown : s.vm.findClass "com/example/portico/portico/core/http/HttpSyntax" = some m.cls) (hnm : meth.name = "isTokenChar") (e0 : T0.heap = h0) (H : CHv Z consts_1 s.vm h0) :
    own_GoW Z consts_1 h0 p e below s (own_Qt (some (.int (f1_12 x0))) h0) ({ frames := 4, cells := 2, slots := 64, locals := 59 } : Room).cells ({ frames := 4, cells := 2, slots := 64, locals := 59 } : Room).slots (T0.setTop (mkF m 12 #[.val (.int x0)] [])) := by
  have hf : f1_12 x0 = (if x0 < (97 : Int32) then (f1_24 x0) else (if (122 : Int32) < x0 then (f1_24 x0) else (1 : Int32))) := rfl
  refine own_byW (B := T0.setTop (mkF m 13 #[.val (.int x0)] [(.int x0)])) (fun t k => XS.iloadN X0.here hx rfl (hb hby d1_12) rfl k) ?_
  refine own_byW (B := T0.setTop (mkF m 15 #[.val (.int x0)] [(.int (97 : Int32)), (.int x0)])) (fun t k => XS.bipush X0.here hx rfl (hb hby d1_13) k) ?_
  by_cases hc1 : x0 < (97 : Int32)
  ·
    rw [if_pos hc1] at hf
    refine own_byW (B := T0.setTop (mkF m 24 #[.val (.int x0)] [])) (fun t k => XS.icmpYes X0.here hx rfl (pc0 := 15) (pc' := 24) rfl (hb hby d1_15) rfl (tlt hc1).1 (by decide) (by decide) k) ?_
    rw [hf]
    exact bk1_24 l Z a0 hw hEL h0 wz Sc hwz x0 X0 hx hby hml hret hlk hZ hown hnm e0 H
  ·
    rw [if_neg hc1] at hf
    refine own_byW (B := T0.setTop (mkF m 18 #[.val (.int x0)] [])) (fun t k => XS.icmpNo X0.here hx rfl (hb hby d1_15) rfl (flt hc1).1 k) ?_
    refine own_byW (B := T0.setTop (mkF m 19 #[.val (.int x0)] [(.int x0)])) (fun t k => XS.iloadN X0.here hx rfl (hb hby d1_18) rfl k) ?_
    refine own_byW (B := T0.setTop (mkF m 21 #[.val (.int x0)] [(.int (122 : Int32)), (.int x0)])) (fun t k => XS.bipush X0.here hx rfl (hb hby d1_19) k) ?_
    by_cases hc2 : (122 : Int32) < x0
    ·
      rw [if_pos hc2] at hf
      refine own_byW (B := T0.setTop (mkF m 24 #[.val (.int x0)] [])) (fun t k => XS.icmpNo X0.here hx rfl (hb hby d1_21) rfl (tlt hc2).2.2.2 k) ?_
      rw [hf]
      exact bk1_24 l Z a0 hw hEL h0 wz Sc hwz x0 X0 hx hby hml hret hlk hZ hown hnm e0 H
    ·
      rw [if_neg hc2] at hf
      refine own_byW (B := T0.setTop (mkF m 45 #[.val (.int x0)] [])) (fun t k => XS.icmpYes X0.here hx rfl (pc0 := 21) (pc' := 45) rfl (hb hby d1_21) rfl (flt hc2).2.2.2 (by decide) (by decide) k) ?_
      refine own_byW (B := T0.setTop (mkF m 46 #[.val (.int x0)] [(.int (1 : Int32))])) (fun t k => XS.iconst X0.here hx rfl (hb hby d1_45) k) ?_
      refine own_byW (B := T0.setTop (mkF m 50 #[.val (.int x0)] [(.int (1 : Int32))])) (fun t k => XS.goto X0.here hx rfl (pc0 := 46) (pc' := 50) rfl (hb hby d1_46) (by decide) (by decide) k) ?_
      exact own_retNW (s := s) (t := .boolean) (vm₁ := s.vm) (by simp) X0 (own_since s) (Nat.zero_le _) hx hlk hret (z' := (1 : Int32)) (by decide) (hb hby d1_50) ⟨by rw [hf], rfl, (by rw [e0]; exact own_xr _)⟩ (by rw [e0]; exact CHv.at (s := s) (vm0 := s.vm) X0 hZ hEL H) (by decide) (by decide)
def f1_0 (x0 : Int32) : Int32 := (if x0 < (48 : Int32) then (f1_12 x0) else (if (57 : Int32) < x0 then (f1_12 x0) else (1 : Int32)))
set_option maxRecDepth 65536 in
set_option maxHeartbeats 40000000 in
theorem bk1_0 (l : Launch) (Z : State) (a0 : Array Value) (hw : ∀ d ∈ tables_1, d.before a0 Z = true) (hEL : EW Z a0 consts_1) (h0 : Heap) (wz : Int32) (Sc : Sta Z h0 "java/lang/String" "COMPACT_STRINGS" "Z" (.int wz)) (hwz : ¬ wz = (0 : Int32)) (x0 : Int32) {p : Program} {e : Env} {s : State} {m : MethodId} {args : Array Value} {below : List Frame} {meth : Method} {c : Code} {T0 : State}
    (X0 : Stand p l e ({ frames := 4, cells := 2, slots := 64, locals := 59 } : Room) s m args below meth c T0 [] 0 0) (hx : p.tables.exec = Jvm.exec) (hby : c.code = prog_29_method_2_code) (hml : c.maxLocals = 1) (hret : meth.sig.returnType = (some .boolean)) (hlk : meth.locks = false) (hZ : Z.Warmed39 s.vm) (hown : s.vm.findClass "com/example/portico/portico/core/http/HttpSyntax" = some m.cls) (hnm : meth.name = "isTokenChar") (e0 : T0.heap = h0) (H : CHv Z consts_1 s.vm h0) :
    own_GoW Z consts_1 h0 p e below s (own_Qt (some (.int (f1_0 x0))) h0) ({ frames := 4, cells := 2, slots := 64, locals := 59 } : Room).cells ({ frames := 4, cells := 2, slots := 64, locals := 59 } : Room).slots (T0.setTop (mkF m 0 #[.val (.int x0)] [])) := by
  have hf : f1_0 x0 = (if x0 < (48 : Int32) then (f1_12 x0) else (if (57 : Int32) < x0 then (f1_12 x0) else (1 : Int32))) := rfl
  refine own_byW (B := T0.setTop (mkF m 1 #[.val (.int x0)] [(.int x0)])) (fun t k => XS.iloadN X0.here hx rfl (hb hby d1_0) rfl k) ?_
  refine own_byW (B := T0.setTop (mkF m 3 #[.val (.int x0)] [(.int (48 : Int32)), (.int x0)])) (fun t k => XS.bipush X0.here hx rfl (hb hby d1_1) k) ?_
  by_cases hc1 : x0 < (48 : Int32)
  ·
    rw [if_pos hc1] at hf
    refine own_byW (B := T0.setTop (mkF m 12 #[.val (.int x0)] [])) (fun t k => XS.icmpYes X0.here hx rfl (pc0 := 3) (pc' := 12) rfl (hb hby d1_3) rfl (tlt hc1).1 (by decide) (by decide) k) ?_
    rw [hf]
    exact bk1_12 l Z a0 hw hEL h0 wz Sc hwz x0 X0 hx hby hml hret hlk hZ hown hnm e0 H
  ·
    rw [if_neg hc1] at hf
    refine own_byW (B := T0.setTop (mkF m 6 #[.val (.int x0)] [])) (fun t k => XS.icmpNo X0.here hx rfl (hb hby d1_3) rfl (flt hc1).1 k) ?_
    refine own_byW (B := T0.setTop (mkF m 7 #[.val (.int x0)] [(.int x0)])) (fun t k => XS.iloadN X0.here hx rfl (hb hby d1_6) rfl k) ?_
    refine own_byW (B := T0.setTop (mkF m 9 #[.val (.int x0)] [(.int (57 : Int32)), (.int x0)])) (fun t k => XS.bipush X0.here hx rfl (hb hby d1_7) k) ?_
    by_cases hc2 : (57 : Int32) < x0
    ·
      rw [if_pos hc2] at hf
      refine own_byW (B := T0.setTop (mkF m 12 #[.val (.int x0)] [])) (fun t k => XS.icmpNo X0.here hx rfl (hb hby d1_9) rfl (tlt hc2).2.2.2 k) ?_
      rw [hf]
      exact bk1_12 l Z a0 hw hEL h0 wz Sc hwz x0 X0 hx hby hml hret hlk hZ hown hnm e0 H
    ·
      rw [if_neg hc2] at hf
      refine own_byW (B := T0.setTop (mkF m 45 #[.val (.int x0)] [])) (fun t k => XS.icmpYes X0.here hx rfl (pc0 := 9) (pc' := 45) rfl (hb hby d1_9) rfl (flt hc2).2.2.2 (by decide) (by decide) k) ?_
      refine own_byW (B := T0.setTop (mkF m 46 #[.val (.int x0)] [(.int (1 : Int32))])) (fun t k => XS.iconst X0.here hx rfl (hb hby d1_45) k) ?_
      refine own_byW (B := T0.setTop (mkF m 50 #[.val (.int x0)] [(.int (1 : Int32))])) (fun t k => XS.goto X0.here hx rfl (pc0 := 46) (pc' := 50) rfl (hb hby d1_46) (by decide) (by decide) k) ?_
      exact own_retNW (s := s) (t := .boolean) (vm₁ := s.vm) (by simp) X0 (own_since s) (Nat.zero_le _) hx hlk hret (z' := (1 : Int32)) (by decide) (hb hby d1_50) ⟨by rw [hf], rfl, (by rw [e0]; exact own_xr _)⟩ (by rw [e0]; exact CHv.at (s := s) (vm0 := s.vm) X0 hZ hEL H) (by decide) (by decide)
set_option maxRecDepth 65536 in
set_option maxHeartbeats 40000000 in
theorem rm1 (l : Launch) (Z : State) (a0 : Array Value) (hw : ∀ d ∈ tables_1, d.before a0 Z = true) (ws : List Jvm.Cond) (hEL : EW Z a0 consts_1) (x0 wz : Int32) (h0 : Heap) (Sc : Sta Z h0 "java/lang/String" "COMPACT_STRINGS" "Z" (.int wz)) (hwz : ¬ wz = (0 : Int32)) :
    MetFree l (⟨"com/example/portico/portico/core/http/HttpSyntax", "isTokenChar", "(I)Z"⟩ : MethodName) (head1 (Jvm.Cond.code (⟨"com/example/portico/portico/core/http/HttpSyntax", "isTokenChar", "(I)Z"⟩ : MethodName) prog_29_method_2_code 1 (some .boolean) :: ws) ({ frames := 4, cells := 2, slots := 64, locals := 59 } : Room)) (fun aa U => aa = #[(.int x0)] ∧ Z.Warmed39 U.vm ∧ U.heap = h0 ∧ CHv Z consts_1 U.vm h0) (fun _ _ _ _ _ => True) (fun _ U o U' => ∃ v L, o = .returned v ∧ own_Qt (some (.int (f1_0 x0))) h0 v U'.heap L ∧ CHr Z consts_1 U.vm U.heap U'.vm U'.heap ∧ ReturnedEndW U o U' L ({ frames := 4, cells := 2, slots := 64, locals := 59 } : Room).cells ({ frames := 4, cells := 2, slots := 64, locals := 59 } : Room).slots) := by
  refine own_metW (plainFor_of_name pn_1) fun p e s m below meth c T0 X0 hx hby hml hret hlk hZ hown hnm e0 H => ?_
  refine own_castW (ef_1 m x0) ?_
  exact bk1_0 l Z a0 hw hEL h0 wz Sc hwz x0 X0 hx hby hml hret hlk hZ hown hnm e0 H
theorem own_same (x : Int32) : f1_0 x = f12_0 x := by
  have e0 : (0 : Int32).toInt = 0 := by decide
  have e255 : (255 : Int32).toInt = 255 := by decide
  have e48 : (48 : Int32).toInt = 48 := by decide
  have e57 : (57 : Int32).toInt = 57 := by decide
  have e97 : (97 : Int32).toInt = 97 := by decide
  have e122 : (122 : Int32).toInt = 122 := by decide
  have e65 : (65 : Int32).toInt = 65 := by decide
  have e90 : (90 : Int32).toInt = 90 := by decide
  have e33 : (33 : Int32).toInt = 33 := by decide
  have e126 : (126 : Int32).toInt = 126 := by decide
  by_cases h1 : x < (0 : Int32)
  · have g1 := h1
    rw [Int32.lt_iff_toInt_lt] at g1
    have hv : f7_0 own_ff x = (-1 : Int32) := by
      have hf : f7_0 own_ff x = (if (f8_0 x) = (0 : Int32) then (-1 : Int32) else (f11_0 own_ff x)) := rfl
      have h8 : f8_0 x = (if x < (0 : Int32) then (nar .boolean (0 : Int32)) else (if (255 : Int32) < x then (nar .boolean (0 : Int32)) else (nar .boolean (1 : Int32)))) := rfl
      rw [hf, h8, if_pos h1, if_pos (by decide : nar .boolean (0 : Int32) = 0)]
    have a48 : x < (48 : Int32) := by rw [Int32.lt_iff_toInt_lt]; omega
    have a97 : x < (97 : Int32) := by rw [Int32.lt_iff_toInt_lt]; omega
    have a65 : x < (65 : Int32) := by rw [Int32.lt_iff_toInt_lt]; omega
    have a33 : x < (33 : Int32) := by rw [Int32.lt_iff_toInt_lt]; omega
    simp only [f1_0, f1_12, f1_24, f1_36, f12_0, hv, if_pos a48, if_pos a97, if_pos a65, if_pos a33]
    decide
  · by_cases h2 : (255 : Int32) < x
    · have g2 := h2
      rw [Int32.lt_iff_toInt_lt] at g2
      have hv : f7_0 own_ff x = (-1 : Int32) := by
        have hf : f7_0 own_ff x = (if (f8_0 x) = (0 : Int32) then (-1 : Int32) else (f11_0 own_ff x)) := rfl
        have h8 : f8_0 x = (if x < (0 : Int32) then (nar .boolean (0 : Int32)) else (if (255 : Int32) < x then (nar .boolean (0 : Int32)) else (nar .boolean (1 : Int32)))) := rfl
        rw [hf, h8, if_neg h1, if_pos h2, if_pos (by decide : nar .boolean (0 : Int32) = 0)]
      have n48 : ¬ x < (48 : Int32) := by rw [Int32.lt_iff_toInt_lt]; omega
      have n97 : ¬ x < (97 : Int32) := by rw [Int32.lt_iff_toInt_lt]; omega
      have n65 : ¬ x < (65 : Int32) := by rw [Int32.lt_iff_toInt_lt]; omega
      have n33 : ¬ x < (33 : Int32) := by rw [Int32.lt_iff_toInt_lt]; omega
      have a57 : (57 : Int32) < x := by rw [Int32.lt_iff_toInt_lt]; omega
      have a122 : (122 : Int32) < x := by rw [Int32.lt_iff_toInt_lt]; omega
      have a90 : (90 : Int32) < x := by rw [Int32.lt_iff_toInt_lt]; omega
      have a126 : (126 : Int32) < x := by rw [Int32.lt_iff_toInt_lt]; omega
      simp only [f1_0, f1_12, f1_24, f1_36, f12_0, hv, if_neg n48, if_neg n97, if_neg n65, if_neg n33, if_pos a57, if_pos a122, if_pos a90, if_pos a126]
      decide
    · rw [Int32.lt_iff_toInt_lt] at h1 h2
      obtain ⟨n, rfl⟩ : ∃ n : Fin 256, x = Int32.ofNat n.val := by
        refine ⟨⟨x.toInt.toNat, by omega⟩, Int32.toInt_inj.mp ?_⟩
        show x.toInt = (Int32.ofNat x.toInt.toNat).toInt
        rw [Int32.toInt_ofNat_of_lt (by omega)]
        omega
      clear h1 h2
      revert n; decide +kernel
theorem own_ne0 {args : Array Value} {s : State} {t : Term} {wz : Int32} (h : (Jvm.Cond.not (Jvm.Cond.eq t (Jvm.Term.int (0 : Int32)))).before args s = true) (ev : t.eval args s none [] s = some (.int wz)) : ¬ wz = (0 : Int32) := by
  intro q
  subst q
  have h1 := Cond.before_iff.mp h
  simp [Cond.value, ev, Term.int_eval] at h1
theorem pn_0 : plainName "com/example/portico/portico/core/http/HttpSyntaxIsTokenCharPinLaw" = true := by first | (simp [plainName, overriddenIn]; done) | decide +kernel
theorem ef_0 (m : MethodId) (i0 : Int32) (i1 : Int32) : entryFrame m #[(.int i0), (.int i1)] maxLocals = mkF m 0 #[.val (.int i0), .val (.int i1), .unset, .unset, .unset] [] := by first | (simp [entryFrame, mkF, argsToLocals, Value.category, maxLocals]; done) | rfl
def own_Q0 (v : Option Value) (h : Heap) (L : List Loc) : Prop := v = some (.int 1) ∧ L = []
set_option maxRecDepth 65536 in
set_option maxHeartbeats 40000000 in
theorem rm0 (l : Launch) (Z : State) (a0 : Array Value) (hw : ∀ d ∈ tables_1, d.before a0 Z = true) (ws : List Jvm.Cond) (hEL : EW Z a0 consts_1) (i0 i1 wz : Int32) (h0 : Heap) (Sc : Sta Z h0 "java/lang/String" "COMPACT_STRINGS" "Z" (.int wz)) (hwz : ¬ wz = (0 : Int32)) :
    MetFree l x (head1 (Jvm.Cond.code x code maxLocals ret :: ws) room_1) (fun aa U => aa = #[(.int i0), (.int i1)] ∧ Z.Warmed39 U.vm ∧ U.heap = h0 ∧ CHv Z consts_1 U.vm h0) (fun _ _ _ _ _ => True) (fun _ U o U' => ∃ v L, o = .returned v ∧ own_Q0 v U'.heap L ∧ CHr Z consts_1 U.vm U.heap U'.vm U'.heap ∧ ReturnedEndW U o U' L room_1.cells room_1.slots) := by
  refine own_metW (plainFor_of_name pn_0) fun p e s m below meth c T0 X0 hx hby hml hret hlk hZ hown hnm e0 H => ?_
  refine own_castW (ef_0 m i0 i1) ?_
  refine own_byW (B := T0.setTop (mkF m 1 #[.val (.int i0), .val (.int i1), .unset, .unset, .unset] [(.int i1)])) (fun t k => XS.iloadN X0.here hx rfl (hb hby at_0) rfl k) ?_
  refine own_byW (B := T0.setTop (mkF m 4 #[.val (.int i0), .val (.int i1), .unset, .unset, .unset] [(.int (255 : Int32)), (.int i1)])) (fun t k => XS.sipush X0.here hx rfl (hb hby at_1) k) ?_
  refine own_byW (B := T0.setTop (mkF m 5 #[.val (.int i0), .val (.int i1), .unset, .unset, .unset] [(.int (i1 &&& (255 : Int32)))])) (fun t k => XS.iand X0.here hx rfl (hb hby at_4) rfl k) ?_
  refine own_byW (B := T0.setTop (mkF m 6 #[.val (.int i0), .val (.int i1), .val (.int (i1 &&& (255 : Int32))), .unset, .unset] [])) (fun t k => XS.istoreN X0.here hx rfl (hb hby at_5) rfl (l' := #[.val (.int i0), .val (.int i1), .val (.int (i1 &&& (255 : Int32))), .unset, .unset]) rfl k) ?_
  refine own_byW (B := T0.setTop (mkF m 7 #[.val (.int i0), .val (.int i1), .val (.int (i1 &&& (255 : Int32))), .unset, .unset] [(.int i0)])) (fun t k => XS.iloadN X0.here hx rfl (hb hby at_6) rfl k) ?_
  obtain ⟨v1, _, ⟨T1, L1, c1, n1⟩, -, X1, hS1, hg1, ⟨Lc1, hQ1, l1, y1, z1, hC1⟩, st1⟩ := callSS X0 hx (y := (⟨"com/example/portico/portico/core/http/HttpSyntax", "isTokenChar", "(I)Z"⟩ : MethodName)) hown (mvT hZ (hw _ (List.mem_of_getElem? (i := 0) rfl))) (mvT hZ (hw _ (List.mem_of_getElem? (i := 1) rfl))) (mvT hZ (hw _ (List.mem_of_getElem? (i := 2) rfl))) (mvT hZ (hw _ (List.mem_of_getElem? (i := 3) rfl))) (by decide) (backOfSH (s := s) (vm0 := s.vm) (EL := consts_1) (W := 0) (rm1 l Z a0 hw [] hEL i0 wz h0 Sc hwz) hZ (hw _ (List.mem_of_getElem? (i := 3) rfl)) (hw _ (List.mem_of_getElem? (i := 2) rfl)) (by decide) (by decide) hEL H) (g := (mkF m 7 #[.val (.int i0), .val (.int i1), .val (.int (i1 &&& (255 : Int32))), .unset, .unset] [(.int i0)])) rfl (by rw [hml]; rfl) (argsL := [(.int i0)]) (rest := []) (lenOf pd_1 rfl) rfl (by show 2 * 0 + _ ≤ _; exact Nat.le_of_eq rfl) (hb hby at_7) (fun _ _ => ⟨rfl, e0, (by decide : 0 + 2 ≤ _), (by decide : 0 + 64 ≤ _)⟩)
  dsimp only [Pt.U, Pt.locs, Pt.cells, Pt.slots] at X1 hS1 hg1 l1 y1 z1 st1 hQ1 hC1
  subst l1 y1 z1
  obtain ⟨rfl, rfl, Ex1⟩ := hQ1
  have Sc := Sc.ext Ex1
  have hZ : Z.Warmed39 (s.setVm T1.vm).vm := State.Warmed39.trans (t := s) hZ hS1.1
  have hk1 : T1.heap.size ≤ T1.heap.size := Nat.le_refl _
  have hSS1 := hS1
  have hCC1 := hC1
  have hown : (s.setVm T1.vm).vm.findClass "com/example/portico/portico/core/http/HttpSyntaxIsTokenCharPinLaw" = some m.cls := by
    rw [show (s.setVm T1.vm).vm = T1.vm from rfl, hS1.1.alike.findClass]; exact hown
  refine own_byW (B := T1.setTop (mkF m 10 #[.val (.int i0), .val (.int i1), .val (.int (i1 &&& (255 : Int32))), .unset, .unset] [(.int (f1_0 i0))])) (fun t k => st1.trans k) ?_
  refine own_byW (B := T1.setTop (mkF m 11 #[.val (.int i0), .val (.int i1), .val (.int (i1 &&& (255 : Int32))), .unset, .unset] [(.int i0), (.int (f1_0 i0))])) (fun t k => XS.iloadN X1.here hx rfl (hb hby at_10) rfl k) ?_
  obtain ⟨v2, _, ⟨T2, L2, c2, n2⟩, -, X2, ⟨Lc2, hQ2, l2, y2, z2⟩, st2⟩ := Jvm.LawKit.callS X1 hx (y := (⟨"com/example/portico/portico/core/http/HttpSyntaxIsTokenCharPinLaw", "expected", "(I)Z"⟩ : MethodName)) hown (mvT hZ (hw _ (List.mem_of_getElem? (i := 57) rfl))) (mvT hZ (hw _ (List.mem_of_getElem? (i := 58) rfl))) (mvT hZ (hw _ (List.mem_of_getElem? (i := 59) rfl))) (mvT hZ (hw _ (List.mem_of_getElem? (i := 60) rfl))) (by decide) (backOf (W := 1) (rm12 l Z a0 hw [] i0  T1.heap ) hZ (hw _ (List.mem_of_getElem? (i := 60) rfl)) (hw _ (List.mem_of_getElem? (i := 59) rfl)) (by decide) (by decide)) (g := (mkF m 11 #[.val (.int i0), .val (.int i1), .val (.int (i1 &&& (255 : Int32))), .unset, .unset] [(.int i0), (.int (f1_0 i0))])) rfl (by rw [hml]; rfl) (argsL := [(.int i0)]) (rest := [(.int (f1_0 i0))]) (lenOf pd_1 rfl) rfl (by show 2 * 0 + _ ≤ _; exact Nat.le_of_eq rfl) (hb hby at_11) (fun _ _ => ⟨rfl, rfl, (by decide : 2 + 0 ≤ _), (by decide : 64 + 0 ≤ _)⟩)
  dsimp only [Pt.U, Pt.locs, Pt.cells, Pt.slots] at X2 l2 y2 z2 st2 hQ2
  subst l2 y2 z2
  obtain ⟨rfl, rfl, e2⟩ := hQ2
  refine own_byW (B := T2.setTop (mkF m 14 #[.val (.int i0), .val (.int i1), .val (.int (i1 &&& (255 : Int32))), .unset, .unset] [(.int (f12_0 i0)), (.int (f1_0 i0))])) (fun t k => st2 _ k) ?_
  have hc3 : (f1_0 i0) = (f12_0 i0) := own_same i0
  refine own_byW (B := T2.setTop (mkF m 17 #[.val (.int i0), .val (.int i1), .val (.int (i1 &&& (255 : Int32))), .unset, .unset] [])) (fun t k => XS.icmpNo X2.here hx rfl (hb hby at_14) rfl (teq hc3).2 k) ?_
  refine own_byW (B := T2.setTop (mkF m 18 #[.val (.int i0), .val (.int i1), .val (.int (i1 &&& (255 : Int32))), .unset, .unset] [(.int (1 : Int32))])) (fun t k => XS.iconst X2.here hx rfl (hb hby at_17) k) ?_
  refine own_byW (B := T2.setTop (mkF m 22 #[.val (.int i0), .val (.int i1), .val (.int (i1 &&& (255 : Int32))), .unset, .unset] [(.int (1 : Int32))])) (fun t k => XS.goto X2.here hx rfl (pc0 := 18) (pc' := 22) rfl (hb hby at_18) (by decide) (by decide) k) ?_
  refine own_byW (B := T2.setTop (mkF m 23 #[.val (.int i0), .val (.int i1), .val (.int (i1 &&& (255 : Int32))), .val (.int (1 : Int32)), .unset] [])) (fun t k => XS.istoreN X2.here hx rfl (hb hby at_22) rfl (l' := #[.val (.int i0), .val (.int i1), .val (.int (i1 &&& (255 : Int32))), .val (.int (1 : Int32)), .unset]) rfl k) ?_
  refine own_byW (B := T2.setTop (mkF m 24 #[.val (.int i0), .val (.int i1), .val (.int (i1 &&& (255 : Int32))), .val (.int (1 : Int32)), .unset] [(.int (i1 &&& (255 : Int32)))])) (fun t k => XS.iloadN X2.here hx rfl (hb hby at_23) rfl k) ?_
  obtain ⟨v4, _, ⟨T4, L4, c4, n4⟩, -, X4, hS4, hg4, ⟨Lc4, hQ4, l4, y4, z4, hC4⟩, st4⟩ := callSS X2 hx (y := (⟨"com/example/portico/portico/core/http/HttpSyntax", "isTokenChar", "(I)Z"⟩ : MethodName)) hown (mvT hZ (hw _ (List.mem_of_getElem? (i := 0) rfl))) (mvT hZ (hw _ (List.mem_of_getElem? (i := 1) rfl))) (mvT hZ (hw _ (List.mem_of_getElem? (i := 2) rfl))) (mvT hZ (hw _ (List.mem_of_getElem? (i := 3) rfl))) (by decide) (backOfSH (s := s) (vm0 := T1.vm) (EL := consts_1) (W := 0) (rm1 l Z a0 hw [] hEL (i1 &&& (255 : Int32)) wz T1.heap Sc hwz) hZ (hw _ (List.mem_of_getElem? (i := 3) rfl)) (hw _ (List.mem_of_getElem? (i := 2) rfl)) (by decide) (by decide) hEL hCC1.1) (g := (mkF m 24 #[.val (.int i0), .val (.int i1), .val (.int (i1 &&& (255 : Int32))), .val (.int (1 : Int32)), .unset] [(.int (i1 &&& (255 : Int32)))])) rfl (by rw [hml]; rfl) (argsL := [(.int (i1 &&& (255 : Int32)))]) (rest := []) (lenOf pd_1 rfl) rfl (by show 2 * 0 + _ ≤ _; exact Nat.le_of_eq rfl) (hb hby at_24) (fun _ _ => ⟨rfl, e2, (by decide : 2 + 2 ≤ _), (by decide : 64 + 64 ≤ _)⟩)
  dsimp only [Pt.U, Pt.locs, Pt.cells, Pt.slots] at X4 hS4 hg4 l4 y4 z4 st4 hQ4 hC4
  subst l4 y4 z4
  obtain ⟨rfl, rfl, Ex4⟩ := hQ4
  have Sc := Sc.ext Ex4
  have hZ : Z.Warmed39 (s.setVm T4.vm).vm := State.Warmed39.trans (t := s.setVm T1.vm) hZ hS4.1
  have hSS4 : s.Since T4.vm T4.heap.size := hSS1.trans hS4 (by rw [← e2]; exact hg4)
  have hCC4 := hCC1.trans hC4
  have hown : (s.setVm T4.vm).vm.findClass "com/example/portico/portico/core/http/HttpSyntaxIsTokenCharPinLaw" = some m.cls := by
    rw [show (s.setVm T4.vm).vm = T4.vm from rfl, hS4.1.alike.findClass]; exact hown
  refine own_byW (B := T4.setTop (mkF m 27 #[.val (.int i0), .val (.int i1), .val (.int (i1 &&& (255 : Int32))), .val (.int (1 : Int32)), .unset] [(.int (f1_0 (i1 &&& (255 : Int32))))])) (fun t k => st4.trans k) ?_
  refine own_byW (B := T4.setTop (mkF m 28 #[.val (.int i0), .val (.int i1), .val (.int (i1 &&& (255 : Int32))), .val (.int (1 : Int32)), .unset] [(.int (i1 &&& (255 : Int32))), (.int (f1_0 (i1 &&& (255 : Int32))))])) (fun t k => XS.iloadN X4.here hx rfl (hb hby at_27) rfl k) ?_
  obtain ⟨v5, _, ⟨T5, L5, c5, n5⟩, -, X5, ⟨Lc5, hQ5, l5, y5, z5⟩, st5⟩ := Jvm.LawKit.callS X4 hx (y := (⟨"com/example/portico/portico/core/http/HttpSyntaxIsTokenCharPinLaw", "expected", "(I)Z"⟩ : MethodName)) hown (mvT hZ (hw _ (List.mem_of_getElem? (i := 57) rfl))) (mvT hZ (hw _ (List.mem_of_getElem? (i := 58) rfl))) (mvT hZ (hw _ (List.mem_of_getElem? (i := 59) rfl))) (mvT hZ (hw _ (List.mem_of_getElem? (i := 60) rfl))) (by decide) (backOf (W := 1) (rm12 l Z a0 hw [] (i1 &&& (255 : Int32))  T4.heap ) hZ (hw _ (List.mem_of_getElem? (i := 60) rfl)) (hw _ (List.mem_of_getElem? (i := 59) rfl)) (by decide) (by decide)) (g := (mkF m 28 #[.val (.int i0), .val (.int i1), .val (.int (i1 &&& (255 : Int32))), .val (.int (1 : Int32)), .unset] [(.int (i1 &&& (255 : Int32))), (.int (f1_0 (i1 &&& (255 : Int32))))])) rfl (by rw [hml]; rfl) (argsL := [(.int (i1 &&& (255 : Int32)))]) (rest := [(.int (f1_0 (i1 &&& (255 : Int32))))]) (lenOf pd_1 rfl) rfl (by show 2 * 0 + _ ≤ _; exact Nat.le_of_eq rfl) (hb hby at_28) (fun _ _ => ⟨rfl, rfl, (by decide : 4 + 0 ≤ _), (by decide : 128 + 0 ≤ _)⟩)
  dsimp only [Pt.U, Pt.locs, Pt.cells, Pt.slots] at X5 l5 y5 z5 st5 hQ5
  subst l5 y5 z5
  obtain ⟨rfl, rfl, e5⟩ := hQ5
  refine own_byW (B := T5.setTop (mkF m 31 #[.val (.int i0), .val (.int i1), .val (.int (i1 &&& (255 : Int32))), .val (.int (1 : Int32)), .unset] [(.int (f12_0 (i1 &&& (255 : Int32)))), (.int (f1_0 (i1 &&& (255 : Int32))))])) (fun t k => st5 _ k) ?_
  have hc6 : (f1_0 (i1 &&& (255 : Int32))) = (f12_0 (i1 &&& (255 : Int32))) := own_same (i1 &&& (255 : Int32))
  refine own_byW (B := T5.setTop (mkF m 34 #[.val (.int i0), .val (.int i1), .val (.int (i1 &&& (255 : Int32))), .val (.int (1 : Int32)), .unset] [])) (fun t k => XS.icmpNo X5.here hx rfl (hb hby at_31) rfl (teq hc6).2 k) ?_
  refine own_byW (B := T5.setTop (mkF m 35 #[.val (.int i0), .val (.int i1), .val (.int (i1 &&& (255 : Int32))), .val (.int (1 : Int32)), .unset] [(.int (1 : Int32))])) (fun t k => XS.iconst X5.here hx rfl (hb hby at_34) k) ?_
  refine own_byW (B := T5.setTop (mkF m 39 #[.val (.int i0), .val (.int i1), .val (.int (i1 &&& (255 : Int32))), .val (.int (1 : Int32)), .unset] [(.int (1 : Int32))])) (fun t k => XS.goto X5.here hx rfl (pc0 := 35) (pc' := 39) rfl (hb hby at_35) (by decide) (by decide) k) ?_
  refine own_byW (B := T5.setTop (mkF m 41 #[.val (.int i0), .val (.int i1), .val (.int (i1 &&& (255 : Int32))), .val (.int (1 : Int32)), .val (.int (1 : Int32))] [])) (fun t k => XS.istore X5.here hx rfl (hb hby at_39) rfl (l' := #[.val (.int i0), .val (.int i1), .val (.int (i1 &&& (255 : Int32))), .val (.int (1 : Int32)), .val (.int (1 : Int32))]) rfl k) ?_
  refine own_byW (B := T5.setTop (mkF m 42 #[.val (.int i0), .val (.int i1), .val (.int (i1 &&& (255 : Int32))), .val (.int (1 : Int32)), .val (.int (1 : Int32))] [(.int (1 : Int32))])) (fun t k => XS.iloadN X5.here hx rfl (hb hby at_41) rfl k) ?_
  have hc7 : ¬ ((1 : Int32) = (0 : Int32)) := by decide
  refine own_byW (B := T5.setTop (mkF m 45 #[.val (.int i0), .val (.int i1), .val (.int (i1 &&& (255 : Int32))), .val (.int (1 : Int32)), .val (.int (1 : Int32))] [])) (fun t k => XS.ifNo X5.here hx rfl (hb hby at_42) rfl ((if0 _ _).trans (feq hc7).1) k) ?_
  refine own_byW (B := T5.setTop (mkF m 47 #[.val (.int i0), .val (.int i1), .val (.int (i1 &&& (255 : Int32))), .val (.int (1 : Int32)), .val (.int (1 : Int32))] [(.int (1 : Int32))])) (fun t k => XS.iload X5.here hx rfl (hb hby at_45) rfl k) ?_
  have hc8 : ¬ ((1 : Int32) = (0 : Int32)) := by decide
  refine own_byW (B := T5.setTop (mkF m 50 #[.val (.int i0), .val (.int i1), .val (.int (i1 &&& (255 : Int32))), .val (.int (1 : Int32)), .val (.int (1 : Int32))] [])) (fun t k => XS.ifNo X5.here hx rfl (hb hby at_47) rfl ((if0 _ _).trans (feq hc8).1) k) ?_
  refine own_byW (B := T5.setTop (mkF m 51 #[.val (.int i0), .val (.int i1), .val (.int (i1 &&& (255 : Int32))), .val (.int (1 : Int32)), .val (.int (1 : Int32))] [(.int (1 : Int32))])) (fun t k => XS.iconst X5.here hx rfl (hb hby at_50) k) ?_
  refine own_byW (B := T5.setTop (mkF m 55 #[.val (.int i0), .val (.int i1), .val (.int (i1 &&& (255 : Int32))), .val (.int (1 : Int32)), .val (.int (1 : Int32))] [(.int (1 : Int32))])) (fun t k => XS.goto X5.here hx rfl (pc0 := 51) (pc' := 55) rfl (hb hby at_51) (by decide) (by decide) k) ?_
  exact own_retNW (s := s) (t := .boolean) (vm₁ := T4.vm) (by simp) X5 hSS4 (by rw [e5]; exact Nat.le_refl _) hx hlk hret (z' := (1 : Int32)) (by decide) (hb hby at_55) ⟨rfl, rfl⟩ (by rw [e5]; exact hCC4.trans (CHv.at (s := s) (vm0 := T4.vm) X5 hZ hEL hCC4.1)) (by decide) (by decide)
set_option maxRecDepth 65536 in
set_option maxHeartbeats 40000000 in
theorem comes_1 {Post : Tables → Env → Array Value → State → Outcome → State → Prop} (hpost : ∀ tb e args s v u, (limb_1_1.after args s (.returned v) u = true ∧ limb_1_2.after args s (.returned v) u = true ∧ True) → ReturnedEndW s (.returned v) u (Jvm.fieldLocs frame_1_writes args s ++ Jvm.arrayLocs frame_1_arrays args s ++ Jvm.staticLocs frame_1_statics s) 8 1088 → Post tb e args s (.returned v) u) :
    ArmFor flags0 classFile x code maxLocals ret World_1 tables_1 room_1 Calls_1 rest_1 Pre_1 Post := by
  intro l hfl _ _ p e ha hc hk s m args below hf hA hF happ hP
  obtain ⟨hcalls, hrest, hpre⟩ := hP
  obtain ⟨-, -, -, hnamed, -, -, -, hat⟩ := (Spec.applies_iff hf).mp happ
  obtain ⟨hg, hn⟩ := and_e (Cond.before_iff.mp (show (Jvm.Cond.and given_1 narrow_1).before args s = true from hpre))
  obtain ⟨gg1, gg2⟩ := and_e hg
  obtain ⟨gg3, gg4⟩ := and_e gg2
  obtain ⟨w0, w1, rfl⟩ : ∃ w0 w1 : Value, args = #[w0, w1] := by
    have hs : args.size = 2 := by simpa [Cond.value, given_1] using gg1
    obtain ⟨L⟩ := args
    match L, hs with
    | [w0, w1], _ => exact ⟨w0, w1, rfl⟩
  have hw := fun d (hd : d ∈ tables_1) => atoms_spec (ws := Jvm.Cond.code x code maxLocals ret :: tables_1) hat d (List.mem_cons_of_mem _ hd)
  obtain ⟨i0, ei0⟩ := is_v gg3
  obtain rfl : w0 = (.int i0) := Option.some.inj ei0
  obtain ⟨i1, ei1⟩ := is_v gg4
  obtain rfl : w1 = (.int i1) := Option.some.inj ei1
  obtain ⟨hsets, hown0⟩ := atoms_of _ (rest_1_c_eq ▸ (show rest_1_c.before _ s = true from hrest))
  obtain ⟨wz, ewz⟩ := is_v (Cond.before_iff.mp (hsets _ (List.mem_of_getElem? (i := 1) rfl)))
  have hcw := hsets _ (List.mem_of_getElem? (i := 2) rfl)
  have hwz := own_ne0 hcw ewz
  have Sc := Sta.start ewz (Or.inl (hsets _ (List.mem_of_getElem? (i := 0) rfl)))
  have hEL : EW s #[(.int i0), (.int i1)] consts_1 := EW.cons (hw _ (List.mem_of_getElem? (i := 4) rfl)) (by decide +kernel) EW.nil
  have H : CHv s consts_1 s.vm s.heap := CHv.start hEL (fun q hq => hcalls.1 q hq) hcw (hw _ (List.mem_of_getElem? (i := 7) rfl)) (hw _ (List.mem_of_getElem? (i := 6) rfl))
  obtain ⟨n, o, h1, h2, h3, _, L, rfl, ⟨rfl, rfl⟩, -, hq⟩ := rm0 l s _ hw tables_1 hEL i0 i1 wz s.heap Sc hwz p e ha hc hk s m _ below hf ((Spec.applies_iff_loose hf).mp happ).1 ⟨rfl, State.Warmed39.refl s, rfl, H⟩ trivial
  refine ⟨n, _, h1, h2, h3, hpost _ _ _ _ _ _ ⟨Cond.after_iff.mpr rfl, Cond.after_iff.mpr (eq_i res_at (Term.int_eval (1)) rfl), trivial⟩ ⟨hq.1, hq.2.1, hq.2.2.1, (hq.2.2.2.sift fun y hy => nomatch hy).mono (by decide) (by decide)⟩⟩
theorem main_1_1 : Claimed_1_1 := comes_1 fun _ _ _ _ _ _ h hF => ⟨h.1, hF⟩
theorem main_1_2 : Claimed_1_2 := comes_1 fun _ _ _ _ _ _ h hF => ⟨h.2.1, hF⟩
end Jvm.Pilot.@@N@@
namespace Jvm.Pilot.@@N@@
open Jvm Jvm.ClassFile Sem Op Lib Jvm.Free Jvm.Stand Jvm.Pilot.@@N@@.Jvm.D
/-! MADE BY PROGRAM (witnessworld.py) out of the Statement's table words and the real class files: 18 classes; the members and pool entries that the words name. The judged class is class 1, her method 3. -/
namespace start1
open Jvm.ClassFile
def u (s : String) : CpInfo := .utf8 (stringToUtf16 s)
/-- a pool by its gaps: so many unusable entries, then the entry; so many at the end -/
def gap : Nat → List CpInfo → List CpInfo
  | 0, r => r
  | n + 1, r => .unusable :: gap n r
def poolList (es : List (Nat × CpInfo)) (last : Nat) : List CpInfo := es.foldr (fun e r => gap e.1 (e.2 :: r)) (gap last [])
def pool (es : List (Nat × CpInfo)) (last : Nat) : Array CpInfo := ⟨poolList es last⟩
def fileOf (pool : Array CpInfo) (this : Nat) (attrs : Array Attribute := #[]) (ms : Array MethodInfo := #[]) (fl : Nat := 33) (sup : Nat := 0) (ifs : Array Nat := #[]) (fds : Array FieldInfo := #[]) : ClassFile where
  minorVersion := 0
  majorVersion := 65
  constantPool := pool
  accessFlags := fl
  thisClass := this
  superClass := sup
  interfaces := ifs
  fields := fds
  methods := ms
  attributes := attrs
def plain (name : String) (sup : Option ClassId) : Class where
  name := name
  kind := .ordinary
  loader := none
  accessFlags := 33
  super := sup
  interfaces := #[]
  cf := none
  fields := #[]
  methods := #[]
  instanceTypes := #[]
  staticTypes := #[]
  resolved := #[]
  callSites := []
  init := .initialized
  statics := none
  mirror := none

def pool0 : Array CpInfo := pool [(5, u "<init>"), (0, u "()V"), (1, .class_ 10), (1, u "java/lang/Object")] 113

def k0m0 : Method := { name := "<init>", desc := "()V", sig := { parameters := [], returnType := none }, accessFlags := 1, code := none }
/-- java/lang/Object -/
def k0 : Class := { plain "java/lang/Object" none with
  accessFlags := 33
  interfaces := #[]
  cf := some (fileOf pool0 8 #[] #[{ accessFlags := 1, nameIndex := 5, descriptorIndex := 6, attributes := #[] }] 33 0 #[] #[])
  fields := #[]
  methods := #[k0m0]
  instanceTypes := #[]
  staticTypes := #[]
  resolved := Array.replicate 124 none
  statics := none }

def pool1 : Array CpInfo := pool [(2, .class_ 4), (1, u "java/lang/Object"), (0, u "<init>"), (0, u "()V"), (0, .methodref 8 9), (0, .class_ 10), (0, .nameAndType 11 12), (0, u "com/example/portico/portico/core/http/HttpSyntaxIsTokenCharPinLaw"), (0, u "isDelimiter"), (0, u "(I)Z"), (0, .methodref 14 15), (0, .class_ 16), (0, .nameAndType 17 12), (0, u "com/example/portico/portico/core/http/HttpSyntax"), (0, u "isTokenChar"), (0, .methodref 8 19), (0, .nameAndType 20 12), (0, u "expected"), (3, u "law"), (0, u "(II)Z")] 2

def k1m0 : Method := { name := "<init>", desc := "()V", sig := { parameters := [], returnType := none }, accessFlags := 2, code := none }
def k1c1 : Code := { maxStack := 2, maxLocals := 1, code := method_2_code, exceptionTable := #[], attributes := #[] }
def k1m1 : Method := { name := "isDelimiter", desc := "(I)Z", sig := { parameters := [.int], returnType := some .boolean }, accessFlags := 10, code := some k1c1 }
def k1c2 : Code := { maxStack := 2, maxLocals := 1, code := method_3_code, exceptionTable := #[], attributes := #[] }
def k1m2 : Method := { name := "expected", desc := "(I)Z", sig := { parameters := [.int], returnType := some .boolean }, accessFlags := 10, code := some k1c2 }
def k1c3 : Code := { maxStack := 2, maxLocals := 5, code := code, exceptionTable := #[], attributes := #[] }
def k1m3 : Method := { name := "law", desc := "(II)Z", sig := { parameters := [.int, .int], returnType := some .boolean }, accessFlags := 9, code := some k1c3 }
/-- com/example/portico/portico/core/http/HttpSyntaxIsTokenCharPinLaw -/
def k1 : Class := { plain "com/example/portico/portico/core/http/HttpSyntaxIsTokenCharPinLaw" (some 0) with
  accessFlags := 49
  interfaces := #[]
  cf := some (fileOf pool1 8 #[] #[{ accessFlags := 2, nameIndex := 5, descriptorIndex := 6, attributes := #[] }, { accessFlags := 10, nameIndex := 11, descriptorIndex := 12, attributes := #[] }, { accessFlags := 10, nameIndex := 20, descriptorIndex := 12, attributes := #[] }, { accessFlags := 9, nameIndex := 24, descriptorIndex := 25, attributes := #[] }] 49 2 #[] #[])
  fields := #[]
  methods := #[k1m0, k1m1, k1m2, k1m3]
  instanceTypes := #[]
  staticTypes := #[]
  resolved := Array.replicate 28 none
  statics := none }

def pool2 : Array CpInfo := pool [(2, .class_ 4), (1, u "java/lang/Object"), (0, u "<init>"), (0, u "()V"), (0, .class_ 8), (0, u "com/example/portico/portico/core/http/HttpSyntax"), (0, .string 10), (0, u "!#$%&'*+-.^_`|~"), (0, .methodref 12 13), (0, .class_ 14), (0, .nameAndType 15 16), (0, u "java/lang/String"), (0, u "indexOf"), (0, u "(I)I"), (18, u "TOKEN_SYMBOLS"), (0, u "Ljava/lang/String;"), (3, u "isTokenChar"), (0, u "(I)Z")] 23

def k2m0 : Method := { name := "<init>", desc := "()V", sig := { parameters := [], returnType := none }, accessFlags := 2, code := none }
def k2c1 : Code := { maxStack := 2, maxLocals := 1, code := prog_29_method_2_code, exceptionTable := #[], attributes := #[] }
def k2m1 : Method := { name := "isTokenChar", desc := "(I)Z", sig := { parameters := [.int], returnType := some .boolean }, accessFlags := 9, code := some k2c1 }
/-- com/example/portico/portico/core/http/HttpSyntax -/
def k2 : Class := { plain "com/example/portico/portico/core/http/HttpSyntax" (some 0) with
  accessFlags := 49
  interfaces := #[]
  cf := some (fileOf pool2 7 #[] #[{ accessFlags := 2, nameIndex := 5, descriptorIndex := 6, attributes := #[] }, { accessFlags := 9, nameIndex := 40, descriptorIndex := 41, attributes := #[] }] 49 2 #[] #[{ accessFlags := 26, nameIndex := 35, descriptorIndex := 36, attributes := #[] }])
  fields := #[{ name := "TOKEN_SYMBOLS", type := (.object "java/lang/String"), accessFlags := 26, slot := 0, constantValue := 0 }]
  methods := #[k2m0, k2m1]
  instanceTypes := #[]
  staticTypes := #[(.object "java/lang/String")]
  resolved := Array.replicate 65 none
  statics := none }

def pool3 : Array CpInfo := pool [(1, .class_ 2), (0, u "java/io/Serializable"), (0, .class_ 4), (0, u "java/lang/Object")] 2

/-- java/io/Serializable -/
def k3 : Class := { plain "java/io/Serializable" (some 0) with
  accessFlags := 1537
  interfaces := #[]
  cf := some (fileOf pool3 1 #[] #[] 1537 3 #[] #[])
  fields := #[]
  methods := #[]
  instanceTypes := #[]
  staticTypes := #[]
  resolved := Array.replicate 7 none
  statics := none }

def pool4 : Array CpInfo := pool [(1, .class_ 2), (0, u "java/lang/Comparable"), (0, .class_ 4), (0, u "java/lang/Object")] 7

/-- java/lang/Comparable -/
def k4 : Class := { plain "java/lang/Comparable" (some 0) with
  accessFlags := 1537
  interfaces := #[]
  cf := some (fileOf pool4 1 #[] #[] 1537 3 #[] #[])
  fields := #[]
  methods := #[]
  instanceTypes := #[]
  staticTypes := #[]
  resolved := Array.replicate 12 none
  statics := none }

def pool5 : Array CpInfo := pool [(2, .class_ 4), (1, u "java/lang/CharSequence"), (42, .class_ 48), (0, u "java/lang/CharSequence$1CodePointIterator"), (10, .class_ 60), (0, u "java/lang/CharSequence$1CharIterator"), (5, .class_ 67), (0, u "java/lang/Object")] 63

/-- java/lang/CharSequence -/
def k5 : Class := { plain "java/lang/CharSequence" (some 0) with
  accessFlags := 1537
  interfaces := #[]
  cf := some (fileOf pool5 2 #[.nestMembers #[47, 59]] #[] 1537 66 #[] #[])
  fields := #[]
  methods := #[]
  instanceTypes := #[]
  staticTypes := #[]
  resolved := Array.replicate 131 none
  statics := none }

def pool6 : Array CpInfo := pool [(1, .class_ 2), (0, u "java/lang/constant/Constable"), (0, .class_ 4), (0, u "java/lang/Object")] 6

/-- java/lang/constant/Constable -/
def k6 : Class := { plain "java/lang/constant/Constable" (some 0) with
  accessFlags := 1537
  interfaces := #[]
  cf := some (fileOf pool6 1 #[] #[] 1537 3 #[] #[])
  fields := #[]
  methods := #[]
  instanceTypes := #[]
  staticTypes := #[]
  resolved := Array.replicate 11 none
  statics := none }

def pool7 : Array CpInfo := pool [(1, .class_ 2), (0, u "java/lang/constant/ConstantDesc"), (0, .class_ 4), (0, u "java/lang/Object")] 32

/-- java/lang/constant/ConstantDesc -/
def k7 : Class := { plain "java/lang/constant/ConstantDesc" (some 0) with
  accessFlags := 1537
  interfaces := #[]
  cf := some (fileOf pool7 1 #[] #[] 1537 3 #[] #[])
  fields := #[]
  methods := #[]
  instanceTypes := #[]
  staticTypes := #[]
  resolved := Array.replicate 37 none
  statics := none }

def pool8 : Array CpInfo := pool [(2, .class_ 4), (1, u "java/lang/Object"), (0, u "<init>"), (0, u "()V"), (2, .fieldref 10 11), (0, .class_ 12), (0, .nameAndType 13 14), (0, u "java/lang/String"), (0, u "value"), (0, u "[B"), (0, .fieldref 10 16), (0, .nameAndType 17 18), (0, u "coder"), (0, u "B"), (2, u "hash"), (0, u "I"), (2, u "hashIsZero"), (0, u "Z"), (11, .fieldref 10 39), (0, .nameAndType 40 26), (0, u "COMPACT_STRINGS"), (66, .class_ 109), (1, u "java/lang/StringLatin1"), (32, u "()Z"), (191, u "()I"), (0, .methodref 10 336), (0, .nameAndType 17 337), (0, u "()B"), (154, .methodref 10 493), (0, .nameAndType 494 142), (0, u "isLatin1"), (10, .methodref 10 506), (0, .nameAndType 507 334), (0, u "length"), (67, .class_ 576), (0, u "java/lang/CharSequence"), (22, u "CASE_INSENSITIVE_ORDER"), (0, u "Ljava/util/Comparator;"), (32, .methodref 10 634), (0, .nameAndType 635 636), (0, u "indexOf"), (0, u "(II)I"), (0, .methodref 107 638), (0, .nameAndType 635 639), (0, u "([BIII)I"), (125, u "(I)I"), (335, u "serialPersistentFields"), (0, u "[Ljava/io/ObjectStreamField;"), (0, .class_ 1104), (0, u "java/lang/String$CaseInsensitiveComparator"), (1, .class_ 1107), (0, u "java/io/Serializable"), (0, .class_ 1109), (0, u "java/lang/Comparable"), (0, .class_ 1111), (0, u "java/lang/constant/Constable"), (0, .class_ 1113), (0, u "java/lang/constant/ConstantDesc"), (2, u "serialVersionUID"), (0, u "J"), (3, u "REPL"), (0, u "C"), (2, u "LATIN1"), (1, u "UTF16")] 323

def k8m0 : Method := { name := "<init>", desc := "()V", sig := { parameters := [], returnType := none }, accessFlags := 1, code := none }
def k8c1 : Code := { maxStack := 2, maxLocals := 1, code := jdk_42_method_54_code, exceptionTable := #[], attributes := #[] }
def k8m1 : Method := { name := "length", desc := "()I", sig := { parameters := [], returnType := some .int }, accessFlags := 1, code := some k8c1 }
def k8c2 : Code := { maxStack := 3, maxLocals := 2, code := jdk_42_method_79_code, exceptionTable := #[], attributes := #[] }
def k8m2 : Method := { name := "indexOf", desc := "(I)I", sig := { parameters := [.int], returnType := some .int }, accessFlags := 1, code := some k8c2 }
def k8c3 : Code := { maxStack := 4, maxLocals := 3, code := jdk_42_method_80_code, exceptionTable := #[], attributes := #[] }
def k8m3 : Method := { name := "indexOf", desc := "(II)I", sig := { parameters := [.int, .int], returnType := some .int }, accessFlags := 1, code := some k8c3 }
def k8c4 : Code := { maxStack := 1, maxLocals := 1, code := jdk_42_method_152_code, exceptionTable := #[], attributes := #[] }
def k8m4 : Method := { name := "coder", desc := "()B", sig := { parameters := [], returnType := some .byte }, accessFlags := 0, code := some k8c4 }
def k8c5 : Code := { maxStack := 1, maxLocals := 1, code := jdk_42_method_154_code, exceptionTable := #[], attributes := #[] }
def k8m5 : Method := { name := "isLatin1", desc := "()Z", sig := { parameters := [], returnType := some .boolean }, accessFlags := 0, code := some k8c5 }
/-- java/lang/String -/
def k8 : Class := { plain "java/lang/String" (some 0) with
  accessFlags := 49
  interfaces := #[3, 4, 5, 6, 7]
  cf := some (fileOf pool8 10 #[.nestMembers #[1103]] #[{ accessFlags := 1, nameIndex := 5, descriptorIndex := 6, attributes := #[] }, { accessFlags := 1, nameIndex := 507, descriptorIndex := 334, attributes := #[] }, { accessFlags := 1, nameIndex := 635, descriptorIndex := 765, attributes := #[] }, { accessFlags := 1, nameIndex := 635, descriptorIndex := 636, attributes := #[] }, { accessFlags := 0, nameIndex := 17, descriptorIndex := 337, attributes := #[] }, { accessFlags := 0, nameIndex := 494, descriptorIndex := 142, attributes := #[] }] 49 2 #[1106, 1108, 575, 1110, 1112] #[{ accessFlags := 18, nameIndex := 13, descriptorIndex := 14, attributes := #[] }, { accessFlags := 18, nameIndex := 17, descriptorIndex := 18, attributes := #[] }, { accessFlags := 2, nameIndex := 21, descriptorIndex := 22, attributes := #[] }, { accessFlags := 2, nameIndex := 25, descriptorIndex := 26, attributes := #[] }, { accessFlags := 26, nameIndex := 1116, descriptorIndex := 1117, attributes := #[] }, { accessFlags := 24, nameIndex := 40, descriptorIndex := 26, attributes := #[] }, { accessFlags := 26, nameIndex := 1101, descriptorIndex := 1102, attributes := #[] }, { accessFlags := 26, nameIndex := 1121, descriptorIndex := 1122, attributes := #[] }, { accessFlags := 25, nameIndex := 599, descriptorIndex := 600, attributes := #[] }, { accessFlags := 24, nameIndex := 1125, descriptorIndex := 18, attributes := #[] }, { accessFlags := 24, nameIndex := 1127, descriptorIndex := 18, attributes := #[] }])
  fields := #[{ name := "value", type := (.array .byte), accessFlags := 18, slot := 0, constantValue := 0 }, { name := "coder", type := .byte, accessFlags := 18, slot := 1, constantValue := 0 }, { name := "hash", type := .int, accessFlags := 2, slot := 2, constantValue := 0 }, { name := "hashIsZero", type := .boolean, accessFlags := 2, slot := 3, constantValue := 0 }, { name := "serialVersionUID", type := .long, accessFlags := 26, slot := 0, constantValue := 0 }, { name := "COMPACT_STRINGS", type := .boolean, accessFlags := 24, slot := 1, constantValue := 0 }, { name := "serialPersistentFields", type := (.array (.object "java/io/ObjectStreamField")), accessFlags := 26, slot := 2, constantValue := 0 }, { name := "REPL", type := .char, accessFlags := 26, slot := 3, constantValue := 0 }, { name := "CASE_INSENSITIVE_ORDER", type := (.object "java/util/Comparator"), accessFlags := 25, slot := 4, constantValue := 0 }, { name := "LATIN1", type := .byte, accessFlags := 24, slot := 5, constantValue := 0 }, { name := "UTF16", type := .byte, accessFlags := 24, slot := 6, constantValue := 0 }]
  methods := #[k8m0, k8m1, k8m2, k8m3, k8m4, k8m5]
  instanceTypes := #[(.array .byte), .byte, .int, .boolean]
  staticTypes := #[.long, .boolean, (.array (.object "java/io/ObjectStreamField")), .char, (.object "java/util/Comparator"), .byte, .byte]
  resolved := Array.replicate 1451 none
  statics := some 0 }

def pool9 : Array CpInfo := pool [(4, .class_ 6), (1, u "java/lang/Object"), (0, u "<init>"), (0, u "()V"), (5, .class_ 16), (1, u "java/lang/StringLatin1"), (21, .methodref 39 40), (0, .class_ 41), (0, .nameAndType 42 43), (0, u "java/lang/Math"), (0, u "min"), (0, u "(II)I"), (44, .methodref 14 89), (0, .nameAndType 90 91), (0, u "canEncode"), (0, u "(I)Z"), (0, .methodref 39 93), (0, .nameAndType 94 43), (0, u "max"), (0, .methodref 14 96), (0, .nameAndType 97 98), (0, u "indexOfChar"), (0, u "([BIII)I"), (2, u "indexOf"), (19, u "$assertionsDisabled"), (0, u "Z"), (98, .class_ 223), (1, u "java/lang/StringLatin1$LinesSpliterator"), (166, .class_ 391), (0, u "java/lang/StringLatin1$CharsSpliterator")] 3

def k9m0 : Method := { name := "<init>", desc := "()V", sig := { parameters := [], returnType := none }, accessFlags := 0, code := none }
def k9c1 : Code := { maxStack := 2, maxLocals := 1, code := jdk_43_method_4_code, exceptionTable := #[], attributes := #[] }
def k9m1 : Method := { name := "canEncode", desc := "(I)Z", sig := { parameters := [.int], returnType := some .boolean }, accessFlags := 9, code := some k9c1 }
def k9c2 : Code := { maxStack := 4, maxLocals := 4, code := jdk_43_method_22_code, exceptionTable := #[], attributes := #[] }
def k9m2 : Method := { name := "indexOf", desc := "([BIII)I", sig := { parameters := [(.array .byte), .int, .int, .int], returnType := some .int }, accessFlags := 9, code := some k9c2 }
def k9c3 : Code := { maxStack := 2, maxLocals := 6, code := jdk_43_method_23_code, exceptionTable := #[], attributes := #[] }
def k9m3 : Method := { name := "indexOfChar", desc := "([BIII)I", sig := { parameters := [(.array .byte), .int, .int, .int], returnType := some .int }, accessFlags := 10, code := some k9c3 }
/-- java/lang/StringLatin1 -/
def k9 : Class := { plain "java/lang/StringLatin1" (some 0) with
  accessFlags := 48
  interfaces := #[]
  cf := some (fileOf pool9 14 #[.nestMembers #[390, 221]] #[{ accessFlags := 0, nameIndex := 7, descriptorIndex := 8, attributes := #[] }, { accessFlags := 9, nameIndex := 90, descriptorIndex := 91, attributes := #[] }, { accessFlags := 9, nameIndex := 101, descriptorIndex := 98, attributes := #[] }, { accessFlags := 10, nameIndex := 97, descriptorIndex := 98, attributes := #[] }] 48 4 #[] #[{ accessFlags := 4120, nameIndex := 121, descriptorIndex := 122, attributes := #[] }])
  fields := #[{ name := "$assertionsDisabled", type := .boolean, accessFlags := 4120, slot := 0, constantValue := 0 }]
  methods := #[k9m0, k9m1, k9m2, k9m3]
  instanceTypes := #[]
  staticTypes := #[.boolean]
  resolved := Array.replicate 395 none
  statics := none }

def pool10 : Array CpInfo := pool [(1, .class_ 2), (0, u "java/lang/Math"), (1, .class_ 6), (1, u "java/lang/Object"), (0, u "<init>"), (0, u "()V"), (89, .class_ 100), (1, u "java/lang/Math$RandomNumberGeneratorHolder"), (71, u "negativeZeroFloatBits"), (0, u "J"), (2, u "negativeZeroDoubleBits"), (21, u "max"), (2, u "min"), (43, u "$assertionsDisabled"), (0, u "Z"), (88, u "(II)I"), (2, u "twoToTheDoubleScaleDown"), (0, u "D"), (4, u "twoToTheDoubleScaleUp"), (9, u "E"), (3, u "PI"), (2, u "TAU"), (2, u "DEGREES_TO_RADIANS"), (0, u "RADIANS_TO_DEGREES")] 94

def k10m0 : Method := { name := "<init>", desc := "()V", sig := { parameters := [], returnType := none }, accessFlags := 2, code := none }
def k10c1 : Code := { maxStack := 2, maxLocals := 2, code := jdk_29_method_65_code, exceptionTable := #[], attributes := #[] }
def k10m1 : Method := { name := "max", desc := "(II)I", sig := { parameters := [.int, .int], returnType := some .int }, accessFlags := 9, code := some k10c1 }
def k10c2 : Code := { maxStack := 2, maxLocals := 2, code := jdk_29_method_69_code, exceptionTable := #[], attributes := #[] }
def k10m2 : Method := { name := "min", desc := "(II)I", sig := { parameters := [.int, .int], returnType := some .int }, accessFlags := 9, code := some k10c2 }
/-- java/lang/Math -/
def k10 : Class := { plain "java/lang/Math" (some 0) with
  accessFlags := 49
  interfaces := #[]
  cf := some (fileOf pool10 1 #[.nestMembers #[98]] #[{ accessFlags := 2, nameIndex := 7, descriptorIndex := 8, attributes := #[] }, { accessFlags := 9, nameIndex := 198, descriptorIndex := 335, attributes := #[] }, { accessFlags := 9, nameIndex := 201, descriptorIndex := 335, attributes := #[] }] 49 4 #[] #[{ accessFlags := 25, nameIndex := 354, descriptorIndex := 339, attributes := #[] }, { accessFlags := 25, nameIndex := 358, descriptorIndex := 339, attributes := #[] }, { accessFlags := 25, nameIndex := 361, descriptorIndex := 339, attributes := #[] }, { accessFlags := 26, nameIndex := 364, descriptorIndex := 339, attributes := #[] }, { accessFlags := 26, nameIndex := 365, descriptorIndex := 339, attributes := #[] }, { accessFlags := 26, nameIndex := 172, descriptorIndex := 173, attributes := #[] }, { accessFlags := 26, nameIndex := 176, descriptorIndex := 173, attributes := #[] }, { accessFlags := 8, nameIndex := 344, descriptorIndex := 339, attributes := #[] }, { accessFlags := 8, nameIndex := 338, descriptorIndex := 339, attributes := #[] }, { accessFlags := 4120, nameIndex := 245, descriptorIndex := 246, attributes := #[] }])
  fields := #[{ name := "E", type := .double, accessFlags := 25, slot := 0, constantValue := 0 }, { name := "PI", type := .double, accessFlags := 25, slot := 1, constantValue := 0 }, { name := "TAU", type := .double, accessFlags := 25, slot := 2, constantValue := 0 }, { name := "DEGREES_TO_RADIANS", type := .double, accessFlags := 26, slot := 3, constantValue := 0 }, { name := "RADIANS_TO_DEGREES", type := .double, accessFlags := 26, slot := 4, constantValue := 0 }, { name := "negativeZeroFloatBits", type := .long, accessFlags := 26, slot := 5, constantValue := 0 }, { name := "negativeZeroDoubleBits", type := .long, accessFlags := 26, slot := 6, constantValue := 0 }, { name := "twoToTheDoubleScaleUp", type := .double, accessFlags := 8, slot := 7, constantValue := 0 }, { name := "twoToTheDoubleScaleDown", type := .double, accessFlags := 8, slot := 8, constantValue := 0 }, { name := "$assertionsDisabled", type := .boolean, accessFlags := 4120, slot := 9, constantValue := 0 }]
  methods := #[k10m0, k10m1, k10m2]
  instanceTypes := #[]
  staticTypes := #[.double, .double, .double, .double, .double, .long, .long, .double, .double, .boolean]
  resolved := Array.replicate 460 none
  statics := none }

def pool11 : Array CpInfo := pool [(2, .class_ 4), (1, u "java/lang/Object"), (0, u "<init>"), (0, u "()V"), (17, .class_ 26), (1, u "jdk/internal/util/Preconditions"), (28, .class_ 56), (0, u "jdk/internal/util/Preconditions$4"), (57, .class_ 115), (0, u "jdk/internal/util/Preconditions$1"), (7, u "SIOOBE_FORMATTER"), (0, u "Ljava/util/function/BiFunction;"), (0, .class_ 126), (0, u "jdk/internal/util/Preconditions$2"), (3, u "AIOOBE_FORMATTER"), (0, .class_ 132), (0, u "jdk/internal/util/Preconditions$3"), (3, u "IOOBE_FORMATTER")] 57

def k11m0 : Method := { name := "<init>", desc := "()V", sig := { parameters := [], returnType := none }, accessFlags := 1, code := none }
/-- jdk/internal/util/Preconditions -/
def k11 : Class := { plain "jdk/internal/util/Preconditions" (some 0) with
  accessFlags := 33
  interfaces := #[]
  cf := some (fileOf pool11 24 #[.nestMembers #[55, 131, 125, 114]] #[{ accessFlags := 1, nameIndex := 5, descriptorIndex := 6, attributes := #[] }] 33 2 #[] #[{ accessFlags := 25, nameIndex := 123, descriptorIndex := 124, attributes := #[] }, { accessFlags := 25, nameIndex := 130, descriptorIndex := 124, attributes := #[] }, { accessFlags := 25, nameIndex := 136, descriptorIndex := 124, attributes := #[] }])
  fields := #[{ name := "SIOOBE_FORMATTER", type := (.object "java/util/function/BiFunction"), accessFlags := 25, slot := 0, constantValue := 0 }, { name := "AIOOBE_FORMATTER", type := (.object "java/util/function/BiFunction"), accessFlags := 25, slot := 1, constantValue := 0 }, { name := "IOOBE_FORMATTER", type := (.object "java/util/function/BiFunction"), accessFlags := 25, slot := 2, constantValue := 0 }]
  methods := #[k11m0]
  instanceTypes := #[]
  staticTypes := #[(.object "java/util/function/BiFunction"), (.object "java/util/function/BiFunction"), (.object "java/util/function/BiFunction")]
  resolved := Array.replicate 194 none
  statics := some 1 }

def pool12 : Array CpInfo := pool [(9, u "<init>"), (6, .class_ 18), (1, u "java/lang/Object"), (0, u "()V"), (1, .class_ 23), (1, u "jdk/internal/util/ArraysSupport"), (0, u "LOG2_ARRAY_LONG_INDEX_SCALE"), (0, u "I"), (2, u "U"), (0, u "Ljdk/internal/misc/Unsafe;"), (8, u "BIG_ENDIAN"), (0, u "Z"), (8, u "LOG2_BYTE_BIT_SIZE"), (4, u "LOG2_ARRAY_INT_INDEX_SCALE"), (54, u "JLA"), (0, u "Ljdk/internal/access/JavaLangAccess;"), (11, u "LOG2_ARRAY_BOOLEAN_INDEX_SCALE"), (9, u "LOG2_ARRAY_BYTE_INDEX_SCALE"), (5, u "LOG2_ARRAY_CHAR_INDEX_SCALE"), (5, u "LOG2_ARRAY_SHORT_INDEX_SCALE"), (18, u "LOG2_ARRAY_FLOAT_INDEX_SCALE"), (24, u "LOG2_ARRAY_DOUBLE_INDEX_SCALE"), (89, u "T_BOOLEAN"), (2, u "T_CHAR"), (1, u "T_FLOAT"), (1, u "T_DOUBLE"), (1, u "T_BYTE"), (1, u "T_SHORT"), (1, u "T_INT"), (1, u "T_LONG"), (1, u "SOFT_MAX_ARRAY_LENGTH")] 83

def k12m0 : Method := { name := "<init>", desc := "()V", sig := { parameters := [], returnType := none }, accessFlags := 2, code := none }
/-- jdk/internal/util/ArraysSupport -/
def k12 : Class := { plain "jdk/internal/util/ArraysSupport" (some 0) with
  accessFlags := 33
  interfaces := #[]
  cf := some (fileOf pool12 21 #[] #[{ accessFlags := 2, nameIndex := 9, descriptorIndex := 19, attributes := #[] }] 33 16 #[] #[{ accessFlags := 24, nameIndex := 28, descriptorIndex := 29, attributes := #[] }, { accessFlags := 26, nameIndex := 38, descriptorIndex := 39, attributes := #[] }, { accessFlags := 25, nameIndex := 121, descriptorIndex := 25, attributes := #[] }, { accessFlags := 25, nameIndex := 131, descriptorIndex := 25, attributes := #[] }, { accessFlags := 25, nameIndex := 137, descriptorIndex := 25, attributes := #[] }, { accessFlags := 25, nameIndex := 143, descriptorIndex := 25, attributes := #[] }, { accessFlags := 25, nameIndex := 53, descriptorIndex := 25, attributes := #[] }, { accessFlags := 25, nameIndex := 24, descriptorIndex := 25, attributes := #[] }, { accessFlags := 25, nameIndex := 162, descriptorIndex := 25, attributes := #[] }, { accessFlags := 25, nameIndex := 187, descriptorIndex := 25, attributes := #[] }, { accessFlags := 26, nameIndex := 48, descriptorIndex := 25, attributes := #[] }, { accessFlags := 25, nameIndex := 277, descriptorIndex := 25, attributes := #[] }, { accessFlags := 25, nameIndex := 280, descriptorIndex := 25, attributes := #[] }, { accessFlags := 25, nameIndex := 282, descriptorIndex := 25, attributes := #[] }, { accessFlags := 25, nameIndex := 284, descriptorIndex := 25, attributes := #[] }, { accessFlags := 25, nameIndex := 286, descriptorIndex := 25, attributes := #[] }, { accessFlags := 25, nameIndex := 288, descriptorIndex := 25, attributes := #[] }, { accessFlags := 25, nameIndex := 290, descriptorIndex := 25, attributes := #[] }, { accessFlags := 25, nameIndex := 292, descriptorIndex := 25, attributes := #[] }, { accessFlags := 26, nameIndex := 108, descriptorIndex := 109, attributes := #[] }, { accessFlags := 25, nameIndex := 294, descriptorIndex := 25, attributes := #[] }])
  fields := #[{ name := "U", type := (.object "jdk/internal/misc/Unsafe"), accessFlags := 24, slot := 0, constantValue := 0 }, { name := "BIG_ENDIAN", type := .boolean, accessFlags := 26, slot := 1, constantValue := 0 }, { name := "LOG2_ARRAY_BOOLEAN_INDEX_SCALE", type := .int, accessFlags := 25, slot := 2, constantValue := 0 }, { name := "LOG2_ARRAY_BYTE_INDEX_SCALE", type := .int, accessFlags := 25, slot := 3, constantValue := 0 }, { name := "LOG2_ARRAY_CHAR_INDEX_SCALE", type := .int, accessFlags := 25, slot := 4, constantValue := 0 }, { name := "LOG2_ARRAY_SHORT_INDEX_SCALE", type := .int, accessFlags := 25, slot := 5, constantValue := 0 }, { name := "LOG2_ARRAY_INT_INDEX_SCALE", type := .int, accessFlags := 25, slot := 6, constantValue := 0 }, { name := "LOG2_ARRAY_LONG_INDEX_SCALE", type := .int, accessFlags := 25, slot := 7, constantValue := 0 }, { name := "LOG2_ARRAY_FLOAT_INDEX_SCALE", type := .int, accessFlags := 25, slot := 8, constantValue := 0 }, { name := "LOG2_ARRAY_DOUBLE_INDEX_SCALE", type := .int, accessFlags := 25, slot := 9, constantValue := 0 }, { name := "LOG2_BYTE_BIT_SIZE", type := .int, accessFlags := 26, slot := 10, constantValue := 0 }, { name := "T_BOOLEAN", type := .int, accessFlags := 25, slot := 11, constantValue := 0 }, { name := "T_CHAR", type := .int, accessFlags := 25, slot := 12, constantValue := 0 }, { name := "T_FLOAT", type := .int, accessFlags := 25, slot := 13, constantValue := 0 }, { name := "T_DOUBLE", type := .int, accessFlags := 25, slot := 14, constantValue := 0 }, { name := "T_BYTE", type := .int, accessFlags := 25, slot := 15, constantValue := 0 }, { name := "T_SHORT", type := .int, accessFlags := 25, slot := 16, constantValue := 0 }, { name := "T_INT", type := .int, accessFlags := 25, slot := 17, constantValue := 0 }, { name := "T_LONG", type := .int, accessFlags := 25, slot := 18, constantValue := 0 }, { name := "JLA", type := (.object "jdk/internal/access/JavaLangAccess"), accessFlags := 26, slot := 19, constantValue := 0 }, { name := "SOFT_MAX_ARRAY_LENGTH", type := .int, accessFlags := 25, slot := 20, constantValue := 0 }]
  methods := #[k12m0]
  instanceTypes := #[]
  staticTypes := #[(.object "jdk/internal/misc/Unsafe"), .boolean, .int, .int, .int, .int, .int, .int, .int, .int, .int, .int, .int, .int, .int, .int, .int, .int, .int, (.object "jdk/internal/access/JavaLangAccess"), .int]
  resolved := Array.replicate 378 none
  statics := none }

def pool13 : Array CpInfo := pool [(1, u "java/lang/Cloneable"), (0, .class_ 1), (0, u "java/lang/Object"), (0, .class_ 3)] 3

/-- java/lang/Cloneable -/
def k13 : Class := { plain "java/lang/Cloneable" (some 0) with
  accessFlags := 1537
  interfaces := #[]
  cf := some (fileOf pool13 2 #[] #[] 1537 4 #[] #[])
  fields := #[]
  methods := #[]
  instanceTypes := #[]
  staticTypes := #[]
  resolved := Array.replicate 8 none
  statics := none }

/-- the primitive byte -/
def k14 : Class := { plain "byte" none with kind := .primitive 'B', accessFlags := 0x411 }
/-- [B -/
def k15 : Class := { plain "[B" (some 0) with kind := .array 14 .byte, interfaces := #[13, 3], accessFlags := 1041 }

/-- the primitive int -/
def k16 : Class := { plain "int" none with kind := .primitive 'I', accessFlags := 0x411 }
/-- [I -/
def k17 : Class := { plain "[I" (some 0) with kind := .array 16 .int, interfaces := #[13, 3], accessFlags := 1041 }

def heap : Heap := #[{ cls := 8, slots := #[.long 0, .int 1, .null, .int 0, .null, .int 0, .int 0], vm := .statics 8 },
  { cls := 11, slots := #[.null, .null, .null], vm := .statics 11 }]
def classes : Array Class := #[k0, k1, k2, k3, k4, k5, k6, k7, k8, k9, k10, k11, k12, k13, k14, k15, k16, k17]
def interned : List (Array UInt16 × Addr) := []
def slotsUsed : Nat := 10
def theMethod : MethodId := ⟨1, 3⟩
def args0 : Array Value := #[.int 5, .int 7]
def aboutOver (below : List Frame) : State where
  vm := { classes := classes, interned := interned.toArray }
  heap := heap
  slotsUsed := slotsUsed
  threads := #[{ frames := .invoking theMethod args0 :: below }]
def below0 : List Frame := [.native { method := ⟨0, 0⟩, args := #[] }]
def about1 : State := aboutOver below0
def p0 : Program := .bare "" "" ""
def e0 : Env := launch0.env 0 0 0
theorem w_frames : about1.frames = Frame.invoking theMethod args0 :: below0 := rfl
set_option maxRecDepth 65536 in
theorem w_args : argsFit about1.vm theMethod args0 = true := by decide +kernel
set_option maxRecDepth 65536 in
theorem w_heap : heapFits about1 = true := by decide +kernel
set_option maxRecDepth 65536 in
theorem w_runnable : about1.curStatus? = some .runnable := by decide +kernel
set_option maxRecDepth 65536 in
theorem w_alone : about1.alone = true := by decide +kernel
set_option maxRecDepth 65536 in
theorem w_named : about1.methodNamed? x = some theMethod := by decide +kernel
set_option maxRecDepth 65536 in
theorem w_hears : about1.hears theMethod below0 = true := by decide +kernel
set_option maxRecDepth 65536 in
theorem w_ripe : about1.ripe theMethod args0 below0 = true := by decide +kernel
theorem w_running : about1.status = .running := rfl
set_option maxRecDepth 65536 in
theorem w_room : about1.hasRoom e0.platform room_1 = true :=
  launch0.hasRoom_least _ room_1 (by decide +kernel) (by decide +kernel) (by decide +kernel) (by decide +kernel) (by decide +kernel) (by decide +kernel)
theorem allAtoms_all (ts : List Jvm.Cond) (a : Array Jvm.Value) (st : Jvm.State) : (allAtoms ts).before a st = ts.all (fun c => c.before a st) := by
  induction ts with
  | nil => rfl
  | cons c t ih =>
    show (Jvm.Cond.and c (allAtoms t)).before a st = _
    rw [Jvm.Cond.before_and, ih, List.all_cons]
def words1 : List Jvm.Cond := Jvm.Cond.code x code maxLocals ret :: tables_1
/-- a 'code' word, met by the world's own term for the bytes: nothing is compared byte by byte -/
theorem code_word {y : MethodName} {bytes : ByteArray} {mx : Nat} {rt : Option FieldType} {a : Array Value} {s : State} {m : MethodId} {meth : Method} {c : Code} (h1 : s.methodNamed? y = some m) (h2 : s.vm.method? m = some meth) (h3 : meth.code = some c) (h4 : c.code = bytes)
    (h5 : (c.maxLocals == mx && c.exceptionTable.isEmpty && decide (c.maxStack ≤ mostOperands) && decide (meth.sig.returnType = rt) && !meth.locks && decide (parseMethodDescriptor y.desc = some meth.sig)) = true) : (Jvm.Cond.code y bytes mx rt).before a s = true := by
  simp only [Bool.and_eq_true, beq_iff_eq, Bool.not_eq_true', decide_eq_true_eq] at h5
  obtain ⟨⟨⟨⟨⟨g1, g2⟩, g3⟩, g4⟩, g5⟩, g6⟩ := h5
  simp [Cond.before, Cond.holds, Cond.value, h1, h2, h3, h4, g1, g2, g3, g4, g5, g6]
def isCode : Jvm.Cond → Bool
  | .code _ _ _ _ => true
  | _ => false
theorem all_split {L : List Jvm.Cond} {P : Jvm.Cond → Bool} (h1 : L.all (fun c => isCode c || P c) = true) (h2 : ∀ c ∈ L.filter isCode, P c = true) : L.all P = true := by
  refine List.all_eq_true.mpr fun c hc => ?_
  have h := List.all_eq_true.mp h1 c hc
  rcases Bool.eq_false_or_eq_true (isCode c) with hi | hi
  · exact h2 c (List.mem_filter.mpr ⟨hc, hi⟩)
  · simpa [hi] using h
set_option maxRecDepth 65536 in
theorem w_c0 : (Jvm.Cond.code x code maxLocals ret).before args0 about1 = true := code_word (m := ⟨1, 3⟩) (meth := k1m3) (c := k1c3) (by decide +kernel) rfl rfl rfl (by decide +kernel)
set_option maxRecDepth 65536 in
theorem w_c1 : (Jvm.Cond.code ({ cls := "com/example/portico/portico/core/http/HttpSyntax", name := "isTokenChar", desc := "(I)Z" } : Jvm.MethodName) prog_29_method_2_code (1 : Nat) (Option.some Jvm.ClassFile.FieldType.boolean)).before args0 about1 = true := code_word (m := ⟨2, 1⟩) (meth := k2m1) (c := k2c1) (by decide +kernel) rfl rfl rfl (by decide +kernel)
set_option maxRecDepth 65536 in
theorem w_c2 : (Jvm.Cond.code ({ cls := "java/lang/String", name := "indexOf", desc := "(I)I" } : Jvm.MethodName) jdk_42_method_79_code (2 : Nat) (Option.some Jvm.ClassFile.FieldType.int)).before args0 about1 = true := code_word (m := ⟨8, 2⟩) (meth := k8m2) (c := k8c2) (by decide +kernel) rfl rfl rfl (by decide +kernel)
set_option maxRecDepth 65536 in
theorem w_c3 : (Jvm.Cond.code ({ cls := "java/lang/String", name := "indexOf", desc := "(II)I" } : Jvm.MethodName) jdk_42_method_80_code (3 : Nat) (Option.some Jvm.ClassFile.FieldType.int)).before args0 about1 = true := code_word (m := ⟨8, 3⟩) (meth := k8m3) (c := k8c3) (by decide +kernel) rfl rfl rfl (by decide +kernel)
set_option maxRecDepth 65536 in
theorem w_c4 : (Jvm.Cond.code ({ cls := "java/lang/String", name := "isLatin1", desc := "()Z" } : Jvm.MethodName) jdk_42_method_154_code (1 : Nat) (Option.some Jvm.ClassFile.FieldType.boolean)).before args0 about1 = true := code_word (m := ⟨8, 5⟩) (meth := k8m5) (c := k8c5) (by decide +kernel) rfl rfl rfl (by decide +kernel)
set_option maxRecDepth 65536 in
theorem w_c5 : (Jvm.Cond.code ({ cls := "java/lang/String", name := "length", desc := "()I" } : Jvm.MethodName) jdk_42_method_54_code (1 : Nat) (Option.some Jvm.ClassFile.FieldType.int)).before args0 about1 = true := code_word (m := ⟨8, 1⟩) (meth := k8m1) (c := k8c1) (by decide +kernel) rfl rfl rfl (by decide +kernel)
set_option maxRecDepth 65536 in
theorem w_c6 : (Jvm.Cond.code ({ cls := "java/lang/String", name := "coder", desc := "()B" } : Jvm.MethodName) jdk_42_method_152_code (1 : Nat) (Option.some Jvm.ClassFile.FieldType.byte)).before args0 about1 = true := code_word (m := ⟨8, 4⟩) (meth := k8m4) (c := k8c4) (by decide +kernel) rfl rfl rfl (by decide +kernel)
set_option maxRecDepth 65536 in
theorem w_c7 : (Jvm.Cond.code ({ cls := "java/lang/StringLatin1", name := "indexOf", desc := "([BIII)I" } : Jvm.MethodName) jdk_43_method_22_code (4 : Nat) (Option.some Jvm.ClassFile.FieldType.int)).before args0 about1 = true := code_word (m := ⟨9, 2⟩) (meth := k9m2) (c := k9c2) (by decide +kernel) rfl rfl rfl (by decide +kernel)
set_option maxRecDepth 65536 in
theorem w_c8 : (Jvm.Cond.code ({ cls := "java/lang/StringLatin1", name := "canEncode", desc := "(I)Z" } : Jvm.MethodName) jdk_43_method_4_code (1 : Nat) (Option.some Jvm.ClassFile.FieldType.boolean)).before args0 about1 = true := code_word (m := ⟨9, 1⟩) (meth := k9m1) (c := k9c1) (by decide +kernel) rfl rfl rfl (by decide +kernel)
set_option maxRecDepth 65536 in
theorem w_c9 : (Jvm.Cond.code ({ cls := "java/lang/Math", name := "max", desc := "(II)I" } : Jvm.MethodName) jdk_29_method_65_code (2 : Nat) (Option.some Jvm.ClassFile.FieldType.int)).before args0 about1 = true := code_word (m := ⟨10, 1⟩) (meth := k10m1) (c := k10c1) (by decide +kernel) rfl rfl rfl (by decide +kernel)
set_option maxRecDepth 65536 in
theorem w_c10 : (Jvm.Cond.code ({ cls := "java/lang/Math", name := "min", desc := "(II)I" } : Jvm.MethodName) jdk_29_method_69_code (2 : Nat) (Option.some Jvm.ClassFile.FieldType.int)).before args0 about1 = true := code_word (m := ⟨10, 2⟩) (meth := k10m2) (c := k10c2) (by decide +kernel) rfl rfl rfl (by decide +kernel)
set_option maxRecDepth 65536 in
theorem w_c11 : (Jvm.Cond.code ({ cls := "java/lang/StringLatin1", name := "indexOfChar", desc := "([BIII)I" } : Jvm.MethodName) jdk_43_method_23_code (6 : Nat) (Option.some Jvm.ClassFile.FieldType.int)).before args0 about1 = true := code_word (m := ⟨9, 3⟩) (meth := k9m3) (c := k9c3) (by decide +kernel) rfl rfl rfl (by decide +kernel)
set_option maxRecDepth 65536 in
theorem w_c12 : (Jvm.Cond.code ({ cls := "com/example/portico/portico/core/http/HttpSyntaxIsTokenCharPinLaw", name := "expected", desc := "(I)Z" } : Jvm.MethodName) method_3_code (1 : Nat) (Option.some Jvm.ClassFile.FieldType.boolean)).before args0 about1 = true := code_word (m := ⟨1, 2⟩) (meth := k1m2) (c := k1c2) (by decide +kernel) rfl rfl rfl (by decide +kernel)
set_option maxRecDepth 65536 in
theorem w_c13 : (Jvm.Cond.code ({ cls := "com/example/portico/portico/core/http/HttpSyntaxIsTokenCharPinLaw", name := "isDelimiter", desc := "(I)Z" } : Jvm.MethodName) method_2_code (1 : Nat) (Option.some Jvm.ClassFile.FieldType.boolean)).before args0 about1 = true := code_word (m := ⟨1, 1⟩) (meth := k1m1) (c := k1c1) (by decide +kernel) rfl rfl rfl (by decide +kernel)
def codes1 : List Jvm.Cond := [Jvm.Cond.code x code maxLocals ret, Jvm.Cond.code ({ cls := "com/example/portico/portico/core/http/HttpSyntax", name := "isTokenChar", desc := "(I)Z" } : Jvm.MethodName) prog_29_method_2_code (1 : Nat) (Option.some Jvm.ClassFile.FieldType.boolean), Jvm.Cond.code ({ cls := "java/lang/String", name := "indexOf", desc := "(I)I" } : Jvm.MethodName) jdk_42_method_79_code (2 : Nat) (Option.some Jvm.ClassFile.FieldType.int), Jvm.Cond.code ({ cls := "java/lang/String", name := "indexOf", desc := "(II)I" } : Jvm.MethodName) jdk_42_method_80_code (3 : Nat) (Option.some Jvm.ClassFile.FieldType.int), Jvm.Cond.code ({ cls := "java/lang/String", name := "isLatin1", desc := "()Z" } : Jvm.MethodName) jdk_42_method_154_code (1 : Nat) (Option.some Jvm.ClassFile.FieldType.boolean), Jvm.Cond.code ({ cls := "java/lang/String", name := "length", desc := "()I" } : Jvm.MethodName) jdk_42_method_54_code (1 : Nat) (Option.some Jvm.ClassFile.FieldType.int), Jvm.Cond.code ({ cls := "java/lang/String", name := "coder", desc := "()B" } : Jvm.MethodName) jdk_42_method_152_code (1 : Nat) (Option.some Jvm.ClassFile.FieldType.byte), Jvm.Cond.code ({ cls := "java/lang/StringLatin1", name := "indexOf", desc := "([BIII)I" } : Jvm.MethodName) jdk_43_method_22_code (4 : Nat) (Option.some Jvm.ClassFile.FieldType.int), Jvm.Cond.code ({ cls := "java/lang/StringLatin1", name := "canEncode", desc := "(I)Z" } : Jvm.MethodName) jdk_43_method_4_code (1 : Nat) (Option.some Jvm.ClassFile.FieldType.boolean), Jvm.Cond.code ({ cls := "java/lang/Math", name := "max", desc := "(II)I" } : Jvm.MethodName) jdk_29_method_65_code (2 : Nat) (Option.some Jvm.ClassFile.FieldType.int), Jvm.Cond.code ({ cls := "java/lang/Math", name := "min", desc := "(II)I" } : Jvm.MethodName) jdk_29_method_69_code (2 : Nat) (Option.some Jvm.ClassFile.FieldType.int), Jvm.Cond.code ({ cls := "java/lang/StringLatin1", name := "indexOfChar", desc := "([BIII)I" } : Jvm.MethodName) jdk_43_method_23_code (6 : Nat) (Option.some Jvm.ClassFile.FieldType.int), Jvm.Cond.code ({ cls := "com/example/portico/portico/core/http/HttpSyntaxIsTokenCharPinLaw", name := "expected", desc := "(I)Z" } : Jvm.MethodName) method_3_code (1 : Nat) (Option.some Jvm.ClassFile.FieldType.boolean), Jvm.Cond.code ({ cls := "com/example/portico/portico/core/http/HttpSyntaxIsTokenCharPinLaw", name := "isDelimiter", desc := "(I)Z" } : Jvm.MethodName) method_2_code (1 : Nat) (Option.some Jvm.ClassFile.FieldType.boolean)]
set_option maxRecDepth 65536 in
theorem codes_eq : words1.filter isCode = codes1 := rfl
theorem w_codes : ∀ c ∈ words1.filter isCode, c.before args0 about1 = true := by
  rw [codes_eq]
  intro c hc
  simp only [codes1, List.mem_cons, List.not_mem_nil, or_false] at hc
  rcases hc with rfl | rfl | rfl | rfl | rfl | rfl | rfl | rfl | rfl | rfl | rfl | rfl | rfl | rfl
  · exact w_c0
  · exact w_c1
  · exact w_c2
  · exact w_c3
  · exact w_c4
  · exact w_c5
  · exact w_c6
  · exact w_c7
  · exact w_c8
  · exact w_c9
  · exact w_c10
  · exact w_c11
  · exact w_c12
  · exact w_c13
set_option maxRecDepth 65536 in
theorem w_t1 : (words1.take 24).all (fun c => isCode c || c.before args0 about1) = true := by decide +kernel
set_option maxRecDepth 65536 in
theorem w_t2 : ((words1.drop 24).take 24).all (fun c => isCode c || c.before args0 about1) = true := by decide +kernel
set_option maxRecDepth 65536 in
theorem w_t3 : ((words1.drop 24).drop 24).all (fun c => isCode c || c.before args0 about1) = true := by decide +kernel
theorem w_tables : (allAtoms (Jvm.Cond.code x code maxLocals ret :: tables_1)).before args0 about1 = true := by
  rw [allAtoms_all]
  show words1.all (fun c => c.before args0 about1) = true
  refine all_split ?_ w_codes
  rw [← List.take_append_drop 24 words1, List.all_append, w_t1, ← List.take_append_drop 24 (words1.drop 24), List.all_append, w_t2, w_t3]
  rfl
set_option maxRecDepth 65536 in
theorem w_rest : rest_1_c.before args0 about1 = true := by decide +kernel
set_option maxRecDepth 65536 in
theorem w_case : (Jvm.Cond.and given_1 narrow_1).before args0 about1 = true := by decide +kernel
set_option maxRecDepth 65536 in
theorem w_consts : constsHeld consts_1 about1 := Jvm.Lit.constsHeldB_iff.mp (by decide +kernel)
theorem w_applies : (headSpec (Jvm.Cond.code x code maxLocals ret :: tables_1) room_1).applies x e0.platform about1 = true :=
  (Spec.applies_iff w_frames).mpr ⟨w_running, w_runnable, w_alone, w_named, w_hears, w_ripe, w_room, w_tables⟩
theorem atStart : AtStart classFile x code maxLocals ret World_1 tables_1 room_1 Calls_1 rest_1 Pre_1 launch0 p0 e0 about1 theMethod args0 below0 :=
  ⟨lists_1, trivial, launch0.admits_env _ _ _, launch0.least_env, fairChoices_fair.cas, fairChoices_fair.clock, w_frames, w_args, w_heap, w_applies, ⟨w_consts, trivial⟩, w_rest, w_case⟩
end start1
theorem witness_1 : WitnessClaimed_1 := ⟨start1.p0, start1.e0, start1.about1, start1.theMethod, start1.args0, start1.below0, start1.atStart⟩
end Jvm.Pilot.@@N@@
