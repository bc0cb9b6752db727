import JvmDerived
import JvmDerived.Pilot.@@N@@Statement
import JvmDerived.Pilot.@@N@@Code
set_option linter.unusedVariables false
set_option linter.unusedSimpArgs false
namespace Jvm.Pilot.@@N@@
open Jvm Jvm.ClassFile Sem Op Lib Jvm.Free Jvm.Stand Jvm.LawKit Jvm.RoadKit Bundle Jvm.Pilot.@@N@@.Jvm.D
/-! THE OWN KIT: the walk from a state to its end, as one proposition (own_Go); its steps, its leaves, its entry. -/
section OwnKit
variable {p : Program} {l : Launch} {e : Env} {R : Room} {s : State} {m : MethodId} {args : Array Value} {below : List Frame} {meth : Method} {c : Code} {T : State} {locs : List Loc} {cells slots : Nat}
variable {Q : Option Value → Heap → List Loc → Prop} {rc rs : Nat}
/-- from U the run ends in a return, and Q says what it leaves -/
def own_Go (p : Program) (e : Env) (below : List Frame) (s : State) (Q : Option Value → Heap → List Loc → Prop) (rc rs : Nat) (U : State) : Prop :=
  ∃ s₂ o, Steps p.tables e below U s₂ ∧ s₂.status = .running ∧ Ended s₂ below o ∧ ∃ v L, o = .returned v ∧ Q v s₂.heap L ∧ FrameEnd s o s₂ L rc rs
theorem own_by {A B : State} (k : ∀ t, Steps p.tables e below B t → Steps p.tables e below A t) (h : own_Go p e below s Q rc rs B) : own_Go p e below s Q rc rs A := by
  obtain ⟨s₂, o, h1, r⟩ := h
  exact ⟨s₂, o, k _ h1, r⟩
theorem own_imp {Q' : Option Value → Heap → List Loc → Prop} {A : State} (k : ∀ v h L, Q v h L → Q' v h L) (h : own_Go p e below s Q rc rs A) : own_Go p e below s Q' rc rs A := by
  obtain ⟨s₂, o, h1, h2, h3, v, L, h4, h5, h6⟩ := h
  exact ⟨s₂, o, h1, h2, h3, v, L, h4, k _ _ _ h5, h6⟩
theorem own_leave (X : Stand p l e R s m args below meth c T locs cells slots) (hlk : meth.locks = false) {v : Option Value} (hv : meth.sig.returnType = none → v = none) {U : State}
    (hst : ∀ fs, (∀ (f : JFrame) (acts : List Action), f.method = m → f.locked = none → f.entered = [] → (doReturn e (T.setTop f) acts v).1 = T.setFrames fs) → Steps p.tables e below U (T.setFrames fs))
    (hq : Q v T.heap locs) (hc : cells ≤ rc) (hs : slots ≤ rs) : own_Go p e below s Q rc rs U := by
  obtain ⟨fs, hr, hrun, hended, hW, hsame⟩ := X.leave (v := v) hv hlk
  exact ⟨_, _, hst fs hr, hrun, hended, _, _, rfl, hq, ⟨_, rfl⟩, hW, hsame.mono hc hs⟩
theorem own_ret (X : Stand p l e R s m args below meth c T locs cells slots) (hx : p.tables.exec = Jvm.exec) (hlk : meth.locks = false) (hret : meth.sig.returnType = none) {pc : Nat} {Ls : Array Slot} (hd : decode c.code pc = .ok (.return_, 1))
    (hq : Q none T.heap locs) (hc : cells ≤ rc) (hs : slots ≤ rs) : own_Go p e below s Q rc rs (T.setTop (mkF m pc Ls [])) :=
  own_leave X hlk (fun _ => rfl) (fun _ hr => X.returnOut hx hret hd hr) hq hc hs
theorem own_retI (X : Stand p l e R s m args below meth c T locs cells slots) (hx : p.tables.exec = Jvm.exec) (hlk : meth.locks = false) (hret : meth.sig.returnType = some .int) {pc : Nat} {Ls : Array Slot} {z : Int32} (hd : decode c.code pc = .ok (.ireturn, 1))
    (hq : Q (some (.int z)) T.heap locs) (hc : cells ≤ rc) (hs : slots ≤ rs) : own_Go p e below s Q rc rs (T.setTop (mkF m pc Ls [.int z])) :=
  own_leave X hlk (fun h => by rw [hret] at h; cases h) (fun _ hr => X.ireturnOut hx hret rfl (Or.inl rfl) hd hr) hq hc hs
theorem own_retN {t : FieldType} (ht : t = .boolean ∨ t = .byte ∨ t = .char ∨ t = .short) (X : Stand p l e R s m args below meth c T locs cells slots) (hx : p.tables.exec = Jvm.exec) (hlk : meth.locks = false) (hret : meth.sig.returnType = some t) {pc : Nat} {Ls : Array Slot} {z z' : Int32} (hn : nar t z = z') (hd : decode c.code pc = .ok (.ireturn, 1))
    (hq : Q (some (.int z')) T.heap locs) (hc : cells ≤ rc) (hs : slots ≤ rs) : own_Go p e below s Q rc rs (T.setTop (mkF m pc Ls [.int z])) := by
  subst hn
  exact own_leave X hlk (fun h => by rw [hret] at h; cases h) (fun _ hr => retN X hx hret ht hd hr) hq hc hs
theorem own_retJ (X : Stand p l e R s m args below meth c T locs cells slots) (hx : p.tables.exec = Jvm.exec) (hlk : meth.locks = false) (hret : meth.sig.returnType = some .long) {pc : Nat} {Ls : Array Slot} {z : Int64} (hd : decode c.code pc = .ok (.lreturn, 1))
    (hq : Q (some (.long z)) T.heap locs) (hc : cells ≤ rc) (hs : slots ≤ rs) : own_Go p e below s Q rc rs (T.setTop (mkF m pc Ls [.long z])) :=
  own_leave X hlk (fun h => by rw [hret] at h; cases h) (fun _ hr => X.lreturnOut hx hret hd hr) hq hc hs
theorem own_retA {t : FieldType} (ht : t.isReference = true) (X : Stand p l e R s m args below meth c T locs cells slots) (hx : p.tables.exec = Jvm.exec) (hlk : meth.locks = false) (hret : meth.sig.returnType = some t) {pc : Nat} {Ls : Array Slot} {a : Addr} (hd : decode c.code pc = .ok (.areturn, 1))
    (hq : Q (some (.ref a)) T.heap locs) (hc : cells ≤ rc) (hs : slots ≤ rs) : own_Go p e below s Q rc rs (T.setTop (mkF m pc Ls [.ref a])) :=
  own_leave X hlk (fun h => by rw [hret] at h; cases h) (fun _ hr => X.areturnOut hx rfl hret ht hd hr) hq hc hs
/-- a body's contract out of its walk -/
theorem own_met {y : MethodName} {bytes : ByteArray} {maxL : Nat} {ret : Option FieldType} {ws : List Jvm.Cond} {rm : Room} {as' : Array Value} {Z : State} {h0 : Heap} (hpl : plainFor y = true)
    (body : ∀ (p : Program) (e : Env) (s : State) (m : MethodId) (below : List Frame) (meth : Method) (c : Code) (T : State), Stand p l e rm s m as' below meth c T [] 0 0 → p.tables.exec = Jvm.exec → c.code = bytes → c.maxLocals = maxL → meth.sig.returnType = ret → meth.locks = false →
      Z.Warmed39 s.vm → s.vm.findClass y.cls = some m.cls → meth.name = y.name → T.heap = h0 → own_Go p e below s Q rc rs (T.setTop (entryFrame m as' maxL))) :
    MetFree l y (head1 (Jvm.Cond.code y bytes maxL ret :: ws) rm) (fun a U => a = as' ∧ Z.Warmed39 U.vm ∧ U.heap = h0) (fun _ _ _ _ _ => True) (fun _ U o U' => ∃ v L, o = .returned v ∧ Q v U'.heap L ∧ FrameEnd U o U' L rc rs) := by
  refine MetFree.of_bodySF hpl hisR ?_
  intro p e s m args below meth c s₁ Bd hml0 hP hK
  obtain ⟨rfl, hZ, hh⟩ := hP
  exact body p e s m below meth c s₁ (Stand.of_body Bd) Bd.exec Bd.bytes hml0 Bd.returns (BodyLoose.notSynchronized Bd) hZ (findClass_of_methodNamed Bd.named) (name_of_methodNamed Bd.named Bd.method).1 (by rw [← hh, Bd.state]; rfl)
theorem own_cast {g g' : JFrame} (q : g = g') (k : own_Go p e below s Q rc rs (T.setTop g')) : own_Go p e below s Q rc rs (T.setTop g) := q ▸ k
/-- what a body that writes nothing leaves -/
def own_Qp (r : Option Value) (h0 : Heap) (v : Option Value) (h : Heap) (L : List Loc) : Prop := v = r ∧ L = [] ∧ h = h0
theorem own_selPriv {a1 a2 : Array Value} {y y' z' : MethodName} {C : String} (h : (Jvm.Cond.selects C y' z').before a1 s = true) (hz : z'.cls = y.cls) (hpriv : s.PrivateAt y) (hinst : (Jvm.Cond.instanceMethod y).before a2 s = true) (hy : y.cls ≠ "java/lang/invoke/MethodHandle" ∧ y.cls ≠ "java/lang/invoke/VarHandle") : (Jvm.Cond.selects y.cls y y).before a2 s = true := by
  obtain ⟨_, _, m2, -, -, q3, -, kP, hkP, hkPi⟩ := Cond.selects_spec h
  exact selects_self_of_private (by rw [← hz]; exact findClass_of_methodNamed q3) hkP hkPi hpriv hinst hy
end OwnKit
/-! arrays of ints (bytes, booleans) by a function from places to values -/
section OwnArr
variable {Z : State} {h h' : Heap} {a b : Addr} {ty : FieldType} {n : Nat} {f : Nat → Int32} {sl : Nat} {v : Value} {ws : List Addr}
def own_BA (Z : State) (h : Heap) (a : Addr) (ty : FieldType) (n : Nat) (f : Nat → Int32) : Prop := ∃ c : Cell, Arr Z h a c ty ∧ c.slots.size = n ∧ ∀ i, i < n → c.slots[i]? = some (.int (f i))
def own_up (f : Nat → Int32) (j : Nat) (x : Int32) (i : Nat) : Int32 := if i = j then x else f i
theorem own_BA.lt (F : own_BA Z h a ty n f) : a < h.size := by obtain ⟨c, A, -⟩ := F; exact A.lt
theorem own_BA.ext (F : own_BA Z h a ty n f) (E : Ext h h') : own_BA Z h' a ty n f := by obtain ⟨c, A, r⟩ := F; exact ⟨c, A.ext E, r⟩
theorem own_BA.other (F : own_BA Z h a ty n f) (W : Wr h h' b sl v) (q : a ≠ b) : own_BA Z h' a ty n f := by obtain ⟨c, A, r⟩ := F; exact ⟨c, A.other W q, r⟩
theorem own_BA.keep (F : own_BA Z h a ty n f) (K : Keep h h' ws) (q : a ∉ ws) : own_BA Z h' a ty n f := by obtain ⟨c, A, r⟩ := F; exact ⟨c, ⟨K.2.1 a c A.1 q, A.2⟩, r⟩
theorem own_BA.new {k : ClassId} {z : Int32} (A : Arr Z h a (newA k ty z) ty) (hz : z.toNatClampNeg = n) (hd : defaultValue ty = .int 0) : own_BA Z h a ty n (fun _ => 0) := by
  refine ⟨_, A, by rw [sz_new, hz], fun i hi => ?_⟩
  simp only [newA, hd, hz]
  rw [Array.getElem?_replicate, if_pos hi]
theorem own_BA.same {j : Nat} {x : Int32} (F : own_BA Z h a ty n f) (W : Wr h h' a j (.int x)) : own_BA Z h' a ty n (own_up f j x) := by
  obtain ⟨c, A, S, H⟩ := F
  refine ⟨_, A.same W, by rw [sz_set]; exact S, fun i hi => ?_⟩
  have hs : i < c.slots.size := by rw [S]; exact hi
  show (c.slots.setIfInBounds j (.int x))[i]? = _
  by_cases q : i = j
  · subst q
    rw [Array.getElem?_setIfInBounds_self_of_lt hs]
    simp [own_up]
  · rw [Array.getElem?_setIfInBounds_ne (Ne.symm q), H i hi]
    simp [own_up, q]
theorem own_BA.cong {g : Nat → Int32} (F : own_BA Z h a ty n f) (q : ∀ i, i < n → f i = g i) : own_BA Z h a ty n g := by
  obtain ⟨c, A, S, H⟩ := F
  exact ⟨c, A, S, fun i hi => by rw [H i hi, q i hi]⟩
theorem own_in {c : Cell} {j : Int32} (S : c.slots.size = n) (q : ¬ j < 0 ∧ j.toNatClampNeg < n) : ¬ (j < 0 ∨ c.slots.size ≤ j.toNatClampNeg) := by
  rw [S]; exact fun z => z.elim q.1 (fun y => absurd q.2 (Nat.not_lt.mpr y))
theorem own_lt {c : Cell} {j : Int32} (S : c.slots.size = n) (q : ¬ (j < 0 ∨ c.slots.size ≤ j.toNatClampNeg)) : j.toNatClampNeg < n := by
  rw [S] at q; exact Nat.lt_of_not_le fun y => q (Or.inr y)
end OwnArr
theorem pd_0 : parseMethodDescriptor "()V" = some ⟨[], none⟩ := by decide +kernel
theorem pd_1 : parseMethodDescriptor "(Lcom/example/myriad_paths/myriadpaths/DocumentMemory;)V" = some ⟨[(.object "com/example/myriad_paths/myriadpaths/DocumentMemory")], none⟩ := by decide +kernel
theorem pd_2 : parseMethodDescriptor "(II)I" = some ⟨[.int, .int], some .int⟩ := by decide +kernel
theorem pd_3 : parseMethodDescriptor "(J)V" = some ⟨[.long], none⟩ := by decide +kernel
theorem pd_4 : parseMethodDescriptor "()Lcom/example/myriad_paths/myriadpaths/DocumentMemory$Share;" = some ⟨[], some (.object "com/example/myriad_paths/myriadpaths/DocumentMemory$Share")⟩ := by decide +kernel
theorem pd_5 : parseMethodDescriptor "(Lcom/example/myriad_paths/myriadpaths/DocumentMemory$Share;)V" = some ⟨[(.object "com/example/myriad_paths/myriadpaths/DocumentMemory$Share")], none⟩ := by decide +kernel
theorem pd_6 : parseMethodDescriptor "(I)I" = some ⟨[.int], some .int⟩ := by decide +kernel
theorem pd_7 : parseMethodDescriptor "(IZ)V" = some ⟨[.int, .boolean], none⟩ := by decide +kernel
theorem pd_8 : parseMethodDescriptor "(I)Z" = some ⟨[.int], some .boolean⟩ := by decide +kernel
theorem d4_0 : decode jdk_18_method_1_code 0 = .ok (.aload_n 0, 1) := by decide +kernel
theorem d4_1 : decode jdk_18_method_1_code 1 = .ok (.invokespecial 1, 3) := by decide +kernel
theorem d4_4 : decode jdk_18_method_1_code 4 = .ok (.return_, 1) := by decide +kernel
theorem pn_4 : plainName "java/lang/Number" = true := by first | (simp [plainName, overriddenIn]; done) | decide +kernel
theorem ef_4 (m : MethodId) (x0 : Addr) : entryFrame m #[(.ref x0)] 1 = mkF m 0 #[.val (.ref x0)] [] := by first | (simp [entryFrame, mkF, argsToLocals, Value.category]; done) | rfl
def own_Q4 (Z : State) (a : Addr) (h0 : Heap) (n0 : Nat) (v : Option Value) (h : Heap) (L : List Loc) : Prop := v = none ∧ Fr n0 L ∧ Keep h0 h []
set_option maxRecDepth 65536 in
set_option maxHeartbeats 40000000 in
theorem rm4 (l : Launch) (Z : State) (a0 : Array Value) (hw : ∀ d ∈ tables_1, d.before a0 Z = true) (ws : List Jvm.Cond) (a : Addr)  (h0 : Heap) (n0 : Nat) (Z0 : n0 ≤ h0.size)     :
    MetFree l (⟨"java/lang/Number", "<init>", "()V"⟩ : MethodName) (head1 (Jvm.Cond.code (⟨"java/lang/Number", "<init>", "()V"⟩ : MethodName) jdk_18_method_1_code 1 none :: ws) ({ frames := 1, cells := 0, slots := 0, locals := 12 } : Room)) (fun aa U => aa = #[(.ref a)] ∧ Z.Warmed39 U.vm ∧ U.heap = h0) (fun _ _ _ _ _ => True) (fun _ U o U' => ∃ v L, o = .returned v ∧ own_Q4 Z a h0 n0 v U'.heap L ∧ FrameEnd U o U' L ({ frames := 1, cells := 0, slots := 0, locals := 12 } : Room).cells ({ frames := 1, cells := 0, slots := 0, locals := 12 } : Room).slots) := by
  refine own_met (plainFor_of_name pn_4) fun p e s m below meth c T0 X0 hx hby hml hret hlk hZ hown hnm e0 => ?_
  refine own_cast (ef_4 m a) ?_
  have NF := Fr.nil n0
  have Zs := Z0
  have K := Keep.refl h0 []
  refine own_by (B := T0.setTop (mkF m 1 #[.val (.ref a)] [(.ref a)])) (fun t k => XS.aloadN X0.here hx rfl (hb hby d4_0) rfl rfl k) ?_
  obtain ⟨T1, X1, e1, st1⟩ := initO X0 hx hZ hown (hw _ (List.mem_of_getElem? (i := 22) rfl)) (hw _ (List.mem_of_getElem? (i := 8) rfl)) (hw _ (List.mem_of_getElem? (i := 9) rfl)) e0 (g := (mkF m 1 #[.val (.ref a)] [(.ref a)])) rfl (by rw [hml]; rfl) rfl (hb hby d4_1) (by decide) (W := 0) (by show 2 * 0 + _ ≤ _; exact Nat.le_of_eq rfl) (by decide)
  refine own_by (B := T1.setTop (mkF m 4 #[.val (.ref a)] [])) (fun t k => st1 _ k) ?_
  exact own_ret X1 hx hlk hret (hb hby d4_4) (by show own_Q4 Z a h0 n0 _ _ _; rw [e1]; exact ⟨rfl, NF, K⟩) (by decide) (by decide)
theorem d3_0 : decode jdk_2805_method_3_code 0 = .ok (.aload_n 0, 1) := by decide +kernel
theorem d3_1 : decode jdk_2805_method_3_code 1 = .ok (.invokespecial 1, 3) := by decide +kernel
theorem d3_4 : decode jdk_2805_method_3_code 4 = .ok (.return_, 1) := by decide +kernel
theorem pn_3 : plainName "java/util/concurrent/atomic/AtomicLong" = true := by first | (simp [plainName, overriddenIn]; done) | decide +kernel
theorem ef_3 (m : MethodId) (x0 : Addr) : entryFrame m #[(.ref x0)] 1 = mkF m 0 #[.val (.ref x0)] [] := by first | (simp [entryFrame, mkF, argsToLocals, Value.category]; done) | rfl
def own_Q3 (Z : State) (a : Addr) (h0 : Heap) (n0 : Nat) (v : Option Value) (h : Heap) (L : List Loc) : Prop := v = none ∧ Fr n0 L ∧ Keep h0 h []
set_option maxRecDepth 65536 in
set_option maxHeartbeats 40000000 in
theorem rm3 (l : Launch) (Z : State) (a0 : Array Value) (hw : ∀ d ∈ tables_1, d.before a0 Z = true) (ws : List Jvm.Cond) (a : Addr)  (h0 : Heap) (n0 : Nat) (Z0 : n0 ≤ h0.size)     :
    MetFree l (⟨"java/util/concurrent/atomic/AtomicLong", "<init>", "()V"⟩ : MethodName) (head1 (Jvm.Cond.code (⟨"java/util/concurrent/atomic/AtomicLong", "<init>", "()V"⟩ : MethodName) jdk_2805_method_3_code 1 none :: ws) ({ frames := 2, cells := 0, slots := 0, locals := 24 } : Room)) (fun aa U => aa = #[(.ref a)] ∧ Z.Warmed39 U.vm ∧ U.heap = h0) (fun _ _ _ _ _ => True) (fun _ U o U' => ∃ v L, o = .returned v ∧ own_Q3 Z a h0 n0 v U'.heap L ∧ FrameEnd U o U' L ({ frames := 2, cells := 0, slots := 0, locals := 24 } : Room).cells ({ frames := 2, cells := 0, slots := 0, locals := 24 } : Room).slots) := by
  refine own_met (plainFor_of_name pn_3) fun p e s m below meth c T0 X0 hx hby hml hret hlk hZ hown hnm e0 => ?_
  refine own_cast (ef_3 m a) ?_
  have NF := Fr.nil n0
  have Zs := Z0
  have K := Keep.refl h0 []
  refine own_by (B := T0.setTop (mkF m 1 #[.val (.ref a)] [(.ref a)])) (fun t k => XS.aloadN X0.here hx rfl (hb hby d3_0) rfl rfl k) ?_
  obtain ⟨v1, _, ⟨T1, L1, c1, n1⟩, -, X1, ⟨Lc1, hQ1, l1, y1, z1⟩, st1⟩ := X0.specialBack hx (y := (⟨"java/lang/Number", "<init>", "()V"⟩ : MethodName)) rfl hown (mvT hZ (hw _ (List.mem_of_getElem? (i := 16) rfl))) (mvT hZ (hw _ (List.mem_of_getElem? (i := 17) rfl))) (mvT hZ (hw _ (List.mem_of_getElem? (i := 21) rfl))) (by decide) (backOf (W := 0) (rm4 l Z a0 hw [] a  h0 n0 Zs    ) hZ (hw _ (List.mem_of_getElem? (i := 21) rfl)) (hw _ (List.mem_of_getElem? (i := 20) rfl)) (by decide) (by decide)) (g := (mkF m 1 #[.val (.ref a)] [(.ref a)])) rfl (by rw [hml]; rfl) (Steps.refl _) (a := a) (argsL := []) (rest := []) (lenOf pd_0 rfl) rfl (by show 2 * 0 + _ ≤ _; exact Nat.le_of_eq rfl) (hb hby d3_1) (fun _ _ => ⟨rfl, e0, (by decide : 0 + 0 ≤ _), (by decide : 0 + 0 ≤ _)⟩)
  dsimp only [Pt.U, Pt.locs, Pt.cells, Pt.slots] at X1 l1 y1 z1 st1 hQ1
  subst l1 y1 z1
  obtain ⟨rfl, Nq1, Kq1⟩ := hQ1
  have NF := Fr.app NF Nq1
  replace Zs : n0 ≤ T1.heap.size := Nat.le_trans Zs Kq1.1
  replace K : Keep h0 T1.heap [] := K.trans Kq1 all0
  refine own_by (B := T1.setTop (mkF m 4 #[.val (.ref a)] [])) (fun t k => st1.trans k) ?_
  exact own_ret X1 hx hlk hret (hb hby d3_4) (by show own_Q3 Z a h0 n0 _ _ _; exact ⟨rfl, NF, K⟩) (by decide) (by decide)
theorem d1_0 : decode prog_36_method_1_code 0 = .ok (.aload_n 0, 1) := by decide +kernel
theorem d1_1 : decode prog_36_method_1_code 1 = .ok (.invokespecial 3, 3) := by decide +kernel
theorem d1_4 : decode prog_36_method_1_code 4 = .ok (.aload_n 0, 1) := by decide +kernel
theorem d1_5 : decode prog_36_method_1_code 5 = .ok (.new 9, 3) := by decide +kernel
theorem d1_8 : decode prog_36_method_1_code 8 = .ok (.dup, 1) := by decide +kernel
theorem d1_9 : decode prog_36_method_1_code 9 = .ok (.invokespecial 11, 3) := by decide +kernel
theorem d1_12 : decode prog_36_method_1_code 12 = .ok (.putfield 12, 3) := by decide +kernel
theorem d1_15 : decode prog_36_method_1_code 15 = .ok (.aload_n 0, 1) := by decide +kernel
theorem d1_16 : decode prog_36_method_1_code 16 = .ok (.lload_n 1, 1) := by decide +kernel
theorem d1_17 : decode prog_36_method_1_code 17 = .ok (.putfield 18, 3) := by decide +kernel
theorem d1_20 : decode prog_36_method_1_code 20 = .ok (.return_, 1) := by decide +kernel
theorem pn_1 : plainName "com/example/myriad_paths/myriadpaths/DocumentMemory" = true := by first | (simp [plainName, overriddenIn]; done) | decide +kernel
theorem ef_1 (m : MethodId) (x0 : Addr) (x1 : Int64) : entryFrame m #[(.ref x0), (.long x1)] 3 = mkF m 0 #[.val (.ref x0), .val (.long x1), .second] [] := by first | (simp [entryFrame, mkF, argsToLocals, Value.category]; done) | rfl
def own_Q1 (Z : State) (a : Addr) (x1 : Int64) (h0 : Heap) (n0 : Nat) (v : Option Value) (h : Heap) (L : List Loc) : Prop := v = none ∧ Fr n0 L ∧ Keep h0 h [a] ∧ Exa Z h a "com/example/myriad_paths/myriadpaths/DocumentMemory"
set_option maxRecDepth 65536 in
set_option maxHeartbeats 40000000 in
theorem rm1 (l : Launch) (Z : State) (a0 : Array Value) (hw : ∀ d ∈ tables_1, d.before a0 Z = true) (ws : List Jvm.Cond) (a : Addr) (x1 : Int64)  (h0 : Heap) (n0 : Nat) (Z0 : n0 ≤ h0.size) (F_held_a : Fld Z h0 a "com/example/myriad_paths/myriadpaths/DocumentMemory" "held" "Ljava/util/concurrent/atomic/AtomicLong;" .null) (F_limit_a : Fld Z h0 a "com/example/myriad_paths/myriadpaths/DocumentMemory" "limit" "J" (.long (0 : Int64))) (E_a : Exa Z h0 a "com/example/myriad_paths/myriadpaths/DocumentMemory") (g_a : n0 ≤ a)   :
    MetFree l (⟨"com/example/myriad_paths/myriadpaths/DocumentMemory", "<init>", "(J)V"⟩ : MethodName) (head1 (Jvm.Cond.code (⟨"com/example/myriad_paths/myriadpaths/DocumentMemory", "<init>", "(J)V"⟩ : MethodName) prog_36_method_1_code 3 none :: ws) ({ frames := 3, cells := 1, slots := 1, locals := 38 } : Room)) (fun aa U => aa = #[(.ref a), (.long x1)] ∧ Z.Warmed39 U.vm ∧ U.heap = h0) (fun _ _ _ _ _ => True) (fun _ U o U' => ∃ v L, o = .returned v ∧ own_Q1 Z a x1 h0 n0 v U'.heap L ∧ FrameEnd U o U' L ({ frames := 3, cells := 1, slots := 1, locals := 38 } : Room).cells ({ frames := 3, cells := 1, slots := 1, locals := 38 } : Room).slots) := by
  refine own_met (plainFor_of_name pn_1) fun p e s m below meth c T0 X0 hx hby hml hret hlk hZ hown hnm e0 => ?_
  refine own_cast (ef_1 m a x1) ?_
  have NF := Fr.nil n0
  have Zs := Z0
  have K := Keep.refl h0 [a]
  refine own_by (B := T0.setTop (mkF m 1 #[.val (.ref a), .val (.long x1), .second] [(.ref a)])) (fun t k => XS.aloadN X0.here hx rfl (hb hby d1_0) rfl rfl k) ?_
  obtain ⟨T1, X1, e1, st1⟩ := initO X0 hx hZ hown (hw _ (List.mem_of_getElem? (i := 7) rfl)) (hw _ (List.mem_of_getElem? (i := 8) rfl)) (hw _ (List.mem_of_getElem? (i := 9) rfl)) e0 (g := (mkF m 1 #[.val (.ref a), .val (.long x1), .second] [(.ref a)])) rfl (by rw [hml]; rfl) rfl (hb hby d1_1) (by decide) (W := 0) (by show 2 * 0 + _ ≤ _; exact Nat.le_of_eq rfl) (by decide)
  refine own_by (B := T1.setTop (mkF m 4 #[.val (.ref a), .val (.long x1), .second] [])) (fun t k => st1 _ k) ?_
  refine own_by (B := T1.setTop (mkF m 5 #[.val (.ref a), .val (.long x1), .second] [(.ref a)])) (fun t k => XS.aloadN X1.here hx rfl (hb hby d1_4) rfl rfl k) ?_
  obtain ⟨T2, h2, X2, e2, E2, A2, D2, -, st2⟩ := newO X1 hx hZ hown (hw _ (List.mem_of_getElem? (i := 10) rfl)) (hw _ (List.mem_of_getElem? (i := 11) rfl)) (hw _ (List.mem_of_getElem? (i := 12) rfl)) e1 (g := (mkF m 5 #[.val (.ref a), .val (.long x1), .second] [(.ref a)])) rfl (hb hby d1_5) (by decide) (by decide)
  obtain ⟨b2, g2⟩ : ∃ z, z = h0.size := ⟨_, rfl⟩
  rw [← g2] at A2 D2 st2
  have g_b2 : n0 ≤ b2 := Nat.le_trans Zs (Nat.le_of_eq g2.symm)
  have sz_b2 : h0.size ≤ b2 := Nat.le_trans K.1 (Nat.le_of_eq g2.symm)
  have ne_a_b2 : a ≠ b2 := Nat.ne_of_lt (Nat.lt_of_lt_of_le F_held_a.lt (Nat.le_of_eq g2.symm))
  replace F_held_a : Fld Z h2 a "com/example/myriad_paths/myriadpaths/DocumentMemory" "held" "Ljava/util/concurrent/atomic/AtomicLong;" .null := F_held_a.ext E2
  replace F_limit_a : Fld Z h2 a "com/example/myriad_paths/myriadpaths/DocumentMemory" "limit" "J" (.long (0 : Int64)) := F_limit_a.ext E2
  replace E_a : Exa Z h2 a "com/example/myriad_paths/myriadpaths/DocumentMemory" := E_a.ext E2
  replace Zs : n0 ≤ h2.size := Nat.le_trans Zs E2.1
  replace K : Keep h0 h2 [a] := K.ext E2
  have E_b2 : Exa Z h2 b2 "java/util/concurrent/atomic/AtomicLong" := A2
  refine own_by (B := T2.setTop (mkF m 8 #[.val (.ref a), .val (.long x1), .second] [(.ref b2), (.ref a)])) (fun t k => st2 _ k) ?_
  refine own_by (B := T2.setTop (mkF m 9 #[.val (.ref a), .val (.long x1), .second] [(.ref b2), (.ref b2), (.ref a)])) (fun t k => XS.dup X2.here hx rfl (hb hby d1_8) rfl rfl k) ?_
  obtain ⟨v3, _, ⟨T3, L3, c3, n3⟩, -, X3, ⟨Lc3, hQ3, l3, y3, z3⟩, st3⟩ := X2.specialBack hx (y := (⟨"java/util/concurrent/atomic/AtomicLong", "<init>", "()V"⟩ : MethodName)) rfl hown (mvT hZ (hw _ (List.mem_of_getElem? (i := 13) rfl))) (mvT hZ (hw _ (List.mem_of_getElem? (i := 14) rfl))) (mvT hZ (hw _ (List.mem_of_getElem? (i := 15) rfl))) (by decide) (backOf (W := 2) (rm3 l Z a0 hw [] b2  h2 n0 Zs    ) hZ (hw _ (List.mem_of_getElem? (i := 15) rfl)) (hw _ (List.mem_of_getElem? (i := 12) rfl)) (by decide) (by decide)) (g := (mkF m 9 #[.val (.ref a), .val (.long x1), .second] [(.ref b2), (.ref b2), (.ref a)])) rfl (by rw [hml]; rfl) (Steps.refl _) (a := b2) (argsL := []) (rest := [(.ref b2), (.ref a)]) (lenOf pd_0 rfl) rfl (by show 2 * 0 + _ ≤ _; exact Nat.le_of_eq rfl) (hb hby d1_9) (fun _ _ => ⟨rfl, e2, (by decide : 1 + 0 ≤ _), (by decide : 1 + 0 ≤ _)⟩)
  dsimp only [Pt.U, Pt.locs, Pt.cells, Pt.slots] at X3 l3 y3 z3 st3 hQ3
  subst l3 y3 z3
  obtain ⟨rfl, Nq3, Kq3⟩ := hQ3
  have NF := Fr.app NF Nq3
  replace F_held_a : Fld Z T3.heap a "com/example/myriad_paths/myriadpaths/DocumentMemory" "held" "Ljava/util/concurrent/atomic/AtomicLong;" .null := F_held_a.keep Kq3 nin0
  replace F_limit_a : Fld Z T3.heap a "com/example/myriad_paths/myriadpaths/DocumentMemory" "limit" "J" (.long (0 : Int64)) := F_limit_a.keep Kq3 nin0
  replace E_a : Exa Z T3.heap a "com/example/myriad_paths/myriadpaths/DocumentMemory" := E_a.keep Kq3
  replace E_b2 : Exa Z T3.heap b2 "java/util/concurrent/atomic/AtomicLong" := E_b2.keep Kq3
  replace Zs : n0 ≤ T3.heap.size := Nat.le_trans Zs Kq3.1
  replace K : Keep h0 T3.heap [a] := K.trans Kq3 all0
  refine own_by (B := T3.setTop (mkF m 12 #[.val (.ref a), .val (.long x1), .second] [(.ref b2), (.ref a)])) (fun t k => st3.trans k) ?_
  obtain ⟨T4, h4, X4, e4, W4, st4⟩ := putF X3 hx hZ hown (host := "") (Or.inl (hw _ (List.mem_of_getElem? (i := 23) rfl))) Via.refl rfl F_held_a E_a (Or.inr ⟨(hw _ (List.mem_of_getElem? (i := 24) rfl)), rfl, hnm⟩) (hw _ (List.mem_of_getElem? (i := 1) rfl)) (ty := (.object "java/util/concurrent/atomic/AtomicLong")) (by decide) rfl rfl (g := (mkF m 12 #[.val (.ref a), .val (.long x1), .second] [(.ref b2), (.ref a)])) rfl rfl (hb hby d1_12)
  replace F_held_a : Fld Z h4 a "com/example/myriad_paths/myriadpaths/DocumentMemory" "held" "Ljava/util/concurrent/atomic/AtomicLong;" (.ref b2) := F_held_a.same W4
  replace F_limit_a : Fld Z h4 a "com/example/myriad_paths/myriadpaths/DocumentMemory" "limit" "J" (.long (0 : Int64)) := F_limit_a.other W4 (Or.inr (slot_ne (Or.inr (hw _ (List.mem_of_getElem? (i := 26) rfl))) (Or.inr (hw _ (List.mem_of_getElem? (i := 24) rfl))) (by decide) (t := .long) (t' := (.object "java/util/concurrent/atomic/AtomicLong")) (by decide) (by decide)))
  replace E_a : Exa Z h4 a "com/example/myriad_paths/myriadpaths/DocumentMemory" := E_a.wr W4
  replace E_b2 : Exa Z h4 b2 "java/util/concurrent/atomic/AtomicLong" := E_b2.wr W4
  replace Zs : n0 ≤ h4.size := by rw [W4.size]; exact Zs
  replace K : Keep h0 h4 [a] := K.wr W4 (Or.inl (List.mem_of_getElem? (i := 0) rfl))
  have NF := Fr.snoc X4 NF g_a
  refine own_by (B := T4.setTop (mkF m 15 #[.val (.ref a), .val (.long x1), .second] [])) (fun t k => st4 _ k) ?_
  refine own_by (B := T4.setTop (mkF m 16 #[.val (.ref a), .val (.long x1), .second] [(.ref a)])) (fun t k => XS.aloadN X4.here hx rfl (hb hby d1_15) rfl rfl k) ?_
  refine own_by (B := T4.setTop (mkF m 17 #[.val (.ref a), .val (.long x1), .second] [(.long x1), (.ref a)])) (fun t k => XS.lloadN X4.here hx rfl (hb hby d1_16) rfl k) ?_
  obtain ⟨T5, h5, X5, e5, W5, st5⟩ := putF X4 hx hZ hown (host := "") (Or.inl (hw _ (List.mem_of_getElem? (i := 25) rfl))) Via.refl e4 F_limit_a E_a (Or.inr ⟨(hw _ (List.mem_of_getElem? (i := 26) rfl)), rfl, hnm⟩) (hw _ (List.mem_of_getElem? (i := 1) rfl)) (ty := .long) (by decide) rfl rfl (g := (mkF m 17 #[.val (.ref a), .val (.long x1), .second] [(.long x1), (.ref a)])) rfl rfl (hb hby d1_17)
  replace F_held_a : Fld Z h5 a "com/example/myriad_paths/myriadpaths/DocumentMemory" "held" "Ljava/util/concurrent/atomic/AtomicLong;" (.ref b2) := F_held_a.other W5 (Or.inr (slot_ne (Or.inr (hw _ (List.mem_of_getElem? (i := 24) rfl))) (Or.inr (hw _ (List.mem_of_getElem? (i := 26) rfl))) (by decide) (t := (.object "java/util/concurrent/atomic/AtomicLong")) (t' := .long) (by decide) (by decide)))
  replace F_limit_a : Fld Z h5 a "com/example/myriad_paths/myriadpaths/DocumentMemory" "limit" "J" (.long x1) := F_limit_a.same W5
  replace E_a : Exa Z h5 a "com/example/myriad_paths/myriadpaths/DocumentMemory" := E_a.wr W5
  replace E_b2 : Exa Z h5 b2 "java/util/concurrent/atomic/AtomicLong" := E_b2.wr W5
  replace Zs : n0 ≤ h5.size := by rw [W5.size]; exact Zs
  replace K : Keep h0 h5 [a] := K.wr W5 (Or.inl (List.mem_of_getElem? (i := 0) rfl))
  have NF := Fr.snoc X5 NF g_a
  refine own_by (B := T5.setTop (mkF m 20 #[.val (.ref a), .val (.long x1), .second] [])) (fun t k => st5 _ k) ?_
  exact own_ret X5 hx hlk hret (hb hby d1_20) (by show own_Q1 Z a x1 h0 n0 _ _ _; rw [e5]; exact ⟨rfl, NF, K, E_a⟩) (by decide) (by decide)
theorem d6_0 : decode prog_38_method_1_code 0 = .ok (.aload_n 0, 1) := by decide +kernel
theorem d6_1 : decode prog_38_method_1_code 1 = .ok (.aload_n 1, 1) := by decide +kernel
theorem d6_2 : decode prog_38_method_1_code 2 = .ok (.putfield 3, 3) := by decide +kernel
theorem d6_5 : decode prog_38_method_1_code 5 = .ok (.aload_n 0, 1) := by decide +kernel
theorem d6_6 : decode prog_38_method_1_code 6 = .ok (.invokespecial 9, 3) := by decide +kernel
theorem d6_9 : decode prog_38_method_1_code 9 = .ok (.return_, 1) := by decide +kernel
theorem pn_6 : plainName "com/example/myriad_paths/myriadpaths/DocumentMemory$Share" = true := by first | (simp [plainName, overriddenIn]; done) | decide +kernel
theorem ef_6 (m : MethodId) (x0 : Addr) (x1 : Addr) : entryFrame m #[(.ref x0), (.ref x1)] 2 = mkF m 0 #[.val (.ref x0), .val (.ref x1)] [] := by first | (simp [entryFrame, mkF, argsToLocals, Value.category]; done) | rfl
def own_Q6 (Z : State) (a : Addr) (x1 : Addr) (h0 : Heap) (n0 : Nat) (v : Option Value) (h : Heap) (L : List Loc) : Prop := v = none ∧ Fr n0 L ∧ Keep h0 h [a] ∧ Exa Z h a "com/example/myriad_paths/myriadpaths/DocumentMemory$Share"
set_option maxRecDepth 65536 in
set_option maxHeartbeats 40000000 in
theorem rm6 (l : Launch) (Z : State) (a0 : Array Value) (hw : ∀ d ∈ tables_1, d.before a0 Z = true) (ws : List Jvm.Cond) (a : Addr) (x1 : Addr)  (h0 : Heap) (n0 : Nat) (Z0 : n0 ≤ h0.size) (F_this_0_a : Fld Z h0 a "com/example/myriad_paths/myriadpaths/DocumentMemory$Share" "this$0" "Lcom/example/myriad_paths/myriadpaths/DocumentMemory;" .null) (E_a : Exa Z h0 a "com/example/myriad_paths/myriadpaths/DocumentMemory$Share") (g_a : n0 ≤ a)   :
    MetFree l (⟨"com/example/myriad_paths/myriadpaths/DocumentMemory$Share", "<init>", "(Lcom/example/myriad_paths/myriadpaths/DocumentMemory;)V"⟩ : MethodName) (head1 (Jvm.Cond.code (⟨"com/example/myriad_paths/myriadpaths/DocumentMemory$Share", "<init>", "(Lcom/example/myriad_paths/myriadpaths/DocumentMemory;)V"⟩ : MethodName) prog_38_method_1_code 2 none :: ws) ({ frames := 1, cells := 0, slots := 0, locals := 12 } : Room)) (fun aa U => aa = #[(.ref a), (.ref x1)] ∧ Z.Warmed39 U.vm ∧ U.heap = h0) (fun _ _ _ _ _ => True) (fun _ U o U' => ∃ v L, o = .returned v ∧ own_Q6 Z a x1 h0 n0 v U'.heap L ∧ FrameEnd U o U' L ({ frames := 1, cells := 0, slots := 0, locals := 12 } : Room).cells ({ frames := 1, cells := 0, slots := 0, locals := 12 } : Room).slots) := by
  refine own_met (plainFor_of_name pn_6) fun p e s m below meth c T0 X0 hx hby hml hret hlk hZ hown hnm e0 => ?_
  refine own_cast (ef_6 m a x1) ?_
  have NF := Fr.nil n0
  have Zs := Z0
  have K := Keep.refl h0 [a]
  refine own_by (B := T0.setTop (mkF m 1 #[.val (.ref a), .val (.ref x1)] [(.ref a)])) (fun t k => XS.aloadN X0.here hx rfl (hb hby d6_0) rfl rfl k) ?_
  refine own_by (B := T0.setTop (mkF m 2 #[.val (.ref a), .val (.ref x1)] [(.ref x1), (.ref a)])) (fun t k => XS.aloadN X0.here hx rfl (hb hby d6_1) rfl rfl k) ?_
  obtain ⟨T1, h1, X1, e1, W1, st1⟩ := putF X0 hx hZ hown (host := "") (Or.inl (hw _ (List.mem_of_getElem? (i := 38) rfl))) Via.refl e0 F_this_0_a E_a (Or.inr ⟨(hw _ (List.mem_of_getElem? (i := 39) rfl)), rfl, hnm⟩) (hw _ (List.mem_of_getElem? (i := 33) rfl)) (ty := (.object "com/example/myriad_paths/myriadpaths/DocumentMemory")) (by decide) rfl rfl (g := (mkF m 2 #[.val (.ref a), .val (.ref x1)] [(.ref x1), (.ref a)])) rfl rfl (hb hby d6_2)
  replace F_this_0_a : Fld Z h1 a "com/example/myriad_paths/myriadpaths/DocumentMemory$Share" "this$0" "Lcom/example/myriad_paths/myriadpaths/DocumentMemory;" (.ref x1) := F_this_0_a.same W1
  replace E_a : Exa Z h1 a "com/example/myriad_paths/myriadpaths/DocumentMemory$Share" := E_a.wr W1
  replace Zs : n0 ≤ h1.size := by rw [W1.size]; exact Zs
  replace K : Keep h0 h1 [a] := K.wr W1 (Or.inl (List.mem_of_getElem? (i := 0) rfl))
  have NF := Fr.snoc X1 NF g_a
  refine own_by (B := T1.setTop (mkF m 5 #[.val (.ref a), .val (.ref x1)] [])) (fun t k => st1 _ k) ?_
  refine own_by (B := T1.setTop (mkF m 6 #[.val (.ref a), .val (.ref x1)] [(.ref a)])) (fun t k => XS.aloadN X1.here hx rfl (hb hby d6_5) rfl rfl k) ?_
  obtain ⟨T2, X2, e2, st2⟩ := initO X1 hx hZ hown (hw _ (List.mem_of_getElem? (i := 40) rfl)) (hw _ (List.mem_of_getElem? (i := 8) rfl)) (hw _ (List.mem_of_getElem? (i := 9) rfl)) e1 (g := (mkF m 6 #[.val (.ref a), .val (.ref x1)] [(.ref a)])) rfl (by rw [hml]; rfl) rfl (hb hby d6_6) (by decide) (W := 0) (by show 2 * 0 + _ ≤ _; exact Nat.le_of_eq rfl) (by decide)
  refine own_by (B := T2.setTop (mkF m 9 #[.val (.ref a), .val (.ref x1)] [])) (fun t k => st2 _ k) ?_
  exact own_ret X2 hx hlk hret (hb hby d6_9) (by show own_Q6 Z a x1 h0 n0 _ _ _; rw [e2]; exact ⟨rfl, NF, K, E_a⟩) (by decide) (by decide)
theorem d5_0 : decode prog_36_method_2_code 0 = .ok (.new 22, 3) := by decide +kernel
theorem d5_3 : decode prog_36_method_2_code 3 = .ok (.dup, 1) := by decide +kernel
theorem d5_4 : decode prog_36_method_2_code 4 = .ok (.aload_n 0, 1) := by decide +kernel
theorem d5_5 : decode prog_36_method_2_code 5 = .ok (.invokespecial 24, 3) := by decide +kernel
theorem d5_8 : decode prog_36_method_2_code 8 = .ok (.areturn, 1) := by decide +kernel
theorem pn_5 : plainName "com/example/myriad_paths/myriadpaths/DocumentMemory" = true := by first | (simp [plainName, overriddenIn]; done) | decide +kernel
theorem ef_5 (m : MethodId) (x0 : Addr) : entryFrame m #[(.ref x0)] 1 = mkF m 0 #[.val (.ref x0)] [] := by first | (simp [entryFrame, mkF, argsToLocals, Value.category]; done) | rfl
def own_Q5 (Z : State) (a : Addr) (h0 : Heap) (n0 : Nat) (v : Option Value) (h : Heap) (L : List Loc) : Prop := ∃ (b : Addr), v = some (.ref b) ∧ Fr n0 L ∧ Keep h0 h [] ∧ n0 ≤ b ∧ h0.size ≤ b ∧ Exa Z h b "com/example/myriad_paths/myriadpaths/DocumentMemory$Share"
set_option maxRecDepth 65536 in
set_option maxHeartbeats 40000000 in
theorem rm5 (l : Launch) (Z : State) (a0 : Array Value) (hw : ∀ d ∈ tables_1, d.before a0 Z = true) (ws : List Jvm.Cond) (a : Addr)  (h0 : Heap) (n0 : Nat) (Z0 : n0 ≤ h0.size) (E_a : Exa Z h0 a "com/example/myriad_paths/myriadpaths/DocumentMemory")    :
    MetFree l (⟨"com/example/myriad_paths/myriadpaths/DocumentMemory", "share", "()Lcom/example/myriad_paths/myriadpaths/DocumentMemory$Share;"⟩ : MethodName) (head1 (Jvm.Cond.code (⟨"com/example/myriad_paths/myriadpaths/DocumentMemory", "share", "()Lcom/example/myriad_paths/myriadpaths/DocumentMemory$Share;"⟩ : MethodName) prog_36_method_2_code 1 (some (.object "com/example/myriad_paths/myriadpaths/DocumentMemory$Share")) :: ws) ({ frames := 2, cells := 1, slots := 3, locals := 26 } : Room)) (fun aa U => aa = #[(.ref a)] ∧ Z.Warmed39 U.vm ∧ U.heap = h0) (fun _ _ _ _ _ => True) (fun _ U o U' => ∃ v L, o = .returned v ∧ own_Q5 Z a h0 n0 v U'.heap L ∧ FrameEnd U o U' L ({ frames := 2, cells := 1, slots := 3, locals := 26 } : Room).cells ({ frames := 2, cells := 1, slots := 3, locals := 26 } : Room).slots) := by
  refine own_met (plainFor_of_name pn_5) fun p e s m below meth c T0 X0 hx hby hml hret hlk hZ hown hnm e0 => ?_
  refine own_cast (ef_5 m a) ?_
  have NF := Fr.nil n0
  have Zs := Z0
  have K := Keep.refl h0 []
  obtain ⟨T1, h1, X1, e1, E1, A1, D1, -, st1⟩ := newO X0 hx hZ hown (hw _ (List.mem_of_getElem? (i := 32) rfl)) (hw _ (List.mem_of_getElem? (i := 33) rfl)) (hw _ (List.mem_of_getElem? (i := 34) rfl)) e0 (g := (mkF m 0 #[.val (.ref a)] [])) rfl (hb hby d5_0) (by decide) (by decide)
  obtain ⟨b1, g1⟩ : ∃ z, z = h0.size := ⟨_, rfl⟩
  rw [← g1] at A1 D1 st1
  have g_b1 : n0 ≤ b1 := Nat.le_trans Zs (Nat.le_of_eq g1.symm)
  have sz_b1 : h0.size ≤ b1 := Nat.le_trans K.1 (Nat.le_of_eq g1.symm)
  have ne_a_b1 : a ≠ b1 := Nat.ne_of_lt (Nat.lt_of_lt_of_le E_a.lt (Nat.le_of_eq g1.symm))
  replace E_a : Exa Z h1 a "com/example/myriad_paths/myriadpaths/DocumentMemory" := E_a.ext E1
  replace Zs : n0 ≤ h1.size := Nat.le_trans Zs E1.1
  replace K : Keep h0 h1 [] := K.ext E1
  have E_b1 : Exa Z h1 b1 "com/example/myriad_paths/myriadpaths/DocumentMemory$Share" := A1
  have F_this_0_b1 : Fld Z h1 b1 "com/example/myriad_paths/myriadpaths/DocumentMemory$Share" "this$0" "Lcom/example/myriad_paths/myriadpaths/DocumentMemory;" .null := D1 (Or.inr (hw _ (List.mem_of_getElem? (i := 39) rfl))) (ty := (.object "com/example/myriad_paths/myriadpaths/DocumentMemory")) (by decide)
  refine own_by (B := T1.setTop (mkF m 3 #[.val (.ref a)] [(.ref b1)])) (fun t k => st1 _ k) ?_
  refine own_by (B := T1.setTop (mkF m 4 #[.val (.ref a)] [(.ref b1), (.ref b1)])) (fun t k => XS.dup X1.here hx rfl (hb hby d5_3) rfl rfl k) ?_
  refine own_by (B := T1.setTop (mkF m 5 #[.val (.ref a)] [(.ref a), (.ref b1), (.ref b1)])) (fun t k => XS.aloadN X1.here hx rfl (hb hby d5_4) rfl rfl k) ?_
  obtain ⟨v2, _, ⟨T2, L2, c2, n2⟩, -, X2, ⟨Lc2, hQ2, l2, y2, z2⟩, st2⟩ := X1.specialBack hx (y := (⟨"com/example/myriad_paths/myriadpaths/DocumentMemory$Share", "<init>", "(Lcom/example/myriad_paths/myriadpaths/DocumentMemory;)V"⟩ : MethodName)) rfl hown (mvT hZ (hw _ (List.mem_of_getElem? (i := 35) rfl))) (mvT hZ (hw _ (List.mem_of_getElem? (i := 36) rfl))) (mvT hZ (hw _ (List.mem_of_getElem? (i := 37) rfl))) (by decide) (backOf (W := 1) (rm6 l Z a0 hw [] b1 a  h1 n0 Zs F_this_0_b1 E_b1 g_b1  ) hZ (hw _ (List.mem_of_getElem? (i := 37) rfl)) (hw _ (List.mem_of_getElem? (i := 34) rfl)) (by decide) (by decide)) (g := (mkF m 5 #[.val (.ref a)] [(.ref a), (.ref b1), (.ref b1)])) rfl (by rw [hml]; rfl) (Steps.refl _) (a := b1) (argsL := [(.ref a)]) (rest := [(.ref b1)]) (lenOf pd_1 rfl) rfl (by show 2 * 0 + _ ≤ _; exact Nat.le_of_eq rfl) (hb hby d5_5) (fun _ _ => ⟨rfl, e1, (by decide : 1 + 0 ≤ _), (by decide : 3 + 0 ≤ _)⟩)
  dsimp only [Pt.U, Pt.locs, Pt.cells, Pt.slots] at X2 l2 y2 z2 st2 hQ2
  subst l2 y2 z2
  obtain ⟨rfl, Nq2, Kq2, o0_2⟩ := hQ2
  have NF := Fr.app NF Nq2
  replace E_a : Exa Z T2.heap a "com/example/myriad_paths/myriadpaths/DocumentMemory" := E_a.keep Kq2
  replace E_b1 : Exa Z T2.heap b1 "com/example/myriad_paths/myriadpaths/DocumentMemory$Share" := E_b1.keep Kq2
  clear F_this_0_b1
  replace Zs : n0 ≤ T2.heap.size := Nat.le_trans Zs Kq2.1
  replace K : Keep h0 T2.heap [] := K.trans Kq2 (allS (Or.inr sz_b1) all0)
  have E_b1 : Exa Z T2.heap b1 "com/example/myriad_paths/myriadpaths/DocumentMemory$Share" := o0_2
  refine own_by (B := T2.setTop (mkF m 8 #[.val (.ref a)] [(.ref b1)])) (fun t k => st2.trans k) ?_
  exact own_retA rfl X2 hx hlk hret (hb hby d5_8) (by show own_Q5 Z a h0 n0 _ _ _; exact ⟨b1, rfl, NF, K, g_b1, sz_b1, E_b1⟩) (by decide) (by decide)
theorem d8_0 : decode prog_17_method_2_code 0 = .ok (.aload_n 0, 1) := by decide +kernel
theorem d8_1 : decode prog_17_method_2_code 1 = .ok (.iconst 1, 1) := by decide +kernel
theorem d8_2 : decode prog_17_method_2_code 2 = .ok (.putfield 29, 3) := by decide +kernel
theorem d8_5 : decode prog_17_method_2_code 5 = .ok (.aload_n 0, 1) := by decide +kernel
theorem d8_6 : decode prog_17_method_2_code 6 = .ok (.getfield 18, 3) := by decide +kernel
theorem d8_9 : decode prog_17_method_2_code 9 = .ok (.iconst 0, 1) := by decide +kernel
theorem d8_10 : decode prog_17_method_2_code 10 = .ok (.iconst 1, 1) := by decide +kernel
theorem d8_11 : decode prog_17_method_2_code 11 = .ok (.bastore, 1) := by decide +kernel
theorem d8_12 : decode prog_17_method_2_code 12 = .ok (.return_, 1) := by decide +kernel
theorem pn_8 : plainName "com/example/myriad_paths/myriadpaths/Conditions" = true := by first | (simp [plainName, overriddenIn]; done) | decide +kernel
theorem ef_8 (m : MethodId) (x0 : Addr) : entryFrame m #[(.ref x0)] 1 = mkF m 0 #[.val (.ref x0)] [] := by first | (simp [entryFrame, mkF, argsToLocals, Value.category]; done) | rfl
def own_Q8 (Z : State) (a : Addr) (fa : Addr) (oa : Addr) (ha : Addr) (cnt : Int32) (fh : Nat → Int32) (h0 : Heap) (n0 : Nat) (v : Option Value) (h : Heap) (L : List Loc) : Prop := v = none ∧ Fr n0 L ∧ Keep h0 h [a, ha] ∧ Fld Z h a "com/example/myriad_paths/myriadpaths/Conditions" "first" "[I" (.ref fa) ∧ Fld Z h a "com/example/myriad_paths/myriadpaths/Conditions" "other" "[I" (.ref oa) ∧ Fld Z h a "com/example/myriad_paths/myriadpaths/Conditions" "holds" "[Z" (.ref ha) ∧ Fld Z h a "com/example/myriad_paths/myriadpaths/Conditions" "count" "I" (.int (1 : Int32)) ∧ own_BA Z h ha .boolean 64 (own_up fh ((0 : Int32)).toNatClampNeg (nar .boolean (1 : Int32))) ∧ Exa Z h a "com/example/myriad_paths/myriadpaths/Conditions"
set_option maxRecDepth 65536 in
set_option maxHeartbeats 40000000 in
theorem rm8 (l : Launch) (Z : State) (a0 : Array Value) (hw : ∀ d ∈ tables_1, d.before a0 Z = true) (ws : List Jvm.Cond) (a : Addr) (fa : Addr) (oa : Addr) (ha : Addr) (cnt : Int32) (fh : Nat → Int32) (h0 : Heap) (n0 : Nat) (Z0 : n0 ≤ h0.size) (F_first_a : Fld Z h0 a "com/example/myriad_paths/myriadpaths/Conditions" "first" "[I" (.ref fa)) (F_other_a : Fld Z h0 a "com/example/myriad_paths/myriadpaths/Conditions" "other" "[I" (.ref oa)) (F_holds_a : Fld Z h0 a "com/example/myriad_paths/myriadpaths/Conditions" "holds" "[Z" (.ref ha)) (F_count_a : Fld Z h0 a "com/example/myriad_paths/myriadpaths/Conditions" "count" "I" (.int cnt)) (V_ha : own_BA Z h0 ha .boolean 64 fh) (E_a : Exa Z h0 a "com/example/myriad_paths/myriadpaths/Conditions") (g_a : n0 ≤ a) (g_ha : n0 ≤ ha) (ne_a_ha : a ≠ ha)  :
    MetFree l (⟨"com/example/myriad_paths/myriadpaths/Conditions", "reset", "()V"⟩ : MethodName) (head1 (Jvm.Cond.code (⟨"com/example/myriad_paths/myriadpaths/Conditions", "reset", "()V"⟩ : MethodName) prog_17_method_2_code 1 none :: ws) ({ frames := 0, cells := 0, slots := 0, locals := 0 } : Room)) (fun aa U => aa = #[(.ref a)] ∧ Z.Warmed39 U.vm ∧ U.heap = h0) (fun _ _ _ _ _ => True) (fun _ U o U' => ∃ v L, o = .returned v ∧ own_Q8 Z a fa oa ha cnt fh h0 n0 v U'.heap L ∧ FrameEnd U o U' L ({ frames := 0, cells := 0, slots := 0, locals := 0 } : Room).cells ({ frames := 0, cells := 0, slots := 0, locals := 0 } : Room).slots) := by
  refine own_met (plainFor_of_name pn_8) fun p e s m below meth c T0 X0 hx hby hml hret hlk hZ hown hnm e0 => ?_
  refine own_cast (ef_8 m a) ?_
  have NF := Fr.nil n0
  have Zs := Z0
  have K := Keep.refl h0 [a, ha]
  refine own_by (B := T0.setTop (mkF m 1 #[.val (.ref a)] [(.ref a)])) (fun t k => XS.aloadN X0.here hx rfl (hb hby d8_0) rfl rfl k) ?_
  refine own_by (B := T0.setTop (mkF m 2 #[.val (.ref a)] [(.int (1 : Int32)), (.ref a)])) (fun t k => XS.iconst X0.here hx rfl (hb hby d8_1) k) ?_
  obtain ⟨T1, h1, X1, e1, W1, st1⟩ := putF X0 hx hZ hown (host := "") (Or.inl (hw _ (List.mem_of_getElem? (i := 63) rfl))) Via.refl e0 F_count_a E_a (Or.inl (hw _ (List.mem_of_getElem? (i := 64) rfl))) (hw _ (List.mem_of_getElem? (i := 42) rfl)) (ty := .int) (by decide) rfl rfl (g := (mkF m 2 #[.val (.ref a)] [(.int (1 : Int32)), (.ref a)])) rfl rfl (hb hby d8_2)
  replace F_first_a : Fld Z h1 a "com/example/myriad_paths/myriadpaths/Conditions" "first" "[I" (.ref fa) := F_first_a.other W1 (Or.inr (slot_ne (Or.inl (hw _ (List.mem_of_getElem? (i := 50) rfl))) (Or.inl (hw _ (List.mem_of_getElem? (i := 64) rfl))) (by decide) (t := (.array .int)) (t' := .int) (by decide) (by decide)))
  replace F_other_a : Fld Z h1 a "com/example/myriad_paths/myriadpaths/Conditions" "other" "[I" (.ref oa) := F_other_a.other W1 (Or.inr (slot_ne (Or.inl (hw _ (List.mem_of_getElem? (i := 52) rfl))) (Or.inl (hw _ (List.mem_of_getElem? (i := 64) rfl))) (by decide) (t := (.array .int)) (t' := .int) (by decide) (by decide)))
  replace F_holds_a : Fld Z h1 a "com/example/myriad_paths/myriadpaths/Conditions" "holds" "[Z" (.ref ha) := F_holds_a.other W1 (Or.inr (slot_ne (Or.inl (hw _ (List.mem_of_getElem? (i := 55) rfl))) (Or.inl (hw _ (List.mem_of_getElem? (i := 64) rfl))) (by decide) (t := (.array .boolean)) (t' := .int) (by decide) (by decide)))
  replace F_count_a : Fld Z h1 a "com/example/myriad_paths/myriadpaths/Conditions" "count" "I" (.int (1 : Int32)) := F_count_a.same W1
  replace V_ha : own_BA Z h1 ha .boolean 64 fh := V_ha.other W1 (Ne.symm ne_a_ha)
  replace E_a : Exa Z h1 a "com/example/myriad_paths/myriadpaths/Conditions" := E_a.wr W1
  replace Zs : n0 ≤ h1.size := by rw [W1.size]; exact Zs
  replace K : Keep h0 h1 [a, ha] := K.wr W1 (Or.inl (List.mem_of_getElem? (i := 0) rfl))
  have NF := Fr.snoc X1 NF g_a
  refine own_by (B := T1.setTop (mkF m 5 #[.val (.ref a)] [])) (fun t k => st1 _ k) ?_
  refine own_by (B := T1.setTop (mkF m 6 #[.val (.ref a)] [(.ref a)])) (fun t k => XS.aloadN X1.here hx rfl (hb hby d8_5) rfl rfl k) ?_
  obtain ⟨T2, X2, e2, st2⟩ := getF X1 hx hZ hown (host := "") (Or.inl (hw _ (List.mem_of_getElem? (i := 54) rfl))) Via.refl e1 F_holds_a (g := (mkF m 6 #[.val (.ref a)] [(.ref a)])) rfl rfl (hb hby d8_6)
  refine own_by (B := T2.setTop (mkF m 9 #[.val (.ref a)] [(.ref ha)])) (fun t k => st2 _ k) ?_
  refine own_by (B := T2.setTop (mkF m 10 #[.val (.ref a)] [(.int (0 : Int32)), (.ref ha)])) (fun t k => XS.iconst X2.here hx rfl (hb hby d8_9) k) ?_
  refine own_by (B := T2.setTop (mkF m 11 #[.val (.ref a)] [(.int (1 : Int32)), (.int (0 : Int32)), (.ref ha)])) (fun t k => XS.iconst X2.here hx rfl (hb hby d8_10) k) ?_
  obtain ⟨cl3, Ar3, S3, H3⟩ := V_ha
  have hin3 : ¬ ((0 : Int32) < 0 ∨ cl3.slots.size ≤ ((0 : Int32)).toNatClampNeg) := own_in S3 (by decide)
  obtain ⟨T3, h3, X3, e3, W3, st3⟩ := stZ X2 hx hZ e2 Ar3 (j := (0 : Int32)) hin3 (g := (mkF m 11 #[.val (.ref a)] [(.int (1 : Int32)), (.int (0 : Int32)), (.ref ha)])) rfl rfl (hb hby d8_11)
  replace V_ha : own_BA Z h1 ha .boolean 64 fh := ⟨cl3, Ar3, S3, H3⟩
  replace F_first_a : Fld Z h3 a "com/example/myriad_paths/myriadpaths/Conditions" "first" "[I" (.ref fa) := F_first_a.other W3 (Or.inl ne_a_ha)
  replace F_other_a : Fld Z h3 a "com/example/myriad_paths/myriadpaths/Conditions" "other" "[I" (.ref oa) := F_other_a.other W3 (Or.inl ne_a_ha)
  replace F_holds_a : Fld Z h3 a "com/example/myriad_paths/myriadpaths/Conditions" "holds" "[Z" (.ref ha) := F_holds_a.other W3 (Or.inl ne_a_ha)
  replace F_count_a : Fld Z h3 a "com/example/myriad_paths/myriadpaths/Conditions" "count" "I" (.int (1 : Int32)) := F_count_a.other W3 (Or.inl ne_a_ha)
  replace V_ha : own_BA Z h3 ha .boolean 64 (own_up fh ((0 : Int32)).toNatClampNeg (nar .boolean (1 : Int32))) := V_ha.same W3
  replace E_a : Exa Z h3 a "com/example/myriad_paths/myriadpaths/Conditions" := E_a.wr W3
  replace Zs : n0 ≤ h3.size := by rw [W3.size]; exact Zs
  replace K : Keep h0 h3 [a, ha] := K.wr W3 (Or.inl (List.mem_of_getElem? (i := 1) rfl))
  have NF := Fr.snoc X3 NF g_ha
  refine own_by (B := T3.setTop (mkF m 12 #[.val (.ref a)] [])) (fun t k => st3 _ k) ?_
  exact own_ret X3 hx hlk hret (hb hby d8_12) (by show own_Q8 Z a fa oa ha cnt fh h0 n0 _ _ _; rw [e3]; exact ⟨rfl, NF, K, F_first_a, F_other_a, F_holds_a, F_count_a, V_ha, E_a⟩) (by decide) (by decide)
theorem d7_0 : decode prog_17_method_1_code 0 = .ok (.aload_n 0, 1) := by decide +kernel
theorem d7_1 : decode prog_17_method_1_code 1 = .ok (.invokespecial 3, 3) := by decide +kernel
theorem d7_4 : decode prog_17_method_1_code 4 = .ok (.aload_n 0, 1) := by decide +kernel
theorem d7_5 : decode prog_17_method_1_code 5 = .ok (.bipush 64, 2) := by decide +kernel
theorem d7_7 : decode prog_17_method_1_code 7 = .ok (.newarray .int, 2) := by decide +kernel
theorem d7_9 : decode prog_17_method_1_code 9 = .ok (.putfield 9, 3) := by decide +kernel
theorem d7_12 : decode prog_17_method_1_code 12 = .ok (.aload_n 0, 1) := by decide +kernel
theorem d7_13 : decode prog_17_method_1_code 13 = .ok (.bipush 64, 2) := by decide +kernel
theorem d7_15 : decode prog_17_method_1_code 15 = .ok (.newarray .int, 2) := by decide +kernel
theorem d7_17 : decode prog_17_method_1_code 17 = .ok (.putfield 15, 3) := by decide +kernel
theorem d7_20 : decode prog_17_method_1_code 20 = .ok (.aload_n 0, 1) := by decide +kernel
theorem d7_21 : decode prog_17_method_1_code 21 = .ok (.bipush 64, 2) := by decide +kernel
theorem d7_23 : decode prog_17_method_1_code 23 = .ok (.newarray .boolean, 2) := by decide +kernel
theorem d7_25 : decode prog_17_method_1_code 25 = .ok (.putfield 18, 3) := by decide +kernel
theorem d7_28 : decode prog_17_method_1_code 28 = .ok (.aload_n 0, 1) := by decide +kernel
theorem d7_29 : decode prog_17_method_1_code 29 = .ok (.aload_n 1, 1) := by decide +kernel
theorem d7_30 : decode prog_17_method_1_code 30 = .ok (.putfield 22, 3) := by decide +kernel
theorem d7_33 : decode prog_17_method_1_code 33 = .ok (.aload_n 0, 1) := by decide +kernel
theorem d7_34 : decode prog_17_method_1_code 34 = .ok (.invokevirtual 26, 3) := by decide +kernel
theorem d7_37 : decode prog_17_method_1_code 37 = .ok (.return_, 1) := by decide +kernel
theorem pn_7 : plainName "com/example/myriad_paths/myriadpaths/Conditions" = true := by first | (simp [plainName, overriddenIn]; done) | decide +kernel
theorem ef_7 (m : MethodId) (x0 : Addr) (x1 : Addr) : entryFrame m #[(.ref x0), (.ref x1)] 2 = mkF m 0 #[.val (.ref x0), .val (.ref x1)] [] := by first | (simp [entryFrame, mkF, argsToLocals, Value.category]; done) | rfl
def own_Q7 (Z : State) (a : Addr) (x1 : Addr) (h0 : Heap) (n0 : Nat) (v : Option Value) (h : Heap) (L : List Loc) : Prop := ∃ (fa : Addr) (oa : Addr) (ha : Addr), v = none ∧ Fr n0 L ∧ Keep h0 h [a] ∧ n0 ≤ fa ∧ n0 ≤ oa ∧ n0 ≤ ha ∧ h0.size ≤ fa ∧ h0.size ≤ oa ∧ h0.size ≤ ha ∧ fa ≠ oa ∧ fa ≠ ha ∧ oa ≠ ha ∧ Fld Z h a "com/example/myriad_paths/myriadpaths/Conditions" "first" "[I" (.ref fa) ∧ Fld Z h a "com/example/myriad_paths/myriadpaths/Conditions" "other" "[I" (.ref oa) ∧ Fld Z h a "com/example/myriad_paths/myriadpaths/Conditions" "holds" "[Z" (.ref ha) ∧ Fld Z h a "com/example/myriad_paths/myriadpaths/Conditions" "count" "I" (.int (1 : Int32)) ∧ Exa Z h a "com/example/myriad_paths/myriadpaths/Conditions" ∧ own_BA Z h fa .int 64 (fun _ => 0) ∧ own_BA Z h oa .int 64 (fun _ => 0) ∧ own_BA Z h ha .boolean 64 (own_up (fun _ => 0) ((0 : Int32)).toNatClampNeg (nar .boolean (1 : Int32)))
set_option maxRecDepth 65536 in
set_option maxHeartbeats 40000000 in
theorem rm7 (l : Launch) (Z : State) (a0 : Array Value) (hw : ∀ d ∈ tables_1, d.before a0 Z = true) (ws : List Jvm.Cond) (a : Addr) (x1 : Addr)  (h0 : Heap) (n0 : Nat) (Z0 : n0 ≤ h0.size) (F_first_a : Fld Z h0 a "com/example/myriad_paths/myriadpaths/Conditions" "first" "[I" .null) (F_other_a : Fld Z h0 a "com/example/myriad_paths/myriadpaths/Conditions" "other" "[I" .null) (F_holds_a : Fld Z h0 a "com/example/myriad_paths/myriadpaths/Conditions" "holds" "[Z" .null) (F_memory_a : Fld Z h0 a "com/example/myriad_paths/myriadpaths/Conditions" "memory" "Lcom/example/myriad_paths/myriadpaths/DocumentMemory$Share;" .null) (F_count_a : Fld Z h0 a "com/example/myriad_paths/myriadpaths/Conditions" "count" "I" (.int (0 : Int32))) (E_a : Exa Z h0 a "com/example/myriad_paths/myriadpaths/Conditions") (g_a : n0 ≤ a)   :
    MetFree l (⟨"com/example/myriad_paths/myriadpaths/Conditions", "<init>", "(Lcom/example/myriad_paths/myriadpaths/DocumentMemory$Share;)V"⟩ : MethodName) (head1 (Jvm.Cond.code (⟨"com/example/myriad_paths/myriadpaths/Conditions", "<init>", "(Lcom/example/myriad_paths/myriadpaths/DocumentMemory$Share;)V"⟩ : MethodName) prog_17_method_1_code 2 none :: ws) ({ frames := 1, cells := 3, slots := 192, locals := 12 } : Room)) (fun aa U => aa = #[(.ref a), (.ref x1)] ∧ Z.Warmed39 U.vm ∧ U.heap = h0) (fun _ _ _ _ _ => True) (fun _ U o U' => ∃ v L, o = .returned v ∧ own_Q7 Z a x1 h0 n0 v U'.heap L ∧ FrameEnd U o U' L ({ frames := 1, cells := 3, slots := 192, locals := 12 } : Room).cells ({ frames := 1, cells := 3, slots := 192, locals := 12 } : Room).slots) := by
  refine own_met (plainFor_of_name pn_7) fun p e s m below meth c T0 X0 hx hby hml hret hlk hZ hown hnm e0 => ?_
  refine own_cast (ef_7 m a x1) ?_
  have NF := Fr.nil n0
  have Zs := Z0
  have K := Keep.refl h0 [a]
  refine own_by (B := T0.setTop (mkF m 1 #[.val (.ref a), .val (.ref x1)] [(.ref a)])) (fun t k => XS.aloadN X0.here hx rfl (hb hby d7_0) rfl rfl k) ?_
  obtain ⟨T1, X1, e1, st1⟩ := initO X0 hx hZ hown (hw _ (List.mem_of_getElem? (i := 47) rfl)) (hw _ (List.mem_of_getElem? (i := 8) rfl)) (hw _ (List.mem_of_getElem? (i := 9) rfl)) e0 (g := (mkF m 1 #[.val (.ref a), .val (.ref x1)] [(.ref a)])) rfl (by rw [hml]; rfl) rfl (hb hby d7_1) (by decide) (W := 0) (by show 2 * 0 + _ ≤ _; exact Nat.le_of_eq rfl) (by decide)
  refine own_by (B := T1.setTop (mkF m 4 #[.val (.ref a), .val (.ref x1)] [])) (fun t k => st1 _ k) ?_
  refine own_by (B := T1.setTop (mkF m 5 #[.val (.ref a), .val (.ref x1)] [(.ref a)])) (fun t k => XS.aloadN X1.here hx rfl (hb hby d7_4) rfl rfl k) ?_
  refine own_by (B := T1.setTop (mkF m 7 #[.val (.ref a), .val (.ref x1)] [(.int (64 : Int32)), (.ref a)])) (fun t k => XS.bipush X1.here hx rfl (hb hby d7_5) k) ?_
  obtain ⟨T2, h2, k2, X2, e2, E2, A2, st2⟩ := newP X1 hx hZ (hw _ (List.mem_of_getElem? (i := 48) rfl)) e1 (g := (mkF m 7 #[.val (.ref a), .val (.ref x1)] [(.int (64 : Int32)), (.ref a)])) rfl (hb hby d7_7) rfl (by decide) (cap := 64) (by decide) (by decide) (by decide) (by decide)
  obtain ⟨b2, g2⟩ : ∃ z, z = h0.size := ⟨_, rfl⟩
  rw [← g2] at A2 st2
  have g_b2 : n0 ≤ b2 := Nat.le_trans Zs (Nat.le_of_eq g2.symm)
  have sz_b2 : h0.size ≤ b2 := Nat.le_trans K.1 (Nat.le_of_eq g2.symm)
  have ne_a_b2 : a ≠ b2 := Nat.ne_of_lt (Nat.lt_of_lt_of_le F_first_a.lt (Nat.le_of_eq g2.symm))
  replace F_first_a : Fld Z h2 a "com/example/myriad_paths/myriadpaths/Conditions" "first" "[I" .null := F_first_a.ext E2
  replace F_other_a : Fld Z h2 a "com/example/myriad_paths/myriadpaths/Conditions" "other" "[I" .null := F_other_a.ext E2
  replace F_holds_a : Fld Z h2 a "com/example/myriad_paths/myriadpaths/Conditions" "holds" "[Z" .null := F_holds_a.ext E2
  replace F_memory_a : Fld Z h2 a "com/example/myriad_paths/myriadpaths/Conditions" "memory" "Lcom/example/myriad_paths/myriadpaths/DocumentMemory$Share;" .null := F_memory_a.ext E2
  replace F_count_a : Fld Z h2 a "com/example/myriad_paths/myriadpaths/Conditions" "count" "I" (.int (0 : Int32)) := F_count_a.ext E2
  replace E_a : Exa Z h2 a "com/example/myriad_paths/myriadpaths/Conditions" := E_a.ext E2
  replace Zs : n0 ≤ h2.size := Nat.le_trans Zs E2.1
  replace K : Keep h0 h2 [a] := K.ext E2
  have V_b2 : own_BA Z h2 b2 .int 64 (fun _ => 0) := own_BA.new A2 (by decide) rfl
  refine own_by (B := T2.setTop (mkF m 9 #[.val (.ref a), .val (.ref x1)] [(.ref b2), (.ref a)])) (fun t k => st2 _ k) ?_
  obtain ⟨T3, h3, X3, e3, W3, st3⟩ := putF X2 hx hZ hown (host := "") (Or.inl (hw _ (List.mem_of_getElem? (i := 49) rfl))) Via.refl e2 F_first_a E_a (Or.inl (hw _ (List.mem_of_getElem? (i := 50) rfl))) (hw _ (List.mem_of_getElem? (i := 42) rfl)) (ty := (.array .int)) (by decide) rfl rfl (g := (mkF m 9 #[.val (.ref a), .val (.ref x1)] [(.ref b2), (.ref a)])) rfl rfl (hb hby d7_9)
  replace F_first_a : Fld Z h3 a "com/example/myriad_paths/myriadpaths/Conditions" "first" "[I" (.ref b2) := F_first_a.same W3
  replace F_other_a : Fld Z h3 a "com/example/myriad_paths/myriadpaths/Conditions" "other" "[I" .null := F_other_a.other W3 (Or.inr (slot_ne (Or.inl (hw _ (List.mem_of_getElem? (i := 52) rfl))) (Or.inl (hw _ (List.mem_of_getElem? (i := 50) rfl))) (by decide) (t := (.array .int)) (t' := (.array .int)) (by decide) (by decide)))
  replace F_holds_a : Fld Z h3 a "com/example/myriad_paths/myriadpaths/Conditions" "holds" "[Z" .null := F_holds_a.other W3 (Or.inr (slot_ne (Or.inl (hw _ (List.mem_of_getElem? (i := 55) rfl))) (Or.inl (hw _ (List.mem_of_getElem? (i := 50) rfl))) (by decide) (t := (.array .boolean)) (t' := (.array .int)) (by decide) (by decide)))
  replace F_memory_a : Fld Z h3 a "com/example/myriad_paths/myriadpaths/Conditions" "memory" "Lcom/example/myriad_paths/myriadpaths/DocumentMemory$Share;" .null := F_memory_a.other W3 (Or.inr (slot_ne (Or.inr (hw _ (List.mem_of_getElem? (i := 57) rfl))) (Or.inl (hw _ (List.mem_of_getElem? (i := 50) rfl))) (by decide) (t := (.object "com/example/myriad_paths/myriadpaths/DocumentMemory$Share")) (t' := (.array .int)) (by decide) (by decide)))
  replace F_count_a : Fld Z h3 a "com/example/myriad_paths/myriadpaths/Conditions" "count" "I" (.int (0 : Int32)) := F_count_a.other W3 (Or.inr (slot_ne (Or.inl (hw _ (List.mem_of_getElem? (i := 64) rfl))) (Or.inl (hw _ (List.mem_of_getElem? (i := 50) rfl))) (by decide) (t := .int) (t' := (.array .int)) (by decide) (by decide)))
  replace E_a : Exa Z h3 a "com/example/myriad_paths/myriadpaths/Conditions" := E_a.wr W3
  replace V_b2 : own_BA Z h3 b2 .int 64 (fun _ => 0) := V_b2.other W3 (Ne.symm ne_a_b2)
  replace Zs : n0 ≤ h3.size := by rw [W3.size]; exact Zs
  replace K : Keep h0 h3 [a] := K.wr W3 (Or.inl (List.mem_of_getElem? (i := 0) rfl))
  have NF := Fr.snoc X3 NF g_a
  refine own_by (B := T3.setTop (mkF m 12 #[.val (.ref a), .val (.ref x1)] [])) (fun t k => st3 _ k) ?_
  refine own_by (B := T3.setTop (mkF m 13 #[.val (.ref a), .val (.ref x1)] [(.ref a)])) (fun t k => XS.aloadN X3.here hx rfl (hb hby d7_12) rfl rfl k) ?_
  refine own_by (B := T3.setTop (mkF m 15 #[.val (.ref a), .val (.ref x1)] [(.int (64 : Int32)), (.ref a)])) (fun t k => XS.bipush X3.here hx rfl (hb hby d7_13) k) ?_
  obtain ⟨T4, h4, k4, X4, e4, E4, A4, st4⟩ := newP X3 hx hZ (hw _ (List.mem_of_getElem? (i := 48) rfl)) e3 (g := (mkF m 15 #[.val (.ref a), .val (.ref x1)] [(.int (64 : Int32)), (.ref a)])) rfl (hb hby d7_15) rfl (by decide) (cap := 64) (by decide) (by decide) (by decide) (by decide)
  obtain ⟨b4, g4⟩ : ∃ z, z = h3.size := ⟨_, rfl⟩
  rw [← g4] at A4 st4
  have g_b4 : n0 ≤ b4 := Nat.le_trans Zs (Nat.le_of_eq g4.symm)
  have sz_b4 : h0.size ≤ b4 := Nat.le_trans K.1 (Nat.le_of_eq g4.symm)
  have ne_a_b4 : a ≠ b4 := Nat.ne_of_lt (Nat.lt_of_lt_of_le F_first_a.lt (Nat.le_of_eq g4.symm))
  have ne_b2_b4 : b2 ≠ b4 := Nat.ne_of_lt (Nat.lt_of_lt_of_le V_b2.lt (Nat.le_of_eq g4.symm))
  replace F_first_a : Fld Z h4 a "com/example/myriad_paths/myriadpaths/Conditions" "first" "[I" (.ref b2) := F_first_a.ext E4
  replace F_other_a : Fld Z h4 a "com/example/myriad_paths/myriadpaths/Conditions" "other" "[I" .null := F_other_a.ext E4
  replace F_holds_a : Fld Z h4 a "com/example/myriad_paths/myriadpaths/Conditions" "holds" "[Z" .null := F_holds_a.ext E4
  replace F_memory_a : Fld Z h4 a "com/example/myriad_paths/myriadpaths/Conditions" "memory" "Lcom/example/myriad_paths/myriadpaths/DocumentMemory$Share;" .null := F_memory_a.ext E4
  replace F_count_a : Fld Z h4 a "com/example/myriad_paths/myriadpaths/Conditions" "count" "I" (.int (0 : Int32)) := F_count_a.ext E4
  replace E_a : Exa Z h4 a "com/example/myriad_paths/myriadpaths/Conditions" := E_a.ext E4
  replace V_b2 : own_BA Z h4 b2 .int 64 (fun _ => 0) := V_b2.ext E4
  replace Zs : n0 ≤ h4.size := Nat.le_trans Zs E4.1
  replace K : Keep h0 h4 [a] := K.ext E4
  have V_b4 : own_BA Z h4 b4 .int 64 (fun _ => 0) := own_BA.new A4 (by decide) rfl
  refine own_by (B := T4.setTop (mkF m 17 #[.val (.ref a), .val (.ref x1)] [(.ref b4), (.ref a)])) (fun t k => st4 _ k) ?_
  obtain ⟨T5, h5, X5, e5, W5, st5⟩ := putF X4 hx hZ hown (host := "") (Or.inl (hw _ (List.mem_of_getElem? (i := 51) rfl))) Via.refl e4 F_other_a E_a (Or.inl (hw _ (List.mem_of_getElem? (i := 52) rfl))) (hw _ (List.mem_of_getElem? (i := 42) rfl)) (ty := (.array .int)) (by decide) rfl rfl (g := (mkF m 17 #[.val (.ref a), .val (.ref x1)] [(.ref b4), (.ref a)])) rfl rfl (hb hby d7_17)
  replace F_first_a : Fld Z h5 a "com/example/myriad_paths/myriadpaths/Conditions" "first" "[I" (.ref b2) := F_first_a.other W5 (Or.inr (slot_ne (Or.inl (hw _ (List.mem_of_getElem? (i := 50) rfl))) (Or.inl (hw _ (List.mem_of_getElem? (i := 52) rfl))) (by decide) (t := (.array .int)) (t' := (.array .int)) (by decide) (by decide)))
  replace F_other_a : Fld Z h5 a "com/example/myriad_paths/myriadpaths/Conditions" "other" "[I" (.ref b4) := F_other_a.same W5
  replace F_holds_a : Fld Z h5 a "com/example/myriad_paths/myriadpaths/Conditions" "holds" "[Z" .null := F_holds_a.other W5 (Or.inr (slot_ne (Or.inl (hw _ (List.mem_of_getElem? (i := 55) rfl))) (Or.inl (hw _ (List.mem_of_getElem? (i := 52) rfl))) (by decide) (t := (.array .boolean)) (t' := (.array .int)) (by decide) (by decide)))
  replace F_memory_a : Fld Z h5 a "com/example/myriad_paths/myriadpaths/Conditions" "memory" "Lcom/example/myriad_paths/myriadpaths/DocumentMemory$Share;" .null := F_memory_a.other W5 (Or.inr (slot_ne (Or.inr (hw _ (List.mem_of_getElem? (i := 57) rfl))) (Or.inl (hw _ (List.mem_of_getElem? (i := 52) rfl))) (by decide) (t := (.object "com/example/myriad_paths/myriadpaths/DocumentMemory$Share")) (t' := (.array .int)) (by decide) (by decide)))
  replace F_count_a : Fld Z h5 a "com/example/myriad_paths/myriadpaths/Conditions" "count" "I" (.int (0 : Int32)) := F_count_a.other W5 (Or.inr (slot_ne (Or.inl (hw _ (List.mem_of_getElem? (i := 64) rfl))) (Or.inl (hw _ (List.mem_of_getElem? (i := 52) rfl))) (by decide) (t := .int) (t' := (.array .int)) (by decide) (by decide)))
  replace E_a : Exa Z h5 a "com/example/myriad_paths/myriadpaths/Conditions" := E_a.wr W5
  replace V_b2 : own_BA Z h5 b2 .int 64 (fun _ => 0) := V_b2.other W5 (Ne.symm ne_a_b2)
  replace V_b4 : own_BA Z h5 b4 .int 64 (fun _ => 0) := V_b4.other W5 (Ne.symm ne_a_b4)
  replace Zs : n0 ≤ h5.size := by rw [W5.size]; exact Zs
  replace K : Keep h0 h5 [a] := K.wr W5 (Or.inl (List.mem_of_getElem? (i := 0) rfl))
  have NF := Fr.snoc X5 NF g_a
  refine own_by (B := T5.setTop (mkF m 20 #[.val (.ref a), .val (.ref x1)] [])) (fun t k => st5 _ k) ?_
  refine own_by (B := T5.setTop (mkF m 21 #[.val (.ref a), .val (.ref x1)] [(.ref a)])) (fun t k => XS.aloadN X5.here hx rfl (hb hby d7_20) rfl rfl k) ?_
  refine own_by (B := T5.setTop (mkF m 23 #[.val (.ref a), .val (.ref x1)] [(.int (64 : Int32)), (.ref a)])) (fun t k => XS.bipush X5.here hx rfl (hb hby d7_21) k) ?_
  obtain ⟨T6, h6, k6, X6, e6, E6, A6, st6⟩ := newP X5 hx hZ (hw _ (List.mem_of_getElem? (i := 53) rfl)) e5 (g := (mkF m 23 #[.val (.ref a), .val (.ref x1)] [(.int (64 : Int32)), (.ref a)])) rfl (hb hby d7_23) rfl (by decide) (cap := 64) (by decide) (by decide) (by decide) (by decide)
  obtain ⟨b6, g6⟩ : ∃ z, z = h5.size := ⟨_, rfl⟩
  rw [← g6] at A6 st6
  have g_b6 : n0 ≤ b6 := Nat.le_trans Zs (Nat.le_of_eq g6.symm)
  have sz_b6 : h0.size ≤ b6 := Nat.le_trans K.1 (Nat.le_of_eq g6.symm)
  have ne_a_b6 : a ≠ b6 := Nat.ne_of_lt (Nat.lt_of_lt_of_le F_first_a.lt (Nat.le_of_eq g6.symm))
  have ne_b2_b6 : b2 ≠ b6 := Nat.ne_of_lt (Nat.lt_of_lt_of_le V_b2.lt (Nat.le_of_eq g6.symm))
  have ne_b4_b6 : b4 ≠ b6 := Nat.ne_of_lt (Nat.lt_of_lt_of_le V_b4.lt (Nat.le_of_eq g6.symm))
  replace F_first_a : Fld Z h6 a "com/example/myriad_paths/myriadpaths/Conditions" "first" "[I" (.ref b2) := F_first_a.ext E6
  replace F_other_a : Fld Z h6 a "com/example/myriad_paths/myriadpaths/Conditions" "other" "[I" (.ref b4) := F_other_a.ext E6
  replace F_holds_a : Fld Z h6 a "com/example/myriad_paths/myriadpaths/Conditions" "holds" "[Z" .null := F_holds_a.ext E6
  replace F_memory_a : Fld Z h6 a "com/example/myriad_paths/myriadpaths/Conditions" "memory" "Lcom/example/myriad_paths/myriadpaths/DocumentMemory$Share;" .null := F_memory_a.ext E6
  replace F_count_a : Fld Z h6 a "com/example/myriad_paths/myriadpaths/Conditions" "count" "I" (.int (0 : Int32)) := F_count_a.ext E6
  replace E_a : Exa Z h6 a "com/example/myriad_paths/myriadpaths/Conditions" := E_a.ext E6
  replace V_b2 : own_BA Z h6 b2 .int 64 (fun _ => 0) := V_b2.ext E6
  replace V_b4 : own_BA Z h6 b4 .int 64 (fun _ => 0) := V_b4.ext E6
  replace Zs : n0 ≤ h6.size := Nat.le_trans Zs E6.1
  replace K : Keep h0 h6 [a] := K.ext E6
  have V_b6 : own_BA Z h6 b6 .boolean 64 (fun _ => 0) := own_BA.new A6 (by decide) rfl
  refine own_by (B := T6.setTop (mkF m 25 #[.val (.ref a), .val (.ref x1)] [(.ref b6), (.ref a)])) (fun t k => st6 _ k) ?_
  obtain ⟨T7, h7, X7, e7, W7, st7⟩ := putF X6 hx hZ hown (host := "") (Or.inl (hw _ (List.mem_of_getElem? (i := 54) rfl))) Via.refl e6 F_holds_a E_a (Or.inl (hw _ (List.mem_of_getElem? (i := 55) rfl))) (hw _ (List.mem_of_getElem? (i := 42) rfl)) (ty := (.array .boolean)) (by decide) rfl rfl (g := (mkF m 25 #[.val (.ref a), .val (.ref x1)] [(.ref b6), (.ref a)])) rfl rfl (hb hby d7_25)
  replace F_first_a : Fld Z h7 a "com/example/myriad_paths/myriadpaths/Conditions" "first" "[I" (.ref b2) := F_first_a.other W7 (Or.inr (slot_ne (Or.inl (hw _ (List.mem_of_getElem? (i := 50) rfl))) (Or.inl (hw _ (List.mem_of_getElem? (i := 55) rfl))) (by decide) (t := (.array .int)) (t' := (.array .boolean)) (by decide) (by decide)))
  replace F_other_a : Fld Z h7 a "com/example/myriad_paths/myriadpaths/Conditions" "other" "[I" (.ref b4) := F_other_a.other W7 (Or.inr (slot_ne (Or.inl (hw _ (List.mem_of_getElem? (i := 52) rfl))) (Or.inl (hw _ (List.mem_of_getElem? (i := 55) rfl))) (by decide) (t := (.array .int)) (t' := (.array .boolean)) (by decide) (by decide)))
  replace F_holds_a : Fld Z h7 a "com/example/myriad_paths/myriadpaths/Conditions" "holds" "[Z" (.ref b6) := F_holds_a.same W7
  replace F_memory_a : Fld Z h7 a "com/example/myriad_paths/myriadpaths/Conditions" "memory" "Lcom/example/myriad_paths/myriadpaths/DocumentMemory$Share;" .null := F_memory_a.other W7 (Or.inr (slot_ne (Or.inr (hw _ (List.mem_of_getElem? (i := 57) rfl))) (Or.inl (hw _ (List.mem_of_getElem? (i := 55) rfl))) (by decide) (t := (.object "com/example/myriad_paths/myriadpaths/DocumentMemory$Share")) (t' := (.array .boolean)) (by decide) (by decide)))
  replace F_count_a : Fld Z h7 a "com/example/myriad_paths/myriadpaths/Conditions" "count" "I" (.int (0 : Int32)) := F_count_a.other W7 (Or.inr (slot_ne (Or.inl (hw _ (List.mem_of_getElem? (i := 64) rfl))) (Or.inl (hw _ (List.mem_of_getElem? (i := 55) rfl))) (by decide) (t := .int) (t' := (.array .boolean)) (by decide) (by decide)))
  replace E_a : Exa Z h7 a "com/example/myriad_paths/myriadpaths/Conditions" := E_a.wr W7
  replace V_b2 : own_BA Z h7 b2 .int 64 (fun _ => 0) := V_b2.other W7 (Ne.symm ne_a_b2)
  replace V_b4 : own_BA Z h7 b4 .int 64 (fun _ => 0) := V_b4.other W7 (Ne.symm ne_a_b4)
  replace V_b6 : own_BA Z h7 b6 .boolean 64 (fun _ => 0) := V_b6.other W7 (Ne.symm ne_a_b6)
  replace Zs : n0 ≤ h7.size := by rw [W7.size]; exact Zs
  replace K : Keep h0 h7 [a] := K.wr W7 (Or.inl (List.mem_of_getElem? (i := 0) rfl))
  have NF := Fr.snoc X7 NF g_a
  refine own_by (B := T7.setTop (mkF m 28 #[.val (.ref a), .val (.ref x1)] [])) (fun t k => st7 _ k) ?_
  refine own_by (B := T7.setTop (mkF m 29 #[.val (.ref a), .val (.ref x1)] [(.ref a)])) (fun t k => XS.aloadN X7.here hx rfl (hb hby d7_28) rfl rfl k) ?_
  refine own_by (B := T7.setTop (mkF m 30 #[.val (.ref a), .val (.ref x1)] [(.ref x1), (.ref a)])) (fun t k => XS.aloadN X7.here hx rfl (hb hby d7_29) rfl rfl k) ?_
  obtain ⟨T8, h8, X8, e8, W8, st8⟩ := putF X7 hx hZ hown (host := "") (Or.inl (hw _ (List.mem_of_getElem? (i := 56) rfl))) Via.refl e7 F_memory_a E_a (Or.inr ⟨(hw _ (List.mem_of_getElem? (i := 57) rfl)), rfl, hnm⟩) (hw _ (List.mem_of_getElem? (i := 42) rfl)) (ty := (.object "com/example/myriad_paths/myriadpaths/DocumentMemory$Share")) (by decide) rfl rfl (g := (mkF m 30 #[.val (.ref a), .val (.ref x1)] [(.ref x1), (.ref a)])) rfl rfl (hb hby d7_30)
  replace F_first_a : Fld Z h8 a "com/example/myriad_paths/myriadpaths/Conditions" "first" "[I" (.ref b2) := F_first_a.other W8 (Or.inr (slot_ne (Or.inl (hw _ (List.mem_of_getElem? (i := 50) rfl))) (Or.inr (hw _ (List.mem_of_getElem? (i := 57) rfl))) (by decide) (t := (.array .int)) (t' := (.object "com/example/myriad_paths/myriadpaths/DocumentMemory$Share")) (by decide) (by decide)))
  replace F_other_a : Fld Z h8 a "com/example/myriad_paths/myriadpaths/Conditions" "other" "[I" (.ref b4) := F_other_a.other W8 (Or.inr (slot_ne (Or.inl (hw _ (List.mem_of_getElem? (i := 52) rfl))) (Or.inr (hw _ (List.mem_of_getElem? (i := 57) rfl))) (by decide) (t := (.array .int)) (t' := (.object "com/example/myriad_paths/myriadpaths/DocumentMemory$Share")) (by decide) (by decide)))
  replace F_holds_a : Fld Z h8 a "com/example/myriad_paths/myriadpaths/Conditions" "holds" "[Z" (.ref b6) := F_holds_a.other W8 (Or.inr (slot_ne (Or.inl (hw _ (List.mem_of_getElem? (i := 55) rfl))) (Or.inr (hw _ (List.mem_of_getElem? (i := 57) rfl))) (by decide) (t := (.array .boolean)) (t' := (.object "com/example/myriad_paths/myriadpaths/DocumentMemory$Share")) (by decide) (by decide)))
  replace F_memory_a : Fld Z h8 a "com/example/myriad_paths/myriadpaths/Conditions" "memory" "Lcom/example/myriad_paths/myriadpaths/DocumentMemory$Share;" (.ref x1) := F_memory_a.same W8
  replace F_count_a : Fld Z h8 a "com/example/myriad_paths/myriadpaths/Conditions" "count" "I" (.int (0 : Int32)) := F_count_a.other W8 (Or.inr (slot_ne (Or.inl (hw _ (List.mem_of_getElem? (i := 64) rfl))) (Or.inr (hw _ (List.mem_of_getElem? (i := 57) rfl))) (by decide) (t := .int) (t' := (.object "com/example/myriad_paths/myriadpaths/DocumentMemory$Share")) (by decide) (by decide)))
  replace E_a : Exa Z h8 a "com/example/myriad_paths/myriadpaths/Conditions" := E_a.wr W8
  replace V_b2 : own_BA Z h8 b2 .int 64 (fun _ => 0) := V_b2.other W8 (Ne.symm ne_a_b2)
  replace V_b4 : own_BA Z h8 b4 .int 64 (fun _ => 0) := V_b4.other W8 (Ne.symm ne_a_b4)
  replace V_b6 : own_BA Z h8 b6 .boolean 64 (fun _ => 0) := V_b6.other W8 (Ne.symm ne_a_b6)
  replace Zs : n0 ≤ h8.size := by rw [W8.size]; exact Zs
  replace K : Keep h0 h8 [a] := K.wr W8 (Or.inl (List.mem_of_getElem? (i := 0) rfl))
  have NF := Fr.snoc X8 NF g_a
  refine own_by (B := T8.setTop (mkF m 33 #[.val (.ref a), .val (.ref x1)] [])) (fun t k => st8 _ k) ?_
  refine own_by (B := T8.setTop (mkF m 34 #[.val (.ref a), .val (.ref x1)] [(.ref a)])) (fun t k => XS.aloadN X8.here hx rfl (hb hby d7_33) rfl rfl k) ?_
  obtain ⟨cq9, kq9, q9a, q9b, q9c⟩ := isOf hZ e8 E_a
  obtain ⟨v9, _, ⟨T9, L9, c9, n9⟩, -, X9, ⟨Lc9, hQ9, l9, y9, z9⟩, st9⟩ := X8.virtualBack hx (y := (⟨"com/example/myriad_paths/myriadpaths/Conditions", "reset", "()V"⟩ : MethodName)) (z := (⟨"com/example/myriad_paths/myriadpaths/Conditions", "reset", "()V"⟩ : MethodName)) hown (mvT hZ (hw _ (List.mem_of_getElem? (i := 58) rfl))) (mvT hZ (hw _ (List.mem_of_getElem? (i := 59) rfl))) (notFace_of_selects (args := #[]) (mvT hZ (hw _ (List.mem_of_getElem? (i := 61) rfl)))) (mvT hZ (hw _ (List.mem_of_getElem? (i := 61) rfl))) (mvT hZ (hw _ (List.mem_of_getElem? (i := 60) rfl))) (by decide) (backOf (W := 0) (rm8 l Z a0 hw [] a b2 b4 b6 (0 : Int32) (fun _ => 0) h8 n0 Zs F_first_a F_other_a F_holds_a F_count_a V_b6 E_a g_a g_b6 ne_a_b6 ) hZ (hw _ (List.mem_of_getElem? (i := 62) rfl)) (hw _ (List.mem_of_getElem? (i := 43) rfl)) (by decide) (by decide)) q9a q9c (g := (mkF m 34 #[.val (.ref a), .val (.ref x1)] [(.ref a)])) rfl (by rw [hml]; rfl) (Steps.refl _) (argsL := []) (rest := []) (lenOf pd_0 rfl) rfl (by show 2 * 0 + _ ≤ _; exact Nat.le_of_eq rfl) (hb hby d7_34) (fun _ _ => ⟨rfl, e8, (by decide : 3 + 0 ≤ _), (by decide : 192 + 0 ≤ _)⟩)
  dsimp only [Pt.U, Pt.locs, Pt.cells, Pt.slots] at X9 l9 y9 z9 st9 hQ9
  subst l9 y9 z9
  obtain ⟨rfl, Nq9, Kq9, o0_9, o1_9, o2_9, o3_9, o4_9, o5_9⟩ := hQ9
  have NF := Fr.app NF Nq9
  clear F_first_a
  clear F_other_a
  clear F_holds_a
  clear F_memory_a
  clear F_count_a
  replace E_a : Exa Z T9.heap a "com/example/myriad_paths/myriadpaths/Conditions" := E_a.keep Kq9
  replace V_b2 : own_BA Z T9.heap b2 .int 64 (fun _ => 0) := V_b2.keep Kq9 (ninS (Ne.symm ne_a_b2) (ninS ne_b2_b6 nin0))
  replace V_b4 : own_BA Z T9.heap b4 .int 64 (fun _ => 0) := V_b4.keep Kq9 (ninS (Ne.symm ne_a_b4) (ninS ne_b4_b6 nin0))
  clear V_b6
  replace Zs : n0 ≤ T9.heap.size := Nat.le_trans Zs Kq9.1
  replace K : Keep h0 T9.heap [a] := K.trans Kq9 (allS (Or.inl (List.mem_of_getElem? (i := 0) rfl)) (allS (Or.inr sz_b6) all0))
  have F_first_a : Fld Z T9.heap a "com/example/myriad_paths/myriadpaths/Conditions" "first" "[I" (.ref b2) := o0_9
  have F_other_a : Fld Z T9.heap a "com/example/myriad_paths/myriadpaths/Conditions" "other" "[I" (.ref b4) := o1_9
  have F_holds_a : Fld Z T9.heap a "com/example/myriad_paths/myriadpaths/Conditions" "holds" "[Z" (.ref b6) := o2_9
  have F_count_a : Fld Z T9.heap a "com/example/myriad_paths/myriadpaths/Conditions" "count" "I" (.int (1 : Int32)) := o3_9
  have V_b6 : own_BA Z T9.heap b6 .boolean 64 (own_up (fun _ => 0) ((0 : Int32)).toNatClampNeg (nar .boolean (1 : Int32))) := o4_9
  have E_a : Exa Z T9.heap a "com/example/myriad_paths/myriadpaths/Conditions" := o5_9
  refine own_by (B := T9.setTop (mkF m 37 #[.val (.ref a), .val (.ref x1)] [])) (fun t k => st9.trans k) ?_
  exact own_ret X9 hx hlk hret (hb hby d7_37) (by show own_Q7 Z a x1 h0 n0 _ _ _; exact ⟨b2, b4, b6, rfl, NF, K, g_b2, g_b4, g_b6, sz_b2, sz_b4, sz_b6, ne_b2_b4, ne_b2_b6, ne_b4_b6, F_first_a, F_other_a, F_holds_a, F_count_a, E_a, V_b2, V_b4, V_b6⟩) (by decide) (by decide)
theorem d10_0 : decode prog_17_method_8_code 0 = .ok (.aload_n 0, 1) := by decide +kernel
theorem d10_1 : decode prog_17_method_8_code 1 = .ok (.getfield 29, 3) := by decide +kernel
theorem d10_4 : decode prog_17_method_8_code 4 = .ok (.aload_n 0, 1) := by decide +kernel
theorem d10_5 : decode prog_17_method_8_code 5 = .ok (.getfield 9, 3) := by decide +kernel
theorem d10_8 : decode prog_17_method_8_code 8 = .ok (.arraylength, 1) := by decide +kernel
theorem d10_9 : decode prog_17_method_8_code 9 = .ok (.if_icmp .ne 53, 3) := by decide +kernel
theorem d10_62 : decode prog_17_method_8_code 62 = .ok (.aload_n 0, 1) := by decide +kernel
theorem d10_63 : decode prog_17_method_8_code 63 = .ok (.getfield 9, 3) := by decide +kernel
theorem d10_66 : decode prog_17_method_8_code 66 = .ok (.aload_n 0, 1) := by decide +kernel
theorem d10_67 : decode prog_17_method_8_code 67 = .ok (.getfield 29, 3) := by decide +kernel
theorem d10_70 : decode prog_17_method_8_code 70 = .ok (.iload_n 1, 1) := by decide +kernel
theorem d10_71 : decode prog_17_method_8_code 71 = .ok (.iastore, 1) := by decide +kernel
theorem d10_72 : decode prog_17_method_8_code 72 = .ok (.aload_n 0, 1) := by decide +kernel
theorem d10_73 : decode prog_17_method_8_code 73 = .ok (.getfield 15, 3) := by decide +kernel
theorem d10_76 : decode prog_17_method_8_code 76 = .ok (.aload_n 0, 1) := by decide +kernel
theorem d10_77 : decode prog_17_method_8_code 77 = .ok (.getfield 29, 3) := by decide +kernel
theorem d10_80 : decode prog_17_method_8_code 80 = .ok (.iload_n 2, 1) := by decide +kernel
theorem d10_81 : decode prog_17_method_8_code 81 = .ok (.iastore, 1) := by decide +kernel
theorem d10_82 : decode prog_17_method_8_code 82 = .ok (.aload_n 0, 1) := by decide +kernel
theorem d10_83 : decode prog_17_method_8_code 83 = .ok (.getfield 18, 3) := by decide +kernel
theorem d10_86 : decode prog_17_method_8_code 86 = .ok (.aload_n 0, 1) := by decide +kernel
theorem d10_87 : decode prog_17_method_8_code 87 = .ok (.getfield 29, 3) := by decide +kernel
theorem d10_90 : decode prog_17_method_8_code 90 = .ok (.iconst 0, 1) := by decide +kernel
theorem d10_91 : decode prog_17_method_8_code 91 = .ok (.bastore, 1) := by decide +kernel
theorem d10_92 : decode prog_17_method_8_code 92 = .ok (.aload_n 0, 1) := by decide +kernel
theorem d10_93 : decode prog_17_method_8_code 93 = .ok (.dup, 1) := by decide +kernel
theorem d10_94 : decode prog_17_method_8_code 94 = .ok (.getfield 29, 3) := by decide +kernel
theorem d10_97 : decode prog_17_method_8_code 97 = .ok (.dup_x1, 1) := by decide +kernel
theorem d10_98 : decode prog_17_method_8_code 98 = .ok (.iconst 1, 1) := by decide +kernel
theorem d10_99 : decode prog_17_method_8_code 99 = .ok (.iadd, 1) := by decide +kernel
theorem d10_100 : decode prog_17_method_8_code 100 = .ok (.putfield 29, 3) := by decide +kernel
theorem d10_103 : decode prog_17_method_8_code 103 = .ok (.ireturn, 1) := by decide +kernel
theorem pn_10 : plainName "com/example/myriad_paths/myriadpaths/Conditions" = true := by first | (simp [plainName, overriddenIn]; done) | decide +kernel
theorem ef_10 (m : MethodId) (x0 : Addr) (x1 : Int32) (x2 : Int32) : entryFrame m #[(.ref x0), (.int x1), (.int x2)] 4 = mkF m 0 #[.val (.ref x0), .val (.int x1), .val (.int x2), .unset] [] := by first | (simp [entryFrame, mkF, argsToLocals, Value.category]; done) | rfl
def own_Q10 (Z : State) (a : Addr) (x1 : Int32) (x2 : Int32) (fa : Addr) (oa : Addr) (ha : Addr) (cnt : Int32) (ff : Nat → Int32) (fo : Nat → Int32) (fh : Nat → Int32) (h0 : Heap) (n0 : Nat) (v : Option Value) (h : Heap) (L : List Loc) : Prop := v = some (.int cnt) ∧ Fr n0 L ∧ Keep h0 h [a, fa, oa, ha] ∧ Fld Z h a "com/example/myriad_paths/myriadpaths/Conditions" "first" "[I" (.ref fa) ∧ Fld Z h a "com/example/myriad_paths/myriadpaths/Conditions" "other" "[I" (.ref oa) ∧ Fld Z h a "com/example/myriad_paths/myriadpaths/Conditions" "holds" "[Z" (.ref ha) ∧ Fld Z h a "com/example/myriad_paths/myriadpaths/Conditions" "count" "I" (.int (cnt + (1 : Int32))) ∧ own_BA Z h fa .int 64 (own_up ff (cnt).toNatClampNeg x1) ∧ own_BA Z h oa .int 64 (own_up fo (cnt).toNatClampNeg x2) ∧ own_BA Z h ha .boolean 64 (own_up fh (cnt).toNatClampNeg (nar .boolean (0 : Int32))) ∧ Exa Z h a "com/example/myriad_paths/myriadpaths/Conditions"
set_option maxRecDepth 65536 in
set_option maxHeartbeats 40000000 in
theorem rm10 (l : Launch) (Z : State) (a0 : Array Value) (hw : ∀ d ∈ tables_1, d.before a0 Z = true) (ws : List Jvm.Cond) (a : Addr) (x1 : Int32) (x2 : Int32) (fa : Addr) (oa : Addr) (ha : Addr) (cnt : Int32) (ff : Nat → Int32) (fo : Nat → Int32) (fh : Nat → Int32) (h0 : Heap) (n0 : Nat) (Z0 : n0 ≤ h0.size) (F_first_a : Fld Z h0 a "com/example/myriad_paths/myriadpaths/Conditions" "first" "[I" (.ref fa)) (F_other_a : Fld Z h0 a "com/example/myriad_paths/myriadpaths/Conditions" "other" "[I" (.ref oa)) (F_holds_a : Fld Z h0 a "com/example/myriad_paths/myriadpaths/Conditions" "holds" "[Z" (.ref ha)) (F_count_a : Fld Z h0 a "com/example/myriad_paths/myriadpaths/Conditions" "count" "I" (.int cnt)) (V_fa : own_BA Z h0 fa .int 64 ff) (V_oa : own_BA Z h0 oa .int 64 fo) (V_ha : own_BA Z h0 ha .boolean 64 fh) (E_a : Exa Z h0 a "com/example/myriad_paths/myriadpaths/Conditions") (g_a : n0 ≤ a) (g_fa : n0 ≤ fa) (g_oa : n0 ≤ oa) (g_ha : n0 ≤ ha) (ne_a_fa : a ≠ fa) (ne_a_oa : a ≠ oa) (ne_a_ha : a ≠ ha) (ne_fa_oa : fa ≠ oa) (ne_fa_ha : fa ≠ ha) (ne_oa_ha : oa ≠ ha) (hcn : ¬ cnt < 0 ∧ cnt.toNatClampNeg < 64) :
    MetFree l (⟨"com/example/myriad_paths/myriadpaths/Conditions", "add", "(II)I"⟩ : MethodName) (head1 (Jvm.Cond.code (⟨"com/example/myriad_paths/myriadpaths/Conditions", "add", "(II)I"⟩ : MethodName) prog_17_method_8_code 4 (some .int) :: ws) ({ frames := 0, cells := 0, slots := 0, locals := 0 } : Room)) (fun aa U => aa = #[(.ref a), (.int x1), (.int x2)] ∧ Z.Warmed39 U.vm ∧ U.heap = h0) (fun _ _ _ _ _ => True) (fun _ U o U' => ∃ v L, o = .returned v ∧ own_Q10 Z a x1 x2 fa oa ha cnt ff fo fh h0 n0 v U'.heap L ∧ FrameEnd U o U' L ({ frames := 0, cells := 0, slots := 0, locals := 0 } : Room).cells ({ frames := 0, cells := 0, slots := 0, locals := 0 } : Room).slots) := by
  refine own_met (plainFor_of_name pn_10) fun p e s m below meth c T0 X0 hx hby hml hret hlk hZ hown hnm e0 => ?_
  refine own_cast (ef_10 m a x1 x2) ?_
  have NF := Fr.nil n0
  have Zs := Z0
  have K := Keep.refl h0 [a, fa, oa, ha]
  refine own_by (B := T0.setTop (mkF m 1 #[.val (.ref a), .val (.int x1), .val (.int x2), .unset] [(.ref a)])) (fun t k => XS.aloadN X0.here hx rfl (hb hby d10_0) rfl rfl k) ?_
  obtain ⟨T1, X1, e1, st1⟩ := getF X0 hx hZ hown (host := "") (Or.inl (hw _ (List.mem_of_getElem? (i := 63) rfl))) Via.refl e0 F_count_a (g := (mkF m 1 #[.val (.ref a), .val (.int x1), .val (.int x2), .unset] [(.ref a)])) rfl rfl (hb hby d10_1)
  refine own_by (B := T1.setTop (mkF m 4 #[.val (.ref a), .val (.int x1), .val (.int x2), .unset] [(.int cnt)])) (fun t k => st1 _ k) ?_
  refine own_by (B := T1.setTop (mkF m 5 #[.val (.ref a), .val (.int x1), .val (.int x2), .unset] [(.ref a), (.int cnt)])) (fun t k => XS.aloadN X1.here hx rfl (hb hby d10_4) rfl rfl k) ?_
  obtain ⟨T2, X2, e2, st2⟩ := getF X1 hx hZ hown (host := "") (Or.inl (hw _ (List.mem_of_getElem? (i := 49) rfl))) Via.refl e1 F_first_a (g := (mkF m 5 #[.val (.ref a), .val (.int x1), .val (.int x2), .unset] [(.ref a), (.int cnt)])) rfl rfl (hb hby d10_5)
  refine own_by (B := T2.setTop (mkF m 8 #[.val (.ref a), .val (.int x1), .val (.int x2), .unset] [(.ref fa), (.int cnt)])) (fun t k => st2 _ k) ?_
  obtain ⟨cl3, Ar3, S3, H3⟩ := V_fa
  have hle3 : cl3.slots.size.toInt32 = (64 : Int32) := by rw [S3]; rfl
  refine own_by (B := T2.setTop (mkF m 9 #[.val (.ref a), .val (.int x1), .val (.int x2), .unset] [(.int (64 : Int32)), (.int cnt)])) (fun t k => X2.arraylength hx (by rw [e2]; exact Ar3.1) (State.isArrayOf_alike hZ.alike Ar3.2.1) (g := (mkF m 8 #[.val (.ref a), .val (.int x1), .val (.int x2), .unset] [(.ref fa), (.int cnt)])) rfl rfl (hb hby d10_8) _ (by rw [hle3]; exact k)) ?_
  have V_fa : own_BA Z h0 fa .int 64 ff := ⟨cl3, Ar3, S3, H3⟩
  have hc4 : ¬ (cnt = (64 : Int32)) := fun q => by rw [q] at hcn; exact absurd hcn.2 (by decide)
  refine own_by (B := T2.setTop (mkF m 62 #[.val (.ref a), .val (.int x1), .val (.int x2), .unset] [])) (fun t k => XS.icmpYes X2.here hx rfl (pc0 := 9) (pc' := 62) rfl (hb hby d10_9) rfl (feq hc4).2 (by decide) (by decide) k) ?_
  refine own_by (B := T2.setTop (mkF m 63 #[.val (.ref a), .val (.int x1), .val (.int x2), .unset] [(.ref a)])) (fun t k => XS.aloadN X2.here hx rfl (hb hby d10_62) rfl rfl k) ?_
  obtain ⟨T5, X5, e5, st5⟩ := getF X2 hx hZ hown (host := "") (Or.inl (hw _ (List.mem_of_getElem? (i := 49) rfl))) Via.refl e2 F_first_a (g := (mkF m 63 #[.val (.ref a), .val (.int x1), .val (.int x2), .unset] [(.ref a)])) rfl rfl (hb hby d10_63)
  refine own_by (B := T5.setTop (mkF m 66 #[.val (.ref a), .val (.int x1), .val (.int x2), .unset] [(.ref fa)])) (fun t k => st5 _ k) ?_
  refine own_by (B := T5.setTop (mkF m 67 #[.val (.ref a), .val (.int x1), .val (.int x2), .unset] [(.ref a), (.ref fa)])) (fun t k => XS.aloadN X5.here hx rfl (hb hby d10_66) rfl rfl k) ?_
  obtain ⟨T6, X6, e6, st6⟩ := getF X5 hx hZ hown (host := "") (Or.inl (hw _ (List.mem_of_getElem? (i := 63) rfl))) Via.refl e5 F_count_a (g := (mkF m 67 #[.val (.ref a), .val (.int x1), .val (.int x2), .unset] [(.ref a), (.ref fa)])) rfl rfl (hb hby d10_67)
  refine own_by (B := T6.setTop (mkF m 70 #[.val (.ref a), .val (.int x1), .val (.int x2), .unset] [(.int cnt), (.ref fa)])) (fun t k => st6 _ k) ?_
  refine own_by (B := T6.setTop (mkF m 71 #[.val (.ref a), .val (.int x1), .val (.int x2), .unset] [(.int x1), (.int cnt), (.ref fa)])) (fun t k => XS.iloadN X6.here hx rfl (hb hby d10_70) rfl k) ?_
  obtain ⟨cl7, Ar7, S7, H7⟩ := V_fa
  have hin7 : ¬ (cnt < 0 ∨ cl7.slots.size ≤ (cnt).toNatClampNeg) := own_in S7 hcn
  obtain ⟨T7, h7, X7, e7, W7, st7⟩ := stI X6 hx hZ e6 Ar7 (j := cnt) hin7 (g := (mkF m 71 #[.val (.ref a), .val (.int x1), .val (.int x2), .unset] [(.int x1), (.int cnt), (.ref fa)])) rfl rfl (hb hby d10_71)
  replace V_fa : own_BA Z h0 fa .int 64 ff := ⟨cl7, Ar7, S7, H7⟩
  replace F_first_a : Fld Z h7 a "com/example/myriad_paths/myriadpaths/Conditions" "first" "[I" (.ref fa) := F_first_a.other W7 (Or.inl ne_a_fa)
  replace F_other_a : Fld Z h7 a "com/example/myriad_paths/myriadpaths/Conditions" "other" "[I" (.ref oa) := F_other_a.other W7 (Or.inl ne_a_fa)
  replace F_holds_a : Fld Z h7 a "com/example/myriad_paths/myriadpaths/Conditions" "holds" "[Z" (.ref ha) := F_holds_a.other W7 (Or.inl ne_a_fa)
  replace F_count_a : Fld Z h7 a "com/example/myriad_paths/myriadpaths/Conditions" "count" "I" (.int cnt) := F_count_a.other W7 (Or.inl ne_a_fa)
  replace V_fa : own_BA Z h7 fa .int 64 (own_up ff (cnt).toNatClampNeg x1) := V_fa.same W7
  replace V_oa : own_BA Z h7 oa .int 64 fo := V_oa.other W7 (Ne.symm ne_fa_oa)
  replace V_ha : own_BA Z h7 ha .boolean 64 fh := V_ha.other W7 (Ne.symm ne_fa_ha)
  replace E_a : Exa Z h7 a "com/example/myriad_paths/myriadpaths/Conditions" := E_a.wr W7
  replace Zs : n0 ≤ h7.size := by rw [W7.size]; exact Zs
  replace K : Keep h0 h7 [a, fa, oa, ha] := K.wr W7 (Or.inl (List.mem_of_getElem? (i := 1) rfl))
  have NF := Fr.snoc X7 NF g_fa
  refine own_by (B := T7.setTop (mkF m 72 #[.val (.ref a), .val (.int x1), .val (.int x2), .unset] [])) (fun t k => st7 _ k) ?_
  refine own_by (B := T7.setTop (mkF m 73 #[.val (.ref a), .val (.int x1), .val (.int x2), .unset] [(.ref a)])) (fun t k => XS.aloadN X7.here hx rfl (hb hby d10_72) rfl rfl k) ?_
  obtain ⟨T8, X8, e8, st8⟩ := getF X7 hx hZ hown (host := "") (Or.inl (hw _ (List.mem_of_getElem? (i := 51) rfl))) Via.refl e7 F_other_a (g := (mkF m 73 #[.val (.ref a), .val (.int x1), .val (.int x2), .unset] [(.ref a)])) rfl rfl (hb hby d10_73)
  refine own_by (B := T8.setTop (mkF m 76 #[.val (.ref a), .val (.int x1), .val (.int x2), .unset] [(.ref oa)])) (fun t k => st8 _ k) ?_
  refine own_by (B := T8.setTop (mkF m 77 #[.val (.ref a), .val (.int x1), .val (.int x2), .unset] [(.ref a), (.ref oa)])) (fun t k => XS.aloadN X8.here hx rfl (hb hby d10_76) rfl rfl k) ?_
  obtain ⟨T9, X9, e9, st9⟩ := getF X8 hx hZ hown (host := "") (Or.inl (hw _ (List.mem_of_getElem? (i := 63) rfl))) Via.refl e8 F_count_a (g := (mkF m 77 #[.val (.ref a), .val (.int x1), .val (.int x2), .unset] [(.ref a), (.ref oa)])) rfl rfl (hb hby d10_77)
  refine own_by (B := T9.setTop (mkF m 80 #[.val (.ref a), .val (.int x1), .val (.int x2), .unset] [(.int cnt), (.ref oa)])) (fun t k => st9 _ k) ?_
  refine own_by (B := T9.setTop (mkF m 81 #[.val (.ref a), .val (.int x1), .val (.int x2), .unset] [(.int x2), (.int cnt), (.ref oa)])) (fun t k => XS.iloadN X9.here hx rfl (hb hby d10_80) rfl k) ?_
  obtain ⟨cl10, Ar10, S10, H10⟩ := V_oa
  have hin10 : ¬ (cnt < 0 ∨ cl10.slots.size ≤ (cnt).toNatClampNeg) := own_in S10 hcn
  obtain ⟨T10, h10, X10, e10, W10, st10⟩ := stI X9 hx hZ e9 Ar10 (j := cnt) hin10 (g := (mkF m 81 #[.val (.ref a), .val (.int x1), .val (.int x2), .unset] [(.int x2), (.int cnt), (.ref oa)])) rfl rfl (hb hby d10_81)
  replace V_oa : own_BA Z h7 oa .int 64 fo := ⟨cl10, Ar10, S10, H10⟩
  replace F_first_a : Fld Z h10 a "com/example/myriad_paths/myriadpaths/Conditions" "first" "[I" (.ref fa) := F_first_a.other W10 (Or.inl ne_a_oa)
  replace F_other_a : Fld Z h10 a "com/example/myriad_paths/myriadpaths/Conditions" "other" "[I" (.ref oa) := F_other_a.other W10 (Or.inl ne_a_oa)
  replace F_holds_a : Fld Z h10 a "com/example/myriad_paths/myriadpaths/Conditions" "holds" "[Z" (.ref ha) := F_holds_a.other W10 (Or.inl ne_a_oa)
  replace F_count_a : Fld Z h10 a "com/example/myriad_paths/myriadpaths/Conditions" "count" "I" (.int cnt) := F_count_a.other W10 (Or.inl ne_a_oa)
  replace V_fa : own_BA Z h10 fa .int 64 (own_up ff (cnt).toNatClampNeg x1) := V_fa.other W10 ne_fa_oa
  replace V_oa : own_BA Z h10 oa .int 64 (own_up fo (cnt).toNatClampNeg x2) := V_oa.same W10
  replace V_ha : own_BA Z h10 ha .boolean 64 fh := V_ha.other W10 (Ne.symm ne_oa_ha)
  replace E_a : Exa Z h10 a "com/example/myriad_paths/myriadpaths/Conditions" := E_a.wr W10
  replace Zs : n0 ≤ h10.size := by rw [W10.size]; exact Zs
  replace K : Keep h0 h10 [a, fa, oa, ha] := K.wr W10 (Or.inl (List.mem_of_getElem? (i := 2) rfl))
  have NF := Fr.snoc X10 NF g_oa
  refine own_by (B := T10.setTop (mkF m 82 #[.val (.ref a), .val (.int x1), .val (.int x2), .unset] [])) (fun t k => st10 _ k) ?_
  refine own_by (B := T10.setTop (mkF m 83 #[.val (.ref a), .val (.int x1), .val (.int x2), .unset] [(.ref a)])) (fun t k => XS.aloadN X10.here hx rfl (hb hby d10_82) rfl rfl k) ?_
  obtain ⟨T11, X11, e11, st11⟩ := getF X10 hx hZ hown (host := "") (Or.inl (hw _ (List.mem_of_getElem? (i := 54) rfl))) Via.refl e10 F_holds_a (g := (mkF m 83 #[.val (.ref a), .val (.int x1), .val (.int x2), .unset] [(.ref a)])) rfl rfl (hb hby d10_83)
  refine own_by (B := T11.setTop (mkF m 86 #[.val (.ref a), .val (.int x1), .val (.int x2), .unset] [(.ref ha)])) (fun t k => st11 _ k) ?_
  refine own_by (B := T11.setTop (mkF m 87 #[.val (.ref a), .val (.int x1), .val (.int x2), .unset] [(.ref a), (.ref ha)])) (fun t k => XS.aloadN X11.here hx rfl (hb hby d10_86) rfl rfl k) ?_
  obtain ⟨T12, X12, e12, st12⟩ := getF X11 hx hZ hown (host := "") (Or.inl (hw _ (List.mem_of_getElem? (i := 63) rfl))) Via.refl e11 F_count_a (g := (mkF m 87 #[.val (.ref a), .val (.int x1), .val (.int x2), .unset] [(.ref a), (.ref ha)])) rfl rfl (hb hby d10_87)
  refine own_by (B := T12.setTop (mkF m 90 #[.val (.ref a), .val (.int x1), .val (.int x2), .unset] [(.int cnt), (.ref ha)])) (fun t k => st12 _ k) ?_
  refine own_by (B := T12.setTop (mkF m 91 #[.val (.ref a), .val (.int x1), .val (.int x2), .unset] [(.int (0 : Int32)), (.int cnt), (.ref ha)])) (fun t k => XS.iconst X12.here hx rfl (hb hby d10_90) k) ?_
  obtain ⟨cl13, Ar13, S13, H13⟩ := V_ha
  have hin13 : ¬ (cnt < 0 ∨ cl13.slots.size ≤ (cnt).toNatClampNeg) := own_in S13 hcn
  obtain ⟨T13, h13, X13, e13, W13, st13⟩ := stZ X12 hx hZ e12 Ar13 (j := cnt) hin13 (g := (mkF m 91 #[.val (.ref a), .val (.int x1), .val (.int x2), .unset] [(.int (0 : Int32)), (.int cnt), (.ref ha)])) rfl rfl (hb hby d10_91)
  replace V_ha : own_BA Z h10 ha .boolean 64 fh := ⟨cl13, Ar13, S13, H13⟩
  replace F_first_a : Fld Z h13 a "com/example/myriad_paths/myriadpaths/Conditions" "first" "[I" (.ref fa) := F_first_a.other W13 (Or.inl ne_a_ha)
  replace F_other_a : Fld Z h13 a "com/example/myriad_paths/myriadpaths/Conditions" "other" "[I" (.ref oa) := F_other_a.other W13 (Or.inl ne_a_ha)
  replace F_holds_a : Fld Z h13 a "com/example/myriad_paths/myriadpaths/Conditions" "holds" "[Z" (.ref ha) := F_holds_a.other W13 (Or.inl ne_a_ha)
  replace F_count_a : Fld Z h13 a "com/example/myriad_paths/myriadpaths/Conditions" "count" "I" (.int cnt) := F_count_a.other W13 (Or.inl ne_a_ha)
  replace V_fa : own_BA Z h13 fa .int 64 (own_up ff (cnt).toNatClampNeg x1) := V_fa.other W13 ne_fa_ha
  replace V_oa : own_BA Z h13 oa .int 64 (own_up fo (cnt).toNatClampNeg x2) := V_oa.other W13 ne_oa_ha
  replace V_ha : own_BA Z h13 ha .boolean 64 (own_up fh (cnt).toNatClampNeg (nar .boolean (0 : Int32))) := V_ha.same W13
  replace E_a : Exa Z h13 a "com/example/myriad_paths/myriadpaths/Conditions" := E_a.wr W13
  replace Zs : n0 ≤ h13.size := by rw [W13.size]; exact Zs
  replace K : Keep h0 h13 [a, fa, oa, ha] := K.wr W13 (Or.inl (List.mem_of_getElem? (i := 3) rfl))
  have NF := Fr.snoc X13 NF g_ha
  refine own_by (B := T13.setTop (mkF m 92 #[.val (.ref a), .val (.int x1), .val (.int x2), .unset] [])) (fun t k => st13 _ k) ?_
  refine own_by (B := T13.setTop (mkF m 93 #[.val (.ref a), .val (.int x1), .val (.int x2), .unset] [(.ref a)])) (fun t k => XS.aloadN X13.here hx rfl (hb hby d10_92) rfl rfl k) ?_
  refine own_by (B := T13.setTop (mkF m 94 #[.val (.ref a), .val (.int x1), .val (.int x2), .unset] [(.ref a), (.ref a)])) (fun t k => XS.dup X13.here hx rfl (hb hby d10_93) rfl rfl k) ?_
  obtain ⟨T14, X14, e14, st14⟩ := getF X13 hx hZ hown (host := "") (Or.inl (hw _ (List.mem_of_getElem? (i := 63) rfl))) Via.refl e13 F_count_a (g := (mkF m 94 #[.val (.ref a), .val (.int x1), .val (.int x2), .unset] [(.ref a), (.ref a)])) rfl rfl (hb hby d10_94)
  refine own_by (B := T14.setTop (mkF m 97 #[.val (.ref a), .val (.int x1), .val (.int x2), .unset] [(.int cnt), (.ref a)])) (fun t k => st14 _ k) ?_
  refine own_by (B := T14.setTop (mkF m 98 #[.val (.ref a), .val (.int x1), .val (.int x2), .unset] [(.int cnt), (.ref a), (.int cnt)])) (fun t k => XS.dupX1 X14.here hx rfl (hb hby d10_97) rfl rfl rfl k) ?_
  refine own_by (B := T14.setTop (mkF m 99 #[.val (.ref a), .val (.int x1), .val (.int x2), .unset] [(.int (1 : Int32)), (.int cnt), (.ref a), (.int cnt)])) (fun t k => XS.iconst X14.here hx rfl (hb hby d10_98) k) ?_
  refine own_by (B := T14.setTop (mkF m 100 #[.val (.ref a), .val (.int x1), .val (.int x2), .unset] [(.int (cnt + (1 : Int32))), (.ref a), (.int cnt)])) (fun t k => XS.iadd X14.here hx rfl (hb hby d10_99) rfl k) ?_
  obtain ⟨T15, h15, X15, e15, W15, st15⟩ := putF X14 hx hZ hown (host := "") (Or.inl (hw _ (List.mem_of_getElem? (i := 63) rfl))) Via.refl e14 F_count_a E_a (Or.inl (hw _ (List.mem_of_getElem? (i := 64) rfl))) (hw _ (List.mem_of_getElem? (i := 42) rfl)) (ty := .int) (by decide) rfl rfl (g := (mkF m 100 #[.val (.ref a), .val (.int x1), .val (.int x2), .unset] [(.int (cnt + (1 : Int32))), (.ref a), (.int cnt)])) rfl rfl (hb hby d10_100)
  replace F_first_a : Fld Z h15 a "com/example/myriad_paths/myriadpaths/Conditions" "first" "[I" (.ref fa) := F_first_a.other W15 (Or.inr (slot_ne (Or.inl (hw _ (List.mem_of_getElem? (i := 50) rfl))) (Or.inl (hw _ (List.mem_of_getElem? (i := 64) rfl))) (by decide) (t := (.array .int)) (t' := .int) (by decide) (by decide)))
  replace F_other_a : Fld Z h15 a "com/example/myriad_paths/myriadpaths/Conditions" "other" "[I" (.ref oa) := F_other_a.other W15 (Or.inr (slot_ne (Or.inl (hw _ (List.mem_of_getElem? (i := 52) rfl))) (Or.inl (hw _ (List.mem_of_getElem? (i := 64) rfl))) (by decide) (t := (.array .int)) (t' := .int) (by decide) (by decide)))
  replace F_holds_a : Fld Z h15 a "com/example/myriad_paths/myriadpaths/Conditions" "holds" "[Z" (.ref ha) := F_holds_a.other W15 (Or.inr (slot_ne (Or.inl (hw _ (List.mem_of_getElem? (i := 55) rfl))) (Or.inl (hw _ (List.mem_of_getElem? (i := 64) rfl))) (by decide) (t := (.array .boolean)) (t' := .int) (by decide) (by decide)))
  replace F_count_a : Fld Z h15 a "com/example/myriad_paths/myriadpaths/Conditions" "count" "I" (.int (cnt + (1 : Int32))) := F_count_a.same W15
  replace V_fa : own_BA Z h15 fa .int 64 (own_up ff (cnt).toNatClampNeg x1) := V_fa.other W15 (Ne.symm ne_a_fa)
  replace V_oa : own_BA Z h15 oa .int 64 (own_up fo (cnt).toNatClampNeg x2) := V_oa.other W15 (Ne.symm ne_a_oa)
  replace V_ha : own_BA Z h15 ha .boolean 64 (own_up fh (cnt).toNatClampNeg (nar .boolean (0 : Int32))) := V_ha.other W15 (Ne.symm ne_a_ha)
  replace E_a : Exa Z h15 a "com/example/myriad_paths/myriadpaths/Conditions" := E_a.wr W15
  replace Zs : n0 ≤ h15.size := by rw [W15.size]; exact Zs
  replace K : Keep h0 h15 [a, fa, oa, ha] := K.wr W15 (Or.inl (List.mem_of_getElem? (i := 0) rfl))
  have NF := Fr.snoc X15 NF g_a
  refine own_by (B := T15.setTop (mkF m 103 #[.val (.ref a), .val (.int x1), .val (.int x2), .unset] [(.int cnt)])) (fun t k => st15 _ k) ?_
  exact own_retI X15 hx hlk hret (hb hby d10_103) (by show own_Q10 Z a x1 x2 fa oa ha cnt ff fo fh h0 n0 _ _ _; rw [e15]; exact ⟨rfl, NF, K, F_first_a, F_other_a, F_holds_a, F_count_a, V_fa, V_oa, V_ha, E_a⟩) (by decide) (by decide)
theorem d9_0 : decode prog_17_method_3_code 0 = .ok (.aload_n 0, 1) := by decide +kernel
theorem d9_1 : decode prog_17_method_3_code 1 = .ok (.iload_n 1, 1) := by decide +kernel
theorem d9_2 : decode prog_17_method_3_code 2 = .ok (.iconst (-1), 1) := by decide +kernel
theorem d9_3 : decode prog_17_method_3_code 3 = .ok (.invokevirtual 33, 3) := by decide +kernel
theorem d9_6 : decode prog_17_method_3_code 6 = .ok (.ireturn, 1) := by decide +kernel
theorem pn_9 : plainName "com/example/myriad_paths/myriadpaths/Conditions" = true := by first | (simp [plainName, overriddenIn]; done) | decide +kernel
theorem ef_9 (m : MethodId) (x0 : Addr) (x1 : Int32) : entryFrame m #[(.ref x0), (.int x1)] 2 = mkF m 0 #[.val (.ref x0), .val (.int x1)] [] := by first | (simp [entryFrame, mkF, argsToLocals, Value.category]; done) | rfl
def own_Q9 (Z : State) (a : Addr) (x1 : Int32) (fa : Addr) (oa : Addr) (ha : Addr) (cnt : Int32) (ff : Nat → Int32) (fo : Nat → Int32) (fh : Nat → Int32) (h0 : Heap) (n0 : Nat) (v : Option Value) (h : Heap) (L : List Loc) : Prop := v = some (.int cnt) ∧ Fr n0 L ∧ Keep h0 h [a, fa, oa, ha] ∧ Fld Z h a "com/example/myriad_paths/myriadpaths/Conditions" "first" "[I" (.ref fa) ∧ Fld Z h a "com/example/myriad_paths/myriadpaths/Conditions" "other" "[I" (.ref oa) ∧ Fld Z h a "com/example/myriad_paths/myriadpaths/Conditions" "holds" "[Z" (.ref ha) ∧ Fld Z h a "com/example/myriad_paths/myriadpaths/Conditions" "count" "I" (.int (cnt + (1 : Int32))) ∧ own_BA Z h fa .int 64 (own_up ff (cnt).toNatClampNeg x1) ∧ own_BA Z h oa .int 64 (own_up fo (cnt).toNatClampNeg (-1 : Int32)) ∧ own_BA Z h ha .boolean 64 (own_up fh (cnt).toNatClampNeg (nar .boolean (0 : Int32))) ∧ Exa Z h a "com/example/myriad_paths/myriadpaths/Conditions"
set_option maxRecDepth 65536 in
set_option maxHeartbeats 40000000 in
theorem rm9 (l : Launch) (Z : State) (a0 : Array Value) (hw : ∀ d ∈ tables_1, d.before a0 Z = true) (ws : List Jvm.Cond) (a : Addr) (x1 : Int32) (fa : Addr) (oa : Addr) (ha : Addr) (cnt : Int32) (ff : Nat → Int32) (fo : Nat → Int32) (fh : Nat → Int32) (h0 : Heap) (n0 : Nat) (Z0 : n0 ≤ h0.size) (F_first_a : Fld Z h0 a "com/example/myriad_paths/myriadpaths/Conditions" "first" "[I" (.ref fa)) (F_other_a : Fld Z h0 a "com/example/myriad_paths/myriadpaths/Conditions" "other" "[I" (.ref oa)) (F_holds_a : Fld Z h0 a "com/example/myriad_paths/myriadpaths/Conditions" "holds" "[Z" (.ref ha)) (F_count_a : Fld Z h0 a "com/example/myriad_paths/myriadpaths/Conditions" "count" "I" (.int cnt)) (V_fa : own_BA Z h0 fa .int 64 ff) (V_oa : own_BA Z h0 oa .int 64 fo) (V_ha : own_BA Z h0 ha .boolean 64 fh) (E_a : Exa Z h0 a "com/example/myriad_paths/myriadpaths/Conditions") (g_a : n0 ≤ a) (g_fa : n0 ≤ fa) (g_oa : n0 ≤ oa) (g_ha : n0 ≤ ha) (ne_a_fa : a ≠ fa) (ne_a_oa : a ≠ oa) (ne_a_ha : a ≠ ha) (ne_fa_oa : fa ≠ oa) (ne_fa_ha : fa ≠ ha) (ne_oa_ha : oa ≠ ha) (hcn : ¬ cnt < 0 ∧ cnt.toNatClampNeg < 64) :
    MetFree l (⟨"com/example/myriad_paths/myriadpaths/Conditions", "await", "(I)I"⟩ : MethodName) (head1 (Jvm.Cond.code (⟨"com/example/myriad_paths/myriadpaths/Conditions", "await", "(I)I"⟩ : MethodName) prog_17_method_3_code 2 (some .int) :: ws) ({ frames := 1, cells := 0, slots := 0, locals := 15 } : Room)) (fun aa U => aa = #[(.ref a), (.int x1)] ∧ Z.Warmed39 U.vm ∧ U.heap = h0) (fun _ _ _ _ _ => True) (fun _ U o U' => ∃ v L, o = .returned v ∧ own_Q9 Z a x1 fa oa ha cnt ff fo fh h0 n0 v U'.heap L ∧ FrameEnd U o U' L ({ frames := 1, cells := 0, slots := 0, locals := 15 } : Room).cells ({ frames := 1, cells := 0, slots := 0, locals := 15 } : Room).slots) := by
  refine own_met (plainFor_of_name pn_9) fun p e s m below meth c T0 X0 hx hby hml hret hlk hZ hown hnm e0 => ?_
  refine own_cast (ef_9 m a x1) ?_
  have NF := Fr.nil n0
  have Zs := Z0
  have K := Keep.refl h0 [a, fa, oa, ha]
  refine own_by (B := T0.setTop (mkF m 1 #[.val (.ref a), .val (.int x1)] [(.ref a)])) (fun t k => XS.aloadN X0.here hx rfl (hb hby d9_0) rfl rfl k) ?_
  refine own_by (B := T0.setTop (mkF m 2 #[.val (.ref a), .val (.int x1)] [(.int x1), (.ref a)])) (fun t k => XS.iloadN X0.here hx rfl (hb hby d9_1) rfl k) ?_
  refine own_by (B := T0.setTop (mkF m 3 #[.val (.ref a), .val (.int x1)] [(.int (-1 : Int32)), (.int x1), (.ref a)])) (fun t k => XS.iconst X0.here hx rfl (hb hby d9_2) k) ?_
  obtain ⟨cq1, q1, q1'⟩ := E_a.cell
  obtain ⟨v1, _, ⟨T1, L1, c1, n1⟩, -, X1, ⟨Lc1, hQ1, l1, y1, z1⟩, st1⟩ := X0.privateBack hx (y := (⟨"com/example/myriad_paths/myriadpaths/Conditions", "add", "(II)I"⟩ : MethodName)) hown (mvT hZ (hw _ (List.mem_of_getElem? (i := 70) rfl))) (mvT hZ (hw _ (List.mem_of_getElem? (i := 71) rfl))) (own_selPriv (y := (⟨"com/example/myriad_paths/myriadpaths/Conditions", "add", "(II)I"⟩ : MethodName)) (mvT hZ (hw _ (List.mem_of_getElem? (i := 61) rfl)) (args := #[])) rfl (Cond.privateMethod_at (mvP hZ (hw _ (List.mem_of_getElem? (i := 72) rfl)) (args := #[]))) (mvT hZ (hw _ (List.mem_of_getElem? (i := 71) rfl))) (by decide)) (Cond.privateMethod_at (mvP hZ (hw _ (List.mem_of_getElem? (i := 72) rfl)) (args := #[]))) (mvT hZ (hw _ (List.mem_of_getElem? (i := 73) rfl))) (by decide) (backOf (W := 0) (rm10 l Z a0 hw [] a x1 (-1 : Int32) fa oa ha cnt ff fo fh h0 n0 Zs F_first_a F_other_a F_holds_a F_count_a V_fa V_oa V_ha E_a g_a g_fa g_oa g_ha ne_a_fa ne_a_oa ne_a_ha ne_fa_oa ne_fa_ha ne_oa_ha hcn) hZ (hw _ (List.mem_of_getElem? (i := 73) rfl)) (hw _ (List.mem_of_getElem? (i := 43) rfl)) (by decide) (by decide)) (g := (mkF m 3 #[.val (.ref a), .val (.int x1)] [(.int (-1 : Int32)), (.int x1), (.ref a)])) rfl (by rw [hml]; rfl) (Steps.refl _) (a := a) (by rw [e0]; exact q1) q1' (argsL := [(.int x1), (.int (-1 : Int32))]) (rest := []) (lenOf pd_2 rfl) rfl (by show 2 * 0 + _ ≤ _; exact Nat.le_of_eq rfl) (hb hby d9_3) (fun _ _ => ⟨rfl, e0, (by decide : 0 + 0 ≤ _), (by decide : 0 + 0 ≤ _)⟩)
  dsimp only [Pt.U, Pt.locs, Pt.cells, Pt.slots] at X1 l1 y1 z1 st1 hQ1
  subst l1 y1 z1
  obtain ⟨rfl, Nq1, Kq1, o0_1, o1_1, o2_1, o3_1, o4_1, o5_1, o6_1, o7_1⟩ := hQ1
  have NF := Fr.app NF Nq1
  clear F_first_a
  clear F_other_a
  clear F_holds_a
  clear F_count_a
  clear V_fa
  clear V_oa
  clear V_ha
  replace E_a : Exa Z T1.heap a "com/example/myriad_paths/myriadpaths/Conditions" := E_a.keep Kq1
  replace Zs : n0 ≤ T1.heap.size := Nat.le_trans Zs Kq1.1
  replace K : Keep h0 T1.heap [a, fa, oa, ha] := K.trans Kq1 (allS (Or.inl (List.mem_of_getElem? (i := 0) rfl)) (allS (Or.inl (List.mem_of_getElem? (i := 1) rfl)) (allS (Or.inl (List.mem_of_getElem? (i := 2) rfl)) (allS (Or.inl (List.mem_of_getElem? (i := 3) rfl)) all0))))
  have F_first_a : Fld Z T1.heap a "com/example/myriad_paths/myriadpaths/Conditions" "first" "[I" (.ref fa) := o0_1
  have F_other_a : Fld Z T1.heap a "com/example/myriad_paths/myriadpaths/Conditions" "other" "[I" (.ref oa) := o1_1
  have F_holds_a : Fld Z T1.heap a "com/example/myriad_paths/myriadpaths/Conditions" "holds" "[Z" (.ref ha) := o2_1
  have F_count_a : Fld Z T1.heap a "com/example/myriad_paths/myriadpaths/Conditions" "count" "I" (.int (cnt + (1 : Int32))) := o3_1
  have V_fa : own_BA Z T1.heap fa .int 64 (own_up ff (cnt).toNatClampNeg x1) := o4_1
  have V_oa : own_BA Z T1.heap oa .int 64 (own_up fo (cnt).toNatClampNeg (-1 : Int32)) := o5_1
  have V_ha : own_BA Z T1.heap ha .boolean 64 (own_up fh (cnt).toNatClampNeg (nar .boolean (0 : Int32))) := o6_1
  have E_a : Exa Z T1.heap a "com/example/myriad_paths/myriadpaths/Conditions" := o7_1
  refine own_by (B := T1.setTop (mkF m 6 #[.val (.ref a), .val (.int x1)] [(.int cnt)])) (fun t k => st1.trans k) ?_
  exact own_retI X1 hx hlk hret (hb hby d9_6) (by show own_Q9 Z a x1 fa oa ha cnt ff fo fh h0 n0 _ _ _; exact ⟨rfl, NF, K, F_first_a, F_other_a, F_holds_a, F_count_a, V_fa, V_oa, V_ha, E_a⟩) (by decide) (by decide)
theorem d11_0 : decode prog_17_method_5_code 0 = .ok (.iload_n 1, 1) := by decide +kernel
theorem d11_1 : decode prog_17_method_5_code 1 = .ok (.ifCond .eq 7, 3) := by decide +kernel
theorem d11_4 : decode prog_17_method_5_code 4 = .ok (.iload_n 2, 1) := by decide +kernel
theorem d11_5 : decode prog_17_method_5_code 5 = .ok (.ifCond .ne 8, 3) := by decide +kernel
theorem d11_13 : decode prog_17_method_5_code 13 = .ok (.iload_n 1, 1) := by decide +kernel
theorem d11_14 : decode prog_17_method_5_code 14 = .ok (.iload_n 2, 1) := by decide +kernel
theorem d11_15 : decode prog_17_method_5_code 15 = .ok (.if_icmp .ne 8, 3) := by decide +kernel
theorem d11_23 : decode prog_17_method_5_code 23 = .ok (.aload_n 0, 1) := by decide +kernel
theorem d11_24 : decode prog_17_method_5_code 24 = .ok (.iload_n 1, 1) := by decide +kernel
theorem d11_25 : decode prog_17_method_5_code 25 = .ok (.iload_n 2, 1) := by decide +kernel
theorem d11_26 : decode prog_17_method_5_code 26 = .ok (.invokevirtual 33, 3) := by decide +kernel
theorem d11_29 : decode prog_17_method_5_code 29 = .ok (.istore_n 3, 1) := by decide +kernel
theorem d11_30 : decode prog_17_method_5_code 30 = .ok (.iload_n 3, 1) := by decide +kernel
theorem d11_31 : decode prog_17_method_5_code 31 = .ok (.ireturn, 1) := by decide +kernel
theorem pn_11 : plainName "com/example/myriad_paths/myriadpaths/Conditions" = true := by first | (simp [plainName, overriddenIn]; done) | decide +kernel
theorem ef_11 (m : MethodId) (x0 : Addr) (x1 : Int32) (x2 : Int32) : entryFrame m #[(.ref x0), (.int x1), (.int x2)] 4 = mkF m 0 #[.val (.ref x0), .val (.int x1), .val (.int x2), .unset] [] := by first | (simp [entryFrame, mkF, argsToLocals, Value.category]; done) | rfl
def own_Q11 (Z : State) (a : Addr) (x1 : Int32) (x2 : Int32) (fa : Addr) (oa : Addr) (ha : Addr) (cnt : Int32) (ff : Nat → Int32) (fo : Nat → Int32) (fh : Nat → Int32) (h0 : Heap) (n0 : Nat) (v : Option Value) (h : Heap) (L : List Loc) : Prop := v = some (.int cnt) ∧ Fr n0 L ∧ Keep h0 h [a, fa, oa, ha] ∧ Fld Z h a "com/example/myriad_paths/myriadpaths/Conditions" "first" "[I" (.ref fa) ∧ Fld Z h a "com/example/myriad_paths/myriadpaths/Conditions" "other" "[I" (.ref oa) ∧ Fld Z h a "com/example/myriad_paths/myriadpaths/Conditions" "holds" "[Z" (.ref ha) ∧ Fld Z h a "com/example/myriad_paths/myriadpaths/Conditions" "count" "I" (.int (cnt + (1 : Int32))) ∧ own_BA Z h fa .int 64 (own_up ff (cnt).toNatClampNeg x1) ∧ own_BA Z h oa .int 64 (own_up fo (cnt).toNatClampNeg x2) ∧ own_BA Z h ha .boolean 64 (own_up fh (cnt).toNatClampNeg (nar .boolean (0 : Int32))) ∧ Exa Z h a "com/example/myriad_paths/myriadpaths/Conditions"
set_option maxRecDepth 65536 in
set_option maxHeartbeats 40000000 in
theorem rm11 (l : Launch) (Z : State) (a0 : Array Value) (hw : ∀ d ∈ tables_1, d.before a0 Z = true) (ws : List Jvm.Cond) (a : Addr) (x1 : Int32) (x2 : Int32) (fa : Addr) (oa : Addr) (ha : Addr) (cnt : Int32) (ff : Nat → Int32) (fo : Nat → Int32) (fh : Nat → Int32) (h0 : Heap) (n0 : Nat) (Z0 : n0 ≤ h0.size) (F_first_a : Fld Z h0 a "com/example/myriad_paths/myriadpaths/Conditions" "first" "[I" (.ref fa)) (F_other_a : Fld Z h0 a "com/example/myriad_paths/myriadpaths/Conditions" "other" "[I" (.ref oa)) (F_holds_a : Fld Z h0 a "com/example/myriad_paths/myriadpaths/Conditions" "holds" "[Z" (.ref ha)) (F_count_a : Fld Z h0 a "com/example/myriad_paths/myriadpaths/Conditions" "count" "I" (.int cnt)) (V_fa : own_BA Z h0 fa .int 64 ff) (V_oa : own_BA Z h0 oa .int 64 fo) (V_ha : own_BA Z h0 ha .boolean 64 fh) (E_a : Exa Z h0 a "com/example/myriad_paths/myriadpaths/Conditions") (g_a : n0 ≤ a) (g_fa : n0 ≤ fa) (g_oa : n0 ≤ oa) (g_ha : n0 ≤ ha) (ne_a_fa : a ≠ fa) (ne_a_oa : a ≠ oa) (ne_a_ha : a ≠ ha) (ne_fa_oa : fa ≠ oa) (ne_fa_ha : fa ≠ ha) (ne_oa_ha : oa ≠ ha) (hcn : ¬ cnt < 0 ∧ cnt.toNatClampNeg < 64) (hz1 : ¬ x1 = (0 : Int32)) (hz2 : ¬ x2 = (0 : Int32)) (hz3 : ¬ x1 = x2) :
    MetFree l (⟨"com/example/myriad_paths/myriadpaths/Conditions", "either", "(II)I"⟩ : MethodName) (head1 (Jvm.Cond.code (⟨"com/example/myriad_paths/myriadpaths/Conditions", "either", "(II)I"⟩ : MethodName) prog_17_method_5_code 4 (some .int) :: ws) ({ frames := 1, cells := 0, slots := 0, locals := 15 } : Room)) (fun aa U => aa = #[(.ref a), (.int x1), (.int x2)] ∧ Z.Warmed39 U.vm ∧ U.heap = h0) (fun _ _ _ _ _ => True) (fun _ U o U' => ∃ v L, o = .returned v ∧ own_Q11 Z a x1 x2 fa oa ha cnt ff fo fh h0 n0 v U'.heap L ∧ FrameEnd U o U' L ({ frames := 1, cells := 0, slots := 0, locals := 15 } : Room).cells ({ frames := 1, cells := 0, slots := 0, locals := 15 } : Room).slots) := by
  refine own_met (plainFor_of_name pn_11) fun p e s m below meth c T0 X0 hx hby hml hret hlk hZ hown hnm e0 => ?_
  refine own_cast (ef_11 m a x1 x2) ?_
  have NF := Fr.nil n0
  have Zs := Z0
  have K := Keep.refl h0 [a, fa, oa, ha]
  refine own_by (B := T0.setTop (mkF m 1 #[.val (.ref a), .val (.int x1), .val (.int x2), .unset] [(.int x1)])) (fun t k => XS.iloadN X0.here hx rfl (hb hby d11_0) rfl k) ?_
  have hc1 : ¬ (x1 = (0 : Int32)) := hz1
  refine own_by (B := T0.setTop (mkF m 4 #[.val (.ref a), .val (.int x1), .val (.int x2), .unset] [])) (fun t k => XS.ifNo X0.here hx rfl (hb hby d11_1) rfl ((if0 _ _).trans (feq hc1).1) k) ?_
  refine own_by (B := T0.setTop (mkF m 5 #[.val (.ref a), .val (.int x1), .val (.int x2), .unset] [(.int x2)])) (fun t k => XS.iloadN X0.here hx rfl (hb hby d11_4) rfl k) ?_
  have hc2 : ¬ (x2 = (0 : Int32)) := hz2
  refine own_by (B := T0.setTop (mkF m 13 #[.val (.ref a), .val (.int x1), .val (.int x2), .unset] [])) (fun t k => XS.ifYes X0.here hx rfl (pc0 := 5) (pc' := 13) rfl (hb hby d11_5) rfl ((if0 _ _).trans (feq hc2).2) (by decide) (by decide) k) ?_
  refine own_by (B := T0.setTop (mkF m 14 #[.val (.ref a), .val (.int x1), .val (.int x2), .unset] [(.int x1)])) (fun t k => XS.iloadN X0.here hx rfl (hb hby d11_13) rfl k) ?_
  refine own_by (B := T0.setTop (mkF m 15 #[.val (.ref a), .val (.int x1), .val (.int x2), .unset] [(.int x2), (.int x1)])) (fun t k => XS.iloadN X0.here hx rfl (hb hby d11_14) rfl k) ?_
  have hc3 : ¬ (x1 = x2) := hz3
  refine own_by (B := T0.setTop (mkF m 23 #[.val (.ref a), .val (.int x1), .val (.int x2), .unset] [])) (fun t k => XS.icmpYes X0.here hx rfl (pc0 := 15) (pc' := 23) rfl (hb hby d11_15) rfl (feq hc3).2 (by decide) (by decide) k) ?_
  refine own_by (B := T0.setTop (mkF m 24 #[.val (.ref a), .val (.int x1), .val (.int x2), .unset] [(.ref a)])) (fun t k => XS.aloadN X0.here hx rfl (hb hby d11_23) rfl rfl k) ?_
  refine own_by (B := T0.setTop (mkF m 25 #[.val (.ref a), .val (.int x1), .val (.int x2), .unset] [(.int x1), (.ref a)])) (fun t k => XS.iloadN X0.here hx rfl (hb hby d11_24) rfl k) ?_
  refine own_by (B := T0.setTop (mkF m 26 #[.val (.ref a), .val (.int x1), .val (.int x2), .unset] [(.int x2), (.int x1), (.ref a)])) (fun t k => XS.iloadN X0.here hx rfl (hb hby d11_25) rfl k) ?_
  obtain ⟨cq4, q4, q4'⟩ := E_a.cell
  obtain ⟨v4, _, ⟨T4, L4, c4, n4⟩, -, X4, ⟨Lc4, hQ4, l4, y4, z4⟩, st4⟩ := X0.privateBack hx (y := (⟨"com/example/myriad_paths/myriadpaths/Conditions", "add", "(II)I"⟩ : MethodName)) hown (mvT hZ (hw _ (List.mem_of_getElem? (i := 70) rfl))) (mvT hZ (hw _ (List.mem_of_getElem? (i := 71) rfl))) (own_selPriv (y := (⟨"com/example/myriad_paths/myriadpaths/Conditions", "add", "(II)I"⟩ : MethodName)) (mvT hZ (hw _ (List.mem_of_getElem? (i := 61) rfl)) (args := #[])) rfl (Cond.privateMethod_at (mvP hZ (hw _ (List.mem_of_getElem? (i := 72) rfl)) (args := #[]))) (mvT hZ (hw _ (List.mem_of_getElem? (i := 71) rfl))) (by decide)) (Cond.privateMethod_at (mvP hZ (hw _ (List.mem_of_getElem? (i := 72) rfl)) (args := #[]))) (mvT hZ (hw _ (List.mem_of_getElem? (i := 73) rfl))) (by decide) (backOf (W := 0) (rm10 l Z a0 hw [] a x1 x2 fa oa ha cnt ff fo fh h0 n0 Zs F_first_a F_other_a F_holds_a F_count_a V_fa V_oa V_ha E_a g_a g_fa g_oa g_ha ne_a_fa ne_a_oa ne_a_ha ne_fa_oa ne_fa_ha ne_oa_ha hcn) hZ (hw _ (List.mem_of_getElem? (i := 73) rfl)) (hw _ (List.mem_of_getElem? (i := 43) rfl)) (by decide) (by decide)) (g := (mkF m 26 #[.val (.ref a), .val (.int x1), .val (.int x2), .unset] [(.int x2), (.int x1), (.ref a)])) rfl (by rw [hml]; rfl) (Steps.refl _) (a := a) (by rw [e0]; exact q4) q4' (argsL := [(.int x1), (.int x2)]) (rest := []) (lenOf pd_2 rfl) rfl (by show 2 * 0 + _ ≤ _; exact Nat.le_of_eq rfl) (hb hby d11_26) (fun _ _ => ⟨rfl, e0, (by decide : 0 + 0 ≤ _), (by decide : 0 + 0 ≤ _)⟩)
  dsimp only [Pt.U, Pt.locs, Pt.cells, Pt.slots] at X4 l4 y4 z4 st4 hQ4
  subst l4 y4 z4
  obtain ⟨rfl, Nq4, Kq4, o0_4, o1_4, o2_4, o3_4, o4_4, o5_4, o6_4, o7_4⟩ := hQ4
  have NF := Fr.app NF Nq4
  clear F_first_a
  clear F_other_a
  clear F_holds_a
  clear F_count_a
  clear V_fa
  clear V_oa
  clear V_ha
  replace E_a : Exa Z T4.heap a "com/example/myriad_paths/myriadpaths/Conditions" := E_a.keep Kq4
  replace Zs : n0 ≤ T4.heap.size := Nat.le_trans Zs Kq4.1
  replace K : Keep h0 T4.heap [a, fa, oa, ha] := K.trans Kq4 (allS (Or.inl (List.mem_of_getElem? (i := 0) rfl)) (allS (Or.inl (List.mem_of_getElem? (i := 1) rfl)) (allS (Or.inl (List.mem_of_getElem? (i := 2) rfl)) (allS (Or.inl (List.mem_of_getElem? (i := 3) rfl)) all0))))
  have F_first_a : Fld Z T4.heap a "com/example/myriad_paths/myriadpaths/Conditions" "first" "[I" (.ref fa) := o0_4
  have F_other_a : Fld Z T4.heap a "com/example/myriad_paths/myriadpaths/Conditions" "other" "[I" (.ref oa) := o1_4
  have F_holds_a : Fld Z T4.heap a "com/example/myriad_paths/myriadpaths/Conditions" "holds" "[Z" (.ref ha) := o2_4
  have F_count_a : Fld Z T4.heap a "com/example/myriad_paths/myriadpaths/Conditions" "count" "I" (.int (cnt + (1 : Int32))) := o3_4
  have V_fa : own_BA Z T4.heap fa .int 64 (own_up ff (cnt).toNatClampNeg x1) := o4_4
  have V_oa : own_BA Z T4.heap oa .int 64 (own_up fo (cnt).toNatClampNeg x2) := o5_4
  have V_ha : own_BA Z T4.heap ha .boolean 64 (own_up fh (cnt).toNatClampNeg (nar .boolean (0 : Int32))) := o6_4
  have E_a : Exa Z T4.heap a "com/example/myriad_paths/myriadpaths/Conditions" := o7_4
  refine own_by (B := T4.setTop (mkF m 29 #[.val (.ref a), .val (.int x1), .val (.int x2), .unset] [(.int cnt)])) (fun t k => st4.trans k) ?_
  refine own_by (B := T4.setTop (mkF m 30 #[.val (.ref a), .val (.int x1), .val (.int x2), .val (.int cnt)] [])) (fun t k => XS.istoreN X4.here hx rfl (hb hby d11_29) rfl (l' := #[.val (.ref a), .val (.int x1), .val (.int x2), .val (.int cnt)]) rfl k) ?_
  refine own_by (B := T4.setTop (mkF m 31 #[.val (.ref a), .val (.int x1), .val (.int x2), .val (.int cnt)] [(.int cnt)])) (fun t k => XS.iloadN X4.here hx rfl (hb hby d11_30) rfl k) ?_
  exact own_retI X4 hx hlk hret (hb hby d11_31) (by show own_Q11 Z a x1 x2 fa oa ha cnt ff fo fh h0 n0 _ _ _; exact ⟨rfl, NF, K, F_first_a, F_other_a, F_holds_a, F_count_a, V_fa, V_oa, V_ha, E_a⟩) (by decide) (by decide)
theorem d12_0 : decode prog_17_method_4_code 0 = .ok (.aload_n 0, 1) := by decide +kernel
theorem d12_1 : decode prog_17_method_4_code 1 = .ok (.getfield 18, 3) := by decide +kernel
theorem d12_4 : decode prog_17_method_4_code 4 = .ok (.iload_n 1, 1) := by decide +kernel
theorem d12_5 : decode prog_17_method_4_code 5 = .ok (.iload_n 2, 1) := by decide +kernel
theorem d12_6 : decode prog_17_method_4_code 6 = .ok (.bastore, 1) := by decide +kernel
theorem d12_7 : decode prog_17_method_4_code 7 = .ok (.return_, 1) := by decide +kernel
theorem pn_12 : plainName "com/example/myriad_paths/myriadpaths/Conditions" = true := by first | (simp [plainName, overriddenIn]; done) | decide +kernel
theorem ef_12 (m : MethodId) (x0 : Addr) (x1 : Int32) (x2 : Int32) : entryFrame m #[(.ref x0), (.int x1), (.int x2)] 3 = mkF m 0 #[.val (.ref x0), .val (.int x1), .val (.int x2)] [] := by first | (simp [entryFrame, mkF, argsToLocals, Value.category]; done) | rfl
def own_Q12 (Z : State) (a : Addr) (x1 : Int32) (x2 : Int32) (ha : Addr) (fh : Nat → Int32) (h0 : Heap) (n0 : Nat) (v : Option Value) (h : Heap) (L : List Loc) : Prop := v = none ∧ Fr n0 L ∧ Keep h0 h [ha] ∧ own_BA Z h ha .boolean 64 (own_up fh (x1).toNatClampNeg (nar .boolean x2))
set_option maxRecDepth 65536 in
set_option maxHeartbeats 40000000 in
theorem rm12 (l : Launch) (Z : State) (a0 : Array Value) (hw : ∀ d ∈ tables_1, d.before a0 Z = true) (ws : List Jvm.Cond) (a : Addr) (x1 : Int32) (x2 : Int32) (ha : Addr) (fh : Nat → Int32) (h0 : Heap) (n0 : Nat) (Z0 : n0 ≤ h0.size) (F_holds_a : Fld Z h0 a "com/example/myriad_paths/myriadpaths/Conditions" "holds" "[Z" (.ref ha)) (V_ha : own_BA Z h0 ha .boolean 64 fh) (g_ha : n0 ≤ ha) (ne_a_ha : a ≠ ha) (hix : ¬ x1 < 0 ∧ x1.toNatClampNeg < 64) :
    MetFree l (⟨"com/example/myriad_paths/myriadpaths/Conditions", "decide", "(IZ)V"⟩ : MethodName) (head1 (Jvm.Cond.code (⟨"com/example/myriad_paths/myriadpaths/Conditions", "decide", "(IZ)V"⟩ : MethodName) prog_17_method_4_code 3 none :: ws) ({ frames := 0, cells := 0, slots := 0, locals := 0 } : Room)) (fun aa U => aa = #[(.ref a), (.int x1), (.int x2)] ∧ Z.Warmed39 U.vm ∧ U.heap = h0) (fun _ _ _ _ _ => True) (fun _ U o U' => ∃ v L, o = .returned v ∧ own_Q12 Z a x1 x2 ha fh h0 n0 v U'.heap L ∧ FrameEnd U o U' L ({ frames := 0, cells := 0, slots := 0, locals := 0 } : Room).cells ({ frames := 0, cells := 0, slots := 0, locals := 0 } : Room).slots) := by
  refine own_met (plainFor_of_name pn_12) fun p e s m below meth c T0 X0 hx hby hml hret hlk hZ hown hnm e0 => ?_
  refine own_cast (ef_12 m a x1 x2) ?_
  have NF := Fr.nil n0
  have Zs := Z0
  have K := Keep.refl h0 [ha]
  refine own_by (B := T0.setTop (mkF m 1 #[.val (.ref a), .val (.int x1), .val (.int x2)] [(.ref a)])) (fun t k => XS.aloadN X0.here hx rfl (hb hby d12_0) rfl rfl k) ?_
  obtain ⟨T1, X1, e1, st1⟩ := getF X0 hx hZ hown (host := "") (Or.inl (hw _ (List.mem_of_getElem? (i := 54) rfl))) Via.refl e0 F_holds_a (g := (mkF m 1 #[.val (.ref a), .val (.int x1), .val (.int x2)] [(.ref a)])) rfl rfl (hb hby d12_1)
  refine own_by (B := T1.setTop (mkF m 4 #[.val (.ref a), .val (.int x1), .val (.int x2)] [(.ref ha)])) (fun t k => st1 _ k) ?_
  refine own_by (B := T1.setTop (mkF m 5 #[.val (.ref a), .val (.int x1), .val (.int x2)] [(.int x1), (.ref ha)])) (fun t k => XS.iloadN X1.here hx rfl (hb hby d12_4) rfl k) ?_
  refine own_by (B := T1.setTop (mkF m 6 #[.val (.ref a), .val (.int x1), .val (.int x2)] [(.int x2), (.int x1), (.ref ha)])) (fun t k => XS.iloadN X1.here hx rfl (hb hby d12_5) rfl k) ?_
  obtain ⟨cl2, Ar2, S2, H2⟩ := V_ha
  have hin2 : ¬ (x1 < 0 ∨ cl2.slots.size ≤ (x1).toNatClampNeg) := own_in S2 hix
  obtain ⟨T2, h2, X2, e2, W2, st2⟩ := stZ X1 hx hZ e1 Ar2 (j := x1) hin2 (g := (mkF m 6 #[.val (.ref a), .val (.int x1), .val (.int x2)] [(.int x2), (.int x1), (.ref ha)])) rfl rfl (hb hby d12_6)
  replace V_ha : own_BA Z h0 ha .boolean 64 fh := ⟨cl2, Ar2, S2, H2⟩
  replace F_holds_a : Fld Z h2 a "com/example/myriad_paths/myriadpaths/Conditions" "holds" "[Z" (.ref ha) := F_holds_a.other W2 (Or.inl ne_a_ha)
  replace V_ha : own_BA Z h2 ha .boolean 64 (own_up fh (x1).toNatClampNeg (nar .boolean x2)) := V_ha.same W2
  replace Zs : n0 ≤ h2.size := by rw [W2.size]; exact Zs
  replace K : Keep h0 h2 [ha] := K.wr W2 (Or.inl (List.mem_of_getElem? (i := 0) rfl))
  have NF := Fr.snoc X2 NF g_ha
  refine own_by (B := T2.setTop (mkF m 7 #[.val (.ref a), .val (.int x1), .val (.int x2)] [])) (fun t k => st2 _ k) ?_
  exact own_ret X2 hx hlk hret (hb hby d12_7) (by show own_Q12 Z a x1 x2 ha fh h0 n0 _ _ _; rw [e2]; exact ⟨rfl, NF, K, V_ha⟩) (by decide) (by decide)
def own_and (x y : Int32) : Int32 := if x = (0 : Int32) then (0 : Int32) else (if y = (0 : Int32) then (0 : Int32) else (1 : Int32))
def own_or (x y : Int32) : Int32 := if x = (0 : Int32) then (if y = (0 : Int32) then (0 : Int32) else (1 : Int32)) else (1 : Int32)
def own_stA (ff fh : Nat → Int32) (i : Int32) : Nat → Int32 := own_up fh i.toNatClampNeg (nar .boolean (own_and (fh i.toNatClampNeg) (fh (ff i.toNatClampNeg).toNatClampNeg)))
def own_stO (ff fo fh : Nat → Int32) (i : Int32) : Nat → Int32 := own_up fh i.toNatClampNeg (nar .boolean (own_or (fh (ff i.toNatClampNeg).toNatClampNeg) (fh (fo i.toNatClampNeg).toNatClampNeg)))
theorem d13_2 : decode prog_17_method_6_code 2 = .ok (.iload_n 1, 1) := by decide +kernel
theorem d13_3 : decode prog_17_method_6_code 3 = .ok (.aload_n 0, 1) := by decide +kernel
theorem d13_4 : decode prog_17_method_6_code 4 = .ok (.getfield 29, 3) := by decide +kernel
theorem d13_7 : decode prog_17_method_6_code 7 = .ok (.if_icmp .ge 95, 3) := by decide +kernel
theorem d13_10 : decode prog_17_method_6_code 10 = .ok (.aload_n 0, 1) := by decide +kernel
theorem d13_11 : decode prog_17_method_6_code 11 = .ok (.getfield 15, 3) := by decide +kernel
theorem d13_14 : decode prog_17_method_6_code 14 = .ok (.iload_n 1, 1) := by decide +kernel
theorem d13_15 : decode prog_17_method_6_code 15 = .ok (.iaload, 1) := by decide +kernel
theorem d13_16 : decode prog_17_method_6_code 16 = .ok (.iconst (-1), 1) := by decide +kernel
theorem d13_17 : decode prog_17_method_6_code 17 = .ok (.if_icmp .ne 40, 3) := by decide +kernel
theorem d13_20 : decode prog_17_method_6_code 20 = .ok (.aload_n 0, 1) := by decide +kernel
theorem d13_21 : decode prog_17_method_6_code 21 = .ok (.getfield 18, 3) := by decide +kernel
theorem d13_24 : decode prog_17_method_6_code 24 = .ok (.iload_n 1, 1) := by decide +kernel
theorem d13_25 : decode prog_17_method_6_code 25 = .ok (.aload_n 0, 1) := by decide +kernel
theorem d13_26 : decode prog_17_method_6_code 26 = .ok (.getfield 18, 3) := by decide +kernel
theorem d13_29 : decode prog_17_method_6_code 29 = .ok (.iload_n 1, 1) := by decide +kernel
theorem d13_30 : decode prog_17_method_6_code 30 = .ok (.baload, 1) := by decide +kernel
theorem d13_31 : decode prog_17_method_6_code 31 = .ok (.ifCond .eq 21, 3) := by decide +kernel
theorem d13_34 : decode prog_17_method_6_code 34 = .ok (.aload_n 0, 1) := by decide +kernel
theorem d13_35 : decode prog_17_method_6_code 35 = .ok (.getfield 18, 3) := by decide +kernel
theorem d13_38 : decode prog_17_method_6_code 38 = .ok (.aload_n 0, 1) := by decide +kernel
theorem d13_39 : decode prog_17_method_6_code 39 = .ok (.getfield 9, 3) := by decide +kernel
theorem d13_42 : decode prog_17_method_6_code 42 = .ok (.iload_n 1, 1) := by decide +kernel
theorem d13_43 : decode prog_17_method_6_code 43 = .ok (.iaload, 1) := by decide +kernel
theorem d13_44 : decode prog_17_method_6_code 44 = .ok (.baload, 1) := by decide +kernel
theorem d13_45 : decode prog_17_method_6_code 45 = .ok (.ifCond .eq 7, 3) := by decide +kernel
theorem d13_48 : decode prog_17_method_6_code 48 = .ok (.iconst 1, 1) := by decide +kernel
theorem d13_49 : decode prog_17_method_6_code 49 = .ok (.goto 4, 3) := by decide +kernel
theorem d13_52 : decode prog_17_method_6_code 52 = .ok (.iconst 0, 1) := by decide +kernel
theorem d13_53 : decode prog_17_method_6_code 53 = .ok (.bastore, 1) := by decide +kernel
theorem d13_54 : decode prog_17_method_6_code 54 = .ok (.goto 42, 3) := by decide +kernel
theorem d13_96 : decode prog_17_method_6_code 96 = .ok (.iinc 1 1, 3) := by decide +kernel
theorem d13_99 : decode prog_17_method_6_code 99 = .ok (.goto (-97), 3) := by decide +kernel
set_option maxRecDepth 65536 in
set_option maxHeartbeats 40000000 in
theorem tnA (l : Launch) (Z : State) (a0 : Array Value) (hw : ∀ d ∈ tables_1, d.before a0 Z = true) (h0 : Heap) (n0 : Nat) (Z0 : n0 ≤ h0.size) {p : Program} {e : Env} {s : State} {m : MethodId} {args : Array Value} {below : List Frame} {meth : Method} {c : Code} {T0 : State} {locs : List Loc} {Q : Option Value → Heap → List Loc → Prop} (a : Addr) (fa : Addr) (oa : Addr) (ha : Addr) (cnt : Int32) (ff : Nat → Int32) (fo : Nat → Int32) (fh : Nat → Int32) (ii : Int32) (F_count_a : Fld Z h0 a "com/example/myriad_paths/myriadpaths/Conditions" "count" "I" (.int cnt)) (F_other_a : Fld Z h0 a "com/example/myriad_paths/myriadpaths/Conditions" "other" "[I" (.ref oa)) (F_first_a : Fld Z h0 a "com/example/myriad_paths/myriadpaths/Conditions" "first" "[I" (.ref fa)) (F_holds_a : Fld Z h0 a "com/example/myriad_paths/myriadpaths/Conditions" "holds" "[Z" (.ref ha)) (V_fa : own_BA Z h0 fa .int 64 ff) (V_oa : own_BA Z h0 oa .int 64 fo) (V_ha : own_BA Z h0 ha .boolean 64 fh) (g_ha : n0 ≤ ha) (ne_a_ha : a ≠ ha) (ne_fa_ha : fa ≠ ha) (ne_oa_ha : oa ≠ ha) (hlt : ii < cnt) (hix : ¬ ii < 0 ∧ ii.toNatClampNeg < 64) (hif : ¬ (ff ii.toNatClampNeg) < 0 ∧ (ff ii.toNatClampNeg).toNatClampNeg < 64) (hko : (fo ii.toNatClampNeg) = (-1 : Int32)) (cont : ∀ (T1 : State) (h1 : Heap) (locs1 : List Loc), Stand p l e ({ frames := 0, cells := 0, slots := 0, locals := 0 } : Room) s m args below meth c T1 locs1 0 0 → T1.heap = h1 → Fr n0 locs1 → n0 ≤ h1.size → Keep h0 h1 [ha] → own_BA Z h1 ha .boolean 64 (own_stA ff fh ii) → own_Go p e below s Q 0 0 (T1.setTop (mkF m 2 #[.val (.ref a), .val (.int (ii + (1 : Int32)))] [])))
    (X0 : Stand p l e ({ frames := 0, cells := 0, slots := 0, locals := 0 } : Room) s m args below meth c T0 locs 0 0) (NF : Fr n0 locs) (hx : p.tables.exec = Jvm.exec) (hby : c.code = prog_17_method_6_code) (hml : c.maxLocals = 2) (hret : meth.sig.returnType = none) (hlk : meth.locks = false) (hZ : Z.Warmed39 s.vm) (hown : s.vm.findClass "com/example/myriad_paths/myriadpaths/Conditions" = some m.cls) (hnm : meth.name = "settle") (e0 : T0.heap = h0) :
    own_Go p e below s (Q) 0 0 (T0.setTop (mkF m 2 #[.val (.ref a), .val (.int ii)] [])) := by
  have Zs := Z0
  have K := Keep.refl h0 [ha]
  refine own_by (B := T0.setTop (mkF m 3 #[.val (.ref a), .val (.int ii)] [(.int ii)])) (fun t k => XS.iloadN X0.here hx rfl (hb hby d13_2) rfl k) ?_
  refine own_by (B := T0.setTop (mkF m 4 #[.val (.ref a), .val (.int ii)] [(.ref a), (.int ii)])) (fun t k => XS.aloadN X0.here hx rfl (hb hby d13_3) rfl rfl k) ?_
  obtain ⟨T1, X1, e1, st1⟩ := getF X0 hx hZ hown (host := "") (Or.inl (hw _ (List.mem_of_getElem? (i := 63) rfl))) Via.refl e0 F_count_a (g := (mkF m 4 #[.val (.ref a), .val (.int ii)] [(.ref a), (.int ii)])) rfl rfl (hb hby d13_4)
  refine own_by (B := T1.setTop (mkF m 7 #[.val (.ref a), .val (.int ii)] [(.int cnt), (.int ii)])) (fun t k => st1 _ k) ?_
  have hc2 : ii < cnt := hlt
  refine own_by (B := T1.setTop (mkF m 10 #[.val (.ref a), .val (.int ii)] [])) (fun t k => XS.icmpNo X1.here hx rfl (hb hby d13_7) rfl (tlt hc2).2.1 k) ?_
  refine own_by (B := T1.setTop (mkF m 11 #[.val (.ref a), .val (.int ii)] [(.ref a)])) (fun t k => XS.aloadN X1.here hx rfl (hb hby d13_10) rfl rfl k) ?_
  obtain ⟨T3, X3, e3, st3⟩ := getF X1 hx hZ hown (host := "") (Or.inl (hw _ (List.mem_of_getElem? (i := 51) rfl))) Via.refl e1 F_other_a (g := (mkF m 11 #[.val (.ref a), .val (.int ii)] [(.ref a)])) rfl rfl (hb hby d13_11)
  refine own_by (B := T3.setTop (mkF m 14 #[.val (.ref a), .val (.int ii)] [(.ref oa)])) (fun t k => st3 _ k) ?_
  refine own_by (B := T3.setTop (mkF m 15 #[.val (.ref a), .val (.int ii)] [(.int ii), (.ref oa)])) (fun t k => XS.iloadN X3.here hx rfl (hb hby d13_14) rfl k) ?_
  obtain ⟨cl4, Ar4, S4, H4⟩ := V_oa
  have hin4 : ¬ (ii < 0 ∨ cl4.slots.size ≤ (ii).toNatClampNeg) := own_in S4 hix
  have hat4 : cl4.slots[(ii).toNatClampNeg]? = some (.int (fo (ii).toNatClampNeg)) := H4 _ (own_lt S4 hin4)
  refine own_by (B := T3.setTop (mkF m 16 #[.val (.ref a), .val (.int ii)] [(.int (fo (ii).toNatClampNeg))])) (fun t k => X3.iaload hx (j := ii) (v := (.int (fo (ii).toNatClampNeg))) (by rw [e3]; exact Ar4.1) (State.isArrayOf_alike hZ.alike Ar4.2.1) Ar4.2.2 hin4 hat4 (g := (mkF m 15 #[.val (.ref a), .val (.int ii)] [(.int ii), (.ref oa)])) rfl rfl (hb hby d13_15) _ k) ?_
  have V_oa : own_BA Z h0 oa .int 64 fo := ⟨cl4, Ar4, S4, H4⟩
  refine own_by (B := T3.setTop (mkF m 17 #[.val (.ref a), .val (.int ii)] [(.int (-1 : Int32)), (.int (fo (ii).toNatClampNeg))])) (fun t k => XS.iconst X3.here hx rfl (hb hby d13_16) k) ?_
  have hc5 : (fo (ii).toNatClampNeg) = (-1 : Int32) := hko
  refine own_by (B := T3.setTop (mkF m 20 #[.val (.ref a), .val (.int ii)] [])) (fun t k => XS.icmpNo X3.here hx rfl (hb hby d13_17) rfl (teq hc5).2 k) ?_
  refine own_by (B := T3.setTop (mkF m 21 #[.val (.ref a), .val (.int ii)] [(.ref a)])) (fun t k => XS.aloadN X3.here hx rfl (hb hby d13_20) rfl rfl k) ?_
  obtain ⟨T6, X6, e6, st6⟩ := getF X3 hx hZ hown (host := "") (Or.inl (hw _ (List.mem_of_getElem? (i := 54) rfl))) Via.refl e3 F_holds_a (g := (mkF m 21 #[.val (.ref a), .val (.int ii)] [(.ref a)])) rfl rfl (hb hby d13_21)
  refine own_by (B := T6.setTop (mkF m 24 #[.val (.ref a), .val (.int ii)] [(.ref ha)])) (fun t k => st6 _ k) ?_
  refine own_by (B := T6.setTop (mkF m 25 #[.val (.ref a), .val (.int ii)] [(.int ii), (.ref ha)])) (fun t k => XS.iloadN X6.here hx rfl (hb hby d13_24) rfl k) ?_
  refine own_by (B := T6.setTop (mkF m 26 #[.val (.ref a), .val (.int ii)] [(.ref a), (.int ii), (.ref ha)])) (fun t k => XS.aloadN X6.here hx rfl (hb hby d13_25) rfl rfl k) ?_
  obtain ⟨T7, X7, e7, st7⟩ := getF X6 hx hZ hown (host := "") (Or.inl (hw _ (List.mem_of_getElem? (i := 54) rfl))) Via.refl e6 F_holds_a (g := (mkF m 26 #[.val (.ref a), .val (.int ii)] [(.ref a), (.int ii), (.ref ha)])) rfl rfl (hb hby d13_26)
  refine own_by (B := T7.setTop (mkF m 29 #[.val (.ref a), .val (.int ii)] [(.ref ha), (.int ii), (.ref ha)])) (fun t k => st7 _ k) ?_
  refine own_by (B := T7.setTop (mkF m 30 #[.val (.ref a), .val (.int ii)] [(.int ii), (.ref ha), (.int ii), (.ref ha)])) (fun t k => XS.iloadN X7.here hx rfl (hb hby d13_29) rfl k) ?_
  obtain ⟨cl8, Ar8, S8, H8⟩ := V_ha
  have hin8 : ¬ (ii < 0 ∨ cl8.slots.size ≤ (ii).toNatClampNeg) := own_in S8 hix
  have hat8 : cl8.slots[(ii).toNatClampNeg]? = some (.int (fh (ii).toNatClampNeg)) := H8 _ (own_lt S8 hin8)
  refine own_by (B := T7.setTop (mkF m 31 #[.val (.ref a), .val (.int ii)] [(.int (fh (ii).toNatClampNeg)), (.int ii), (.ref ha)])) (fun t k => X7.baloadBooleans hx (j := ii) (v := (.int (fh (ii).toNatClampNeg))) (by rw [e7]; exact Ar8.1) (State.isArrayOf_alike hZ.alike Ar8.2.1) Ar8.2.2 hin8 hat8 (g := (mkF m 30 #[.val (.ref a), .val (.int ii)] [(.int ii), (.ref ha), (.int ii), (.ref ha)])) rfl rfl (hb hby d13_30) _ k) ?_
  have V_ha : own_BA Z h0 ha .boolean 64 fh := ⟨cl8, Ar8, S8, H8⟩
  have cont9 : ∀ (T9 : State) (locs9 : List Loc) (uv : Int32), Stand p l e ({ frames := 0, cells := 0, slots := 0, locals := 0 } : Room) s m args below meth c T9 locs9 0 0 → T9.heap = h0 → Fr n0 locs9 → uv = (if (fh (ii).toNatClampNeg) = (0 : Int32) then (0 : Int32) else (if (fh ((ff (ii).toNatClampNeg)).toNatClampNeg) = (0 : Int32) then (0 : Int32) else (1 : Int32))) →  own_Go p e below s (Q) 0 0 (T9.setTop (mkF m 53 #[.val (.ref a), .val (.int ii)] [(.int uv), (.int ii), (.ref ha)])) := by
    intro T9 locs9 uv X9 e9 NF huv
    obtain ⟨cl10, Ar10, S10, H10⟩ := V_ha
    have hin10 : ¬ (ii < 0 ∨ cl10.slots.size ≤ (ii).toNatClampNeg) := own_in S10 hix
    obtain ⟨T10, h10, X10, e10, W10, st10⟩ := stZ X9 hx hZ e9 Ar10 (j := ii) hin10 (g := (mkF m 53 #[.val (.ref a), .val (.int ii)] [(.int uv), (.int ii), (.ref ha)])) rfl rfl (hb hby d13_53)
    replace V_ha : own_BA Z h0 ha .boolean 64 fh := ⟨cl10, Ar10, S10, H10⟩
    replace F_count_a : Fld Z h10 a "com/example/myriad_paths/myriadpaths/Conditions" "count" "I" (.int cnt) := F_count_a.other W10 (Or.inl ne_a_ha)
    replace F_other_a : Fld Z h10 a "com/example/myriad_paths/myriadpaths/Conditions" "other" "[I" (.ref oa) := F_other_a.other W10 (Or.inl ne_a_ha)
    replace F_first_a : Fld Z h10 a "com/example/myriad_paths/myriadpaths/Conditions" "first" "[I" (.ref fa) := F_first_a.other W10 (Or.inl ne_a_ha)
    replace F_holds_a : Fld Z h10 a "com/example/myriad_paths/myriadpaths/Conditions" "holds" "[Z" (.ref ha) := F_holds_a.other W10 (Or.inl ne_a_ha)
    replace V_fa : own_BA Z h10 fa .int 64 ff := V_fa.other W10 ne_fa_ha
    replace V_oa : own_BA Z h10 oa .int 64 fo := V_oa.other W10 ne_oa_ha
    replace V_ha : own_BA Z h10 ha .boolean 64 (own_up fh (ii).toNatClampNeg (nar .boolean uv)) := V_ha.same W10
    replace Zs : n0 ≤ h10.size := by rw [W10.size]; exact Zs
    replace K : Keep h0 h10 [ha] := K.wr W10 (Or.inl (List.mem_of_getElem? (i := 0) rfl))
    have NF := Fr.snoc X10 NF g_ha
    refine own_by (B := T10.setTop (mkF m 54 #[.val (.ref a), .val (.int ii)] [])) (fun t k => st10 _ k) ?_
    refine own_by (B := T10.setTop (mkF m 96 #[.val (.ref a), .val (.int ii)] [])) (fun t k => XS.goto X10.here hx rfl (pc0 := 54) (pc' := 96) rfl (hb hby d13_54) (by decide) (by decide) k) ?_
    refine own_by (B := T10.setTop (mkF m 99 #[.val (.ref a), .val (.int (ii + (1 : Int32)))] [])) (fun t k => XS.iinc X10.here hx rfl (hb hby d13_96) rfl (l' := #[.val (.ref a), .val (.int (ii + (1 : Int32)))]) rfl k) ?_
    refine own_by (B := T10.setTop (mkF m 2 #[.val (.ref a), .val (.int (ii + (1 : Int32)))] [])) (fun t k => XS.goto X10.here hx rfl (pc0 := 99) (pc' := 2) rfl (hb hby d13_99) (by decide) (by decide) k) ?_
    have hst : (own_up fh (ii).toNatClampNeg (nar .boolean uv)) = own_stA ff fh ii := by
      rw [huv]; rfl
    rw [hst] at V_ha
    exact cont _ _ _ X10 e10 NF Zs K V_ha
  by_cases hc11 : (fh (ii).toNatClampNeg) = (0 : Int32)
  ·
    refine own_by (B := T7.setTop (mkF m 52 #[.val (.ref a), .val (.int ii)] [(.int ii), (.ref ha)])) (fun t k => XS.ifYes X7.here hx rfl (pc0 := 31) (pc' := 52) rfl (hb hby d13_31) rfl ((if0 _ _).trans (teq hc11).1) (by decide) (by decide) k) ?_
    refine own_by (B := T7.setTop (mkF m 53 #[.val (.ref a), .val (.int ii)] [(.int (0 : Int32)), (.int ii), (.ref ha)])) (fun t k => XS.iconst X7.here hx rfl (hb hby d13_52) k) ?_
    exact cont9 _ _ (0 : Int32) X7 e7 NF (by rw [if_pos hc11])
  ·
    refine own_by (B := T7.setTop (mkF m 34 #[.val (.ref a), .val (.int ii)] [(.int ii), (.ref ha)])) (fun t k => XS.ifNo X7.here hx rfl (hb hby d13_31) rfl ((if0 _ _).trans (feq hc11).1) k) ?_
    refine own_by (B := T7.setTop (mkF m 35 #[.val (.ref a), .val (.int ii)] [(.ref a), (.int ii), (.ref ha)])) (fun t k => XS.aloadN X7.here hx rfl (hb hby d13_34) rfl rfl k) ?_
    obtain ⟨T12, X12, e12, st12⟩ := getF X7 hx hZ hown (host := "") (Or.inl (hw _ (List.mem_of_getElem? (i := 54) rfl))) Via.refl e7 F_holds_a (g := (mkF m 35 #[.val (.ref a), .val (.int ii)] [(.ref a), (.int ii), (.ref ha)])) rfl rfl (hb hby d13_35)
    refine own_by (B := T12.setTop (mkF m 38 #[.val (.ref a), .val (.int ii)] [(.ref ha), (.int ii), (.ref ha)])) (fun t k => st12 _ k) ?_
    refine own_by (B := T12.setTop (mkF m 39 #[.val (.ref a), .val (.int ii)] [(.ref a), (.ref ha), (.int ii), (.ref ha)])) (fun t k => XS.aloadN X12.here hx rfl (hb hby d13_38) rfl rfl k) ?_
    obtain ⟨T13, X13, e13, st13⟩ := getF X12 hx hZ hown (host := "") (Or.inl (hw _ (List.mem_of_getElem? (i := 49) rfl))) Via.refl e12 F_first_a (g := (mkF m 39 #[.val (.ref a), .val (.int ii)] [(.ref a), (.ref ha), (.int ii), (.ref ha)])) rfl rfl (hb hby d13_39)
    refine own_by (B := T13.setTop (mkF m 42 #[.val (.ref a), .val (.int ii)] [(.ref fa), (.ref ha), (.int ii), (.ref ha)])) (fun t k => st13 _ k) ?_
    refine own_by (B := T13.setTop (mkF m 43 #[.val (.ref a), .val (.int ii)] [(.int ii), (.ref fa), (.ref ha), (.int ii), (.ref ha)])) (fun t k => XS.iloadN X13.here hx rfl (hb hby d13_42) rfl k) ?_
    obtain ⟨cl14, Ar14, S14, H14⟩ := V_fa
    have hin14 : ¬ (ii < 0 ∨ cl14.slots.size ≤ (ii).toNatClampNeg) := own_in S14 hix
    have hat14 : cl14.slots[(ii).toNatClampNeg]? = some (.int (ff (ii).toNatClampNeg)) := H14 _ (own_lt S14 hin14)
    refine own_by (B := T13.setTop (mkF m 44 #[.val (.ref a), .val (.int ii)] [(.int (ff (ii).toNatClampNeg)), (.ref ha), (.int ii), (.ref ha)])) (fun t k => X13.iaload hx (j := ii) (v := (.int (ff (ii).toNatClampNeg))) (by rw [e13]; exact Ar14.1) (State.isArrayOf_alike hZ.alike Ar14.2.1) Ar14.2.2 hin14 hat14 (g := (mkF m 43 #[.val (.ref a), .val (.int ii)] [(.int ii), (.ref fa), (.ref ha), (.int ii), (.ref ha)])) rfl rfl (hb hby d13_43) _ k) ?_
    have V_fa : own_BA Z h0 fa .int 64 ff := ⟨cl14, Ar14, S14, H14⟩
    obtain ⟨cl15, Ar15, S15, H15⟩ := V_ha
    have hin15 : ¬ ((ff (ii).toNatClampNeg) < 0 ∨ cl15.slots.size ≤ ((ff (ii).toNatClampNeg)).toNatClampNeg) := own_in S15 hif
    have hat15 : cl15.slots[((ff (ii).toNatClampNeg)).toNatClampNeg]? = some (.int (fh ((ff (ii).toNatClampNeg)).toNatClampNeg)) := H15 _ (own_lt S15 hin15)
    refine own_by (B := T13.setTop (mkF m 45 #[.val (.ref a), .val (.int ii)] [(.int (fh ((ff (ii).toNatClampNeg)).toNatClampNeg)), (.int ii), (.ref ha)])) (fun t k => X13.baloadBooleans hx (j := (ff (ii).toNatClampNeg)) (v := (.int (fh ((ff (ii).toNatClampNeg)).toNatClampNeg))) (by rw [e13]; exact Ar15.1) (State.isArrayOf_alike hZ.alike Ar15.2.1) Ar15.2.2 hin15 hat15 (g := (mkF m 44 #[.val (.ref a), .val (.int ii)] [(.int (ff (ii).toNatClampNeg)), (.ref ha), (.int ii), (.ref ha)])) rfl rfl (hb hby d13_44) _ k) ?_
    have V_ha : own_BA Z h0 ha .boolean 64 fh := ⟨cl15, Ar15, S15, H15⟩
    by_cases hc16 : (fh ((ff (ii).toNatClampNeg)).toNatClampNeg) = (0 : Int32)
    ·
      refine own_by (B := T13.setTop (mkF m 52 #[.val (.ref a), .val (.int ii)] [(.int ii), (.ref ha)])) (fun t k => XS.ifYes X13.here hx rfl (pc0 := 45) (pc' := 52) rfl (hb hby d13_45) rfl ((if0 _ _).trans (teq hc16).1) (by decide) (by decide) k) ?_
      refine own_by (B := T13.setTop (mkF m 53 #[.val (.ref a), .val (.int ii)] [(.int (0 : Int32)), (.int ii), (.ref ha)])) (fun t k => XS.iconst X13.here hx rfl (hb hby d13_52) k) ?_
      exact cont9 _ _ (0 : Int32) X13 e13 NF (by rw [if_neg hc11, if_pos hc16])
    ·
      refine own_by (B := T13.setTop (mkF m 48 #[.val (.ref a), .val (.int ii)] [(.int ii), (.ref ha)])) (fun t k => XS.ifNo X13.here hx rfl (hb hby d13_45) rfl ((if0 _ _).trans (feq hc16).1) k) ?_
      refine own_by (B := T13.setTop (mkF m 49 #[.val (.ref a), .val (.int ii)] [(.int (1 : Int32)), (.int ii), (.ref ha)])) (fun t k => XS.iconst X13.here hx rfl (hb hby d13_48) k) ?_
      refine own_by (B := T13.setTop (mkF m 53 #[.val (.ref a), .val (.int ii)] [(.int (1 : Int32)), (.int ii), (.ref ha)])) (fun t k => XS.goto X13.here hx rfl (pc0 := 49) (pc' := 53) rfl (hb hby d13_49) (by decide) (by decide) k) ?_
      exact cont9 _ _ (1 : Int32) X13 e13 NF (by rw [if_neg hc11, if_neg hc16])
theorem d13_57 : decode prog_17_method_6_code 57 = .ok (.aload_n 0, 1) := by decide +kernel
theorem d13_58 : decode prog_17_method_6_code 58 = .ok (.getfield 18, 3) := by decide +kernel
theorem d13_61 : decode prog_17_method_6_code 61 = .ok (.iload_n 1, 1) := by decide +kernel
theorem d13_62 : decode prog_17_method_6_code 62 = .ok (.aload_n 0, 1) := by decide +kernel
theorem d13_63 : decode prog_17_method_6_code 63 = .ok (.getfield 18, 3) := by decide +kernel
theorem d13_66 : decode prog_17_method_6_code 66 = .ok (.aload_n 0, 1) := by decide +kernel
theorem d13_67 : decode prog_17_method_6_code 67 = .ok (.getfield 9, 3) := by decide +kernel
theorem d13_70 : decode prog_17_method_6_code 70 = .ok (.iload_n 1, 1) := by decide +kernel
theorem d13_71 : decode prog_17_method_6_code 71 = .ok (.iaload, 1) := by decide +kernel
theorem d13_72 : decode prog_17_method_6_code 72 = .ok (.baload, 1) := by decide +kernel
theorem d13_73 : decode prog_17_method_6_code 73 = .ok (.ifCond .ne 17, 3) := by decide +kernel
theorem d13_76 : decode prog_17_method_6_code 76 = .ok (.aload_n 0, 1) := by decide +kernel
theorem d13_77 : decode prog_17_method_6_code 77 = .ok (.getfield 18, 3) := by decide +kernel
theorem d13_80 : decode prog_17_method_6_code 80 = .ok (.aload_n 0, 1) := by decide +kernel
theorem d13_81 : decode prog_17_method_6_code 81 = .ok (.getfield 15, 3) := by decide +kernel
theorem d13_84 : decode prog_17_method_6_code 84 = .ok (.iload_n 1, 1) := by decide +kernel
theorem d13_85 : decode prog_17_method_6_code 85 = .ok (.iaload, 1) := by decide +kernel
theorem d13_86 : decode prog_17_method_6_code 86 = .ok (.baload, 1) := by decide +kernel
theorem d13_87 : decode prog_17_method_6_code 87 = .ok (.ifCond .eq 7, 3) := by decide +kernel
theorem d13_90 : decode prog_17_method_6_code 90 = .ok (.iconst 1, 1) := by decide +kernel
theorem d13_91 : decode prog_17_method_6_code 91 = .ok (.goto 4, 3) := by decide +kernel
theorem d13_94 : decode prog_17_method_6_code 94 = .ok (.iconst 0, 1) := by decide +kernel
theorem d13_95 : decode prog_17_method_6_code 95 = .ok (.bastore, 1) := by decide +kernel
set_option maxRecDepth 65536 in
set_option maxHeartbeats 40000000 in
theorem tnO (l : Launch) (Z : State) (a0 : Array Value) (hw : ∀ d ∈ tables_1, d.before a0 Z = true) (h0 : Heap) (n0 : Nat) (Z0 : n0 ≤ h0.size) {p : Program} {e : Env} {s : State} {m : MethodId} {args : Array Value} {below : List Frame} {meth : Method} {c : Code} {T0 : State} {locs : List Loc} {Q : Option Value → Heap → List Loc → Prop} (a : Addr) (fa : Addr) (oa : Addr) (ha : Addr) (cnt : Int32) (ff : Nat → Int32) (fo : Nat → Int32) (fh : Nat → Int32) (ii : Int32) (F_count_a : Fld Z h0 a "com/example/myriad_paths/myriadpaths/Conditions" "count" "I" (.int cnt)) (F_other_a : Fld Z h0 a "com/example/myriad_paths/myriadpaths/Conditions" "other" "[I" (.ref oa)) (F_first_a : Fld Z h0 a "com/example/myriad_paths/myriadpaths/Conditions" "first" "[I" (.ref fa)) (F_holds_a : Fld Z h0 a "com/example/myriad_paths/myriadpaths/Conditions" "holds" "[Z" (.ref ha)) (V_fa : own_BA Z h0 fa .int 64 ff) (V_oa : own_BA Z h0 oa .int 64 fo) (V_ha : own_BA Z h0 ha .boolean 64 fh) (g_ha : n0 ≤ ha) (ne_a_ha : a ≠ ha) (ne_fa_ha : fa ≠ ha) (ne_oa_ha : oa ≠ ha) (hlt : ii < cnt) (hix : ¬ ii < 0 ∧ ii.toNatClampNeg < 64) (hif : ¬ (ff ii.toNatClampNeg) < 0 ∧ (ff ii.toNatClampNeg).toNatClampNeg < 64) (hko : ¬ (fo ii.toNatClampNeg) = (-1 : Int32)) (hio : ¬ (fo ii.toNatClampNeg) < 0 ∧ (fo ii.toNatClampNeg).toNatClampNeg < 64) (cont : ∀ (T1 : State) (h1 : Heap) (locs1 : List Loc), Stand p l e ({ frames := 0, cells := 0, slots := 0, locals := 0 } : Room) s m args below meth c T1 locs1 0 0 → T1.heap = h1 → Fr n0 locs1 → n0 ≤ h1.size → Keep h0 h1 [ha] → own_BA Z h1 ha .boolean 64 (own_stO ff fo fh ii) → own_Go p e below s Q 0 0 (T1.setTop (mkF m 2 #[.val (.ref a), .val (.int (ii + (1 : Int32)))] [])))
    (X0 : Stand p l e ({ frames := 0, cells := 0, slots := 0, locals := 0 } : Room) s m args below meth c T0 locs 0 0) (NF : Fr n0 locs) (hx : p.tables.exec = Jvm.exec) (hby : c.code = prog_17_method_6_code) (hml : c.maxLocals = 2) (hret : meth.sig.returnType = none) (hlk : meth.locks = false) (hZ : Z.Warmed39 s.vm) (hown : s.vm.findClass "com/example/myriad_paths/myriadpaths/Conditions" = some m.cls) (hnm : meth.name = "settle") (e0 : T0.heap = h0) :
    own_Go p e below s (Q) 0 0 (T0.setTop (mkF m 2 #[.val (.ref a), .val (.int ii)] [])) := by
  have Zs := Z0
  have K := Keep.refl h0 [ha]
  refine own_by (B := T0.setTop (mkF m 3 #[.val (.ref a), .val (.int ii)] [(.int ii)])) (fun t k => XS.iloadN X0.here hx rfl (hb hby d13_2) rfl k) ?_
  refine own_by (B := T0.setTop (mkF m 4 #[.val (.ref a), .val (.int ii)] [(.ref a), (.int ii)])) (fun t k => XS.aloadN X0.here hx rfl (hb hby d13_3) rfl rfl k) ?_
  obtain ⟨T1, X1, e1, st1⟩ := getF X0 hx hZ hown (host := "") (Or.inl (hw _ (List.mem_of_getElem? (i := 63) rfl))) Via.refl e0 F_count_a (g := (mkF m 4 #[.val (.ref a), .val (.int ii)] [(.ref a), (.int ii)])) rfl rfl (hb hby d13_4)
  refine own_by (B := T1.setTop (mkF m 7 #[.val (.ref a), .val (.int ii)] [(.int cnt), (.int ii)])) (fun t k => st1 _ k) ?_
  have hc2 : ii < cnt := hlt
  refine own_by (B := T1.setTop (mkF m 10 #[.val (.ref a), .val (.int ii)] [])) (fun t k => XS.icmpNo X1.here hx rfl (hb hby d13_7) rfl (tlt hc2).2.1 k) ?_
  refine own_by (B := T1.setTop (mkF m 11 #[.val (.ref a), .val (.int ii)] [(.ref a)])) (fun t k => XS.aloadN X1.here hx rfl (hb hby d13_10) rfl rfl k) ?_
  obtain ⟨T3, X3, e3, st3⟩ := getF X1 hx hZ hown (host := "") (Or.inl (hw _ (List.mem_of_getElem? (i := 51) rfl))) Via.refl e1 F_other_a (g := (mkF m 11 #[.val (.ref a), .val (.int ii)] [(.ref a)])) rfl rfl (hb hby d13_11)
  refine own_by (B := T3.setTop (mkF m 14 #[.val (.ref a), .val (.int ii)] [(.ref oa)])) (fun t k => st3 _ k) ?_
  refine own_by (B := T3.setTop (mkF m 15 #[.val (.ref a), .val (.int ii)] [(.int ii), (.ref oa)])) (fun t k => XS.iloadN X3.here hx rfl (hb hby d13_14) rfl k) ?_
  obtain ⟨cl4, Ar4, S4, H4⟩ := V_oa
  have hin4 : ¬ (ii < 0 ∨ cl4.slots.size ≤ (ii).toNatClampNeg) := own_in S4 hix
  have hat4 : cl4.slots[(ii).toNatClampNeg]? = some (.int (fo (ii).toNatClampNeg)) := H4 _ (own_lt S4 hin4)
  refine own_by (B := T3.setTop (mkF m 16 #[.val (.ref a), .val (.int ii)] [(.int (fo (ii).toNatClampNeg))])) (fun t k => X3.iaload hx (j := ii) (v := (.int (fo (ii).toNatClampNeg))) (by rw [e3]; exact Ar4.1) (State.isArrayOf_alike hZ.alike Ar4.2.1) Ar4.2.2 hin4 hat4 (g := (mkF m 15 #[.val (.ref a), .val (.int ii)] [(.int ii), (.ref oa)])) rfl rfl (hb hby d13_15) _ k) ?_
  have V_oa : own_BA Z h0 oa .int 64 fo := ⟨cl4, Ar4, S4, H4⟩
  refine own_by (B := T3.setTop (mkF m 17 #[.val (.ref a), .val (.int ii)] [(.int (-1 : Int32)), (.int (fo (ii).toNatClampNeg))])) (fun t k => XS.iconst X3.here hx rfl (hb hby d13_16) k) ?_
  have hc5 : ¬ ((fo (ii).toNatClampNeg) = (-1 : Int32)) := hko
  refine own_by (B := T3.setTop (mkF m 57 #[.val (.ref a), .val (.int ii)] [])) (fun t k => XS.icmpYes X3.here hx rfl (pc0 := 17) (pc' := 57) rfl (hb hby d13_17) rfl (feq hc5).2 (by decide) (by decide) k) ?_
  refine own_by (B := T3.setTop (mkF m 58 #[.val (.ref a), .val (.int ii)] [(.ref a)])) (fun t k => XS.aloadN X3.here hx rfl (hb hby d13_57) rfl rfl k) ?_
  obtain ⟨T6, X6, e6, st6⟩ := getF X3 hx hZ hown (host := "") (Or.inl (hw _ (List.mem_of_getElem? (i := 54) rfl))) Via.refl e3 F_holds_a (g := (mkF m 58 #[.val (.ref a), .val (.int ii)] [(.ref a)])) rfl rfl (hb hby d13_58)
  refine own_by (B := T6.setTop (mkF m 61 #[.val (.ref a), .val (.int ii)] [(.ref ha)])) (fun t k => st6 _ k) ?_
  refine own_by (B := T6.setTop (mkF m 62 #[.val (.ref a), .val (.int ii)] [(.int ii), (.ref ha)])) (fun t k => XS.iloadN X6.here hx rfl (hb hby d13_61) rfl k) ?_
  refine own_by (B := T6.setTop (mkF m 63 #[.val (.ref a), .val (.int ii)] [(.ref a), (.int ii), (.ref ha)])) (fun t k => XS.aloadN X6.here hx rfl (hb hby d13_62) rfl rfl k) ?_
  obtain ⟨T7, X7, e7, st7⟩ := getF X6 hx hZ hown (host := "") (Or.inl (hw _ (List.mem_of_getElem? (i := 54) rfl))) Via.refl e6 F_holds_a (g := (mkF m 63 #[.val (.ref a), .val (.int ii)] [(.ref a), (.int ii), (.ref ha)])) rfl rfl (hb hby d13_63)
  refine own_by (B := T7.setTop (mkF m 66 #[.val (.ref a), .val (.int ii)] [(.ref ha), (.int ii), (.ref ha)])) (fun t k => st7 _ k) ?_
  refine own_by (B := T7.setTop (mkF m 67 #[.val (.ref a), .val (.int ii)] [(.ref a), (.ref ha), (.int ii), (.ref ha)])) (fun t k => XS.aloadN X7.here hx rfl (hb hby d13_66) rfl rfl k) ?_
  obtain ⟨T8, X8, e8, st8⟩ := getF X7 hx hZ hown (host := "") (Or.inl (hw _ (List.mem_of_getElem? (i := 49) rfl))) Via.refl e7 F_first_a (g := (mkF m 67 #[.val (.ref a), .val (.int ii)] [(.ref a), (.ref ha), (.int ii), (.ref ha)])) rfl rfl (hb hby d13_67)
  refine own_by (B := T8.setTop (mkF m 70 #[.val (.ref a), .val (.int ii)] [(.ref fa), (.ref ha), (.int ii), (.ref ha)])) (fun t k => st8 _ k) ?_
  refine own_by (B := T8.setTop (mkF m 71 #[.val (.ref a), .val (.int ii)] [(.int ii), (.ref fa), (.ref ha), (.int ii), (.ref ha)])) (fun t k => XS.iloadN X8.here hx rfl (hb hby d13_70) rfl k) ?_
  obtain ⟨cl9, Ar9, S9, H9⟩ := V_fa
  have hin9 : ¬ (ii < 0 ∨ cl9.slots.size ≤ (ii).toNatClampNeg) := own_in S9 hix
  have hat9 : cl9.slots[(ii).toNatClampNeg]? = some (.int (ff (ii).toNatClampNeg)) := H9 _ (own_lt S9 hin9)
  refine own_by (B := T8.setTop (mkF m 72 #[.val (.ref a), .val (.int ii)] [(.int (ff (ii).toNatClampNeg)), (.ref ha), (.int ii), (.ref ha)])) (fun t k => X8.iaload hx (j := ii) (v := (.int (ff (ii).toNatClampNeg))) (by rw [e8]; exact Ar9.1) (State.isArrayOf_alike hZ.alike Ar9.2.1) Ar9.2.2 hin9 hat9 (g := (mkF m 71 #[.val (.ref a), .val (.int ii)] [(.int ii), (.ref fa), (.ref ha), (.int ii), (.ref ha)])) rfl rfl (hb hby d13_71) _ k) ?_
  have V_fa : own_BA Z h0 fa .int 64 ff := ⟨cl9, Ar9, S9, H9⟩
  obtain ⟨cl10, Ar10, S10, H10⟩ := V_ha
  have hin10 : ¬ ((ff (ii).toNatClampNeg) < 0 ∨ cl10.slots.size ≤ ((ff (ii).toNatClampNeg)).toNatClampNeg) := own_in S10 hif
  have hat10 : cl10.slots[((ff (ii).toNatClampNeg)).toNatClampNeg]? = some (.int (fh ((ff (ii).toNatClampNeg)).toNatClampNeg)) := H10 _ (own_lt S10 hin10)
  refine own_by (B := T8.setTop (mkF m 73 #[.val (.ref a), .val (.int ii)] [(.int (fh ((ff (ii).toNatClampNeg)).toNatClampNeg)), (.int ii), (.ref ha)])) (fun t k => X8.baloadBooleans hx (j := (ff (ii).toNatClampNeg)) (v := (.int (fh ((ff (ii).toNatClampNeg)).toNatClampNeg))) (by rw [e8]; exact Ar10.1) (State.isArrayOf_alike hZ.alike Ar10.2.1) Ar10.2.2 hin10 hat10 (g := (mkF m 72 #[.val (.ref a), .val (.int ii)] [(.int (ff (ii).toNatClampNeg)), (.ref ha), (.int ii), (.ref ha)])) rfl rfl (hb hby d13_72) _ k) ?_
  have V_ha : own_BA Z h0 ha .boolean 64 fh := ⟨cl10, Ar10, S10, H10⟩
  have cont11 : ∀ (T11 : State) (locs11 : List Loc) (uv : Int32), Stand p l e ({ frames := 0, cells := 0, slots := 0, locals := 0 } : Room) s m args below meth c T11 locs11 0 0 → T11.heap = h0 → Fr n0 locs11 → uv = (if (fh ((ff (ii).toNatClampNeg)).toNatClampNeg) = (0 : Int32) then (if (fh ((fo (ii).toNatClampNeg)).toNatClampNeg) = (0 : Int32) then (0 : Int32) else (1 : Int32)) else (1 : Int32)) →  own_Go p e below s (Q) 0 0 (T11.setTop (mkF m 95 #[.val (.ref a), .val (.int ii)] [(.int uv), (.int ii), (.ref ha)])) := by
    intro T11 locs11 uv X11 e11 NF huv
    obtain ⟨cl12, Ar12, S12, H12⟩ := V_ha
    have hin12 : ¬ (ii < 0 ∨ cl12.slots.size ≤ (ii).toNatClampNeg) := own_in S12 hix
    obtain ⟨T12, h12, X12, e12, W12, st12⟩ := stZ X11 hx hZ e11 Ar12 (j := ii) hin12 (g := (mkF m 95 #[.val (.ref a), .val (.int ii)] [(.int uv), (.int ii), (.ref ha)])) rfl rfl (hb hby d13_95)
    replace V_ha : own_BA Z h0 ha .boolean 64 fh := ⟨cl12, Ar12, S12, H12⟩
    replace F_count_a : Fld Z h12 a "com/example/myriad_paths/myriadpaths/Conditions" "count" "I" (.int cnt) := F_count_a.other W12 (Or.inl ne_a_ha)
    replace F_other_a : Fld Z h12 a "com/example/myriad_paths/myriadpaths/Conditions" "other" "[I" (.ref oa) := F_other_a.other W12 (Or.inl ne_a_ha)
    replace F_first_a : Fld Z h12 a "com/example/myriad_paths/myriadpaths/Conditions" "first" "[I" (.ref fa) := F_first_a.other W12 (Or.inl ne_a_ha)
    replace F_holds_a : Fld Z h12 a "com/example/myriad_paths/myriadpaths/Conditions" "holds" "[Z" (.ref ha) := F_holds_a.other W12 (Or.inl ne_a_ha)
    replace V_fa : own_BA Z h12 fa .int 64 ff := V_fa.other W12 ne_fa_ha
    replace V_oa : own_BA Z h12 oa .int 64 fo := V_oa.other W12 ne_oa_ha
    replace V_ha : own_BA Z h12 ha .boolean 64 (own_up fh (ii).toNatClampNeg (nar .boolean uv)) := V_ha.same W12
    replace Zs : n0 ≤ h12.size := by rw [W12.size]; exact Zs
    replace K : Keep h0 h12 [ha] := K.wr W12 (Or.inl (List.mem_of_getElem? (i := 0) rfl))
    have NF := Fr.snoc X12 NF g_ha
    refine own_by (B := T12.setTop (mkF m 96 #[.val (.ref a), .val (.int ii)] [])) (fun t k => st12 _ k) ?_
    refine own_by (B := T12.setTop (mkF m 99 #[.val (.ref a), .val (.int (ii + (1 : Int32)))] [])) (fun t k => XS.iinc X12.here hx rfl (hb hby d13_96) rfl (l' := #[.val (.ref a), .val (.int (ii + (1 : Int32)))]) rfl k) ?_
    refine own_by (B := T12.setTop (mkF m 2 #[.val (.ref a), .val (.int (ii + (1 : Int32)))] [])) (fun t k => XS.goto X12.here hx rfl (pc0 := 99) (pc' := 2) rfl (hb hby d13_99) (by decide) (by decide) k) ?_
    have hst : (own_up fh (ii).toNatClampNeg (nar .boolean uv)) = own_stO ff fo fh ii := by
      rw [huv]; rfl
    rw [hst] at V_ha
    exact cont _ _ _ X12 e12 NF Zs K V_ha
  by_cases hc13 : (fh ((ff (ii).toNatClampNeg)).toNatClampNeg) = (0 : Int32)
  ·
    refine own_by (B := T8.setTop (mkF m 76 #[.val (.ref a), .val (.int ii)] [(.int ii), (.ref ha)])) (fun t k => XS.ifNo X8.here hx rfl (hb hby d13_73) rfl ((if0 _ _).trans (teq hc13).2) k) ?_
    refine own_by (B := T8.setTop (mkF m 77 #[.val (.ref a), .val (.int ii)] [(.ref a), (.int ii), (.ref ha)])) (fun t k => XS.aloadN X8.here hx rfl (hb hby d13_76) rfl rfl k) ?_
    obtain ⟨T14, X14, e14, st14⟩ := getF X8 hx hZ hown (host := "") (Or.inl (hw _ (List.mem_of_getElem? (i := 54) rfl))) Via.refl e8 F_holds_a (g := (mkF m 77 #[.val (.ref a), .val (.int ii)] [(.ref a), (.int ii), (.ref ha)])) rfl rfl (hb hby d13_77)
    refine own_by (B := T14.setTop (mkF m 80 #[.val (.ref a), .val (.int ii)] [(.ref ha), (.int ii), (.ref ha)])) (fun t k => st14 _ k) ?_
    refine own_by (B := T14.setTop (mkF m 81 #[.val (.ref a), .val (.int ii)] [(.ref a), (.ref ha), (.int ii), (.ref ha)])) (fun t k => XS.aloadN X14.here hx rfl (hb hby d13_80) rfl rfl k) ?_
    obtain ⟨T15, X15, e15, st15⟩ := getF X14 hx hZ hown (host := "") (Or.inl (hw _ (List.mem_of_getElem? (i := 51) rfl))) Via.refl e14 F_other_a (g := (mkF m 81 #[.val (.ref a), .val (.int ii)] [(.ref a), (.ref ha), (.int ii), (.ref ha)])) rfl rfl (hb hby d13_81)
    refine own_by (B := T15.setTop (mkF m 84 #[.val (.ref a), .val (.int ii)] [(.ref oa), (.ref ha), (.int ii), (.ref ha)])) (fun t k => st15 _ k) ?_
    refine own_by (B := T15.setTop (mkF m 85 #[.val (.ref a), .val (.int ii)] [(.int ii), (.ref oa), (.ref ha), (.int ii), (.ref ha)])) (fun t k => XS.iloadN X15.here hx rfl (hb hby d13_84) rfl k) ?_
    obtain ⟨cl16, Ar16, S16, H16⟩ := V_oa
    have hin16 : ¬ (ii < 0 ∨ cl16.slots.size ≤ (ii).toNatClampNeg) := own_in S16 hix
    have hat16 : cl16.slots[(ii).toNatClampNeg]? = some (.int (fo (ii).toNatClampNeg)) := H16 _ (own_lt S16 hin16)
    refine own_by (B := T15.setTop (mkF m 86 #[.val (.ref a), .val (.int ii)] [(.int (fo (ii).toNatClampNeg)), (.ref ha), (.int ii), (.ref ha)])) (fun t k => X15.iaload hx (j := ii) (v := (.int (fo (ii).toNatClampNeg))) (by rw [e15]; exact Ar16.1) (State.isArrayOf_alike hZ.alike Ar16.2.1) Ar16.2.2 hin16 hat16 (g := (mkF m 85 #[.val (.ref a), .val (.int ii)] [(.int ii), (.ref oa), (.ref ha), (.int ii), (.ref ha)])) rfl rfl (hb hby d13_85) _ k) ?_
    have V_oa : own_BA Z h0 oa .int 64 fo := ⟨cl16, Ar16, S16, H16⟩
    obtain ⟨cl17, Ar17, S17, H17⟩ := V_ha
    have hin17 : ¬ ((fo (ii).toNatClampNeg) < 0 ∨ cl17.slots.size ≤ ((fo (ii).toNatClampNeg)).toNatClampNeg) := own_in S17 hio
    have hat17 : cl17.slots[((fo (ii).toNatClampNeg)).toNatClampNeg]? = some (.int (fh ((fo (ii).toNatClampNeg)).toNatClampNeg)) := H17 _ (own_lt S17 hin17)
    refine own_by (B := T15.setTop (mkF m 87 #[.val (.ref a), .val (.int ii)] [(.int (fh ((fo (ii).toNatClampNeg)).toNatClampNeg)), (.int ii), (.ref ha)])) (fun t k => X15.baloadBooleans hx (j := (fo (ii).toNatClampNeg)) (v := (.int (fh ((fo (ii).toNatClampNeg)).toNatClampNeg))) (by rw [e15]; exact Ar17.1) (State.isArrayOf_alike hZ.alike Ar17.2.1) Ar17.2.2 hin17 hat17 (g := (mkF m 86 #[.val (.ref a), .val (.int ii)] [(.int (fo (ii).toNatClampNeg)), (.ref ha), (.int ii), (.ref ha)])) rfl rfl (hb hby d13_86) _ k) ?_
    have V_ha : own_BA Z h0 ha .boolean 64 fh := ⟨cl17, Ar17, S17, H17⟩
    by_cases hc18 : (fh ((fo (ii).toNatClampNeg)).toNatClampNeg) = (0 : Int32)
    ·
      refine own_by (B := T15.setTop (mkF m 94 #[.val (.ref a), .val (.int ii)] [(.int ii), (.ref ha)])) (fun t k => XS.ifYes X15.here hx rfl (pc0 := 87) (pc' := 94) rfl (hb hby d13_87) rfl ((if0 _ _).trans (teq hc18).1) (by decide) (by decide) k) ?_
      refine own_by (B := T15.setTop (mkF m 95 #[.val (.ref a), .val (.int ii)] [(.int (0 : Int32)), (.int ii), (.ref ha)])) (fun t k => XS.iconst X15.here hx rfl (hb hby d13_94) k) ?_
      exact cont11 _ _ (0 : Int32) X15 e15 NF (by rw [if_pos hc13, if_pos hc18])
    ·
      refine own_by (B := T15.setTop (mkF m 90 #[.val (.ref a), .val (.int ii)] [(.int ii), (.ref ha)])) (fun t k => XS.ifNo X15.here hx rfl (hb hby d13_87) rfl ((if0 _ _).trans (feq hc18).1) k) ?_
      refine own_by (B := T15.setTop (mkF m 91 #[.val (.ref a), .val (.int ii)] [(.int (1 : Int32)), (.int ii), (.ref ha)])) (fun t k => XS.iconst X15.here hx rfl (hb hby d13_90) k) ?_
      refine own_by (B := T15.setTop (mkF m 95 #[.val (.ref a), .val (.int ii)] [(.int (1 : Int32)), (.int ii), (.ref ha)])) (fun t k => XS.goto X15.here hx rfl (pc0 := 91) (pc' := 95) rfl (hb hby d13_91) (by decide) (by decide) k) ?_
      exact cont11 _ _ (1 : Int32) X15 e15 NF (by rw [if_pos hc13, if_neg hc18])
  ·
    refine own_by (B := T8.setTop (mkF m 90 #[.val (.ref a), .val (.int ii)] [(.int ii), (.ref ha)])) (fun t k => XS.ifYes X8.here hx rfl (pc0 := 73) (pc' := 90) rfl (hb hby d13_73) rfl ((if0 _ _).trans (feq hc13).2) (by decide) (by decide) k) ?_
    refine own_by (B := T8.setTop (mkF m 91 #[.val (.ref a), .val (.int ii)] [(.int (1 : Int32)), (.int ii), (.ref ha)])) (fun t k => XS.iconst X8.here hx rfl (hb hby d13_90) k) ?_
    refine own_by (B := T8.setTop (mkF m 95 #[.val (.ref a), .val (.int ii)] [(.int (1 : Int32)), (.int ii), (.ref ha)])) (fun t k => XS.goto X8.here hx rfl (pc0 := 91) (pc' := 95) rfl (hb hby d13_91) (by decide) (by decide) k) ?_
    exact cont11 _ _ (1 : Int32) X8 e8 NF (by rw [if_neg hc13])
theorem d13_0 : decode prog_17_method_6_code 0 = .ok (.iconst 1, 1) := by decide +kernel
theorem d13_1 : decode prog_17_method_6_code 1 = .ok (.istore_n 1, 1) := by decide +kernel
theorem d13_102 : decode prog_17_method_6_code 102 = .ok (.return_, 1) := by decide +kernel
theorem pn_13 : plainName "com/example/myriad_paths/myriadpaths/Conditions" = true := by first | (simp [plainName, overriddenIn]; done) | decide +kernel
theorem ef_13 (m : MethodId) (x0 : Addr) : entryFrame m #[(.ref x0)] 2 = mkF m 0 #[.val (.ref x0), .unset] [] := by first | (simp [entryFrame, mkF, argsToLocals, Value.category]; done) | rfl
def own_Q13 (Z : State) (a : Addr) (fa : Addr) (oa : Addr) (ha : Addr) (ff : Nat → Int32) (fo : Nat → Int32) (fh : Nat → Int32) (h0 : Heap) (n0 : Nat) (v : Option Value) (h : Heap) (L : List Loc) : Prop := v = none ∧ Fr n0 L ∧ Keep h0 h [ha] ∧ own_BA Z h ha .boolean 64 (own_stA ff (own_stO ff fo (own_stA ff (own_stA ff (own_stA ff fh (1 : Int32)) (2 : Int32)) (3 : Int32)) (4 : Int32)) (5 : Int32))
set_option maxRecDepth 65536 in
set_option maxHeartbeats 40000000 in
theorem rm13 (l : Launch) (Z : State) (a0 : Array Value) (hw : ∀ d ∈ tables_1, d.before a0 Z = true) (ws : List Jvm.Cond) (a : Addr) (fa : Addr) (oa : Addr) (ha : Addr) (ff : Nat → Int32) (fo : Nat → Int32) (fh : Nat → Int32) (h0 : Heap) (n0 : Nat) (Z0 : n0 ≤ h0.size) (F_count_a : Fld Z h0 a "com/example/myriad_paths/myriadpaths/Conditions" "count" "I" (.int (6 : Int32))) (F_other_a : Fld Z h0 a "com/example/myriad_paths/myriadpaths/Conditions" "other" "[I" (.ref oa)) (F_first_a : Fld Z h0 a "com/example/myriad_paths/myriadpaths/Conditions" "first" "[I" (.ref fa)) (F_holds_a : Fld Z h0 a "com/example/myriad_paths/myriadpaths/Conditions" "holds" "[Z" (.ref ha)) (V_fa : own_BA Z h0 fa .int 64 ff) (V_oa : own_BA Z h0 oa .int 64 fo) (V_ha : own_BA Z h0 ha .boolean 64 fh) (g_ha : n0 ≤ ha) (ne_a_ha : a ≠ ha) (ne_fa_ha : fa ≠ ha) (ne_oa_ha : oa ≠ ha) (hf1 : ¬ (ff (1 : Int32).toNatClampNeg) < 0 ∧ (ff (1 : Int32).toNatClampNeg).toNatClampNeg < 64) (hf2 : ¬ (ff (2 : Int32).toNatClampNeg) < 0 ∧ (ff (2 : Int32).toNatClampNeg).toNatClampNeg < 64) (hf3 : ¬ (ff (3 : Int32).toNatClampNeg) < 0 ∧ (ff (3 : Int32).toNatClampNeg).toNatClampNeg < 64) (hf4 : ¬ (ff (4 : Int32).toNatClampNeg) < 0 ∧ (ff (4 : Int32).toNatClampNeg).toNatClampNeg < 64) (hf5 : ¬ (ff (5 : Int32).toNatClampNeg) < 0 ∧ (ff (5 : Int32).toNatClampNeg).toNatClampNeg < 64) (hk1 : (fo (1 : Int32).toNatClampNeg) = (-1 : Int32)) (hk2 : (fo (2 : Int32).toNatClampNeg) = (-1 : Int32)) (hk3 : (fo (3 : Int32).toNatClampNeg) = (-1 : Int32)) (hk4 : ¬ (fo (4 : Int32).toNatClampNeg) = (-1 : Int32)) (hk5 : (fo (5 : Int32).toNatClampNeg) = (-1 : Int32)) (hio : ¬ (fo (4 : Int32).toNatClampNeg) < 0 ∧ (fo (4 : Int32).toNatClampNeg).toNatClampNeg < 64) :
    MetFree l (⟨"com/example/myriad_paths/myriadpaths/Conditions", "settle", "()V"⟩ : MethodName) (head1 (Jvm.Cond.code (⟨"com/example/myriad_paths/myriadpaths/Conditions", "settle", "()V"⟩ : MethodName) prog_17_method_6_code 2 none :: ws) ({ frames := 0, cells := 0, slots := 0, locals := 0 } : Room)) (fun aa U => aa = #[(.ref a)] ∧ Z.Warmed39 U.vm ∧ U.heap = h0) (fun _ _ _ _ _ => True) (fun _ U o U' => ∃ v L, o = .returned v ∧ own_Q13 Z a fa oa ha ff fo fh h0 n0 v U'.heap L ∧ FrameEnd U o U' L ({ frames := 0, cells := 0, slots := 0, locals := 0 } : Room).cells ({ frames := 0, cells := 0, slots := 0, locals := 0 } : Room).slots) := by
  refine own_met (plainFor_of_name pn_13) fun p e s m below meth c T0 X0 hx hby hml hret hlk hZ hown hnm e0 => ?_
  refine own_cast (ef_13 m a) ?_
  have NF := Fr.nil n0
  have Zs := Z0
  have K := Keep.refl h0 [ha]
  refine own_by (B := T0.setTop (mkF m 1 #[.val (.ref a), .unset] [(.int (1 : Int32))])) (fun t k => XS.iconst X0.here hx rfl (hb hby d13_0) k) ?_
  refine own_by (B := T0.setTop (mkF m 2 #[.val (.ref a), .val (.int (1 : Int32))] [])) (fun t k => XS.istoreN X0.here hx rfl (hb hby d13_1) rfl (l' := #[.val (.ref a), .val (.int (1 : Int32))]) rfl k) ?_
  refine tnA l Z a0 hw h0 n0 Zs a fa oa ha (6 : Int32) ff fo fh (1 : Int32) F_count_a F_other_a F_first_a F_holds_a V_fa V_oa V_ha g_ha ne_a_ha ne_fa_ha ne_oa_ha (by decide) (by decide) hf1 hk1  ?_ X0 NF hx hby hml hret hlk hZ hown hnm e0
  intro T1 h1 locs1 X1 e1 NF Zs' K1 V'
  clear V_ha
  replace F_count_a : Fld Z h1 a "com/example/myriad_paths/myriadpaths/Conditions" "count" "I" (.int (6 : Int32)) := F_count_a.keep K1 (ninS ne_a_ha nin0)
  replace F_other_a : Fld Z h1 a "com/example/myriad_paths/myriadpaths/Conditions" "other" "[I" (.ref oa) := F_other_a.keep K1 (ninS ne_a_ha nin0)
  replace F_first_a : Fld Z h1 a "com/example/myriad_paths/myriadpaths/Conditions" "first" "[I" (.ref fa) := F_first_a.keep K1 (ninS ne_a_ha nin0)
  replace F_holds_a : Fld Z h1 a "com/example/myriad_paths/myriadpaths/Conditions" "holds" "[Z" (.ref ha) := F_holds_a.keep K1 (ninS ne_a_ha nin0)
  replace V_fa : own_BA Z h1 fa .int 64 ff := V_fa.keep K1 (ninS ne_fa_ha nin0)
  replace V_oa : own_BA Z h1 oa .int 64 fo := V_oa.keep K1 (ninS ne_oa_ha nin0)
  replace Zs : n0 ≤ h1.size := Nat.le_trans Zs K1.1
  replace K : Keep h0 h1 [ha] := K.trans K1 (allS (Or.inl (List.mem_of_getElem? (i := 0) rfl)) all0)
  have V_ha : own_BA Z h1 ha .boolean 64 (own_stA ff fh (1 : Int32)) := V'
  show own_Go p e below s (own_Q13 Z a fa oa ha ff fo fh h0 n0) ({ frames := 0, cells := 0, slots := 0, locals := 0 } : Room).cells ({ frames := 0, cells := 0, slots := 0, locals := 0 } : Room).slots (T1.setTop (mkF m 2 #[.val (.ref a), .val (.int (2 : Int32))] []))
  refine tnA l Z a0 hw h1 n0 Zs a fa oa ha (6 : Int32) ff fo (own_stA ff fh (1 : Int32)) (2 : Int32) F_count_a F_other_a F_first_a F_holds_a V_fa V_oa V_ha g_ha ne_a_ha ne_fa_ha ne_oa_ha (by decide) (by decide) hf2 hk2  ?_ X1 NF hx hby hml hret hlk hZ hown hnm e1
  intro T2 h2 locs2 X2 e2 NF Zs' K2 V'
  clear V_ha
  replace F_count_a : Fld Z h2 a "com/example/myriad_paths/myriadpaths/Conditions" "count" "I" (.int (6 : Int32)) := F_count_a.keep K2 (ninS ne_a_ha nin0)
  replace F_other_a : Fld Z h2 a "com/example/myriad_paths/myriadpaths/Conditions" "other" "[I" (.ref oa) := F_other_a.keep K2 (ninS ne_a_ha nin0)
  replace F_first_a : Fld Z h2 a "com/example/myriad_paths/myriadpaths/Conditions" "first" "[I" (.ref fa) := F_first_a.keep K2 (ninS ne_a_ha nin0)
  replace F_holds_a : Fld Z h2 a "com/example/myriad_paths/myriadpaths/Conditions" "holds" "[Z" (.ref ha) := F_holds_a.keep K2 (ninS ne_a_ha nin0)
  replace V_fa : own_BA Z h2 fa .int 64 ff := V_fa.keep K2 (ninS ne_fa_ha nin0)
  replace V_oa : own_BA Z h2 oa .int 64 fo := V_oa.keep K2 (ninS ne_oa_ha nin0)
  replace Zs : n0 ≤ h2.size := Nat.le_trans Zs K2.1
  replace K : Keep h0 h2 [ha] := K.trans K2 (allS (Or.inl (List.mem_of_getElem? (i := 0) rfl)) all0)
  have V_ha : own_BA Z h2 ha .boolean 64 (own_stA ff (own_stA ff fh (1 : Int32)) (2 : Int32)) := V'
  show own_Go p e below s (own_Q13 Z a fa oa ha ff fo fh h0 n0) ({ frames := 0, cells := 0, slots := 0, locals := 0 } : Room).cells ({ frames := 0, cells := 0, slots := 0, locals := 0 } : Room).slots (T2.setTop (mkF m 2 #[.val (.ref a), .val (.int (3 : Int32))] []))
  refine tnA l Z a0 hw h2 n0 Zs a fa oa ha (6 : Int32) ff fo (own_stA ff (own_stA ff fh (1 : Int32)) (2 : Int32)) (3 : Int32) F_count_a F_other_a F_first_a F_holds_a V_fa V_oa V_ha g_ha ne_a_ha ne_fa_ha ne_oa_ha (by decide) (by decide) hf3 hk3  ?_ X2 NF hx hby hml hret hlk hZ hown hnm e2
  intro T3 h3 locs3 X3 e3 NF Zs' K3 V'
  clear V_ha
  replace F_count_a : Fld Z h3 a "com/example/myriad_paths/myriadpaths/Conditions" "count" "I" (.int (6 : Int32)) := F_count_a.keep K3 (ninS ne_a_ha nin0)
  replace F_other_a : Fld Z h3 a "com/example/myriad_paths/myriadpaths/Conditions" "other" "[I" (.ref oa) := F_other_a.keep K3 (ninS ne_a_ha nin0)
  replace F_first_a : Fld Z h3 a "com/example/myriad_paths/myriadpaths/Conditions" "first" "[I" (.ref fa) := F_first_a.keep K3 (ninS ne_a_ha nin0)
  replace F_holds_a : Fld Z h3 a "com/example/myriad_paths/myriadpaths/Conditions" "holds" "[Z" (.ref ha) := F_holds_a.keep K3 (ninS ne_a_ha nin0)
  replace V_fa : own_BA Z h3 fa .int 64 ff := V_fa.keep K3 (ninS ne_fa_ha nin0)
  replace V_oa : own_BA Z h3 oa .int 64 fo := V_oa.keep K3 (ninS ne_oa_ha nin0)
  replace Zs : n0 ≤ h3.size := Nat.le_trans Zs K3.1
  replace K : Keep h0 h3 [ha] := K.trans K3 (allS (Or.inl (List.mem_of_getElem? (i := 0) rfl)) all0)
  have V_ha : own_BA Z h3 ha .boolean 64 (own_stA ff (own_stA ff (own_stA ff fh (1 : Int32)) (2 : Int32)) (3 : Int32)) := V'
  show own_Go p e below s (own_Q13 Z a fa oa ha ff fo fh h0 n0) ({ frames := 0, cells := 0, slots := 0, locals := 0 } : Room).cells ({ frames := 0, cells := 0, slots := 0, locals := 0 } : Room).slots (T3.setTop (mkF m 2 #[.val (.ref a), .val (.int (4 : Int32))] []))
  refine tnO l Z a0 hw h3 n0 Zs a fa oa ha (6 : Int32) ff fo (own_stA ff (own_stA ff (own_stA ff fh (1 : Int32)) (2 : Int32)) (3 : Int32)) (4 : Int32) F_count_a F_other_a F_first_a F_holds_a V_fa V_oa V_ha g_ha ne_a_ha ne_fa_ha ne_oa_ha (by decide) (by decide) hf4 hk4 hio ?_ X3 NF hx hby hml hret hlk hZ hown hnm e3
  intro T4 h4 locs4 X4 e4 NF Zs' K4 V'
  clear V_ha
  replace F_count_a : Fld Z h4 a "com/example/myriad_paths/myriadpaths/Conditions" "count" "I" (.int (6 : Int32)) := F_count_a.keep K4 (ninS ne_a_ha nin0)
  replace F_other_a : Fld Z h4 a "com/example/myriad_paths/myriadpaths/Conditions" "other" "[I" (.ref oa) := F_other_a.keep K4 (ninS ne_a_ha nin0)
  replace F_first_a : Fld Z h4 a "com/example/myriad_paths/myriadpaths/Conditions" "first" "[I" (.ref fa) := F_first_a.keep K4 (ninS ne_a_ha nin0)
  replace F_holds_a : Fld Z h4 a "com/example/myriad_paths/myriadpaths/Conditions" "holds" "[Z" (.ref ha) := F_holds_a.keep K4 (ninS ne_a_ha nin0)
  replace V_fa : own_BA Z h4 fa .int 64 ff := V_fa.keep K4 (ninS ne_fa_ha nin0)
  replace V_oa : own_BA Z h4 oa .int 64 fo := V_oa.keep K4 (ninS ne_oa_ha nin0)
  replace Zs : n0 ≤ h4.size := Nat.le_trans Zs K4.1
  replace K : Keep h0 h4 [ha] := K.trans K4 (allS (Or.inl (List.mem_of_getElem? (i := 0) rfl)) all0)
  have V_ha : own_BA Z h4 ha .boolean 64 (own_stO ff fo (own_stA ff (own_stA ff (own_stA ff fh (1 : Int32)) (2 : Int32)) (3 : Int32)) (4 : Int32)) := V'
  show own_Go p e below s (own_Q13 Z a fa oa ha ff fo fh h0 n0) ({ frames := 0, cells := 0, slots := 0, locals := 0 } : Room).cells ({ frames := 0, cells := 0, slots := 0, locals := 0 } : Room).slots (T4.setTop (mkF m 2 #[.val (.ref a), .val (.int (5 : Int32))] []))
  refine tnA l Z a0 hw h4 n0 Zs a fa oa ha (6 : Int32) ff fo (own_stO ff fo (own_stA ff (own_stA ff (own_stA ff fh (1 : Int32)) (2 : Int32)) (3 : Int32)) (4 : Int32)) (5 : Int32) F_count_a F_other_a F_first_a F_holds_a V_fa V_oa V_ha g_ha ne_a_ha ne_fa_ha ne_oa_ha (by decide) (by decide) hf5 hk5  ?_ X4 NF hx hby hml hret hlk hZ hown hnm e4
  intro T5 h5 locs5 X5 e5 NF Zs' K5 V'
  clear V_ha
  replace F_count_a : Fld Z h5 a "com/example/myriad_paths/myriadpaths/Conditions" "count" "I" (.int (6 : Int32)) := F_count_a.keep K5 (ninS ne_a_ha nin0)
  replace F_other_a : Fld Z h5 a "com/example/myriad_paths/myriadpaths/Conditions" "other" "[I" (.ref oa) := F_other_a.keep K5 (ninS ne_a_ha nin0)
  replace F_first_a : Fld Z h5 a "com/example/myriad_paths/myriadpaths/Conditions" "first" "[I" (.ref fa) := F_first_a.keep K5 (ninS ne_a_ha nin0)
  replace F_holds_a : Fld Z h5 a "com/example/myriad_paths/myriadpaths/Conditions" "holds" "[Z" (.ref ha) := F_holds_a.keep K5 (ninS ne_a_ha nin0)
  replace V_fa : own_BA Z h5 fa .int 64 ff := V_fa.keep K5 (ninS ne_fa_ha nin0)
  replace V_oa : own_BA Z h5 oa .int 64 fo := V_oa.keep K5 (ninS ne_oa_ha nin0)
  replace Zs : n0 ≤ h5.size := Nat.le_trans Zs K5.1
  replace K : Keep h0 h5 [ha] := K.trans K5 (allS (Or.inl (List.mem_of_getElem? (i := 0) rfl)) all0)
  have V_ha : own_BA Z h5 ha .boolean 64 (own_stA ff (own_stO ff fo (own_stA ff (own_stA ff (own_stA ff fh (1 : Int32)) (2 : Int32)) (3 : Int32)) (4 : Int32)) (5 : Int32)) := V'
  show own_Go p e below s (own_Q13 Z a fa oa ha ff fo fh h0 n0) ({ frames := 0, cells := 0, slots := 0, locals := 0 } : Room).cells ({ frames := 0, cells := 0, slots := 0, locals := 0 } : Room).slots (T5.setTop (mkF m 2 #[.val (.ref a), .val (.int (6 : Int32))] []))
  refine own_by (B := T5.setTop (mkF m 3 #[.val (.ref a), .val (.int (6 : Int32))] [(.int (6 : Int32))])) (fun t k => XS.iloadN X5.here hx rfl (hb hby d13_2) rfl k) ?_
  refine own_by (B := T5.setTop (mkF m 4 #[.val (.ref a), .val (.int (6 : Int32))] [(.ref a), (.int (6 : Int32))])) (fun t k => XS.aloadN X5.here hx rfl (hb hby d13_3) rfl rfl k) ?_
  obtain ⟨T6, X6, e6, st6⟩ := getF X5 hx hZ hown (host := "") (Or.inl (hw _ (List.mem_of_getElem? (i := 63) rfl))) Via.refl e5 F_count_a (g := (mkF m 4 #[.val (.ref a), .val (.int (6 : Int32))] [(.ref a), (.int (6 : Int32))])) rfl rfl (hb hby d13_4)
  refine own_by (B := T6.setTop (mkF m 7 #[.val (.ref a), .val (.int (6 : Int32))] [(.int (6 : Int32)), (.int (6 : Int32))])) (fun t k => st6 _ k) ?_
  have hc7 : ¬ ((6 : Int32) < (6 : Int32)) := by decide
  refine own_by (B := T6.setTop (mkF m 102 #[.val (.ref a), .val (.int (6 : Int32))] [])) (fun t k => XS.icmpYes X6.here hx rfl (pc0 := 7) (pc' := 102) rfl (hb hby d13_7) rfl (flt hc7).2.1 (by decide) (by decide) k) ?_
  exact own_ret X6 hx hlk hret (hb hby d13_102) (by show own_Q13 Z a fa oa ha ff fo fh h0 n0 _ _ _; rw [e6]; exact ⟨rfl, NF, K, V_ha⟩) (by decide) (by decide)
theorem d14_0 : decode prog_17_method_7_code 0 = .ok (.aload_n 0, 1) := by decide +kernel
theorem d14_1 : decode prog_17_method_7_code 1 = .ok (.getfield 18, 3) := by decide +kernel
theorem d14_4 : decode prog_17_method_7_code 4 = .ok (.iload_n 1, 1) := by decide +kernel
theorem d14_5 : decode prog_17_method_7_code 5 = .ok (.baload, 1) := by decide +kernel
theorem d14_6 : decode prog_17_method_7_code 6 = .ok (.ireturn, 1) := by decide +kernel
theorem pn_14 : plainName "com/example/myriad_paths/myriadpaths/Conditions" = true := by first | (simp [plainName, overriddenIn]; done) | decide +kernel
theorem ef_14 (m : MethodId) (a : Addr) (x1 : Int32) : entryFrame m #[(.ref a), (.int x1)] 2 = mkF m 0 #[.val (.ref a), .val (.int x1)] [] := by first | (simp [entryFrame, mkF, argsToLocals, Value.category]; done) | rfl
def f14_0 (fh : Nat → Int32) (x1 : Int32) : Int32 := (nar .boolean (fh (x1).toNatClampNeg))
set_option maxRecDepth 65536 in
set_option maxHeartbeats 40000000 in
theorem bk14_0 (l : Launch) (Z : State) (a0 : Array Value) (hw : ∀ d ∈ tables_1, d.before a0 Z = true) (h0 : Heap) (a : Addr) (ha : Addr) (fh : Nat → Int32) (F_holds_a : Fld Z h0 a "com/example/myriad_paths/myriadpaths/Conditions" "holds" "[Z" (.ref ha)) (V_ha : own_BA Z h0 ha .boolean 64 fh) (x1 : Int32) (hix : ¬ x1 < 0 ∧ x1.toNatClampNeg < 64) {p : Program} {e : Env} {s : State} {m : MethodId} {args : Array Value} {below : List Frame} {meth : Method} {c : Code} {T0 : State}
    (X0 : Stand p l e ({ frames := 0, cells := 0, slots := 0, locals := 0 } : Room) s m args below meth c T0 [] 0 0) (hx : p.tables.exec = Jvm.exec) (hby : c.code = prog_17_method_7_code) (hml : c.maxLocals = 2) (hret : meth.sig.returnType = (some .boolean)) (hlk : meth.locks = false) (hZ : Z.Warmed39 s.vm) (hown : s.vm.findClass "com/example/myriad_paths/myriadpaths/Conditions" = some m.cls) (hnm : meth.name = "holds") (e0 : T0.heap = h0) :
    own_Go p e below s (own_Qp (some (.int (f14_0 fh x1))) h0) 0 0 (T0.setTop (mkF m 0 #[.val (.ref a), .val (.int x1)] [])) := by
  have hf : f14_0 fh x1 = (nar .boolean (fh (x1).toNatClampNeg)) := rfl
  refine own_by (B := T0.setTop (mkF m 1 #[.val (.ref a), .val (.int x1)] [(.ref a)])) (fun t k => XS.aloadN X0.here hx rfl (hb hby d14_0) rfl rfl k) ?_
  obtain ⟨T1, X1, e1, st1⟩ := getF X0 hx hZ hown (host := "") (Or.inl (hw _ (List.mem_of_getElem? (i := 54) rfl))) Via.refl e0 F_holds_a (g := (mkF m 1 #[.val (.ref a), .val (.int x1)] [(.ref a)])) rfl rfl (hb hby d14_1)
  refine own_by (B := T1.setTop (mkF m 4 #[.val (.ref a), .val (.int x1)] [(.ref ha)])) (fun t k => st1 _ k) ?_
  refine own_by (B := T1.setTop (mkF m 5 #[.val (.ref a), .val (.int x1)] [(.int x1), (.ref ha)])) (fun t k => XS.iloadN X1.here hx rfl (hb hby d14_4) rfl k) ?_
  obtain ⟨cl2, Ar2, S2, H2⟩ := V_ha
  have hin2 : ¬ (x1 < 0 ∨ cl2.slots.size ≤ (x1).toNatClampNeg) := own_in S2 hix
  have hat2 : cl2.slots[(x1).toNatClampNeg]? = some (.int (fh (x1).toNatClampNeg)) := H2 _ (own_lt S2 hin2)
  refine own_by (B := T1.setTop (mkF m 6 #[.val (.ref a), .val (.int x1)] [(.int (fh (x1).toNatClampNeg))])) (fun t k => X1.baloadBooleans hx (j := x1) (v := (.int (fh (x1).toNatClampNeg))) (by rw [e1]; exact Ar2.1) (State.isArrayOf_alike hZ.alike Ar2.2.1) Ar2.2.2 hin2 hat2 (g := (mkF m 5 #[.val (.ref a), .val (.int x1)] [(.int x1), (.ref ha)])) rfl rfl (hb hby d14_5) _ k) ?_
  have V_ha : own_BA Z h0 ha .boolean 64 fh := ⟨cl2, Ar2, S2, H2⟩
  exact own_retN (t := .boolean) (by simp) X1 hx hlk hret (z' := (nar .boolean (fh (x1).toNatClampNeg))) rfl (hb hby d14_6) ⟨by rw [hf], rfl, e1⟩ (by decide) (by decide)
set_option maxRecDepth 65536 in
set_option maxHeartbeats 40000000 in
theorem rm14 (l : Launch) (Z : State) (a0 : Array Value) (hw : ∀ d ∈ tables_1, d.before a0 Z = true) (ws : List Jvm.Cond) (a : Addr) (x1 : Int32) (ha : Addr) (fh : Nat → Int32) (h0 : Heap) (F_holds_a : Fld Z h0 a "com/example/myriad_paths/myriadpaths/Conditions" "holds" "[Z" (.ref ha)) (V_ha : own_BA Z h0 ha .boolean 64 fh) (hix : ¬ x1 < 0 ∧ x1.toNatClampNeg < 64) :
    MetFree l (⟨"com/example/myriad_paths/myriadpaths/Conditions", "holds", "(I)Z"⟩ : MethodName) (head1 (Jvm.Cond.code (⟨"com/example/myriad_paths/myriadpaths/Conditions", "holds", "(I)Z"⟩ : MethodName) prog_17_method_7_code 2 (some .boolean) :: ws) ({ frames := 0, cells := 0, slots := 0, locals := 0 } : Room)) (fun aa U => aa = #[(.ref a), (.int x1)] ∧ Z.Warmed39 U.vm ∧ U.heap = h0) (fun _ _ _ _ _ => True) (fun _ U o U' => ∃ v L, o = .returned v ∧ own_Qp (some (.int (f14_0 fh x1))) h0 v U'.heap L ∧ FrameEnd U o U' L ({ frames := 0, cells := 0, slots := 0, locals := 0 } : Room).cells ({ frames := 0, cells := 0, slots := 0, locals := 0 } : Room).slots) := by
  refine own_met (plainFor_of_name pn_14) fun p e s m below meth c T0 X0 hx hby hml hret hlk hZ hown hnm e0 => ?_
  refine own_cast (ef_14 m a x1) ?_
  exact bk14_0 l Z a0 hw h0 a ha fh F_holds_a V_ha x1 hix X0 hx hby hml hret hlk hZ hown hnm e0
theorem own_bit (x y u : Int32) (h : u = (if (x &&& y) = (0 : Int32) then (0 : Int32) else (1 : Int32))) : u = 0 ∨ u = 1 := by
  by_cases q : (x &&& y) = (0 : Int32)
  · rw [if_pos q] at h; exact Or.inl h
  · rw [if_neg q] at h; exact Or.inr h
theorem own_fin (p1 p2 p3 p4 rB rD rE : Int32) (b1 : p1 = 0 ∨ p1 = 1) (b2 : p2 = 0 ∨ p2 = 1) (b3 : p3 = 0 ∨ p3 = 1) (b4 : p4 = 0 ∨ p4 = 1) (hB : rB = (if p2 = (0 : Int32) then (0 : Int32) else (if p1 = (0 : Int32) then (0 : Int32) else (1 : Int32)))) (hD : rD = (if rB = (0 : Int32) then (if p3 = (0 : Int32) then (0 : Int32) else (1 : Int32)) else (1 : Int32))) (hE : rE = (if p4 = (0 : Int32) then (0 : Int32) else (if rD = (0 : Int32) then (0 : Int32) else (1 : Int32)))) :
    ¬ (f14_0 (own_stA (own_up (own_up (own_up (own_up (own_up (fun _ => 0) ((1 : Int32)).toNatClampNeg (0 : Int32)) ((2 : Int32)).toNatClampNeg (1 : Int32)) ((3 : Int32)).toNatClampNeg (0 : Int32)) ((4 : Int32)).toNatClampNeg (2 : Int32)) ((5 : Int32)).toNatClampNeg (4 : Int32)) (own_stO (own_up (own_up (own_up (own_up (own_up (fun _ => 0) ((1 : Int32)).toNatClampNeg (0 : Int32)) ((2 : Int32)).toNatClampNeg (1 : Int32)) ((3 : Int32)).toNatClampNeg (0 : Int32)) ((4 : Int32)).toNatClampNeg (2 : Int32)) ((5 : Int32)).toNatClampNeg (4 : Int32)) (own_up (own_up (own_up (own_up (own_up (fun _ => 0) ((1 : Int32)).toNatClampNeg (-1 : Int32)) ((2 : Int32)).toNatClampNeg (-1 : Int32)) ((3 : Int32)).toNatClampNeg (-1 : Int32)) ((4 : Int32)).toNatClampNeg (3 : Int32)) ((5 : Int32)).toNatClampNeg (-1 : Int32)) (own_stA (own_up (own_up (own_up (own_up (own_up (fun _ => 0) ((1 : Int32)).toNatClampNeg (0 : Int32)) ((2 : Int32)).toNatClampNeg (1 : Int32)) ((3 : Int32)).toNatClampNeg (0 : Int32)) ((4 : Int32)).toNatClampNeg (2 : Int32)) ((5 : Int32)).toNatClampNeg (4 : Int32)) (own_stA (own_up (own_up (own_up (own_up (own_up (fun _ => 0) ((1 : Int32)).toNatClampNeg (0 : Int32)) ((2 : Int32)).toNatClampNeg (1 : Int32)) ((3 : Int32)).toNatClampNeg (0 : Int32)) ((4 : Int32)).toNatClampNeg (2 : Int32)) ((5 : Int32)).toNatClampNeg (4 : Int32)) (own_stA (own_up (own_up (own_up (own_up (own_up (fun _ => 0) ((1 : Int32)).toNatClampNeg (0 : Int32)) ((2 : Int32)).toNatClampNeg (1 : Int32)) ((3 : Int32)).toNatClampNeg (0 : Int32)) ((4 : Int32)).toNatClampNeg (2 : Int32)) ((5 : Int32)).toNatClampNeg (4 : Int32)) (own_up (own_up (own_up (own_up (own_up (own_up (own_up (own_up (own_up (own_up (fun _ => 0) ((0 : Int32)).toNatClampNeg (nar .boolean (1 : Int32))) ((1 : Int32)).toNatClampNeg (nar .boolean (0 : Int32))) ((2 : Int32)).toNatClampNeg (nar .boolean (0 : Int32))) ((3 : Int32)).toNatClampNeg (nar .boolean (0 : Int32))) ((4 : Int32)).toNatClampNeg (nar .boolean (0 : Int32))) ((5 : Int32)).toNatClampNeg (nar .boolean (0 : Int32))) ((1 : Int32)).toNatClampNeg (nar .boolean p1)) ((2 : Int32)).toNatClampNeg (nar .boolean p2)) ((3 : Int32)).toNatClampNeg (nar .boolean p3)) ((5 : Int32)).toNatClampNeg (nar .boolean p4)) (1 : Int32)) (2 : Int32)) (3 : Int32)) (4 : Int32)) (5 : Int32)) (0 : Int32)) = (0 : Int32) ∧ (f14_0 (own_stA (own_up (own_up (own_up (own_up (own_up (fun _ => 0) ((1 : Int32)).toNatClampNeg (0 : Int32)) ((2 : Int32)).toNatClampNeg (1 : Int32)) ((3 : Int32)).toNatClampNeg (0 : Int32)) ((4 : Int32)).toNatClampNeg (2 : Int32)) ((5 : Int32)).toNatClampNeg (4 : Int32)) (own_stO (own_up (own_up (own_up (own_up (own_up (fun _ => 0) ((1 : Int32)).toNatClampNeg (0 : Int32)) ((2 : Int32)).toNatClampNeg (1 : Int32)) ((3 : Int32)).toNatClampNeg (0 : Int32)) ((4 : Int32)).toNatClampNeg (2 : Int32)) ((5 : Int32)).toNatClampNeg (4 : Int32)) (own_up (own_up (own_up (own_up (own_up (fun _ => 0) ((1 : Int32)).toNatClampNeg (-1 : Int32)) ((2 : Int32)).toNatClampNeg (-1 : Int32)) ((3 : Int32)).toNatClampNeg (-1 : Int32)) ((4 : Int32)).toNatClampNeg (3 : Int32)) ((5 : Int32)).toNatClampNeg (-1 : Int32)) (own_stA (own_up (own_up (own_up (own_up (own_up (fun _ => 0) ((1 : Int32)).toNatClampNeg (0 : Int32)) ((2 : Int32)).toNatClampNeg (1 : Int32)) ((3 : Int32)).toNatClampNeg (0 : Int32)) ((4 : Int32)).toNatClampNeg (2 : Int32)) ((5 : Int32)).toNatClampNeg (4 : Int32)) (own_stA (own_up (own_up (own_up (own_up (own_up (fun _ => 0) ((1 : Int32)).toNatClampNeg (0 : Int32)) ((2 : Int32)).toNatClampNeg (1 : Int32)) ((3 : Int32)).toNatClampNeg (0 : Int32)) ((4 : Int32)).toNatClampNeg (2 : Int32)) ((5 : Int32)).toNatClampNeg (4 : Int32)) (own_stA (own_up (own_up (own_up (own_up (own_up (fun _ => 0) ((1 : Int32)).toNatClampNeg (0 : Int32)) ((2 : Int32)).toNatClampNeg (1 : Int32)) ((3 : Int32)).toNatClampNeg (0 : Int32)) ((4 : Int32)).toNatClampNeg (2 : Int32)) ((5 : Int32)).toNatClampNeg (4 : Int32)) (own_up (own_up (own_up (own_up (own_up (own_up (own_up (own_up (own_up (own_up (fun _ => 0) ((0 : Int32)).toNatClampNeg (nar .boolean (1 : Int32))) ((1 : Int32)).toNatClampNeg (nar .boolean (0 : Int32))) ((2 : Int32)).toNatClampNeg (nar .boolean (0 : Int32))) ((3 : Int32)).toNatClampNeg (nar .boolean (0 : Int32))) ((4 : Int32)).toNatClampNeg (nar .boolean (0 : Int32))) ((5 : Int32)).toNatClampNeg (nar .boolean (0 : Int32))) ((1 : Int32)).toNatClampNeg (nar .boolean p1)) ((2 : Int32)).toNatClampNeg (nar .boolean p2)) ((3 : Int32)).toNatClampNeg (nar .boolean p3)) ((5 : Int32)).toNatClampNeg (nar .boolean p4)) (1 : Int32)) (2 : Int32)) (3 : Int32)) (4 : Int32)) (5 : Int32)) (1 : Int32)) = p1 ∧ (f14_0 (own_stA (own_up (own_up (own_up (own_up (own_up (fun _ => 0) ((1 : Int32)).toNatClampNeg (0 : Int32)) ((2 : Int32)).toNatClampNeg (1 : Int32)) ((3 : Int32)).toNatClampNeg (0 : Int32)) ((4 : Int32)).toNatClampNeg (2 : Int32)) ((5 : Int32)).toNatClampNeg (4 : Int32)) (own_stO (own_up (own_up (own_up (own_up (own_up (fun _ => 0) ((1 : Int32)).toNatClampNeg (0 : Int32)) ((2 : Int32)).toNatClampNeg (1 : Int32)) ((3 : Int32)).toNatClampNeg (0 : Int32)) ((4 : Int32)).toNatClampNeg (2 : Int32)) ((5 : Int32)).toNatClampNeg (4 : Int32)) (own_up (own_up (own_up (own_up (own_up (fun _ => 0) ((1 : Int32)).toNatClampNeg (-1 : Int32)) ((2 : Int32)).toNatClampNeg (-1 : Int32)) ((3 : Int32)).toNatClampNeg (-1 : Int32)) ((4 : Int32)).toNatClampNeg (3 : Int32)) ((5 : Int32)).toNatClampNeg (-1 : Int32)) (own_stA (own_up (own_up (own_up (own_up (own_up (fun _ => 0) ((1 : Int32)).toNatClampNeg (0 : Int32)) ((2 : Int32)).toNatClampNeg (1 : Int32)) ((3 : Int32)).toNatClampNeg (0 : Int32)) ((4 : Int32)).toNatClampNeg (2 : Int32)) ((5 : Int32)).toNatClampNeg (4 : Int32)) (own_stA (own_up (own_up (own_up (own_up (own_up (fun _ => 0) ((1 : Int32)).toNatClampNeg (0 : Int32)) ((2 : Int32)).toNatClampNeg (1 : Int32)) ((3 : Int32)).toNatClampNeg (0 : Int32)) ((4 : Int32)).toNatClampNeg (2 : Int32)) ((5 : Int32)).toNatClampNeg (4 : Int32)) (own_stA (own_up (own_up (own_up (own_up (own_up (fun _ => 0) ((1 : Int32)).toNatClampNeg (0 : Int32)) ((2 : Int32)).toNatClampNeg (1 : Int32)) ((3 : Int32)).toNatClampNeg (0 : Int32)) ((4 : Int32)).toNatClampNeg (2 : Int32)) ((5 : Int32)).toNatClampNeg (4 : Int32)) (own_up (own_up (own_up (own_up (own_up (own_up (own_up (own_up (own_up (own_up (fun _ => 0) ((0 : Int32)).toNatClampNeg (nar .boolean (1 : Int32))) ((1 : Int32)).toNatClampNeg (nar .boolean (0 : Int32))) ((2 : Int32)).toNatClampNeg (nar .boolean (0 : Int32))) ((3 : Int32)).toNatClampNeg (nar .boolean (0 : Int32))) ((4 : Int32)).toNatClampNeg (nar .boolean (0 : Int32))) ((5 : Int32)).toNatClampNeg (nar .boolean (0 : Int32))) ((1 : Int32)).toNatClampNeg (nar .boolean p1)) ((2 : Int32)).toNatClampNeg (nar .boolean p2)) ((3 : Int32)).toNatClampNeg (nar .boolean p3)) ((5 : Int32)).toNatClampNeg (nar .boolean p4)) (1 : Int32)) (2 : Int32)) (3 : Int32)) (4 : Int32)) (5 : Int32)) (2 : Int32)) = rB ∧ (f14_0 (own_stA (own_up (own_up (own_up (own_up (own_up (fun _ => 0) ((1 : Int32)).toNatClampNeg (0 : Int32)) ((2 : Int32)).toNatClampNeg (1 : Int32)) ((3 : Int32)).toNatClampNeg (0 : Int32)) ((4 : Int32)).toNatClampNeg (2 : Int32)) ((5 : Int32)).toNatClampNeg (4 : Int32)) (own_stO (own_up (own_up (own_up (own_up (own_up (fun _ => 0) ((1 : Int32)).toNatClampNeg (0 : Int32)) ((2 : Int32)).toNatClampNeg (1 : Int32)) ((3 : Int32)).toNatClampNeg (0 : Int32)) ((4 : Int32)).toNatClampNeg (2 : Int32)) ((5 : Int32)).toNatClampNeg (4 : Int32)) (own_up (own_up (own_up (own_up (own_up (fun _ => 0) ((1 : Int32)).toNatClampNeg (-1 : Int32)) ((2 : Int32)).toNatClampNeg (-1 : Int32)) ((3 : Int32)).toNatClampNeg (-1 : Int32)) ((4 : Int32)).toNatClampNeg (3 : Int32)) ((5 : Int32)).toNatClampNeg (-1 : Int32)) (own_stA (own_up (own_up (own_up (own_up (own_up (fun _ => 0) ((1 : Int32)).toNatClampNeg (0 : Int32)) ((2 : Int32)).toNatClampNeg (1 : Int32)) ((3 : Int32)).toNatClampNeg (0 : Int32)) ((4 : Int32)).toNatClampNeg (2 : Int32)) ((5 : Int32)).toNatClampNeg (4 : Int32)) (own_stA (own_up (own_up (own_up (own_up (own_up (fun _ => 0) ((1 : Int32)).toNatClampNeg (0 : Int32)) ((2 : Int32)).toNatClampNeg (1 : Int32)) ((3 : Int32)).toNatClampNeg (0 : Int32)) ((4 : Int32)).toNatClampNeg (2 : Int32)) ((5 : Int32)).toNatClampNeg (4 : Int32)) (own_stA (own_up (own_up (own_up (own_up (own_up (fun _ => 0) ((1 : Int32)).toNatClampNeg (0 : Int32)) ((2 : Int32)).toNatClampNeg (1 : Int32)) ((3 : Int32)).toNatClampNeg (0 : Int32)) ((4 : Int32)).toNatClampNeg (2 : Int32)) ((5 : Int32)).toNatClampNeg (4 : Int32)) (own_up (own_up (own_up (own_up (own_up (own_up (own_up (own_up (own_up (own_up (fun _ => 0) ((0 : Int32)).toNatClampNeg (nar .boolean (1 : Int32))) ((1 : Int32)).toNatClampNeg (nar .boolean (0 : Int32))) ((2 : Int32)).toNatClampNeg (nar .boolean (0 : Int32))) ((3 : Int32)).toNatClampNeg (nar .boolean (0 : Int32))) ((4 : Int32)).toNatClampNeg (nar .boolean (0 : Int32))) ((5 : Int32)).toNatClampNeg (nar .boolean (0 : Int32))) ((1 : Int32)).toNatClampNeg (nar .boolean p1)) ((2 : Int32)).toNatClampNeg (nar .boolean p2)) ((3 : Int32)).toNatClampNeg (nar .boolean p3)) ((5 : Int32)).toNatClampNeg (nar .boolean p4)) (1 : Int32)) (2 : Int32)) (3 : Int32)) (4 : Int32)) (5 : Int32)) (3 : Int32)) = p3 ∧ (f14_0 (own_stA (own_up (own_up (own_up (own_up (own_up (fun _ => 0) ((1 : Int32)).toNatClampNeg (0 : Int32)) ((2 : Int32)).toNatClampNeg (1 : Int32)) ((3 : Int32)).toNatClampNeg (0 : Int32)) ((4 : Int32)).toNatClampNeg (2 : Int32)) ((5 : Int32)).toNatClampNeg (4 : Int32)) (own_stO (own_up (own_up (own_up (own_up (own_up (fun _ => 0) ((1 : Int32)).toNatClampNeg (0 : Int32)) ((2 : Int32)).toNatClampNeg (1 : Int32)) ((3 : Int32)).toNatClampNeg (0 : Int32)) ((4 : Int32)).toNatClampNeg (2 : Int32)) ((5 : Int32)).toNatClampNeg (4 : Int32)) (own_up (own_up (own_up (own_up (own_up (fun _ => 0) ((1 : Int32)).toNatClampNeg (-1 : Int32)) ((2 : Int32)).toNatClampNeg (-1 : Int32)) ((3 : Int32)).toNatClampNeg (-1 : Int32)) ((4 : Int32)).toNatClampNeg (3 : Int32)) ((5 : Int32)).toNatClampNeg (-1 : Int32)) (own_stA (own_up (own_up (own_up (own_up (own_up (fun _ => 0) ((1 : Int32)).toNatClampNeg (0 : Int32)) ((2 : Int32)).toNatClampNeg (1 : Int32)) ((3 : Int32)).toNatClampNeg (0 : Int32)) ((4 : Int32)).toNatClampNeg (2 : Int32)) ((5 : Int32)).toNatClampNeg (4 : Int32)) (own_stA (own_up (own_up (own_up (own_up (own_up (fun _ => 0) ((1 : Int32)).toNatClampNeg (0 : Int32)) ((2 : Int32)).toNatClampNeg (1 : Int32)) ((3 : Int32)).toNatClampNeg (0 : Int32)) ((4 : Int32)).toNatClampNeg (2 : Int32)) ((5 : Int32)).toNatClampNeg (4 : Int32)) (own_stA (own_up (own_up (own_up (own_up (own_up (fun _ => 0) ((1 : Int32)).toNatClampNeg (0 : Int32)) ((2 : Int32)).toNatClampNeg (1 : Int32)) ((3 : Int32)).toNatClampNeg (0 : Int32)) ((4 : Int32)).toNatClampNeg (2 : Int32)) ((5 : Int32)).toNatClampNeg (4 : Int32)) (own_up (own_up (own_up (own_up (own_up (own_up (own_up (own_up (own_up (own_up (fun _ => 0) ((0 : Int32)).toNatClampNeg (nar .boolean (1 : Int32))) ((1 : Int32)).toNatClampNeg (nar .boolean (0 : Int32))) ((2 : Int32)).toNatClampNeg (nar .boolean (0 : Int32))) ((3 : Int32)).toNatClampNeg (nar .boolean (0 : Int32))) ((4 : Int32)).toNatClampNeg (nar .boolean (0 : Int32))) ((5 : Int32)).toNatClampNeg (nar .boolean (0 : Int32))) ((1 : Int32)).toNatClampNeg (nar .boolean p1)) ((2 : Int32)).toNatClampNeg (nar .boolean p2)) ((3 : Int32)).toNatClampNeg (nar .boolean p3)) ((5 : Int32)).toNatClampNeg (nar .boolean p4)) (1 : Int32)) (2 : Int32)) (3 : Int32)) (4 : Int32)) (5 : Int32)) (4 : Int32)) = rD ∧ (f14_0 (own_stA (own_up (own_up (own_up (own_up (own_up (fun _ => 0) ((1 : Int32)).toNatClampNeg (0 : Int32)) ((2 : Int32)).toNatClampNeg (1 : Int32)) ((3 : Int32)).toNatClampNeg (0 : Int32)) ((4 : Int32)).toNatClampNeg (2 : Int32)) ((5 : Int32)).toNatClampNeg (4 : Int32)) (own_stO (own_up (own_up (own_up (own_up (own_up (fun _ => 0) ((1 : Int32)).toNatClampNeg (0 : Int32)) ((2 : Int32)).toNatClampNeg (1 : Int32)) ((3 : Int32)).toNatClampNeg (0 : Int32)) ((4 : Int32)).toNatClampNeg (2 : Int32)) ((5 : Int32)).toNatClampNeg (4 : Int32)) (own_up (own_up (own_up (own_up (own_up (fun _ => 0) ((1 : Int32)).toNatClampNeg (-1 : Int32)) ((2 : Int32)).toNatClampNeg (-1 : Int32)) ((3 : Int32)).toNatClampNeg (-1 : Int32)) ((4 : Int32)).toNatClampNeg (3 : Int32)) ((5 : Int32)).toNatClampNeg (-1 : Int32)) (own_stA (own_up (own_up (own_up (own_up (own_up (fun _ => 0) ((1 : Int32)).toNatClampNeg (0 : Int32)) ((2 : Int32)).toNatClampNeg (1 : Int32)) ((3 : Int32)).toNatClampNeg (0 : Int32)) ((4 : Int32)).toNatClampNeg (2 : Int32)) ((5 : Int32)).toNatClampNeg (4 : Int32)) (own_stA (own_up (own_up (own_up (own_up (own_up (fun _ => 0) ((1 : Int32)).toNatClampNeg (0 : Int32)) ((2 : Int32)).toNatClampNeg (1 : Int32)) ((3 : Int32)).toNatClampNeg (0 : Int32)) ((4 : Int32)).toNatClampNeg (2 : Int32)) ((5 : Int32)).toNatClampNeg (4 : Int32)) (own_stA (own_up (own_up (own_up (own_up (own_up (fun _ => 0) ((1 : Int32)).toNatClampNeg (0 : Int32)) ((2 : Int32)).toNatClampNeg (1 : Int32)) ((3 : Int32)).toNatClampNeg (0 : Int32)) ((4 : Int32)).toNatClampNeg (2 : Int32)) ((5 : Int32)).toNatClampNeg (4 : Int32)) (own_up (own_up (own_up (own_up (own_up (own_up (own_up (own_up (own_up (own_up (fun _ => 0) ((0 : Int32)).toNatClampNeg (nar .boolean (1 : Int32))) ((1 : Int32)).toNatClampNeg (nar .boolean (0 : Int32))) ((2 : Int32)).toNatClampNeg (nar .boolean (0 : Int32))) ((3 : Int32)).toNatClampNeg (nar .boolean (0 : Int32))) ((4 : Int32)).toNatClampNeg (nar .boolean (0 : Int32))) ((5 : Int32)).toNatClampNeg (nar .boolean (0 : Int32))) ((1 : Int32)).toNatClampNeg (nar .boolean p1)) ((2 : Int32)).toNatClampNeg (nar .boolean p2)) ((3 : Int32)).toNatClampNeg (nar .boolean p3)) ((5 : Int32)).toNatClampNeg (nar .boolean p4)) (1 : Int32)) (2 : Int32)) (3 : Int32)) (4 : Int32)) (5 : Int32)) (5 : Int32)) = rE := by
  rcases b1 with rfl | rfl <;> rcases b2 with rfl | rfl <;> rcases b3 with rfl | rfl <;> rcases b4 with rfl | rfl <;> subst hB <;> subst hD <;> subst hE <;> decide +kernel
theorem pn_0 : plainName "com/example/myriad_paths/myriadpaths/ConditionsSettlePinLaw" = true := by first | (simp [plainName, overriddenIn]; done) | decide +kernel
theorem ef_0 (m : MethodId) (i0 : Int32) : entryFrame m #[(.int i0)] maxLocals = mkF m 0 #[.val (.int i0), .unset, .unset, .unset, .unset, .unset, .unset, .unset, .unset, .unset, .unset, .unset, .unset, .unset, .unset, .unset, .unset] [] := by first | (simp [entryFrame, mkF, argsToLocals, Value.category, maxLocals]; done) | rfl
def own_Q0 (n0 : Nat) (v : Option Value) (h : Heap) (L : List Loc) : Prop := v = some (.int 1) ∧ Fr n0 L
set_option maxRecDepth 65536 in
set_option maxHeartbeats 40000000 in
theorem rm0 (l : Launch) (Z : State) (a0 : Array Value) (hw : ∀ d ∈ tables_1, d.before a0 Z = true) (ws : List Jvm.Cond) (i0 : Int32)  (h0 : Heap) (n0 : Nat) (Z0 : n0 ≤ h0.size)  :
    MetFree l x (head1 (Jvm.Cond.code x code maxLocals ret :: ws) room_1) (fun aa U => aa = #[(.int i0)] ∧ Z.Warmed39 U.vm ∧ U.heap = h0) (fun _ _ _ _ _ => True) (fun _ U o U' => ∃ v L, o = .returned v ∧ own_Q0 n0 v U'.heap L ∧ FrameEnd U o U' L room_1.cells room_1.slots) := by
  refine own_met (plainFor_of_name pn_0) fun p e s m below meth c T0 X0 hx hby hml hret hlk hZ hown hnm e0 => ?_
  refine own_cast (ef_0 m i0) ?_
  have NF := Fr.nil n0
  have Zs := Z0
  refine own_by (B := T0.setTop (mkF m 1 #[.val (.int i0), .unset, .unset, .unset, .unset, .unset, .unset, .unset, .unset, .unset, .unset, .unset, .unset, .unset, .unset, .unset, .unset] [(.int i0)])) (fun t k => XS.iloadN X0.here hx rfl (hb hby at_0) rfl k) ?_
  refine own_by (B := T0.setTop (mkF m 2 #[.val (.int i0), .unset, .unset, .unset, .unset, .unset, .unset, .unset, .unset, .unset, .unset, .unset, .unset, .unset, .unset, .unset, .unset] [(.int (1 : Int32)), (.int i0)])) (fun t k => XS.iconst X0.here hx rfl (hb hby at_1) k) ?_
  refine own_by (B := T0.setTop (mkF m 3 #[.val (.int i0), .unset, .unset, .unset, .unset, .unset, .unset, .unset, .unset, .unset, .unset, .unset, .unset, .unset, .unset, .unset, .unset] [(.int (i0 &&& (1 : Int32)))])) (fun t k => XS.iand X0.here hx rfl (hb hby at_2) rfl k) ?_
  obtain ⟨p1, hp1⟩ : ∃ z : Int32, z = (if (i0 &&& (1 : Int32)) = (0 : Int32) then (0 : Int32) else (1 : Int32)) := ⟨_, rfl⟩
  refine own_by (B := T0.setTop (mkF m 11 #[.val (.int i0), .unset, .unset, .unset, .unset, .unset, .unset, .unset, .unset, .unset, .unset, .unset, .unset, .unset, .unset, .unset, .unset] [(.int p1)])) (fun t k => ?_) ?_
  ·
    show Steps p.tables e below (T0.setTop (mkF m 3 #[.val (.int i0), .unset, .unset, .unset, .unset, .unset, .unset, .unset, .unset, .unset, .unset, .unset, .unset, .unset, .unset, .unset, .unset] [(.int (i0 &&& (1 : Int32)))])) t
    by_cases hm2 : (i0 &&& (1 : Int32)) = (0 : Int32)
    ·
      rw [if_pos hm2] at hp1
      refine XS.ifYes X0.here hx rfl (pc0 := 3) (pc' := 10) rfl (hb hby at_3) rfl ((if0 _ _).trans (teq hm2).1) (by decide) (by decide) ?_
      show Steps p.tables e below (T0.setTop (mkF m 10 #[.val (.int i0), .unset, .unset, .unset, .unset, .unset, .unset, .unset, .unset, .unset, .unset, .unset, .unset, .unset, .unset, .unset, .unset] [])) t
      show Steps p.tables e below (T0.setTop (mkF m 10 #[.val (.int i0), .unset, .unset, .unset, .unset, .unset, .unset, .unset, .unset, .unset, .unset, .unset, .unset, .unset, .unset, .unset, .unset] [])) t
      refine XS.iconst X0.here hx rfl (hb hby at_10) ?_
      show Steps p.tables e below (T0.setTop (mkF m 11 #[.val (.int i0), .unset, .unset, .unset, .unset, .unset, .unset, .unset, .unset, .unset, .unset, .unset, .unset, .unset, .unset, .unset, .unset] [(.int (0 : Int32))])) t
      subst hp1
      exact k
    ·
      rw [if_neg hm2] at hp1
      refine XS.ifNo X0.here hx rfl (hb hby at_3) rfl ((if0 _ _).trans (feq hm2).1) ?_
      show Steps p.tables e below (T0.setTop (mkF m 6 #[.val (.int i0), .unset, .unset, .unset, .unset, .unset, .unset, .unset, .unset, .unset, .unset, .unset, .unset, .unset, .unset, .unset, .unset] [])) t
      show Steps p.tables e below (T0.setTop (mkF m 6 #[.val (.int i0), .unset, .unset, .unset, .unset, .unset, .unset, .unset, .unset, .unset, .unset, .unset, .unset, .unset, .unset, .unset, .unset] [])) t
      refine XS.iconst X0.here hx rfl (hb hby at_6) ?_
      show Steps p.tables e below (T0.setTop (mkF m 7 #[.val (.int i0), .unset, .unset, .unset, .unset, .unset, .unset, .unset, .unset, .unset, .unset, .unset, .unset, .unset, .unset, .unset, .unset] [(.int (1 : Int32))])) t
      refine XS.goto X0.here hx rfl (pc0 := 7) (pc' := 11) rfl (hb hby at_7) (by decide) (by decide) ?_
      show Steps p.tables e below (T0.setTop (mkF m 11 #[.val (.int i0), .unset, .unset, .unset, .unset, .unset, .unset, .unset, .unset, .unset, .unset, .unset, .unset, .unset, .unset, .unset, .unset] [(.int (1 : Int32))])) t
      subst hp1
      exact k
  refine own_by (B := T0.setTop (mkF m 12 #[.val (.int i0), .val (.int p1), .unset, .unset, .unset, .unset, .unset, .unset, .unset, .unset, .unset, .unset, .unset, .unset, .unset, .unset, .unset] [])) (fun t k => XS.istoreN X0.here hx rfl (hb hby at_11) rfl (l' := #[.val (.int i0), .val (.int p1), .unset, .unset, .unset, .unset, .unset, .unset, .unset, .unset, .unset, .unset, .unset, .unset, .unset, .unset, .unset]) rfl k) ?_
  refine own_by (B := T0.setTop (mkF m 13 #[.val (.int i0), .val (.int p1), .unset, .unset, .unset, .unset, .unset, .unset, .unset, .unset, .unset, .unset, .unset, .unset, .unset, .unset, .unset] [(.int i0)])) (fun t k => XS.iloadN X0.here hx rfl (hb hby at_12) rfl k) ?_
  refine own_by (B := T0.setTop (mkF m 14 #[.val (.int i0), .val (.int p1), .unset, .unset, .unset, .unset, .unset, .unset, .unset, .unset, .unset, .unset, .unset, .unset, .unset, .unset, .unset] [(.int (2 : Int32)), (.int i0)])) (fun t k => XS.iconst X0.here hx rfl (hb hby at_13) k) ?_
  refine own_by (B := T0.setTop (mkF m 15 #[.val (.int i0), .val (.int p1), .unset, .unset, .unset, .unset, .unset, .unset, .unset, .unset, .unset, .unset, .unset, .unset, .unset, .unset, .unset] [(.int (i0 &&& (2 : Int32)))])) (fun t k => XS.iand X0.here hx rfl (hb hby at_14) rfl k) ?_
  obtain ⟨p2, hp2⟩ : ∃ z : Int32, z = (if (i0 &&& (2 : Int32)) = (0 : Int32) then (0 : Int32) else (1 : Int32)) := ⟨_, rfl⟩
  refine own_by (B := T0.setTop (mkF m 23 #[.val (.int i0), .val (.int p1), .unset, .unset, .unset, .unset, .unset, .unset, .unset, .unset, .unset, .unset, .unset, .unset, .unset, .unset, .unset] [(.int p2)])) (fun t k => ?_) ?_
  ·
    show Steps p.tables e below (T0.setTop (mkF m 15 #[.val (.int i0), .val (.int p1), .unset, .unset, .unset, .unset, .unset, .unset, .unset, .unset, .unset, .unset, .unset, .unset, .unset, .unset, .unset] [(.int (i0 &&& (2 : Int32)))])) t
    by_cases hm4 : (i0 &&& (2 : Int32)) = (0 : Int32)
    ·
      rw [if_pos hm4] at hp2
      refine XS.ifYes X0.here hx rfl (pc0 := 15) (pc' := 22) rfl (hb hby at_15) rfl ((if0 _ _).trans (teq hm4).1) (by decide) (by decide) ?_
      show Steps p.tables e below (T0.setTop (mkF m 22 #[.val (.int i0), .val (.int p1), .unset, .unset, .unset, .unset, .unset, .unset, .unset, .unset, .unset, .unset, .unset, .unset, .unset, .unset, .unset] [])) t
      show Steps p.tables e below (T0.setTop (mkF m 22 #[.val (.int i0), .val (.int p1), .unset, .unset, .unset, .unset, .unset, .unset, .unset, .unset, .unset, .unset, .unset, .unset, .unset, .unset, .unset] [])) t
      refine XS.iconst X0.here hx rfl (hb hby at_22) ?_
      show Steps p.tables e below (T0.setTop (mkF m 23 #[.val (.int i0), .val (.int p1), .unset, .unset, .unset, .unset, .unset, .unset, .unset, .unset, .unset, .unset, .unset, .unset, .unset, .unset, .unset] [(.int (0 : Int32))])) t
      subst hp2
      exact k
    ·
      rw [if_neg hm4] at hp2
      refine XS.ifNo X0.here hx rfl (hb hby at_15) rfl ((if0 _ _).trans (feq hm4).1) ?_
      show Steps p.tables e below (T0.setTop (mkF m 18 #[.val (.int i0), .val (.int p1), .unset, .unset, .unset, .unset, .unset, .unset, .unset, .unset, .unset, .unset, .unset, .unset, .unset, .unset, .unset] [])) t
      show Steps p.tables e below (T0.setTop (mkF m 18 #[.val (.int i0), .val (.int p1), .unset, .unset, .unset, .unset, .unset, .unset, .unset, .unset, .unset, .unset, .unset, .unset, .unset, .unset, .unset] [])) t
      refine XS.iconst X0.here hx rfl (hb hby at_18) ?_
      show Steps p.tables e below (T0.setTop (mkF m 19 #[.val (.int i0), .val (.int p1), .unset, .unset, .unset, .unset, .unset, .unset, .unset, .unset, .unset, .unset, .unset, .unset, .unset, .unset, .unset] [(.int (1 : Int32))])) t
      refine XS.goto X0.here hx rfl (pc0 := 19) (pc' := 23) rfl (hb hby at_19) (by decide) (by decide) ?_
      show Steps p.tables e below (T0.setTop (mkF m 23 #[.val (.int i0), .val (.int p1), .unset, .unset, .unset, .unset, .unset, .unset, .unset, .unset, .unset, .unset, .unset, .unset, .unset, .unset, .unset] [(.int (1 : Int32))])) t
      subst hp2
      exact k
  refine own_by (B := T0.setTop (mkF m 24 #[.val (.int i0), .val (.int p1), .val (.int p2), .unset, .unset, .unset, .unset, .unset, .unset, .unset, .unset, .unset, .unset, .unset, .unset, .unset, .unset] [])) (fun t k => XS.istoreN X0.here hx rfl (hb hby at_23) rfl (l' := #[.val (.int i0), .val (.int p1), .val (.int p2), .unset, .unset, .unset, .unset, .unset, .unset, .unset, .unset, .unset, .unset, .unset, .unset, .unset, .unset]) rfl k) ?_
  refine own_by (B := T0.setTop (mkF m 25 #[.val (.int i0), .val (.int p1), .val (.int p2), .unset, .unset, .unset, .unset, .unset, .unset, .unset, .unset, .unset, .unset, .unset, .unset, .unset, .unset] [(.int i0)])) (fun t k => XS.iloadN X0.here hx rfl (hb hby at_24) rfl k) ?_
  refine own_by (B := T0.setTop (mkF m 26 #[.val (.int i0), .val (.int p1), .val (.int p2), .unset, .unset, .unset, .unset, .unset, .unset, .unset, .unset, .unset, .unset, .unset, .unset, .unset, .unset] [(.int (4 : Int32)), (.int i0)])) (fun t k => XS.iconst X0.here hx rfl (hb hby at_25) k) ?_
  refine own_by (B := T0.setTop (mkF m 27 #[.val (.int i0), .val (.int p1), .val (.int p2), .unset, .unset, .unset, .unset, .unset, .unset, .unset, .unset, .unset, .unset, .unset, .unset, .unset, .unset] [(.int (i0 &&& (4 : Int32)))])) (fun t k => XS.iand X0.here hx rfl (hb hby at_26) rfl k) ?_
  obtain ⟨p3, hp3⟩ : ∃ z : Int32, z = (if (i0 &&& (4 : Int32)) = (0 : Int32) then (0 : Int32) else (1 : Int32)) := ⟨_, rfl⟩
  refine own_by (B := T0.setTop (mkF m 35 #[.val (.int i0), .val (.int p1), .val (.int p2), .unset, .unset, .unset, .unset, .unset, .unset, .unset, .unset, .unset, .unset, .unset, .unset, .unset, .unset] [(.int p3)])) (fun t k => ?_) ?_
  ·
    show Steps p.tables e below (T0.setTop (mkF m 27 #[.val (.int i0), .val (.int p1), .val (.int p2), .unset, .unset, .unset, .unset, .unset, .unset, .unset, .unset, .unset, .unset, .unset, .unset, .unset, .unset] [(.int (i0 &&& (4 : Int32)))])) t
    by_cases hm6 : (i0 &&& (4 : Int32)) = (0 : Int32)
    ·
      rw [if_pos hm6] at hp3
      refine XS.ifYes X0.here hx rfl (pc0 := 27) (pc' := 34) rfl (hb hby at_27) rfl ((if0 _ _).trans (teq hm6).1) (by decide) (by decide) ?_
      show Steps p.tables e below (T0.setTop (mkF m 34 #[.val (.int i0), .val (.int p1), .val (.int p2), .unset, .unset, .unset, .unset, .unset, .unset, .unset, .unset, .unset, .unset, .unset, .unset, .unset, .unset] [])) t
      show Steps p.tables e below (T0.setTop (mkF m 34 #[.val (.int i0), .val (.int p1), .val (.int p2), .unset, .unset, .unset, .unset, .unset, .unset, .unset, .unset, .unset, .unset, .unset, .unset, .unset, .unset] [])) t
      refine XS.iconst X0.here hx rfl (hb hby at_34) ?_
      show Steps p.tables e below (T0.setTop (mkF m 35 #[.val (.int i0), .val (.int p1), .val (.int p2), .unset, .unset, .unset, .unset, .unset, .unset, .unset, .unset, .unset, .unset, .unset, .unset, .unset, .unset] [(.int (0 : Int32))])) t
      subst hp3
      exact k
    ·
      rw [if_neg hm6] at hp3
      refine XS.ifNo X0.here hx rfl (hb hby at_27) rfl ((if0 _ _).trans (feq hm6).1) ?_
      show Steps p.tables e below (T0.setTop (mkF m 30 #[.val (.int i0), .val (.int p1), .val (.int p2), .unset, .unset, .unset, .unset, .unset, .unset, .unset, .unset, .unset, .unset, .unset, .unset, .unset, .unset] [])) t
      show Steps p.tables e below (T0.setTop (mkF m 30 #[.val (.int i0), .val (.int p1), .val (.int p2), .unset, .unset, .unset, .unset, .unset, .unset, .unset, .unset, .unset, .unset, .unset, .unset, .unset, .unset] [])) t
      refine XS.iconst X0.here hx rfl (hb hby at_30) ?_
      show Steps p.tables e below (T0.setTop (mkF m 31 #[.val (.int i0), .val (.int p1), .val (.int p2), .unset, .unset, .unset, .unset, .unset, .unset, .unset, .unset, .unset, .unset, .unset, .unset, .unset, .unset] [(.int (1 : Int32))])) t
      refine XS.goto X0.here hx rfl (pc0 := 31) (pc' := 35) rfl (hb hby at_31) (by decide) (by decide) ?_
      show Steps p.tables e below (T0.setTop (mkF m 35 #[.val (.int i0), .val (.int p1), .val (.int p2), .unset, .unset, .unset, .unset, .unset, .unset, .unset, .unset, .unset, .unset, .unset, .unset, .unset, .unset] [(.int (1 : Int32))])) t
      subst hp3
      exact k
  refine own_by (B := T0.setTop (mkF m 36 #[.val (.int i0), .val (.int p1), .val (.int p2), .val (.int p3), .unset, .unset, .unset, .unset, .unset, .unset, .unset, .unset, .unset, .unset, .unset, .unset, .unset] [])) (fun t k => XS.istoreN X0.here hx rfl (hb hby at_35) rfl (l' := #[.val (.int i0), .val (.int p1), .val (.int p2), .val (.int p3), .unset, .unset, .unset, .unset, .unset, .unset, .unset, .unset, .unset, .unset, .unset, .unset, .unset]) rfl k) ?_
  refine own_by (B := T0.setTop (mkF m 37 #[.val (.int i0), .val (.int p1), .val (.int p2), .val (.int p3), .unset, .unset, .unset, .unset, .unset, .unset, .unset, .unset, .unset, .unset, .unset, .unset, .unset] [(.int i0)])) (fun t k => XS.iloadN X0.here hx rfl (hb hby at_36) rfl k) ?_
  refine own_by (B := T0.setTop (mkF m 39 #[.val (.int i0), .val (.int p1), .val (.int p2), .val (.int p3), .unset, .unset, .unset, .unset, .unset, .unset, .unset, .unset, .unset, .unset, .unset, .unset, .unset] [(.int (8 : Int32)), (.int i0)])) (fun t k => XS.bipush X0.here hx rfl (hb hby at_37) k) ?_
  refine own_by (B := T0.setTop (mkF m 40 #[.val (.int i0), .val (.int p1), .val (.int p2), .val (.int p3), .unset, .unset, .unset, .unset, .unset, .unset, .unset, .unset, .unset, .unset, .unset, .unset, .unset] [(.int (i0 &&& (8 : Int32)))])) (fun t k => XS.iand X0.here hx rfl (hb hby at_39) rfl k) ?_
  obtain ⟨p4, hp4⟩ : ∃ z : Int32, z = (if (i0 &&& (8 : Int32)) = (0 : Int32) then (0 : Int32) else (1 : Int32)) := ⟨_, rfl⟩
  refine own_by (B := T0.setTop (mkF m 48 #[.val (.int i0), .val (.int p1), .val (.int p2), .val (.int p3), .unset, .unset, .unset, .unset, .unset, .unset, .unset, .unset, .unset, .unset, .unset, .unset, .unset] [(.int p4)])) (fun t k => ?_) ?_
  ·
    show Steps p.tables e below (T0.setTop (mkF m 40 #[.val (.int i0), .val (.int p1), .val (.int p2), .val (.int p3), .unset, .unset, .unset, .unset, .unset, .unset, .unset, .unset, .unset, .unset, .unset, .unset, .unset] [(.int (i0 &&& (8 : Int32)))])) t
    by_cases hm8 : (i0 &&& (8 : Int32)) = (0 : Int32)
    ·
      rw [if_pos hm8] at hp4
      refine XS.ifYes X0.here hx rfl (pc0 := 40) (pc' := 47) rfl (hb hby at_40) rfl ((if0 _ _).trans (teq hm8).1) (by decide) (by decide) ?_
      show Steps p.tables e below (T0.setTop (mkF m 47 #[.val (.int i0), .val (.int p1), .val (.int p2), .val (.int p3), .unset, .unset, .unset, .unset, .unset, .unset, .unset, .unset, .unset, .unset, .unset, .unset, .unset] [])) t
      show Steps p.tables e below (T0.setTop (mkF m 47 #[.val (.int i0), .val (.int p1), .val (.int p2), .val (.int p3), .unset, .unset, .unset, .unset, .unset, .unset, .unset, .unset, .unset, .unset, .unset, .unset, .unset] [])) t
      refine XS.iconst X0.here hx rfl (hb hby at_47) ?_
      show Steps p.tables e below (T0.setTop (mkF m 48 #[.val (.int i0), .val (.int p1), .val (.int p2), .val (.int p3), .unset, .unset, .unset, .unset, .unset, .unset, .unset, .unset, .unset, .unset, .unset, .unset, .unset] [(.int (0 : Int32))])) t
      subst hp4
      exact k
    ·
      rw [if_neg hm8] at hp4
      refine XS.ifNo X0.here hx rfl (hb hby at_40) rfl ((if0 _ _).trans (feq hm8).1) ?_
      show Steps p.tables e below (T0.setTop (mkF m 43 #[.val (.int i0), .val (.int p1), .val (.int p2), .val (.int p3), .unset, .unset, .unset, .unset, .unset, .unset, .unset, .unset, .unset, .unset, .unset, .unset, .unset] [])) t
      show Steps p.tables e below (T0.setTop (mkF m 43 #[.val (.int i0), .val (.int p1), .val (.int p2), .val (.int p3), .unset, .unset, .unset, .unset, .unset, .unset, .unset, .unset, .unset, .unset, .unset, .unset, .unset] [])) t
      refine XS.iconst X0.here hx rfl (hb hby at_43) ?_
      show Steps p.tables e below (T0.setTop (mkF m 44 #[.val (.int i0), .val (.int p1), .val (.int p2), .val (.int p3), .unset, .unset, .unset, .unset, .unset, .unset, .unset, .unset, .unset, .unset, .unset, .unset, .unset] [(.int (1 : Int32))])) t
      refine XS.goto X0.here hx rfl (pc0 := 44) (pc' := 48) rfl (hb hby at_44) (by decide) (by decide) ?_
      show Steps p.tables e below (T0.setTop (mkF m 48 #[.val (.int i0), .val (.int p1), .val (.int p2), .val (.int p3), .unset, .unset, .unset, .unset, .unset, .unset, .unset, .unset, .unset, .unset, .unset, .unset, .unset] [(.int (1 : Int32))])) t
      subst hp4
      exact k
  refine own_by (B := T0.setTop (mkF m 50 #[.val (.int i0), .val (.int p1), .val (.int p2), .val (.int p3), .val (.int p4), .unset, .unset, .unset, .unset, .unset, .unset, .unset, .unset, .unset, .unset, .unset, .unset] [])) (fun t k => XS.istore X0.here hx rfl (hb hby at_48) rfl (l' := #[.val (.int i0), .val (.int p1), .val (.int p2), .val (.int p3), .val (.int p4), .unset, .unset, .unset, .unset, .unset, .unset, .unset, .unset, .unset, .unset, .unset, .unset]) rfl k) ?_
  obtain ⟨T9, h9, X9, e9, E9, A9, D9, -, st9⟩ := newO X0 hx hZ hown (hw _ (List.mem_of_getElem? (i := 0) rfl)) (hw _ (List.mem_of_getElem? (i := 1) rfl)) (hw _ (List.mem_of_getElem? (i := 2) rfl)) e0 (g := (mkF m 50 #[.val (.int i0), .val (.int p1), .val (.int p2), .val (.int p3), .val (.int p4), .unset, .unset, .unset, .unset, .unset, .unset, .unset, .unset, .unset, .unset, .unset, .unset] [])) rfl (hb hby at_50) (by decide) (by decide)
  obtain ⟨b9, g9⟩ : ∃ z, z = h0.size := ⟨_, rfl⟩
  rw [← g9] at A9 D9 st9
  have g_b9 : n0 ≤ b9 := Nat.le_trans Zs (Nat.le_of_eq g9.symm)
  replace Zs : n0 ≤ h9.size := Nat.le_trans Zs E9.1
  have E_b9 : Exa Z h9 b9 "com/example/myriad_paths/myriadpaths/DocumentMemory" := A9
  have F_held_b9 : Fld Z h9 b9 "com/example/myriad_paths/myriadpaths/DocumentMemory" "held" "Ljava/util/concurrent/atomic/AtomicLong;" .null := D9 (Or.inr (hw _ (List.mem_of_getElem? (i := 24) rfl))) (ty := (.object "java/util/concurrent/atomic/AtomicLong")) (by decide)
  have F_limit_b9 : Fld Z h9 b9 "com/example/myriad_paths/myriadpaths/DocumentMemory" "limit" "J" (.long (0 : Int64)) := D9 (Or.inr (hw _ (List.mem_of_getElem? (i := 26) rfl))) (ty := .long) (by decide)
  refine own_by (B := T9.setTop (mkF m 53 #[.val (.int i0), .val (.int p1), .val (.int p2), .val (.int p3), .val (.int p4), .unset, .unset, .unset, .unset, .unset, .unset, .unset, .unset, .unset, .unset, .unset, .unset] [(.ref b9)])) (fun t k => st9 _ k) ?_
  refine own_by (B := T9.setTop (mkF m 54 #[.val (.int i0), .val (.int p1), .val (.int p2), .val (.int p3), .val (.int p4), .unset, .unset, .unset, .unset, .unset, .unset, .unset, .unset, .unset, .unset, .unset, .unset] [(.ref b9), (.ref b9)])) (fun t k => XS.dup X9.here hx rfl (hb hby at_53) rfl rfl k) ?_
  refine own_by (B := T9.setTop (mkF m 57 #[.val (.int i0), .val (.int p1), .val (.int p2), .val (.int p3), .val (.int p4), .unset, .unset, .unset, .unset, .unset, .unset, .unset, .unset, .unset, .unset, .unset, .unset] [(.long (1073741824 : Int64)), (.ref b9), (.ref b9)])) (fun t k => X9.ldc2Long hx hown (mvT hZ (hw _ (List.mem_of_getElem? (i := 3) rfl))) (g := (mkF m 54 #[.val (.int i0), .val (.int p1), .val (.int p2), .val (.int p3), .val (.int p4), .unset, .unset, .unset, .unset, .unset, .unset, .unset, .unset, .unset, .unset, .unset, .unset] [(.ref b9), (.ref b9)])) rfl (hb hby at_54) _ k) ?_
  obtain ⟨v10, _, ⟨T10, L10, c10, n10⟩, -, X10, ⟨Lc10, hQ10, l10, y10, z10⟩, st10⟩ := X9.specialBack hx (y := (⟨"com/example/myriad_paths/myriadpaths/DocumentMemory", "<init>", "(J)V"⟩ : MethodName)) rfl hown (mvT hZ (hw _ (List.mem_of_getElem? (i := 4) rfl))) (mvT hZ (hw _ (List.mem_of_getElem? (i := 5) rfl))) (mvT hZ (hw _ (List.mem_of_getElem? (i := 6) rfl))) (by decide) (backOf (W := 1) (rm1 l Z a0 hw [] b9 (1073741824 : Int64)  h9 n0 Zs F_held_b9 F_limit_b9 E_b9 g_b9  ) hZ (hw _ (List.mem_of_getElem? (i := 6) rfl)) (hw _ (List.mem_of_getElem? (i := 2) rfl)) (by decide) (by decide)) (g := (mkF m 57 #[.val (.int i0), .val (.int p1), .val (.int p2), .val (.int p3), .val (.int p4), .unset, .unset, .unset, .unset, .unset, .unset, .unset, .unset, .unset, .unset, .unset, .unset] [(.long (1073741824 : Int64)), (.ref b9), (.ref b9)])) rfl (by rw [hml]; rfl) (Steps.refl _) (a := b9) (argsL := [(.long (1073741824 : Int64))]) (rest := [(.ref b9)]) (lenOf pd_3 rfl) rfl (by show 2 * 0 + _ ≤ _; exact Nat.le_of_eq rfl) (hb hby at_57) (fun _ _ => ⟨rfl, e9, (by decide : 1 + 1 ≤ _), (by decide : 2 + 1 ≤ _)⟩)
  dsimp only [Pt.U, Pt.locs, Pt.cells, Pt.slots] at X10 l10 y10 z10 st10 hQ10
  subst l10 y10 z10
  obtain ⟨rfl, Nq10, Kq10, o0_10⟩ := hQ10
  have NF := Fr.app NF Nq10
  replace E_b9 : Exa Z T10.heap b9 "com/example/myriad_paths/myriadpaths/DocumentMemory" := E_b9.keep Kq10
  clear F_held_b9
  clear F_limit_b9
  replace Zs : n0 ≤ T10.heap.size := Nat.le_trans Zs Kq10.1
  have E_b9 : Exa Z T10.heap b9 "com/example/myriad_paths/myriadpaths/DocumentMemory" := o0_10
  refine own_by (B := T10.setTop (mkF m 60 #[.val (.int i0), .val (.int p1), .val (.int p2), .val (.int p3), .val (.int p4), .unset, .unset, .unset, .unset, .unset, .unset, .unset, .unset, .unset, .unset, .unset, .unset] [(.ref b9)])) (fun t k => st10.trans k) ?_
  obtain ⟨cq11, kq11, q11a, q11b, q11c⟩ := isOf hZ rfl E_b9
  obtain ⟨v11, _, ⟨T11, L11, c11, n11⟩, -, X11, ⟨Lc11, hQ11, l11, y11, z11⟩, st11⟩ := X10.virtualBack hx (y := (⟨"com/example/myriad_paths/myriadpaths/DocumentMemory", "share", "()Lcom/example/myriad_paths/myriadpaths/DocumentMemory$Share;"⟩ : MethodName)) (z := (⟨"com/example/myriad_paths/myriadpaths/DocumentMemory", "share", "()Lcom/example/myriad_paths/myriadpaths/DocumentMemory$Share;"⟩ : MethodName)) hown (mvT hZ (hw _ (List.mem_of_getElem? (i := 27) rfl))) (mvT hZ (hw _ (List.mem_of_getElem? (i := 28) rfl))) (notFace_of_selects (args := #[]) (mvT hZ (hw _ (List.mem_of_getElem? (i := 30) rfl)))) (mvT hZ (hw _ (List.mem_of_getElem? (i := 30) rfl))) (mvT hZ (hw _ (List.mem_of_getElem? (i := 29) rfl))) (by decide) (backOf (W := 0) (rm5 l Z a0 hw [] b9  T10.heap n0 Zs E_b9   ) hZ (hw _ (List.mem_of_getElem? (i := 31) rfl)) (hw _ (List.mem_of_getElem? (i := 2) rfl)) (by decide) (by decide)) q11a q11c (g := (mkF m 60 #[.val (.int i0), .val (.int p1), .val (.int p2), .val (.int p3), .val (.int p4), .unset, .unset, .unset, .unset, .unset, .unset, .unset, .unset, .unset, .unset, .unset, .unset] [(.ref b9)])) rfl (by rw [hml]; rfl) (Steps.refl _) (argsL := []) (rest := []) (lenOf pd_4 rfl) rfl (by show 2 * 0 + _ ≤ _; exact Nat.le_of_eq rfl) (hb hby at_60) (fun _ _ => ⟨rfl, rfl, (by decide : 2 + 1 ≤ _), (by decide : 3 + 3 ≤ _)⟩)
  dsimp only [Pt.U, Pt.locs, Pt.cells, Pt.slots] at X11 l11 y11 z11 st11 hQ11
  subst l11 y11 z11
  obtain ⟨b11, rfl, Nq11, Kq11, g_b11, sq_b11, o0_11⟩ := hQ11
  have NF := Fr.app NF Nq11
  have ne_b9_b11 : b9 ≠ b11 := Nat.ne_of_lt (Nat.lt_of_lt_of_le E_b9.lt sq_b11)
  replace E_b9 : Exa Z T11.heap b9 "com/example/myriad_paths/myriadpaths/DocumentMemory" := E_b9.keep Kq11
  replace Zs : n0 ≤ T11.heap.size := Nat.le_trans Zs Kq11.1
  have E_b11 : Exa Z T11.heap b11 "com/example/myriad_paths/myriadpaths/DocumentMemory$Share" := o0_11
  refine own_by (B := T11.setTop (mkF m 63 #[.val (.int i0), .val (.int p1), .val (.int p2), .val (.int p3), .val (.int p4), .unset, .unset, .unset, .unset, .unset, .unset, .unset, .unset, .unset, .unset, .unset, .unset] [(.ref b11)])) (fun t k => st11.trans k) ?_
  refine own_by (B := T11.setTop (mkF m 65 #[.val (.int i0), .val (.int p1), .val (.int p2), .val (.int p3), .val (.int p4), .val (.ref b11), .unset, .unset, .unset, .unset, .unset, .unset, .unset, .unset, .unset, .unset, .unset] [])) (fun t k => XS.astore X11.here hx rfl (hb hby at_63) rfl rfl (l' := #[.val (.int i0), .val (.int p1), .val (.int p2), .val (.int p3), .val (.int p4), .val (.ref b11), .unset, .unset, .unset, .unset, .unset, .unset, .unset, .unset, .unset, .unset, .unset]) rfl k) ?_
  obtain ⟨T12, h12, X12, e12, E12, A12, D12, -, st12⟩ := newO X11 hx hZ hown (hw _ (List.mem_of_getElem? (i := 41) rfl)) (hw _ (List.mem_of_getElem? (i := 42) rfl)) (hw _ (List.mem_of_getElem? (i := 43) rfl)) rfl (g := (mkF m 65 #[.val (.int i0), .val (.int p1), .val (.int p2), .val (.int p3), .val (.int p4), .val (.ref b11), .unset, .unset, .unset, .unset, .unset, .unset, .unset, .unset, .unset, .unset, .unset] [])) rfl (hb hby at_65) (by decide) (by decide)
  obtain ⟨b12, g12⟩ : ∃ z, z = T11.heap.size := ⟨_, rfl⟩
  rw [← g12] at A12 D12 st12
  have g_b12 : n0 ≤ b12 := Nat.le_trans Zs (Nat.le_of_eq g12.symm)
  have ne_b9_b12 : b9 ≠ b12 := Nat.ne_of_lt (Nat.lt_of_lt_of_le E_b9.lt (Nat.le_of_eq g12.symm))
  have ne_b11_b12 : b11 ≠ b12 := Nat.ne_of_lt (Nat.lt_of_lt_of_le E_b11.lt (Nat.le_of_eq g12.symm))
  replace E_b9 : Exa Z h12 b9 "com/example/myriad_paths/myriadpaths/DocumentMemory" := E_b9.ext E12
  replace E_b11 : Exa Z h12 b11 "com/example/myriad_paths/myriadpaths/DocumentMemory$Share" := E_b11.ext E12
  replace Zs : n0 ≤ h12.size := Nat.le_trans Zs E12.1
  have E_b12 : Exa Z h12 b12 "com/example/myriad_paths/myriadpaths/Conditions" := A12
  have F_first_b12 : Fld Z h12 b12 "com/example/myriad_paths/myriadpaths/Conditions" "first" "[I" .null := D12 (Or.inl (hw _ (List.mem_of_getElem? (i := 50) rfl))) (ty := (.array .int)) (by decide)
  have F_other_b12 : Fld Z h12 b12 "com/example/myriad_paths/myriadpaths/Conditions" "other" "[I" .null := D12 (Or.inl (hw _ (List.mem_of_getElem? (i := 52) rfl))) (ty := (.array .int)) (by decide)
  have F_holds_b12 : Fld Z h12 b12 "com/example/myriad_paths/myriadpaths/Conditions" "holds" "[Z" .null := D12 (Or.inl (hw _ (List.mem_of_getElem? (i := 55) rfl))) (ty := (.array .boolean)) (by decide)
  have F_memory_b12 : Fld Z h12 b12 "com/example/myriad_paths/myriadpaths/Conditions" "memory" "Lcom/example/myriad_paths/myriadpaths/DocumentMemory$Share;" .null := D12 (Or.inr (hw _ (List.mem_of_getElem? (i := 57) rfl))) (ty := (.object "com/example/myriad_paths/myriadpaths/DocumentMemory$Share")) (by decide)
  have F_count_b12 : Fld Z h12 b12 "com/example/myriad_paths/myriadpaths/Conditions" "count" "I" (.int (0 : Int32)) := D12 (Or.inl (hw _ (List.mem_of_getElem? (i := 64) rfl))) (ty := .int) (by decide)
  refine own_by (B := T12.setTop (mkF m 68 #[.val (.int i0), .val (.int p1), .val (.int p2), .val (.int p3), .val (.int p4), .val (.ref b11), .unset, .unset, .unset, .unset, .unset, .unset, .unset, .unset, .unset, .unset, .unset] [(.ref b12)])) (fun t k => st12 _ k) ?_
  refine own_by (B := T12.setTop (mkF m 69 #[.val (.int i0), .val (.int p1), .val (.int p2), .val (.int p3), .val (.int p4), .val (.ref b11), .unset, .unset, .unset, .unset, .unset, .unset, .unset, .unset, .unset, .unset, .unset] [(.ref b12), (.ref b12)])) (fun t k => XS.dup X12.here hx rfl (hb hby at_68) rfl rfl k) ?_
  refine own_by (B := T12.setTop (mkF m 71 #[.val (.int i0), .val (.int p1), .val (.int p2), .val (.int p3), .val (.int p4), .val (.ref b11), .unset, .unset, .unset, .unset, .unset, .unset, .unset, .unset, .unset, .unset, .unset] [(.ref b11), (.ref b12), (.ref b12)])) (fun t k => XS.aload X12.here hx rfl (hb hby at_69) rfl rfl k) ?_
  obtain ⟨v13, _, ⟨T13, L13, c13, n13⟩, -, X13, ⟨Lc13, hQ13, l13, y13, z13⟩, st13⟩ := X12.specialBack hx (y := (⟨"com/example/myriad_paths/myriadpaths/Conditions", "<init>", "(Lcom/example/myriad_paths/myriadpaths/DocumentMemory$Share;)V"⟩ : MethodName)) rfl hown (mvT hZ (hw _ (List.mem_of_getElem? (i := 44) rfl))) (mvT hZ (hw _ (List.mem_of_getElem? (i := 45) rfl))) (mvT hZ (hw _ (List.mem_of_getElem? (i := 46) rfl))) (by decide) (backOf (W := 1) (rm7 l Z a0 hw [] b12 b11  h12 n0 Zs F_first_b12 F_other_b12 F_holds_b12 F_memory_b12 F_count_b12 E_b12 g_b12  ) hZ (hw _ (List.mem_of_getElem? (i := 46) rfl)) (hw _ (List.mem_of_getElem? (i := 43) rfl)) (by decide) (by decide)) (g := (mkF m 71 #[.val (.int i0), .val (.int p1), .val (.int p2), .val (.int p3), .val (.int p4), .val (.ref b11), .unset, .unset, .unset, .unset, .unset, .unset, .unset, .unset, .unset, .unset, .unset] [(.ref b11), (.ref b12), (.ref b12)])) rfl (by rw [hml]; rfl) (Steps.refl _) (a := b12) (argsL := [(.ref b11)]) (rest := [(.ref b12)]) (lenOf pd_5 rfl) rfl (by show 2 * 0 + _ ≤ _; exact Nat.le_of_eq rfl) (hb hby at_71) (fun _ _ => ⟨rfl, e12, (by decide : 4 + 3 ≤ _), (by decide : 11 + 192 ≤ _)⟩)
  dsimp only [Pt.U, Pt.locs, Pt.cells, Pt.slots] at X13 l13 y13 z13 st13 hQ13
  subst l13 y13 z13
  obtain ⟨fa13, oa13, ha13, rfl, Nq13, Kq13, g_fa13, g_oa13, g_ha13, sq_fa13, sq_oa13, sq_ha13, ne_fa13_oa13, ne_fa13_ha13, ne_oa13_ha13, o0_13, o1_13, o2_13, o3_13, o4_13, o5_13, o6_13, o7_13⟩ := hQ13
  have NF := Fr.app NF Nq13
  have ne_b9_fa13 : b9 ≠ fa13 := Nat.ne_of_lt (Nat.lt_of_lt_of_le E_b9.lt sq_fa13)
  have ne_b11_fa13 : b11 ≠ fa13 := Nat.ne_of_lt (Nat.lt_of_lt_of_le E_b11.lt sq_fa13)
  have ne_b12_fa13 : b12 ≠ fa13 := Nat.ne_of_lt (Nat.lt_of_lt_of_le E_b12.lt sq_fa13)
  have ne_b9_oa13 : b9 ≠ oa13 := Nat.ne_of_lt (Nat.lt_of_lt_of_le E_b9.lt sq_oa13)
  have ne_b11_oa13 : b11 ≠ oa13 := Nat.ne_of_lt (Nat.lt_of_lt_of_le E_b11.lt sq_oa13)
  have ne_b12_oa13 : b12 ≠ oa13 := Nat.ne_of_lt (Nat.lt_of_lt_of_le E_b12.lt sq_oa13)
  have ne_b9_ha13 : b9 ≠ ha13 := Nat.ne_of_lt (Nat.lt_of_lt_of_le E_b9.lt sq_ha13)
  have ne_b11_ha13 : b11 ≠ ha13 := Nat.ne_of_lt (Nat.lt_of_lt_of_le E_b11.lt sq_ha13)
  have ne_b12_ha13 : b12 ≠ ha13 := Nat.ne_of_lt (Nat.lt_of_lt_of_le E_b12.lt sq_ha13)
  replace E_b9 : Exa Z T13.heap b9 "com/example/myriad_paths/myriadpaths/DocumentMemory" := E_b9.keep Kq13
  replace E_b11 : Exa Z T13.heap b11 "com/example/myriad_paths/myriadpaths/DocumentMemory$Share" := E_b11.keep Kq13
  replace E_b12 : Exa Z T13.heap b12 "com/example/myriad_paths/myriadpaths/Conditions" := E_b12.keep Kq13
  clear F_first_b12
  clear F_other_b12
  clear F_holds_b12
  clear F_memory_b12
  clear F_count_b12
  replace Zs : n0 ≤ T13.heap.size := Nat.le_trans Zs Kq13.1
  have F_first_b12 : Fld Z T13.heap b12 "com/example/myriad_paths/myriadpaths/Conditions" "first" "[I" (.ref fa13) := o0_13
  have F_other_b12 : Fld Z T13.heap b12 "com/example/myriad_paths/myriadpaths/Conditions" "other" "[I" (.ref oa13) := o1_13
  have F_holds_b12 : Fld Z T13.heap b12 "com/example/myriad_paths/myriadpaths/Conditions" "holds" "[Z" (.ref ha13) := o2_13
  have F_count_b12 : Fld Z T13.heap b12 "com/example/myriad_paths/myriadpaths/Conditions" "count" "I" (.int (1 : Int32)) := o3_13
  have E_b12 : Exa Z T13.heap b12 "com/example/myriad_paths/myriadpaths/Conditions" := o4_13
  have V_fa13 : own_BA Z T13.heap fa13 .int 64 (fun _ => 0) := o5_13
  have V_oa13 : own_BA Z T13.heap oa13 .int 64 (fun _ => 0) := o6_13
  have V_ha13 : own_BA Z T13.heap ha13 .boolean 64 (own_up (fun _ => 0) ((0 : Int32)).toNatClampNeg (nar .boolean (1 : Int32))) := o7_13
  refine own_by (B := T13.setTop (mkF m 74 #[.val (.int i0), .val (.int p1), .val (.int p2), .val (.int p3), .val (.int p4), .val (.ref b11), .unset, .unset, .unset, .unset, .unset, .unset, .unset, .unset, .unset, .unset, .unset] [(.ref b12)])) (fun t k => st13.trans k) ?_
  refine own_by (B := T13.setTop (mkF m 76 #[.val (.int i0), .val (.int p1), .val (.int p2), .val (.int p3), .val (.int p4), .val (.ref b11), .val (.ref b12), .unset, .unset, .unset, .unset, .unset, .unset, .unset, .unset, .unset, .unset] [])) (fun t k => XS.astore X13.here hx rfl (hb hby at_74) rfl rfl (l' := #[.val (.int i0), .val (.int p1), .val (.int p2), .val (.int p3), .val (.int p4), .val (.ref b11), .val (.ref b12), .unset, .unset, .unset, .unset, .unset, .unset, .unset, .unset, .unset, .unset]) rfl k) ?_
  refine own_by (B := T13.setTop (mkF m 78 #[.val (.int i0), .val (.int p1), .val (.int p2), .val (.int p3), .val (.int p4), .val (.ref b11), .val (.ref b12), .unset, .unset, .unset, .unset, .unset, .unset, .unset, .unset, .unset, .unset] [(.ref b12)])) (fun t k => XS.aload X13.here hx rfl (hb hby at_76) rfl rfl k) ?_
  refine own_by (B := T13.setTop (mkF m 79 #[.val (.int i0), .val (.int p1), .val (.int p2), .val (.int p3), .val (.int p4), .val (.ref b11), .val (.ref b12), .unset, .unset, .unset, .unset, .unset, .unset, .unset, .unset, .unset, .unset] [(.int (0 : Int32)), (.ref b12)])) (fun t k => XS.iconst X13.here hx rfl (hb hby at_78) k) ?_
  obtain ⟨cq14, kq14, q14a, q14b, q14c⟩ := isOf hZ rfl E_b12
  obtain ⟨v14, _, ⟨T14, L14, c14, n14⟩, -, X14, ⟨Lc14, hQ14, l14, y14, z14⟩, st14⟩ := X13.virtualBack hx (y := (⟨"com/example/myriad_paths/myriadpaths/Conditions", "await", "(I)I"⟩ : MethodName)) (z := (⟨"com/example/myriad_paths/myriadpaths/Conditions", "await", "(I)I"⟩ : MethodName)) hown (mvT hZ (hw _ (List.mem_of_getElem? (i := 65) rfl))) (mvT hZ (hw _ (List.mem_of_getElem? (i := 66) rfl))) (notFace_of_selects (args := #[]) (mvT hZ (hw _ (List.mem_of_getElem? (i := 68) rfl)))) (mvT hZ (hw _ (List.mem_of_getElem? (i := 68) rfl))) (mvT hZ (hw _ (List.mem_of_getElem? (i := 67) rfl))) (by decide) (backOf (W := 0) (rm9 l Z a0 hw [] b12 (0 : Int32) fa13 oa13 ha13 (1 : Int32) (fun _ => 0) (fun _ => 0) (own_up (fun _ => 0) ((0 : Int32)).toNatClampNeg (nar .boolean (1 : Int32))) T13.heap n0 Zs F_first_b12 F_other_b12 F_holds_b12 F_count_b12 V_fa13 V_oa13 V_ha13 E_b12 g_b12 g_fa13 g_oa13 g_ha13 ne_b12_fa13 ne_b12_oa13 ne_b12_ha13 ne_fa13_oa13 ne_fa13_ha13 ne_oa13_ha13 (by decide)) hZ (hw _ (List.mem_of_getElem? (i := 69) rfl)) (hw _ (List.mem_of_getElem? (i := 43) rfl)) (by decide) (by decide)) q14a q14c (g := (mkF m 79 #[.val (.int i0), .val (.int p1), .val (.int p2), .val (.int p3), .val (.int p4), .val (.ref b11), .val (.ref b12), .unset, .unset, .unset, .unset, .unset, .unset, .unset, .unset, .unset, .unset] [(.int (0 : Int32)), (.ref b12)])) rfl (by rw [hml]; rfl) (Steps.refl _) (argsL := [(.int (0 : Int32))]) (rest := []) (lenOf pd_6 rfl) rfl (by show 2 * 0 + _ ≤ _; exact Nat.le_of_eq rfl) (hb hby at_79) (fun _ _ => ⟨rfl, rfl, (by decide : 7 + 0 ≤ _), (by decide : 203 + 0 ≤ _)⟩)
  dsimp only [Pt.U, Pt.locs, Pt.cells, Pt.slots] at X14 l14 y14 z14 st14 hQ14
  subst l14 y14 z14
  obtain ⟨rfl, Nq14, Kq14, o0_14, o1_14, o2_14, o3_14, o4_14, o5_14, o6_14, o7_14⟩ := hQ14
  have NF := Fr.app NF Nq14
  replace E_b9 : Exa Z T14.heap b9 "com/example/myriad_paths/myriadpaths/DocumentMemory" := E_b9.keep Kq14
  replace E_b11 : Exa Z T14.heap b11 "com/example/myriad_paths/myriadpaths/DocumentMemory$Share" := E_b11.keep Kq14
  replace E_b12 : Exa Z T14.heap b12 "com/example/myriad_paths/myriadpaths/Conditions" := E_b12.keep Kq14
  clear F_first_b12
  clear F_other_b12
  clear F_holds_b12
  clear F_count_b12
  clear V_fa13
  clear V_oa13
  clear V_ha13
  replace Zs : n0 ≤ T14.heap.size := Nat.le_trans Zs Kq14.1
  have F_first_b12 : Fld Z T14.heap b12 "com/example/myriad_paths/myriadpaths/Conditions" "first" "[I" (.ref fa13) := o0_14
  have F_other_b12 : Fld Z T14.heap b12 "com/example/myriad_paths/myriadpaths/Conditions" "other" "[I" (.ref oa13) := o1_14
  have F_holds_b12 : Fld Z T14.heap b12 "com/example/myriad_paths/myriadpaths/Conditions" "holds" "[Z" (.ref ha13) := o2_14
  have F_count_b12 : Fld Z T14.heap b12 "com/example/myriad_paths/myriadpaths/Conditions" "count" "I" (.int ((1 : Int32) + (1 : Int32))) := o3_14
  have V_fa13 : own_BA Z T14.heap fa13 .int 64 (own_up (fun _ => 0) ((1 : Int32)).toNatClampNeg (0 : Int32)) := o4_14
  have V_oa13 : own_BA Z T14.heap oa13 .int 64 (own_up (fun _ => 0) ((1 : Int32)).toNatClampNeg (-1 : Int32)) := o5_14
  have V_ha13 : own_BA Z T14.heap ha13 .boolean 64 (own_up (own_up (fun _ => 0) ((0 : Int32)).toNatClampNeg (nar .boolean (1 : Int32))) ((1 : Int32)).toNatClampNeg (nar .boolean (0 : Int32))) := o6_14
  have E_b12 : Exa Z T14.heap b12 "com/example/myriad_paths/myriadpaths/Conditions" := o7_14
  refine own_by (B := T14.setTop (mkF m 82 #[.val (.int i0), .val (.int p1), .val (.int p2), .val (.int p3), .val (.int p4), .val (.ref b11), .val (.ref b12), .unset, .unset, .unset, .unset, .unset, .unset, .unset, .unset, .unset, .unset] [(.int (1 : Int32))])) (fun t k => st14.trans k) ?_
  refine own_by (B := T14.setTop (mkF m 84 #[.val (.int i0), .val (.int p1), .val (.int p2), .val (.int p3), .val (.int p4), .val (.ref b11), .val (.ref b12), .val (.int (1 : Int32)), .unset, .unset, .unset, .unset, .unset, .unset, .unset, .unset, .unset] [])) (fun t k => XS.istore X14.here hx rfl (hb hby at_82) rfl (l' := #[.val (.int i0), .val (.int p1), .val (.int p2), .val (.int p3), .val (.int p4), .val (.ref b11), .val (.ref b12), .val (.int (1 : Int32)), .unset, .unset, .unset, .unset, .unset, .unset, .unset, .unset, .unset]) rfl k) ?_
  have hr15 : ((1 : Int32) + (1 : Int32)) = (2 : Int32) := by decide
  rw [hr15] at F_count_b12
  refine own_by (B := T14.setTop (mkF m 86 #[.val (.int i0), .val (.int p1), .val (.int p2), .val (.int p3), .val (.int p4), .val (.ref b11), .val (.ref b12), .val (.int (1 : Int32)), .unset, .unset, .unset, .unset, .unset, .unset, .unset, .unset, .unset] [(.ref b12)])) (fun t k => XS.aload X14.here hx rfl (hb hby at_84) rfl rfl k) ?_
  refine own_by (B := T14.setTop (mkF m 88 #[.val (.int i0), .val (.int p1), .val (.int p2), .val (.int p3), .val (.int p4), .val (.ref b11), .val (.ref b12), .val (.int (1 : Int32)), .unset, .unset, .unset, .unset, .unset, .unset, .unset, .unset, .unset] [(.int (1 : Int32)), (.ref b12)])) (fun t k => XS.iload X14.here hx rfl (hb hby at_86) rfl k) ?_
  obtain ⟨cq16, kq16, q16a, q16b, q16c⟩ := isOf hZ rfl E_b12
  obtain ⟨v16, _, ⟨T16, L16, c16, n16⟩, -, X16, ⟨Lc16, hQ16, l16, y16, z16⟩, st16⟩ := X14.virtualBack hx (y := (⟨"com/example/myriad_paths/myriadpaths/Conditions", "await", "(I)I"⟩ : MethodName)) (z := (⟨"com/example/myriad_paths/myriadpaths/Conditions", "await", "(I)I"⟩ : MethodName)) hown (mvT hZ (hw _ (List.mem_of_getElem? (i := 65) rfl))) (mvT hZ (hw _ (List.mem_of_getElem? (i := 66) rfl))) (notFace_of_selects (args := #[]) (mvT hZ (hw _ (List.mem_of_getElem? (i := 68) rfl)))) (mvT hZ (hw _ (List.mem_of_getElem? (i := 68) rfl))) (mvT hZ (hw _ (List.mem_of_getElem? (i := 67) rfl))) (by decide) (backOf (W := 0) (rm9 l Z a0 hw [] b12 (1 : Int32) fa13 oa13 ha13 (2 : Int32) (own_up (fun _ => 0) ((1 : Int32)).toNatClampNeg (0 : Int32)) (own_up (fun _ => 0) ((1 : Int32)).toNatClampNeg (-1 : Int32)) (own_up (own_up (fun _ => 0) ((0 : Int32)).toNatClampNeg (nar .boolean (1 : Int32))) ((1 : Int32)).toNatClampNeg (nar .boolean (0 : Int32))) T14.heap n0 Zs F_first_b12 F_other_b12 F_holds_b12 F_count_b12 V_fa13 V_oa13 V_ha13 E_b12 g_b12 g_fa13 g_oa13 g_ha13 ne_b12_fa13 ne_b12_oa13 ne_b12_ha13 ne_fa13_oa13 ne_fa13_ha13 ne_oa13_ha13 (by decide)) hZ (hw _ (List.mem_of_getElem? (i := 69) rfl)) (hw _ (List.mem_of_getElem? (i := 43) rfl)) (by decide) (by decide)) q16a q16c (g := (mkF m 88 #[.val (.int i0), .val (.int p1), .val (.int p2), .val (.int p3), .val (.int p4), .val (.ref b11), .val (.ref b12), .val (.int (1 : Int32)), .unset, .unset, .unset, .unset, .unset, .unset, .unset, .unset, .unset] [(.int (1 : Int32)), (.ref b12)])) rfl (by rw [hml]; rfl) (Steps.refl _) (argsL := [(.int (1 : Int32))]) (rest := []) (lenOf pd_6 rfl) rfl (by show 2 * 0 + _ ≤ _; exact Nat.le_of_eq rfl) (hb hby at_88) (fun _ _ => ⟨rfl, rfl, (by decide : 7 + 0 ≤ _), (by decide : 203 + 0 ≤ _)⟩)
  dsimp only [Pt.U, Pt.locs, Pt.cells, Pt.slots] at X16 l16 y16 z16 st16 hQ16
  subst l16 y16 z16
  obtain ⟨rfl, Nq16, Kq16, o0_16, o1_16, o2_16, o3_16, o4_16, o5_16, o6_16, o7_16⟩ := hQ16
  have NF := Fr.app NF Nq16
  replace E_b9 : Exa Z T16.heap b9 "com/example/myriad_paths/myriadpaths/DocumentMemory" := E_b9.keep Kq16
  replace E_b11 : Exa Z T16.heap b11 "com/example/myriad_paths/myriadpaths/DocumentMemory$Share" := E_b11.keep Kq16
  replace E_b12 : Exa Z T16.heap b12 "com/example/myriad_paths/myriadpaths/Conditions" := E_b12.keep Kq16
  clear F_first_b12
  clear F_other_b12
  clear F_holds_b12
  clear F_count_b12
  clear V_fa13
  clear V_oa13
  clear V_ha13
  replace Zs : n0 ≤ T16.heap.size := Nat.le_trans Zs Kq16.1
  have F_first_b12 : Fld Z T16.heap b12 "com/example/myriad_paths/myriadpaths/Conditions" "first" "[I" (.ref fa13) := o0_16
  have F_other_b12 : Fld Z T16.heap b12 "com/example/myriad_paths/myriadpaths/Conditions" "other" "[I" (.ref oa13) := o1_16
  have F_holds_b12 : Fld Z T16.heap b12 "com/example/myriad_paths/myriadpaths/Conditions" "holds" "[Z" (.ref ha13) := o2_16
  have F_count_b12 : Fld Z T16.heap b12 "com/example/myriad_paths/myriadpaths/Conditions" "count" "I" (.int ((2 : Int32) + (1 : Int32))) := o3_16
  have V_fa13 : own_BA Z T16.heap fa13 .int 64 (own_up (own_up (fun _ => 0) ((1 : Int32)).toNatClampNeg (0 : Int32)) ((2 : Int32)).toNatClampNeg (1 : Int32)) := o4_16
  have V_oa13 : own_BA Z T16.heap oa13 .int 64 (own_up (own_up (fun _ => 0) ((1 : Int32)).toNatClampNeg (-1 : Int32)) ((2 : Int32)).toNatClampNeg (-1 : Int32)) := o5_16
  have V_ha13 : own_BA Z T16.heap ha13 .boolean 64 (own_up (own_up (own_up (fun _ => 0) ((0 : Int32)).toNatClampNeg (nar .boolean (1 : Int32))) ((1 : Int32)).toNatClampNeg (nar .boolean (0 : Int32))) ((2 : Int32)).toNatClampNeg (nar .boolean (0 : Int32))) := o6_16
  have E_b12 : Exa Z T16.heap b12 "com/example/myriad_paths/myriadpaths/Conditions" := o7_16
  refine own_by (B := T16.setTop (mkF m 91 #[.val (.int i0), .val (.int p1), .val (.int p2), .val (.int p3), .val (.int p4), .val (.ref b11), .val (.ref b12), .val (.int (1 : Int32)), .unset, .unset, .unset, .unset, .unset, .unset, .unset, .unset, .unset] [(.int (2 : Int32))])) (fun t k => st16.trans k) ?_
  refine own_by (B := T16.setTop (mkF m 93 #[.val (.int i0), .val (.int p1), .val (.int p2), .val (.int p3), .val (.int p4), .val (.ref b11), .val (.ref b12), .val (.int (1 : Int32)), .val (.int (2 : Int32)), .unset, .unset, .unset, .unset, .unset, .unset, .unset, .unset] [])) (fun t k => XS.istore X16.here hx rfl (hb hby at_91) rfl (l' := #[.val (.int i0), .val (.int p1), .val (.int p2), .val (.int p3), .val (.int p4), .val (.ref b11), .val (.ref b12), .val (.int (1 : Int32)), .val (.int (2 : Int32)), .unset, .unset, .unset, .unset, .unset, .unset, .unset, .unset]) rfl k) ?_
  have hr17 : ((2 : Int32) + (1 : Int32)) = (3 : Int32) := by decide
  rw [hr17] at F_count_b12
  refine own_by (B := T16.setTop (mkF m 95 #[.val (.int i0), .val (.int p1), .val (.int p2), .val (.int p3), .val (.int p4), .val (.ref b11), .val (.ref b12), .val (.int (1 : Int32)), .val (.int (2 : Int32)), .unset, .unset, .unset, .unset, .unset, .unset, .unset, .unset] [(.ref b12)])) (fun t k => XS.aload X16.here hx rfl (hb hby at_93) rfl rfl k) ?_
  refine own_by (B := T16.setTop (mkF m 96 #[.val (.int i0), .val (.int p1), .val (.int p2), .val (.int p3), .val (.int p4), .val (.ref b11), .val (.ref b12), .val (.int (1 : Int32)), .val (.int (2 : Int32)), .unset, .unset, .unset, .unset, .unset, .unset, .unset, .unset] [(.int (0 : Int32)), (.ref b12)])) (fun t k => XS.iconst X16.here hx rfl (hb hby at_95) k) ?_
  obtain ⟨cq18, kq18, q18a, q18b, q18c⟩ := isOf hZ rfl E_b12
  obtain ⟨v18, _, ⟨T18, L18, c18, n18⟩, -, X18, ⟨Lc18, hQ18, l18, y18, z18⟩, st18⟩ := X16.virtualBack hx (y := (⟨"com/example/myriad_paths/myriadpaths/Conditions", "await", "(I)I"⟩ : MethodName)) (z := (⟨"com/example/myriad_paths/myriadpaths/Conditions", "await", "(I)I"⟩ : MethodName)) hown (mvT hZ (hw _ (List.mem_of_getElem? (i := 65) rfl))) (mvT hZ (hw _ (List.mem_of_getElem? (i := 66) rfl))) (notFace_of_selects (args := #[]) (mvT hZ (hw _ (List.mem_of_getElem? (i := 68) rfl)))) (mvT hZ (hw _ (List.mem_of_getElem? (i := 68) rfl))) (mvT hZ (hw _ (List.mem_of_getElem? (i := 67) rfl))) (by decide) (backOf (W := 0) (rm9 l Z a0 hw [] b12 (0 : Int32) fa13 oa13 ha13 (3 : Int32) (own_up (own_up (fun _ => 0) ((1 : Int32)).toNatClampNeg (0 : Int32)) ((2 : Int32)).toNatClampNeg (1 : Int32)) (own_up (own_up (fun _ => 0) ((1 : Int32)).toNatClampNeg (-1 : Int32)) ((2 : Int32)).toNatClampNeg (-1 : Int32)) (own_up (own_up (own_up (fun _ => 0) ((0 : Int32)).toNatClampNeg (nar .boolean (1 : Int32))) ((1 : Int32)).toNatClampNeg (nar .boolean (0 : Int32))) ((2 : Int32)).toNatClampNeg (nar .boolean (0 : Int32))) T16.heap n0 Zs F_first_b12 F_other_b12 F_holds_b12 F_count_b12 V_fa13 V_oa13 V_ha13 E_b12 g_b12 g_fa13 g_oa13 g_ha13 ne_b12_fa13 ne_b12_oa13 ne_b12_ha13 ne_fa13_oa13 ne_fa13_ha13 ne_oa13_ha13 (by decide)) hZ (hw _ (List.mem_of_getElem? (i := 69) rfl)) (hw _ (List.mem_of_getElem? (i := 43) rfl)) (by decide) (by decide)) q18a q18c (g := (mkF m 96 #[.val (.int i0), .val (.int p1), .val (.int p2), .val (.int p3), .val (.int p4), .val (.ref b11), .val (.ref b12), .val (.int (1 : Int32)), .val (.int (2 : Int32)), .unset, .unset, .unset, .unset, .unset, .unset, .unset, .unset] [(.int (0 : Int32)), (.ref b12)])) rfl (by rw [hml]; rfl) (Steps.refl _) (argsL := [(.int (0 : Int32))]) (rest := []) (lenOf pd_6 rfl) rfl (by show 2 * 0 + _ ≤ _; exact Nat.le_of_eq rfl) (hb hby at_96) (fun _ _ => ⟨rfl, rfl, (by decide : 7 + 0 ≤ _), (by decide : 203 + 0 ≤ _)⟩)
  dsimp only [Pt.U, Pt.locs, Pt.cells, Pt.slots] at X18 l18 y18 z18 st18 hQ18
  subst l18 y18 z18
  obtain ⟨rfl, Nq18, Kq18, o0_18, o1_18, o2_18, o3_18, o4_18, o5_18, o6_18, o7_18⟩ := hQ18
  have NF := Fr.app NF Nq18
  replace E_b9 : Exa Z T18.heap b9 "com/example/myriad_paths/myriadpaths/DocumentMemory" := E_b9.keep Kq18
  replace E_b11 : Exa Z T18.heap b11 "com/example/myriad_paths/myriadpaths/DocumentMemory$Share" := E_b11.keep Kq18
  replace E_b12 : Exa Z T18.heap b12 "com/example/myriad_paths/myriadpaths/Conditions" := E_b12.keep Kq18
  clear F_first_b12
  clear F_other_b12
  clear F_holds_b12
  clear F_count_b12
  clear V_fa13
  clear V_oa13
  clear V_ha13
  replace Zs : n0 ≤ T18.heap.size := Nat.le_trans Zs Kq18.1
  have F_first_b12 : Fld Z T18.heap b12 "com/example/myriad_paths/myriadpaths/Conditions" "first" "[I" (.ref fa13) := o0_18
  have F_other_b12 : Fld Z T18.heap b12 "com/example/myriad_paths/myriadpaths/Conditions" "other" "[I" (.ref oa13) := o1_18
  have F_holds_b12 : Fld Z T18.heap b12 "com/example/myriad_paths/myriadpaths/Conditions" "holds" "[Z" (.ref ha13) := o2_18
  have F_count_b12 : Fld Z T18.heap b12 "com/example/myriad_paths/myriadpaths/Conditions" "count" "I" (.int ((3 : Int32) + (1 : Int32))) := o3_18
  have V_fa13 : own_BA Z T18.heap fa13 .int 64 (own_up (own_up (own_up (fun _ => 0) ((1 : Int32)).toNatClampNeg (0 : Int32)) ((2 : Int32)).toNatClampNeg (1 : Int32)) ((3 : Int32)).toNatClampNeg (0 : Int32)) := o4_18
  have V_oa13 : own_BA Z T18.heap oa13 .int 64 (own_up (own_up (own_up (fun _ => 0) ((1 : Int32)).toNatClampNeg (-1 : Int32)) ((2 : Int32)).toNatClampNeg (-1 : Int32)) ((3 : Int32)).toNatClampNeg (-1 : Int32)) := o5_18
  have V_ha13 : own_BA Z T18.heap ha13 .boolean 64 (own_up (own_up (own_up (own_up (fun _ => 0) ((0 : Int32)).toNatClampNeg (nar .boolean (1 : Int32))) ((1 : Int32)).toNatClampNeg (nar .boolean (0 : Int32))) ((2 : Int32)).toNatClampNeg (nar .boolean (0 : Int32))) ((3 : Int32)).toNatClampNeg (nar .boolean (0 : Int32))) := o6_18
  have E_b12 : Exa Z T18.heap b12 "com/example/myriad_paths/myriadpaths/Conditions" := o7_18
  refine own_by (B := T18.setTop (mkF m 99 #[.val (.int i0), .val (.int p1), .val (.int p2), .val (.int p3), .val (.int p4), .val (.ref b11), .val (.ref b12), .val (.int (1 : Int32)), .val (.int (2 : Int32)), .unset, .unset, .unset, .unset, .unset, .unset, .unset, .unset] [(.int (3 : Int32))])) (fun t k => st18.trans k) ?_
  refine own_by (B := T18.setTop (mkF m 101 #[.val (.int i0), .val (.int p1), .val (.int p2), .val (.int p3), .val (.int p4), .val (.ref b11), .val (.ref b12), .val (.int (1 : Int32)), .val (.int (2 : Int32)), .val (.int (3 : Int32)), .unset, .unset, .unset, .unset, .unset, .unset, .unset] [])) (fun t k => XS.istore X18.here hx rfl (hb hby at_99) rfl (l' := #[.val (.int i0), .val (.int p1), .val (.int p2), .val (.int p3), .val (.int p4), .val (.ref b11), .val (.ref b12), .val (.int (1 : Int32)), .val (.int (2 : Int32)), .val (.int (3 : Int32)), .unset, .unset, .unset, .unset, .unset, .unset, .unset]) rfl k) ?_
  have hr19 : ((3 : Int32) + (1 : Int32)) = (4 : Int32) := by decide
  rw [hr19] at F_count_b12
  refine own_by (B := T18.setTop (mkF m 103 #[.val (.int i0), .val (.int p1), .val (.int p2), .val (.int p3), .val (.int p4), .val (.ref b11), .val (.ref b12), .val (.int (1 : Int32)), .val (.int (2 : Int32)), .val (.int (3 : Int32)), .unset, .unset, .unset, .unset, .unset, .unset, .unset] [(.ref b12)])) (fun t k => XS.aload X18.here hx rfl (hb hby at_101) rfl rfl k) ?_
  refine own_by (B := T18.setTop (mkF m 105 #[.val (.int i0), .val (.int p1), .val (.int p2), .val (.int p3), .val (.int p4), .val (.ref b11), .val (.ref b12), .val (.int (1 : Int32)), .val (.int (2 : Int32)), .val (.int (3 : Int32)), .unset, .unset, .unset, .unset, .unset, .unset, .unset] [(.int (2 : Int32)), (.ref b12)])) (fun t k => XS.iload X18.here hx rfl (hb hby at_103) rfl k) ?_
  refine own_by (B := T18.setTop (mkF m 107 #[.val (.int i0), .val (.int p1), .val (.int p2), .val (.int p3), .val (.int p4), .val (.ref b11), .val (.ref b12), .val (.int (1 : Int32)), .val (.int (2 : Int32)), .val (.int (3 : Int32)), .unset, .unset, .unset, .unset, .unset, .unset, .unset] [(.int (3 : Int32)), (.int (2 : Int32)), (.ref b12)])) (fun t k => XS.iload X18.here hx rfl (hb hby at_105) rfl k) ?_
  obtain ⟨cq20, kq20, q20a, q20b, q20c⟩ := isOf hZ rfl E_b12
  obtain ⟨v20, _, ⟨T20, L20, c20, n20⟩, -, X20, ⟨Lc20, hQ20, l20, y20, z20⟩, st20⟩ := X18.virtualBack hx (y := (⟨"com/example/myriad_paths/myriadpaths/Conditions", "either", "(II)I"⟩ : MethodName)) (z := (⟨"com/example/myriad_paths/myriadpaths/Conditions", "either", "(II)I"⟩ : MethodName)) hown (mvT hZ (hw _ (List.mem_of_getElem? (i := 74) rfl))) (mvT hZ (hw _ (List.mem_of_getElem? (i := 75) rfl))) (notFace_of_selects (args := #[]) (mvT hZ (hw _ (List.mem_of_getElem? (i := 77) rfl)))) (mvT hZ (hw _ (List.mem_of_getElem? (i := 77) rfl))) (mvT hZ (hw _ (List.mem_of_getElem? (i := 76) rfl))) (by decide) (backOf (W := 0) (rm11 l Z a0 hw [] b12 (2 : Int32) (3 : Int32) fa13 oa13 ha13 (4 : Int32) (own_up (own_up (own_up (fun _ => 0) ((1 : Int32)).toNatClampNeg (0 : Int32)) ((2 : Int32)).toNatClampNeg (1 : Int32)) ((3 : Int32)).toNatClampNeg (0 : Int32)) (own_up (own_up (own_up (fun _ => 0) ((1 : Int32)).toNatClampNeg (-1 : Int32)) ((2 : Int32)).toNatClampNeg (-1 : Int32)) ((3 : Int32)).toNatClampNeg (-1 : Int32)) (own_up (own_up (own_up (own_up (fun _ => 0) ((0 : Int32)).toNatClampNeg (nar .boolean (1 : Int32))) ((1 : Int32)).toNatClampNeg (nar .boolean (0 : Int32))) ((2 : Int32)).toNatClampNeg (nar .boolean (0 : Int32))) ((3 : Int32)).toNatClampNeg (nar .boolean (0 : Int32))) T18.heap n0 Zs F_first_b12 F_other_b12 F_holds_b12 F_count_b12 V_fa13 V_oa13 V_ha13 E_b12 g_b12 g_fa13 g_oa13 g_ha13 ne_b12_fa13 ne_b12_oa13 ne_b12_ha13 ne_fa13_oa13 ne_fa13_ha13 ne_oa13_ha13 (by decide) (by decide) (by decide) (by decide)) hZ (hw _ (List.mem_of_getElem? (i := 78) rfl)) (hw _ (List.mem_of_getElem? (i := 43) rfl)) (by decide) (by decide)) q20a q20c (g := (mkF m 107 #[.val (.int i0), .val (.int p1), .val (.int p2), .val (.int p3), .val (.int p4), .val (.ref b11), .val (.ref b12), .val (.int (1 : Int32)), .val (.int (2 : Int32)), .val (.int (3 : Int32)), .unset, .unset, .unset, .unset, .unset, .unset, .unset] [(.int (3 : Int32)), (.int (2 : Int32)), (.ref b12)])) rfl (by rw [hml]; rfl) (Steps.refl _) (argsL := [(.int (2 : Int32)), (.int (3 : Int32))]) (rest := []) (lenOf pd_2 rfl) rfl (by show 2 * 0 + _ ≤ _; exact Nat.le_of_eq rfl) (hb hby at_107) (fun _ _ => ⟨rfl, rfl, (by decide : 7 + 0 ≤ _), (by decide : 203 + 0 ≤ _)⟩)
  dsimp only [Pt.U, Pt.locs, Pt.cells, Pt.slots] at X20 l20 y20 z20 st20 hQ20
  subst l20 y20 z20
  obtain ⟨rfl, Nq20, Kq20, o0_20, o1_20, o2_20, o3_20, o4_20, o5_20, o6_20, o7_20⟩ := hQ20
  have NF := Fr.app NF Nq20
  replace E_b9 : Exa Z T20.heap b9 "com/example/myriad_paths/myriadpaths/DocumentMemory" := E_b9.keep Kq20
  replace E_b11 : Exa Z T20.heap b11 "com/example/myriad_paths/myriadpaths/DocumentMemory$Share" := E_b11.keep Kq20
  replace E_b12 : Exa Z T20.heap b12 "com/example/myriad_paths/myriadpaths/Conditions" := E_b12.keep Kq20
  clear F_first_b12
  clear F_other_b12
  clear F_holds_b12
  clear F_count_b12
  clear V_fa13
  clear V_oa13
  clear V_ha13
  replace Zs : n0 ≤ T20.heap.size := Nat.le_trans Zs Kq20.1
  have F_first_b12 : Fld Z T20.heap b12 "com/example/myriad_paths/myriadpaths/Conditions" "first" "[I" (.ref fa13) := o0_20
  have F_other_b12 : Fld Z T20.heap b12 "com/example/myriad_paths/myriadpaths/Conditions" "other" "[I" (.ref oa13) := o1_20
  have F_holds_b12 : Fld Z T20.heap b12 "com/example/myriad_paths/myriadpaths/Conditions" "holds" "[Z" (.ref ha13) := o2_20
  have F_count_b12 : Fld Z T20.heap b12 "com/example/myriad_paths/myriadpaths/Conditions" "count" "I" (.int ((4 : Int32) + (1 : Int32))) := o3_20
  have V_fa13 : own_BA Z T20.heap fa13 .int 64 (own_up (own_up (own_up (own_up (fun _ => 0) ((1 : Int32)).toNatClampNeg (0 : Int32)) ((2 : Int32)).toNatClampNeg (1 : Int32)) ((3 : Int32)).toNatClampNeg (0 : Int32)) ((4 : Int32)).toNatClampNeg (2 : Int32)) := o4_20
  have V_oa13 : own_BA Z T20.heap oa13 .int 64 (own_up (own_up (own_up (own_up (fun _ => 0) ((1 : Int32)).toNatClampNeg (-1 : Int32)) ((2 : Int32)).toNatClampNeg (-1 : Int32)) ((3 : Int32)).toNatClampNeg (-1 : Int32)) ((4 : Int32)).toNatClampNeg (3 : Int32)) := o5_20
  have V_ha13 : own_BA Z T20.heap ha13 .boolean 64 (own_up (own_up (own_up (own_up (own_up (fun _ => 0) ((0 : Int32)).toNatClampNeg (nar .boolean (1 : Int32))) ((1 : Int32)).toNatClampNeg (nar .boolean (0 : Int32))) ((2 : Int32)).toNatClampNeg (nar .boolean (0 : Int32))) ((3 : Int32)).toNatClampNeg (nar .boolean (0 : Int32))) ((4 : Int32)).toNatClampNeg (nar .boolean (0 : Int32))) := o6_20
  have E_b12 : Exa Z T20.heap b12 "com/example/myriad_paths/myriadpaths/Conditions" := o7_20
  refine own_by (B := T20.setTop (mkF m 110 #[.val (.int i0), .val (.int p1), .val (.int p2), .val (.int p3), .val (.int p4), .val (.ref b11), .val (.ref b12), .val (.int (1 : Int32)), .val (.int (2 : Int32)), .val (.int (3 : Int32)), .unset, .unset, .unset, .unset, .unset, .unset, .unset] [(.int (4 : Int32))])) (fun t k => st20.trans k) ?_
  refine own_by (B := T20.setTop (mkF m 112 #[.val (.int i0), .val (.int p1), .val (.int p2), .val (.int p3), .val (.int p4), .val (.ref b11), .val (.ref b12), .val (.int (1 : Int32)), .val (.int (2 : Int32)), .val (.int (3 : Int32)), .val (.int (4 : Int32)), .unset, .unset, .unset, .unset, .unset, .unset] [])) (fun t k => XS.istore X20.here hx rfl (hb hby at_110) rfl (l' := #[.val (.int i0), .val (.int p1), .val (.int p2), .val (.int p3), .val (.int p4), .val (.ref b11), .val (.ref b12), .val (.int (1 : Int32)), .val (.int (2 : Int32)), .val (.int (3 : Int32)), .val (.int (4 : Int32)), .unset, .unset, .unset, .unset, .unset, .unset]) rfl k) ?_
  have hr21 : ((4 : Int32) + (1 : Int32)) = (5 : Int32) := by decide
  rw [hr21] at F_count_b12
  refine own_by (B := T20.setTop (mkF m 114 #[.val (.int i0), .val (.int p1), .val (.int p2), .val (.int p3), .val (.int p4), .val (.ref b11), .val (.ref b12), .val (.int (1 : Int32)), .val (.int (2 : Int32)), .val (.int (3 : Int32)), .val (.int (4 : Int32)), .unset, .unset, .unset, .unset, .unset, .unset] [(.ref b12)])) (fun t k => XS.aload X20.here hx rfl (hb hby at_112) rfl rfl k) ?_
  refine own_by (B := T20.setTop (mkF m 116 #[.val (.int i0), .val (.int p1), .val (.int p2), .val (.int p3), .val (.int p4), .val (.ref b11), .val (.ref b12), .val (.int (1 : Int32)), .val (.int (2 : Int32)), .val (.int (3 : Int32)), .val (.int (4 : Int32)), .unset, .unset, .unset, .unset, .unset, .unset] [(.int (4 : Int32)), (.ref b12)])) (fun t k => XS.iload X20.here hx rfl (hb hby at_114) rfl k) ?_
  obtain ⟨cq22, kq22, q22a, q22b, q22c⟩ := isOf hZ rfl E_b12
  obtain ⟨v22, _, ⟨T22, L22, c22, n22⟩, -, X22, ⟨Lc22, hQ22, l22, y22, z22⟩, st22⟩ := X20.virtualBack hx (y := (⟨"com/example/myriad_paths/myriadpaths/Conditions", "await", "(I)I"⟩ : MethodName)) (z := (⟨"com/example/myriad_paths/myriadpaths/Conditions", "await", "(I)I"⟩ : MethodName)) hown (mvT hZ (hw _ (List.mem_of_getElem? (i := 65) rfl))) (mvT hZ (hw _ (List.mem_of_getElem? (i := 66) rfl))) (notFace_of_selects (args := #[]) (mvT hZ (hw _ (List.mem_of_getElem? (i := 68) rfl)))) (mvT hZ (hw _ (List.mem_of_getElem? (i := 68) rfl))) (mvT hZ (hw _ (List.mem_of_getElem? (i := 67) rfl))) (by decide) (backOf (W := 0) (rm9 l Z a0 hw [] b12 (4 : Int32) fa13 oa13 ha13 (5 : Int32) (own_up (own_up (own_up (own_up (fun _ => 0) ((1 : Int32)).toNatClampNeg (0 : Int32)) ((2 : Int32)).toNatClampNeg (1 : Int32)) ((3 : Int32)).toNatClampNeg (0 : Int32)) ((4 : Int32)).toNatClampNeg (2 : Int32)) (own_up (own_up (own_up (own_up (fun _ => 0) ((1 : Int32)).toNatClampNeg (-1 : Int32)) ((2 : Int32)).toNatClampNeg (-1 : Int32)) ((3 : Int32)).toNatClampNeg (-1 : Int32)) ((4 : Int32)).toNatClampNeg (3 : Int32)) (own_up (own_up (own_up (own_up (own_up (fun _ => 0) ((0 : Int32)).toNatClampNeg (nar .boolean (1 : Int32))) ((1 : Int32)).toNatClampNeg (nar .boolean (0 : Int32))) ((2 : Int32)).toNatClampNeg (nar .boolean (0 : Int32))) ((3 : Int32)).toNatClampNeg (nar .boolean (0 : Int32))) ((4 : Int32)).toNatClampNeg (nar .boolean (0 : Int32))) T20.heap n0 Zs F_first_b12 F_other_b12 F_holds_b12 F_count_b12 V_fa13 V_oa13 V_ha13 E_b12 g_b12 g_fa13 g_oa13 g_ha13 ne_b12_fa13 ne_b12_oa13 ne_b12_ha13 ne_fa13_oa13 ne_fa13_ha13 ne_oa13_ha13 (by decide)) hZ (hw _ (List.mem_of_getElem? (i := 69) rfl)) (hw _ (List.mem_of_getElem? (i := 43) rfl)) (by decide) (by decide)) q22a q22c (g := (mkF m 116 #[.val (.int i0), .val (.int p1), .val (.int p2), .val (.int p3), .val (.int p4), .val (.ref b11), .val (.ref b12), .val (.int (1 : Int32)), .val (.int (2 : Int32)), .val (.int (3 : Int32)), .val (.int (4 : Int32)), .unset, .unset, .unset, .unset, .unset, .unset] [(.int (4 : Int32)), (.ref b12)])) rfl (by rw [hml]; rfl) (Steps.refl _) (argsL := [(.int (4 : Int32))]) (rest := []) (lenOf pd_6 rfl) rfl (by show 2 * 0 + _ ≤ _; exact Nat.le_of_eq rfl) (hb hby at_116) (fun _ _ => ⟨rfl, rfl, (by decide : 7 + 0 ≤ _), (by decide : 203 + 0 ≤ _)⟩)
  dsimp only [Pt.U, Pt.locs, Pt.cells, Pt.slots] at X22 l22 y22 z22 st22 hQ22
  subst l22 y22 z22
  obtain ⟨rfl, Nq22, Kq22, o0_22, o1_22, o2_22, o3_22, o4_22, o5_22, o6_22, o7_22⟩ := hQ22
  have NF := Fr.app NF Nq22
  replace E_b9 : Exa Z T22.heap b9 "com/example/myriad_paths/myriadpaths/DocumentMemory" := E_b9.keep Kq22
  replace E_b11 : Exa Z T22.heap b11 "com/example/myriad_paths/myriadpaths/DocumentMemory$Share" := E_b11.keep Kq22
  replace E_b12 : Exa Z T22.heap b12 "com/example/myriad_paths/myriadpaths/Conditions" := E_b12.keep Kq22
  clear F_first_b12
  clear F_other_b12
  clear F_holds_b12
  clear F_count_b12
  clear V_fa13
  clear V_oa13
  clear V_ha13
  replace Zs : n0 ≤ T22.heap.size := Nat.le_trans Zs Kq22.1
  have F_first_b12 : Fld Z T22.heap b12 "com/example/myriad_paths/myriadpaths/Conditions" "first" "[I" (.ref fa13) := o0_22
  have F_other_b12 : Fld Z T22.heap b12 "com/example/myriad_paths/myriadpaths/Conditions" "other" "[I" (.ref oa13) := o1_22
  have F_holds_b12 : Fld Z T22.heap b12 "com/example/myriad_paths/myriadpaths/Conditions" "holds" "[Z" (.ref ha13) := o2_22
  have F_count_b12 : Fld Z T22.heap b12 "com/example/myriad_paths/myriadpaths/Conditions" "count" "I" (.int ((5 : Int32) + (1 : Int32))) := o3_22
  have V_fa13 : own_BA Z T22.heap fa13 .int 64 (own_up (own_up (own_up (own_up (own_up (fun _ => 0) ((1 : Int32)).toNatClampNeg (0 : Int32)) ((2 : Int32)).toNatClampNeg (1 : Int32)) ((3 : Int32)).toNatClampNeg (0 : Int32)) ((4 : Int32)).toNatClampNeg (2 : Int32)) ((5 : Int32)).toNatClampNeg (4 : Int32)) := o4_22
  have V_oa13 : own_BA Z T22.heap oa13 .int 64 (own_up (own_up (own_up (own_up (own_up (fun _ => 0) ((1 : Int32)).toNatClampNeg (-1 : Int32)) ((2 : Int32)).toNatClampNeg (-1 : Int32)) ((3 : Int32)).toNatClampNeg (-1 : Int32)) ((4 : Int32)).toNatClampNeg (3 : Int32)) ((5 : Int32)).toNatClampNeg (-1 : Int32)) := o5_22
  have V_ha13 : own_BA Z T22.heap ha13 .boolean 64 (own_up (own_up (own_up (own_up (own_up (own_up (fun _ => 0) ((0 : Int32)).toNatClampNeg (nar .boolean (1 : Int32))) ((1 : Int32)).toNatClampNeg (nar .boolean (0 : Int32))) ((2 : Int32)).toNatClampNeg (nar .boolean (0 : Int32))) ((3 : Int32)).toNatClampNeg (nar .boolean (0 : Int32))) ((4 : Int32)).toNatClampNeg (nar .boolean (0 : Int32))) ((5 : Int32)).toNatClampNeg (nar .boolean (0 : Int32))) := o6_22
  have E_b12 : Exa Z T22.heap b12 "com/example/myriad_paths/myriadpaths/Conditions" := o7_22
  refine own_by (B := T22.setTop (mkF m 119 #[.val (.int i0), .val (.int p1), .val (.int p2), .val (.int p3), .val (.int p4), .val (.ref b11), .val (.ref b12), .val (.int (1 : Int32)), .val (.int (2 : Int32)), .val (.int (3 : Int32)), .val (.int (4 : Int32)), .unset, .unset, .unset, .unset, .unset, .unset] [(.int (5 : Int32))])) (fun t k => st22.trans k) ?_
  refine own_by (B := T22.setTop (mkF m 121 #[.val (.int i0), .val (.int p1), .val (.int p2), .val (.int p3), .val (.int p4), .val (.ref b11), .val (.ref b12), .val (.int (1 : Int32)), .val (.int (2 : Int32)), .val (.int (3 : Int32)), .val (.int (4 : Int32)), .val (.int (5 : Int32)), .unset, .unset, .unset, .unset, .unset] [])) (fun t k => XS.istore X22.here hx rfl (hb hby at_119) rfl (l' := #[.val (.int i0), .val (.int p1), .val (.int p2), .val (.int p3), .val (.int p4), .val (.ref b11), .val (.ref b12), .val (.int (1 : Int32)), .val (.int (2 : Int32)), .val (.int (3 : Int32)), .val (.int (4 : Int32)), .val (.int (5 : Int32)), .unset, .unset, .unset, .unset, .unset]) rfl k) ?_
  have hr23 : ((5 : Int32) + (1 : Int32)) = (6 : Int32) := by decide
  rw [hr23] at F_count_b12
  refine own_by (B := T22.setTop (mkF m 123 #[.val (.int i0), .val (.int p1), .val (.int p2), .val (.int p3), .val (.int p4), .val (.ref b11), .val (.ref b12), .val (.int (1 : Int32)), .val (.int (2 : Int32)), .val (.int (3 : Int32)), .val (.int (4 : Int32)), .val (.int (5 : Int32)), .unset, .unset, .unset, .unset, .unset] [(.ref b12)])) (fun t k => XS.aload X22.here hx rfl (hb hby at_121) rfl rfl k) ?_
  refine own_by (B := T22.setTop (mkF m 125 #[.val (.int i0), .val (.int p1), .val (.int p2), .val (.int p3), .val (.int p4), .val (.ref b11), .val (.ref b12), .val (.int (1 : Int32)), .val (.int (2 : Int32)), .val (.int (3 : Int32)), .val (.int (4 : Int32)), .val (.int (5 : Int32)), .unset, .unset, .unset, .unset, .unset] [(.int (1 : Int32)), (.ref b12)])) (fun t k => XS.iload X22.here hx rfl (hb hby at_123) rfl k) ?_
  refine own_by (B := T22.setTop (mkF m 126 #[.val (.int i0), .val (.int p1), .val (.int p2), .val (.int p3), .val (.int p4), .val (.ref b11), .val (.ref b12), .val (.int (1 : Int32)), .val (.int (2 : Int32)), .val (.int (3 : Int32)), .val (.int (4 : Int32)), .val (.int (5 : Int32)), .unset, .unset, .unset, .unset, .unset] [(.int p1), (.int (1 : Int32)), (.ref b12)])) (fun t k => XS.iloadN X22.here hx rfl (hb hby at_125) rfl k) ?_
  obtain ⟨cq24, kq24, q24a, q24b, q24c⟩ := isOf hZ rfl E_b12
  obtain ⟨v24, _, ⟨T24, L24, c24, n24⟩, -, X24, ⟨Lc24, hQ24, l24, y24, z24⟩, st24⟩ := X22.virtualBack hx (y := (⟨"com/example/myriad_paths/myriadpaths/Conditions", "decide", "(IZ)V"⟩ : MethodName)) (z := (⟨"com/example/myriad_paths/myriadpaths/Conditions", "decide", "(IZ)V"⟩ : MethodName)) hown (mvT hZ (hw _ (List.mem_of_getElem? (i := 79) rfl))) (mvT hZ (hw _ (List.mem_of_getElem? (i := 80) rfl))) (notFace_of_selects (args := #[]) (mvT hZ (hw _ (List.mem_of_getElem? (i := 82) rfl)))) (mvT hZ (hw _ (List.mem_of_getElem? (i := 82) rfl))) (mvT hZ (hw _ (List.mem_of_getElem? (i := 81) rfl))) (by decide) (backOf (W := 0) (rm12 l Z a0 hw [] b12 (1 : Int32) p1 ha13 (own_up (own_up (own_up (own_up (own_up (own_up (fun _ => 0) ((0 : Int32)).toNatClampNeg (nar .boolean (1 : Int32))) ((1 : Int32)).toNatClampNeg (nar .boolean (0 : Int32))) ((2 : Int32)).toNatClampNeg (nar .boolean (0 : Int32))) ((3 : Int32)).toNatClampNeg (nar .boolean (0 : Int32))) ((4 : Int32)).toNatClampNeg (nar .boolean (0 : Int32))) ((5 : Int32)).toNatClampNeg (nar .boolean (0 : Int32))) T22.heap n0 Zs F_holds_b12 V_ha13 g_ha13 ne_b12_ha13 (by decide)) hZ (hw _ (List.mem_of_getElem? (i := 83) rfl)) (hw _ (List.mem_of_getElem? (i := 43) rfl)) (by decide) (by decide)) q24a q24c (g := (mkF m 126 #[.val (.int i0), .val (.int p1), .val (.int p2), .val (.int p3), .val (.int p4), .val (.ref b11), .val (.ref b12), .val (.int (1 : Int32)), .val (.int (2 : Int32)), .val (.int (3 : Int32)), .val (.int (4 : Int32)), .val (.int (5 : Int32)), .unset, .unset, .unset, .unset, .unset] [(.int p1), (.int (1 : Int32)), (.ref b12)])) rfl (by rw [hml]; rfl) (Steps.refl _) (argsL := [(.int (1 : Int32)), (.int p1)]) (rest := []) (lenOf pd_7 rfl) rfl (by show 2 * 0 + _ ≤ _; exact Nat.le_of_eq rfl) (hb hby at_126) (fun _ _ => ⟨rfl, rfl, (by decide : 7 + 0 ≤ _), (by decide : 203 + 0 ≤ _)⟩)
  dsimp only [Pt.U, Pt.locs, Pt.cells, Pt.slots] at X24 l24 y24 z24 st24 hQ24
  subst l24 y24 z24
  obtain ⟨rfl, Nq24, Kq24, o0_24⟩ := hQ24
  have NF := Fr.app NF Nq24
  replace E_b9 : Exa Z T24.heap b9 "com/example/myriad_paths/myriadpaths/DocumentMemory" := E_b9.keep Kq24
  replace E_b11 : Exa Z T24.heap b11 "com/example/myriad_paths/myriadpaths/DocumentMemory$Share" := E_b11.keep Kq24
  replace E_b12 : Exa Z T24.heap b12 "com/example/myriad_paths/myriadpaths/Conditions" := E_b12.keep Kq24
  replace F_first_b12 : Fld Z T24.heap b12 "com/example/myriad_paths/myriadpaths/Conditions" "first" "[I" (.ref fa13) := F_first_b12.keep Kq24 (ninS ne_b12_ha13 nin0)
  replace F_other_b12 : Fld Z T24.heap b12 "com/example/myriad_paths/myriadpaths/Conditions" "other" "[I" (.ref oa13) := F_other_b12.keep Kq24 (ninS ne_b12_ha13 nin0)
  replace F_holds_b12 : Fld Z T24.heap b12 "com/example/myriad_paths/myriadpaths/Conditions" "holds" "[Z" (.ref ha13) := F_holds_b12.keep Kq24 (ninS ne_b12_ha13 nin0)
  replace F_count_b12 : Fld Z T24.heap b12 "com/example/myriad_paths/myriadpaths/Conditions" "count" "I" (.int (6 : Int32)) := F_count_b12.keep Kq24 (ninS ne_b12_ha13 nin0)
  replace V_fa13 : own_BA Z T24.heap fa13 .int 64 (own_up (own_up (own_up (own_up (own_up (fun _ => 0) ((1 : Int32)).toNatClampNeg (0 : Int32)) ((2 : Int32)).toNatClampNeg (1 : Int32)) ((3 : Int32)).toNatClampNeg (0 : Int32)) ((4 : Int32)).toNatClampNeg (2 : Int32)) ((5 : Int32)).toNatClampNeg (4 : Int32)) := V_fa13.keep Kq24 (ninS ne_fa13_ha13 nin0)
  replace V_oa13 : own_BA Z T24.heap oa13 .int 64 (own_up (own_up (own_up (own_up (own_up (fun _ => 0) ((1 : Int32)).toNatClampNeg (-1 : Int32)) ((2 : Int32)).toNatClampNeg (-1 : Int32)) ((3 : Int32)).toNatClampNeg (-1 : Int32)) ((4 : Int32)).toNatClampNeg (3 : Int32)) ((5 : Int32)).toNatClampNeg (-1 : Int32)) := V_oa13.keep Kq24 (ninS ne_oa13_ha13 nin0)
  clear V_ha13
  replace Zs : n0 ≤ T24.heap.size := Nat.le_trans Zs Kq24.1
  have V_ha13 : own_BA Z T24.heap ha13 .boolean 64 (own_up (own_up (own_up (own_up (own_up (own_up (own_up (fun _ => 0) ((0 : Int32)).toNatClampNeg (nar .boolean (1 : Int32))) ((1 : Int32)).toNatClampNeg (nar .boolean (0 : Int32))) ((2 : Int32)).toNatClampNeg (nar .boolean (0 : Int32))) ((3 : Int32)).toNatClampNeg (nar .boolean (0 : Int32))) ((4 : Int32)).toNatClampNeg (nar .boolean (0 : Int32))) ((5 : Int32)).toNatClampNeg (nar .boolean (0 : Int32))) ((1 : Int32)).toNatClampNeg (nar .boolean p1)) := o0_24
  refine own_by (B := T24.setTop (mkF m 129 #[.val (.int i0), .val (.int p1), .val (.int p2), .val (.int p3), .val (.int p4), .val (.ref b11), .val (.ref b12), .val (.int (1 : Int32)), .val (.int (2 : Int32)), .val (.int (3 : Int32)), .val (.int (4 : Int32)), .val (.int (5 : Int32)), .unset, .unset, .unset, .unset, .unset] [])) (fun t k => st24.trans k) ?_
  refine own_by (B := T24.setTop (mkF m 131 #[.val (.int i0), .val (.int p1), .val (.int p2), .val (.int p3), .val (.int p4), .val (.ref b11), .val (.ref b12), .val (.int (1 : Int32)), .val (.int (2 : Int32)), .val (.int (3 : Int32)), .val (.int (4 : Int32)), .val (.int (5 : Int32)), .unset, .unset, .unset, .unset, .unset] [(.ref b12)])) (fun t k => XS.aload X24.here hx rfl (hb hby at_129) rfl rfl k) ?_
  refine own_by (B := T24.setTop (mkF m 133 #[.val (.int i0), .val (.int p1), .val (.int p2), .val (.int p3), .val (.int p4), .val (.ref b11), .val (.ref b12), .val (.int (1 : Int32)), .val (.int (2 : Int32)), .val (.int (3 : Int32)), .val (.int (4 : Int32)), .val (.int (5 : Int32)), .unset, .unset, .unset, .unset, .unset] [(.int (2 : Int32)), (.ref b12)])) (fun t k => XS.iload X24.here hx rfl (hb hby at_131) rfl k) ?_
  refine own_by (B := T24.setTop (mkF m 134 #[.val (.int i0), .val (.int p1), .val (.int p2), .val (.int p3), .val (.int p4), .val (.ref b11), .val (.ref b12), .val (.int (1 : Int32)), .val (.int (2 : Int32)), .val (.int (3 : Int32)), .val (.int (4 : Int32)), .val (.int (5 : Int32)), .unset, .unset, .unset, .unset, .unset] [(.int p2), (.int (2 : Int32)), (.ref b12)])) (fun t k => XS.iloadN X24.here hx rfl (hb hby at_133) rfl k) ?_
  obtain ⟨cq25, kq25, q25a, q25b, q25c⟩ := isOf hZ rfl E_b12
  obtain ⟨v25, _, ⟨T25, L25, c25, n25⟩, -, X25, ⟨Lc25, hQ25, l25, y25, z25⟩, st25⟩ := X24.virtualBack hx (y := (⟨"com/example/myriad_paths/myriadpaths/Conditions", "decide", "(IZ)V"⟩ : MethodName)) (z := (⟨"com/example/myriad_paths/myriadpaths/Conditions", "decide", "(IZ)V"⟩ : MethodName)) hown (mvT hZ (hw _ (List.mem_of_getElem? (i := 79) rfl))) (mvT hZ (hw _ (List.mem_of_getElem? (i := 80) rfl))) (notFace_of_selects (args := #[]) (mvT hZ (hw _ (List.mem_of_getElem? (i := 82) rfl)))) (mvT hZ (hw _ (List.mem_of_getElem? (i := 82) rfl))) (mvT hZ (hw _ (List.mem_of_getElem? (i := 81) rfl))) (by decide) (backOf (W := 0) (rm12 l Z a0 hw [] b12 (2 : Int32) p2 ha13 (own_up (own_up (own_up (own_up (own_up (own_up (own_up (fun _ => 0) ((0 : Int32)).toNatClampNeg (nar .boolean (1 : Int32))) ((1 : Int32)).toNatClampNeg (nar .boolean (0 : Int32))) ((2 : Int32)).toNatClampNeg (nar .boolean (0 : Int32))) ((3 : Int32)).toNatClampNeg (nar .boolean (0 : Int32))) ((4 : Int32)).toNatClampNeg (nar .boolean (0 : Int32))) ((5 : Int32)).toNatClampNeg (nar .boolean (0 : Int32))) ((1 : Int32)).toNatClampNeg (nar .boolean p1)) T24.heap n0 Zs F_holds_b12 V_ha13 g_ha13 ne_b12_ha13 (by decide)) hZ (hw _ (List.mem_of_getElem? (i := 83) rfl)) (hw _ (List.mem_of_getElem? (i := 43) rfl)) (by decide) (by decide)) q25a q25c (g := (mkF m 134 #[.val (.int i0), .val (.int p1), .val (.int p2), .val (.int p3), .val (.int p4), .val (.ref b11), .val (.ref b12), .val (.int (1 : Int32)), .val (.int (2 : Int32)), .val (.int (3 : Int32)), .val (.int (4 : Int32)), .val (.int (5 : Int32)), .unset, .unset, .unset, .unset, .unset] [(.int p2), (.int (2 : Int32)), (.ref b12)])) rfl (by rw [hml]; rfl) (Steps.refl _) (argsL := [(.int (2 : Int32)), (.int p2)]) (rest := []) (lenOf pd_7 rfl) rfl (by show 2 * 0 + _ ≤ _; exact Nat.le_of_eq rfl) (hb hby at_134) (fun _ _ => ⟨rfl, rfl, (by decide : 7 + 0 ≤ _), (by decide : 203 + 0 ≤ _)⟩)
  dsimp only [Pt.U, Pt.locs, Pt.cells, Pt.slots] at X25 l25 y25 z25 st25 hQ25
  subst l25 y25 z25
  obtain ⟨rfl, Nq25, Kq25, o0_25⟩ := hQ25
  have NF := Fr.app NF Nq25
  replace E_b9 : Exa Z T25.heap b9 "com/example/myriad_paths/myriadpaths/DocumentMemory" := E_b9.keep Kq25
  replace E_b11 : Exa Z T25.heap b11 "com/example/myriad_paths/myriadpaths/DocumentMemory$Share" := E_b11.keep Kq25
  replace E_b12 : Exa Z T25.heap b12 "com/example/myriad_paths/myriadpaths/Conditions" := E_b12.keep Kq25
  replace F_first_b12 : Fld Z T25.heap b12 "com/example/myriad_paths/myriadpaths/Conditions" "first" "[I" (.ref fa13) := F_first_b12.keep Kq25 (ninS ne_b12_ha13 nin0)
  replace F_other_b12 : Fld Z T25.heap b12 "com/example/myriad_paths/myriadpaths/Conditions" "other" "[I" (.ref oa13) := F_other_b12.keep Kq25 (ninS ne_b12_ha13 nin0)
  replace F_holds_b12 : Fld Z T25.heap b12 "com/example/myriad_paths/myriadpaths/Conditions" "holds" "[Z" (.ref ha13) := F_holds_b12.keep Kq25 (ninS ne_b12_ha13 nin0)
  replace F_count_b12 : Fld Z T25.heap b12 "com/example/myriad_paths/myriadpaths/Conditions" "count" "I" (.int (6 : Int32)) := F_count_b12.keep Kq25 (ninS ne_b12_ha13 nin0)
  replace V_fa13 : own_BA Z T25.heap fa13 .int 64 (own_up (own_up (own_up (own_up (own_up (fun _ => 0) ((1 : Int32)).toNatClampNeg (0 : Int32)) ((2 : Int32)).toNatClampNeg (1 : Int32)) ((3 : Int32)).toNatClampNeg (0 : Int32)) ((4 : Int32)).toNatClampNeg (2 : Int32)) ((5 : Int32)).toNatClampNeg (4 : Int32)) := V_fa13.keep Kq25 (ninS ne_fa13_ha13 nin0)
  replace V_oa13 : own_BA Z T25.heap oa13 .int 64 (own_up (own_up (own_up (own_up (own_up (fun _ => 0) ((1 : Int32)).toNatClampNeg (-1 : Int32)) ((2 : Int32)).toNatClampNeg (-1 : Int32)) ((3 : Int32)).toNatClampNeg (-1 : Int32)) ((4 : Int32)).toNatClampNeg (3 : Int32)) ((5 : Int32)).toNatClampNeg (-1 : Int32)) := V_oa13.keep Kq25 (ninS ne_oa13_ha13 nin0)
  clear V_ha13
  replace Zs : n0 ≤ T25.heap.size := Nat.le_trans Zs Kq25.1
  have V_ha13 : own_BA Z T25.heap ha13 .boolean 64 (own_up (own_up (own_up (own_up (own_up (own_up (own_up (own_up (fun _ => 0) ((0 : Int32)).toNatClampNeg (nar .boolean (1 : Int32))) ((1 : Int32)).toNatClampNeg (nar .boolean (0 : Int32))) ((2 : Int32)).toNatClampNeg (nar .boolean (0 : Int32))) ((3 : Int32)).toNatClampNeg (nar .boolean (0 : Int32))) ((4 : Int32)).toNatClampNeg (nar .boolean (0 : Int32))) ((5 : Int32)).toNatClampNeg (nar .boolean (0 : Int32))) ((1 : Int32)).toNatClampNeg (nar .boolean p1)) ((2 : Int32)).toNatClampNeg (nar .boolean p2)) := o0_25
  refine own_by (B := T25.setTop (mkF m 137 #[.val (.int i0), .val (.int p1), .val (.int p2), .val (.int p3), .val (.int p4), .val (.ref b11), .val (.ref b12), .val (.int (1 : Int32)), .val (.int (2 : Int32)), .val (.int (3 : Int32)), .val (.int (4 : Int32)), .val (.int (5 : Int32)), .unset, .unset, .unset, .unset, .unset] [])) (fun t k => st25.trans k) ?_
  refine own_by (B := T25.setTop (mkF m 139 #[.val (.int i0), .val (.int p1), .val (.int p2), .val (.int p3), .val (.int p4), .val (.ref b11), .val (.ref b12), .val (.int (1 : Int32)), .val (.int (2 : Int32)), .val (.int (3 : Int32)), .val (.int (4 : Int32)), .val (.int (5 : Int32)), .unset, .unset, .unset, .unset, .unset] [(.ref b12)])) (fun t k => XS.aload X25.here hx rfl (hb hby at_137) rfl rfl k) ?_
  refine own_by (B := T25.setTop (mkF m 141 #[.val (.int i0), .val (.int p1), .val (.int p2), .val (.int p3), .val (.int p4), .val (.ref b11), .val (.ref b12), .val (.int (1 : Int32)), .val (.int (2 : Int32)), .val (.int (3 : Int32)), .val (.int (4 : Int32)), .val (.int (5 : Int32)), .unset, .unset, .unset, .unset, .unset] [(.int (3 : Int32)), (.ref b12)])) (fun t k => XS.iload X25.here hx rfl (hb hby at_139) rfl k) ?_
  refine own_by (B := T25.setTop (mkF m 142 #[.val (.int i0), .val (.int p1), .val (.int p2), .val (.int p3), .val (.int p4), .val (.ref b11), .val (.ref b12), .val (.int (1 : Int32)), .val (.int (2 : Int32)), .val (.int (3 : Int32)), .val (.int (4 : Int32)), .val (.int (5 : Int32)), .unset, .unset, .unset, .unset, .unset] [(.int p3), (.int (3 : Int32)), (.ref b12)])) (fun t k => XS.iloadN X25.here hx rfl (hb hby at_141) rfl k) ?_
  obtain ⟨cq26, kq26, q26a, q26b, q26c⟩ := isOf hZ rfl E_b12
  obtain ⟨v26, _, ⟨T26, L26, c26, n26⟩, -, X26, ⟨Lc26, hQ26, l26, y26, z26⟩, st26⟩ := X25.virtualBack hx (y := (⟨"com/example/myriad_paths/myriadpaths/Conditions", "decide", "(IZ)V"⟩ : MethodName)) (z := (⟨"com/example/myriad_paths/myriadpaths/Conditions", "decide", "(IZ)V"⟩ : MethodName)) hown (mvT hZ (hw _ (List.mem_of_getElem? (i := 79) rfl))) (mvT hZ (hw _ (List.mem_of_getElem? (i := 80) rfl))) (notFace_of_selects (args := #[]) (mvT hZ (hw _ (List.mem_of_getElem? (i := 82) rfl)))) (mvT hZ (hw _ (List.mem_of_getElem? (i := 82) rfl))) (mvT hZ (hw _ (List.mem_of_getElem? (i := 81) rfl))) (by decide) (backOf (W := 0) (rm12 l Z a0 hw [] b12 (3 : Int32) p3 ha13 (own_up (own_up (own_up (own_up (own_up (own_up (own_up (own_up (fun _ => 0) ((0 : Int32)).toNatClampNeg (nar .boolean (1 : Int32))) ((1 : Int32)).toNatClampNeg (nar .boolean (0 : Int32))) ((2 : Int32)).toNatClampNeg (nar .boolean (0 : Int32))) ((3 : Int32)).toNatClampNeg (nar .boolean (0 : Int32))) ((4 : Int32)).toNatClampNeg (nar .boolean (0 : Int32))) ((5 : Int32)).toNatClampNeg (nar .boolean (0 : Int32))) ((1 : Int32)).toNatClampNeg (nar .boolean p1)) ((2 : Int32)).toNatClampNeg (nar .boolean p2)) T25.heap n0 Zs F_holds_b12 V_ha13 g_ha13 ne_b12_ha13 (by decide)) hZ (hw _ (List.mem_of_getElem? (i := 83) rfl)) (hw _ (List.mem_of_getElem? (i := 43) rfl)) (by decide) (by decide)) q26a q26c (g := (mkF m 142 #[.val (.int i0), .val (.int p1), .val (.int p2), .val (.int p3), .val (.int p4), .val (.ref b11), .val (.ref b12), .val (.int (1 : Int32)), .val (.int (2 : Int32)), .val (.int (3 : Int32)), .val (.int (4 : Int32)), .val (.int (5 : Int32)), .unset, .unset, .unset, .unset, .unset] [(.int p3), (.int (3 : Int32)), (.ref b12)])) rfl (by rw [hml]; rfl) (Steps.refl _) (argsL := [(.int (3 : Int32)), (.int p3)]) (rest := []) (lenOf pd_7 rfl) rfl (by show 2 * 0 + _ ≤ _; exact Nat.le_of_eq rfl) (hb hby at_142) (fun _ _ => ⟨rfl, rfl, (by decide : 7 + 0 ≤ _), (by decide : 203 + 0 ≤ _)⟩)
  dsimp only [Pt.U, Pt.locs, Pt.cells, Pt.slots] at X26 l26 y26 z26 st26 hQ26
  subst l26 y26 z26
  obtain ⟨rfl, Nq26, Kq26, o0_26⟩ := hQ26
  have NF := Fr.app NF Nq26
  replace E_b9 : Exa Z T26.heap b9 "com/example/myriad_paths/myriadpaths/DocumentMemory" := E_b9.keep Kq26
  replace E_b11 : Exa Z T26.heap b11 "com/example/myriad_paths/myriadpaths/DocumentMemory$Share" := E_b11.keep Kq26
  replace E_b12 : Exa Z T26.heap b12 "com/example/myriad_paths/myriadpaths/Conditions" := E_b12.keep Kq26
  replace F_first_b12 : Fld Z T26.heap b12 "com/example/myriad_paths/myriadpaths/Conditions" "first" "[I" (.ref fa13) := F_first_b12.keep Kq26 (ninS ne_b12_ha13 nin0)
  replace F_other_b12 : Fld Z T26.heap b12 "com/example/myriad_paths/myriadpaths/Conditions" "other" "[I" (.ref oa13) := F_other_b12.keep Kq26 (ninS ne_b12_ha13 nin0)
  replace F_holds_b12 : Fld Z T26.heap b12 "com/example/myriad_paths/myriadpaths/Conditions" "holds" "[Z" (.ref ha13) := F_holds_b12.keep Kq26 (ninS ne_b12_ha13 nin0)
  replace F_count_b12 : Fld Z T26.heap b12 "com/example/myriad_paths/myriadpaths/Conditions" "count" "I" (.int (6 : Int32)) := F_count_b12.keep Kq26 (ninS ne_b12_ha13 nin0)
  replace V_fa13 : own_BA Z T26.heap fa13 .int 64 (own_up (own_up (own_up (own_up (own_up (fun _ => 0) ((1 : Int32)).toNatClampNeg (0 : Int32)) ((2 : Int32)).toNatClampNeg (1 : Int32)) ((3 : Int32)).toNatClampNeg (0 : Int32)) ((4 : Int32)).toNatClampNeg (2 : Int32)) ((5 : Int32)).toNatClampNeg (4 : Int32)) := V_fa13.keep Kq26 (ninS ne_fa13_ha13 nin0)
  replace V_oa13 : own_BA Z T26.heap oa13 .int 64 (own_up (own_up (own_up (own_up (own_up (fun _ => 0) ((1 : Int32)).toNatClampNeg (-1 : Int32)) ((2 : Int32)).toNatClampNeg (-1 : Int32)) ((3 : Int32)).toNatClampNeg (-1 : Int32)) ((4 : Int32)).toNatClampNeg (3 : Int32)) ((5 : Int32)).toNatClampNeg (-1 : Int32)) := V_oa13.keep Kq26 (ninS ne_oa13_ha13 nin0)
  clear V_ha13
  replace Zs : n0 ≤ T26.heap.size := Nat.le_trans Zs Kq26.1
  have V_ha13 : own_BA Z T26.heap ha13 .boolean 64 (own_up (own_up (own_up (own_up (own_up (own_up (own_up (own_up (own_up (fun _ => 0) ((0 : Int32)).toNatClampNeg (nar .boolean (1 : Int32))) ((1 : Int32)).toNatClampNeg (nar .boolean (0 : Int32))) ((2 : Int32)).toNatClampNeg (nar .boolean (0 : Int32))) ((3 : Int32)).toNatClampNeg (nar .boolean (0 : Int32))) ((4 : Int32)).toNatClampNeg (nar .boolean (0 : Int32))) ((5 : Int32)).toNatClampNeg (nar .boolean (0 : Int32))) ((1 : Int32)).toNatClampNeg (nar .boolean p1)) ((2 : Int32)).toNatClampNeg (nar .boolean p2)) ((3 : Int32)).toNatClampNeg (nar .boolean p3)) := o0_26
  refine own_by (B := T26.setTop (mkF m 145 #[.val (.int i0), .val (.int p1), .val (.int p2), .val (.int p3), .val (.int p4), .val (.ref b11), .val (.ref b12), .val (.int (1 : Int32)), .val (.int (2 : Int32)), .val (.int (3 : Int32)), .val (.int (4 : Int32)), .val (.int (5 : Int32)), .unset, .unset, .unset, .unset, .unset] [])) (fun t k => st26.trans k) ?_
  refine own_by (B := T26.setTop (mkF m 147 #[.val (.int i0), .val (.int p1), .val (.int p2), .val (.int p3), .val (.int p4), .val (.ref b11), .val (.ref b12), .val (.int (1 : Int32)), .val (.int (2 : Int32)), .val (.int (3 : Int32)), .val (.int (4 : Int32)), .val (.int (5 : Int32)), .unset, .unset, .unset, .unset, .unset] [(.ref b12)])) (fun t k => XS.aload X26.here hx rfl (hb hby at_145) rfl rfl k) ?_
  refine own_by (B := T26.setTop (mkF m 149 #[.val (.int i0), .val (.int p1), .val (.int p2), .val (.int p3), .val (.int p4), .val (.ref b11), .val (.ref b12), .val (.int (1 : Int32)), .val (.int (2 : Int32)), .val (.int (3 : Int32)), .val (.int (4 : Int32)), .val (.int (5 : Int32)), .unset, .unset, .unset, .unset, .unset] [(.int (5 : Int32)), (.ref b12)])) (fun t k => XS.iload X26.here hx rfl (hb hby at_147) rfl k) ?_
  refine own_by (B := T26.setTop (mkF m 151 #[.val (.int i0), .val (.int p1), .val (.int p2), .val (.int p3), .val (.int p4), .val (.ref b11), .val (.ref b12), .val (.int (1 : Int32)), .val (.int (2 : Int32)), .val (.int (3 : Int32)), .val (.int (4 : Int32)), .val (.int (5 : Int32)), .unset, .unset, .unset, .unset, .unset] [(.int p4), (.int (5 : Int32)), (.ref b12)])) (fun t k => XS.iload X26.here hx rfl (hb hby at_149) rfl k) ?_
  obtain ⟨cq27, kq27, q27a, q27b, q27c⟩ := isOf hZ rfl E_b12
  obtain ⟨v27, _, ⟨T27, L27, c27, n27⟩, -, X27, ⟨Lc27, hQ27, l27, y27, z27⟩, st27⟩ := X26.virtualBack hx (y := (⟨"com/example/myriad_paths/myriadpaths/Conditions", "decide", "(IZ)V"⟩ : MethodName)) (z := (⟨"com/example/myriad_paths/myriadpaths/Conditions", "decide", "(IZ)V"⟩ : MethodName)) hown (mvT hZ (hw _ (List.mem_of_getElem? (i := 79) rfl))) (mvT hZ (hw _ (List.mem_of_getElem? (i := 80) rfl))) (notFace_of_selects (args := #[]) (mvT hZ (hw _ (List.mem_of_getElem? (i := 82) rfl)))) (mvT hZ (hw _ (List.mem_of_getElem? (i := 82) rfl))) (mvT hZ (hw _ (List.mem_of_getElem? (i := 81) rfl))) (by decide) (backOf (W := 0) (rm12 l Z a0 hw [] b12 (5 : Int32) p4 ha13 (own_up (own_up (own_up (own_up (own_up (own_up (own_up (own_up (own_up (fun _ => 0) ((0 : Int32)).toNatClampNeg (nar .boolean (1 : Int32))) ((1 : Int32)).toNatClampNeg (nar .boolean (0 : Int32))) ((2 : Int32)).toNatClampNeg (nar .boolean (0 : Int32))) ((3 : Int32)).toNatClampNeg (nar .boolean (0 : Int32))) ((4 : Int32)).toNatClampNeg (nar .boolean (0 : Int32))) ((5 : Int32)).toNatClampNeg (nar .boolean (0 : Int32))) ((1 : Int32)).toNatClampNeg (nar .boolean p1)) ((2 : Int32)).toNatClampNeg (nar .boolean p2)) ((3 : Int32)).toNatClampNeg (nar .boolean p3)) T26.heap n0 Zs F_holds_b12 V_ha13 g_ha13 ne_b12_ha13 (by decide)) hZ (hw _ (List.mem_of_getElem? (i := 83) rfl)) (hw _ (List.mem_of_getElem? (i := 43) rfl)) (by decide) (by decide)) q27a q27c (g := (mkF m 151 #[.val (.int i0), .val (.int p1), .val (.int p2), .val (.int p3), .val (.int p4), .val (.ref b11), .val (.ref b12), .val (.int (1 : Int32)), .val (.int (2 : Int32)), .val (.int (3 : Int32)), .val (.int (4 : Int32)), .val (.int (5 : Int32)), .unset, .unset, .unset, .unset, .unset] [(.int p4), (.int (5 : Int32)), (.ref b12)])) rfl (by rw [hml]; rfl) (Steps.refl _) (argsL := [(.int (5 : Int32)), (.int p4)]) (rest := []) (lenOf pd_7 rfl) rfl (by show 2 * 0 + _ ≤ _; exact Nat.le_of_eq rfl) (hb hby at_151) (fun _ _ => ⟨rfl, rfl, (by decide : 7 + 0 ≤ _), (by decide : 203 + 0 ≤ _)⟩)
  dsimp only [Pt.U, Pt.locs, Pt.cells, Pt.slots] at X27 l27 y27 z27 st27 hQ27
  subst l27 y27 z27
  obtain ⟨rfl, Nq27, Kq27, o0_27⟩ := hQ27
  have NF := Fr.app NF Nq27
  replace E_b9 : Exa Z T27.heap b9 "com/example/myriad_paths/myriadpaths/DocumentMemory" := E_b9.keep Kq27
  replace E_b11 : Exa Z T27.heap b11 "com/example/myriad_paths/myriadpaths/DocumentMemory$Share" := E_b11.keep Kq27
  replace E_b12 : Exa Z T27.heap b12 "com/example/myriad_paths/myriadpaths/Conditions" := E_b12.keep Kq27
  replace F_first_b12 : Fld Z T27.heap b12 "com/example/myriad_paths/myriadpaths/Conditions" "first" "[I" (.ref fa13) := F_first_b12.keep Kq27 (ninS ne_b12_ha13 nin0)
  replace F_other_b12 : Fld Z T27.heap b12 "com/example/myriad_paths/myriadpaths/Conditions" "other" "[I" (.ref oa13) := F_other_b12.keep Kq27 (ninS ne_b12_ha13 nin0)
  replace F_holds_b12 : Fld Z T27.heap b12 "com/example/myriad_paths/myriadpaths/Conditions" "holds" "[Z" (.ref ha13) := F_holds_b12.keep Kq27 (ninS ne_b12_ha13 nin0)
  replace F_count_b12 : Fld Z T27.heap b12 "com/example/myriad_paths/myriadpaths/Conditions" "count" "I" (.int (6 : Int32)) := F_count_b12.keep Kq27 (ninS ne_b12_ha13 nin0)
  replace V_fa13 : own_BA Z T27.heap fa13 .int 64 (own_up (own_up (own_up (own_up (own_up (fun _ => 0) ((1 : Int32)).toNatClampNeg (0 : Int32)) ((2 : Int32)).toNatClampNeg (1 : Int32)) ((3 : Int32)).toNatClampNeg (0 : Int32)) ((4 : Int32)).toNatClampNeg (2 : Int32)) ((5 : Int32)).toNatClampNeg (4 : Int32)) := V_fa13.keep Kq27 (ninS ne_fa13_ha13 nin0)
  replace V_oa13 : own_BA Z T27.heap oa13 .int 64 (own_up (own_up (own_up (own_up (own_up (fun _ => 0) ((1 : Int32)).toNatClampNeg (-1 : Int32)) ((2 : Int32)).toNatClampNeg (-1 : Int32)) ((3 : Int32)).toNatClampNeg (-1 : Int32)) ((4 : Int32)).toNatClampNeg (3 : Int32)) ((5 : Int32)).toNatClampNeg (-1 : Int32)) := V_oa13.keep Kq27 (ninS ne_oa13_ha13 nin0)
  clear V_ha13
  replace Zs : n0 ≤ T27.heap.size := Nat.le_trans Zs Kq27.1
  have V_ha13 : own_BA Z T27.heap ha13 .boolean 64 (own_up (own_up (own_up (own_up (own_up (own_up (own_up (own_up (own_up (own_up (fun _ => 0) ((0 : Int32)).toNatClampNeg (nar .boolean (1 : Int32))) ((1 : Int32)).toNatClampNeg (nar .boolean (0 : Int32))) ((2 : Int32)).toNatClampNeg (nar .boolean (0 : Int32))) ((3 : Int32)).toNatClampNeg (nar .boolean (0 : Int32))) ((4 : Int32)).toNatClampNeg (nar .boolean (0 : Int32))) ((5 : Int32)).toNatClampNeg (nar .boolean (0 : Int32))) ((1 : Int32)).toNatClampNeg (nar .boolean p1)) ((2 : Int32)).toNatClampNeg (nar .boolean p2)) ((3 : Int32)).toNatClampNeg (nar .boolean p3)) ((5 : Int32)).toNatClampNeg (nar .boolean p4)) := o0_27
  refine own_by (B := T27.setTop (mkF m 154 #[.val (.int i0), .val (.int p1), .val (.int p2), .val (.int p3), .val (.int p4), .val (.ref b11), .val (.ref b12), .val (.int (1 : Int32)), .val (.int (2 : Int32)), .val (.int (3 : Int32)), .val (.int (4 : Int32)), .val (.int (5 : Int32)), .unset, .unset, .unset, .unset, .unset] [])) (fun t k => st27.trans k) ?_
  refine own_by (B := T27.setTop (mkF m 156 #[.val (.int i0), .val (.int p1), .val (.int p2), .val (.int p3), .val (.int p4), .val (.ref b11), .val (.ref b12), .val (.int (1 : Int32)), .val (.int (2 : Int32)), .val (.int (3 : Int32)), .val (.int (4 : Int32)), .val (.int (5 : Int32)), .unset, .unset, .unset, .unset, .unset] [(.ref b12)])) (fun t k => XS.aload X27.here hx rfl (hb hby at_154) rfl rfl k) ?_
  obtain ⟨cq28, kq28, q28a, q28b, q28c⟩ := isOf hZ rfl E_b12
  obtain ⟨v28, _, ⟨T28, L28, c28, n28⟩, -, X28, ⟨Lc28, hQ28, l28, y28, z28⟩, st28⟩ := X27.virtualBack hx (y := (⟨"com/example/myriad_paths/myriadpaths/Conditions", "settle", "()V"⟩ : MethodName)) (z := (⟨"com/example/myriad_paths/myriadpaths/Conditions", "settle", "()V"⟩ : MethodName)) hown (mvT hZ (hw _ (List.mem_of_getElem? (i := 84) rfl))) (mvT hZ (hw _ (List.mem_of_getElem? (i := 85) rfl))) (notFace_of_selects (args := #[]) (mvT hZ (hw _ (List.mem_of_getElem? (i := 87) rfl)))) (mvT hZ (hw _ (List.mem_of_getElem? (i := 87) rfl))) (mvT hZ (hw _ (List.mem_of_getElem? (i := 86) rfl))) (by decide) (backOf (W := 0) (rm13 l Z a0 hw [] b12 fa13 oa13 ha13 (own_up (own_up (own_up (own_up (own_up (fun _ => 0) ((1 : Int32)).toNatClampNeg (0 : Int32)) ((2 : Int32)).toNatClampNeg (1 : Int32)) ((3 : Int32)).toNatClampNeg (0 : Int32)) ((4 : Int32)).toNatClampNeg (2 : Int32)) ((5 : Int32)).toNatClampNeg (4 : Int32)) (own_up (own_up (own_up (own_up (own_up (fun _ => 0) ((1 : Int32)).toNatClampNeg (-1 : Int32)) ((2 : Int32)).toNatClampNeg (-1 : Int32)) ((3 : Int32)).toNatClampNeg (-1 : Int32)) ((4 : Int32)).toNatClampNeg (3 : Int32)) ((5 : Int32)).toNatClampNeg (-1 : Int32)) (own_up (own_up (own_up (own_up (own_up (own_up (own_up (own_up (own_up (own_up (fun _ => 0) ((0 : Int32)).toNatClampNeg (nar .boolean (1 : Int32))) ((1 : Int32)).toNatClampNeg (nar .boolean (0 : Int32))) ((2 : Int32)).toNatClampNeg (nar .boolean (0 : Int32))) ((3 : Int32)).toNatClampNeg (nar .boolean (0 : Int32))) ((4 : Int32)).toNatClampNeg (nar .boolean (0 : Int32))) ((5 : Int32)).toNatClampNeg (nar .boolean (0 : Int32))) ((1 : Int32)).toNatClampNeg (nar .boolean p1)) ((2 : Int32)).toNatClampNeg (nar .boolean p2)) ((3 : Int32)).toNatClampNeg (nar .boolean p3)) ((5 : Int32)).toNatClampNeg (nar .boolean p4)) T27.heap n0 Zs F_count_b12 F_other_b12 F_first_b12 F_holds_b12 V_fa13 V_oa13 V_ha13 g_ha13 ne_b12_ha13 ne_fa13_ha13 ne_oa13_ha13 (by decide) (by decide) (by decide) (by decide) (by decide) (by decide) (by decide) (by decide) (by decide) (by decide) (by decide)) hZ (hw _ (List.mem_of_getElem? (i := 88) rfl)) (hw _ (List.mem_of_getElem? (i := 43) rfl)) (by decide) (by decide)) q28a q28c (g := (mkF m 156 #[.val (.int i0), .val (.int p1), .val (.int p2), .val (.int p3), .val (.int p4), .val (.ref b11), .val (.ref b12), .val (.int (1 : Int32)), .val (.int (2 : Int32)), .val (.int (3 : Int32)), .val (.int (4 : Int32)), .val (.int (5 : Int32)), .unset, .unset, .unset, .unset, .unset] [(.ref b12)])) rfl (by rw [hml]; rfl) (Steps.refl _) (argsL := []) (rest := []) (lenOf pd_0 rfl) rfl (by show 2 * 0 + _ ≤ _; exact Nat.le_of_eq rfl) (hb hby at_156) (fun _ _ => ⟨rfl, rfl, (by decide : 7 + 0 ≤ _), (by decide : 203 + 0 ≤ _)⟩)
  dsimp only [Pt.U, Pt.locs, Pt.cells, Pt.slots] at X28 l28 y28 z28 st28 hQ28
  subst l28 y28 z28
  obtain ⟨rfl, Nq28, Kq28, o0_28⟩ := hQ28
  have NF := Fr.app NF Nq28
  replace E_b9 : Exa Z T28.heap b9 "com/example/myriad_paths/myriadpaths/DocumentMemory" := E_b9.keep Kq28
  replace E_b11 : Exa Z T28.heap b11 "com/example/myriad_paths/myriadpaths/DocumentMemory$Share" := E_b11.keep Kq28
  replace E_b12 : Exa Z T28.heap b12 "com/example/myriad_paths/myriadpaths/Conditions" := E_b12.keep Kq28
  replace F_first_b12 : Fld Z T28.heap b12 "com/example/myriad_paths/myriadpaths/Conditions" "first" "[I" (.ref fa13) := F_first_b12.keep Kq28 (ninS ne_b12_ha13 nin0)
  replace F_other_b12 : Fld Z T28.heap b12 "com/example/myriad_paths/myriadpaths/Conditions" "other" "[I" (.ref oa13) := F_other_b12.keep Kq28 (ninS ne_b12_ha13 nin0)
  replace F_holds_b12 : Fld Z T28.heap b12 "com/example/myriad_paths/myriadpaths/Conditions" "holds" "[Z" (.ref ha13) := F_holds_b12.keep Kq28 (ninS ne_b12_ha13 nin0)
  replace F_count_b12 : Fld Z T28.heap b12 "com/example/myriad_paths/myriadpaths/Conditions" "count" "I" (.int (6 : Int32)) := F_count_b12.keep Kq28 (ninS ne_b12_ha13 nin0)
  replace V_fa13 : own_BA Z T28.heap fa13 .int 64 (own_up (own_up (own_up (own_up (own_up (fun _ => 0) ((1 : Int32)).toNatClampNeg (0 : Int32)) ((2 : Int32)).toNatClampNeg (1 : Int32)) ((3 : Int32)).toNatClampNeg (0 : Int32)) ((4 : Int32)).toNatClampNeg (2 : Int32)) ((5 : Int32)).toNatClampNeg (4 : Int32)) := V_fa13.keep Kq28 (ninS ne_fa13_ha13 nin0)
  replace V_oa13 : own_BA Z T28.heap oa13 .int 64 (own_up (own_up (own_up (own_up (own_up (fun _ => 0) ((1 : Int32)).toNatClampNeg (-1 : Int32)) ((2 : Int32)).toNatClampNeg (-1 : Int32)) ((3 : Int32)).toNatClampNeg (-1 : Int32)) ((4 : Int32)).toNatClampNeg (3 : Int32)) ((5 : Int32)).toNatClampNeg (-1 : Int32)) := V_oa13.keep Kq28 (ninS ne_oa13_ha13 nin0)
  clear V_ha13
  replace Zs : n0 ≤ T28.heap.size := Nat.le_trans Zs Kq28.1
  have V_ha13 : own_BA Z T28.heap ha13 .boolean 64 (own_stA (own_up (own_up (own_up (own_up (own_up (fun _ => 0) ((1 : Int32)).toNatClampNeg (0 : Int32)) ((2 : Int32)).toNatClampNeg (1 : Int32)) ((3 : Int32)).toNatClampNeg (0 : Int32)) ((4 : Int32)).toNatClampNeg (2 : Int32)) ((5 : Int32)).toNatClampNeg (4 : Int32)) (own_stO (own_up (own_up (own_up (own_up (own_up (fun _ => 0) ((1 : Int32)).toNatClampNeg (0 : Int32)) ((2 : Int32)).toNatClampNeg (1 : Int32)) ((3 : Int32)).toNatClampNeg (0 : Int32)) ((4 : Int32)).toNatClampNeg (2 : Int32)) ((5 : Int32)).toNatClampNeg (4 : Int32)) (own_up (own_up (own_up (own_up (own_up (fun _ => 0) ((1 : Int32)).toNatClampNeg (-1 : Int32)) ((2 : Int32)).toNatClampNeg (-1 : Int32)) ((3 : Int32)).toNatClampNeg (-1 : Int32)) ((4 : Int32)).toNatClampNeg (3 : Int32)) ((5 : Int32)).toNatClampNeg (-1 : Int32)) (own_stA (own_up (own_up (own_up (own_up (own_up (fun _ => 0) ((1 : Int32)).toNatClampNeg (0 : Int32)) ((2 : Int32)).toNatClampNeg (1 : Int32)) ((3 : Int32)).toNatClampNeg (0 : Int32)) ((4 : Int32)).toNatClampNeg (2 : Int32)) ((5 : Int32)).toNatClampNeg (4 : Int32)) (own_stA (own_up (own_up (own_up (own_up (own_up (fun _ => 0) ((1 : Int32)).toNatClampNeg (0 : Int32)) ((2 : Int32)).toNatClampNeg (1 : Int32)) ((3 : Int32)).toNatClampNeg (0 : Int32)) ((4 : Int32)).toNatClampNeg (2 : Int32)) ((5 : Int32)).toNatClampNeg (4 : Int32)) (own_stA (own_up (own_up (own_up (own_up (own_up (fun _ => 0) ((1 : Int32)).toNatClampNeg (0 : Int32)) ((2 : Int32)).toNatClampNeg (1 : Int32)) ((3 : Int32)).toNatClampNeg (0 : Int32)) ((4 : Int32)).toNatClampNeg (2 : Int32)) ((5 : Int32)).toNatClampNeg (4 : Int32)) (own_up (own_up (own_up (own_up (own_up (own_up (own_up (own_up (own_up (own_up (fun _ => 0) ((0 : Int32)).toNatClampNeg (nar .boolean (1 : Int32))) ((1 : Int32)).toNatClampNeg (nar .boolean (0 : Int32))) ((2 : Int32)).toNatClampNeg (nar .boolean (0 : Int32))) ((3 : Int32)).toNatClampNeg (nar .boolean (0 : Int32))) ((4 : Int32)).toNatClampNeg (nar .boolean (0 : Int32))) ((5 : Int32)).toNatClampNeg (nar .boolean (0 : Int32))) ((1 : Int32)).toNatClampNeg (nar .boolean p1)) ((2 : Int32)).toNatClampNeg (nar .boolean p2)) ((3 : Int32)).toNatClampNeg (nar .boolean p3)) ((5 : Int32)).toNatClampNeg (nar .boolean p4)) (1 : Int32)) (2 : Int32)) (3 : Int32)) (4 : Int32)) (5 : Int32)) := o0_28
  refine own_by (B := T28.setTop (mkF m 159 #[.val (.int i0), .val (.int p1), .val (.int p2), .val (.int p3), .val (.int p4), .val (.ref b11), .val (.ref b12), .val (.int (1 : Int32)), .val (.int (2 : Int32)), .val (.int (3 : Int32)), .val (.int (4 : Int32)), .val (.int (5 : Int32)), .unset, .unset, .unset, .unset, .unset] [])) (fun t k => st28.trans k) ?_
  refine own_by (B := T28.setTop (mkF m 160 #[.val (.int i0), .val (.int p1), .val (.int p2), .val (.int p3), .val (.int p4), .val (.ref b11), .val (.ref b12), .val (.int (1 : Int32)), .val (.int (2 : Int32)), .val (.int (3 : Int32)), .val (.int (4 : Int32)), .val (.int (5 : Int32)), .unset, .unset, .unset, .unset, .unset] [(.int p1)])) (fun t k => XS.iloadN X28.here hx rfl (hb hby at_159) rfl k) ?_
  refine own_by (B := T28.setTop (mkF m 162 #[.val (.int i0), .val (.int p1), .val (.int p2), .val (.int p3), .val (.int p4), .val (.ref b11), .val (.ref b12), .val (.int (1 : Int32)), .val (.int (2 : Int32)), .val (.int (3 : Int32)), .val (.int (4 : Int32)), .val (.int (5 : Int32)), .val (.int p1), .unset, .unset, .unset, .unset] [])) (fun t k => XS.istore X28.here hx rfl (hb hby at_160) rfl (l' := #[.val (.int i0), .val (.int p1), .val (.int p2), .val (.int p3), .val (.int p4), .val (.ref b11), .val (.ref b12), .val (.int (1 : Int32)), .val (.int (2 : Int32)), .val (.int (3 : Int32)), .val (.int (4 : Int32)), .val (.int (5 : Int32)), .val (.int p1), .unset, .unset, .unset, .unset]) rfl k) ?_
  refine own_by (B := T28.setTop (mkF m 163 #[.val (.int i0), .val (.int p1), .val (.int p2), .val (.int p3), .val (.int p4), .val (.ref b11), .val (.ref b12), .val (.int (1 : Int32)), .val (.int (2 : Int32)), .val (.int (3 : Int32)), .val (.int (4 : Int32)), .val (.int (5 : Int32)), .val (.int p1), .unset, .unset, .unset, .unset] [(.int p2)])) (fun t k => XS.iloadN X28.here hx rfl (hb hby at_162) rfl k) ?_
  obtain ⟨rB, hrB⟩ : ∃ z : Int32, z = (if p2 = (0 : Int32) then (0 : Int32) else (if p1 = (0 : Int32) then (0 : Int32) else (1 : Int32))) := ⟨_, rfl⟩
  refine own_by (B := T28.setTop (mkF m 176 #[.val (.int i0), .val (.int p1), .val (.int p2), .val (.int p3), .val (.int p4), .val (.ref b11), .val (.ref b12), .val (.int (1 : Int32)), .val (.int (2 : Int32)), .val (.int (3 : Int32)), .val (.int (4 : Int32)), .val (.int (5 : Int32)), .val (.int p1), .unset, .unset, .unset, .unset] [(.int rB)])) (fun t k => ?_) ?_
  ·
    show Steps p.tables e below (T28.setTop (mkF m 163 #[.val (.int i0), .val (.int p1), .val (.int p2), .val (.int p3), .val (.int p4), .val (.ref b11), .val (.ref b12), .val (.int (1 : Int32)), .val (.int (2 : Int32)), .val (.int (3 : Int32)), .val (.int (4 : Int32)), .val (.int (5 : Int32)), .val (.int p1), .unset, .unset, .unset, .unset] [(.int p2)])) t
    by_cases hm30 : p2 = (0 : Int32)
    ·
      rw [if_pos hm30] at hrB
      refine XS.ifYes X28.here hx rfl (pc0 := 163) (pc' := 175) rfl (hb hby at_163) rfl ((if0 _ _).trans (teq hm30).1) (by decide) (by decide) ?_
      show Steps p.tables e below (T28.setTop (mkF m 175 #[.val (.int i0), .val (.int p1), .val (.int p2), .val (.int p3), .val (.int p4), .val (.ref b11), .val (.ref b12), .val (.int (1 : Int32)), .val (.int (2 : Int32)), .val (.int (3 : Int32)), .val (.int (4 : Int32)), .val (.int (5 : Int32)), .val (.int p1), .unset, .unset, .unset, .unset] [])) t
      show Steps p.tables e below (T28.setTop (mkF m 175 #[.val (.int i0), .val (.int p1), .val (.int p2), .val (.int p3), .val (.int p4), .val (.ref b11), .val (.ref b12), .val (.int (1 : Int32)), .val (.int (2 : Int32)), .val (.int (3 : Int32)), .val (.int (4 : Int32)), .val (.int (5 : Int32)), .val (.int p1), .unset, .unset, .unset, .unset] [])) t
      refine XS.iconst X28.here hx rfl (hb hby at_175) ?_
      show Steps p.tables e below (T28.setTop (mkF m 176 #[.val (.int i0), .val (.int p1), .val (.int p2), .val (.int p3), .val (.int p4), .val (.ref b11), .val (.ref b12), .val (.int (1 : Int32)), .val (.int (2 : Int32)), .val (.int (3 : Int32)), .val (.int (4 : Int32)), .val (.int (5 : Int32)), .val (.int p1), .unset, .unset, .unset, .unset] [(.int (0 : Int32))])) t
      subst hrB
      exact k
    ·
      rw [if_neg hm30] at hrB
      refine XS.ifNo X28.here hx rfl (hb hby at_163) rfl ((if0 _ _).trans (feq hm30).1) ?_
      show Steps p.tables e below (T28.setTop (mkF m 166 #[.val (.int i0), .val (.int p1), .val (.int p2), .val (.int p3), .val (.int p4), .val (.ref b11), .val (.ref b12), .val (.int (1 : Int32)), .val (.int (2 : Int32)), .val (.int (3 : Int32)), .val (.int (4 : Int32)), .val (.int (5 : Int32)), .val (.int p1), .unset, .unset, .unset, .unset] [])) t
      show Steps p.tables e below (T28.setTop (mkF m 166 #[.val (.int i0), .val (.int p1), .val (.int p2), .val (.int p3), .val (.int p4), .val (.ref b11), .val (.ref b12), .val (.int (1 : Int32)), .val (.int (2 : Int32)), .val (.int (3 : Int32)), .val (.int (4 : Int32)), .val (.int (5 : Int32)), .val (.int p1), .unset, .unset, .unset, .unset] [])) t
      refine XS.iload X28.here hx rfl (hb hby at_166) rfl ?_
      show Steps p.tables e below (T28.setTop (mkF m 168 #[.val (.int i0), .val (.int p1), .val (.int p2), .val (.int p3), .val (.int p4), .val (.ref b11), .val (.ref b12), .val (.int (1 : Int32)), .val (.int (2 : Int32)), .val (.int (3 : Int32)), .val (.int (4 : Int32)), .val (.int (5 : Int32)), .val (.int p1), .unset, .unset, .unset, .unset] [(.int p1)])) t
      by_cases hm31 : p1 = (0 : Int32)
      ·
        rw [if_pos hm31] at hrB
        refine XS.ifYes X28.here hx rfl (pc0 := 168) (pc' := 175) rfl (hb hby at_168) rfl ((if0 _ _).trans (teq hm31).1) (by decide) (by decide) ?_
        show Steps p.tables e below (T28.setTop (mkF m 175 #[.val (.int i0), .val (.int p1), .val (.int p2), .val (.int p3), .val (.int p4), .val (.ref b11), .val (.ref b12), .val (.int (1 : Int32)), .val (.int (2 : Int32)), .val (.int (3 : Int32)), .val (.int (4 : Int32)), .val (.int (5 : Int32)), .val (.int p1), .unset, .unset, .unset, .unset] [])) t
        show Steps p.tables e below (T28.setTop (mkF m 175 #[.val (.int i0), .val (.int p1), .val (.int p2), .val (.int p3), .val (.int p4), .val (.ref b11), .val (.ref b12), .val (.int (1 : Int32)), .val (.int (2 : Int32)), .val (.int (3 : Int32)), .val (.int (4 : Int32)), .val (.int (5 : Int32)), .val (.int p1), .unset, .unset, .unset, .unset] [])) t
        refine XS.iconst X28.here hx rfl (hb hby at_175) ?_
        show Steps p.tables e below (T28.setTop (mkF m 176 #[.val (.int i0), .val (.int p1), .val (.int p2), .val (.int p3), .val (.int p4), .val (.ref b11), .val (.ref b12), .val (.int (1 : Int32)), .val (.int (2 : Int32)), .val (.int (3 : Int32)), .val (.int (4 : Int32)), .val (.int (5 : Int32)), .val (.int p1), .unset, .unset, .unset, .unset] [(.int (0 : Int32))])) t
        subst hrB
        exact k
      ·
        rw [if_neg hm31] at hrB
        refine XS.ifNo X28.here hx rfl (hb hby at_168) rfl ((if0 _ _).trans (feq hm31).1) ?_
        show Steps p.tables e below (T28.setTop (mkF m 171 #[.val (.int i0), .val (.int p1), .val (.int p2), .val (.int p3), .val (.int p4), .val (.ref b11), .val (.ref b12), .val (.int (1 : Int32)), .val (.int (2 : Int32)), .val (.int (3 : Int32)), .val (.int (4 : Int32)), .val (.int (5 : Int32)), .val (.int p1), .unset, .unset, .unset, .unset] [])) t
        show Steps p.tables e below (T28.setTop (mkF m 171 #[.val (.int i0), .val (.int p1), .val (.int p2), .val (.int p3), .val (.int p4), .val (.ref b11), .val (.ref b12), .val (.int (1 : Int32)), .val (.int (2 : Int32)), .val (.int (3 : Int32)), .val (.int (4 : Int32)), .val (.int (5 : Int32)), .val (.int p1), .unset, .unset, .unset, .unset] [])) t
        refine XS.iconst X28.here hx rfl (hb hby at_171) ?_
        show Steps p.tables e below (T28.setTop (mkF m 172 #[.val (.int i0), .val (.int p1), .val (.int p2), .val (.int p3), .val (.int p4), .val (.ref b11), .val (.ref b12), .val (.int (1 : Int32)), .val (.int (2 : Int32)), .val (.int (3 : Int32)), .val (.int (4 : Int32)), .val (.int (5 : Int32)), .val (.int p1), .unset, .unset, .unset, .unset] [(.int (1 : Int32))])) t
        refine XS.goto X28.here hx rfl (pc0 := 172) (pc' := 176) rfl (hb hby at_172) (by decide) (by decide) ?_
        show Steps p.tables e below (T28.setTop (mkF m 176 #[.val (.int i0), .val (.int p1), .val (.int p2), .val (.int p3), .val (.int p4), .val (.ref b11), .val (.ref b12), .val (.int (1 : Int32)), .val (.int (2 : Int32)), .val (.int (3 : Int32)), .val (.int (4 : Int32)), .val (.int (5 : Int32)), .val (.int p1), .unset, .unset, .unset, .unset] [(.int (1 : Int32))])) t
        subst hrB
        exact k
  refine own_by (B := T28.setTop (mkF m 178 #[.val (.int i0), .val (.int p1), .val (.int p2), .val (.int p3), .val (.int p4), .val (.ref b11), .val (.ref b12), .val (.int (1 : Int32)), .val (.int (2 : Int32)), .val (.int (3 : Int32)), .val (.int (4 : Int32)), .val (.int (5 : Int32)), .val (.int p1), .val (.int rB), .unset, .unset, .unset] [])) (fun t k => XS.istore X28.here hx rfl (hb hby at_176) rfl (l' := #[.val (.int i0), .val (.int p1), .val (.int p2), .val (.int p3), .val (.int p4), .val (.ref b11), .val (.ref b12), .val (.int (1 : Int32)), .val (.int (2 : Int32)), .val (.int (3 : Int32)), .val (.int (4 : Int32)), .val (.int (5 : Int32)), .val (.int p1), .val (.int rB), .unset, .unset, .unset]) rfl k) ?_
  refine own_by (B := T28.setTop (mkF m 179 #[.val (.int i0), .val (.int p1), .val (.int p2), .val (.int p3), .val (.int p4), .val (.ref b11), .val (.ref b12), .val (.int (1 : Int32)), .val (.int (2 : Int32)), .val (.int (3 : Int32)), .val (.int (4 : Int32)), .val (.int (5 : Int32)), .val (.int p1), .val (.int rB), .unset, .unset, .unset] [(.int p3)])) (fun t k => XS.iloadN X28.here hx rfl (hb hby at_178) rfl k) ?_
  refine own_by (B := T28.setTop (mkF m 181 #[.val (.int i0), .val (.int p1), .val (.int p2), .val (.int p3), .val (.int p4), .val (.ref b11), .val (.ref b12), .val (.int (1 : Int32)), .val (.int (2 : Int32)), .val (.int (3 : Int32)), .val (.int (4 : Int32)), .val (.int (5 : Int32)), .val (.int p1), .val (.int rB), .val (.int p3), .unset, .unset] [])) (fun t k => XS.istore X28.here hx rfl (hb hby at_179) rfl (l' := #[.val (.int i0), .val (.int p1), .val (.int p2), .val (.int p3), .val (.int p4), .val (.ref b11), .val (.ref b12), .val (.int (1 : Int32)), .val (.int (2 : Int32)), .val (.int (3 : Int32)), .val (.int (4 : Int32)), .val (.int (5 : Int32)), .val (.int p1), .val (.int rB), .val (.int p3), .unset, .unset]) rfl k) ?_
  refine own_by (B := T28.setTop (mkF m 183 #[.val (.int i0), .val (.int p1), .val (.int p2), .val (.int p3), .val (.int p4), .val (.ref b11), .val (.ref b12), .val (.int (1 : Int32)), .val (.int (2 : Int32)), .val (.int (3 : Int32)), .val (.int (4 : Int32)), .val (.int (5 : Int32)), .val (.int p1), .val (.int rB), .val (.int p3), .unset, .unset] [(.int rB)])) (fun t k => XS.iload X28.here hx rfl (hb hby at_181) rfl k) ?_
  obtain ⟨rD, hrD⟩ : ∃ z : Int32, z = (if rB = (0 : Int32) then (if p3 = (0 : Int32) then (0 : Int32) else (1 : Int32)) else (1 : Int32)) := ⟨_, rfl⟩
  refine own_by (B := T28.setTop (mkF m 196 #[.val (.int i0), .val (.int p1), .val (.int p2), .val (.int p3), .val (.int p4), .val (.ref b11), .val (.ref b12), .val (.int (1 : Int32)), .val (.int (2 : Int32)), .val (.int (3 : Int32)), .val (.int (4 : Int32)), .val (.int (5 : Int32)), .val (.int p1), .val (.int rB), .val (.int p3), .unset, .unset] [(.int rD)])) (fun t k => ?_) ?_
  ·
    show Steps p.tables e below (T28.setTop (mkF m 183 #[.val (.int i0), .val (.int p1), .val (.int p2), .val (.int p3), .val (.int p4), .val (.ref b11), .val (.ref b12), .val (.int (1 : Int32)), .val (.int (2 : Int32)), .val (.int (3 : Int32)), .val (.int (4 : Int32)), .val (.int (5 : Int32)), .val (.int p1), .val (.int rB), .val (.int p3), .unset, .unset] [(.int rB)])) t
    by_cases hm33 : rB = (0 : Int32)
    ·
      rw [if_pos hm33] at hrD
      refine XS.ifNo X28.here hx rfl (hb hby at_183) rfl ((if0 _ _).trans (teq hm33).2) ?_
      show Steps p.tables e below (T28.setTop (mkF m 186 #[.val (.int i0), .val (.int p1), .val (.int p2), .val (.int p3), .val (.int p4), .val (.ref b11), .val (.ref b12), .val (.int (1 : Int32)), .val (.int (2 : Int32)), .val (.int (3 : Int32)), .val (.int (4 : Int32)), .val (.int (5 : Int32)), .val (.int p1), .val (.int rB), .val (.int p3), .unset, .unset] [])) t
      show Steps p.tables e below (T28.setTop (mkF m 186 #[.val (.int i0), .val (.int p1), .val (.int p2), .val (.int p3), .val (.int p4), .val (.ref b11), .val (.ref b12), .val (.int (1 : Int32)), .val (.int (2 : Int32)), .val (.int (3 : Int32)), .val (.int (4 : Int32)), .val (.int (5 : Int32)), .val (.int p1), .val (.int rB), .val (.int p3), .unset, .unset] [])) t
      refine XS.iload X28.here hx rfl (hb hby at_186) rfl ?_
      show Steps p.tables e below (T28.setTop (mkF m 188 #[.val (.int i0), .val (.int p1), .val (.int p2), .val (.int p3), .val (.int p4), .val (.ref b11), .val (.ref b12), .val (.int (1 : Int32)), .val (.int (2 : Int32)), .val (.int (3 : Int32)), .val (.int (4 : Int32)), .val (.int (5 : Int32)), .val (.int p1), .val (.int rB), .val (.int p3), .unset, .unset] [(.int p3)])) t
      by_cases hm34 : p3 = (0 : Int32)
      ·
        rw [if_pos hm34] at hrD
        refine XS.ifYes X28.here hx rfl (pc0 := 188) (pc' := 195) rfl (hb hby at_188) rfl ((if0 _ _).trans (teq hm34).1) (by decide) (by decide) ?_
        show Steps p.tables e below (T28.setTop (mkF m 195 #[.val (.int i0), .val (.int p1), .val (.int p2), .val (.int p3), .val (.int p4), .val (.ref b11), .val (.ref b12), .val (.int (1 : Int32)), .val (.int (2 : Int32)), .val (.int (3 : Int32)), .val (.int (4 : Int32)), .val (.int (5 : Int32)), .val (.int p1), .val (.int rB), .val (.int p3), .unset, .unset] [])) t
        show Steps p.tables e below (T28.setTop (mkF m 195 #[.val (.int i0), .val (.int p1), .val (.int p2), .val (.int p3), .val (.int p4), .val (.ref b11), .val (.ref b12), .val (.int (1 : Int32)), .val (.int (2 : Int32)), .val (.int (3 : Int32)), .val (.int (4 : Int32)), .val (.int (5 : Int32)), .val (.int p1), .val (.int rB), .val (.int p3), .unset, .unset] [])) t
        refine XS.iconst X28.here hx rfl (hb hby at_195) ?_
        show Steps p.tables e below (T28.setTop (mkF m 196 #[.val (.int i0), .val (.int p1), .val (.int p2), .val (.int p3), .val (.int p4), .val (.ref b11), .val (.ref b12), .val (.int (1 : Int32)), .val (.int (2 : Int32)), .val (.int (3 : Int32)), .val (.int (4 : Int32)), .val (.int (5 : Int32)), .val (.int p1), .val (.int rB), .val (.int p3), .unset, .unset] [(.int (0 : Int32))])) t
        subst hrD
        exact k
      ·
        rw [if_neg hm34] at hrD
        refine XS.ifNo X28.here hx rfl (hb hby at_188) rfl ((if0 _ _).trans (feq hm34).1) ?_
        show Steps p.tables e below (T28.setTop (mkF m 191 #[.val (.int i0), .val (.int p1), .val (.int p2), .val (.int p3), .val (.int p4), .val (.ref b11), .val (.ref b12), .val (.int (1 : Int32)), .val (.int (2 : Int32)), .val (.int (3 : Int32)), .val (.int (4 : Int32)), .val (.int (5 : Int32)), .val (.int p1), .val (.int rB), .val (.int p3), .unset, .unset] [])) t
        show Steps p.tables e below (T28.setTop (mkF m 191 #[.val (.int i0), .val (.int p1), .val (.int p2), .val (.int p3), .val (.int p4), .val (.ref b11), .val (.ref b12), .val (.int (1 : Int32)), .val (.int (2 : Int32)), .val (.int (3 : Int32)), .val (.int (4 : Int32)), .val (.int (5 : Int32)), .val (.int p1), .val (.int rB), .val (.int p3), .unset, .unset] [])) t
        refine XS.iconst X28.here hx rfl (hb hby at_191) ?_
        show Steps p.tables e below (T28.setTop (mkF m 192 #[.val (.int i0), .val (.int p1), .val (.int p2), .val (.int p3), .val (.int p4), .val (.ref b11), .val (.ref b12), .val (.int (1 : Int32)), .val (.int (2 : Int32)), .val (.int (3 : Int32)), .val (.int (4 : Int32)), .val (.int (5 : Int32)), .val (.int p1), .val (.int rB), .val (.int p3), .unset, .unset] [(.int (1 : Int32))])) t
        refine XS.goto X28.here hx rfl (pc0 := 192) (pc' := 196) rfl (hb hby at_192) (by decide) (by decide) ?_
        show Steps p.tables e below (T28.setTop (mkF m 196 #[.val (.int i0), .val (.int p1), .val (.int p2), .val (.int p3), .val (.int p4), .val (.ref b11), .val (.ref b12), .val (.int (1 : Int32)), .val (.int (2 : Int32)), .val (.int (3 : Int32)), .val (.int (4 : Int32)), .val (.int (5 : Int32)), .val (.int p1), .val (.int rB), .val (.int p3), .unset, .unset] [(.int (1 : Int32))])) t
        subst hrD
        exact k
    ·
      rw [if_neg hm33] at hrD
      refine XS.ifYes X28.here hx rfl (pc0 := 183) (pc' := 191) rfl (hb hby at_183) rfl ((if0 _ _).trans (feq hm33).2) (by decide) (by decide) ?_
      show Steps p.tables e below (T28.setTop (mkF m 191 #[.val (.int i0), .val (.int p1), .val (.int p2), .val (.int p3), .val (.int p4), .val (.ref b11), .val (.ref b12), .val (.int (1 : Int32)), .val (.int (2 : Int32)), .val (.int (3 : Int32)), .val (.int (4 : Int32)), .val (.int (5 : Int32)), .val (.int p1), .val (.int rB), .val (.int p3), .unset, .unset] [])) t
      show Steps p.tables e below (T28.setTop (mkF m 191 #[.val (.int i0), .val (.int p1), .val (.int p2), .val (.int p3), .val (.int p4), .val (.ref b11), .val (.ref b12), .val (.int (1 : Int32)), .val (.int (2 : Int32)), .val (.int (3 : Int32)), .val (.int (4 : Int32)), .val (.int (5 : Int32)), .val (.int p1), .val (.int rB), .val (.int p3), .unset, .unset] [])) t
      refine XS.iconst X28.here hx rfl (hb hby at_191) ?_
      show Steps p.tables e below (T28.setTop (mkF m 192 #[.val (.int i0), .val (.int p1), .val (.int p2), .val (.int p3), .val (.int p4), .val (.ref b11), .val (.ref b12), .val (.int (1 : Int32)), .val (.int (2 : Int32)), .val (.int (3 : Int32)), .val (.int (4 : Int32)), .val (.int (5 : Int32)), .val (.int p1), .val (.int rB), .val (.int p3), .unset, .unset] [(.int (1 : Int32))])) t
      refine XS.goto X28.here hx rfl (pc0 := 192) (pc' := 196) rfl (hb hby at_192) (by decide) (by decide) ?_
      show Steps p.tables e below (T28.setTop (mkF m 196 #[.val (.int i0), .val (.int p1), .val (.int p2), .val (.int p3), .val (.int p4), .val (.ref b11), .val (.ref b12), .val (.int (1 : Int32)), .val (.int (2 : Int32)), .val (.int (3 : Int32)), .val (.int (4 : Int32)), .val (.int (5 : Int32)), .val (.int p1), .val (.int rB), .val (.int p3), .unset, .unset] [(.int (1 : Int32))])) t
      subst hrD
      exact k
  refine own_by (B := T28.setTop (mkF m 198 #[.val (.int i0), .val (.int p1), .val (.int p2), .val (.int p3), .val (.int p4), .val (.ref b11), .val (.ref b12), .val (.int (1 : Int32)), .val (.int (2 : Int32)), .val (.int (3 : Int32)), .val (.int (4 : Int32)), .val (.int (5 : Int32)), .val (.int p1), .val (.int rB), .val (.int p3), .val (.int rD), .unset] [])) (fun t k => XS.istore X28.here hx rfl (hb hby at_196) rfl (l' := #[.val (.int i0), .val (.int p1), .val (.int p2), .val (.int p3), .val (.int p4), .val (.ref b11), .val (.ref b12), .val (.int (1 : Int32)), .val (.int (2 : Int32)), .val (.int (3 : Int32)), .val (.int (4 : Int32)), .val (.int (5 : Int32)), .val (.int p1), .val (.int rB), .val (.int p3), .val (.int rD), .unset]) rfl k) ?_
  refine own_by (B := T28.setTop (mkF m 200 #[.val (.int i0), .val (.int p1), .val (.int p2), .val (.int p3), .val (.int p4), .val (.ref b11), .val (.ref b12), .val (.int (1 : Int32)), .val (.int (2 : Int32)), .val (.int (3 : Int32)), .val (.int (4 : Int32)), .val (.int (5 : Int32)), .val (.int p1), .val (.int rB), .val (.int p3), .val (.int rD), .unset] [(.int p4)])) (fun t k => XS.iload X28.here hx rfl (hb hby at_198) rfl k) ?_
  obtain ⟨rE, hrE⟩ : ∃ z : Int32, z = (if p4 = (0 : Int32) then (0 : Int32) else (if rD = (0 : Int32) then (0 : Int32) else (1 : Int32))) := ⟨_, rfl⟩
  refine own_by (B := T28.setTop (mkF m 213 #[.val (.int i0), .val (.int p1), .val (.int p2), .val (.int p3), .val (.int p4), .val (.ref b11), .val (.ref b12), .val (.int (1 : Int32)), .val (.int (2 : Int32)), .val (.int (3 : Int32)), .val (.int (4 : Int32)), .val (.int (5 : Int32)), .val (.int p1), .val (.int rB), .val (.int p3), .val (.int rD), .unset] [(.int rE)])) (fun t k => ?_) ?_
  ·
    show Steps p.tables e below (T28.setTop (mkF m 200 #[.val (.int i0), .val (.int p1), .val (.int p2), .val (.int p3), .val (.int p4), .val (.ref b11), .val (.ref b12), .val (.int (1 : Int32)), .val (.int (2 : Int32)), .val (.int (3 : Int32)), .val (.int (4 : Int32)), .val (.int (5 : Int32)), .val (.int p1), .val (.int rB), .val (.int p3), .val (.int rD), .unset] [(.int p4)])) t
    by_cases hm36 : p4 = (0 : Int32)
    ·
      rw [if_pos hm36] at hrE
      refine XS.ifYes X28.here hx rfl (pc0 := 200) (pc' := 212) rfl (hb hby at_200) rfl ((if0 _ _).trans (teq hm36).1) (by decide) (by decide) ?_
      show Steps p.tables e below (T28.setTop (mkF m 212 #[.val (.int i0), .val (.int p1), .val (.int p2), .val (.int p3), .val (.int p4), .val (.ref b11), .val (.ref b12), .val (.int (1 : Int32)), .val (.int (2 : Int32)), .val (.int (3 : Int32)), .val (.int (4 : Int32)), .val (.int (5 : Int32)), .val (.int p1), .val (.int rB), .val (.int p3), .val (.int rD), .unset] [])) t
      show Steps p.tables e below (T28.setTop (mkF m 212 #[.val (.int i0), .val (.int p1), .val (.int p2), .val (.int p3), .val (.int p4), .val (.ref b11), .val (.ref b12), .val (.int (1 : Int32)), .val (.int (2 : Int32)), .val (.int (3 : Int32)), .val (.int (4 : Int32)), .val (.int (5 : Int32)), .val (.int p1), .val (.int rB), .val (.int p3), .val (.int rD), .unset] [])) t
      refine XS.iconst X28.here hx rfl (hb hby at_212) ?_
      show Steps p.tables e below (T28.setTop (mkF m 213 #[.val (.int i0), .val (.int p1), .val (.int p2), .val (.int p3), .val (.int p4), .val (.ref b11), .val (.ref b12), .val (.int (1 : Int32)), .val (.int (2 : Int32)), .val (.int (3 : Int32)), .val (.int (4 : Int32)), .val (.int (5 : Int32)), .val (.int p1), .val (.int rB), .val (.int p3), .val (.int rD), .unset] [(.int (0 : Int32))])) t
      subst hrE
      exact k
    ·
      rw [if_neg hm36] at hrE
      refine XS.ifNo X28.here hx rfl (hb hby at_200) rfl ((if0 _ _).trans (feq hm36).1) ?_
      show Steps p.tables e below (T28.setTop (mkF m 203 #[.val (.int i0), .val (.int p1), .val (.int p2), .val (.int p3), .val (.int p4), .val (.ref b11), .val (.ref b12), .val (.int (1 : Int32)), .val (.int (2 : Int32)), .val (.int (3 : Int32)), .val (.int (4 : Int32)), .val (.int (5 : Int32)), .val (.int p1), .val (.int rB), .val (.int p3), .val (.int rD), .unset] [])) t
      show Steps p.tables e below (T28.setTop (mkF m 203 #[.val (.int i0), .val (.int p1), .val (.int p2), .val (.int p3), .val (.int p4), .val (.ref b11), .val (.ref b12), .val (.int (1 : Int32)), .val (.int (2 : Int32)), .val (.int (3 : Int32)), .val (.int (4 : Int32)), .val (.int (5 : Int32)), .val (.int p1), .val (.int rB), .val (.int p3), .val (.int rD), .unset] [])) t
      refine XS.iload X28.here hx rfl (hb hby at_203) rfl ?_
      show Steps p.tables e below (T28.setTop (mkF m 205 #[.val (.int i0), .val (.int p1), .val (.int p2), .val (.int p3), .val (.int p4), .val (.ref b11), .val (.ref b12), .val (.int (1 : Int32)), .val (.int (2 : Int32)), .val (.int (3 : Int32)), .val (.int (4 : Int32)), .val (.int (5 : Int32)), .val (.int p1), .val (.int rB), .val (.int p3), .val (.int rD), .unset] [(.int rD)])) t
      by_cases hm37 : rD = (0 : Int32)
      ·
        rw [if_pos hm37] at hrE
        refine XS.ifYes X28.here hx rfl (pc0 := 205) (pc' := 212) rfl (hb hby at_205) rfl ((if0 _ _).trans (teq hm37).1) (by decide) (by decide) ?_
        show Steps p.tables e below (T28.setTop (mkF m 212 #[.val (.int i0), .val (.int p1), .val (.int p2), .val (.int p3), .val (.int p4), .val (.ref b11), .val (.ref b12), .val (.int (1 : Int32)), .val (.int (2 : Int32)), .val (.int (3 : Int32)), .val (.int (4 : Int32)), .val (.int (5 : Int32)), .val (.int p1), .val (.int rB), .val (.int p3), .val (.int rD), .unset] [])) t
        show Steps p.tables e below (T28.setTop (mkF m 212 #[.val (.int i0), .val (.int p1), .val (.int p2), .val (.int p3), .val (.int p4), .val (.ref b11), .val (.ref b12), .val (.int (1 : Int32)), .val (.int (2 : Int32)), .val (.int (3 : Int32)), .val (.int (4 : Int32)), .val (.int (5 : Int32)), .val (.int p1), .val (.int rB), .val (.int p3), .val (.int rD), .unset] [])) t
        refine XS.iconst X28.here hx rfl (hb hby at_212) ?_
        show Steps p.tables e below (T28.setTop (mkF m 213 #[.val (.int i0), .val (.int p1), .val (.int p2), .val (.int p3), .val (.int p4), .val (.ref b11), .val (.ref b12), .val (.int (1 : Int32)), .val (.int (2 : Int32)), .val (.int (3 : Int32)), .val (.int (4 : Int32)), .val (.int (5 : Int32)), .val (.int p1), .val (.int rB), .val (.int p3), .val (.int rD), .unset] [(.int (0 : Int32))])) t
        subst hrE
        exact k
      ·
        rw [if_neg hm37] at hrE
        refine XS.ifNo X28.here hx rfl (hb hby at_205) rfl ((if0 _ _).trans (feq hm37).1) ?_
        show Steps p.tables e below (T28.setTop (mkF m 208 #[.val (.int i0), .val (.int p1), .val (.int p2), .val (.int p3), .val (.int p4), .val (.ref b11), .val (.ref b12), .val (.int (1 : Int32)), .val (.int (2 : Int32)), .val (.int (3 : Int32)), .val (.int (4 : Int32)), .val (.int (5 : Int32)), .val (.int p1), .val (.int rB), .val (.int p3), .val (.int rD), .unset] [])) t
        show Steps p.tables e below (T28.setTop (mkF m 208 #[.val (.int i0), .val (.int p1), .val (.int p2), .val (.int p3), .val (.int p4), .val (.ref b11), .val (.ref b12), .val (.int (1 : Int32)), .val (.int (2 : Int32)), .val (.int (3 : Int32)), .val (.int (4 : Int32)), .val (.int (5 : Int32)), .val (.int p1), .val (.int rB), .val (.int p3), .val (.int rD), .unset] [])) t
        refine XS.iconst X28.here hx rfl (hb hby at_208) ?_
        show Steps p.tables e below (T28.setTop (mkF m 209 #[.val (.int i0), .val (.int p1), .val (.int p2), .val (.int p3), .val (.int p4), .val (.ref b11), .val (.ref b12), .val (.int (1 : Int32)), .val (.int (2 : Int32)), .val (.int (3 : Int32)), .val (.int (4 : Int32)), .val (.int (5 : Int32)), .val (.int p1), .val (.int rB), .val (.int p3), .val (.int rD), .unset] [(.int (1 : Int32))])) t
        refine XS.goto X28.here hx rfl (pc0 := 209) (pc' := 213) rfl (hb hby at_209) (by decide) (by decide) ?_
        show Steps p.tables e below (T28.setTop (mkF m 213 #[.val (.int i0), .val (.int p1), .val (.int p2), .val (.int p3), .val (.int p4), .val (.ref b11), .val (.ref b12), .val (.int (1 : Int32)), .val (.int (2 : Int32)), .val (.int (3 : Int32)), .val (.int (4 : Int32)), .val (.int (5 : Int32)), .val (.int p1), .val (.int rB), .val (.int p3), .val (.int rD), .unset] [(.int (1 : Int32))])) t
        subst hrE
        exact k
  refine own_by (B := T28.setTop (mkF m 215 #[.val (.int i0), .val (.int p1), .val (.int p2), .val (.int p3), .val (.int p4), .val (.ref b11), .val (.ref b12), .val (.int (1 : Int32)), .val (.int (2 : Int32)), .val (.int (3 : Int32)), .val (.int (4 : Int32)), .val (.int (5 : Int32)), .val (.int p1), .val (.int rB), .val (.int p3), .val (.int rD), .val (.int rE)] [])) (fun t k => XS.istore X28.here hx rfl (hb hby at_213) rfl (l' := #[.val (.int i0), .val (.int p1), .val (.int p2), .val (.int p3), .val (.int p4), .val (.ref b11), .val (.ref b12), .val (.int (1 : Int32)), .val (.int (2 : Int32)), .val (.int (3 : Int32)), .val (.int (4 : Int32)), .val (.int (5 : Int32)), .val (.int p1), .val (.int rB), .val (.int p3), .val (.int rD), .val (.int rE)]) rfl k) ?_
  have hb1 := own_bit i0 (1 : Int32) p1 hp1
  have hb2 := own_bit i0 (2 : Int32) p2 hp2
  have hb3 := own_bit i0 (4 : Int32) p3 hp3
  have hb4 := own_bit i0 (8 : Int32) p4 hp4
  have fin := own_fin p1 p2 p3 p4 rB rD rE hb1 hb2 hb3 hb4 hrB hrD hrE
  refine own_by (B := T28.setTop (mkF m 217 #[.val (.int i0), .val (.int p1), .val (.int p2), .val (.int p3), .val (.int p4), .val (.ref b11), .val (.ref b12), .val (.int (1 : Int32)), .val (.int (2 : Int32)), .val (.int (3 : Int32)), .val (.int (4 : Int32)), .val (.int (5 : Int32)), .val (.int p1), .val (.int rB), .val (.int p3), .val (.int rD), .val (.int rE)] [(.ref b12)])) (fun t k => XS.aload X28.here hx rfl (hb hby at_215) rfl rfl k) ?_
  refine own_by (B := T28.setTop (mkF m 218 #[.val (.int i0), .val (.int p1), .val (.int p2), .val (.int p3), .val (.int p4), .val (.ref b11), .val (.ref b12), .val (.int (1 : Int32)), .val (.int (2 : Int32)), .val (.int (3 : Int32)), .val (.int (4 : Int32)), .val (.int (5 : Int32)), .val (.int p1), .val (.int rB), .val (.int p3), .val (.int rD), .val (.int rE)] [(.int (0 : Int32)), (.ref b12)])) (fun t k => XS.iconst X28.here hx rfl (hb hby at_217) k) ?_
  obtain ⟨cq38, kq38, q38a, q38b, q38c⟩ := isOf hZ rfl E_b12
  obtain ⟨v38, _, ⟨T38, L38, c38, n38⟩, -, X38, ⟨Lc38, hQ38, l38, y38, z38⟩, st38⟩ := X28.virtualBack hx (y := (⟨"com/example/myriad_paths/myriadpaths/Conditions", "holds", "(I)Z"⟩ : MethodName)) (z := (⟨"com/example/myriad_paths/myriadpaths/Conditions", "holds", "(I)Z"⟩ : MethodName)) hown (mvT hZ (hw _ (List.mem_of_getElem? (i := 89) rfl))) (mvT hZ (hw _ (List.mem_of_getElem? (i := 90) rfl))) (notFace_of_selects (args := #[]) (mvT hZ (hw _ (List.mem_of_getElem? (i := 92) rfl)))) (mvT hZ (hw _ (List.mem_of_getElem? (i := 92) rfl))) (mvT hZ (hw _ (List.mem_of_getElem? (i := 91) rfl))) (by decide) (backOf (W := 0) (rm14 l Z a0 hw [] b12 (0 : Int32) ha13 (own_stA (own_up (own_up (own_up (own_up (own_up (fun _ => 0) ((1 : Int32)).toNatClampNeg (0 : Int32)) ((2 : Int32)).toNatClampNeg (1 : Int32)) ((3 : Int32)).toNatClampNeg (0 : Int32)) ((4 : Int32)).toNatClampNeg (2 : Int32)) ((5 : Int32)).toNatClampNeg (4 : Int32)) (own_stO (own_up (own_up (own_up (own_up (own_up (fun _ => 0) ((1 : Int32)).toNatClampNeg (0 : Int32)) ((2 : Int32)).toNatClampNeg (1 : Int32)) ((3 : Int32)).toNatClampNeg (0 : Int32)) ((4 : Int32)).toNatClampNeg (2 : Int32)) ((5 : Int32)).toNatClampNeg (4 : Int32)) (own_up (own_up (own_up (own_up (own_up (fun _ => 0) ((1 : Int32)).toNatClampNeg (-1 : Int32)) ((2 : Int32)).toNatClampNeg (-1 : Int32)) ((3 : Int32)).toNatClampNeg (-1 : Int32)) ((4 : Int32)).toNatClampNeg (3 : Int32)) ((5 : Int32)).toNatClampNeg (-1 : Int32)) (own_stA (own_up (own_up (own_up (own_up (own_up (fun _ => 0) ((1 : Int32)).toNatClampNeg (0 : Int32)) ((2 : Int32)).toNatClampNeg (1 : Int32)) ((3 : Int32)).toNatClampNeg (0 : Int32)) ((4 : Int32)).toNatClampNeg (2 : Int32)) ((5 : Int32)).toNatClampNeg (4 : Int32)) (own_stA (own_up (own_up (own_up (own_up (own_up (fun _ => 0) ((1 : Int32)).toNatClampNeg (0 : Int32)) ((2 : Int32)).toNatClampNeg (1 : Int32)) ((3 : Int32)).toNatClampNeg (0 : Int32)) ((4 : Int32)).toNatClampNeg (2 : Int32)) ((5 : Int32)).toNatClampNeg (4 : Int32)) (own_stA (own_up (own_up (own_up (own_up (own_up (fun _ => 0) ((1 : Int32)).toNatClampNeg (0 : Int32)) ((2 : Int32)).toNatClampNeg (1 : Int32)) ((3 : Int32)).toNatClampNeg (0 : Int32)) ((4 : Int32)).toNatClampNeg (2 : Int32)) ((5 : Int32)).toNatClampNeg (4 : Int32)) (own_up (own_up (own_up (own_up (own_up (own_up (own_up (own_up (own_up (own_up (fun _ => 0) ((0 : Int32)).toNatClampNeg (nar .boolean (1 : Int32))) ((1 : Int32)).toNatClampNeg (nar .boolean (0 : Int32))) ((2 : Int32)).toNatClampNeg (nar .boolean (0 : Int32))) ((3 : Int32)).toNatClampNeg (nar .boolean (0 : Int32))) ((4 : Int32)).toNatClampNeg (nar .boolean (0 : Int32))) ((5 : Int32)).toNatClampNeg (nar .boolean (0 : Int32))) ((1 : Int32)).toNatClampNeg (nar .boolean p1)) ((2 : Int32)).toNatClampNeg (nar .boolean p2)) ((3 : Int32)).toNatClampNeg (nar .boolean p3)) ((5 : Int32)).toNatClampNeg (nar .boolean p4)) (1 : Int32)) (2 : Int32)) (3 : Int32)) (4 : Int32)) (5 : Int32)) T28.heap F_holds_b12 V_ha13 (by decide)) hZ (hw _ (List.mem_of_getElem? (i := 93) rfl)) (hw _ (List.mem_of_getElem? (i := 43) rfl)) (by decide) (by decide)) q38a q38c (g := (mkF m 218 #[.val (.int i0), .val (.int p1), .val (.int p2), .val (.int p3), .val (.int p4), .val (.ref b11), .val (.ref b12), .val (.int (1 : Int32)), .val (.int (2 : Int32)), .val (.int (3 : Int32)), .val (.int (4 : Int32)), .val (.int (5 : Int32)), .val (.int p1), .val (.int rB), .val (.int p3), .val (.int rD), .val (.int rE)] [(.int (0 : Int32)), (.ref b12)])) rfl (by rw [hml]; rfl) (Steps.refl _) (argsL := [(.int (0 : Int32))]) (rest := []) (lenOf pd_8 rfl) rfl (by show 2 * 0 + _ ≤ _; exact Nat.le_of_eq rfl) (hb hby at_218) (fun _ _ => ⟨rfl, rfl, (by decide : 7 + 0 ≤ _), (by decide : 203 + 0 ≤ _)⟩)
  dsimp only [Pt.U, Pt.locs, Pt.cells, Pt.slots] at X38 l38 y38 z38 st38 hQ38
  subst l38 y38 z38
  obtain ⟨rfl, rfl, e38⟩ := hQ38
  have NF := Fr.app NF (Fr.nil n0)
  refine own_by (B := T38.setTop (mkF m 221 #[.val (.int i0), .val (.int p1), .val (.int p2), .val (.int p3), .val (.int p4), .val (.ref b11), .val (.ref b12), .val (.int (1 : Int32)), .val (.int (2 : Int32)), .val (.int (3 : Int32)), .val (.int (4 : Int32)), .val (.int (5 : Int32)), .val (.int p1), .val (.int rB), .val (.int p3), .val (.int rD), .val (.int rE)] [(.int (f14_0 (own_stA (own_up (own_up (own_up (own_up (own_up (fun _ => 0) ((1 : Int32)).toNatClampNeg (0 : Int32)) ((2 : Int32)).toNatClampNeg (1 : Int32)) ((3 : Int32)).toNatClampNeg (0 : Int32)) ((4 : Int32)).toNatClampNeg (2 : Int32)) ((5 : Int32)).toNatClampNeg (4 : Int32)) (own_stO (own_up (own_up (own_up (own_up (own_up (fun _ => 0) ((1 : Int32)).toNatClampNeg (0 : Int32)) ((2 : Int32)).toNatClampNeg (1 : Int32)) ((3 : Int32)).toNatClampNeg (0 : Int32)) ((4 : Int32)).toNatClampNeg (2 : Int32)) ((5 : Int32)).toNatClampNeg (4 : Int32)) (own_up (own_up (own_up (own_up (own_up (fun _ => 0) ((1 : Int32)).toNatClampNeg (-1 : Int32)) ((2 : Int32)).toNatClampNeg (-1 : Int32)) ((3 : Int32)).toNatClampNeg (-1 : Int32)) ((4 : Int32)).toNatClampNeg (3 : Int32)) ((5 : Int32)).toNatClampNeg (-1 : Int32)) (own_stA (own_up (own_up (own_up (own_up (own_up (fun _ => 0) ((1 : Int32)).toNatClampNeg (0 : Int32)) ((2 : Int32)).toNatClampNeg (1 : Int32)) ((3 : Int32)).toNatClampNeg (0 : Int32)) ((4 : Int32)).toNatClampNeg (2 : Int32)) ((5 : Int32)).toNatClampNeg (4 : Int32)) (own_stA (own_up (own_up (own_up (own_up (own_up (fun _ => 0) ((1 : Int32)).toNatClampNeg (0 : Int32)) ((2 : Int32)).toNatClampNeg (1 : Int32)) ((3 : Int32)).toNatClampNeg (0 : Int32)) ((4 : Int32)).toNatClampNeg (2 : Int32)) ((5 : Int32)).toNatClampNeg (4 : Int32)) (own_stA (own_up (own_up (own_up (own_up (own_up (fun _ => 0) ((1 : Int32)).toNatClampNeg (0 : Int32)) ((2 : Int32)).toNatClampNeg (1 : Int32)) ((3 : Int32)).toNatClampNeg (0 : Int32)) ((4 : Int32)).toNatClampNeg (2 : Int32)) ((5 : Int32)).toNatClampNeg (4 : Int32)) (own_up (own_up (own_up (own_up (own_up (own_up (own_up (own_up (own_up (own_up (fun _ => 0) ((0 : Int32)).toNatClampNeg (nar .boolean (1 : Int32))) ((1 : Int32)).toNatClampNeg (nar .boolean (0 : Int32))) ((2 : Int32)).toNatClampNeg (nar .boolean (0 : Int32))) ((3 : Int32)).toNatClampNeg (nar .boolean (0 : Int32))) ((4 : Int32)).toNatClampNeg (nar .boolean (0 : Int32))) ((5 : Int32)).toNatClampNeg (nar .boolean (0 : Int32))) ((1 : Int32)).toNatClampNeg (nar .boolean p1)) ((2 : Int32)).toNatClampNeg (nar .boolean p2)) ((3 : Int32)).toNatClampNeg (nar .boolean p3)) ((5 : Int32)).toNatClampNeg (nar .boolean p4)) (1 : Int32)) (2 : Int32)) (3 : Int32)) (4 : Int32)) (5 : Int32)) (0 : Int32)))])) (fun t k => st38.trans k) ?_
  have hc39 : ¬ ((f14_0 (own_stA (own_up (own_up (own_up (own_up (own_up (fun _ => 0) ((1 : Int32)).toNatClampNeg (0 : Int32)) ((2 : Int32)).toNatClampNeg (1 : Int32)) ((3 : Int32)).toNatClampNeg (0 : Int32)) ((4 : Int32)).toNatClampNeg (2 : Int32)) ((5 : Int32)).toNatClampNeg (4 : Int32)) (own_stO (own_up (own_up (own_up (own_up (own_up (fun _ => 0) ((1 : Int32)).toNatClampNeg (0 : Int32)) ((2 : Int32)).toNatClampNeg (1 : Int32)) ((3 : Int32)).toNatClampNeg (0 : Int32)) ((4 : Int32)).toNatClampNeg (2 : Int32)) ((5 : Int32)).toNatClampNeg (4 : Int32)) (own_up (own_up (own_up (own_up (own_up (fun _ => 0) ((1 : Int32)).toNatClampNeg (-1 : Int32)) ((2 : Int32)).toNatClampNeg (-1 : Int32)) ((3 : Int32)).toNatClampNeg (-1 : Int32)) ((4 : Int32)).toNatClampNeg (3 : Int32)) ((5 : Int32)).toNatClampNeg (-1 : Int32)) (own_stA (own_up (own_up (own_up (own_up (own_up (fun _ => 0) ((1 : Int32)).toNatClampNeg (0 : Int32)) ((2 : Int32)).toNatClampNeg (1 : Int32)) ((3 : Int32)).toNatClampNeg (0 : Int32)) ((4 : Int32)).toNatClampNeg (2 : Int32)) ((5 : Int32)).toNatClampNeg (4 : Int32)) (own_stA (own_up (own_up (own_up (own_up (own_up (fun _ => 0) ((1 : Int32)).toNatClampNeg (0 : Int32)) ((2 : Int32)).toNatClampNeg (1 : Int32)) ((3 : Int32)).toNatClampNeg (0 : Int32)) ((4 : Int32)).toNatClampNeg (2 : Int32)) ((5 : Int32)).toNatClampNeg (4 : Int32)) (own_stA (own_up (own_up (own_up (own_up (own_up (fun _ => 0) ((1 : Int32)).toNatClampNeg (0 : Int32)) ((2 : Int32)).toNatClampNeg (1 : Int32)) ((3 : Int32)).toNatClampNeg (0 : Int32)) ((4 : Int32)).toNatClampNeg (2 : Int32)) ((5 : Int32)).toNatClampNeg (4 : Int32)) (own_up (own_up (own_up (own_up (own_up (own_up (own_up (own_up (own_up (own_up (fun _ => 0) ((0 : Int32)).toNatClampNeg (nar .boolean (1 : Int32))) ((1 : Int32)).toNatClampNeg (nar .boolean (0 : Int32))) ((2 : Int32)).toNatClampNeg (nar .boolean (0 : Int32))) ((3 : Int32)).toNatClampNeg (nar .boolean (0 : Int32))) ((4 : Int32)).toNatClampNeg (nar .boolean (0 : Int32))) ((5 : Int32)).toNatClampNeg (nar .boolean (0 : Int32))) ((1 : Int32)).toNatClampNeg (nar .boolean p1)) ((2 : Int32)).toNatClampNeg (nar .boolean p2)) ((3 : Int32)).toNatClampNeg (nar .boolean p3)) ((5 : Int32)).toNatClampNeg (nar .boolean p4)) (1 : Int32)) (2 : Int32)) (3 : Int32)) (4 : Int32)) (5 : Int32)) (0 : Int32)) = (0 : Int32)) := fin.1
  refine own_by (B := T38.setTop (mkF m 224 #[.val (.int i0), .val (.int p1), .val (.int p2), .val (.int p3), .val (.int p4), .val (.ref b11), .val (.ref b12), .val (.int (1 : Int32)), .val (.int (2 : Int32)), .val (.int (3 : Int32)), .val (.int (4 : Int32)), .val (.int (5 : Int32)), .val (.int p1), .val (.int rB), .val (.int p3), .val (.int rD), .val (.int rE)] [])) (fun t k => XS.ifNo X38.here hx rfl (hb hby at_221) rfl ((if0 _ _).trans (feq hc39).1) k) ?_
  refine own_by (B := T38.setTop (mkF m 226 #[.val (.int i0), .val (.int p1), .val (.int p2), .val (.int p3), .val (.int p4), .val (.ref b11), .val (.ref b12), .val (.int (1 : Int32)), .val (.int (2 : Int32)), .val (.int (3 : Int32)), .val (.int (4 : Int32)), .val (.int (5 : Int32)), .val (.int p1), .val (.int rB), .val (.int p3), .val (.int rD), .val (.int rE)] [(.ref b12)])) (fun t k => XS.aload X38.here hx rfl (hb hby at_224) rfl rfl k) ?_
  refine own_by (B := T38.setTop (mkF m 228 #[.val (.int i0), .val (.int p1), .val (.int p2), .val (.int p3), .val (.int p4), .val (.ref b11), .val (.ref b12), .val (.int (1 : Int32)), .val (.int (2 : Int32)), .val (.int (3 : Int32)), .val (.int (4 : Int32)), .val (.int (5 : Int32)), .val (.int p1), .val (.int rB), .val (.int p3), .val (.int rD), .val (.int rE)] [(.int (1 : Int32)), (.ref b12)])) (fun t k => XS.iload X38.here hx rfl (hb hby at_226) rfl k) ?_
  obtain ⟨cq40, kq40, q40a, q40b, q40c⟩ := isOf hZ e38 E_b12
  obtain ⟨v40, _, ⟨T40, L40, c40, n40⟩, -, X40, ⟨Lc40, hQ40, l40, y40, z40⟩, st40⟩ := X38.virtualBack hx (y := (⟨"com/example/myriad_paths/myriadpaths/Conditions", "holds", "(I)Z"⟩ : MethodName)) (z := (⟨"com/example/myriad_paths/myriadpaths/Conditions", "holds", "(I)Z"⟩ : MethodName)) hown (mvT hZ (hw _ (List.mem_of_getElem? (i := 89) rfl))) (mvT hZ (hw _ (List.mem_of_getElem? (i := 90) rfl))) (notFace_of_selects (args := #[]) (mvT hZ (hw _ (List.mem_of_getElem? (i := 92) rfl)))) (mvT hZ (hw _ (List.mem_of_getElem? (i := 92) rfl))) (mvT hZ (hw _ (List.mem_of_getElem? (i := 91) rfl))) (by decide) (backOf (W := 0) (rm14 l Z a0 hw [] b12 (1 : Int32) ha13 (own_stA (own_up (own_up (own_up (own_up (own_up (fun _ => 0) ((1 : Int32)).toNatClampNeg (0 : Int32)) ((2 : Int32)).toNatClampNeg (1 : Int32)) ((3 : Int32)).toNatClampNeg (0 : Int32)) ((4 : Int32)).toNatClampNeg (2 : Int32)) ((5 : Int32)).toNatClampNeg (4 : Int32)) (own_stO (own_up (own_up (own_up (own_up (own_up (fun _ => 0) ((1 : Int32)).toNatClampNeg (0 : Int32)) ((2 : Int32)).toNatClampNeg (1 : Int32)) ((3 : Int32)).toNatClampNeg (0 : Int32)) ((4 : Int32)).toNatClampNeg (2 : Int32)) ((5 : Int32)).toNatClampNeg (4 : Int32)) (own_up (own_up (own_up (own_up (own_up (fun _ => 0) ((1 : Int32)).toNatClampNeg (-1 : Int32)) ((2 : Int32)).toNatClampNeg (-1 : Int32)) ((3 : Int32)).toNatClampNeg (-1 : Int32)) ((4 : Int32)).toNatClampNeg (3 : Int32)) ((5 : Int32)).toNatClampNeg (-1 : Int32)) (own_stA (own_up (own_up (own_up (own_up (own_up (fun _ => 0) ((1 : Int32)).toNatClampNeg (0 : Int32)) ((2 : Int32)).toNatClampNeg (1 : Int32)) ((3 : Int32)).toNatClampNeg (0 : Int32)) ((4 : Int32)).toNatClampNeg (2 : Int32)) ((5 : Int32)).toNatClampNeg (4 : Int32)) (own_stA (own_up (own_up (own_up (own_up (own_up (fun _ => 0) ((1 : Int32)).toNatClampNeg (0 : Int32)) ((2 : Int32)).toNatClampNeg (1 : Int32)) ((3 : Int32)).toNatClampNeg (0 : Int32)) ((4 : Int32)).toNatClampNeg (2 : Int32)) ((5 : Int32)).toNatClampNeg (4 : Int32)) (own_stA (own_up (own_up (own_up (own_up (own_up (fun _ => 0) ((1 : Int32)).toNatClampNeg (0 : Int32)) ((2 : Int32)).toNatClampNeg (1 : Int32)) ((3 : Int32)).toNatClampNeg (0 : Int32)) ((4 : Int32)).toNatClampNeg (2 : Int32)) ((5 : Int32)).toNatClampNeg (4 : Int32)) (own_up (own_up (own_up (own_up (own_up (own_up (own_up (own_up (own_up (own_up (fun _ => 0) ((0 : Int32)).toNatClampNeg (nar .boolean (1 : Int32))) ((1 : Int32)).toNatClampNeg (nar .boolean (0 : Int32))) ((2 : Int32)).toNatClampNeg (nar .boolean (0 : Int32))) ((3 : Int32)).toNatClampNeg (nar .boolean (0 : Int32))) ((4 : Int32)).toNatClampNeg (nar .boolean (0 : Int32))) ((5 : Int32)).toNatClampNeg (nar .boolean (0 : Int32))) ((1 : Int32)).toNatClampNeg (nar .boolean p1)) ((2 : Int32)).toNatClampNeg (nar .boolean p2)) ((3 : Int32)).toNatClampNeg (nar .boolean p3)) ((5 : Int32)).toNatClampNeg (nar .boolean p4)) (1 : Int32)) (2 : Int32)) (3 : Int32)) (4 : Int32)) (5 : Int32)) T28.heap F_holds_b12 V_ha13 (by decide)) hZ (hw _ (List.mem_of_getElem? (i := 93) rfl)) (hw _ (List.mem_of_getElem? (i := 43) rfl)) (by decide) (by decide)) q40a q40c (g := (mkF m 228 #[.val (.int i0), .val (.int p1), .val (.int p2), .val (.int p3), .val (.int p4), .val (.ref b11), .val (.ref b12), .val (.int (1 : Int32)), .val (.int (2 : Int32)), .val (.int (3 : Int32)), .val (.int (4 : Int32)), .val (.int (5 : Int32)), .val (.int p1), .val (.int rB), .val (.int p3), .val (.int rD), .val (.int rE)] [(.int (1 : Int32)), (.ref b12)])) rfl (by rw [hml]; rfl) (Steps.refl _) (argsL := [(.int (1 : Int32))]) (rest := []) (lenOf pd_8 rfl) rfl (by show 2 * 0 + _ ≤ _; exact Nat.le_of_eq rfl) (hb hby at_228) (fun _ _ => ⟨rfl, e38, (by decide : 7 + 0 ≤ _), (by decide : 203 + 0 ≤ _)⟩)
  dsimp only [Pt.U, Pt.locs, Pt.cells, Pt.slots] at X40 l40 y40 z40 st40 hQ40
  subst l40 y40 z40
  obtain ⟨rfl, rfl, e40⟩ := hQ40
  have NF := Fr.app NF (Fr.nil n0)
  refine own_by (B := T40.setTop (mkF m 231 #[.val (.int i0), .val (.int p1), .val (.int p2), .val (.int p3), .val (.int p4), .val (.ref b11), .val (.ref b12), .val (.int (1 : Int32)), .val (.int (2 : Int32)), .val (.int (3 : Int32)), .val (.int (4 : Int32)), .val (.int (5 : Int32)), .val (.int p1), .val (.int rB), .val (.int p3), .val (.int rD), .val (.int rE)] [(.int (f14_0 (own_stA (own_up (own_up (own_up (own_up (own_up (fun _ => 0) ((1 : Int32)).toNatClampNeg (0 : Int32)) ((2 : Int32)).toNatClampNeg (1 : Int32)) ((3 : Int32)).toNatClampNeg (0 : Int32)) ((4 : Int32)).toNatClampNeg (2 : Int32)) ((5 : Int32)).toNatClampNeg (4 : Int32)) (own_stO (own_up (own_up (own_up (own_up (own_up (fun _ => 0) ((1 : Int32)).toNatClampNeg (0 : Int32)) ((2 : Int32)).toNatClampNeg (1 : Int32)) ((3 : Int32)).toNatClampNeg (0 : Int32)) ((4 : Int32)).toNatClampNeg (2 : Int32)) ((5 : Int32)).toNatClampNeg (4 : Int32)) (own_up (own_up (own_up (own_up (own_up (fun _ => 0) ((1 : Int32)).toNatClampNeg (-1 : Int32)) ((2 : Int32)).toNatClampNeg (-1 : Int32)) ((3 : Int32)).toNatClampNeg (-1 : Int32)) ((4 : Int32)).toNatClampNeg (3 : Int32)) ((5 : Int32)).toNatClampNeg (-1 : Int32)) (own_stA (own_up (own_up (own_up (own_up (own_up (fun _ => 0) ((1 : Int32)).toNatClampNeg (0 : Int32)) ((2 : Int32)).toNatClampNeg (1 : Int32)) ((3 : Int32)).toNatClampNeg (0 : Int32)) ((4 : Int32)).toNatClampNeg (2 : Int32)) ((5 : Int32)).toNatClampNeg (4 : Int32)) (own_stA (own_up (own_up (own_up (own_up (own_up (fun _ => 0) ((1 : Int32)).toNatClampNeg (0 : Int32)) ((2 : Int32)).toNatClampNeg (1 : Int32)) ((3 : Int32)).toNatClampNeg (0 : Int32)) ((4 : Int32)).toNatClampNeg (2 : Int32)) ((5 : Int32)).toNatClampNeg (4 : Int32)) (own_stA (own_up (own_up (own_up (own_up (own_up (fun _ => 0) ((1 : Int32)).toNatClampNeg (0 : Int32)) ((2 : Int32)).toNatClampNeg (1 : Int32)) ((3 : Int32)).toNatClampNeg (0 : Int32)) ((4 : Int32)).toNatClampNeg (2 : Int32)) ((5 : Int32)).toNatClampNeg (4 : Int32)) (own_up (own_up (own_up (own_up (own_up (own_up (own_up (own_up (own_up (own_up (fun _ => 0) ((0 : Int32)).toNatClampNeg (nar .boolean (1 : Int32))) ((1 : Int32)).toNatClampNeg (nar .boolean (0 : Int32))) ((2 : Int32)).toNatClampNeg (nar .boolean (0 : Int32))) ((3 : Int32)).toNatClampNeg (nar .boolean (0 : Int32))) ((4 : Int32)).toNatClampNeg (nar .boolean (0 : Int32))) ((5 : Int32)).toNatClampNeg (nar .boolean (0 : Int32))) ((1 : Int32)).toNatClampNeg (nar .boolean p1)) ((2 : Int32)).toNatClampNeg (nar .boolean p2)) ((3 : Int32)).toNatClampNeg (nar .boolean p3)) ((5 : Int32)).toNatClampNeg (nar .boolean p4)) (1 : Int32)) (2 : Int32)) (3 : Int32)) (4 : Int32)) (5 : Int32)) (1 : Int32)))])) (fun t k => st40.trans k) ?_
  refine own_by (B := T40.setTop (mkF m 233 #[.val (.int i0), .val (.int p1), .val (.int p2), .val (.int p3), .val (.int p4), .val (.ref b11), .val (.ref b12), .val (.int (1 : Int32)), .val (.int (2 : Int32)), .val (.int (3 : Int32)), .val (.int (4 : Int32)), .val (.int (5 : Int32)), .val (.int p1), .val (.int rB), .val (.int p3), .val (.int rD), .val (.int rE)] [(.int p1), (.int (f14_0 (own_stA (own_up (own_up (own_up (own_up (own_up (fun _ => 0) ((1 : Int32)).toNatClampNeg (0 : Int32)) ((2 : Int32)).toNatClampNeg (1 : Int32)) ((3 : Int32)).toNatClampNeg (0 : Int32)) ((4 : Int32)).toNatClampNeg (2 : Int32)) ((5 : Int32)).toNatClampNeg (4 : Int32)) (own_stO (own_up (own_up (own_up (own_up (own_up (fun _ => 0) ((1 : Int32)).toNatClampNeg (0 : Int32)) ((2 : Int32)).toNatClampNeg (1 : Int32)) ((3 : Int32)).toNatClampNeg (0 : Int32)) ((4 : Int32)).toNatClampNeg (2 : Int32)) ((5 : Int32)).toNatClampNeg (4 : Int32)) (own_up (own_up (own_up (own_up (own_up (fun _ => 0) ((1 : Int32)).toNatClampNeg (-1 : Int32)) ((2 : Int32)).toNatClampNeg (-1 : Int32)) ((3 : Int32)).toNatClampNeg (-1 : Int32)) ((4 : Int32)).toNatClampNeg (3 : Int32)) ((5 : Int32)).toNatClampNeg (-1 : Int32)) (own_stA (own_up (own_up (own_up (own_up (own_up (fun _ => 0) ((1 : Int32)).toNatClampNeg (0 : Int32)) ((2 : Int32)).toNatClampNeg (1 : Int32)) ((3 : Int32)).toNatClampNeg (0 : Int32)) ((4 : Int32)).toNatClampNeg (2 : Int32)) ((5 : Int32)).toNatClampNeg (4 : Int32)) (own_stA (own_up (own_up (own_up (own_up (own_up (fun _ => 0) ((1 : Int32)).toNatClampNeg (0 : Int32)) ((2 : Int32)).toNatClampNeg (1 : Int32)) ((3 : Int32)).toNatClampNeg (0 : Int32)) ((4 : Int32)).toNatClampNeg (2 : Int32)) ((5 : Int32)).toNatClampNeg (4 : Int32)) (own_stA (own_up (own_up (own_up (own_up (own_up (fun _ => 0) ((1 : Int32)).toNatClampNeg (0 : Int32)) ((2 : Int32)).toNatClampNeg (1 : Int32)) ((3 : Int32)).toNatClampNeg (0 : Int32)) ((4 : Int32)).toNatClampNeg (2 : Int32)) ((5 : Int32)).toNatClampNeg (4 : Int32)) (own_up (own_up (own_up (own_up (own_up (own_up (own_up (own_up (own_up (own_up (fun _ => 0) ((0 : Int32)).toNatClampNeg (nar .boolean (1 : Int32))) ((1 : Int32)).toNatClampNeg (nar .boolean (0 : Int32))) ((2 : Int32)).toNatClampNeg (nar .boolean (0 : Int32))) ((3 : Int32)).toNatClampNeg (nar .boolean (0 : Int32))) ((4 : Int32)).toNatClampNeg (nar .boolean (0 : Int32))) ((5 : Int32)).toNatClampNeg (nar .boolean (0 : Int32))) ((1 : Int32)).toNatClampNeg (nar .boolean p1)) ((2 : Int32)).toNatClampNeg (nar .boolean p2)) ((3 : Int32)).toNatClampNeg (nar .boolean p3)) ((5 : Int32)).toNatClampNeg (nar .boolean p4)) (1 : Int32)) (2 : Int32)) (3 : Int32)) (4 : Int32)) (5 : Int32)) (1 : Int32)))])) (fun t k => XS.iload X40.here hx rfl (hb hby at_231) rfl k) ?_
  have hc41 : (f14_0 (own_stA (own_up (own_up (own_up (own_up (own_up (fun _ => 0) ((1 : Int32)).toNatClampNeg (0 : Int32)) ((2 : Int32)).toNatClampNeg (1 : Int32)) ((3 : Int32)).toNatClampNeg (0 : Int32)) ((4 : Int32)).toNatClampNeg (2 : Int32)) ((5 : Int32)).toNatClampNeg (4 : Int32)) (own_stO (own_up (own_up (own_up (own_up (own_up (fun _ => 0) ((1 : Int32)).toNatClampNeg (0 : Int32)) ((2 : Int32)).toNatClampNeg (1 : Int32)) ((3 : Int32)).toNatClampNeg (0 : Int32)) ((4 : Int32)).toNatClampNeg (2 : Int32)) ((5 : Int32)).toNatClampNeg (4 : Int32)) (own_up (own_up (own_up (own_up (own_up (fun _ => 0) ((1 : Int32)).toNatClampNeg (-1 : Int32)) ((2 : Int32)).toNatClampNeg (-1 : Int32)) ((3 : Int32)).toNatClampNeg (-1 : Int32)) ((4 : Int32)).toNatClampNeg (3 : Int32)) ((5 : Int32)).toNatClampNeg (-1 : Int32)) (own_stA (own_up (own_up (own_up (own_up (own_up (fun _ => 0) ((1 : Int32)).toNatClampNeg (0 : Int32)) ((2 : Int32)).toNatClampNeg (1 : Int32)) ((3 : Int32)).toNatClampNeg (0 : Int32)) ((4 : Int32)).toNatClampNeg (2 : Int32)) ((5 : Int32)).toNatClampNeg (4 : Int32)) (own_stA (own_up (own_up (own_up (own_up (own_up (fun _ => 0) ((1 : Int32)).toNatClampNeg (0 : Int32)) ((2 : Int32)).toNatClampNeg (1 : Int32)) ((3 : Int32)).toNatClampNeg (0 : Int32)) ((4 : Int32)).toNatClampNeg (2 : Int32)) ((5 : Int32)).toNatClampNeg (4 : Int32)) (own_stA (own_up (own_up (own_up (own_up (own_up (fun _ => 0) ((1 : Int32)).toNatClampNeg (0 : Int32)) ((2 : Int32)).toNatClampNeg (1 : Int32)) ((3 : Int32)).toNatClampNeg (0 : Int32)) ((4 : Int32)).toNatClampNeg (2 : Int32)) ((5 : Int32)).toNatClampNeg (4 : Int32)) (own_up (own_up (own_up (own_up (own_up (own_up (own_up (own_up (own_up (own_up (fun _ => 0) ((0 : Int32)).toNatClampNeg (nar .boolean (1 : Int32))) ((1 : Int32)).toNatClampNeg (nar .boolean (0 : Int32))) ((2 : Int32)).toNatClampNeg (nar .boolean (0 : Int32))) ((3 : Int32)).toNatClampNeg (nar .boolean (0 : Int32))) ((4 : Int32)).toNatClampNeg (nar .boolean (0 : Int32))) ((5 : Int32)).toNatClampNeg (nar .boolean (0 : Int32))) ((1 : Int32)).toNatClampNeg (nar .boolean p1)) ((2 : Int32)).toNatClampNeg (nar .boolean p2)) ((3 : Int32)).toNatClampNeg (nar .boolean p3)) ((5 : Int32)).toNatClampNeg (nar .boolean p4)) (1 : Int32)) (2 : Int32)) (3 : Int32)) (4 : Int32)) (5 : Int32)) (1 : Int32)) = p1 := fin.2.1
  refine own_by (B := T40.setTop (mkF m 236 #[.val (.int i0), .val (.int p1), .val (.int p2), .val (.int p3), .val (.int p4), .val (.ref b11), .val (.ref b12), .val (.int (1 : Int32)), .val (.int (2 : Int32)), .val (.int (3 : Int32)), .val (.int (4 : Int32)), .val (.int (5 : Int32)), .val (.int p1), .val (.int rB), .val (.int p3), .val (.int rD), .val (.int rE)] [])) (fun t k => XS.icmpNo X40.here hx rfl (hb hby at_233) rfl (teq hc41).2 k) ?_
  refine own_by (B := T40.setTop (mkF m 238 #[.val (.int i0), .val (.int p1), .val (.int p2), .val (.int p3), .val (.int p4), .val (.ref b11), .val (.ref b12), .val (.int (1 : Int32)), .val (.int (2 : Int32)), .val (.int (3 : Int32)), .val (.int (4 : Int32)), .val (.int (5 : Int32)), .val (.int p1), .val (.int rB), .val (.int p3), .val (.int rD), .val (.int rE)] [(.ref b12)])) (fun t k => XS.aload X40.here hx rfl (hb hby at_236) rfl rfl k) ?_
  refine own_by (B := T40.setTop (mkF m 240 #[.val (.int i0), .val (.int p1), .val (.int p2), .val (.int p3), .val (.int p4), .val (.ref b11), .val (.ref b12), .val (.int (1 : Int32)), .val (.int (2 : Int32)), .val (.int (3 : Int32)), .val (.int (4 : Int32)), .val (.int (5 : Int32)), .val (.int p1), .val (.int rB), .val (.int p3), .val (.int rD), .val (.int rE)] [(.int (2 : Int32)), (.ref b12)])) (fun t k => XS.iload X40.here hx rfl (hb hby at_238) rfl k) ?_
  obtain ⟨cq42, kq42, q42a, q42b, q42c⟩ := isOf hZ e40 E_b12
  obtain ⟨v42, _, ⟨T42, L42, c42, n42⟩, -, X42, ⟨Lc42, hQ42, l42, y42, z42⟩, st42⟩ := X40.virtualBack hx (y := (⟨"com/example/myriad_paths/myriadpaths/Conditions", "holds", "(I)Z"⟩ : MethodName)) (z := (⟨"com/example/myriad_paths/myriadpaths/Conditions", "holds", "(I)Z"⟩ : MethodName)) hown (mvT hZ (hw _ (List.mem_of_getElem? (i := 89) rfl))) (mvT hZ (hw _ (List.mem_of_getElem? (i := 90) rfl))) (notFace_of_selects (args := #[]) (mvT hZ (hw _ (List.mem_of_getElem? (i := 92) rfl)))) (mvT hZ (hw _ (List.mem_of_getElem? (i := 92) rfl))) (mvT hZ (hw _ (List.mem_of_getElem? (i := 91) rfl))) (by decide) (backOf (W := 0) (rm14 l Z a0 hw [] b12 (2 : Int32) ha13 (own_stA (own_up (own_up (own_up (own_up (own_up (fun _ => 0) ((1 : Int32)).toNatClampNeg (0 : Int32)) ((2 : Int32)).toNatClampNeg (1 : Int32)) ((3 : Int32)).toNatClampNeg (0 : Int32)) ((4 : Int32)).toNatClampNeg (2 : Int32)) ((5 : Int32)).toNatClampNeg (4 : Int32)) (own_stO (own_up (own_up (own_up (own_up (own_up (fun _ => 0) ((1 : Int32)).toNatClampNeg (0 : Int32)) ((2 : Int32)).toNatClampNeg (1 : Int32)) ((3 : Int32)).toNatClampNeg (0 : Int32)) ((4 : Int32)).toNatClampNeg (2 : Int32)) ((5 : Int32)).toNatClampNeg (4 : Int32)) (own_up (own_up (own_up (own_up (own_up (fun _ => 0) ((1 : Int32)).toNatClampNeg (-1 : Int32)) ((2 : Int32)).toNatClampNeg (-1 : Int32)) ((3 : Int32)).toNatClampNeg (-1 : Int32)) ((4 : Int32)).toNatClampNeg (3 : Int32)) ((5 : Int32)).toNatClampNeg (-1 : Int32)) (own_stA (own_up (own_up (own_up (own_up (own_up (fun _ => 0) ((1 : Int32)).toNatClampNeg (0 : Int32)) ((2 : Int32)).toNatClampNeg (1 : Int32)) ((3 : Int32)).toNatClampNeg (0 : Int32)) ((4 : Int32)).toNatClampNeg (2 : Int32)) ((5 : Int32)).toNatClampNeg (4 : Int32)) (own_stA (own_up (own_up (own_up (own_up (own_up (fun _ => 0) ((1 : Int32)).toNatClampNeg (0 : Int32)) ((2 : Int32)).toNatClampNeg (1 : Int32)) ((3 : Int32)).toNatClampNeg (0 : Int32)) ((4 : Int32)).toNatClampNeg (2 : Int32)) ((5 : Int32)).toNatClampNeg (4 : Int32)) (own_stA (own_up (own_up (own_up (own_up (own_up (fun _ => 0) ((1 : Int32)).toNatClampNeg (0 : Int32)) ((2 : Int32)).toNatClampNeg (1 : Int32)) ((3 : Int32)).toNatClampNeg (0 : Int32)) ((4 : Int32)).toNatClampNeg (2 : Int32)) ((5 : Int32)).toNatClampNeg (4 : Int32)) (own_up (own_up (own_up (own_up (own_up (own_up (own_up (own_up (own_up (own_up (fun _ => 0) ((0 : Int32)).toNatClampNeg (nar .boolean (1 : Int32))) ((1 : Int32)).toNatClampNeg (nar .boolean (0 : Int32))) ((2 : Int32)).toNatClampNeg (nar .boolean (0 : Int32))) ((3 : Int32)).toNatClampNeg (nar .boolean (0 : Int32))) ((4 : Int32)).toNatClampNeg (nar .boolean (0 : Int32))) ((5 : Int32)).toNatClampNeg (nar .boolean (0 : Int32))) ((1 : Int32)).toNatClampNeg (nar .boolean p1)) ((2 : Int32)).toNatClampNeg (nar .boolean p2)) ((3 : Int32)).toNatClampNeg (nar .boolean p3)) ((5 : Int32)).toNatClampNeg (nar .boolean p4)) (1 : Int32)) (2 : Int32)) (3 : Int32)) (4 : Int32)) (5 : Int32)) T28.heap F_holds_b12 V_ha13 (by decide)) hZ (hw _ (List.mem_of_getElem? (i := 93) rfl)) (hw _ (List.mem_of_getElem? (i := 43) rfl)) (by decide) (by decide)) q42a q42c (g := (mkF m 240 #[.val (.int i0), .val (.int p1), .val (.int p2), .val (.int p3), .val (.int p4), .val (.ref b11), .val (.ref b12), .val (.int (1 : Int32)), .val (.int (2 : Int32)), .val (.int (3 : Int32)), .val (.int (4 : Int32)), .val (.int (5 : Int32)), .val (.int p1), .val (.int rB), .val (.int p3), .val (.int rD), .val (.int rE)] [(.int (2 : Int32)), (.ref b12)])) rfl (by rw [hml]; rfl) (Steps.refl _) (argsL := [(.int (2 : Int32))]) (rest := []) (lenOf pd_8 rfl) rfl (by show 2 * 0 + _ ≤ _; exact Nat.le_of_eq rfl) (hb hby at_240) (fun _ _ => ⟨rfl, e40, (by decide : 7 + 0 ≤ _), (by decide : 203 + 0 ≤ _)⟩)
  dsimp only [Pt.U, Pt.locs, Pt.cells, Pt.slots] at X42 l42 y42 z42 st42 hQ42
  subst l42 y42 z42
  obtain ⟨rfl, rfl, e42⟩ := hQ42
  have NF := Fr.app NF (Fr.nil n0)
  refine own_by (B := T42.setTop (mkF m 243 #[.val (.int i0), .val (.int p1), .val (.int p2), .val (.int p3), .val (.int p4), .val (.ref b11), .val (.ref b12), .val (.int (1 : Int32)), .val (.int (2 : Int32)), .val (.int (3 : Int32)), .val (.int (4 : Int32)), .val (.int (5 : Int32)), .val (.int p1), .val (.int rB), .val (.int p3), .val (.int rD), .val (.int rE)] [(.int (f14_0 (own_stA (own_up (own_up (own_up (own_up (own_up (fun _ => 0) ((1 : Int32)).toNatClampNeg (0 : Int32)) ((2 : Int32)).toNatClampNeg (1 : Int32)) ((3 : Int32)).toNatClampNeg (0 : Int32)) ((4 : Int32)).toNatClampNeg (2 : Int32)) ((5 : Int32)).toNatClampNeg (4 : Int32)) (own_stO (own_up (own_up (own_up (own_up (own_up (fun _ => 0) ((1 : Int32)).toNatClampNeg (0 : Int32)) ((2 : Int32)).toNatClampNeg (1 : Int32)) ((3 : Int32)).toNatClampNeg (0 : Int32)) ((4 : Int32)).toNatClampNeg (2 : Int32)) ((5 : Int32)).toNatClampNeg (4 : Int32)) (own_up (own_up (own_up (own_up (own_up (fun _ => 0) ((1 : Int32)).toNatClampNeg (-1 : Int32)) ((2 : Int32)).toNatClampNeg (-1 : Int32)) ((3 : Int32)).toNatClampNeg (-1 : Int32)) ((4 : Int32)).toNatClampNeg (3 : Int32)) ((5 : Int32)).toNatClampNeg (-1 : Int32)) (own_stA (own_up (own_up (own_up (own_up (own_up (fun _ => 0) ((1 : Int32)).toNatClampNeg (0 : Int32)) ((2 : Int32)).toNatClampNeg (1 : Int32)) ((3 : Int32)).toNatClampNeg (0 : Int32)) ((4 : Int32)).toNatClampNeg (2 : Int32)) ((5 : Int32)).toNatClampNeg (4 : Int32)) (own_stA (own_up (own_up (own_up (own_up (own_up (fun _ => 0) ((1 : Int32)).toNatClampNeg (0 : Int32)) ((2 : Int32)).toNatClampNeg (1 : Int32)) ((3 : Int32)).toNatClampNeg (0 : Int32)) ((4 : Int32)).toNatClampNeg (2 : Int32)) ((5 : Int32)).toNatClampNeg (4 : Int32)) (own_stA (own_up (own_up (own_up (own_up (own_up (fun _ => 0) ((1 : Int32)).toNatClampNeg (0 : Int32)) ((2 : Int32)).toNatClampNeg (1 : Int32)) ((3 : Int32)).toNatClampNeg (0 : Int32)) ((4 : Int32)).toNatClampNeg (2 : Int32)) ((5 : Int32)).toNatClampNeg (4 : Int32)) (own_up (own_up (own_up (own_up (own_up (own_up (own_up (own_up (own_up (own_up (fun _ => 0) ((0 : Int32)).toNatClampNeg (nar .boolean (1 : Int32))) ((1 : Int32)).toNatClampNeg (nar .boolean (0 : Int32))) ((2 : Int32)).toNatClampNeg (nar .boolean (0 : Int32))) ((3 : Int32)).toNatClampNeg (nar .boolean (0 : Int32))) ((4 : Int32)).toNatClampNeg (nar .boolean (0 : Int32))) ((5 : Int32)).toNatClampNeg (nar .boolean (0 : Int32))) ((1 : Int32)).toNatClampNeg (nar .boolean p1)) ((2 : Int32)).toNatClampNeg (nar .boolean p2)) ((3 : Int32)).toNatClampNeg (nar .boolean p3)) ((5 : Int32)).toNatClampNeg (nar .boolean p4)) (1 : Int32)) (2 : Int32)) (3 : Int32)) (4 : Int32)) (5 : Int32)) (2 : Int32)))])) (fun t k => st42.trans k) ?_
  refine own_by (B := T42.setTop (mkF m 245 #[.val (.int i0), .val (.int p1), .val (.int p2), .val (.int p3), .val (.int p4), .val (.ref b11), .val (.ref b12), .val (.int (1 : Int32)), .val (.int (2 : Int32)), .val (.int (3 : Int32)), .val (.int (4 : Int32)), .val (.int (5 : Int32)), .val (.int p1), .val (.int rB), .val (.int p3), .val (.int rD), .val (.int rE)] [(.int rB), (.int (f14_0 (own_stA (own_up (own_up (own_up (own_up (own_up (fun _ => 0) ((1 : Int32)).toNatClampNeg (0 : Int32)) ((2 : Int32)).toNatClampNeg (1 : Int32)) ((3 : Int32)).toNatClampNeg (0 : Int32)) ((4 : Int32)).toNatClampNeg (2 : Int32)) ((5 : Int32)).toNatClampNeg (4 : Int32)) (own_stO (own_up (own_up (own_up (own_up (own_up (fun _ => 0) ((1 : Int32)).toNatClampNeg (0 : Int32)) ((2 : Int32)).toNatClampNeg (1 : Int32)) ((3 : Int32)).toNatClampNeg (0 : Int32)) ((4 : Int32)).toNatClampNeg (2 : Int32)) ((5 : Int32)).toNatClampNeg (4 : Int32)) (own_up (own_up (own_up (own_up (own_up (fun _ => 0) ((1 : Int32)).toNatClampNeg (-1 : Int32)) ((2 : Int32)).toNatClampNeg (-1 : Int32)) ((3 : Int32)).toNatClampNeg (-1 : Int32)) ((4 : Int32)).toNatClampNeg (3 : Int32)) ((5 : Int32)).toNatClampNeg (-1 : Int32)) (own_stA (own_up (own_up (own_up (own_up (own_up (fun _ => 0) ((1 : Int32)).toNatClampNeg (0 : Int32)) ((2 : Int32)).toNatClampNeg (1 : Int32)) ((3 : Int32)).toNatClampNeg (0 : Int32)) ((4 : Int32)).toNatClampNeg (2 : Int32)) ((5 : Int32)).toNatClampNeg (4 : Int32)) (own_stA (own_up (own_up (own_up (own_up (own_up (fun _ => 0) ((1 : Int32)).toNatClampNeg (0 : Int32)) ((2 : Int32)).toNatClampNeg (1 : Int32)) ((3 : Int32)).toNatClampNeg (0 : Int32)) ((4 : Int32)).toNatClampNeg (2 : Int32)) ((5 : Int32)).toNatClampNeg (4 : Int32)) (own_stA (own_up (own_up (own_up (own_up (own_up (fun _ => 0) ((1 : Int32)).toNatClampNeg (0 : Int32)) ((2 : Int32)).toNatClampNeg (1 : Int32)) ((3 : Int32)).toNatClampNeg (0 : Int32)) ((4 : Int32)).toNatClampNeg (2 : Int32)) ((5 : Int32)).toNatClampNeg (4 : Int32)) (own_up (own_up (own_up (own_up (own_up (own_up (own_up (own_up (own_up (own_up (fun _ => 0) ((0 : Int32)).toNatClampNeg (nar .boolean (1 : Int32))) ((1 : Int32)).toNatClampNeg (nar .boolean (0 : Int32))) ((2 : Int32)).toNatClampNeg (nar .boolean (0 : Int32))) ((3 : Int32)).toNatClampNeg (nar .boolean (0 : Int32))) ((4 : Int32)).toNatClampNeg (nar .boolean (0 : Int32))) ((5 : Int32)).toNatClampNeg (nar .boolean (0 : Int32))) ((1 : Int32)).toNatClampNeg (nar .boolean p1)) ((2 : Int32)).toNatClampNeg (nar .boolean p2)) ((3 : Int32)).toNatClampNeg (nar .boolean p3)) ((5 : Int32)).toNatClampNeg (nar .boolean p4)) (1 : Int32)) (2 : Int32)) (3 : Int32)) (4 : Int32)) (5 : Int32)) (2 : Int32)))])) (fun t k => XS.iload X42.here hx rfl (hb hby at_243) rfl k) ?_
  have hc43 : (f14_0 (own_stA (own_up (own_up (own_up (own_up (own_up (fun _ => 0) ((1 : Int32)).toNatClampNeg (0 : Int32)) ((2 : Int32)).toNatClampNeg (1 : Int32)) ((3 : Int32)).toNatClampNeg (0 : Int32)) ((4 : Int32)).toNatClampNeg (2 : Int32)) ((5 : Int32)).toNatClampNeg (4 : Int32)) (own_stO (own_up (own_up (own_up (own_up (own_up (fun _ => 0) ((1 : Int32)).toNatClampNeg (0 : Int32)) ((2 : Int32)).toNatClampNeg (1 : Int32)) ((3 : Int32)).toNatClampNeg (0 : Int32)) ((4 : Int32)).toNatClampNeg (2 : Int32)) ((5 : Int32)).toNatClampNeg (4 : Int32)) (own_up (own_up (own_up (own_up (own_up (fun _ => 0) ((1 : Int32)).toNatClampNeg (-1 : Int32)) ((2 : Int32)).toNatClampNeg (-1 : Int32)) ((3 : Int32)).toNatClampNeg (-1 : Int32)) ((4 : Int32)).toNatClampNeg (3 : Int32)) ((5 : Int32)).toNatClampNeg (-1 : Int32)) (own_stA (own_up (own_up (own_up (own_up (own_up (fun _ => 0) ((1 : Int32)).toNatClampNeg (0 : Int32)) ((2 : Int32)).toNatClampNeg (1 : Int32)) ((3 : Int32)).toNatClampNeg (0 : Int32)) ((4 : Int32)).toNatClampNeg (2 : Int32)) ((5 : Int32)).toNatClampNeg (4 : Int32)) (own_stA (own_up (own_up (own_up (own_up (own_up (fun _ => 0) ((1 : Int32)).toNatClampNeg (0 : Int32)) ((2 : Int32)).toNatClampNeg (1 : Int32)) ((3 : Int32)).toNatClampNeg (0 : Int32)) ((4 : Int32)).toNatClampNeg (2 : Int32)) ((5 : Int32)).toNatClampNeg (4 : Int32)) (own_stA (own_up (own_up (own_up (own_up (own_up (fun _ => 0) ((1 : Int32)).toNatClampNeg (0 : Int32)) ((2 : Int32)).toNatClampNeg (1 : Int32)) ((3 : Int32)).toNatClampNeg (0 : Int32)) ((4 : Int32)).toNatClampNeg (2 : Int32)) ((5 : Int32)).toNatClampNeg (4 : Int32)) (own_up (own_up (own_up (own_up (own_up (own_up (own_up (own_up (own_up (own_up (fun _ => 0) ((0 : Int32)).toNatClampNeg (nar .boolean (1 : Int32))) ((1 : Int32)).toNatClampNeg (nar .boolean (0 : Int32))) ((2 : Int32)).toNatClampNeg (nar .boolean (0 : Int32))) ((3 : Int32)).toNatClampNeg (nar .boolean (0 : Int32))) ((4 : Int32)).toNatClampNeg (nar .boolean (0 : Int32))) ((5 : Int32)).toNatClampNeg (nar .boolean (0 : Int32))) ((1 : Int32)).toNatClampNeg (nar .boolean p1)) ((2 : Int32)).toNatClampNeg (nar .boolean p2)) ((3 : Int32)).toNatClampNeg (nar .boolean p3)) ((5 : Int32)).toNatClampNeg (nar .boolean p4)) (1 : Int32)) (2 : Int32)) (3 : Int32)) (4 : Int32)) (5 : Int32)) (2 : Int32)) = rB := fin.2.2.1
  refine own_by (B := T42.setTop (mkF m 248 #[.val (.int i0), .val (.int p1), .val (.int p2), .val (.int p3), .val (.int p4), .val (.ref b11), .val (.ref b12), .val (.int (1 : Int32)), .val (.int (2 : Int32)), .val (.int (3 : Int32)), .val (.int (4 : Int32)), .val (.int (5 : Int32)), .val (.int p1), .val (.int rB), .val (.int p3), .val (.int rD), .val (.int rE)] [])) (fun t k => XS.icmpNo X42.here hx rfl (hb hby at_245) rfl (teq hc43).2 k) ?_
  refine own_by (B := T42.setTop (mkF m 250 #[.val (.int i0), .val (.int p1), .val (.int p2), .val (.int p3), .val (.int p4), .val (.ref b11), .val (.ref b12), .val (.int (1 : Int32)), .val (.int (2 : Int32)), .val (.int (3 : Int32)), .val (.int (4 : Int32)), .val (.int (5 : Int32)), .val (.int p1), .val (.int rB), .val (.int p3), .val (.int rD), .val (.int rE)] [(.ref b12)])) (fun t k => XS.aload X42.here hx rfl (hb hby at_248) rfl rfl k) ?_
  refine own_by (B := T42.setTop (mkF m 252 #[.val (.int i0), .val (.int p1), .val (.int p2), .val (.int p3), .val (.int p4), .val (.ref b11), .val (.ref b12), .val (.int (1 : Int32)), .val (.int (2 : Int32)), .val (.int (3 : Int32)), .val (.int (4 : Int32)), .val (.int (5 : Int32)), .val (.int p1), .val (.int rB), .val (.int p3), .val (.int rD), .val (.int rE)] [(.int (3 : Int32)), (.ref b12)])) (fun t k => XS.iload X42.here hx rfl (hb hby at_250) rfl k) ?_
  obtain ⟨cq44, kq44, q44a, q44b, q44c⟩ := isOf hZ e42 E_b12
  obtain ⟨v44, _, ⟨T44, L44, c44, n44⟩, -, X44, ⟨Lc44, hQ44, l44, y44, z44⟩, st44⟩ := X42.virtualBack hx (y := (⟨"com/example/myriad_paths/myriadpaths/Conditions", "holds", "(I)Z"⟩ : MethodName)) (z := (⟨"com/example/myriad_paths/myriadpaths/Conditions", "holds", "(I)Z"⟩ : MethodName)) hown (mvT hZ (hw _ (List.mem_of_getElem? (i := 89) rfl))) (mvT hZ (hw _ (List.mem_of_getElem? (i := 90) rfl))) (notFace_of_selects (args := #[]) (mvT hZ (hw _ (List.mem_of_getElem? (i := 92) rfl)))) (mvT hZ (hw _ (List.mem_of_getElem? (i := 92) rfl))) (mvT hZ (hw _ (List.mem_of_getElem? (i := 91) rfl))) (by decide) (backOf (W := 0) (rm14 l Z a0 hw [] b12 (3 : Int32) ha13 (own_stA (own_up (own_up (own_up (own_up (own_up (fun _ => 0) ((1 : Int32)).toNatClampNeg (0 : Int32)) ((2 : Int32)).toNatClampNeg (1 : Int32)) ((3 : Int32)).toNatClampNeg (0 : Int32)) ((4 : Int32)).toNatClampNeg (2 : Int32)) ((5 : Int32)).toNatClampNeg (4 : Int32)) (own_stO (own_up (own_up (own_up (own_up (own_up (fun _ => 0) ((1 : Int32)).toNatClampNeg (0 : Int32)) ((2 : Int32)).toNatClampNeg (1 : Int32)) ((3 : Int32)).toNatClampNeg (0 : Int32)) ((4 : Int32)).toNatClampNeg (2 : Int32)) ((5 : Int32)).toNatClampNeg (4 : Int32)) (own_up (own_up (own_up (own_up (own_up (fun _ => 0) ((1 : Int32)).toNatClampNeg (-1 : Int32)) ((2 : Int32)).toNatClampNeg (-1 : Int32)) ((3 : Int32)).toNatClampNeg (-1 : Int32)) ((4 : Int32)).toNatClampNeg (3 : Int32)) ((5 : Int32)).toNatClampNeg (-1 : Int32)) (own_stA (own_up (own_up (own_up (own_up (own_up (fun _ => 0) ((1 : Int32)).toNatClampNeg (0 : Int32)) ((2 : Int32)).toNatClampNeg (1 : Int32)) ((3 : Int32)).toNatClampNeg (0 : Int32)) ((4 : Int32)).toNatClampNeg (2 : Int32)) ((5 : Int32)).toNatClampNeg (4 : Int32)) (own_stA (own_up (own_up (own_up (own_up (own_up (fun _ => 0) ((1 : Int32)).toNatClampNeg (0 : Int32)) ((2 : Int32)).toNatClampNeg (1 : Int32)) ((3 : Int32)).toNatClampNeg (0 : Int32)) ((4 : Int32)).toNatClampNeg (2 : Int32)) ((5 : Int32)).toNatClampNeg (4 : Int32)) (own_stA (own_up (own_up (own_up (own_up (own_up (fun _ => 0) ((1 : Int32)).toNatClampNeg (0 : Int32)) ((2 : Int32)).toNatClampNeg (1 : Int32)) ((3 : Int32)).toNatClampNeg (0 : Int32)) ((4 : Int32)).toNatClampNeg (2 : Int32)) ((5 : Int32)).toNatClampNeg (4 : Int32)) (own_up (own_up (own_up (own_up (own_up (own_up (own_up (own_up (own_up (own_up (fun _ => 0) ((0 : Int32)).toNatClampNeg (nar .boolean (1 : Int32))) ((1 : Int32)).toNatClampNeg (nar .boolean (0 : Int32))) ((2 : Int32)).toNatClampNeg (nar .boolean (0 : Int32))) ((3 : Int32)).toNatClampNeg (nar .boolean (0 : Int32))) ((4 : Int32)).toNatClampNeg (nar .boolean (0 : Int32))) ((5 : Int32)).toNatClampNeg (nar .boolean (0 : Int32))) ((1 : Int32)).toNatClampNeg (nar .boolean p1)) ((2 : Int32)).toNatClampNeg (nar .boolean p2)) ((3 : Int32)).toNatClampNeg (nar .boolean p3)) ((5 : Int32)).toNatClampNeg (nar .boolean p4)) (1 : Int32)) (2 : Int32)) (3 : Int32)) (4 : Int32)) (5 : Int32)) T28.heap F_holds_b12 V_ha13 (by decide)) hZ (hw _ (List.mem_of_getElem? (i := 93) rfl)) (hw _ (List.mem_of_getElem? (i := 43) rfl)) (by decide) (by decide)) q44a q44c (g := (mkF m 252 #[.val (.int i0), .val (.int p1), .val (.int p2), .val (.int p3), .val (.int p4), .val (.ref b11), .val (.ref b12), .val (.int (1 : Int32)), .val (.int (2 : Int32)), .val (.int (3 : Int32)), .val (.int (4 : Int32)), .val (.int (5 : Int32)), .val (.int p1), .val (.int rB), .val (.int p3), .val (.int rD), .val (.int rE)] [(.int (3 : Int32)), (.ref b12)])) rfl (by rw [hml]; rfl) (Steps.refl _) (argsL := [(.int (3 : Int32))]) (rest := []) (lenOf pd_8 rfl) rfl (by show 2 * 0 + _ ≤ _; exact Nat.le_of_eq rfl) (hb hby at_252) (fun _ _ => ⟨rfl, e42, (by decide : 7 + 0 ≤ _), (by decide : 203 + 0 ≤ _)⟩)
  dsimp only [Pt.U, Pt.locs, Pt.cells, Pt.slots] at X44 l44 y44 z44 st44 hQ44
  subst l44 y44 z44
  obtain ⟨rfl, rfl, e44⟩ := hQ44
  have NF := Fr.app NF (Fr.nil n0)
  refine own_by (B := T44.setTop (mkF m 255 #[.val (.int i0), .val (.int p1), .val (.int p2), .val (.int p3), .val (.int p4), .val (.ref b11), .val (.ref b12), .val (.int (1 : Int32)), .val (.int (2 : Int32)), .val (.int (3 : Int32)), .val (.int (4 : Int32)), .val (.int (5 : Int32)), .val (.int p1), .val (.int rB), .val (.int p3), .val (.int rD), .val (.int rE)] [(.int (f14_0 (own_stA (own_up (own_up (own_up (own_up (own_up (fun _ => 0) ((1 : Int32)).toNatClampNeg (0 : Int32)) ((2 : Int32)).toNatClampNeg (1 : Int32)) ((3 : Int32)).toNatClampNeg (0 : Int32)) ((4 : Int32)).toNatClampNeg (2 : Int32)) ((5 : Int32)).toNatClampNeg (4 : Int32)) (own_stO (own_up (own_up (own_up (own_up (own_up (fun _ => 0) ((1 : Int32)).toNatClampNeg (0 : Int32)) ((2 : Int32)).toNatClampNeg (1 : Int32)) ((3 : Int32)).toNatClampNeg (0 : Int32)) ((4 : Int32)).toNatClampNeg (2 : Int32)) ((5 : Int32)).toNatClampNeg (4 : Int32)) (own_up (own_up (own_up (own_up (own_up (fun _ => 0) ((1 : Int32)).toNatClampNeg (-1 : Int32)) ((2 : Int32)).toNatClampNeg (-1 : Int32)) ((3 : Int32)).toNatClampNeg (-1 : Int32)) ((4 : Int32)).toNatClampNeg (3 : Int32)) ((5 : Int32)).toNatClampNeg (-1 : Int32)) (own_stA (own_up (own_up (own_up (own_up (own_up (fun _ => 0) ((1 : Int32)).toNatClampNeg (0 : Int32)) ((2 : Int32)).toNatClampNeg (1 : Int32)) ((3 : Int32)).toNatClampNeg (0 : Int32)) ((4 : Int32)).toNatClampNeg (2 : Int32)) ((5 : Int32)).toNatClampNeg (4 : Int32)) (own_stA (own_up (own_up (own_up (own_up (own_up (fun _ => 0) ((1 : Int32)).toNatClampNeg (0 : Int32)) ((2 : Int32)).toNatClampNeg (1 : Int32)) ((3 : Int32)).toNatClampNeg (0 : Int32)) ((4 : Int32)).toNatClampNeg (2 : Int32)) ((5 : Int32)).toNatClampNeg (4 : Int32)) (own_stA (own_up (own_up (own_up (own_up (own_up (fun _ => 0) ((1 : Int32)).toNatClampNeg (0 : Int32)) ((2 : Int32)).toNatClampNeg (1 : Int32)) ((3 : Int32)).toNatClampNeg (0 : Int32)) ((4 : Int32)).toNatClampNeg (2 : Int32)) ((5 : Int32)).toNatClampNeg (4 : Int32)) (own_up (own_up (own_up (own_up (own_up (own_up (own_up (own_up (own_up (own_up (fun _ => 0) ((0 : Int32)).toNatClampNeg (nar .boolean (1 : Int32))) ((1 : Int32)).toNatClampNeg (nar .boolean (0 : Int32))) ((2 : Int32)).toNatClampNeg (nar .boolean (0 : Int32))) ((3 : Int32)).toNatClampNeg (nar .boolean (0 : Int32))) ((4 : Int32)).toNatClampNeg (nar .boolean (0 : Int32))) ((5 : Int32)).toNatClampNeg (nar .boolean (0 : Int32))) ((1 : Int32)).toNatClampNeg (nar .boolean p1)) ((2 : Int32)).toNatClampNeg (nar .boolean p2)) ((3 : Int32)).toNatClampNeg (nar .boolean p3)) ((5 : Int32)).toNatClampNeg (nar .boolean p4)) (1 : Int32)) (2 : Int32)) (3 : Int32)) (4 : Int32)) (5 : Int32)) (3 : Int32)))])) (fun t k => st44.trans k) ?_
  refine own_by (B := T44.setTop (mkF m 257 #[.val (.int i0), .val (.int p1), .val (.int p2), .val (.int p3), .val (.int p4), .val (.ref b11), .val (.ref b12), .val (.int (1 : Int32)), .val (.int (2 : Int32)), .val (.int (3 : Int32)), .val (.int (4 : Int32)), .val (.int (5 : Int32)), .val (.int p1), .val (.int rB), .val (.int p3), .val (.int rD), .val (.int rE)] [(.int p3), (.int (f14_0 (own_stA (own_up (own_up (own_up (own_up (own_up (fun _ => 0) ((1 : Int32)).toNatClampNeg (0 : Int32)) ((2 : Int32)).toNatClampNeg (1 : Int32)) ((3 : Int32)).toNatClampNeg (0 : Int32)) ((4 : Int32)).toNatClampNeg (2 : Int32)) ((5 : Int32)).toNatClampNeg (4 : Int32)) (own_stO (own_up (own_up (own_up (own_up (own_up (fun _ => 0) ((1 : Int32)).toNatClampNeg (0 : Int32)) ((2 : Int32)).toNatClampNeg (1 : Int32)) ((3 : Int32)).toNatClampNeg (0 : Int32)) ((4 : Int32)).toNatClampNeg (2 : Int32)) ((5 : Int32)).toNatClampNeg (4 : Int32)) (own_up (own_up (own_up (own_up (own_up (fun _ => 0) ((1 : Int32)).toNatClampNeg (-1 : Int32)) ((2 : Int32)).toNatClampNeg (-1 : Int32)) ((3 : Int32)).toNatClampNeg (-1 : Int32)) ((4 : Int32)).toNatClampNeg (3 : Int32)) ((5 : Int32)).toNatClampNeg (-1 : Int32)) (own_stA (own_up (own_up (own_up (own_up (own_up (fun _ => 0) ((1 : Int32)).toNatClampNeg (0 : Int32)) ((2 : Int32)).toNatClampNeg (1 : Int32)) ((3 : Int32)).toNatClampNeg (0 : Int32)) ((4 : Int32)).toNatClampNeg (2 : Int32)) ((5 : Int32)).toNatClampNeg (4 : Int32)) (own_stA (own_up (own_up (own_up (own_up (own_up (fun _ => 0) ((1 : Int32)).toNatClampNeg (0 : Int32)) ((2 : Int32)).toNatClampNeg (1 : Int32)) ((3 : Int32)).toNatClampNeg (0 : Int32)) ((4 : Int32)).toNatClampNeg (2 : Int32)) ((5 : Int32)).toNatClampNeg (4 : Int32)) (own_stA (own_up (own_up (own_up (own_up (own_up (fun _ => 0) ((1 : Int32)).toNatClampNeg (0 : Int32)) ((2 : Int32)).toNatClampNeg (1 : Int32)) ((3 : Int32)).toNatClampNeg (0 : Int32)) ((4 : Int32)).toNatClampNeg (2 : Int32)) ((5 : Int32)).toNatClampNeg (4 : Int32)) (own_up (own_up (own_up (own_up (own_up (own_up (own_up (own_up (own_up (own_up (fun _ => 0) ((0 : Int32)).toNatClampNeg (nar .boolean (1 : Int32))) ((1 : Int32)).toNatClampNeg (nar .boolean (0 : Int32))) ((2 : Int32)).toNatClampNeg (nar .boolean (0 : Int32))) ((3 : Int32)).toNatClampNeg (nar .boolean (0 : Int32))) ((4 : Int32)).toNatClampNeg (nar .boolean (0 : Int32))) ((5 : Int32)).toNatClampNeg (nar .boolean (0 : Int32))) ((1 : Int32)).toNatClampNeg (nar .boolean p1)) ((2 : Int32)).toNatClampNeg (nar .boolean p2)) ((3 : Int32)).toNatClampNeg (nar .boolean p3)) ((5 : Int32)).toNatClampNeg (nar .boolean p4)) (1 : Int32)) (2 : Int32)) (3 : Int32)) (4 : Int32)) (5 : Int32)) (3 : Int32)))])) (fun t k => XS.iload X44.here hx rfl (hb hby at_255) rfl k) ?_
  have hc45 : (f14_0 (own_stA (own_up (own_up (own_up (own_up (own_up (fun _ => 0) ((1 : Int32)).toNatClampNeg (0 : Int32)) ((2 : Int32)).toNatClampNeg (1 : Int32)) ((3 : Int32)).toNatClampNeg (0 : Int32)) ((4 : Int32)).toNatClampNeg (2 : Int32)) ((5 : Int32)).toNatClampNeg (4 : Int32)) (own_stO (own_up (own_up (own_up (own_up (own_up (fun _ => 0) ((1 : Int32)).toNatClampNeg (0 : Int32)) ((2 : Int32)).toNatClampNeg (1 : Int32)) ((3 : Int32)).toNatClampNeg (0 : Int32)) ((4 : Int32)).toNatClampNeg (2 : Int32)) ((5 : Int32)).toNatClampNeg (4 : Int32)) (own_up (own_up (own_up (own_up (own_up (fun _ => 0) ((1 : Int32)).toNatClampNeg (-1 : Int32)) ((2 : Int32)).toNatClampNeg (-1 : Int32)) ((3 : Int32)).toNatClampNeg (-1 : Int32)) ((4 : Int32)).toNatClampNeg (3 : Int32)) ((5 : Int32)).toNatClampNeg (-1 : Int32)) (own_stA (own_up (own_up (own_up (own_up (own_up (fun _ => 0) ((1 : Int32)).toNatClampNeg (0 : Int32)) ((2 : Int32)).toNatClampNeg (1 : Int32)) ((3 : Int32)).toNatClampNeg (0 : Int32)) ((4 : Int32)).toNatClampNeg (2 : Int32)) ((5 : Int32)).toNatClampNeg (4 : Int32)) (own_stA (own_up (own_up (own_up (own_up (own_up (fun _ => 0) ((1 : Int32)).toNatClampNeg (0 : Int32)) ((2 : Int32)).toNatClampNeg (1 : Int32)) ((3 : Int32)).toNatClampNeg (0 : Int32)) ((4 : Int32)).toNatClampNeg (2 : Int32)) ((5 : Int32)).toNatClampNeg (4 : Int32)) (own_stA (own_up (own_up (own_up (own_up (own_up (fun _ => 0) ((1 : Int32)).toNatClampNeg (0 : Int32)) ((2 : Int32)).toNatClampNeg (1 : Int32)) ((3 : Int32)).toNatClampNeg (0 : Int32)) ((4 : Int32)).toNatClampNeg (2 : Int32)) ((5 : Int32)).toNatClampNeg (4 : Int32)) (own_up (own_up (own_up (own_up (own_up (own_up (own_up (own_up (own_up (own_up (fun _ => 0) ((0 : Int32)).toNatClampNeg (nar .boolean (1 : Int32))) ((1 : Int32)).toNatClampNeg (nar .boolean (0 : Int32))) ((2 : Int32)).toNatClampNeg (nar .boolean (0 : Int32))) ((3 : Int32)).toNatClampNeg (nar .boolean (0 : Int32))) ((4 : Int32)).toNatClampNeg (nar .boolean (0 : Int32))) ((5 : Int32)).toNatClampNeg (nar .boolean (0 : Int32))) ((1 : Int32)).toNatClampNeg (nar .boolean p1)) ((2 : Int32)).toNatClampNeg (nar .boolean p2)) ((3 : Int32)).toNatClampNeg (nar .boolean p3)) ((5 : Int32)).toNatClampNeg (nar .boolean p4)) (1 : Int32)) (2 : Int32)) (3 : Int32)) (4 : Int32)) (5 : Int32)) (3 : Int32)) = p3 := fin.2.2.2.1
  refine own_by (B := T44.setTop (mkF m 260 #[.val (.int i0), .val (.int p1), .val (.int p2), .val (.int p3), .val (.int p4), .val (.ref b11), .val (.ref b12), .val (.int (1 : Int32)), .val (.int (2 : Int32)), .val (.int (3 : Int32)), .val (.int (4 : Int32)), .val (.int (5 : Int32)), .val (.int p1), .val (.int rB), .val (.int p3), .val (.int rD), .val (.int rE)] [])) (fun t k => XS.icmpNo X44.here hx rfl (hb hby at_257) rfl (teq hc45).2 k) ?_
  refine own_by (B := T44.setTop (mkF m 262 #[.val (.int i0), .val (.int p1), .val (.int p2), .val (.int p3), .val (.int p4), .val (.ref b11), .val (.ref b12), .val (.int (1 : Int32)), .val (.int (2 : Int32)), .val (.int (3 : Int32)), .val (.int (4 : Int32)), .val (.int (5 : Int32)), .val (.int p1), .val (.int rB), .val (.int p3), .val (.int rD), .val (.int rE)] [(.ref b12)])) (fun t k => XS.aload X44.here hx rfl (hb hby at_260) rfl rfl k) ?_
  refine own_by (B := T44.setTop (mkF m 264 #[.val (.int i0), .val (.int p1), .val (.int p2), .val (.int p3), .val (.int p4), .val (.ref b11), .val (.ref b12), .val (.int (1 : Int32)), .val (.int (2 : Int32)), .val (.int (3 : Int32)), .val (.int (4 : Int32)), .val (.int (5 : Int32)), .val (.int p1), .val (.int rB), .val (.int p3), .val (.int rD), .val (.int rE)] [(.int (4 : Int32)), (.ref b12)])) (fun t k => XS.iload X44.here hx rfl (hb hby at_262) rfl k) ?_
  obtain ⟨cq46, kq46, q46a, q46b, q46c⟩ := isOf hZ e44 E_b12
  obtain ⟨v46, _, ⟨T46, L46, c46, n46⟩, -, X46, ⟨Lc46, hQ46, l46, y46, z46⟩, st46⟩ := X44.virtualBack hx (y := (⟨"com/example/myriad_paths/myriadpaths/Conditions", "holds", "(I)Z"⟩ : MethodName)) (z := (⟨"com/example/myriad_paths/myriadpaths/Conditions", "holds", "(I)Z"⟩ : MethodName)) hown (mvT hZ (hw _ (List.mem_of_getElem? (i := 89) rfl))) (mvT hZ (hw _ (List.mem_of_getElem? (i := 90) rfl))) (notFace_of_selects (args := #[]) (mvT hZ (hw _ (List.mem_of_getElem? (i := 92) rfl)))) (mvT hZ (hw _ (List.mem_of_getElem? (i := 92) rfl))) (mvT hZ (hw _ (List.mem_of_getElem? (i := 91) rfl))) (by decide) (backOf (W := 0) (rm14 l Z a0 hw [] b12 (4 : Int32) ha13 (own_stA (own_up (own_up (own_up (own_up (own_up (fun _ => 0) ((1 : Int32)).toNatClampNeg (0 : Int32)) ((2 : Int32)).toNatClampNeg (1 : Int32)) ((3 : Int32)).toNatClampNeg (0 : Int32)) ((4 : Int32)).toNatClampNeg (2 : Int32)) ((5 : Int32)).toNatClampNeg (4 : Int32)) (own_stO (own_up (own_up (own_up (own_up (own_up (fun _ => 0) ((1 : Int32)).toNatClampNeg (0 : Int32)) ((2 : Int32)).toNatClampNeg (1 : Int32)) ((3 : Int32)).toNatClampNeg (0 : Int32)) ((4 : Int32)).toNatClampNeg (2 : Int32)) ((5 : Int32)).toNatClampNeg (4 : Int32)) (own_up (own_up (own_up (own_up (own_up (fun _ => 0) ((1 : Int32)).toNatClampNeg (-1 : Int32)) ((2 : Int32)).toNatClampNeg (-1 : Int32)) ((3 : Int32)).toNatClampNeg (-1 : Int32)) ((4 : Int32)).toNatClampNeg (3 : Int32)) ((5 : Int32)).toNatClampNeg (-1 : Int32)) (own_stA (own_up (own_up (own_up (own_up (own_up (fun _ => 0) ((1 : Int32)).toNatClampNeg (0 : Int32)) ((2 : Int32)).toNatClampNeg (1 : Int32)) ((3 : Int32)).toNatClampNeg (0 : Int32)) ((4 : Int32)).toNatClampNeg (2 : Int32)) ((5 : Int32)).toNatClampNeg (4 : Int32)) (own_stA (own_up (own_up (own_up (own_up (own_up (fun _ => 0) ((1 : Int32)).toNatClampNeg (0 : Int32)) ((2 : Int32)).toNatClampNeg (1 : Int32)) ((3 : Int32)).toNatClampNeg (0 : Int32)) ((4 : Int32)).toNatClampNeg (2 : Int32)) ((5 : Int32)).toNatClampNeg (4 : Int32)) (own_stA (own_up (own_up (own_up (own_up (own_up (fun _ => 0) ((1 : Int32)).toNatClampNeg (0 : Int32)) ((2 : Int32)).toNatClampNeg (1 : Int32)) ((3 : Int32)).toNatClampNeg (0 : Int32)) ((4 : Int32)).toNatClampNeg (2 : Int32)) ((5 : Int32)).toNatClampNeg (4 : Int32)) (own_up (own_up (own_up (own_up (own_up (own_up (own_up (own_up (own_up (own_up (fun _ => 0) ((0 : Int32)).toNatClampNeg (nar .boolean (1 : Int32))) ((1 : Int32)).toNatClampNeg (nar .boolean (0 : Int32))) ((2 : Int32)).toNatClampNeg (nar .boolean (0 : Int32))) ((3 : Int32)).toNatClampNeg (nar .boolean (0 : Int32))) ((4 : Int32)).toNatClampNeg (nar .boolean (0 : Int32))) ((5 : Int32)).toNatClampNeg (nar .boolean (0 : Int32))) ((1 : Int32)).toNatClampNeg (nar .boolean p1)) ((2 : Int32)).toNatClampNeg (nar .boolean p2)) ((3 : Int32)).toNatClampNeg (nar .boolean p3)) ((5 : Int32)).toNatClampNeg (nar .boolean p4)) (1 : Int32)) (2 : Int32)) (3 : Int32)) (4 : Int32)) (5 : Int32)) T28.heap F_holds_b12 V_ha13 (by decide)) hZ (hw _ (List.mem_of_getElem? (i := 93) rfl)) (hw _ (List.mem_of_getElem? (i := 43) rfl)) (by decide) (by decide)) q46a q46c (g := (mkF m 264 #[.val (.int i0), .val (.int p1), .val (.int p2), .val (.int p3), .val (.int p4), .val (.ref b11), .val (.ref b12), .val (.int (1 : Int32)), .val (.int (2 : Int32)), .val (.int (3 : Int32)), .val (.int (4 : Int32)), .val (.int (5 : Int32)), .val (.int p1), .val (.int rB), .val (.int p3), .val (.int rD), .val (.int rE)] [(.int (4 : Int32)), (.ref b12)])) rfl (by rw [hml]; rfl) (Steps.refl _) (argsL := [(.int (4 : Int32))]) (rest := []) (lenOf pd_8 rfl) rfl (by show 2 * 0 + _ ≤ _; exact Nat.le_of_eq rfl) (hb hby at_264) (fun _ _ => ⟨rfl, e44, (by decide : 7 + 0 ≤ _), (by decide : 203 + 0 ≤ _)⟩)
  dsimp only [Pt.U, Pt.locs, Pt.cells, Pt.slots] at X46 l46 y46 z46 st46 hQ46
  subst l46 y46 z46
  obtain ⟨rfl, rfl, e46⟩ := hQ46
  have NF := Fr.app NF (Fr.nil n0)
  refine own_by (B := T46.setTop (mkF m 267 #[.val (.int i0), .val (.int p1), .val (.int p2), .val (.int p3), .val (.int p4), .val (.ref b11), .val (.ref b12), .val (.int (1 : Int32)), .val (.int (2 : Int32)), .val (.int (3 : Int32)), .val (.int (4 : Int32)), .val (.int (5 : Int32)), .val (.int p1), .val (.int rB), .val (.int p3), .val (.int rD), .val (.int rE)] [(.int (f14_0 (own_stA (own_up (own_up (own_up (own_up (own_up (fun _ => 0) ((1 : Int32)).toNatClampNeg (0 : Int32)) ((2 : Int32)).toNatClampNeg (1 : Int32)) ((3 : Int32)).toNatClampNeg (0 : Int32)) ((4 : Int32)).toNatClampNeg (2 : Int32)) ((5 : Int32)).toNatClampNeg (4 : Int32)) (own_stO (own_up (own_up (own_up (own_up (own_up (fun _ => 0) ((1 : Int32)).toNatClampNeg (0 : Int32)) ((2 : Int32)).toNatClampNeg (1 : Int32)) ((3 : Int32)).toNatClampNeg (0 : Int32)) ((4 : Int32)).toNatClampNeg (2 : Int32)) ((5 : Int32)).toNatClampNeg (4 : Int32)) (own_up (own_up (own_up (own_up (own_up (fun _ => 0) ((1 : Int32)).toNatClampNeg (-1 : Int32)) ((2 : Int32)).toNatClampNeg (-1 : Int32)) ((3 : Int32)).toNatClampNeg (-1 : Int32)) ((4 : Int32)).toNatClampNeg (3 : Int32)) ((5 : Int32)).toNatClampNeg (-1 : Int32)) (own_stA (own_up (own_up (own_up (own_up (own_up (fun _ => 0) ((1 : Int32)).toNatClampNeg (0 : Int32)) ((2 : Int32)).toNatClampNeg (1 : Int32)) ((3 : Int32)).toNatClampNeg (0 : Int32)) ((4 : Int32)).toNatClampNeg (2 : Int32)) ((5 : Int32)).toNatClampNeg (4 : Int32)) (own_stA (own_up (own_up (own_up (own_up (own_up (fun _ => 0) ((1 : Int32)).toNatClampNeg (0 : Int32)) ((2 : Int32)).toNatClampNeg (1 : Int32)) ((3 : Int32)).toNatClampNeg (0 : Int32)) ((4 : Int32)).toNatClampNeg (2 : Int32)) ((5 : Int32)).toNatClampNeg (4 : Int32)) (own_stA (own_up (own_up (own_up (own_up (own_up (fun _ => 0) ((1 : Int32)).toNatClampNeg (0 : Int32)) ((2 : Int32)).toNatClampNeg (1 : Int32)) ((3 : Int32)).toNatClampNeg (0 : Int32)) ((4 : Int32)).toNatClampNeg (2 : Int32)) ((5 : Int32)).toNatClampNeg (4 : Int32)) (own_up (own_up (own_up (own_up (own_up (own_up (own_up (own_up (own_up (own_up (fun _ => 0) ((0 : Int32)).toNatClampNeg (nar .boolean (1 : Int32))) ((1 : Int32)).toNatClampNeg (nar .boolean (0 : Int32))) ((2 : Int32)).toNatClampNeg (nar .boolean (0 : Int32))) ((3 : Int32)).toNatClampNeg (nar .boolean (0 : Int32))) ((4 : Int32)).toNatClampNeg (nar .boolean (0 : Int32))) ((5 : Int32)).toNatClampNeg (nar .boolean (0 : Int32))) ((1 : Int32)).toNatClampNeg (nar .boolean p1)) ((2 : Int32)).toNatClampNeg (nar .boolean p2)) ((3 : Int32)).toNatClampNeg (nar .boolean p3)) ((5 : Int32)).toNatClampNeg (nar .boolean p4)) (1 : Int32)) (2 : Int32)) (3 : Int32)) (4 : Int32)) (5 : Int32)) (4 : Int32)))])) (fun t k => st46.trans k) ?_
  refine own_by (B := T46.setTop (mkF m 269 #[.val (.int i0), .val (.int p1), .val (.int p2), .val (.int p3), .val (.int p4), .val (.ref b11), .val (.ref b12), .val (.int (1 : Int32)), .val (.int (2 : Int32)), .val (.int (3 : Int32)), .val (.int (4 : Int32)), .val (.int (5 : Int32)), .val (.int p1), .val (.int rB), .val (.int p3), .val (.int rD), .val (.int rE)] [(.int rD), (.int (f14_0 (own_stA (own_up (own_up (own_up (own_up (own_up (fun _ => 0) ((1 : Int32)).toNatClampNeg (0 : Int32)) ((2 : Int32)).toNatClampNeg (1 : Int32)) ((3 : Int32)).toNatClampNeg (0 : Int32)) ((4 : Int32)).toNatClampNeg (2 : Int32)) ((5 : Int32)).toNatClampNeg (4 : Int32)) (own_stO (own_up (own_up (own_up (own_up (own_up (fun _ => 0) ((1 : Int32)).toNatClampNeg (0 : Int32)) ((2 : Int32)).toNatClampNeg (1 : Int32)) ((3 : Int32)).toNatClampNeg (0 : Int32)) ((4 : Int32)).toNatClampNeg (2 : Int32)) ((5 : Int32)).toNatClampNeg (4 : Int32)) (own_up (own_up (own_up (own_up (own_up (fun _ => 0) ((1 : Int32)).toNatClampNeg (-1 : Int32)) ((2 : Int32)).toNatClampNeg (-1 : Int32)) ((3 : Int32)).toNatClampNeg (-1 : Int32)) ((4 : Int32)).toNatClampNeg (3 : Int32)) ((5 : Int32)).toNatClampNeg (-1 : Int32)) (own_stA (own_up (own_up (own_up (own_up (own_up (fun _ => 0) ((1 : Int32)).toNatClampNeg (0 : Int32)) ((2 : Int32)).toNatClampNeg (1 : Int32)) ((3 : Int32)).toNatClampNeg (0 : Int32)) ((4 : Int32)).toNatClampNeg (2 : Int32)) ((5 : Int32)).toNatClampNeg (4 : Int32)) (own_stA (own_up (own_up (own_up (own_up (own_up (fun _ => 0) ((1 : Int32)).toNatClampNeg (0 : Int32)) ((2 : Int32)).toNatClampNeg (1 : Int32)) ((3 : Int32)).toNatClampNeg (0 : Int32)) ((4 : Int32)).toNatClampNeg (2 : Int32)) ((5 : Int32)).toNatClampNeg (4 : Int32)) (own_stA (own_up (own_up (own_up (own_up (own_up (fun _ => 0) ((1 : Int32)).toNatClampNeg (0 : Int32)) ((2 : Int32)).toNatClampNeg (1 : Int32)) ((3 : Int32)).toNatClampNeg (0 : Int32)) ((4 : Int32)).toNatClampNeg (2 : Int32)) ((5 : Int32)).toNatClampNeg (4 : Int32)) (own_up (own_up (own_up (own_up (own_up (own_up (own_up (own_up (own_up (own_up (fun _ => 0) ((0 : Int32)).toNatClampNeg (nar .boolean (1 : Int32))) ((1 : Int32)).toNatClampNeg (nar .boolean (0 : Int32))) ((2 : Int32)).toNatClampNeg (nar .boolean (0 : Int32))) ((3 : Int32)).toNatClampNeg (nar .boolean (0 : Int32))) ((4 : Int32)).toNatClampNeg (nar .boolean (0 : Int32))) ((5 : Int32)).toNatClampNeg (nar .boolean (0 : Int32))) ((1 : Int32)).toNatClampNeg (nar .boolean p1)) ((2 : Int32)).toNatClampNeg (nar .boolean p2)) ((3 : Int32)).toNatClampNeg (nar .boolean p3)) ((5 : Int32)).toNatClampNeg (nar .boolean p4)) (1 : Int32)) (2 : Int32)) (3 : Int32)) (4 : Int32)) (5 : Int32)) (4 : Int32)))])) (fun t k => XS.iload X46.here hx rfl (hb hby at_267) rfl k) ?_
  have hc47 : (f14_0 (own_stA (own_up (own_up (own_up (own_up (own_up (fun _ => 0) ((1 : Int32)).toNatClampNeg (0 : Int32)) ((2 : Int32)).toNatClampNeg (1 : Int32)) ((3 : Int32)).toNatClampNeg (0 : Int32)) ((4 : Int32)).toNatClampNeg (2 : Int32)) ((5 : Int32)).toNatClampNeg (4 : Int32)) (own_stO (own_up (own_up (own_up (own_up (own_up (fun _ => 0) ((1 : Int32)).toNatClampNeg (0 : Int32)) ((2 : Int32)).toNatClampNeg (1 : Int32)) ((3 : Int32)).toNatClampNeg (0 : Int32)) ((4 : Int32)).toNatClampNeg (2 : Int32)) ((5 : Int32)).toNatClampNeg (4 : Int32)) (own_up (own_up (own_up (own_up (own_up (fun _ => 0) ((1 : Int32)).toNatClampNeg (-1 : Int32)) ((2 : Int32)).toNatClampNeg (-1 : Int32)) ((3 : Int32)).toNatClampNeg (-1 : Int32)) ((4 : Int32)).toNatClampNeg (3 : Int32)) ((5 : Int32)).toNatClampNeg (-1 : Int32)) (own_stA (own_up (own_up (own_up (own_up (own_up (fun _ => 0) ((1 : Int32)).toNatClampNeg (0 : Int32)) ((2 : Int32)).toNatClampNeg (1 : Int32)) ((3 : Int32)).toNatClampNeg (0 : Int32)) ((4 : Int32)).toNatClampNeg (2 : Int32)) ((5 : Int32)).toNatClampNeg (4 : Int32)) (own_stA (own_up (own_up (own_up (own_up (own_up (fun _ => 0) ((1 : Int32)).toNatClampNeg (0 : Int32)) ((2 : Int32)).toNatClampNeg (1 : Int32)) ((3 : Int32)).toNatClampNeg (0 : Int32)) ((4 : Int32)).toNatClampNeg (2 : Int32)) ((5 : Int32)).toNatClampNeg (4 : Int32)) (own_stA (own_up (own_up (own_up (own_up (own_up (fun _ => 0) ((1 : Int32)).toNatClampNeg (0 : Int32)) ((2 : Int32)).toNatClampNeg (1 : Int32)) ((3 : Int32)).toNatClampNeg (0 : Int32)) ((4 : Int32)).toNatClampNeg (2 : Int32)) ((5 : Int32)).toNatClampNeg (4 : Int32)) (own_up (own_up (own_up (own_up (own_up (own_up (own_up (own_up (own_up (own_up (fun _ => 0) ((0 : Int32)).toNatClampNeg (nar .boolean (1 : Int32))) ((1 : Int32)).toNatClampNeg (nar .boolean (0 : Int32))) ((2 : Int32)).toNatClampNeg (nar .boolean (0 : Int32))) ((3 : Int32)).toNatClampNeg (nar .boolean (0 : Int32))) ((4 : Int32)).toNatClampNeg (nar .boolean (0 : Int32))) ((5 : Int32)).toNatClampNeg (nar .boolean (0 : Int32))) ((1 : Int32)).toNatClampNeg (nar .boolean p1)) ((2 : Int32)).toNatClampNeg (nar .boolean p2)) ((3 : Int32)).toNatClampNeg (nar .boolean p3)) ((5 : Int32)).toNatClampNeg (nar .boolean p4)) (1 : Int32)) (2 : Int32)) (3 : Int32)) (4 : Int32)) (5 : Int32)) (4 : Int32)) = rD := fin.2.2.2.2.1
  refine own_by (B := T46.setTop (mkF m 272 #[.val (.int i0), .val (.int p1), .val (.int p2), .val (.int p3), .val (.int p4), .val (.ref b11), .val (.ref b12), .val (.int (1 : Int32)), .val (.int (2 : Int32)), .val (.int (3 : Int32)), .val (.int (4 : Int32)), .val (.int (5 : Int32)), .val (.int p1), .val (.int rB), .val (.int p3), .val (.int rD), .val (.int rE)] [])) (fun t k => XS.icmpNo X46.here hx rfl (hb hby at_269) rfl (teq hc47).2 k) ?_
  refine own_by (B := T46.setTop (mkF m 274 #[.val (.int i0), .val (.int p1), .val (.int p2), .val (.int p3), .val (.int p4), .val (.ref b11), .val (.ref b12), .val (.int (1 : Int32)), .val (.int (2 : Int32)), .val (.int (3 : Int32)), .val (.int (4 : Int32)), .val (.int (5 : Int32)), .val (.int p1), .val (.int rB), .val (.int p3), .val (.int rD), .val (.int rE)] [(.ref b12)])) (fun t k => XS.aload X46.here hx rfl (hb hby at_272) rfl rfl k) ?_
  refine own_by (B := T46.setTop (mkF m 276 #[.val (.int i0), .val (.int p1), .val (.int p2), .val (.int p3), .val (.int p4), .val (.ref b11), .val (.ref b12), .val (.int (1 : Int32)), .val (.int (2 : Int32)), .val (.int (3 : Int32)), .val (.int (4 : Int32)), .val (.int (5 : Int32)), .val (.int p1), .val (.int rB), .val (.int p3), .val (.int rD), .val (.int rE)] [(.int (5 : Int32)), (.ref b12)])) (fun t k => XS.iload X46.here hx rfl (hb hby at_274) rfl k) ?_
  obtain ⟨cq48, kq48, q48a, q48b, q48c⟩ := isOf hZ e46 E_b12
  obtain ⟨v48, _, ⟨T48, L48, c48, n48⟩, -, X48, ⟨Lc48, hQ48, l48, y48, z48⟩, st48⟩ := X46.virtualBack hx (y := (⟨"com/example/myriad_paths/myriadpaths/Conditions", "holds", "(I)Z"⟩ : MethodName)) (z := (⟨"com/example/myriad_paths/myriadpaths/Conditions", "holds", "(I)Z"⟩ : MethodName)) hown (mvT hZ (hw _ (List.mem_of_getElem? (i := 89) rfl))) (mvT hZ (hw _ (List.mem_of_getElem? (i := 90) rfl))) (notFace_of_selects (args := #[]) (mvT hZ (hw _ (List.mem_of_getElem? (i := 92) rfl)))) (mvT hZ (hw _ (List.mem_of_getElem? (i := 92) rfl))) (mvT hZ (hw _ (List.mem_of_getElem? (i := 91) rfl))) (by decide) (backOf (W := 0) (rm14 l Z a0 hw [] b12 (5 : Int32) ha13 (own_stA (own_up (own_up (own_up (own_up (own_up (fun _ => 0) ((1 : Int32)).toNatClampNeg (0 : Int32)) ((2 : Int32)).toNatClampNeg (1 : Int32)) ((3 : Int32)).toNatClampNeg (0 : Int32)) ((4 : Int32)).toNatClampNeg (2 : Int32)) ((5 : Int32)).toNatClampNeg (4 : Int32)) (own_stO (own_up (own_up (own_up (own_up (own_up (fun _ => 0) ((1 : Int32)).toNatClampNeg (0 : Int32)) ((2 : Int32)).toNatClampNeg (1 : Int32)) ((3 : Int32)).toNatClampNeg (0 : Int32)) ((4 : Int32)).toNatClampNeg (2 : Int32)) ((5 : Int32)).toNatClampNeg (4 : Int32)) (own_up (own_up (own_up (own_up (own_up (fun _ => 0) ((1 : Int32)).toNatClampNeg (-1 : Int32)) ((2 : Int32)).toNatClampNeg (-1 : Int32)) ((3 : Int32)).toNatClampNeg (-1 : Int32)) ((4 : Int32)).toNatClampNeg (3 : Int32)) ((5 : Int32)).toNatClampNeg (-1 : Int32)) (own_stA (own_up (own_up (own_up (own_up (own_up (fun _ => 0) ((1 : Int32)).toNatClampNeg (0 : Int32)) ((2 : Int32)).toNatClampNeg (1 : Int32)) ((3 : Int32)).toNatClampNeg (0 : Int32)) ((4 : Int32)).toNatClampNeg (2 : Int32)) ((5 : Int32)).toNatClampNeg (4 : Int32)) (own_stA (own_up (own_up (own_up (own_up (own_up (fun _ => 0) ((1 : Int32)).toNatClampNeg (0 : Int32)) ((2 : Int32)).toNatClampNeg (1 : Int32)) ((3 : Int32)).toNatClampNeg (0 : Int32)) ((4 : Int32)).toNatClampNeg (2 : Int32)) ((5 : Int32)).toNatClampNeg (4 : Int32)) (own_stA (own_up (own_up (own_up (own_up (own_up (fun _ => 0) ((1 : Int32)).toNatClampNeg (0 : Int32)) ((2 : Int32)).toNatClampNeg (1 : Int32)) ((3 : Int32)).toNatClampNeg (0 : Int32)) ((4 : Int32)).toNatClampNeg (2 : Int32)) ((5 : Int32)).toNatClampNeg (4 : Int32)) (own_up (own_up (own_up (own_up (own_up (own_up (own_up (own_up (own_up (own_up (fun _ => 0) ((0 : Int32)).toNatClampNeg (nar .boolean (1 : Int32))) ((1 : Int32)).toNatClampNeg (nar .boolean (0 : Int32))) ((2 : Int32)).toNatClampNeg (nar .boolean (0 : Int32))) ((3 : Int32)).toNatClampNeg (nar .boolean (0 : Int32))) ((4 : Int32)).toNatClampNeg (nar .boolean (0 : Int32))) ((5 : Int32)).toNatClampNeg (nar .boolean (0 : Int32))) ((1 : Int32)).toNatClampNeg (nar .boolean p1)) ((2 : Int32)).toNatClampNeg (nar .boolean p2)) ((3 : Int32)).toNatClampNeg (nar .boolean p3)) ((5 : Int32)).toNatClampNeg (nar .boolean p4)) (1 : Int32)) (2 : Int32)) (3 : Int32)) (4 : Int32)) (5 : Int32)) T28.heap F_holds_b12 V_ha13 (by decide)) hZ (hw _ (List.mem_of_getElem? (i := 93) rfl)) (hw _ (List.mem_of_getElem? (i := 43) rfl)) (by decide) (by decide)) q48a q48c (g := (mkF m 276 #[.val (.int i0), .val (.int p1), .val (.int p2), .val (.int p3), .val (.int p4), .val (.ref b11), .val (.ref b12), .val (.int (1 : Int32)), .val (.int (2 : Int32)), .val (.int (3 : Int32)), .val (.int (4 : Int32)), .val (.int (5 : Int32)), .val (.int p1), .val (.int rB), .val (.int p3), .val (.int rD), .val (.int rE)] [(.int (5 : Int32)), (.ref b12)])) rfl (by rw [hml]; rfl) (Steps.refl _) (argsL := [(.int (5 : Int32))]) (rest := []) (lenOf pd_8 rfl) rfl (by show 2 * 0 + _ ≤ _; exact Nat.le_of_eq rfl) (hb hby at_276) (fun _ _ => ⟨rfl, e46, (by decide : 7 + 0 ≤ _), (by decide : 203 + 0 ≤ _)⟩)
  dsimp only [Pt.U, Pt.locs, Pt.cells, Pt.slots] at X48 l48 y48 z48 st48 hQ48
  subst l48 y48 z48
  obtain ⟨rfl, rfl, e48⟩ := hQ48
  have NF := Fr.app NF (Fr.nil n0)
  refine own_by (B := T48.setTop (mkF m 279 #[.val (.int i0), .val (.int p1), .val (.int p2), .val (.int p3), .val (.int p4), .val (.ref b11), .val (.ref b12), .val (.int (1 : Int32)), .val (.int (2 : Int32)), .val (.int (3 : Int32)), .val (.int (4 : Int32)), .val (.int (5 : Int32)), .val (.int p1), .val (.int rB), .val (.int p3), .val (.int rD), .val (.int rE)] [(.int (f14_0 (own_stA (own_up (own_up (own_up (own_up (own_up (fun _ => 0) ((1 : Int32)).toNatClampNeg (0 : Int32)) ((2 : Int32)).toNatClampNeg (1 : Int32)) ((3 : Int32)).toNatClampNeg (0 : Int32)) ((4 : Int32)).toNatClampNeg (2 : Int32)) ((5 : Int32)).toNatClampNeg (4 : Int32)) (own_stO (own_up (own_up (own_up (own_up (own_up (fun _ => 0) ((1 : Int32)).toNatClampNeg (0 : Int32)) ((2 : Int32)).toNatClampNeg (1 : Int32)) ((3 : Int32)).toNatClampNeg (0 : Int32)) ((4 : Int32)).toNatClampNeg (2 : Int32)) ((5 : Int32)).toNatClampNeg (4 : Int32)) (own_up (own_up (own_up (own_up (own_up (fun _ => 0) ((1 : Int32)).toNatClampNeg (-1 : Int32)) ((2 : Int32)).toNatClampNeg (-1 : Int32)) ((3 : Int32)).toNatClampNeg (-1 : Int32)) ((4 : Int32)).toNatClampNeg (3 : Int32)) ((5 : Int32)).toNatClampNeg (-1 : Int32)) (own_stA (own_up (own_up (own_up (own_up (own_up (fun _ => 0) ((1 : Int32)).toNatClampNeg (0 : Int32)) ((2 : Int32)).toNatClampNeg (1 : Int32)) ((3 : Int32)).toNatClampNeg (0 : Int32)) ((4 : Int32)).toNatClampNeg (2 : Int32)) ((5 : Int32)).toNatClampNeg (4 : Int32)) (own_stA (own_up (own_up (own_up (own_up (own_up (fun _ => 0) ((1 : Int32)).toNatClampNeg (0 : Int32)) ((2 : Int32)).toNatClampNeg (1 : Int32)) ((3 : Int32)).toNatClampNeg (0 : Int32)) ((4 : Int32)).toNatClampNeg (2 : Int32)) ((5 : Int32)).toNatClampNeg (4 : Int32)) (own_stA (own_up (own_up (own_up (own_up (own_up (fun _ => 0) ((1 : Int32)).toNatClampNeg (0 : Int32)) ((2 : Int32)).toNatClampNeg (1 : Int32)) ((3 : Int32)).toNatClampNeg (0 : Int32)) ((4 : Int32)).toNatClampNeg (2 : Int32)) ((5 : Int32)).toNatClampNeg (4 : Int32)) (own_up (own_up (own_up (own_up (own_up (own_up (own_up (own_up (own_up (own_up (fun _ => 0) ((0 : Int32)).toNatClampNeg (nar .boolean (1 : Int32))) ((1 : Int32)).toNatClampNeg (nar .boolean (0 : Int32))) ((2 : Int32)).toNatClampNeg (nar .boolean (0 : Int32))) ((3 : Int32)).toNatClampNeg (nar .boolean (0 : Int32))) ((4 : Int32)).toNatClampNeg (nar .boolean (0 : Int32))) ((5 : Int32)).toNatClampNeg (nar .boolean (0 : Int32))) ((1 : Int32)).toNatClampNeg (nar .boolean p1)) ((2 : Int32)).toNatClampNeg (nar .boolean p2)) ((3 : Int32)).toNatClampNeg (nar .boolean p3)) ((5 : Int32)).toNatClampNeg (nar .boolean p4)) (1 : Int32)) (2 : Int32)) (3 : Int32)) (4 : Int32)) (5 : Int32)) (5 : Int32)))])) (fun t k => st48.trans k) ?_
  refine own_by (B := T48.setTop (mkF m 281 #[.val (.int i0), .val (.int p1), .val (.int p2), .val (.int p3), .val (.int p4), .val (.ref b11), .val (.ref b12), .val (.int (1 : Int32)), .val (.int (2 : Int32)), .val (.int (3 : Int32)), .val (.int (4 : Int32)), .val (.int (5 : Int32)), .val (.int p1), .val (.int rB), .val (.int p3), .val (.int rD), .val (.int rE)] [(.int rE), (.int (f14_0 (own_stA (own_up (own_up (own_up (own_up (own_up (fun _ => 0) ((1 : Int32)).toNatClampNeg (0 : Int32)) ((2 : Int32)).toNatClampNeg (1 : Int32)) ((3 : Int32)).toNatClampNeg (0 : Int32)) ((4 : Int32)).toNatClampNeg (2 : Int32)) ((5 : Int32)).toNatClampNeg (4 : Int32)) (own_stO (own_up (own_up (own_up (own_up (own_up (fun _ => 0) ((1 : Int32)).toNatClampNeg (0 : Int32)) ((2 : Int32)).toNatClampNeg (1 : Int32)) ((3 : Int32)).toNatClampNeg (0 : Int32)) ((4 : Int32)).toNatClampNeg (2 : Int32)) ((5 : Int32)).toNatClampNeg (4 : Int32)) (own_up (own_up (own_up (own_up (own_up (fun _ => 0) ((1 : Int32)).toNatClampNeg (-1 : Int32)) ((2 : Int32)).toNatClampNeg (-1 : Int32)) ((3 : Int32)).toNatClampNeg (-1 : Int32)) ((4 : Int32)).toNatClampNeg (3 : Int32)) ((5 : Int32)).toNatClampNeg (-1 : Int32)) (own_stA (own_up (own_up (own_up (own_up (own_up (fun _ => 0) ((1 : Int32)).toNatClampNeg (0 : Int32)) ((2 : Int32)).toNatClampNeg (1 : Int32)) ((3 : Int32)).toNatClampNeg (0 : Int32)) ((4 : Int32)).toNatClampNeg (2 : Int32)) ((5 : Int32)).toNatClampNeg (4 : Int32)) (own_stA (own_up (own_up (own_up (own_up (own_up (fun _ => 0) ((1 : Int32)).toNatClampNeg (0 : Int32)) ((2 : Int32)).toNatClampNeg (1 : Int32)) ((3 : Int32)).toNatClampNeg (0 : Int32)) ((4 : Int32)).toNatClampNeg (2 : Int32)) ((5 : Int32)).toNatClampNeg (4 : Int32)) (own_stA (own_up (own_up (own_up (own_up (own_up (fun _ => 0) ((1 : Int32)).toNatClampNeg (0 : Int32)) ((2 : Int32)).toNatClampNeg (1 : Int32)) ((3 : Int32)).toNatClampNeg (0 : Int32)) ((4 : Int32)).toNatClampNeg (2 : Int32)) ((5 : Int32)).toNatClampNeg (4 : Int32)) (own_up (own_up (own_up (own_up (own_up (own_up (own_up (own_up (own_up (own_up (fun _ => 0) ((0 : Int32)).toNatClampNeg (nar .boolean (1 : Int32))) ((1 : Int32)).toNatClampNeg (nar .boolean (0 : Int32))) ((2 : Int32)).toNatClampNeg (nar .boolean (0 : Int32))) ((3 : Int32)).toNatClampNeg (nar .boolean (0 : Int32))) ((4 : Int32)).toNatClampNeg (nar .boolean (0 : Int32))) ((5 : Int32)).toNatClampNeg (nar .boolean (0 : Int32))) ((1 : Int32)).toNatClampNeg (nar .boolean p1)) ((2 : Int32)).toNatClampNeg (nar .boolean p2)) ((3 : Int32)).toNatClampNeg (nar .boolean p3)) ((5 : Int32)).toNatClampNeg (nar .boolean p4)) (1 : Int32)) (2 : Int32)) (3 : Int32)) (4 : Int32)) (5 : Int32)) (5 : Int32)))])) (fun t k => XS.iload X48.here hx rfl (hb hby at_279) rfl k) ?_
  have hc49 : (f14_0 (own_stA (own_up (own_up (own_up (own_up (own_up (fun _ => 0) ((1 : Int32)).toNatClampNeg (0 : Int32)) ((2 : Int32)).toNatClampNeg (1 : Int32)) ((3 : Int32)).toNatClampNeg (0 : Int32)) ((4 : Int32)).toNatClampNeg (2 : Int32)) ((5 : Int32)).toNatClampNeg (4 : Int32)) (own_stO (own_up (own_up (own_up (own_up (own_up (fun _ => 0) ((1 : Int32)).toNatClampNeg (0 : Int32)) ((2 : Int32)).toNatClampNeg (1 : Int32)) ((3 : Int32)).toNatClampNeg (0 : Int32)) ((4 : Int32)).toNatClampNeg (2 : Int32)) ((5 : Int32)).toNatClampNeg (4 : Int32)) (own_up (own_up (own_up (own_up (own_up (fun _ => 0) ((1 : Int32)).toNatClampNeg (-1 : Int32)) ((2 : Int32)).toNatClampNeg (-1 : Int32)) ((3 : Int32)).toNatClampNeg (-1 : Int32)) ((4 : Int32)).toNatClampNeg (3 : Int32)) ((5 : Int32)).toNatClampNeg (-1 : Int32)) (own_stA (own_up (own_up (own_up (own_up (own_up (fun _ => 0) ((1 : Int32)).toNatClampNeg (0 : Int32)) ((2 : Int32)).toNatClampNeg (1 : Int32)) ((3 : Int32)).toNatClampNeg (0 : Int32)) ((4 : Int32)).toNatClampNeg (2 : Int32)) ((5 : Int32)).toNatClampNeg (4 : Int32)) (own_stA (own_up (own_up (own_up (own_up (own_up (fun _ => 0) ((1 : Int32)).toNatClampNeg (0 : Int32)) ((2 : Int32)).toNatClampNeg (1 : Int32)) ((3 : Int32)).toNatClampNeg (0 : Int32)) ((4 : Int32)).toNatClampNeg (2 : Int32)) ((5 : Int32)).toNatClampNeg (4 : Int32)) (own_stA (own_up (own_up (own_up (own_up (own_up (fun _ => 0) ((1 : Int32)).toNatClampNeg (0 : Int32)) ((2 : Int32)).toNatClampNeg (1 : Int32)) ((3 : Int32)).toNatClampNeg (0 : Int32)) ((4 : Int32)).toNatClampNeg (2 : Int32)) ((5 : Int32)).toNatClampNeg (4 : Int32)) (own_up (own_up (own_up (own_up (own_up (own_up (own_up (own_up (own_up (own_up (fun _ => 0) ((0 : Int32)).toNatClampNeg (nar .boolean (1 : Int32))) ((1 : Int32)).toNatClampNeg (nar .boolean (0 : Int32))) ((2 : Int32)).toNatClampNeg (nar .boolean (0 : Int32))) ((3 : Int32)).toNatClampNeg (nar .boolean (0 : Int32))) ((4 : Int32)).toNatClampNeg (nar .boolean (0 : Int32))) ((5 : Int32)).toNatClampNeg (nar .boolean (0 : Int32))) ((1 : Int32)).toNatClampNeg (nar .boolean p1)) ((2 : Int32)).toNatClampNeg (nar .boolean p2)) ((3 : Int32)).toNatClampNeg (nar .boolean p3)) ((5 : Int32)).toNatClampNeg (nar .boolean p4)) (1 : Int32)) (2 : Int32)) (3 : Int32)) (4 : Int32)) (5 : Int32)) (5 : Int32)) = rE := fin.2.2.2.2.2
  refine own_by (B := T48.setTop (mkF m 284 #[.val (.int i0), .val (.int p1), .val (.int p2), .val (.int p3), .val (.int p4), .val (.ref b11), .val (.ref b12), .val (.int (1 : Int32)), .val (.int (2 : Int32)), .val (.int (3 : Int32)), .val (.int (4 : Int32)), .val (.int (5 : Int32)), .val (.int p1), .val (.int rB), .val (.int p3), .val (.int rD), .val (.int rE)] [])) (fun t k => XS.icmpNo X48.here hx rfl (hb hby at_281) rfl (teq hc49).2 k) ?_
  refine own_by (B := T48.setTop (mkF m 285 #[.val (.int i0), .val (.int p1), .val (.int p2), .val (.int p3), .val (.int p4), .val (.ref b11), .val (.ref b12), .val (.int (1 : Int32)), .val (.int (2 : Int32)), .val (.int (3 : Int32)), .val (.int (4 : Int32)), .val (.int (5 : Int32)), .val (.int p1), .val (.int rB), .val (.int p3), .val (.int rD), .val (.int rE)] [(.int (1 : Int32))])) (fun t k => XS.iconst X48.here hx rfl (hb hby at_284) k) ?_
  refine own_by (B := T48.setTop (mkF m 289 #[.val (.int i0), .val (.int p1), .val (.int p2), .val (.int p3), .val (.int p4), .val (.ref b11), .val (.ref b12), .val (.int (1 : Int32)), .val (.int (2 : Int32)), .val (.int (3 : Int32)), .val (.int (4 : Int32)), .val (.int (5 : Int32)), .val (.int p1), .val (.int rB), .val (.int p3), .val (.int rD), .val (.int rE)] [(.int (1 : Int32))])) (fun t k => XS.goto X48.here hx rfl (pc0 := 285) (pc' := 289) rfl (hb hby at_285) (by decide) (by decide) k) ?_
  exact own_retN (t := .boolean) (by simp) X48 hx hlk hret (z' := (1 : Int32)) (by decide) (hb hby at_289) ⟨rfl, NF⟩ (by decide) (by decide)
set_option maxRecDepth 65536 in
set_option maxHeartbeats 40000000 in
theorem comes_1 {Post : Tables → Env → Array Value → State → Outcome → State → Prop} (hpost : ∀ tb e args s v u, (limb_1_1.after args s (.returned v) u = true ∧ limb_1_2.after args s (.returned v) u = true ∧ True) → FrameEnd s (.returned v) u (Jvm.fieldLocs frame_1_writes args s ++ Jvm.arrayLocs frame_1_arrays args s ++ Jvm.staticLocs frame_1_statics s) 24 512 → Post tb e args s (.returned v) u) :
    ArmFor flags0 classFile x code maxLocals ret World_1 tables_1 room_1 Calls_1 rest_1 Pre_1 Post := by
  intro l hfl _ _ p e ha hc hk s m args below hf hA hF happ hP
  obtain ⟨hcalls, hrest, hpre⟩ := hP
  obtain ⟨-, -, -, hnamed, -, -, -, hat⟩ := (Spec.applies_iff hf).mp happ
  obtain ⟨hg, hn⟩ := and_e (Cond.before_iff.mp (show (Jvm.Cond.and given_1 narrow_1).before args s = true from hpre))
  obtain ⟨gg1, gg2⟩ := and_e hg
  obtain ⟨w0, rfl⟩ : ∃ w0 : Value, args = #[w0] := by
    have hs : args.size = 1 := by simpa [Cond.value, given_1] using gg1
    obtain ⟨L⟩ := args
    match L, hs with
    | [w0], _ => exact ⟨w0, rfl⟩
  have hw := fun d (hd : d ∈ tables_1) => atoms_spec (ws := Jvm.Cond.code x code maxLocals ret :: tables_1) hat d (List.mem_cons_of_mem _ hd)
  obtain ⟨i0, ei0⟩ := is_v gg2
  obtain rfl : w0 = (.int i0) := Option.some.inj ei0
  obtain ⟨n, o, h1, h2, h3, _, L, rfl, ⟨rfl, N⟩, hq⟩ := rm0 l s _ hw tables_1 i0 s.heap s.heap.size (Nat.le_refl _) p e ha hc hk s m _ below hf ((Spec.applies_iff_loose hf).mp happ).1 ⟨rfl, State.Warmed39.refl s, rfl⟩ trivial
  refine ⟨n, _, h1, h2, h3, hpost _ _ _ _ _ _ ⟨Cond.after_iff.mpr rfl, Cond.after_iff.mpr (eq_i res_at (Term.int_eval (1)) rfl), trivial⟩ ⟨hq.1, hq.2.1, (hq.2.2.sift fun y hy => Or.inr (N y hy)).mono (by decide) (by decide)⟩⟩
theorem main_1_1 : Claimed_1_1 := comes_1 fun _ _ _ _ _ _ h hF => ⟨h.1, hF⟩
theorem main_1_2 : Claimed_1_2 := comes_1 fun _ _ _ _ _ _ h hF => ⟨h.2.1, hF⟩
end Jvm.Pilot.@@N@@
namespace Jvm.Pilot.@@N@@
open Jvm Jvm.ClassFile Sem Op Lib Jvm.Free Jvm.Stand Jvm.Pilot.@@N@@.Jvm.D
/-! MADE BY PROGRAM (witnessworld.py) out of the Statement's table words and the real class files: 15 classes; the members and pool entries that the words name. The judged class is class 1, her method 1. -/
namespace start1
open Jvm.ClassFile
def u (s : String) : CpInfo := .utf8 (stringToUtf16 s)
/-- a pool by its gaps: so many unusable entries, then the entry; so many at the end -/
def gap : Nat → List CpInfo → List CpInfo
  | 0, r => r
  | n + 1, r => .unusable :: gap n r
def poolList (es : List (Nat × CpInfo)) (last : Nat) : List CpInfo := es.foldr (fun e r => gap e.1 (e.2 :: r)) (gap last [])
def pool (es : List (Nat × CpInfo)) (last : Nat) : Array CpInfo := ⟨poolList es last⟩
def fileOf (pool : Array CpInfo) (this : Nat) (attrs : Array Attribute := #[]) (ms : Array MethodInfo := #[]) (fl : Nat := 33) (sup : Nat := 0) (ifs : Array Nat := #[]) (fds : Array FieldInfo := #[]) : ClassFile where
  minorVersion := 0
  majorVersion := 65
  constantPool := pool
  accessFlags := fl
  thisClass := this
  superClass := sup
  interfaces := ifs
  fields := fds
  methods := ms
  attributes := attrs
def plain (name : String) (sup : Option ClassId) : Class where
  name := name
  kind := .ordinary
  loader := none
  accessFlags := 33
  super := sup
  interfaces := #[]
  cf := none
  fields := #[]
  methods := #[]
  instanceTypes := #[]
  staticTypes := #[]
  resolved := #[]
  callSites := []
  init := .initialized
  statics := none
  mirror := none

def pool0 : Array CpInfo := pool [(5, u "<init>"), (0, u "()V"), (1, .class_ 10), (1, u "java/lang/Object")] 113

def k0c0 : Code := { maxStack := 0, maxLocals := 1, code := object_method_1_code, exceptionTable := #[], attributes := #[] }
def k0m0 : Method := { name := "<init>", desc := "()V", sig := { parameters := [], returnType := none }, accessFlags := 1, code := some k0c0 }
/-- java/lang/Object -/
def k0 : Class := { plain "java/lang/Object" none with
  accessFlags := 33
  interfaces := #[]
  cf := some (fileOf pool0 8 #[] #[{ accessFlags := 1, nameIndex := 5, descriptorIndex := 6, attributes := #[] }] 33 0 #[] #[])
  fields := #[]
  methods := #[k0m0]
  instanceTypes := #[]
  staticTypes := #[]
  resolved := Array.replicate 124 none
  statics := none }

def pool1 : Array CpInfo := pool [(2, .class_ 4), (1, u "java/lang/Object"), (0, u "<init>"), (0, u "()V"), (0, .class_ 8), (0, u "com/example/myriad_paths/myriadpaths/DocumentMemory"), (0, .long 1073741824), (1, .methodref 7 12), (0, .nameAndType 5 13), (0, u "(J)V"), (0, .methodref 7 15), (0, .nameAndType 16 17), (0, u "share"), (0, u "()Lcom/example/myriad_paths/myriadpaths/DocumentMemory$Share;"), (0, .class_ 19), (0, u "com/example/myriad_paths/myriadpaths/Conditions"), (0, .methodref 18 21), (0, .nameAndType 5 22), (0, u "(Lcom/example/myriad_paths/myriadpaths/DocumentMemory$Share;)V"), (0, .methodref 18 24), (0, .nameAndType 25 26), (0, u "await"), (0, u "(I)I"), (0, .methodref 18 28), (0, .nameAndType 29 30), (0, u "either"), (0, u "(II)I"), (0, .methodref 18 32), (0, .nameAndType 33 34), (0, u "decide"), (0, u "(IZ)V"), (0, .methodref 18 36), (0, .nameAndType 37 6), (0, u "settle"), (0, .methodref 18 39), (0, .nameAndType 40 41), (0, u "holds"), (0, u "(I)Z"), (0, .class_ 43), (0, u "com/example/myriad_paths/myriadpaths/ConditionsSettlePinLaw"), (2, u "law")] 7

def k1m0 : Method := { name := "<init>", desc := "()V", sig := { parameters := [], returnType := none }, accessFlags := 1, code := none }
def k1c1 : Code := { maxStack := 4, maxLocals := 17, code := code, exceptionTable := #[], attributes := #[] }
def k1m1 : Method := { name := "law", desc := "(I)Z", sig := { parameters := [.int], returnType := some .boolean }, accessFlags := 9, code := some k1c1 }
/-- com/example/myriad_paths/myriadpaths/ConditionsSettlePinLaw -/
def k1 : Class := { plain "com/example/myriad_paths/myriadpaths/ConditionsSettlePinLaw" (some 0) with
  accessFlags := 49
  interfaces := #[]
  cf := some (fileOf pool1 42 #[] #[{ accessFlags := 1, nameIndex := 5, descriptorIndex := 6, attributes := #[] }, { accessFlags := 9, nameIndex := 46, descriptorIndex := 41, attributes := #[] }] 49 2 #[] #[])
  fields := #[]
  methods := #[k1m0, k1m1]
  instanceTypes := #[]
  staticTypes := #[]
  resolved := Array.replicate 54 none
  statics := none }

def pool2 : Array CpInfo := pool [(3, .methodref 4 5), (0, .class_ 6), (0, .nameAndType 7 8), (0, u "java/lang/Object"), (0, u "<init>"), (0, u "()V"), (0, .class_ 10), (0, u "java/util/concurrent/atomic/AtomicLong"), (0, .methodref 9 5), (0, .fieldref 13 14), (0, .class_ 15), (0, .nameAndType 16 17), (0, u "com/example/myriad_paths/myriadpaths/DocumentMemory"), (0, u "held"), (0, u "Ljava/util/concurrent/atomic/AtomicLong;"), (0, .fieldref 13 19), (0, .nameAndType 20 21), (0, u "limit"), (0, u "J"), (0, .class_ 23), (0, u "com/example/myriad_paths/myriadpaths/DocumentMemory$Share"), (0, .methodref 22 25), (0, .nameAndType 7 26), (0, u "(Lcom/example/myriad_paths/myriadpaths/DocumentMemory;)V"), (14, u "(J)V"), (2, u "PROCESS"), (0, u "Lcom/example/myriad_paths/myriadpaths/DocumentMemory;"), (4, u "REFERENCE_BYTES"), (0, u "I"), (0, u "STRING_BYTES"), (2, u "STEP"), (2, u "LONGEST_ARRAY"), (3, u "share"), (0, u "()Lcom/example/myriad_paths/myriadpaths/DocumentMemory$Share;"), (5, .class_ 70), (0, u "com/example/myriad_paths/myriadpaths/DocumentMemory$Exhausted")] 3

def k2c0 : Code := { maxStack := 3, maxLocals := 3, code := prog_36_method_1_code, exceptionTable := #[], attributes := #[] }
def k2m0 : Method := { name := "<init>", desc := "(J)V", sig := { parameters := [.long], returnType := none }, accessFlags := 0, code := some k2c0 }
def k2c1 : Code := { maxStack := 3, maxLocals := 1, code := prog_36_method_2_code, exceptionTable := #[], attributes := #[] }
def k2m1 : Method := { name := "share", desc := "()Lcom/example/myriad_paths/myriadpaths/DocumentMemory$Share;", sig := { parameters := [], returnType := some (.object "com/example/myriad_paths/myriadpaths/DocumentMemory$Share") }, accessFlags := 0, code := some k2c1 }
/-- com/example/myriad_paths/myriadpaths/DocumentMemory -/
def k2 : Class := { plain "com/example/myriad_paths/myriadpaths/DocumentMemory" (some 0) with
  accessFlags := 48
  interfaces := #[]
  cf := some (fileOf pool2 13 #[.nestMembers #[69, 22]] #[{ accessFlags := 0, nameIndex := 7, descriptorIndex := 41, attributes := #[] }, { accessFlags := 0, nameIndex := 62, descriptorIndex := 63, attributes := #[] }] 48 4 #[] #[{ accessFlags := 24, nameIndex := 44, descriptorIndex := 45, attributes := #[] }, { accessFlags := 24, nameIndex := 50, descriptorIndex := 51, attributes := #[] }, { accessFlags := 24, nameIndex := 52, descriptorIndex := 51, attributes := #[] }, { accessFlags := 26, nameIndex := 55, descriptorIndex := 21, attributes := #[] }, { accessFlags := 26, nameIndex := 58, descriptorIndex := 51, attributes := #[] }, { accessFlags := 18, nameIndex := 20, descriptorIndex := 21, attributes := #[] }, { accessFlags := 18, nameIndex := 16, descriptorIndex := 17, attributes := #[] }])
  fields := #[{ name := "PROCESS", type := (.object "com/example/myriad_paths/myriadpaths/DocumentMemory"), accessFlags := 24, slot := 0, constantValue := 0 }, { name := "REFERENCE_BYTES", type := .int, accessFlags := 24, slot := 1, constantValue := 0 }, { name := "STRING_BYTES", type := .int, accessFlags := 24, slot := 2, constantValue := 0 }, { name := "STEP", type := .long, accessFlags := 26, slot := 3, constantValue := 0 }, { name := "LONGEST_ARRAY", type := .int, accessFlags := 26, slot := 4, constantValue := 0 }, { name := "limit", type := .long, accessFlags := 18, slot := 0, constantValue := 0 }, { name := "held", type := (.object "java/util/concurrent/atomic/AtomicLong"), accessFlags := 18, slot := 1, constantValue := 0 }]
  methods := #[k2m0, k2m1]
  instanceTypes := #[.long, (.object "java/util/concurrent/atomic/AtomicLong")]
  staticTypes := #[(.object "com/example/myriad_paths/myriadpaths/DocumentMemory"), .int, .int, .long, .int]
  resolved := Array.replicate 74 none
  statics := none }

def pool3 : Array CpInfo := pool [(1, .class_ 2), (0, u "java/io/Serializable"), (0, .class_ 4), (0, u "java/lang/Object")] 2

/-- java/io/Serializable -/
def k3 : Class := { plain "java/io/Serializable" (some 0) with
  accessFlags := 1537
  interfaces := #[]
  cf := some (fileOf pool3 1 #[] #[] 1537 3 #[] #[])
  fields := #[]
  methods := #[]
  instanceTypes := #[]
  staticTypes := #[]
  resolved := Array.replicate 7 none
  statics := none }

def pool4 : Array CpInfo := pool [(1, .methodref 2 3), (0, .class_ 4), (0, .nameAndType 5 6), (0, u "java/lang/Object"), (0, u "<init>"), (0, u "()V"), (1, .class_ 10), (1, u "java/lang/Number"), (2, .class_ 14), (0, u "java/io/Serializable"), (0, u "serialVersionUID"), (0, u "J")] 20

def k4c0 : Code := { maxStack := 1, maxLocals := 1, code := jdk_18_method_1_code, exceptionTable := #[], attributes := #[] }
def k4m0 : Method := { name := "<init>", desc := "()V", sig := { parameters := [], returnType := none }, accessFlags := 1, code := some k4c0 }
/-- java/lang/Number -/
def k4 : Class := { plain "java/lang/Number" (some 0) with
  accessFlags := 1057
  interfaces := #[3]
  cf := some (fileOf pool4 8 #[] #[{ accessFlags := 1, nameIndex := 5, descriptorIndex := 6, attributes := #[] }] 1057 2 #[13] #[{ accessFlags := 26, nameIndex := 15, descriptorIndex := 16, attributes := #[] }])
  fields := #[{ name := "serialVersionUID", type := .long, accessFlags := 26, slot := 0, constantValue := 0 }]
  methods := #[k4m0]
  instanceTypes := #[]
  staticTypes := #[.long]
  resolved := Array.replicate 37 none
  statics := none }

def pool5 : Array CpInfo := pool [(1, .methodref 2 3), (0, .class_ 4), (0, .nameAndType 5 6), (0, u "java/lang/Number"), (0, u "<init>"), (0, u "()V"), (1, .class_ 10), (1, u "java/util/concurrent/atomic/AtomicLong"), (0, u "value"), (0, u "J"), (2, u "U"), (0, u "Ljdk/internal/misc/Unsafe;"), (2, u "VALUE"), (91, u "VM_SUPPORTS_LONG_CAS"), (0, u "Z"), (9, .class_ 123), (0, u "java/io/Serializable"), (0, u "serialVersionUID")] 67

def k5c0 : Code := { maxStack := 1, maxLocals := 1, code := jdk_2805_method_3_code, exceptionTable := #[], attributes := #[] }
def k5m0 : Method := { name := "<init>", desc := "()V", sig := { parameters := [], returnType := none }, accessFlags := 1, code := some k5c0 }
/-- java/util/concurrent/atomic/AtomicLong -/
def k5 : Class := { plain "java/util/concurrent/atomic/AtomicLong" (some 4) with
  accessFlags := 33
  interfaces := #[3]
  cf := some (fileOf pool5 8 #[] #[{ accessFlags := 1, nameIndex := 5, descriptorIndex := 6, attributes := #[] }] 33 2 #[122] #[{ accessFlags := 26, nameIndex := 124, descriptorIndex := 12, attributes := #[] }, { accessFlags := 24, nameIndex := 111, descriptorIndex := 112, attributes := #[] }, { accessFlags := 26, nameIndex := 15, descriptorIndex := 16, attributes := #[] }, { accessFlags := 26, nameIndex := 19, descriptorIndex := 12, attributes := #[] }, { accessFlags := 66, nameIndex := 11, descriptorIndex := 12, attributes := #[] }])
  fields := #[{ name := "serialVersionUID", type := .long, accessFlags := 26, slot := 0, constantValue := 0 }, { name := "VM_SUPPORTS_LONG_CAS", type := .boolean, accessFlags := 24, slot := 1, constantValue := 0 }, { name := "U", type := (.object "jdk/internal/misc/Unsafe"), accessFlags := 26, slot := 2, constantValue := 0 }, { name := "VALUE", type := .long, accessFlags := 26, slot := 3, constantValue := 0 }, { name := "value", type := .long, accessFlags := 66, slot := 0, constantValue := 0 }]
  methods := #[k5m0]
  instanceTypes := #[.long]
  staticTypes := #[.long, .boolean, (.object "jdk/internal/misc/Unsafe"), .long]
  resolved := Array.replicate 192 none
  statics := none }

def pool6 : Array CpInfo := pool [(1, .class_ 2), (0, u "com/example/myriad_paths/myriadpaths/DocumentMemory"), (0, .fieldref 4 5), (0, .class_ 6), (0, .nameAndType 7 8), (0, u "com/example/myriad_paths/myriadpaths/DocumentMemory$Share"), (0, u "this$0"), (0, u "Lcom/example/myriad_paths/myriadpaths/DocumentMemory;"), (0, .methodref 10 11), (0, .class_ 12), (0, .nameAndType 13 14), (0, u "java/lang/Object"), (0, u "<init>"), (0, u "()V"), (2, u "counted"), (0, u "J"), (2, u "holding"), (49, u "(Lcom/example/myriad_paths/myriadpaths/DocumentMemory;)V")] 16

def k6c0 : Code := { maxStack := 2, maxLocals := 2, code := prog_38_method_1_code, exceptionTable := #[], attributes := #[] }
def k6m0 : Method := { name := "<init>", desc := "(Lcom/example/myriad_paths/myriadpaths/DocumentMemory;)V", sig := { parameters := [(.object "com/example/myriad_paths/myriadpaths/DocumentMemory")], returnType := none }, accessFlags := 0, code := some k6c0 }
/-- com/example/myriad_paths/myriadpaths/DocumentMemory$Share -/
def k6 : Class := { plain "com/example/myriad_paths/myriadpaths/DocumentMemory$Share" (some 0) with
  accessFlags := 48
  interfaces := #[]
  cf := some (fileOf pool6 4 #[.nestHost 1] #[{ accessFlags := 0, nameIndex := 13, descriptorIndex := 71, attributes := #[] }] 48 10 #[] #[{ accessFlags := 2, nameIndex := 17, descriptorIndex := 18, attributes := #[] }, { accessFlags := 2, nameIndex := 21, descriptorIndex := 18, attributes := #[] }, { accessFlags := 4112, nameIndex := 7, descriptorIndex := 8, attributes := #[] }])
  fields := #[{ name := "counted", type := .long, accessFlags := 2, slot := 0, constantValue := 0 }, { name := "holding", type := .long, accessFlags := 2, slot := 1, constantValue := 0 }, { name := "this$0", type := (.object "com/example/myriad_paths/myriadpaths/DocumentMemory"), accessFlags := 4112, slot := 2, constantValue := 0 }]
  methods := #[k6m0]
  instanceTypes := #[.long, .long, (.object "com/example/myriad_paths/myriadpaths/DocumentMemory")]
  staticTypes := #[]
  resolved := Array.replicate 88 none
  statics := none }

def pool7 : Array CpInfo := pool [(3, .methodref 4 5), (0, .class_ 6), (0, .nameAndType 7 8), (0, u "java/lang/Object"), (0, u "<init>"), (0, u "()V"), (0, .fieldref 10 11), (0, .class_ 12), (0, .nameAndType 13 14), (0, u "com/example/myriad_paths/myriadpaths/Conditions"), (0, u "first"), (0, u "[I"), (0, .fieldref 10 16), (0, .nameAndType 17 14), (0, u "other"), (0, .fieldref 10 19), (0, .nameAndType 20 21), (0, u "holds"), (0, u "[Z"), (0, .fieldref 10 23), (0, .nameAndType 24 25), (0, u "memory"), (0, u "Lcom/example/myriad_paths/myriadpaths/DocumentMemory$Share;"), (0, .methodref 10 27), (0, .nameAndType 28 8), (0, u "reset"), (0, .fieldref 10 30), (0, .nameAndType 31 32), (0, u "count"), (0, u "I"), (0, .methodref 10 34), (0, .nameAndType 35 36), (0, u "add"), (0, u "(II)I"), (14, u "TRUE"), (2, u "DECIDED_LATER"), (1, u "CONDITION_BYTES"), (1, u "(Lcom/example/myriad_paths/myriadpaths/DocumentMemory$Share;)V"), (2, u "await"), (0, u "(I)I"), (0, u "decide"), (0, u "(IZ)V"), (0, u "either"), (1, u "settle"), (1, u "(I)Z")] 6

def k7c0 : Code := { maxStack := 2, maxLocals := 2, code := prog_17_method_1_code, exceptionTable := #[], attributes := #[] }
def k7m0 : Method := { name := "<init>", desc := "(Lcom/example/myriad_paths/myriadpaths/DocumentMemory$Share;)V", sig := { parameters := [(.object "com/example/myriad_paths/myriadpaths/DocumentMemory$Share")], returnType := none }, accessFlags := 0, code := some k7c0 }
def k7c1 : Code := { maxStack := 3, maxLocals := 1, code := prog_17_method_2_code, exceptionTable := #[], attributes := #[] }
def k7m1 : Method := { name := "reset", desc := "()V", sig := { parameters := [], returnType := none }, accessFlags := 0, code := some k7c1 }
def k7c2 : Code := { maxStack := 3, maxLocals := 2, code := prog_17_method_3_code, exceptionTable := #[], attributes := #[] }
def k7m2 : Method := { name := "await", desc := "(I)I", sig := { parameters := [.int], returnType := some .int }, accessFlags := 0, code := some k7c2 }
def k7c3 : Code := { maxStack := 3, maxLocals := 3, code := prog_17_method_4_code, exceptionTable := #[], attributes := #[] }
def k7m3 : Method := { name := "decide", desc := "(IZ)V", sig := { parameters := [.int, .boolean], returnType := none }, accessFlags := 0, code := some k7c3 }
def k7c4 : Code := { maxStack := 3, maxLocals := 4, code := prog_17_method_5_code, exceptionTable := #[], attributes := #[] }
def k7m4 : Method := { name := "either", desc := "(II)I", sig := { parameters := [.int, .int], returnType := some .int }, accessFlags := 0, code := some k7c4 }
def k7c5 : Code := { maxStack := 5, maxLocals := 2, code := prog_17_method_6_code, exceptionTable := #[], attributes := #[] }
def k7m5 : Method := { name := "settle", desc := "()V", sig := { parameters := [], returnType := none }, accessFlags := 0, code := some k7c5 }
def k7c6 : Code := { maxStack := 2, maxLocals := 2, code := prog_17_method_7_code, exceptionTable := #[], attributes := #[] }
def k7m6 : Method := { name := "holds", desc := "(I)Z", sig := { parameters := [.int], returnType := some .boolean }, accessFlags := 0, code := some k7c6 }
def k7c7 : Code := { maxStack := 4, maxLocals := 4, code := prog_17_method_8_code, exceptionTable := #[], attributes := #[] }
def k7m7 : Method := { name := "add", desc := "(II)I", sig := { parameters := [.int, .int], returnType := some .int }, accessFlags := 2, code := some k7c7 }
/-- com/example/myriad_paths/myriadpaths/Conditions -/
def k7 : Class := { plain "com/example/myriad_paths/myriadpaths/Conditions" (some 0) with
  accessFlags := 48
  interfaces := #[]
  cf := some (fileOf pool7 10 #[] #[{ accessFlags := 0, nameIndex := 7, descriptorIndex := 58, attributes := #[] }, { accessFlags := 0, nameIndex := 28, descriptorIndex := 8, attributes := #[] }, { accessFlags := 0, nameIndex := 61, descriptorIndex := 62, attributes := #[] }, { accessFlags := 0, nameIndex := 63, descriptorIndex := 64, attributes := #[] }, { accessFlags := 0, nameIndex := 65, descriptorIndex := 36, attributes := #[] }, { accessFlags := 0, nameIndex := 67, descriptorIndex := 8, attributes := #[] }, { accessFlags := 0, nameIndex := 20, descriptorIndex := 69, attributes := #[] }, { accessFlags := 2, nameIndex := 35, descriptorIndex := 36, attributes := #[] }] 48 4 #[] #[{ accessFlags := 24, nameIndex := 51, descriptorIndex := 32, attributes := #[] }, { accessFlags := 26, nameIndex := 54, descriptorIndex := 32, attributes := #[] }, { accessFlags := 26, nameIndex := 56, descriptorIndex := 32, attributes := #[] }, { accessFlags := 18, nameIndex := 24, descriptorIndex := 25, attributes := #[] }, { accessFlags := 2, nameIndex := 13, descriptorIndex := 14, attributes := #[] }, { accessFlags := 2, nameIndex := 17, descriptorIndex := 14, attributes := #[] }, { accessFlags := 2, nameIndex := 20, descriptorIndex := 21, attributes := #[] }, { accessFlags := 2, nameIndex := 31, descriptorIndex := 32, attributes := #[] }])
  fields := #[{ name := "TRUE", type := .int, accessFlags := 24, slot := 0, constantValue := 0 }, { name := "DECIDED_LATER", type := .int, accessFlags := 26, slot := 1, constantValue := 0 }, { name := "CONDITION_BYTES", type := .int, accessFlags := 26, slot := 2, constantValue := 0 }, { name := "memory", type := (.object "com/example/myriad_paths/myriadpaths/DocumentMemory$Share"), accessFlags := 18, slot := 0, constantValue := 0 }, { name := "first", type := (.array .int), accessFlags := 2, slot := 1, constantValue := 0 }, { name := "other", type := (.array .int), accessFlags := 2, slot := 2, constantValue := 0 }, { name := "holds", type := (.array .boolean), accessFlags := 2, slot := 3, constantValue := 0 }, { name := "count", type := .int, accessFlags := 2, slot := 4, constantValue := 0 }]
  methods := #[k7m0, k7m1, k7m2, k7m3, k7m4, k7m5, k7m6, k7m7]
  instanceTypes := #[(.object "com/example/myriad_paths/myriadpaths/DocumentMemory$Share"), (.array .int), (.array .int), (.array .boolean), .int]
  staticTypes := #[.int, .int, .int]
  resolved := Array.replicate 76 none
  statics := none }

def pool8 : Array CpInfo := pool [(1, u "java/lang/Cloneable"), (0, .class_ 1), (0, u "java/lang/Object"), (0, .class_ 3)] 3

/-- java/lang/Cloneable -/
def k8 : Class := { plain "java/lang/Cloneable" (some 0) with
  accessFlags := 1537
  interfaces := #[]
  cf := some (fileOf pool8 2 #[] #[] 1537 4 #[] #[])
  fields := #[]
  methods := #[]
  instanceTypes := #[]
  staticTypes := #[]
  resolved := Array.replicate 8 none
  statics := none }

/-- the primitive boolean -/
def k9 : Class := { plain "boolean" none with kind := .primitive 'Z', accessFlags := 0x411 }
/-- [Z -/
def k10 : Class := { plain "[Z" (some 0) with kind := .array 9 .boolean, interfaces := #[8, 3], accessFlags := 1041 }

/-- the primitive byte -/
def k11 : Class := { plain "byte" none with kind := .primitive 'B', accessFlags := 0x411 }
/-- [B -/
def k12 : Class := { plain "[B" (some 0) with kind := .array 11 .byte, interfaces := #[8, 3], accessFlags := 1041 }

/-- the primitive int -/
def k13 : Class := { plain "int" none with kind := .primitive 'I', accessFlags := 0x411 }
/-- [I -/
def k14 : Class := { plain "[I" (some 0) with kind := .array 13 .int, interfaces := #[8, 3], accessFlags := 1041 }

def heap : Heap := #[]
def classes : Array Class := #[k0, k1, k2, k3, k4, k5, k6, k7, k8, k9, k10, k11, k12, k13, k14]
def interned : List (Array UInt16 × Addr) := []
def slotsUsed : Nat := 0
def theMethod : MethodId := ⟨1, 1⟩
def args0 : Array Value := #[.int 5]
def aboutOver (below : List Frame) : State where
  vm := { classes := classes, interned := interned.toArray }
  heap := heap
  slotsUsed := slotsUsed
  threads := #[{ frames := .invoking theMethod args0 :: below }]
def below0 : List Frame := [.native { method := ⟨0, 0⟩, args := #[] }]
def about1 : State := aboutOver below0
def p0 : Program := .bare "" "" ""
def e0 : Env := launch0.env 0 0 0
theorem w_frames : about1.frames = Frame.invoking theMethod args0 :: below0 := rfl
set_option maxRecDepth 65536 in
theorem w_args : argsFit about1.vm theMethod args0 = true := by decide +kernel
set_option maxRecDepth 65536 in
theorem w_heap : heapFits about1 = true := by decide +kernel
set_option maxRecDepth 65536 in
theorem w_runnable : about1.curStatus? = some .runnable := by decide +kernel
set_option maxRecDepth 65536 in
theorem w_alone : about1.alone = true := by decide +kernel
set_option maxRecDepth 65536 in
theorem w_named : about1.methodNamed? x = some theMethod := by decide +kernel
set_option maxRecDepth 65536 in
theorem w_hears : about1.hears theMethod below0 = true := by decide +kernel
set_option maxRecDepth 65536 in
theorem w_ripe : about1.ripe theMethod args0 below0 = true := by decide +kernel
theorem w_running : about1.status = .running := rfl
set_option maxRecDepth 65536 in
theorem w_room : about1.hasRoom e0.platform room_1 = true :=
  launch0.hasRoom_least _ room_1 (by decide +kernel) (by decide +kernel) (by decide +kernel) (by decide +kernel) (by decide +kernel) (by decide +kernel)
theorem allAtoms_all (ts : List Jvm.Cond) (a : Array Jvm.Value) (st : Jvm.State) : (allAtoms ts).before a st = ts.all (fun c => c.before a st) := by
  induction ts with
  | nil => rfl
  | cons c t ih =>
    show (Jvm.Cond.and c (allAtoms t)).before a st = _
    rw [Jvm.Cond.before_and, ih, List.all_cons]
def words1 : List Jvm.Cond := Jvm.Cond.code x code maxLocals ret :: tables_1
/-- a 'code' word, met by the world's own term for the bytes: nothing is compared byte by byte -/
theorem code_word {y : MethodName} {bytes : ByteArray} {mx : Nat} {rt : Option FieldType} {a : Array Value} {s : State} {m : MethodId} {meth : Method} {c : Code} (h1 : s.methodNamed? y = some m) (h2 : s.vm.method? m = some meth) (h3 : meth.code = some c) (h4 : c.code = bytes)
    (h5 : (c.maxLocals == mx && c.exceptionTable.isEmpty && decide (c.maxStack ≤ mostOperands) && decide (meth.sig.returnType = rt) && !meth.locks && decide (parseMethodDescriptor y.desc = some meth.sig)) = true) : (Jvm.Cond.code y bytes mx rt).before a s = true := by
  simp only [Bool.and_eq_true, beq_iff_eq, Bool.not_eq_true', decide_eq_true_eq] at h5
  obtain ⟨⟨⟨⟨⟨g1, g2⟩, g3⟩, g4⟩, g5⟩, g6⟩ := h5
  simp [Cond.before, Cond.holds, Cond.value, h1, h2, h3, h4, g1, g2, g3, g4, g5, g6]
def isCode : Jvm.Cond → Bool
  | .code _ _ _ _ => true
  | _ => false
theorem all_split {L : List Jvm.Cond} {P : Jvm.Cond → Bool} (h1 : L.all (fun c => isCode c || P c) = true) (h2 : ∀ c ∈ L.filter isCode, P c = true) : L.all P = true := by
  refine List.all_eq_true.mpr fun c hc => ?_
  have h := List.all_eq_true.mp h1 c hc
  rcases Bool.eq_false_or_eq_true (isCode c) with hi | hi
  · exact h2 c (List.mem_filter.mpr ⟨hc, hi⟩)
  · simpa [hi] using h
set_option maxRecDepth 65536 in
theorem w_c0 : (Jvm.Cond.code x code maxLocals ret).before args0 about1 = true := code_word (m := ⟨1, 1⟩) (meth := k1m1) (c := k1c1) (by decide +kernel) rfl rfl rfl (by decide +kernel)
set_option maxRecDepth 65536 in
theorem w_c1 : (Jvm.Cond.code ({ cls := "com/example/myriad_paths/myriadpaths/DocumentMemory", name := "<init>", desc := "(J)V" } : Jvm.MethodName) prog_36_method_1_code (3 : Nat) (Option.none : Option Jvm.ClassFile.FieldType)).before args0 about1 = true := code_word (m := ⟨2, 0⟩) (meth := k2m0) (c := k2c0) (by decide +kernel) rfl rfl rfl (by decide +kernel)
set_option maxRecDepth 65536 in
theorem w_c2 : (Jvm.Cond.code ({ cls := "java/lang/Object", name := "<init>", desc := "()V" } : Jvm.MethodName) object_method_1_code (1 : Nat) (Option.none : Option Jvm.ClassFile.FieldType)).before args0 about1 = true := code_word (m := ⟨0, 0⟩) (meth := k0m0) (c := k0c0) (by decide +kernel) rfl rfl rfl (by decide +kernel)
set_option maxRecDepth 65536 in
theorem w_c3 : (Jvm.Cond.code ({ cls := "java/util/concurrent/atomic/AtomicLong", name := "<init>", desc := "()V" } : Jvm.MethodName) jdk_2805_method_3_code (1 : Nat) (Option.none : Option Jvm.ClassFile.FieldType)).before args0 about1 = true := code_word (m := ⟨5, 0⟩) (meth := k5m0) (c := k5c0) (by decide +kernel) rfl rfl rfl (by decide +kernel)
set_option maxRecDepth 65536 in
theorem w_c4 : (Jvm.Cond.code ({ cls := "java/lang/Number", name := "<init>", desc := "()V" } : Jvm.MethodName) jdk_18_method_1_code (1 : Nat) (Option.none : Option Jvm.ClassFile.FieldType)).before args0 about1 = true := code_word (m := ⟨4, 0⟩) (meth := k4m0) (c := k4c0) (by decide +kernel) rfl rfl rfl (by decide +kernel)
set_option maxRecDepth 65536 in
theorem w_c5 : (Jvm.Cond.code ({ cls := "com/example/myriad_paths/myriadpaths/DocumentMemory", name := "share", desc := "()Lcom/example/myriad_paths/myriadpaths/DocumentMemory$Share;" } : Jvm.MethodName) prog_36_method_2_code (1 : Nat) (Option.some (Jvm.ClassFile.FieldType.object "com/example/myriad_paths/myriadpaths/DocumentMemory$Share"))).before args0 about1 = true := code_word (m := ⟨2, 1⟩) (meth := k2m1) (c := k2c1) (by decide +kernel) rfl rfl rfl (by decide +kernel)
set_option maxRecDepth 65536 in
theorem w_c6 : (Jvm.Cond.code ({ cls := "com/example/myriad_paths/myriadpaths/DocumentMemory$Share", name := "<init>", desc := "(Lcom/example/myriad_paths/myriadpaths/DocumentMemory;)V" } : Jvm.MethodName) prog_38_method_1_code (2 : Nat) (Option.none : Option Jvm.ClassFile.FieldType)).before args0 about1 = true := code_word (m := ⟨6, 0⟩) (meth := k6m0) (c := k6c0) (by decide +kernel) rfl rfl rfl (by decide +kernel)
set_option maxRecDepth 65536 in
theorem w_c7 : (Jvm.Cond.code ({ cls := "com/example/myriad_paths/myriadpaths/Conditions", name := "<init>", desc := "(Lcom/example/myriad_paths/myriadpaths/DocumentMemory$Share;)V" } : Jvm.MethodName) prog_17_method_1_code (2 : Nat) (Option.none : Option Jvm.ClassFile.FieldType)).before args0 about1 = true := code_word (m := ⟨7, 0⟩) (meth := k7m0) (c := k7c0) (by decide +kernel) rfl rfl rfl (by decide +kernel)
set_option maxRecDepth 65536 in
theorem w_c8 : (Jvm.Cond.code ({ cls := "com/example/myriad_paths/myriadpaths/Conditions", name := "reset", desc := "()V" } : Jvm.MethodName) prog_17_method_2_code (1 : Nat) (Option.none : Option Jvm.ClassFile.FieldType)).before args0 about1 = true := code_word (m := ⟨7, 1⟩) (meth := k7m1) (c := k7c1) (by decide +kernel) rfl rfl rfl (by decide +kernel)
set_option maxRecDepth 65536 in
theorem w_c9 : (Jvm.Cond.code ({ cls := "com/example/myriad_paths/myriadpaths/Conditions", name := "await", desc := "(I)I" } : Jvm.MethodName) prog_17_method_3_code (2 : Nat) (Option.some Jvm.ClassFile.FieldType.int)).before args0 about1 = true := code_word (m := ⟨7, 2⟩) (meth := k7m2) (c := k7c2) (by decide +kernel) rfl rfl rfl (by decide +kernel)
set_option maxRecDepth 65536 in
theorem w_c10 : (Jvm.Cond.code ({ cls := "com/example/myriad_paths/myriadpaths/Conditions", name := "add", desc := "(II)I" } : Jvm.MethodName) prog_17_method_8_code (4 : Nat) (Option.some Jvm.ClassFile.FieldType.int)).before args0 about1 = true := code_word (m := ⟨7, 7⟩) (meth := k7m7) (c := k7c7) (by decide +kernel) rfl rfl rfl (by decide +kernel)
set_option maxRecDepth 65536 in
theorem w_c11 : (Jvm.Cond.code ({ cls := "com/example/myriad_paths/myriadpaths/Conditions", name := "either", desc := "(II)I" } : Jvm.MethodName) prog_17_method_5_code (4 : Nat) (Option.some Jvm.ClassFile.FieldType.int)).before args0 about1 = true := code_word (m := ⟨7, 4⟩) (meth := k7m4) (c := k7c4) (by decide +kernel) rfl rfl rfl (by decide +kernel)
set_option maxRecDepth 65536 in
theorem w_c12 : (Jvm.Cond.code ({ cls := "com/example/myriad_paths/myriadpaths/Conditions", name := "decide", desc := "(IZ)V" } : Jvm.MethodName) prog_17_method_4_code (3 : Nat) (Option.none : Option Jvm.ClassFile.FieldType)).before args0 about1 = true := code_word (m := ⟨7, 3⟩) (meth := k7m3) (c := k7c3) (by decide +kernel) rfl rfl rfl (by decide +kernel)
set_option maxRecDepth 65536 in
theorem w_c13 : (Jvm.Cond.code ({ cls := "com/example/myriad_paths/myriadpaths/Conditions", name := "settle", desc := "()V" } : Jvm.MethodName) prog_17_method_6_code (2 : Nat) (Option.none : Option Jvm.ClassFile.FieldType)).before args0 about1 = true := code_word (m := ⟨7, 5⟩) (meth := k7m5) (c := k7c5) (by decide +kernel) rfl rfl rfl (by decide +kernel)
set_option maxRecDepth 65536 in
theorem w_c14 : (Jvm.Cond.code ({ cls := "com/example/myriad_paths/myriadpaths/Conditions", name := "holds", desc := "(I)Z" } : Jvm.MethodName) prog_17_method_7_code (2 : Nat) (Option.some Jvm.ClassFile.FieldType.boolean)).before args0 about1 = true := code_word (m := ⟨7, 6⟩) (meth := k7m6) (c := k7c6) (by decide +kernel) rfl rfl rfl (by decide +kernel)
def codes1 : List Jvm.Cond := [Jvm.Cond.code x code maxLocals ret, Jvm.Cond.code ({ cls := "com/example/myriad_paths/myriadpaths/DocumentMemory", name := "<init>", desc := "(J)V" } : Jvm.MethodName) prog_36_method_1_code (3 : Nat) (Option.none : Option Jvm.ClassFile.FieldType), Jvm.Cond.code ({ cls := "java/lang/Object", name := "<init>", desc := "()V" } : Jvm.MethodName) object_method_1_code (1 : Nat) (Option.none : Option Jvm.ClassFile.FieldType), Jvm.Cond.code ({ cls := "java/util/concurrent/atomic/AtomicLong", name := "<init>", desc := "()V" } : Jvm.MethodName) jdk_2805_method_3_code (1 : Nat) (Option.none : Option Jvm.ClassFile.FieldType), Jvm.Cond.code ({ cls := "java/lang/Number", name := "<init>", desc := "()V" } : Jvm.MethodName) jdk_18_method_1_code (1 : Nat) (Option.none : Option Jvm.ClassFile.FieldType), Jvm.Cond.code ({ cls := "com/example/myriad_paths/myriadpaths/DocumentMemory", name := "share", desc := "()Lcom/example/myriad_paths/myriadpaths/DocumentMemory$Share;" } : Jvm.MethodName) prog_36_method_2_code (1 : Nat) (Option.some (Jvm.ClassFile.FieldType.object "com/example/myriad_paths/myriadpaths/DocumentMemory$Share")), Jvm.Cond.code ({ cls := "com/example/myriad_paths/myriadpaths/DocumentMemory$Share", name := "<init>", desc := "(Lcom/example/myriad_paths/myriadpaths/DocumentMemory;)V" } : Jvm.MethodName) prog_38_method_1_code (2 : Nat) (Option.none : Option Jvm.ClassFile.FieldType), Jvm.Cond.code ({ cls := "com/example/myriad_paths/myriadpaths/Conditions", name := "<init>", desc := "(Lcom/example/myriad_paths/myriadpaths/DocumentMemory$Share;)V" } : Jvm.MethodName) prog_17_method_1_code (2 : Nat) (Option.none : Option Jvm.ClassFile.FieldType), Jvm.Cond.code ({ cls := "com/example/myriad_paths/myriadpaths/Conditions", name := "reset", desc := "()V" } : Jvm.MethodName) prog_17_method_2_code (1 : Nat) (Option.none : Option Jvm.ClassFile.FieldType), Jvm.Cond.code ({ cls := "com/example/myriad_paths/myriadpaths/Conditions", name := "await", desc := "(I)I" } : Jvm.MethodName) prog_17_method_3_code (2 : Nat) (Option.some Jvm.ClassFile.FieldType.int), Jvm.Cond.code ({ cls := "com/example/myriad_paths/myriadpaths/Conditions", name := "add", desc := "(II)I" } : Jvm.MethodName) prog_17_method_8_code (4 : Nat) (Option.some Jvm.ClassFile.FieldType.int), Jvm.Cond.code ({ cls := "com/example/myriad_paths/myriadpaths/Conditions", name := "either", desc := "(II)I" } : Jvm.MethodName) prog_17_method_5_code (4 : Nat) (Option.some Jvm.ClassFile.FieldType.int), Jvm.Cond.code ({ cls := "com/example/myriad_paths/myriadpaths/Conditions", name := "decide", desc := "(IZ)V" } : Jvm.MethodName) prog_17_method_4_code (3 : Nat) (Option.none : Option Jvm.ClassFile.FieldType), Jvm.Cond.code ({ cls := "com/example/myriad_paths/myriadpaths/Conditions", name := "settle", desc := "()V" } : Jvm.MethodName) prog_17_method_6_code (2 : Nat) (Option.none : Option Jvm.ClassFile.FieldType), Jvm.Cond.code ({ cls := "com/example/myriad_paths/myriadpaths/Conditions", name := "holds", desc := "(I)Z" } : Jvm.MethodName) prog_17_method_7_code (2 : Nat) (Option.some Jvm.ClassFile.FieldType.boolean)]
set_option maxRecDepth 65536 in
theorem codes_eq : words1.filter isCode = codes1 := rfl
theorem w_codes : ∀ c ∈ words1.filter isCode, c.before args0 about1 = true := by
  rw [codes_eq]
  intro c hc
  simp only [codes1, List.mem_cons, List.not_mem_nil, or_false] at hc
  rcases hc with rfl | rfl | rfl | rfl | rfl | rfl | rfl | rfl | rfl | rfl | rfl | rfl | rfl | rfl | rfl
  · exact w_c0
  · exact w_c1
  · exact w_c2
  · exact w_c3
  · exact w_c4
  · exact w_c5
  · exact w_c6
  · exact w_c7
  · exact w_c8
  · exact w_c9
  · exact w_c10
  · exact w_c11
  · exact w_c12
  · exact w_c13
  · exact w_c14
set_option maxRecDepth 65536 in
theorem w_t1 : (words1.take 24).all (fun c => isCode c || c.before args0 about1) = true := by decide +kernel
set_option maxRecDepth 65536 in
theorem w_t2 : ((words1.drop 24).take 24).all (fun c => isCode c || c.before args0 about1) = true := by decide +kernel
set_option maxRecDepth 65536 in
theorem w_t3 : (((words1.drop 24).drop 24).take 24).all (fun c => isCode c || c.before args0 about1) = true := by decide +kernel
set_option maxRecDepth 65536 in
theorem w_t4 : (((words1.drop 24).drop 24).drop 24).all (fun c => isCode c || c.before args0 about1) = true := by decide +kernel
theorem w_tables : (allAtoms (Jvm.Cond.code x code maxLocals ret :: tables_1)).before args0 about1 = true := by
  rw [allAtoms_all]
  show words1.all (fun c => c.before args0 about1) = true
  refine all_split ?_ w_codes
  rw [← List.take_append_drop 24 words1, List.all_append, w_t1, ← List.take_append_drop 24 (words1.drop 24), List.all_append, w_t2, ← List.take_append_drop 24 ((words1.drop 24).drop 24), List.all_append, w_t3, w_t4]
  rfl
set_option maxRecDepth 65536 in
theorem w_case : (Jvm.Cond.and given_1 narrow_1).before args0 about1 = true := by decide +kernel
theorem w_applies : (headSpec (Jvm.Cond.code x code maxLocals ret :: tables_1) room_1).applies x e0.platform about1 = true :=
  (Spec.applies_iff w_frames).mpr ⟨w_running, w_runnable, w_alone, w_named, w_hears, w_ripe, w_room, w_tables⟩
theorem atStart : AtStart classFile x code maxLocals ret World_1 tables_1 room_1 Calls_1 rest_1 Pre_1 launch0 p0 e0 about1 theMethod args0 below0 :=
  ⟨lists_1, trivial, launch0.admits_env _ _ _, launch0.least_env, fairChoices_fair.cas, fairChoices_fair.clock, w_frames, w_args, w_heap, w_applies, trivial, trivial, w_case⟩
end start1
theorem witness_1 : WitnessClaimed_1 := ⟨start1.p0, start1.e0, start1.about1, start1.theMethod, start1.args0, start1.below0, start1.atStart⟩
end Jvm.Pilot.@@N@@
