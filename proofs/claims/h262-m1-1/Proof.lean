import JvmDerived
import JvmDerived.Pilot.@@N@@Statement
import JvmDerived.Pilot.@@N@@Code
set_option linter.unusedVariables false
set_option linter.unusedSimpArgs false
namespace Jvm.Pilot.@@N@@
open Jvm Jvm.ClassFile Sem Op Lib Jvm.Free Jvm.Stand Jvm.LawKit Jvm.RoadKit Bundle Jvm.Pilot.@@N@@.Jvm.D
/-! THE OWN KIT: the walk from a state to its end, as one proposition (own_Go); its steps, its leaves, its entry. -/
section OwnKit
variable {p : Program} {l : Launch} {e : Env} {R : Room} {s : State} {m : MethodId} {args : Array Value} {below : List Frame} {meth : Method} {c : Code} {T : State} {locs : List Loc} {cells slots : Nat}
variable {Q : Option Value → Heap → List Loc → Prop} {rc rs : Nat}
/-- from U the run ends in a return, and Q says what it leaves -/
def own_Go (p : Program) (e : Env) (below : List Frame) (s : State) (Q : Option Value → Heap → List Loc → Prop) (rc rs : Nat) (U : State) : Prop :=
  ∃ s₂ o, Steps p.tables e below U s₂ ∧ s₂.status = .running ∧ Ended s₂ below o ∧ ∃ v L, o = .returned v ∧ Q v s₂.heap L ∧ FrameEnd s o s₂ L rc rs
theorem own_by {A B : State} (k : ∀ t, Steps p.tables e below B t → Steps p.tables e below A t) (h : own_Go p e below s Q rc rs B) : own_Go p e below s Q rc rs A := by
  obtain ⟨s₂, o, h1, r⟩ := h
  exact ⟨s₂, o, k _ h1, r⟩
theorem own_imp {Q' : Option Value → Heap → List Loc → Prop} {A : State} (k : ∀ v h L, Q v h L → Q' v h L) (h : own_Go p e below s Q rc rs A) : own_Go p e below s Q' rc rs A := by
  obtain ⟨s₂, o, h1, h2, h3, v, L, h4, h5, h6⟩ := h
  exact ⟨s₂, o, h1, h2, h3, v, L, h4, k _ _ _ h5, h6⟩
theorem own_leave (X : Stand p l e R s m args below meth c T locs cells slots) (hlk : meth.locks = false) {v : Option Value} (hv : meth.sig.returnType = none → v = none) {U : State}
    (hst : ∀ fs, (∀ (f : JFrame) (acts : List Action), f.method = m → f.locked = none → f.entered = [] → (doReturn e (T.setTop f) acts v).1 = T.setFrames fs) → Steps p.tables e below U (T.setFrames fs))
    (hq : Q v T.heap locs) (hc : cells ≤ rc) (hs : slots ≤ rs) : own_Go p e below s Q rc rs U := by
  obtain ⟨fs, hr, hrun, hended, hW, hsame⟩ := X.leave (v := v) hv hlk
  exact ⟨_, _, hst fs hr, hrun, hended, _, _, rfl, hq, ⟨_, rfl⟩, hW, hsame.mono hc hs⟩
theorem own_ret (X : Stand p l e R s m args below meth c T locs cells slots) (hx : p.tables.exec = Jvm.exec) (hlk : meth.locks = false) (hret : meth.sig.returnType = none) {pc : Nat} {Ls : Array Slot} (hd : decode c.code pc = .ok (.return_, 1))
    (hq : Q none T.heap locs) (hc : cells ≤ rc) (hs : slots ≤ rs) : own_Go p e below s Q rc rs (T.setTop (mkF m pc Ls [])) :=
  own_leave X hlk (fun _ => rfl) (fun _ hr => X.returnOut hx hret hd hr) hq hc hs
theorem own_retI (X : Stand p l e R s m args below meth c T locs cells slots) (hx : p.tables.exec = Jvm.exec) (hlk : meth.locks = false) (hret : meth.sig.returnType = some .int) {pc : Nat} {Ls : Array Slot} {z : Int32} (hd : decode c.code pc = .ok (.ireturn, 1))
    (hq : Q (some (.int z)) T.heap locs) (hc : cells ≤ rc) (hs : slots ≤ rs) : own_Go p e below s Q rc rs (T.setTop (mkF m pc Ls [.int z])) :=
  own_leave X hlk (fun h => by rw [hret] at h; cases h) (fun _ hr => X.ireturnOut hx hret rfl (Or.inl rfl) hd hr) hq hc hs
theorem own_retN {t : FieldType} (ht : t = .boolean ∨ t = .byte ∨ t = .char ∨ t = .short) (X : Stand p l e R s m args below meth c T locs cells slots) (hx : p.tables.exec = Jvm.exec) (hlk : meth.locks = false) (hret : meth.sig.returnType = some t) {pc : Nat} {Ls : Array Slot} {z z' : Int32} (hn : nar t z = z') (hd : decode c.code pc = .ok (.ireturn, 1))
    (hq : Q (some (.int z')) T.heap locs) (hc : cells ≤ rc) (hs : slots ≤ rs) : own_Go p e below s Q rc rs (T.setTop (mkF m pc Ls [.int z])) := by
  subst hn
  exact own_leave X hlk (fun h => by rw [hret] at h; cases h) (fun _ hr => retN X hx hret ht hd hr) hq hc hs
theorem own_retJ (X : Stand p l e R s m args below meth c T locs cells slots) (hx : p.tables.exec = Jvm.exec) (hlk : meth.locks = false) (hret : meth.sig.returnType = some .long) {pc : Nat} {Ls : Array Slot} {z : Int64} (hd : decode c.code pc = .ok (.lreturn, 1))
    (hq : Q (some (.long z)) T.heap locs) (hc : cells ≤ rc) (hs : slots ≤ rs) : own_Go p e below s Q rc rs (T.setTop (mkF m pc Ls [.long z])) :=
  own_leave X hlk (fun h => by rw [hret] at h; cases h) (fun _ hr => X.lreturnOut hx hret hd hr) hq hc hs
theorem own_retA {t : FieldType} (ht : t.isReference = true) (X : Stand p l e R s m args below meth c T locs cells slots) (hx : p.tables.exec = Jvm.exec) (hlk : meth.locks = false) (hret : meth.sig.returnType = some t) {pc : Nat} {Ls : Array Slot} {a : Addr} (hd : decode c.code pc = .ok (.areturn, 1))
    (hq : Q (some (.ref a)) T.heap locs) (hc : cells ≤ rc) (hs : slots ≤ rs) : own_Go p e below s Q rc rs (T.setTop (mkF m pc Ls [.ref a])) :=
  own_leave X hlk (fun h => by rw [hret] at h; cases h) (fun _ hr => X.areturnOut hx rfl hret ht hd hr) hq hc hs
/-- a body's contract out of its walk -/
theorem own_met {y : MethodName} {bytes : ByteArray} {maxL : Nat} {ret : Option FieldType} {ws : List Jvm.Cond} {rm : Room} {as' : Array Value} {Z : State} {h0 : Heap} (hpl : plainFor y = true)
    (body : ∀ (p : Program) (e : Env) (s : State) (m : MethodId) (below : List Frame) (meth : Method) (c : Code) (T : State), Stand p l e rm s m as' below meth c T [] 0 0 → p.tables.exec = Jvm.exec → c.code = bytes → c.maxLocals = maxL → meth.sig.returnType = ret → meth.locks = false →
      Z.Warmed39 s.vm → s.vm.findClass y.cls = some m.cls → meth.name = y.name → T.heap = h0 → own_Go p e below s Q rc rs (T.setTop (entryFrame m as' maxL))) :
    MetFree l y (head1 (Jvm.Cond.code y bytes maxL ret :: ws) rm) (fun a U => a = as' ∧ Z.Warmed39 U.vm ∧ U.heap = h0) (fun _ _ _ _ _ => True) (fun _ U o U' => ∃ v L, o = .returned v ∧ Q v U'.heap L ∧ FrameEnd U o U' L rc rs) := by
  refine MetFree.of_bodySF hpl hisR ?_
  intro p e s m args below meth c s₁ Bd hml0 hP hK
  obtain ⟨rfl, hZ, hh⟩ := hP
  exact body p e s m below meth c s₁ (Stand.of_body Bd) Bd.exec Bd.bytes hml0 Bd.returns (BodyLoose.notSynchronized Bd) hZ (findClass_of_methodNamed Bd.named) (name_of_methodNamed Bd.named Bd.method).1 (by rw [← hh, Bd.state]; rfl)
theorem own_cast {g g' : JFrame} (q : g = g') (k : own_Go p e below s Q rc rs (T.setTop g')) : own_Go p e below s Q rc rs (T.setTop g) := q ▸ k
/-- what a body that writes nothing leaves -/
def own_Qp (r : Option Value) (h0 : Heap) (v : Option Value) (h : Heap) (L : List Loc) : Prop := v = r ∧ L = [] ∧ h = h0
theorem own_selPriv {a1 a2 : Array Value} {y y' z' : MethodName} {C : String} (h : (Jvm.Cond.selects C y' z').before a1 s = true) (hz : z'.cls = y.cls) (hpriv : s.PrivateAt y) (hinst : (Jvm.Cond.instanceMethod y).before a2 s = true) (hy : y.cls ≠ "java/lang/invoke/MethodHandle" ∧ y.cls ≠ "java/lang/invoke/VarHandle") : (Jvm.Cond.selects y.cls y y).before a2 s = true := by
  obtain ⟨_, _, m2, -, -, q3, -, kP, hkP, hkPi⟩ := Cond.selects_spec h
  exact selects_self_of_private (by rw [← hz]; exact findClass_of_methodNamed q3) hkP hkPi hpriv hinst hy
end OwnKit
theorem pd_0 : parseMethodDescriptor "()V" = some ⟨[], none⟩ := by decide +kernel
theorem pd_1 : parseMethodDescriptor "(II)I" = some ⟨[.int, .int], some .int⟩ := by decide +kernel
theorem pd_2 : parseMethodDescriptor "(II)V" = some ⟨[.int, .int], none⟩ := by decide +kernel
theorem pd_3 : parseMethodDescriptor "()Z" = some ⟨[], some .boolean⟩ := by decide +kernel
theorem pd_4 : parseMethodDescriptor "(ZZ)Lcom/example/pathmeter/pathmeter/codec/QosLevel;" = some ⟨[.boolean, .boolean], some (.object "com/example/pathmeter/pathmeter/codec/QosLevel")⟩ := by decide +kernel
theorem pd_5 : parseMethodDescriptor "()I" = some ⟨[], some .int⟩ := by decide +kernel
theorem d1_0 : decode method_2_code 0 = .ok (.iload_n 1, 1) := by decide +kernel
theorem d1_1 : decode method_2_code 1 = .ok (.iconst 1, 1) := by decide +kernel
theorem d1_2 : decode method_2_code 2 = .ok (.if_icmp .ne 6, 3) := by decide +kernel
theorem d1_5 : decode method_2_code 5 = .ok (.bipush 9, 2) := by decide +kernel
theorem d1_7 : decode method_2_code 7 = .ok (.ireturn, 1) := by decide +kernel
theorem d1_8 : decode method_2_code 8 = .ok (.iload_n 1, 1) := by decide +kernel
theorem d1_9 : decode method_2_code 9 = .ok (.iconst 2, 1) := by decide +kernel
theorem d1_10 : decode method_2_code 10 = .ok (.if_icmp .ne 6, 3) := by decide +kernel
theorem d1_13 : decode method_2_code 13 = .ok (.bipush 8, 2) := by decide +kernel
theorem d1_15 : decode method_2_code 15 = .ok (.ireturn, 1) := by decide +kernel
theorem d1_16 : decode method_2_code 16 = .ok (.iload_n 1, 1) := by decide +kernel
theorem d1_17 : decode method_2_code 17 = .ok (.iconst 3, 1) := by decide +kernel
theorem d1_18 : decode method_2_code 18 = .ok (.if_icmp .ne 6, 3) := by decide +kernel
theorem d1_21 : decode method_2_code 21 = .ok (.bipush 10, 2) := by decide +kernel
theorem d1_23 : decode method_2_code 23 = .ok (.ireturn, 1) := by decide +kernel
theorem d1_24 : decode method_2_code 24 = .ok (.iload_n 0, 1) := by decide +kernel
theorem d1_25 : decode method_2_code 25 = .ok (.ireturn, 1) := by decide +kernel
theorem pn_1 : plainName "com/example/pathmeter/pathmeter/codec/QosLevelReachesMaxPinLaw" = true := by first | (simp [plainName, overriddenIn]; done) | decide +kernel
theorem ef_1 (m : MethodId) (x0 : Int32) (x1 : Int32) : entryFrame m #[(.int x0), (.int x1)] 2 = mkF m 0 #[.val (.int x0), .val (.int x1)] [] := by first | (simp [entryFrame, mkF, argsToLocals, Value.category]; done) | rfl
def f1_0  (x0 : Int32) (x1 : Int32) : Int32 := (if x1 = (1 : Int32) then (9 : Int32) else (if x1 = (2 : Int32) then (8 : Int32) else (if x1 = (3 : Int32) then (10 : Int32) else x0)))
set_option maxRecDepth 65536 in
set_option maxHeartbeats 40000000 in
theorem bk1_0 (l : Launch) (Z : State) (a0 : Array Value) (hw : ∀ d ∈ tables_1, d.before a0 Z = true) (h0 : Heap)     (x0 : Int32) (x1 : Int32)  {p : Program} {e : Env} {s : State} {m : MethodId} {args : Array Value} {below : List Frame} {meth : Method} {c : Code} {T0 : State}
    (X0 : Stand p l e ({ frames := 0, cells := 0, slots := 0, locals := 0 } : Room) s m args below meth c T0 [] 0 0) (hx : p.tables.exec = Jvm.exec) (hby : c.code = method_2_code) (hml : c.maxLocals = 2) (hret : meth.sig.returnType = (some .int)) (hlk : meth.locks = false) (hZ : Z.Warmed39 s.vm) (hown : s.vm.findClass "com/example/pathmeter/pathmeter/codec/QosLevelReachesMaxPinLaw" = some m.cls) (hnm : meth.name = "pick") (e0 : T0.heap = h0) :
    own_Go p e below s (own_Qp (some (.int (f1_0  x0 x1))) h0) 0 0 (T0.setTop (mkF m 0 #[.val (.int x0), .val (.int x1)] [])) := by
  have hf : f1_0  x0 x1 = (if x1 = (1 : Int32) then (9 : Int32) else (if x1 = (2 : Int32) then (8 : Int32) else (if x1 = (3 : Int32) then (10 : Int32) else x0))) := rfl
  refine own_by (B := T0.setTop (mkF m 1 #[.val (.int x0), .val (.int x1)] [(.int x1)])) (fun t k => XS.iloadN X0.here hx rfl (hb hby d1_0) rfl k) ?_
  refine own_by (B := T0.setTop (mkF m 2 #[.val (.int x0), .val (.int x1)] [(.int (1 : Int32)), (.int x1)])) (fun t k => XS.iconst X0.here hx rfl (hb hby d1_1) k) ?_
  by_cases hc1 : x1 = (1 : Int32)
  ·
    rw [if_pos hc1] at hf
    refine own_by (B := T0.setTop (mkF m 5 #[.val (.int x0), .val (.int x1)] [])) (fun t k => XS.icmpNo X0.here hx rfl (hb hby d1_2) rfl (teq hc1).2 k) ?_
    refine own_by (B := T0.setTop (mkF m 7 #[.val (.int x0), .val (.int x1)] [(.int (9 : Int32))])) (fun t k => XS.bipush X0.here hx rfl (hb hby d1_5) k) ?_
    exact own_retI X0 hx hlk hret (hb hby d1_7) ⟨by rw [hf], rfl, e0⟩ (by decide) (by decide)
  ·
    rw [if_neg hc1] at hf
    refine own_by (B := T0.setTop (mkF m 8 #[.val (.int x0), .val (.int x1)] [])) (fun t k => XS.icmpYes X0.here hx rfl (pc0 := 2) (pc' := 8) rfl (hb hby d1_2) rfl (feq hc1).2 (by decide) (by decide) k) ?_
    refine own_by (B := T0.setTop (mkF m 9 #[.val (.int x0), .val (.int x1)] [(.int x1)])) (fun t k => XS.iloadN X0.here hx rfl (hb hby d1_8) rfl k) ?_
    refine own_by (B := T0.setTop (mkF m 10 #[.val (.int x0), .val (.int x1)] [(.int (2 : Int32)), (.int x1)])) (fun t k => XS.iconst X0.here hx rfl (hb hby d1_9) k) ?_
    by_cases hc2 : x1 = (2 : Int32)
    ·
      rw [if_pos hc2] at hf
      refine own_by (B := T0.setTop (mkF m 13 #[.val (.int x0), .val (.int x1)] [])) (fun t k => XS.icmpNo X0.here hx rfl (hb hby d1_10) rfl (teq hc2).2 k) ?_
      refine own_by (B := T0.setTop (mkF m 15 #[.val (.int x0), .val (.int x1)] [(.int (8 : Int32))])) (fun t k => XS.bipush X0.here hx rfl (hb hby d1_13) k) ?_
      exact own_retI X0 hx hlk hret (hb hby d1_15) ⟨by rw [hf], rfl, e0⟩ (by decide) (by decide)
    ·
      rw [if_neg hc2] at hf
      refine own_by (B := T0.setTop (mkF m 16 #[.val (.int x0), .val (.int x1)] [])) (fun t k => XS.icmpYes X0.here hx rfl (pc0 := 10) (pc' := 16) rfl (hb hby d1_10) rfl (feq hc2).2 (by decide) (by decide) k) ?_
      refine own_by (B := T0.setTop (mkF m 17 #[.val (.int x0), .val (.int x1)] [(.int x1)])) (fun t k => XS.iloadN X0.here hx rfl (hb hby d1_16) rfl k) ?_
      refine own_by (B := T0.setTop (mkF m 18 #[.val (.int x0), .val (.int x1)] [(.int (3 : Int32)), (.int x1)])) (fun t k => XS.iconst X0.here hx rfl (hb hby d1_17) k) ?_
      by_cases hc3 : x1 = (3 : Int32)
      ·
        rw [if_pos hc3] at hf
        refine own_by (B := T0.setTop (mkF m 21 #[.val (.int x0), .val (.int x1)] [])) (fun t k => XS.icmpNo X0.here hx rfl (hb hby d1_18) rfl (teq hc3).2 k) ?_
        refine own_by (B := T0.setTop (mkF m 23 #[.val (.int x0), .val (.int x1)] [(.int (10 : Int32))])) (fun t k => XS.bipush X0.here hx rfl (hb hby d1_21) k) ?_
        exact own_retI X0 hx hlk hret (hb hby d1_23) ⟨by rw [hf], rfl, e0⟩ (by decide) (by decide)
      ·
        rw [if_neg hc3] at hf
        refine own_by (B := T0.setTop (mkF m 24 #[.val (.int x0), .val (.int x1)] [])) (fun t k => XS.icmpYes X0.here hx rfl (pc0 := 18) (pc' := 24) rfl (hb hby d1_18) rfl (feq hc3).2 (by decide) (by decide) k) ?_
        refine own_by (B := T0.setTop (mkF m 25 #[.val (.int x0), .val (.int x1)] [(.int x0)])) (fun t k => XS.iloadN X0.here hx rfl (hb hby d1_24) rfl k) ?_
        exact own_retI X0 hx hlk hret (hb hby d1_25) ⟨by rw [hf], rfl, e0⟩ (by decide) (by decide)
set_option maxRecDepth 65536 in
set_option maxHeartbeats 40000000 in
theorem rm1 (l : Launch) (Z : State) (a0 : Array Value) (hw : ∀ d ∈ tables_1, d.before a0 Z = true) (ws : List Jvm.Cond) (x0 : Int32) (x1 : Int32)   (h0 : Heap)   :
    MetFree l (⟨"com/example/pathmeter/pathmeter/codec/QosLevelReachesMaxPinLaw", "pick", "(II)I"⟩ : MethodName) (head1 (Jvm.Cond.code (⟨"com/example/pathmeter/pathmeter/codec/QosLevelReachesMaxPinLaw", "pick", "(II)I"⟩ : MethodName) method_2_code 2 (some .int) :: ws) ({ frames := 0, cells := 0, slots := 0, locals := 0 } : Room)) (fun aa U => aa = #[(.int x0), (.int x1)] ∧ Z.Warmed39 U.vm ∧ U.heap = h0) (fun _ _ _ _ _ => True) (fun _ U o U' => ∃ v L, o = .returned v ∧ own_Qp (some (.int (f1_0  x0 x1))) h0 v U'.heap L ∧ FrameEnd U o U' L ({ frames := 0, cells := 0, slots := 0, locals := 0 } : Room).cells ({ frames := 0, cells := 0, slots := 0, locals := 0 } : Room).slots) := by
  refine own_met (plainFor_of_name pn_1) fun p e s m below meth c T0 X0 hx hby hml hret hlk hZ hown hnm e0 => ?_
  refine own_cast (ef_1 m x0 x1) ?_
  exact bk1_0 l Z a0 hw h0   x0 x1  X0 hx hby hml hret hlk hZ hown hnm e0
theorem d3_0 : decode jdk_30_method_1_code 0 = .ok (.aload_n 0, 1) := by decide +kernel
theorem d3_1 : decode jdk_30_method_1_code 1 = .ok (.invokespecial 1, 3) := by decide +kernel
theorem d3_4 : decode jdk_30_method_1_code 4 = .ok (.return_, 1) := by decide +kernel
theorem pn_3 : plainName "java/lang/Record" = true := by first | (simp [plainName, overriddenIn]; done) | decide +kernel
theorem ef_3 (m : MethodId) (x0 : Addr) : entryFrame m #[(.ref x0)] 1 = mkF m 0 #[.val (.ref x0)] [] := by first | (simp [entryFrame, mkF, argsToLocals, Value.category]; done) | rfl
def own_Q3 (Z : State) (a : Addr) (h0 : Heap) (n0 : Nat) (v : Option Value) (h : Heap) (L : List Loc) : Prop := v = none ∧ Fr n0 L ∧ Keep h0 h []
set_option maxRecDepth 65536 in
set_option maxHeartbeats 40000000 in
theorem rm3 (l : Launch) (Z : State) (a0 : Array Value) (hw : ∀ d ∈ tables_1, d.before a0 Z = true) (ws : List Jvm.Cond) (a : Addr)  (h0 : Heap) (n0 : Nat) (Z0 : n0 ≤ h0.size)     :
    MetFree l (⟨"java/lang/Record", "<init>", "()V"⟩ : MethodName) (head1 (Jvm.Cond.code (⟨"java/lang/Record", "<init>", "()V"⟩ : MethodName) jdk_30_method_1_code 1 none :: ws) ({ frames := 1, cells := 0, slots := 0, locals := 12 } : Room)) (fun aa U => aa = #[(.ref a)] ∧ Z.Warmed39 U.vm ∧ U.heap = h0) (fun _ _ _ _ _ => True) (fun _ U o U' => ∃ v L, o = .returned v ∧ own_Q3 Z a h0 n0 v U'.heap L ∧ FrameEnd U o U' L ({ frames := 1, cells := 0, slots := 0, locals := 12 } : Room).cells ({ frames := 1, cells := 0, slots := 0, locals := 12 } : Room).slots) := by
  refine own_met (plainFor_of_name pn_3) fun p e s m below meth c T0 X0 hx hby hml hret hlk hZ hown hnm e0 => ?_
  refine own_cast (ef_3 m a) ?_
  have NF := Fr.nil n0
  have Zs := Z0
  have K := Keep.refl h0 []
  refine own_by (B := T0.setTop (mkF m 1 #[.val (.ref a)] [(.ref a)])) (fun t k => XS.aloadN X0.here hx rfl (hb hby d3_0) rfl rfl k) ?_
  obtain ⟨T1, X1, e1, st1⟩ := initO X0 hx hZ hown (hw _ (List.mem_of_getElem? (i := 15) rfl)) (hw _ (List.mem_of_getElem? (i := 16) rfl)) (hw _ (List.mem_of_getElem? (i := 17) rfl)) e0 (g := (mkF m 1 #[.val (.ref a)] [(.ref a)])) rfl (by rw [hml]; rfl) rfl (hb hby d3_1) (by decide) (W := 0) (by show 2 * 0 + _ ≤ _; exact Nat.le_of_eq rfl) (by decide)
  refine own_by (B := T1.setTop (mkF m 4 #[.val (.ref a)] [])) (fun t k => st1 _ k) ?_
  exact own_ret X1 hx hlk hret (hb hby d3_4) (by show own_Q3 Z a h0 n0 _ _ _; rw [e1]; exact ⟨rfl, NF, K⟩) (by decide) (by decide)
theorem d2_0 : decode prog_26_method_1_code 0 = .ok (.aload_n 0, 1) := by decide +kernel
theorem d2_1 : decode prog_26_method_1_code 1 = .ok (.invokespecial 1, 3) := by decide +kernel
theorem d2_4 : decode prog_26_method_1_code 4 = .ok (.aload_n 0, 1) := by decide +kernel
theorem d2_5 : decode prog_26_method_1_code 5 = .ok (.iload_n 1, 1) := by decide +kernel
theorem d2_6 : decode prog_26_method_1_code 6 = .ok (.putfield 7, 3) := by decide +kernel
theorem d2_9 : decode prog_26_method_1_code 9 = .ok (.aload_n 0, 1) := by decide +kernel
theorem d2_10 : decode prog_26_method_1_code 10 = .ok (.iload_n 2, 1) := by decide +kernel
theorem d2_11 : decode prog_26_method_1_code 11 = .ok (.putfield 13, 3) := by decide +kernel
theorem d2_14 : decode prog_26_method_1_code 14 = .ok (.return_, 1) := by decide +kernel
theorem pn_2 : plainName "com/example/pathmeter/pathmeter/codec/QosLevel" = true := by first | (simp [plainName, overriddenIn]; done) | decide +kernel
theorem ef_2 (m : MethodId) (x0 : Addr) (x1 : Int32) (x2 : Int32) : entryFrame m #[(.ref x0), (.int x1), (.int x2)] 3 = mkF m 0 #[.val (.ref x0), .val (.int x1), .val (.int x2)] [] := by first | (simp [entryFrame, mkF, argsToLocals, Value.category]; done) | rfl
def own_Q2 (Z : State) (a : Addr) (x1 : Int32) (x2 : Int32) (h0 : Heap) (n0 : Nat) (v : Option Value) (h : Heap) (L : List Loc) : Prop := v = none ∧ Fr n0 L ∧ Keep h0 h [a] ∧ Fld Z h a "com/example/pathmeter/pathmeter/codec/QosLevel" "uplink" "I" (.int x1) ∧ Fld Z h a "com/example/pathmeter/pathmeter/codec/QosLevel" "downlink" "I" (.int x2) ∧ Exa Z h a "com/example/pathmeter/pathmeter/codec/QosLevel"
set_option maxRecDepth 65536 in
set_option maxHeartbeats 40000000 in
theorem rm2 (l : Launch) (Z : State) (a0 : Array Value) (hw : ∀ d ∈ tables_1, d.before a0 Z = true) (ws : List Jvm.Cond) (a : Addr) (x1 : Int32) (x2 : Int32)  (h0 : Heap) (n0 : Nat) (Z0 : n0 ≤ h0.size) (F_uplink_a : Fld Z h0 a "com/example/pathmeter/pathmeter/codec/QosLevel" "uplink" "I" (.int (0 : Int32))) (F_downlink_a : Fld Z h0 a "com/example/pathmeter/pathmeter/codec/QosLevel" "downlink" "I" (.int (0 : Int32))) (E_a : Exa Z h0 a "com/example/pathmeter/pathmeter/codec/QosLevel") (g_a : n0 ≤ a)   :
    MetFree l (⟨"com/example/pathmeter/pathmeter/codec/QosLevel", "<init>", "(II)V"⟩ : MethodName) (head1 (Jvm.Cond.code (⟨"com/example/pathmeter/pathmeter/codec/QosLevel", "<init>", "(II)V"⟩ : MethodName) prog_26_method_1_code 3 none :: ws) ({ frames := 2, cells := 0, slots := 0, locals := 24 } : Room)) (fun aa U => aa = #[(.ref a), (.int x1), (.int x2)] ∧ Z.Warmed39 U.vm ∧ U.heap = h0) (fun _ _ _ _ _ => True) (fun _ U o U' => ∃ v L, o = .returned v ∧ own_Q2 Z a x1 x2 h0 n0 v U'.heap L ∧ FrameEnd U o U' L ({ frames := 2, cells := 0, slots := 0, locals := 24 } : Room).cells ({ frames := 2, cells := 0, slots := 0, locals := 24 } : Room).slots) := by
  refine own_met (plainFor_of_name pn_2) fun p e s m below meth c T0 X0 hx hby hml hret hlk hZ hown hnm e0 => ?_
  refine own_cast (ef_2 m a x1 x2) ?_
  have NF := Fr.nil n0
  have Zs := Z0
  have K := Keep.refl h0 [a]
  refine own_by (B := T0.setTop (mkF m 1 #[.val (.ref a), .val (.int x1), .val (.int x2)] [(.ref a)])) (fun t k => XS.aloadN X0.here hx rfl (hb hby d2_0) rfl rfl k) ?_
  obtain ⟨v1, _, ⟨T1, L1, c1, n1⟩, -, X1, ⟨Lc1, hQ1, l1, y1, z1⟩, st1⟩ := X0.specialBack hx (y := (⟨"java/lang/Record", "<init>", "()V"⟩ : MethodName)) rfl hown (mvT hZ (hw _ (List.mem_of_getElem? (i := 10) rfl))) (mvT hZ (hw _ (List.mem_of_getElem? (i := 11) rfl))) (mvT hZ (hw _ (List.mem_of_getElem? (i := 14) rfl))) (by decide) (backOf (W := 0) (rm3 l Z a0 hw [] a  h0 n0 Zs    ) hZ (hw _ (List.mem_of_getElem? (i := 14) rfl)) (hw _ (List.mem_of_getElem? (i := 13) rfl)) (by decide) (by decide)) (g := (mkF m 1 #[.val (.ref a), .val (.int x1), .val (.int x2)] [(.ref a)])) rfl (by rw [hml]; rfl) (Steps.refl _) (a := a) (argsL := []) (rest := []) (lenOf pd_0 rfl) rfl (by show 2 * 0 + _ ≤ _; exact Nat.le_of_eq rfl) (hb hby d2_1) (fun _ _ => ⟨rfl, e0, (by decide : 0 + 0 ≤ _), (by decide : 0 + 0 ≤ _)⟩)
  dsimp only [Pt.U, Pt.locs, Pt.cells, Pt.slots] at X1 l1 y1 z1 st1 hQ1
  subst l1 y1 z1
  obtain ⟨rfl, Nq1, Kq1⟩ := hQ1
  have NF := Fr.app NF Nq1
  replace F_uplink_a : Fld Z T1.heap a "com/example/pathmeter/pathmeter/codec/QosLevel" "uplink" "I" (.int (0 : Int32)) := F_uplink_a.keep Kq1 nin0
  replace F_downlink_a : Fld Z T1.heap a "com/example/pathmeter/pathmeter/codec/QosLevel" "downlink" "I" (.int (0 : Int32)) := F_downlink_a.keep Kq1 nin0
  replace E_a : Exa Z T1.heap a "com/example/pathmeter/pathmeter/codec/QosLevel" := E_a.keep Kq1
  replace Zs : n0 ≤ T1.heap.size := Nat.le_trans Zs Kq1.1
  replace K : Keep h0 T1.heap [a] := K.trans Kq1 all0
  refine own_by (B := T1.setTop (mkF m 4 #[.val (.ref a), .val (.int x1), .val (.int x2)] [])) (fun t k => st1.trans k) ?_
  refine own_by (B := T1.setTop (mkF m 5 #[.val (.ref a), .val (.int x1), .val (.int x2)] [(.ref a)])) (fun t k => XS.aloadN X1.here hx rfl (hb hby d2_4) rfl rfl k) ?_
  refine own_by (B := T1.setTop (mkF m 6 #[.val (.ref a), .val (.int x1), .val (.int x2)] [(.int x1), (.ref a)])) (fun t k => XS.iloadN X1.here hx rfl (hb hby d2_5) rfl k) ?_
  obtain ⟨T2, h2, X2, e2, W2, st2⟩ := putF X1 hx hZ hown (host := "") (Or.inl (hw _ (List.mem_of_getElem? (i := 18) rfl))) Via.refl rfl F_uplink_a E_a (Or.inr ⟨(hw _ (List.mem_of_getElem? (i := 19) rfl)), rfl, hnm⟩) (hw _ (List.mem_of_getElem? (i := 5) rfl)) (ty := .int) (by decide) rfl rfl (g := (mkF m 6 #[.val (.ref a), .val (.int x1), .val (.int x2)] [(.int x1), (.ref a)])) rfl rfl (hb hby d2_6)
  replace F_uplink_a : Fld Z h2 a "com/example/pathmeter/pathmeter/codec/QosLevel" "uplink" "I" (.int x1) := F_uplink_a.same W2
  replace F_downlink_a : Fld Z h2 a "com/example/pathmeter/pathmeter/codec/QosLevel" "downlink" "I" (.int (0 : Int32)) := F_downlink_a.other W2 (Or.inr (slot_ne (Or.inr (hw _ (List.mem_of_getElem? (i := 21) rfl))) (Or.inr (hw _ (List.mem_of_getElem? (i := 19) rfl))) (by decide) (t := .int) (t' := .int) (by decide) (by decide)))
  replace E_a : Exa Z h2 a "com/example/pathmeter/pathmeter/codec/QosLevel" := E_a.wr W2
  replace Zs : n0 ≤ h2.size := by rw [W2.size]; exact Zs
  replace K : Keep h0 h2 [a] := K.wr W2 (Or.inl (List.mem_of_getElem? (i := 0) rfl))
  have NF := Fr.snoc X2 NF g_a
  refine own_by (B := T2.setTop (mkF m 9 #[.val (.ref a), .val (.int x1), .val (.int x2)] [])) (fun t k => st2 _ k) ?_
  refine own_by (B := T2.setTop (mkF m 10 #[.val (.ref a), .val (.int x1), .val (.int x2)] [(.ref a)])) (fun t k => XS.aloadN X2.here hx rfl (hb hby d2_9) rfl rfl k) ?_
  refine own_by (B := T2.setTop (mkF m 11 #[.val (.ref a), .val (.int x1), .val (.int x2)] [(.int x2), (.ref a)])) (fun t k => XS.iloadN X2.here hx rfl (hb hby d2_10) rfl k) ?_
  obtain ⟨T3, h3, X3, e3, W3, st3⟩ := putF X2 hx hZ hown (host := "") (Or.inl (hw _ (List.mem_of_getElem? (i := 20) rfl))) Via.refl e2 F_downlink_a E_a (Or.inr ⟨(hw _ (List.mem_of_getElem? (i := 21) rfl)), rfl, hnm⟩) (hw _ (List.mem_of_getElem? (i := 5) rfl)) (ty := .int) (by decide) rfl rfl (g := (mkF m 11 #[.val (.ref a), .val (.int x1), .val (.int x2)] [(.int x2), (.ref a)])) rfl rfl (hb hby d2_11)
  replace F_uplink_a : Fld Z h3 a "com/example/pathmeter/pathmeter/codec/QosLevel" "uplink" "I" (.int x1) := F_uplink_a.other W3 (Or.inr (slot_ne (Or.inr (hw _ (List.mem_of_getElem? (i := 19) rfl))) (Or.inr (hw _ (List.mem_of_getElem? (i := 21) rfl))) (by decide) (t := .int) (t' := .int) (by decide) (by decide)))
  replace F_downlink_a : Fld Z h3 a "com/example/pathmeter/pathmeter/codec/QosLevel" "downlink" "I" (.int x2) := F_downlink_a.same W3
  replace E_a : Exa Z h3 a "com/example/pathmeter/pathmeter/codec/QosLevel" := E_a.wr W3
  replace Zs : n0 ≤ h3.size := by rw [W3.size]; exact Zs
  replace K : Keep h0 h3 [a] := K.wr W3 (Or.inl (List.mem_of_getElem? (i := 0) rfl))
  have NF := Fr.snoc X3 NF g_a
  refine own_by (B := T3.setTop (mkF m 14 #[.val (.ref a), .val (.int x1), .val (.int x2)] [])) (fun t k => st3 _ k) ?_
  exact own_ret X3 hx hlk hret (hb hby d2_14) (by show own_Q2 Z a x1 x2 h0 n0 _ _ _; rw [e3]; exact ⟨rfl, NF, K, F_uplink_a, F_downlink_a, E_a⟩) (by decide) (by decide)
theorem d5_0 : decode prog_26_method_5_code 0 = .ok (.aload_n 0, 1) := by decide +kernel
theorem d5_1 : decode prog_26_method_5_code 1 = .ok (.getfield 7, 3) := by decide +kernel
theorem d5_4 : decode prog_26_method_5_code 4 = .ok (.bipush 9, 2) := by decide +kernel
theorem d5_6 : decode prog_26_method_5_code 6 = .ok (.if_icmp .eq 12, 3) := by decide +kernel
theorem d5_9 : decode prog_26_method_5_code 9 = .ok (.aload_n 0, 1) := by decide +kernel
theorem d5_10 : decode prog_26_method_5_code 10 = .ok (.getfield 13, 3) := by decide +kernel
theorem d5_13 : decode prog_26_method_5_code 13 = .ok (.bipush 9, 2) := by decide +kernel
theorem d5_15 : decode prog_26_method_5_code 15 = .ok (.if_icmp .ne 7, 3) := by decide +kernel
theorem d5_18 : decode prog_26_method_5_code 18 = .ok (.iconst 1, 1) := by decide +kernel
theorem d5_19 : decode prog_26_method_5_code 19 = .ok (.goto 4, 3) := by decide +kernel
theorem d5_22 : decode prog_26_method_5_code 22 = .ok (.iconst 0, 1) := by decide +kernel
theorem d5_23 : decode prog_26_method_5_code 23 = .ok (.ireturn, 1) := by decide +kernel
theorem pn_5 : plainName "com/example/pathmeter/pathmeter/codec/QosLevel" = true := by first | (simp [plainName, overriddenIn]; done) | decide +kernel
theorem ef_5 (m : MethodId) (a : Addr) : entryFrame m #[(.ref a)] 1 = mkF m 0 #[.val (.ref a)] [] := by first | (simp [entryFrame, mkF, argsToLocals, Value.category]; done) | rfl
def f5_23 (ua da : Int32) (y0 : Int32) : Int32 := (nar .boolean y0)
set_option maxRecDepth 65536 in
set_option maxHeartbeats 40000000 in
theorem bk5_23 (l : Launch) (Z : State) (a0 : Array Value) (hw : ∀ d ∈ tables_1, d.before a0 Z = true) (h0 : Heap) (a : Addr)  (ua da : Int32) (F_uplink_a : Fld Z h0 a "com/example/pathmeter/pathmeter/codec/QosLevel" "uplink" "I" (.int ua)) (F_downlink_a : Fld Z h0 a "com/example/pathmeter/pathmeter/codec/QosLevel" "downlink" "I" (.int da)) (y0 : Int32)  {p : Program} {e : Env} {s : State} {m : MethodId} {args : Array Value} {below : List Frame} {meth : Method} {c : Code} {T0 : State}
    (X0 : Stand p l e ({ frames := 0, cells := 0, slots := 0, locals := 0 } : Room) s m args below meth c T0 [] 0 0) (hx : p.tables.exec = Jvm.exec) (hby : c.code = prog_26_method_5_code) (hml : c.maxLocals = 1) (hret : meth.sig.returnType = (some .boolean)) (hlk : meth.locks = false) (hZ : Z.Warmed39 s.vm) (hown : s.vm.findClass "com/example/pathmeter/pathmeter/codec/QosLevel" = some m.cls) (hnm : meth.name = "reachesMax") (e0 : T0.heap = h0) :
    own_Go p e below s (own_Qp (some (.int (f5_23 ua da y0))) h0) 0 0 (T0.setTop (mkF m 23 #[.val (.ref a)] [(.int y0)])) := by
  have hf : f5_23 ua da y0 = (nar .boolean y0) := rfl
  exact own_retN (t := .boolean) (by simp) X0 hx hlk hret (z' := (nar .boolean y0)) rfl (hb hby d5_23) ⟨by rw [hf], rfl, e0⟩ (by decide) (by decide)
def f5_18 (ua da : Int32)  : Int32 := (f5_23 ua da (1 : Int32))
set_option maxRecDepth 65536 in
set_option maxHeartbeats 40000000 in
theorem bk5_18 (l : Launch) (Z : State) (a0 : Array Value) (hw : ∀ d ∈ tables_1, d.before a0 Z = true) (h0 : Heap) (a : Addr)  (ua da : Int32) (F_uplink_a : Fld Z h0 a "com/example/pathmeter/pathmeter/codec/QosLevel" "uplink" "I" (.int ua)) (F_downlink_a : Fld Z h0 a "com/example/pathmeter/pathmeter/codec/QosLevel" "downlink" "I" (.int da))   {p : Program} {e : Env} {s : State} {m : MethodId} {args : Array Value} {below : List Frame} {meth : Method} {c : Code} {T0 : State}
    (X0 : Stand p l e ({ frames := 0, cells := 0, slots := 0, locals := 0 } : Room) s m args below meth c T0 [] 0 0) (hx : p.tables.exec = Jvm.exec) (hby : c.code = prog_26_method_5_code) (hml : c.maxLocals = 1) (hret : meth.sig.returnType = (some .boolean)) (hlk : meth.locks = false) (hZ : Z.Warmed39 s.vm) (hown : s.vm.findClass "com/example/pathmeter/pathmeter/codec/QosLevel" = some m.cls) (hnm : meth.name = "reachesMax") (e0 : T0.heap = h0) :
    own_Go p e below s (own_Qp (some (.int (f5_18 ua da ))) h0) 0 0 (T0.setTop (mkF m 18 #[.val (.ref a)] [])) := by
  have hf : f5_18 ua da  = (f5_23 ua da (1 : Int32)) := rfl
  refine own_by (B := T0.setTop (mkF m 19 #[.val (.ref a)] [(.int (1 : Int32))])) (fun t k => XS.iconst X0.here hx rfl (hb hby d5_18) k) ?_
  refine own_by (B := T0.setTop (mkF m 23 #[.val (.ref a)] [(.int (1 : Int32))])) (fun t k => XS.goto X0.here hx rfl (pc0 := 19) (pc' := 23) rfl (hb hby d5_19) (by decide) (by decide) k) ?_
  rw [hf]
  exact bk5_23 l Z a0 hw h0 a ua da F_uplink_a F_downlink_a (1 : Int32)  X0 hx hby hml hret hlk hZ hown hnm e0
def f5_0 (ua da : Int32)  : Int32 := (if ua = (9 : Int32) then (f5_18 ua da) else (if da = (9 : Int32) then (f5_18 ua da) else (f5_23 ua da (0 : Int32))))
set_option maxRecDepth 65536 in
set_option maxHeartbeats 40000000 in
theorem bk5_0 (l : Launch) (Z : State) (a0 : Array Value) (hw : ∀ d ∈ tables_1, d.before a0 Z = true) (h0 : Heap) (a : Addr)  (ua da : Int32) (F_uplink_a : Fld Z h0 a "com/example/pathmeter/pathmeter/codec/QosLevel" "uplink" "I" (.int ua)) (F_downlink_a : Fld Z h0 a "com/example/pathmeter/pathmeter/codec/QosLevel" "downlink" "I" (.int da))   {p : Program} {e : Env} {s : State} {m : MethodId} {args : Array Value} {below : List Frame} {meth : Method} {c : Code} {T0 : State}
    (X0 : Stand p l e ({ frames := 0, cells := 0, slots := 0, locals := 0 } : Room) s m args below meth c T0 [] 0 0) (hx : p.tables.exec = Jvm.exec) (hby : c.code = prog_26_method_5_code) (hml : c.maxLocals = 1) (hret : meth.sig.returnType = (some .boolean)) (hlk : meth.locks = false) (hZ : Z.Warmed39 s.vm) (hown : s.vm.findClass "com/example/pathmeter/pathmeter/codec/QosLevel" = some m.cls) (hnm : meth.name = "reachesMax") (e0 : T0.heap = h0) :
    own_Go p e below s (own_Qp (some (.int (f5_0 ua da ))) h0) 0 0 (T0.setTop (mkF m 0 #[.val (.ref a)] [])) := by
  have hf : f5_0 ua da  = (if ua = (9 : Int32) then (f5_18 ua da) else (if da = (9 : Int32) then (f5_18 ua da) else (f5_23 ua da (0 : Int32)))) := rfl
  refine own_by (B := T0.setTop (mkF m 1 #[.val (.ref a)] [(.ref a)])) (fun t k => XS.aloadN X0.here hx rfl (hb hby d5_0) rfl rfl k) ?_
  obtain ⟨T1, X1, e1, st1⟩ := getF X0 hx hZ hown (host := "") (Or.inl (hw _ (List.mem_of_getElem? (i := 18) rfl))) Via.refl e0 F_uplink_a (g := (mkF m 1 #[.val (.ref a)] [(.ref a)])) rfl rfl (hb hby d5_1)
  refine own_by (B := T1.setTop (mkF m 4 #[.val (.ref a)] [(.int ua)])) (fun t k => st1 _ k) ?_
  refine own_by (B := T1.setTop (mkF m 6 #[.val (.ref a)] [(.int (9 : Int32)), (.int ua)])) (fun t k => XS.bipush X1.here hx rfl (hb hby d5_4) k) ?_
  by_cases hc2 : ua = (9 : Int32)
  ·
    rw [if_pos hc2] at hf
    refine own_by (B := T1.setTop (mkF m 18 #[.val (.ref a)] [])) (fun t k => XS.icmpYes X1.here hx rfl (pc0 := 6) (pc' := 18) rfl (hb hby d5_6) rfl (teq hc2).1 (by decide) (by decide) k) ?_
    rw [hf]
    exact bk5_18 l Z a0 hw h0 a ua da F_uplink_a F_downlink_a   X1 hx hby hml hret hlk hZ hown hnm e1
  ·
    rw [if_neg hc2] at hf
    refine own_by (B := T1.setTop (mkF m 9 #[.val (.ref a)] [])) (fun t k => XS.icmpNo X1.here hx rfl (hb hby d5_6) rfl (feq hc2).1 k) ?_
    refine own_by (B := T1.setTop (mkF m 10 #[.val (.ref a)] [(.ref a)])) (fun t k => XS.aloadN X1.here hx rfl (hb hby d5_9) rfl rfl k) ?_
    obtain ⟨T3, X3, e3, st3⟩ := getF X1 hx hZ hown (host := "") (Or.inl (hw _ (List.mem_of_getElem? (i := 20) rfl))) Via.refl e1 F_downlink_a (g := (mkF m 10 #[.val (.ref a)] [(.ref a)])) rfl rfl (hb hby d5_10)
    refine own_by (B := T3.setTop (mkF m 13 #[.val (.ref a)] [(.int da)])) (fun t k => st3 _ k) ?_
    refine own_by (B := T3.setTop (mkF m 15 #[.val (.ref a)] [(.int (9 : Int32)), (.int da)])) (fun t k => XS.bipush X3.here hx rfl (hb hby d5_13) k) ?_
    by_cases hc4 : da = (9 : Int32)
    ·
      rw [if_pos hc4] at hf
      refine own_by (B := T3.setTop (mkF m 18 #[.val (.ref a)] [])) (fun t k => XS.icmpNo X3.here hx rfl (hb hby d5_15) rfl (teq hc4).2 k) ?_
      rw [hf]
      exact bk5_18 l Z a0 hw h0 a ua da F_uplink_a F_downlink_a   X3 hx hby hml hret hlk hZ hown hnm e3
    ·
      rw [if_neg hc4] at hf
      refine own_by (B := T3.setTop (mkF m 22 #[.val (.ref a)] [])) (fun t k => XS.icmpYes X3.here hx rfl (pc0 := 15) (pc' := 22) rfl (hb hby d5_15) rfl (feq hc4).2 (by decide) (by decide) k) ?_
      refine own_by (B := T3.setTop (mkF m 23 #[.val (.ref a)] [(.int (0 : Int32))])) (fun t k => XS.iconst X3.here hx rfl (hb hby d5_22) k) ?_
      rw [hf]
      exact bk5_23 l Z a0 hw h0 a ua da F_uplink_a F_downlink_a (0 : Int32)  X3 hx hby hml hret hlk hZ hown hnm e3
set_option maxRecDepth 65536 in
set_option maxHeartbeats 40000000 in
theorem rm5 (l : Launch) (Z : State) (a0 : Array Value) (hw : ∀ d ∈ tables_1, d.before a0 Z = true) (ws : List Jvm.Cond) (a : Addr)  (ua da : Int32) (h0 : Heap) (F_uplink_a : Fld Z h0 a "com/example/pathmeter/pathmeter/codec/QosLevel" "uplink" "I" (.int ua)) (F_downlink_a : Fld Z h0 a "com/example/pathmeter/pathmeter/codec/QosLevel" "downlink" "I" (.int da))  :
    MetFree l (⟨"com/example/pathmeter/pathmeter/codec/QosLevel", "reachesMax", "()Z"⟩ : MethodName) (head1 (Jvm.Cond.code (⟨"com/example/pathmeter/pathmeter/codec/QosLevel", "reachesMax", "()Z"⟩ : MethodName) prog_26_method_5_code 1 (some .boolean) :: ws) ({ frames := 0, cells := 0, slots := 0, locals := 0 } : Room)) (fun aa U => aa = #[(.ref a)] ∧ Z.Warmed39 U.vm ∧ U.heap = h0) (fun _ _ _ _ _ => True) (fun _ U o U' => ∃ v L, o = .returned v ∧ own_Qp (some (.int (f5_0 ua da ))) h0 v U'.heap L ∧ FrameEnd U o U' L ({ frames := 0, cells := 0, slots := 0, locals := 0 } : Room).cells ({ frames := 0, cells := 0, slots := 0, locals := 0 } : Room).slots) := by
  refine own_met (plainFor_of_name pn_5) fun p e s m below meth c T0 X0 hx hby hml hret hlk hZ hown hnm e0 => ?_
  refine own_cast (ef_5 m a) ?_
  exact bk5_0 l Z a0 hw h0 a ua da F_uplink_a F_downlink_a   X0 hx hby hml hret hlk hZ hown hnm e0
theorem d7_0 : decode jdk_29_method_69_code 0 = .ok (.iload_n 0, 1) := by decide +kernel
theorem d7_1 : decode jdk_29_method_69_code 1 = .ok (.iload_n 1, 1) := by decide +kernel
theorem d7_2 : decode jdk_29_method_69_code 2 = .ok (.if_icmp .gt 7, 3) := by decide +kernel
theorem d7_5 : decode jdk_29_method_69_code 5 = .ok (.iload_n 0, 1) := by decide +kernel
theorem d7_6 : decode jdk_29_method_69_code 6 = .ok (.goto 4, 3) := by decide +kernel
theorem d7_9 : decode jdk_29_method_69_code 9 = .ok (.iload_n 1, 1) := by decide +kernel
theorem d7_10 : decode jdk_29_method_69_code 10 = .ok (.ireturn, 1) := by decide +kernel
theorem ef_7 (m : MethodId) (x0 : Int32) (x1 : Int32) : entryFrame m #[(.int x0), (.int x1)] 2 = mkF m 0 #[.val (.int x0), .val (.int x1)] [] := by first | (simp [entryFrame, mkF, argsToLocals, Value.category]; done) | rfl
def f7_10  (x0 : Int32) (x1 : Int32) (y0 : Int32) : Int32 := y0
set_option maxRecDepth 65536 in
set_option maxHeartbeats 40000000 in
theorem bk7_10 (l : Launch) (Z : State) (a0 : Array Value) (hw : ∀ d ∈ tables_1, d.before a0 Z = true) (h0 : Heap)     (x0 : Int32) (x1 : Int32) (y0 : Int32)  {p : Program} {e : Env} {s : State} {m : MethodId} {args : Array Value} {below : List Frame} {meth : Method} {c : Code} {T0 : State}
    (X0 : Stand p l e ({ frames := 0, cells := 0, slots := 0, locals := 0 } : Room) s m args below meth c T0 [] 0 0) (hx : p.tables.exec = Jvm.exec) (hby : c.code = jdk_29_method_69_code) (hml : c.maxLocals = 2) (hret : meth.sig.returnType = (some .int)) (hlk : meth.locks = false) (hZ : Z.Warmed39 s.vm) (hown : s.vm.findClass "java/lang/Math" = some m.cls) (hnm : meth.name = "min") (e0 : T0.heap = h0) :
    own_Go p e below s (own_Qp (some (.int (f7_10  x0 x1 y0))) h0) 0 0 (T0.setTop (mkF m 10 #[.val (.int x0), .val (.int x1)] [(.int y0)])) := by
  have hf : f7_10  x0 x1 y0 = y0 := rfl
  exact own_retI X0 hx hlk hret (hb hby d7_10) ⟨by rw [hf], rfl, e0⟩ (by decide) (by decide)
def f7_0  (x0 : Int32) (x1 : Int32) : Int32 := (if x1 < x0 then (f7_10  x0 x1 x1) else (f7_10  x0 x1 x0))
set_option maxRecDepth 65536 in
set_option maxHeartbeats 40000000 in
theorem bk7_0 (l : Launch) (Z : State) (a0 : Array Value) (hw : ∀ d ∈ tables_1, d.before a0 Z = true) (h0 : Heap)     (x0 : Int32) (x1 : Int32)  {p : Program} {e : Env} {s : State} {m : MethodId} {args : Array Value} {below : List Frame} {meth : Method} {c : Code} {T0 : State}
    (X0 : Stand p l e ({ frames := 0, cells := 0, slots := 0, locals := 0 } : Room) s m args below meth c T0 [] 0 0) (hx : p.tables.exec = Jvm.exec) (hby : c.code = jdk_29_method_69_code) (hml : c.maxLocals = 2) (hret : meth.sig.returnType = (some .int)) (hlk : meth.locks = false) (hZ : Z.Warmed39 s.vm) (hown : s.vm.findClass "java/lang/Math" = some m.cls) (hnm : meth.name = "min") (e0 : T0.heap = h0) :
    own_Go p e below s (own_Qp (some (.int (f7_0  x0 x1))) h0) 0 0 (T0.setTop (mkF m 0 #[.val (.int x0), .val (.int x1)] [])) := by
  have hf : f7_0  x0 x1 = (if x1 < x0 then (f7_10  x0 x1 x1) else (f7_10  x0 x1 x0)) := rfl
  refine own_by (B := T0.setTop (mkF m 1 #[.val (.int x0), .val (.int x1)] [(.int x0)])) (fun t k => XS.iloadN X0.here hx rfl (hb hby d7_0) rfl k) ?_
  refine own_by (B := T0.setTop (mkF m 2 #[.val (.int x0), .val (.int x1)] [(.int x1), (.int x0)])) (fun t k => XS.iloadN X0.here hx rfl (hb hby d7_1) rfl k) ?_
  by_cases hc1 : x1 < x0
  ·
    rw [if_pos hc1] at hf
    refine own_by (B := T0.setTop (mkF m 9 #[.val (.int x0), .val (.int x1)] [])) (fun t k => XS.icmpYes X0.here hx rfl (pc0 := 2) (pc' := 9) rfl (hb hby d7_2) rfl (tlt hc1).2.2.1 (by decide) (by decide) k) ?_
    refine own_by (B := T0.setTop (mkF m 10 #[.val (.int x0), .val (.int x1)] [(.int x1)])) (fun t k => XS.iloadN X0.here hx rfl (hb hby d7_9) rfl k) ?_
    rw [hf]
    exact bk7_10 l Z a0 hw h0   x0 x1 x1  X0 hx hby hml hret hlk hZ hown hnm e0
  ·
    rw [if_neg hc1] at hf
    refine own_by (B := T0.setTop (mkF m 5 #[.val (.int x0), .val (.int x1)] [])) (fun t k => XS.icmpNo X0.here hx rfl (hb hby d7_2) rfl (flt hc1).2.2.1 k) ?_
    refine own_by (B := T0.setTop (mkF m 6 #[.val (.int x0), .val (.int x1)] [(.int x0)])) (fun t k => XS.iloadN X0.here hx rfl (hb hby d7_5) rfl k) ?_
    refine own_by (B := T0.setTop (mkF m 10 #[.val (.int x0), .val (.int x1)] [(.int x0)])) (fun t k => XS.goto X0.here hx rfl (pc0 := 6) (pc' := 10) rfl (hb hby d7_6) (by decide) (by decide) k) ?_
    rw [hf]
    exact bk7_10 l Z a0 hw h0   x0 x1 x0  X0 hx hby hml hret hlk hZ hown hnm e0
set_option maxRecDepth 65536 in
set_option maxHeartbeats 40000000 in
theorem rm7 (l : Launch) (Z : State) (a0 : Array Value) (hw : ∀ d ∈ tables_1, d.before a0 Z = true) (ws : List Jvm.Cond) (x0 : Int32) (x1 : Int32)   (h0 : Heap)   :
    MetFree l (⟨"java/lang/Math", "min", "(II)I"⟩ : MethodName) (head1 (Jvm.Cond.code (⟨"java/lang/Math", "min", "(II)I"⟩ : MethodName) jdk_29_method_69_code 2 (some .int) :: ws) ({ frames := 0, cells := 0, slots := 0, locals := 0 } : Room)) (fun aa U => aa = #[(.int x0), (.int x1)] ∧ Z.Warmed39 U.vm ∧ U.heap = h0) (fun _ _ _ _ _ => True) (fun _ U o U' => ∃ v L, o = .returned v ∧ own_Qp (some (.int (f7_0  x0 x1))) h0 v U'.heap L ∧ FrameEnd U o U' L ({ frames := 0, cells := 0, slots := 0, locals := 0 } : Room).cells ({ frames := 0, cells := 0, slots := 0, locals := 0 } : Room).slots) := by
  refine own_met (Jvm.Free.JP.mathPlain rfl (by decide +kernel)) fun p e s m below meth c T0 X0 hx hby hml hret hlk hZ hown hnm e0 => ?_
  refine own_cast (ef_7 m x0 x1) ?_
  exact bk7_0 l Z a0 hw h0   x0 x1  X0 hx hby hml hret hlk hZ hown hnm e0
theorem d8_0 : decode prog_26_method_11_code 0 = .ok (.aload_n 0, 1) := by decide +kernel
theorem d8_1 : decode prog_26_method_11_code 1 = .ok (.getfield 7, 3) := by decide +kernel
theorem d8_4 : decode prog_26_method_11_code 4 = .ok (.ireturn, 1) := by decide +kernel
theorem pn_8 : plainName "com/example/pathmeter/pathmeter/codec/QosLevel" = true := by first | (simp [plainName, overriddenIn]; done) | decide +kernel
theorem ef_8 (m : MethodId) (a : Addr) : entryFrame m #[(.ref a)] 1 = mkF m 0 #[.val (.ref a)] [] := by first | (simp [entryFrame, mkF, argsToLocals, Value.category]; done) | rfl
def f8_0 (ua : Int32)  : Int32 := ua
set_option maxRecDepth 65536 in
set_option maxHeartbeats 40000000 in
theorem bk8_0 (l : Launch) (Z : State) (a0 : Array Value) (hw : ∀ d ∈ tables_1, d.before a0 Z = true) (h0 : Heap) (a : Addr)  (ua : Int32) (F_uplink_a : Fld Z h0 a "com/example/pathmeter/pathmeter/codec/QosLevel" "uplink" "I" (.int ua))   {p : Program} {e : Env} {s : State} {m : MethodId} {args : Array Value} {below : List Frame} {meth : Method} {c : Code} {T0 : State}
    (X0 : Stand p l e ({ frames := 0, cells := 0, slots := 0, locals := 0 } : Room) s m args below meth c T0 [] 0 0) (hx : p.tables.exec = Jvm.exec) (hby : c.code = prog_26_method_11_code) (hml : c.maxLocals = 1) (hret : meth.sig.returnType = (some .int)) (hlk : meth.locks = false) (hZ : Z.Warmed39 s.vm) (hown : s.vm.findClass "com/example/pathmeter/pathmeter/codec/QosLevel" = some m.cls) (hnm : meth.name = "uplink") (e0 : T0.heap = h0) :
    own_Go p e below s (own_Qp (some (.int (f8_0 ua ))) h0) 0 0 (T0.setTop (mkF m 0 #[.val (.ref a)] [])) := by
  have hf : f8_0 ua  = ua := rfl
  refine own_by (B := T0.setTop (mkF m 1 #[.val (.ref a)] [(.ref a)])) (fun t k => XS.aloadN X0.here hx rfl (hb hby d8_0) rfl rfl k) ?_
  obtain ⟨T1, X1, e1, st1⟩ := getF X0 hx hZ hown (host := "") (Or.inl (hw _ (List.mem_of_getElem? (i := 18) rfl))) Via.refl e0 F_uplink_a (g := (mkF m 1 #[.val (.ref a)] [(.ref a)])) rfl rfl (hb hby d8_1)
  refine own_by (B := T1.setTop (mkF m 4 #[.val (.ref a)] [(.int ua)])) (fun t k => st1 _ k) ?_
  exact own_retI X1 hx hlk hret (hb hby d8_4) ⟨by rw [hf], rfl, e1⟩ (by decide) (by decide)
set_option maxRecDepth 65536 in
set_option maxHeartbeats 40000000 in
theorem rm8 (l : Launch) (Z : State) (a0 : Array Value) (hw : ∀ d ∈ tables_1, d.before a0 Z = true) (ws : List Jvm.Cond) (a : Addr)  (ua : Int32) (h0 : Heap) (F_uplink_a : Fld Z h0 a "com/example/pathmeter/pathmeter/codec/QosLevel" "uplink" "I" (.int ua))  :
    MetFree l (⟨"com/example/pathmeter/pathmeter/codec/QosLevel", "uplink", "()I"⟩ : MethodName) (head1 (Jvm.Cond.code (⟨"com/example/pathmeter/pathmeter/codec/QosLevel", "uplink", "()I"⟩ : MethodName) prog_26_method_11_code 1 (some .int) :: ws) ({ frames := 0, cells := 0, slots := 0, locals := 0 } : Room)) (fun aa U => aa = #[(.ref a)] ∧ Z.Warmed39 U.vm ∧ U.heap = h0) (fun _ _ _ _ _ => True) (fun _ U o U' => ∃ v L, o = .returned v ∧ own_Qp (some (.int (f8_0 ua ))) h0 v U'.heap L ∧ FrameEnd U o U' L ({ frames := 0, cells := 0, slots := 0, locals := 0 } : Room).cells ({ frames := 0, cells := 0, slots := 0, locals := 0 } : Room).slots) := by
  refine own_met (plainFor_of_name pn_8) fun p e s m below meth c T0 X0 hx hby hml hret hlk hZ hown hnm e0 => ?_
  refine own_cast (ef_8 m a) ?_
  exact bk8_0 l Z a0 hw h0 a ua F_uplink_a   X0 hx hby hml hret hlk hZ hown hnm e0
theorem d9_0 : decode prog_26_method_12_code 0 = .ok (.aload_n 0, 1) := by decide +kernel
theorem d9_1 : decode prog_26_method_12_code 1 = .ok (.getfield 13, 3) := by decide +kernel
theorem d9_4 : decode prog_26_method_12_code 4 = .ok (.ireturn, 1) := by decide +kernel
theorem pn_9 : plainName "com/example/pathmeter/pathmeter/codec/QosLevel" = true := by first | (simp [plainName, overriddenIn]; done) | decide +kernel
theorem ef_9 (m : MethodId) (a : Addr) : entryFrame m #[(.ref a)] 1 = mkF m 0 #[.val (.ref a)] [] := by first | (simp [entryFrame, mkF, argsToLocals, Value.category]; done) | rfl
def f9_0 (da : Int32)  : Int32 := da
set_option maxRecDepth 65536 in
set_option maxHeartbeats 40000000 in
theorem bk9_0 (l : Launch) (Z : State) (a0 : Array Value) (hw : ∀ d ∈ tables_1, d.before a0 Z = true) (h0 : Heap) (a : Addr)  (da : Int32) (F_downlink_a : Fld Z h0 a "com/example/pathmeter/pathmeter/codec/QosLevel" "downlink" "I" (.int da))   {p : Program} {e : Env} {s : State} {m : MethodId} {args : Array Value} {below : List Frame} {meth : Method} {c : Code} {T0 : State}
    (X0 : Stand p l e ({ frames := 0, cells := 0, slots := 0, locals := 0 } : Room) s m args below meth c T0 [] 0 0) (hx : p.tables.exec = Jvm.exec) (hby : c.code = prog_26_method_12_code) (hml : c.maxLocals = 1) (hret : meth.sig.returnType = (some .int)) (hlk : meth.locks = false) (hZ : Z.Warmed39 s.vm) (hown : s.vm.findClass "com/example/pathmeter/pathmeter/codec/QosLevel" = some m.cls) (hnm : meth.name = "downlink") (e0 : T0.heap = h0) :
    own_Go p e below s (own_Qp (some (.int (f9_0 da ))) h0) 0 0 (T0.setTop (mkF m 0 #[.val (.ref a)] [])) := by
  have hf : f9_0 da  = da := rfl
  refine own_by (B := T0.setTop (mkF m 1 #[.val (.ref a)] [(.ref a)])) (fun t k => XS.aloadN X0.here hx rfl (hb hby d9_0) rfl rfl k) ?_
  obtain ⟨T1, X1, e1, st1⟩ := getF X0 hx hZ hown (host := "") (Or.inl (hw _ (List.mem_of_getElem? (i := 20) rfl))) Via.refl e0 F_downlink_a (g := (mkF m 1 #[.val (.ref a)] [(.ref a)])) rfl rfl (hb hby d9_1)
  refine own_by (B := T1.setTop (mkF m 4 #[.val (.ref a)] [(.int da)])) (fun t k => st1 _ k) ?_
  exact own_retI X1 hx hlk hret (hb hby d9_4) ⟨by rw [hf], rfl, e1⟩ (by decide) (by decide)
set_option maxRecDepth 65536 in
set_option maxHeartbeats 40000000 in
theorem rm9 (l : Launch) (Z : State) (a0 : Array Value) (hw : ∀ d ∈ tables_1, d.before a0 Z = true) (ws : List Jvm.Cond) (a : Addr)  (da : Int32) (h0 : Heap) (F_downlink_a : Fld Z h0 a "com/example/pathmeter/pathmeter/codec/QosLevel" "downlink" "I" (.int da))  :
    MetFree l (⟨"com/example/pathmeter/pathmeter/codec/QosLevel", "downlink", "()I"⟩ : MethodName) (head1 (Jvm.Cond.code (⟨"com/example/pathmeter/pathmeter/codec/QosLevel", "downlink", "()I"⟩ : MethodName) prog_26_method_12_code 1 (some .int) :: ws) ({ frames := 0, cells := 0, slots := 0, locals := 0 } : Room)) (fun aa U => aa = #[(.ref a)] ∧ Z.Warmed39 U.vm ∧ U.heap = h0) (fun _ _ _ _ _ => True) (fun _ U o U' => ∃ v L, o = .returned v ∧ own_Qp (some (.int (f9_0 da ))) h0 v U'.heap L ∧ FrameEnd U o U' L ({ frames := 0, cells := 0, slots := 0, locals := 0 } : Room).cells ({ frames := 0, cells := 0, slots := 0, locals := 0 } : Room).slots) := by
  refine own_met (plainFor_of_name pn_9) fun p e s m below meth c T0 X0 hx hby hml hret hlk hZ hown hnm e0 => ?_
  refine own_cast (ef_9 m a) ?_
  exact bk9_0 l Z a0 hw h0 a da F_downlink_a   X0 hx hby hml hret hlk hZ hown hnm e0
theorem d6_0 : decode prog_26_method_3_code 0 = .ok (.new 8, 3) := by decide +kernel
theorem d6_3 : decode prog_26_method_3_code 3 = .ok (.dup, 1) := by decide +kernel
theorem d6_4 : decode prog_26_method_3_code 4 = .ok (.iload_n 1, 1) := by decide +kernel
theorem d6_5 : decode prog_26_method_3_code 5 = .ok (.ifCond .eq 17, 3) := by decide +kernel
theorem d6_8 : decode prog_26_method_3_code 8 = .ok (.bipush 9, 2) := by decide +kernel
theorem d6_10 : decode prog_26_method_3_code 10 = .ok (.aload_n 0, 1) := by decide +kernel
theorem d6_11 : decode prog_26_method_3_code 11 = .ok (.getfield 7, 3) := by decide +kernel
theorem d6_14 : decode prog_26_method_3_code 14 = .ok (.iconst 1, 1) := by decide +kernel
theorem d6_15 : decode prog_26_method_3_code 15 = .ok (.iadd, 1) := by decide +kernel
theorem d6_16 : decode prog_26_method_3_code 16 = .ok (.invokestatic 87, 3) := by decide +kernel
theorem d6_19 : decode prog_26_method_3_code 19 = .ok (.goto 7, 3) := by decide +kernel
theorem d6_26 : decode prog_26_method_3_code 26 = .ok (.iload_n 2, 1) := by decide +kernel
theorem d6_27 : decode prog_26_method_3_code 27 = .ok (.ifCond .eq 17, 3) := by decide +kernel
theorem d6_44 : decode prog_26_method_3_code 44 = .ok (.aload_n 0, 1) := by decide +kernel
theorem d6_45 : decode prog_26_method_3_code 45 = .ok (.getfield 13, 3) := by decide +kernel
theorem d6_48 : decode prog_26_method_3_code 48 = .ok (.invokespecial 84, 3) := by decide +kernel
theorem d6_51 : decode prog_26_method_3_code 51 = .ok (.areturn, 1) := by decide +kernel
theorem pn_6 : plainName "com/example/pathmeter/pathmeter/codec/QosLevel" = true := by first | (simp [plainName, overriddenIn]; done) | decide +kernel
theorem ef_6 (m : MethodId) (x0 : Addr) (x1 : Int32) (x2 : Int32) : entryFrame m #[(.ref x0), (.int x1), (.int x2)] 3 = mkF m 0 #[.val (.ref x0), .val (.int x1), .val (.int x2)] [] := by first | (simp [entryFrame, mkF, argsToLocals, Value.category]; done) | rfl
def own_Q6a (Z : State) (a : Addr) (ua : Int32) (da : Int32) (h0 : Heap) (n0 : Nat) (v : Option Value) (h : Heap) (L : List Loc) : Prop := ∃ (b : Addr), v = some (.ref b) ∧ Fr n0 L ∧ Keep h0 h [] ∧ n0 ≤ b ∧ h0.size ≤ b ∧ Exa Z h b "com/example/pathmeter/pathmeter/codec/QosLevel" ∧ Fld Z h b "com/example/pathmeter/pathmeter/codec/QosLevel" "uplink" "I" (.int (f7_0  (9 : Int32) (ua + (1 : Int32)))) ∧ Fld Z h b "com/example/pathmeter/pathmeter/codec/QosLevel" "downlink" "I" (.int da)
set_option maxRecDepth 65536 in
set_option maxHeartbeats 40000000 in
theorem rm6a (l : Launch) (Z : State) (a0 : Array Value) (hw : ∀ d ∈ tables_1, d.before a0 Z = true) (ws : List Jvm.Cond) (a : Addr) (ua : Int32) (da : Int32) (h0 : Heap) (n0 : Nat) (Z0 : n0 ≤ h0.size) (F_uplink_a : Fld Z h0 a "com/example/pathmeter/pathmeter/codec/QosLevel" "uplink" "I" (.int ua)) (F_downlink_a : Fld Z h0 a "com/example/pathmeter/pathmeter/codec/QosLevel" "downlink" "I" (.int da)) (E_a : Exa Z h0 a "com/example/pathmeter/pathmeter/codec/QosLevel")    :
    MetFree l (⟨"com/example/pathmeter/pathmeter/codec/QosLevel", "raised", "(ZZ)Lcom/example/pathmeter/pathmeter/codec/QosLevel;"⟩ : MethodName) (head1 (Jvm.Cond.code (⟨"com/example/pathmeter/pathmeter/codec/QosLevel", "raised", "(ZZ)Lcom/example/pathmeter/pathmeter/codec/QosLevel;"⟩ : MethodName) prog_26_method_3_code 3 (some (.object "com/example/pathmeter/pathmeter/codec/QosLevel")) :: ws) ({ frames := 3, cells := 1, slots := 2, locals := 39 } : Room)) (fun aa U => aa = #[(.ref a), (.int (1 : Int32)), (.int (0 : Int32))] ∧ Z.Warmed39 U.vm ∧ U.heap = h0) (fun _ _ _ _ _ => True) (fun _ U o U' => ∃ v L, o = .returned v ∧ own_Q6a Z a ua da h0 n0 v U'.heap L ∧ FrameEnd U o U' L ({ frames := 3, cells := 1, slots := 2, locals := 39 } : Room).cells ({ frames := 3, cells := 1, slots := 2, locals := 39 } : Room).slots) := by
  refine own_met (plainFor_of_name pn_6) fun p e s m below meth c T0 X0 hx hby hml hret hlk hZ hown hnm e0 => ?_
  refine own_cast (ef_6 m a (1 : Int32) (0 : Int32)) ?_
  have NF := Fr.nil n0
  have Zs := Z0
  have K := Keep.refl h0 []
  obtain ⟨T1, h1, X1, e1, E1, A1, D1, -, st1⟩ := newO X0 hx hZ hown (hw _ (List.mem_of_getElem? (i := 32) rfl)) (hw _ (List.mem_of_getElem? (i := 5) rfl)) (hw _ (List.mem_of_getElem? (i := 6) rfl)) e0 (g := (mkF m 0 #[.val (.ref a), .val (.int (1 : Int32)), .val (.int (0 : Int32))] [])) rfl (hb hby d6_0) (by decide) (by decide)
  obtain ⟨b1, g1⟩ : ∃ z, z = h0.size := ⟨_, rfl⟩
  rw [← g1] at A1 D1 st1
  have g_b1 : n0 ≤ b1 := Nat.le_trans Zs (Nat.le_of_eq g1.symm)
  have sz_b1 : h0.size ≤ b1 := Nat.le_trans K.1 (Nat.le_of_eq g1.symm)
  have ne_a_b1 : a ≠ b1 := Nat.ne_of_lt (Nat.lt_of_lt_of_le F_uplink_a.lt (Nat.le_of_eq g1.symm))
  replace F_uplink_a : Fld Z h1 a "com/example/pathmeter/pathmeter/codec/QosLevel" "uplink" "I" (.int ua) := F_uplink_a.ext E1
  replace F_downlink_a : Fld Z h1 a "com/example/pathmeter/pathmeter/codec/QosLevel" "downlink" "I" (.int da) := F_downlink_a.ext E1
  replace E_a : Exa Z h1 a "com/example/pathmeter/pathmeter/codec/QosLevel" := E_a.ext E1
  replace Zs : n0 ≤ h1.size := Nat.le_trans Zs E1.1
  replace K : Keep h0 h1 [] := K.ext E1
  have E_b1 : Exa Z h1 b1 "com/example/pathmeter/pathmeter/codec/QosLevel" := A1
  have F_uplink_b1 : Fld Z h1 b1 "com/example/pathmeter/pathmeter/codec/QosLevel" "uplink" "I" (.int (0 : Int32)) := D1 (Or.inr (hw _ (List.mem_of_getElem? (i := 19) rfl))) (ty := .int) (by decide)
  have F_downlink_b1 : Fld Z h1 b1 "com/example/pathmeter/pathmeter/codec/QosLevel" "downlink" "I" (.int (0 : Int32)) := D1 (Or.inr (hw _ (List.mem_of_getElem? (i := 21) rfl))) (ty := .int) (by decide)
  refine own_by (B := T1.setTop (mkF m 3 #[.val (.ref a), .val (.int (1 : Int32)), .val (.int (0 : Int32))] [(.ref b1)])) (fun t k => st1 _ k) ?_
  refine own_by (B := T1.setTop (mkF m 4 #[.val (.ref a), .val (.int (1 : Int32)), .val (.int (0 : Int32))] [(.ref b1), (.ref b1)])) (fun t k => XS.dup X1.here hx rfl (hb hby d6_3) rfl rfl k) ?_
  refine own_by (B := T1.setTop (mkF m 5 #[.val (.ref a), .val (.int (1 : Int32)), .val (.int (0 : Int32))] [(.int (1 : Int32)), (.ref b1), (.ref b1)])) (fun t k => XS.iloadN X1.here hx rfl (hb hby d6_4) rfl k) ?_
  have hc2 : ¬ ((1 : Int32) = (0 : Int32)) := (by decide)
  refine own_by (B := T1.setTop (mkF m 8 #[.val (.ref a), .val (.int (1 : Int32)), .val (.int (0 : Int32))] [(.ref b1), (.ref b1)])) (fun t k => XS.ifNo X1.here hx rfl (hb hby d6_5) rfl ((if0 _ _).trans (feq hc2).1) k) ?_
  refine own_by (B := T1.setTop (mkF m 10 #[.val (.ref a), .val (.int (1 : Int32)), .val (.int (0 : Int32))] [(.int (9 : Int32)), (.ref b1), (.ref b1)])) (fun t k => XS.bipush X1.here hx rfl (hb hby d6_8) k) ?_
  refine own_by (B := T1.setTop (mkF m 11 #[.val (.ref a), .val (.int (1 : Int32)), .val (.int (0 : Int32))] [(.ref a), (.int (9 : Int32)), (.ref b1), (.ref b1)])) (fun t k => XS.aloadN X1.here hx rfl (hb hby d6_10) rfl rfl k) ?_
  obtain ⟨T3, X3, e3, st3⟩ := getF X1 hx hZ hown (host := "") (Or.inl (hw _ (List.mem_of_getElem? (i := 18) rfl))) Via.refl e1 F_uplink_a (g := (mkF m 11 #[.val (.ref a), .val (.int (1 : Int32)), .val (.int (0 : Int32))] [(.ref a), (.int (9 : Int32)), (.ref b1), (.ref b1)])) rfl rfl (hb hby d6_11)
  refine own_by (B := T3.setTop (mkF m 14 #[.val (.ref a), .val (.int (1 : Int32)), .val (.int (0 : Int32))] [(.int ua), (.int (9 : Int32)), (.ref b1), (.ref b1)])) (fun t k => st3 _ k) ?_
  refine own_by (B := T3.setTop (mkF m 15 #[.val (.ref a), .val (.int (1 : Int32)), .val (.int (0 : Int32))] [(.int (1 : Int32)), (.int ua), (.int (9 : Int32)), (.ref b1), (.ref b1)])) (fun t k => XS.iconst X3.here hx rfl (hb hby d6_14) k) ?_
  refine own_by (B := T3.setTop (mkF m 16 #[.val (.ref a), .val (.int (1 : Int32)), .val (.int (0 : Int32))] [(.int (ua + (1 : Int32))), (.int (9 : Int32)), (.ref b1), (.ref b1)])) (fun t k => XS.iadd X3.here hx rfl (hb hby d6_15) rfl k) ?_
  obtain ⟨v4, _, ⟨T4, L4, c4, n4⟩, -, X4, ⟨Lc4, hQ4, l4, y4, z4⟩, st4⟩ := Jvm.LawKit.callS X3 hx (y := (⟨"java/lang/Math", "min", "(II)I"⟩ : MethodName)) hown (mvT hZ (hw _ (List.mem_of_getElem? (i := 33) rfl))) (mvT hZ (hw _ (List.mem_of_getElem? (i := 34) rfl))) (mvT hZ (hw _ (List.mem_of_getElem? (i := 35) rfl))) (mvT hZ (hw _ (List.mem_of_getElem? (i := 36) rfl))) (by decide) (backOf (W := 2) (rm7 l Z a0 hw [] (9 : Int32) (ua + (1 : Int32))  h1 ) hZ (hw _ (List.mem_of_getElem? (i := 36) rfl)) (hw _ (List.mem_of_getElem? (i := 35) rfl)) (by decide) (by decide)) (g := (mkF m 16 #[.val (.ref a), .val (.int (1 : Int32)), .val (.int (0 : Int32))] [(.int (ua + (1 : Int32))), (.int (9 : Int32)), (.ref b1), (.ref b1)])) rfl (by rw [hml]; rfl) (argsL := [(.int (9 : Int32)), (.int (ua + (1 : Int32)))]) (rest := [(.ref b1), (.ref b1)]) (lenOf pd_1 rfl) rfl (by show 2 * 0 + _ ≤ _; exact Nat.le_of_eq rfl) (hb hby d6_16) (fun _ _ => ⟨rfl, e3, (by decide : 1 + 0 ≤ _), (by decide : 2 + 0 ≤ _)⟩)
  dsimp only [Pt.U, Pt.locs, Pt.cells, Pt.slots] at X4 l4 y4 z4 st4 hQ4
  subst l4 y4 z4
  obtain ⟨rfl, rfl, e4⟩ := hQ4
  have NF := Fr.app NF (Fr.nil n0)
  refine own_by (B := T4.setTop (mkF m 19 #[.val (.ref a), .val (.int (1 : Int32)), .val (.int (0 : Int32))] [(.int (f7_0 (9 : Int32) (ua + (1 : Int32)))), (.ref b1), (.ref b1)])) (fun t k => st4 _ k) ?_
  refine own_by (B := T4.setTop (mkF m 26 #[.val (.ref a), .val (.int (1 : Int32)), .val (.int (0 : Int32))] [(.int (f7_0 (9 : Int32) (ua + (1 : Int32)))), (.ref b1), (.ref b1)])) (fun t k => XS.goto X4.here hx rfl (pc0 := 19) (pc' := 26) rfl (hb hby d6_19) (by decide) (by decide) k) ?_
  refine own_by (B := T4.setTop (mkF m 27 #[.val (.ref a), .val (.int (1 : Int32)), .val (.int (0 : Int32))] [(.int (0 : Int32)), (.int (f7_0 (9 : Int32) (ua + (1 : Int32)))), (.ref b1), (.ref b1)])) (fun t k => XS.iloadN X4.here hx rfl (hb hby d6_26) rfl k) ?_
  have hc5 : (0 : Int32) = (0 : Int32) := rfl
  refine own_by (B := T4.setTop (mkF m 44 #[.val (.ref a), .val (.int (1 : Int32)), .val (.int (0 : Int32))] [(.int (f7_0 (9 : Int32) (ua + (1 : Int32)))), (.ref b1), (.ref b1)])) (fun t k => XS.ifYes X4.here hx rfl (pc0 := 27) (pc' := 44) rfl (hb hby d6_27) rfl ((if0 _ _).trans (teq hc5).1) (by decide) (by decide) k) ?_
  refine own_by (B := T4.setTop (mkF m 45 #[.val (.ref a), .val (.int (1 : Int32)), .val (.int (0 : Int32))] [(.ref a), (.int (f7_0 (9 : Int32) (ua + (1 : Int32)))), (.ref b1), (.ref b1)])) (fun t k => XS.aloadN X4.here hx rfl (hb hby d6_44) rfl rfl k) ?_
  obtain ⟨T6, X6, e6, st6⟩ := getF X4 hx hZ hown (host := "") (Or.inl (hw _ (List.mem_of_getElem? (i := 20) rfl))) Via.refl e4 F_downlink_a (g := (mkF m 45 #[.val (.ref a), .val (.int (1 : Int32)), .val (.int (0 : Int32))] [(.ref a), (.int (f7_0 (9 : Int32) (ua + (1 : Int32)))), (.ref b1), (.ref b1)])) rfl rfl (hb hby d6_45)
  refine own_by (B := T6.setTop (mkF m 48 #[.val (.ref a), .val (.int (1 : Int32)), .val (.int (0 : Int32))] [(.int da), (.int (f7_0 (9 : Int32) (ua + (1 : Int32)))), (.ref b1), (.ref b1)])) (fun t k => st6 _ k) ?_
  obtain ⟨v7, _, ⟨T7, L7, c7, n7⟩, -, X7, ⟨Lc7, hQ7, l7, y7, z7⟩, st7⟩ := X6.specialBack hx (y := (⟨"com/example/pathmeter/pathmeter/codec/QosLevel", "<init>", "(II)V"⟩ : MethodName)) rfl hown (mvT hZ (hw _ (List.mem_of_getElem? (i := 37) rfl))) (mvT hZ (hw _ (List.mem_of_getElem? (i := 8) rfl))) (mvT hZ (hw _ (List.mem_of_getElem? (i := 9) rfl))) (by decide) (backOf (W := 1) (rm2 l Z a0 hw [] b1 (f7_0 (9 : Int32) (ua + (1 : Int32))) da  h1 n0 Zs F_uplink_b1 F_downlink_b1 E_b1 g_b1  ) hZ (hw _ (List.mem_of_getElem? (i := 9) rfl)) (hw _ (List.mem_of_getElem? (i := 6) rfl)) (by decide) (by decide)) (g := (mkF m 48 #[.val (.ref a), .val (.int (1 : Int32)), .val (.int (0 : Int32))] [(.int da), (.int (f7_0 (9 : Int32) (ua + (1 : Int32)))), (.ref b1), (.ref b1)])) rfl (by rw [hml]; rfl) (Steps.refl _) (a := b1) (argsL := [(.int (f7_0 (9 : Int32) (ua + (1 : Int32)))), (.int da)]) (rest := [(.ref b1)]) (lenOf pd_2 rfl) rfl (by show 2 * 0 + _ ≤ _; exact Nat.le_of_eq rfl) (hb hby d6_48) (fun _ _ => ⟨rfl, e6, (by decide : 1 + 0 ≤ _), (by decide : 2 + 0 ≤ _)⟩)
  dsimp only [Pt.U, Pt.locs, Pt.cells, Pt.slots] at X7 l7 y7 z7 st7 hQ7
  subst l7 y7 z7
  obtain ⟨rfl, Nq7, Kq7, o0_7, o1_7, o2_7⟩ := hQ7
  have NF := Fr.app NF Nq7
  replace F_uplink_a : Fld Z T7.heap a "com/example/pathmeter/pathmeter/codec/QosLevel" "uplink" "I" (.int ua) := F_uplink_a.keep Kq7 (ninS ne_a_b1 nin0)
  replace F_downlink_a : Fld Z T7.heap a "com/example/pathmeter/pathmeter/codec/QosLevel" "downlink" "I" (.int da) := F_downlink_a.keep Kq7 (ninS ne_a_b1 nin0)
  replace E_a : Exa Z T7.heap a "com/example/pathmeter/pathmeter/codec/QosLevel" := E_a.keep Kq7
  replace E_b1 : Exa Z T7.heap b1 "com/example/pathmeter/pathmeter/codec/QosLevel" := E_b1.keep Kq7
  clear F_uplink_b1
  clear F_downlink_b1
  replace Zs : n0 ≤ T7.heap.size := Nat.le_trans Zs Kq7.1
  replace K : Keep h0 T7.heap [] := K.trans Kq7 (allS (Or.inr sz_b1) all0)
  have F_uplink_b1 : Fld Z T7.heap b1 "com/example/pathmeter/pathmeter/codec/QosLevel" "uplink" "I" (.int (f7_0 (9 : Int32) (ua + (1 : Int32)))) := o0_7
  have F_downlink_b1 : Fld Z T7.heap b1 "com/example/pathmeter/pathmeter/codec/QosLevel" "downlink" "I" (.int da) := o1_7
  have E_b1 : Exa Z T7.heap b1 "com/example/pathmeter/pathmeter/codec/QosLevel" := o2_7
  refine own_by (B := T7.setTop (mkF m 51 #[.val (.ref a), .val (.int (1 : Int32)), .val (.int (0 : Int32))] [(.ref b1)])) (fun t k => st7.trans k) ?_
  exact own_retA rfl X7 hx hlk hret (hb hby d6_51) (by show own_Q6a Z a ua da h0 n0 _ _ _; exact ⟨b1, rfl, NF, K, g_b1, sz_b1, E_b1, F_uplink_b1, F_downlink_b1⟩) (by decide) (by decide)
theorem d6_22 : decode prog_26_method_3_code 22 = .ok (.aload_n 0, 1) := by decide +kernel
theorem d6_23 : decode prog_26_method_3_code 23 = .ok (.getfield 7, 3) := by decide +kernel
theorem d6_30 : decode prog_26_method_3_code 30 = .ok (.bipush 9, 2) := by decide +kernel
theorem d6_32 : decode prog_26_method_3_code 32 = .ok (.aload_n 0, 1) := by decide +kernel
theorem d6_33 : decode prog_26_method_3_code 33 = .ok (.getfield 13, 3) := by decide +kernel
theorem d6_36 : decode prog_26_method_3_code 36 = .ok (.iconst 1, 1) := by decide +kernel
theorem d6_37 : decode prog_26_method_3_code 37 = .ok (.iadd, 1) := by decide +kernel
theorem d6_38 : decode prog_26_method_3_code 38 = .ok (.invokestatic 87, 3) := by decide +kernel
theorem d6_41 : decode prog_26_method_3_code 41 = .ok (.goto 7, 3) := by decide +kernel
def own_Q6b (Z : State) (a : Addr) (ua : Int32) (da : Int32) (h0 : Heap) (n0 : Nat) (v : Option Value) (h : Heap) (L : List Loc) : Prop := ∃ (b : Addr), v = some (.ref b) ∧ Fr n0 L ∧ Keep h0 h [] ∧ n0 ≤ b ∧ h0.size ≤ b ∧ Exa Z h b "com/example/pathmeter/pathmeter/codec/QosLevel" ∧ Fld Z h b "com/example/pathmeter/pathmeter/codec/QosLevel" "uplink" "I" (.int ua) ∧ Fld Z h b "com/example/pathmeter/pathmeter/codec/QosLevel" "downlink" "I" (.int (f7_0  (9 : Int32) (da + (1 : Int32))))
set_option maxRecDepth 65536 in
set_option maxHeartbeats 40000000 in
theorem rm6b (l : Launch) (Z : State) (a0 : Array Value) (hw : ∀ d ∈ tables_1, d.before a0 Z = true) (ws : List Jvm.Cond) (a : Addr) (ua : Int32) (da : Int32) (h0 : Heap) (n0 : Nat) (Z0 : n0 ≤ h0.size) (F_uplink_a : Fld Z h0 a "com/example/pathmeter/pathmeter/codec/QosLevel" "uplink" "I" (.int ua)) (F_downlink_a : Fld Z h0 a "com/example/pathmeter/pathmeter/codec/QosLevel" "downlink" "I" (.int da)) (E_a : Exa Z h0 a "com/example/pathmeter/pathmeter/codec/QosLevel")    :
    MetFree l (⟨"com/example/pathmeter/pathmeter/codec/QosLevel", "raised", "(ZZ)Lcom/example/pathmeter/pathmeter/codec/QosLevel;"⟩ : MethodName) (head1 (Jvm.Cond.code (⟨"com/example/pathmeter/pathmeter/codec/QosLevel", "raised", "(ZZ)Lcom/example/pathmeter/pathmeter/codec/QosLevel;"⟩ : MethodName) prog_26_method_3_code 3 (some (.object "com/example/pathmeter/pathmeter/codec/QosLevel")) :: ws) ({ frames := 3, cells := 1, slots := 2, locals := 39 } : Room)) (fun aa U => aa = #[(.ref a), (.int (0 : Int32)), (.int (1 : Int32))] ∧ Z.Warmed39 U.vm ∧ U.heap = h0) (fun _ _ _ _ _ => True) (fun _ U o U' => ∃ v L, o = .returned v ∧ own_Q6b Z a ua da h0 n0 v U'.heap L ∧ FrameEnd U o U' L ({ frames := 3, cells := 1, slots := 2, locals := 39 } : Room).cells ({ frames := 3, cells := 1, slots := 2, locals := 39 } : Room).slots) := by
  refine own_met (plainFor_of_name pn_6) fun p e s m below meth c T0 X0 hx hby hml hret hlk hZ hown hnm e0 => ?_
  refine own_cast (ef_6 m a (0 : Int32) (1 : Int32)) ?_
  have NF := Fr.nil n0
  have Zs := Z0
  have K := Keep.refl h0 []
  obtain ⟨T1, h1, X1, e1, E1, A1, D1, -, st1⟩ := newO X0 hx hZ hown (hw _ (List.mem_of_getElem? (i := 32) rfl)) (hw _ (List.mem_of_getElem? (i := 5) rfl)) (hw _ (List.mem_of_getElem? (i := 6) rfl)) e0 (g := (mkF m 0 #[.val (.ref a), .val (.int (0 : Int32)), .val (.int (1 : Int32))] [])) rfl (hb hby d6_0) (by decide) (by decide)
  obtain ⟨b1, g1⟩ : ∃ z, z = h0.size := ⟨_, rfl⟩
  rw [← g1] at A1 D1 st1
  have g_b1 : n0 ≤ b1 := Nat.le_trans Zs (Nat.le_of_eq g1.symm)
  have sz_b1 : h0.size ≤ b1 := Nat.le_trans K.1 (Nat.le_of_eq g1.symm)
  have ne_a_b1 : a ≠ b1 := Nat.ne_of_lt (Nat.lt_of_lt_of_le F_uplink_a.lt (Nat.le_of_eq g1.symm))
  replace F_uplink_a : Fld Z h1 a "com/example/pathmeter/pathmeter/codec/QosLevel" "uplink" "I" (.int ua) := F_uplink_a.ext E1
  replace F_downlink_a : Fld Z h1 a "com/example/pathmeter/pathmeter/codec/QosLevel" "downlink" "I" (.int da) := F_downlink_a.ext E1
  replace E_a : Exa Z h1 a "com/example/pathmeter/pathmeter/codec/QosLevel" := E_a.ext E1
  replace Zs : n0 ≤ h1.size := Nat.le_trans Zs E1.1
  replace K : Keep h0 h1 [] := K.ext E1
  have E_b1 : Exa Z h1 b1 "com/example/pathmeter/pathmeter/codec/QosLevel" := A1
  have F_uplink_b1 : Fld Z h1 b1 "com/example/pathmeter/pathmeter/codec/QosLevel" "uplink" "I" (.int (0 : Int32)) := D1 (Or.inr (hw _ (List.mem_of_getElem? (i := 19) rfl))) (ty := .int) (by decide)
  have F_downlink_b1 : Fld Z h1 b1 "com/example/pathmeter/pathmeter/codec/QosLevel" "downlink" "I" (.int (0 : Int32)) := D1 (Or.inr (hw _ (List.mem_of_getElem? (i := 21) rfl))) (ty := .int) (by decide)
  refine own_by (B := T1.setTop (mkF m 3 #[.val (.ref a), .val (.int (0 : Int32)), .val (.int (1 : Int32))] [(.ref b1)])) (fun t k => st1 _ k) ?_
  refine own_by (B := T1.setTop (mkF m 4 #[.val (.ref a), .val (.int (0 : Int32)), .val (.int (1 : Int32))] [(.ref b1), (.ref b1)])) (fun t k => XS.dup X1.here hx rfl (hb hby d6_3) rfl rfl k) ?_
  refine own_by (B := T1.setTop (mkF m 5 #[.val (.ref a), .val (.int (0 : Int32)), .val (.int (1 : Int32))] [(.int (0 : Int32)), (.ref b1), (.ref b1)])) (fun t k => XS.iloadN X1.here hx rfl (hb hby d6_4) rfl k) ?_
  have hc2 : (0 : Int32) = (0 : Int32) := rfl
  refine own_by (B := T1.setTop (mkF m 22 #[.val (.ref a), .val (.int (0 : Int32)), .val (.int (1 : Int32))] [(.ref b1), (.ref b1)])) (fun t k => XS.ifYes X1.here hx rfl (pc0 := 5) (pc' := 22) rfl (hb hby d6_5) rfl ((if0 _ _).trans (teq hc2).1) (by decide) (by decide) k) ?_
  refine own_by (B := T1.setTop (mkF m 23 #[.val (.ref a), .val (.int (0 : Int32)), .val (.int (1 : Int32))] [(.ref a), (.ref b1), (.ref b1)])) (fun t k => XS.aloadN X1.here hx rfl (hb hby d6_22) rfl rfl k) ?_
  obtain ⟨T3, X3, e3, st3⟩ := getF X1 hx hZ hown (host := "") (Or.inl (hw _ (List.mem_of_getElem? (i := 18) rfl))) Via.refl e1 F_uplink_a (g := (mkF m 23 #[.val (.ref a), .val (.int (0 : Int32)), .val (.int (1 : Int32))] [(.ref a), (.ref b1), (.ref b1)])) rfl rfl (hb hby d6_23)
  refine own_by (B := T3.setTop (mkF m 26 #[.val (.ref a), .val (.int (0 : Int32)), .val (.int (1 : Int32))] [(.int ua), (.ref b1), (.ref b1)])) (fun t k => st3 _ k) ?_
  refine own_by (B := T3.setTop (mkF m 27 #[.val (.ref a), .val (.int (0 : Int32)), .val (.int (1 : Int32))] [(.int (1 : Int32)), (.int ua), (.ref b1), (.ref b1)])) (fun t k => XS.iloadN X3.here hx rfl (hb hby d6_26) rfl k) ?_
  have hc4 : ¬ ((1 : Int32) = (0 : Int32)) := (by decide)
  refine own_by (B := T3.setTop (mkF m 30 #[.val (.ref a), .val (.int (0 : Int32)), .val (.int (1 : Int32))] [(.int ua), (.ref b1), (.ref b1)])) (fun t k => XS.ifNo X3.here hx rfl (hb hby d6_27) rfl ((if0 _ _).trans (feq hc4).1) k) ?_
  refine own_by (B := T3.setTop (mkF m 32 #[.val (.ref a), .val (.int (0 : Int32)), .val (.int (1 : Int32))] [(.int (9 : Int32)), (.int ua), (.ref b1), (.ref b1)])) (fun t k => XS.bipush X3.here hx rfl (hb hby d6_30) k) ?_
  refine own_by (B := T3.setTop (mkF m 33 #[.val (.ref a), .val (.int (0 : Int32)), .val (.int (1 : Int32))] [(.ref a), (.int (9 : Int32)), (.int ua), (.ref b1), (.ref b1)])) (fun t k => XS.aloadN X3.here hx rfl (hb hby d6_32) rfl rfl k) ?_
  obtain ⟨T5, X5, e5, st5⟩ := getF X3 hx hZ hown (host := "") (Or.inl (hw _ (List.mem_of_getElem? (i := 20) rfl))) Via.refl e3 F_downlink_a (g := (mkF m 33 #[.val (.ref a), .val (.int (0 : Int32)), .val (.int (1 : Int32))] [(.ref a), (.int (9 : Int32)), (.int ua), (.ref b1), (.ref b1)])) rfl rfl (hb hby d6_33)
  refine own_by (B := T5.setTop (mkF m 36 #[.val (.ref a), .val (.int (0 : Int32)), .val (.int (1 : Int32))] [(.int da), (.int (9 : Int32)), (.int ua), (.ref b1), (.ref b1)])) (fun t k => st5 _ k) ?_
  refine own_by (B := T5.setTop (mkF m 37 #[.val (.ref a), .val (.int (0 : Int32)), .val (.int (1 : Int32))] [(.int (1 : Int32)), (.int da), (.int (9 : Int32)), (.int ua), (.ref b1), (.ref b1)])) (fun t k => XS.iconst X5.here hx rfl (hb hby d6_36) k) ?_
  refine own_by (B := T5.setTop (mkF m 38 #[.val (.ref a), .val (.int (0 : Int32)), .val (.int (1 : Int32))] [(.int (da + (1 : Int32))), (.int (9 : Int32)), (.int ua), (.ref b1), (.ref b1)])) (fun t k => XS.iadd X5.here hx rfl (hb hby d6_37) rfl k) ?_
  obtain ⟨v6, _, ⟨T6, L6, c6, n6⟩, -, X6, ⟨Lc6, hQ6, l6, y6, z6⟩, st6⟩ := Jvm.LawKit.callS X5 hx (y := (⟨"java/lang/Math", "min", "(II)I"⟩ : MethodName)) hown (mvT hZ (hw _ (List.mem_of_getElem? (i := 33) rfl))) (mvT hZ (hw _ (List.mem_of_getElem? (i := 34) rfl))) (mvT hZ (hw _ (List.mem_of_getElem? (i := 35) rfl))) (mvT hZ (hw _ (List.mem_of_getElem? (i := 36) rfl))) (by decide) (backOf (W := 3) (rm7 l Z a0 hw [] (9 : Int32) (da + (1 : Int32))  h1 ) hZ (hw _ (List.mem_of_getElem? (i := 36) rfl)) (hw _ (List.mem_of_getElem? (i := 35) rfl)) (by decide) (by decide)) (g := (mkF m 38 #[.val (.ref a), .val (.int (0 : Int32)), .val (.int (1 : Int32))] [(.int (da + (1 : Int32))), (.int (9 : Int32)), (.int ua), (.ref b1), (.ref b1)])) rfl (by rw [hml]; rfl) (argsL := [(.int (9 : Int32)), (.int (da + (1 : Int32)))]) (rest := [(.int ua), (.ref b1), (.ref b1)]) (lenOf pd_1 rfl) rfl (by show 2 * 0 + _ ≤ _; exact Nat.le_of_eq rfl) (hb hby d6_38) (fun _ _ => ⟨rfl, e5, (by decide : 1 + 0 ≤ _), (by decide : 2 + 0 ≤ _)⟩)
  dsimp only [Pt.U, Pt.locs, Pt.cells, Pt.slots] at X6 l6 y6 z6 st6 hQ6
  subst l6 y6 z6
  obtain ⟨rfl, rfl, e6⟩ := hQ6
  have NF := Fr.app NF (Fr.nil n0)
  refine own_by (B := T6.setTop (mkF m 41 #[.val (.ref a), .val (.int (0 : Int32)), .val (.int (1 : Int32))] [(.int (f7_0 (9 : Int32) (da + (1 : Int32)))), (.int ua), (.ref b1), (.ref b1)])) (fun t k => st6 _ k) ?_
  refine own_by (B := T6.setTop (mkF m 48 #[.val (.ref a), .val (.int (0 : Int32)), .val (.int (1 : Int32))] [(.int (f7_0 (9 : Int32) (da + (1 : Int32)))), (.int ua), (.ref b1), (.ref b1)])) (fun t k => XS.goto X6.here hx rfl (pc0 := 41) (pc' := 48) rfl (hb hby d6_41) (by decide) (by decide) k) ?_
  obtain ⟨v7, _, ⟨T7, L7, c7, n7⟩, -, X7, ⟨Lc7, hQ7, l7, y7, z7⟩, st7⟩ := X6.specialBack hx (y := (⟨"com/example/pathmeter/pathmeter/codec/QosLevel", "<init>", "(II)V"⟩ : MethodName)) rfl hown (mvT hZ (hw _ (List.mem_of_getElem? (i := 37) rfl))) (mvT hZ (hw _ (List.mem_of_getElem? (i := 8) rfl))) (mvT hZ (hw _ (List.mem_of_getElem? (i := 9) rfl))) (by decide) (backOf (W := 1) (rm2 l Z a0 hw [] b1 ua (f7_0 (9 : Int32) (da + (1 : Int32)))  h1 n0 Zs F_uplink_b1 F_downlink_b1 E_b1 g_b1  ) hZ (hw _ (List.mem_of_getElem? (i := 9) rfl)) (hw _ (List.mem_of_getElem? (i := 6) rfl)) (by decide) (by decide)) (g := (mkF m 48 #[.val (.ref a), .val (.int (0 : Int32)), .val (.int (1 : Int32))] [(.int (f7_0 (9 : Int32) (da + (1 : Int32)))), (.int ua), (.ref b1), (.ref b1)])) rfl (by rw [hml]; rfl) (Steps.refl _) (a := b1) (argsL := [(.int ua), (.int (f7_0 (9 : Int32) (da + (1 : Int32))))]) (rest := [(.ref b1)]) (lenOf pd_2 rfl) rfl (by show 2 * 0 + _ ≤ _; exact Nat.le_of_eq rfl) (hb hby d6_48) (fun _ _ => ⟨rfl, e6, (by decide : 1 + 0 ≤ _), (by decide : 2 + 0 ≤ _)⟩)
  dsimp only [Pt.U, Pt.locs, Pt.cells, Pt.slots] at X7 l7 y7 z7 st7 hQ7
  subst l7 y7 z7
  obtain ⟨rfl, Nq7, Kq7, o0_7, o1_7, o2_7⟩ := hQ7
  have NF := Fr.app NF Nq7
  replace F_uplink_a : Fld Z T7.heap a "com/example/pathmeter/pathmeter/codec/QosLevel" "uplink" "I" (.int ua) := F_uplink_a.keep Kq7 (ninS ne_a_b1 nin0)
  replace F_downlink_a : Fld Z T7.heap a "com/example/pathmeter/pathmeter/codec/QosLevel" "downlink" "I" (.int da) := F_downlink_a.keep Kq7 (ninS ne_a_b1 nin0)
  replace E_a : Exa Z T7.heap a "com/example/pathmeter/pathmeter/codec/QosLevel" := E_a.keep Kq7
  replace E_b1 : Exa Z T7.heap b1 "com/example/pathmeter/pathmeter/codec/QosLevel" := E_b1.keep Kq7
  clear F_uplink_b1
  clear F_downlink_b1
  replace Zs : n0 ≤ T7.heap.size := Nat.le_trans Zs Kq7.1
  replace K : Keep h0 T7.heap [] := K.trans Kq7 (allS (Or.inr sz_b1) all0)
  have F_uplink_b1 : Fld Z T7.heap b1 "com/example/pathmeter/pathmeter/codec/QosLevel" "uplink" "I" (.int ua) := o0_7
  have F_downlink_b1 : Fld Z T7.heap b1 "com/example/pathmeter/pathmeter/codec/QosLevel" "downlink" "I" (.int (f7_0 (9 : Int32) (da + (1 : Int32)))) := o1_7
  have E_b1 : Exa Z T7.heap b1 "com/example/pathmeter/pathmeter/codec/QosLevel" := o2_7
  refine own_by (B := T7.setTop (mkF m 51 #[.val (.ref a), .val (.int (0 : Int32)), .val (.int (1 : Int32))] [(.ref b1)])) (fun t k => st7.trans k) ?_
  exact own_retA rfl X7 hx hlk hret (hb hby d6_51) (by show own_Q6b Z a ua da h0 n0 _ _ _; exact ⟨b1, rfl, NF, K, g_b1, sz_b1, E_b1, F_uplink_b1, F_downlink_b1⟩) (by decide) (by decide)
theorem own_min (x : Int32) : (f7_0 (9 : Int32) (x + (1 : Int32))) = x ↔ x = 9 := by
  have hf : f7_0 (9 : Int32) (x + (1 : Int32)) = (if (x + (1 : Int32)) < (9 : Int32) then (x + (1 : Int32)) else (9 : Int32)) := rfl
  rw [hf]
  constructor
  · intro h
    by_cases q : (x + (1 : Int32)) < (9 : Int32)
    · rw [if_pos q] at h
      have := congrArg Int32.toInt h
      have h2 := c_iadd x 1
      have e : (1 : Int32).toInt = 1 := by decide
      omega
    · rw [if_neg q] at h; exact h.symm
  · intro h; subst h; decide
theorem own_r (u d z : Int32) (h : z = (if u = (9 : Int32) then (1 : Int32) else (if d = (9 : Int32) then (1 : Int32) else (0 : Int32)))) : f5_0 u d = z := by
  subst h
  simp only [f5_0, f5_18, f5_23]
  by_cases q : u = 9
  · rw [if_pos q, if_pos q]; decide
  · rw [if_neg q, if_neg q]
    by_cases r : d = 9
    · rw [if_pos r, if_pos r]; decide
    · rw [if_neg r, if_neg r]; decide
theorem own_1 (u d : Int32) (h : (f8_0 (f7_0 (9 : Int32) (u + (1 : Int32)))) = u) : f5_0 u d = 1 := own_r u d 1 (by rw [if_pos ((own_min u).mp h)])
theorem own_2 (u d z : Int32) (h : ¬ (f8_0 (f7_0 (9 : Int32) (u + (1 : Int32)))) = u) (hz : z = (if (f9_0 (f7_0 (9 : Int32) (d + (1 : Int32)))) = d then (1 : Int32) else (0 : Int32))) : f5_0 u d = z := by
  refine own_r u d z ?_
  rw [if_neg (fun q => h ((own_min u).mpr q)), hz]
  by_cases q : d = 9
  · have hq : (f9_0 (f7_0 (9 : Int32) (d + (1 : Int32)))) = d := (own_min d).mpr q
    rw [if_pos q, if_pos hq]
  · have hq : ¬ (f9_0 (f7_0 (9 : Int32) (d + (1 : Int32)))) = d := fun r => q ((own_min d).mp r)
    rw [if_neg q, if_neg hq]
theorem pn_0 : plainName "com/example/pathmeter/pathmeter/codec/QosLevelReachesMaxPinLaw" = true := by first | (simp [plainName, overriddenIn]; done) | decide +kernel
theorem ef_0 (m : MethodId) (i0 : Int32) (i1 : Int32) (i2 : Int32) : entryFrame m #[(.int i0), (.int i1), (.int i2)] maxLocals = mkF m 0 #[.val (.int i0), .val (.int i1), .val (.int i2), .unset, .unset, .unset, .unset, .unset, .unset] [] := by first | (simp [entryFrame, mkF, argsToLocals, Value.category, maxLocals]; done) | rfl
def own_Q0 (n0 : Nat) (v : Option Value) (h : Heap) (L : List Loc) : Prop := v = some (.int 1) ∧ Fr n0 L
set_option maxRecDepth 65536 in
set_option maxHeartbeats 40000000 in
theorem rm0 (l : Launch) (Z : State) (a0 : Array Value) (hw : ∀ d ∈ tables_1, d.before a0 Z = true) (ws : List Jvm.Cond) (i0 : Int32) (i1 : Int32) (i2 : Int32)  (h0 : Heap) (n0 : Nat) (Z0 : n0 ≤ h0.size)  :
    MetFree l x (head1 (Jvm.Cond.code x code maxLocals ret :: ws) room_1) (fun aa U => aa = #[(.int i0), (.int i1), (.int i2)] ∧ Z.Warmed39 U.vm ∧ U.heap = h0) (fun _ _ _ _ _ => True) (fun _ U o U' => ∃ v L, o = .returned v ∧ own_Q0 n0 v U'.heap L ∧ FrameEnd U o U' L room_1.cells room_1.slots) := by
  refine own_met (plainFor_of_name pn_0) fun p e s m below meth c T0 X0 hx hby hml hret hlk hZ hown hnm e0 => ?_
  refine own_cast (ef_0 m i0 i1 i2) ?_
  have NF := Fr.nil n0
  have Zs := Z0
  refine own_by (B := T0.setTop (mkF m 1 #[.val (.int i0), .val (.int i1), .val (.int i2), .unset, .unset, .unset, .unset, .unset, .unset] [(.int i0)])) (fun t k => XS.iloadN X0.here hx rfl (hb hby at_0) rfl k) ?_
  refine own_by (B := T0.setTop (mkF m 2 #[.val (.int i0), .val (.int i1), .val (.int i2), .unset, .unset, .unset, .unset, .unset, .unset] [(.int i2), (.int i0)])) (fun t k => XS.iloadN X0.here hx rfl (hb hby at_1) rfl k) ?_
  refine own_by (B := T0.setTop (mkF m 3 #[.val (.int i0), .val (.int i1), .val (.int i2), .unset, .unset, .unset, .unset, .unset, .unset] [(.int (3 : Int32)), (.int i2), (.int i0)])) (fun t k => XS.iconst X0.here hx rfl (hb hby at_2) k) ?_
  refine own_by (B := T0.setTop (mkF m 4 #[.val (.int i0), .val (.int i1), .val (.int i2), .unset, .unset, .unset, .unset, .unset, .unset] [(.int (i2 &&& (3 : Int32))), (.int i0)])) (fun t k => XS.iand X0.here hx rfl (hb hby at_3) rfl k) ?_
  obtain ⟨v1, _, ⟨T1, L1, c1, n1⟩, -, X1, ⟨Lc1, hQ1, l1, y1, z1⟩, st1⟩ := Jvm.LawKit.callS X0 hx (y := (⟨"com/example/pathmeter/pathmeter/codec/QosLevelReachesMaxPinLaw", "pick", "(II)I"⟩ : MethodName)) hown (mvT hZ (hw _ (List.mem_of_getElem? (i := 0) rfl))) (mvT hZ (hw _ (List.mem_of_getElem? (i := 1) rfl))) (mvT hZ (hw _ (List.mem_of_getElem? (i := 2) rfl))) (mvT hZ (hw _ (List.mem_of_getElem? (i := 3) rfl))) (by decide) (backOf (W := 0) (rm1 l Z a0 hw [] i0 (i2 &&& (3 : Int32))  h0 ) hZ (hw _ (List.mem_of_getElem? (i := 3) rfl)) (hw _ (List.mem_of_getElem? (i := 2) rfl)) (by decide) (by decide)) (g := (mkF m 4 #[.val (.int i0), .val (.int i1), .val (.int i2), .unset, .unset, .unset, .unset, .unset, .unset] [(.int (i2 &&& (3 : Int32))), (.int i0)])) rfl (by rw [hml]; rfl) (argsL := [(.int i0), (.int (i2 &&& (3 : Int32)))]) (rest := []) (lenOf pd_1 rfl) rfl (by show 2 * 0 + _ ≤ _; exact Nat.le_of_eq rfl) (hb hby at_4) (fun _ _ => ⟨rfl, e0, (by decide : 0 + 0 ≤ _), (by decide : 0 + 0 ≤ _)⟩)
  dsimp only [Pt.U, Pt.locs, Pt.cells, Pt.slots] at X1 l1 y1 z1 st1 hQ1
  subst l1 y1 z1
  obtain ⟨rfl, rfl, e1⟩ := hQ1
  have NF := Fr.app NF (Fr.nil n0)
  refine own_by (B := T1.setTop (mkF m 7 #[.val (.int i0), .val (.int i1), .val (.int i2), .unset, .unset, .unset, .unset, .unset, .unset] [(.int (f1_0 i0 (i2 &&& (3 : Int32))))])) (fun t k => st1 _ k) ?_
  refine own_by (B := T1.setTop (mkF m 8 #[.val (.int i0), .val (.int i1), .val (.int i2), .val (.int (f1_0 i0 (i2 &&& (3 : Int32)))), .unset, .unset, .unset, .unset, .unset] [])) (fun t k => XS.istoreN X1.here hx rfl (hb hby at_7) rfl (l' := #[.val (.int i0), .val (.int i1), .val (.int i2), .val (.int (f1_0 i0 (i2 &&& (3 : Int32)))), .unset, .unset, .unset, .unset, .unset]) rfl k) ?_
  obtain ⟨uu, huu⟩ : ∃ z : Int32, z = (f1_0 i0 (i2 &&& (3 : Int32))) := ⟨_, rfl⟩
  rw [← huu]
  refine own_by (B := T1.setTop (mkF m 9 #[.val (.int i0), .val (.int i1), .val (.int i2), .val (.int uu), .unset, .unset, .unset, .unset, .unset] [(.int i1)])) (fun t k => XS.iloadN X1.here hx rfl (hb hby at_8) rfl k) ?_
  refine own_by (B := T1.setTop (mkF m 10 #[.val (.int i0), .val (.int i1), .val (.int i2), .val (.int uu), .unset, .unset, .unset, .unset, .unset] [(.int i2), (.int i1)])) (fun t k => XS.iloadN X1.here hx rfl (hb hby at_9) rfl k) ?_
  refine own_by (B := T1.setTop (mkF m 11 #[.val (.int i0), .val (.int i1), .val (.int i2), .val (.int uu), .unset, .unset, .unset, .unset, .unset] [(.int (2 : Int32)), (.int i2), (.int i1)])) (fun t k => XS.iconst X1.here hx rfl (hb hby at_10) k) ?_
  refine own_by (B := T1.setTop (mkF m 12 #[.val (.int i0), .val (.int i1), .val (.int i2), .val (.int uu), .unset, .unset, .unset, .unset, .unset] [(.int (i2 >>> ((2 : Int32) &&& 31))), (.int i1)])) (fun t k => XS.ishr X1.here hx rfl (hb hby at_11) rfl k) ?_
  refine own_by (B := T1.setTop (mkF m 13 #[.val (.int i0), .val (.int i1), .val (.int i2), .val (.int uu), .unset, .unset, .unset, .unset, .unset] [(.int (3 : Int32)), (.int (i2 >>> ((2 : Int32) &&& 31))), (.int i1)])) (fun t k => XS.iconst X1.here hx rfl (hb hby at_12) k) ?_
  refine own_by (B := T1.setTop (mkF m 14 #[.val (.int i0), .val (.int i1), .val (.int i2), .val (.int uu), .unset, .unset, .unset, .unset, .unset] [(.int ((i2 >>> ((2 : Int32) &&& 31)) &&& (3 : Int32))), (.int i1)])) (fun t k => XS.iand X1.here hx rfl (hb hby at_13) rfl k) ?_
  obtain ⟨v2, _, ⟨T2, L2, c2, n2⟩, -, X2, ⟨Lc2, hQ2, l2, y2, z2⟩, st2⟩ := Jvm.LawKit.callS X1 hx (y := (⟨"com/example/pathmeter/pathmeter/codec/QosLevelReachesMaxPinLaw", "pick", "(II)I"⟩ : MethodName)) hown (mvT hZ (hw _ (List.mem_of_getElem? (i := 0) rfl))) (mvT hZ (hw _ (List.mem_of_getElem? (i := 1) rfl))) (mvT hZ (hw _ (List.mem_of_getElem? (i := 2) rfl))) (mvT hZ (hw _ (List.mem_of_getElem? (i := 3) rfl))) (by decide) (backOf (W := 0) (rm1 l Z a0 hw [] i1 ((i2 >>> ((2 : Int32) &&& 31)) &&& (3 : Int32))  h0 ) hZ (hw _ (List.mem_of_getElem? (i := 3) rfl)) (hw _ (List.mem_of_getElem? (i := 2) rfl)) (by decide) (by decide)) (g := (mkF m 14 #[.val (.int i0), .val (.int i1), .val (.int i2), .val (.int uu), .unset, .unset, .unset, .unset, .unset] [(.int ((i2 >>> ((2 : Int32) &&& 31)) &&& (3 : Int32))), (.int i1)])) rfl (by rw [hml]; rfl) (argsL := [(.int i1), (.int ((i2 >>> ((2 : Int32) &&& 31)) &&& (3 : Int32)))]) (rest := []) (lenOf pd_1 rfl) rfl (by show 2 * 0 + _ ≤ _; exact Nat.le_of_eq rfl) (hb hby at_14) (fun _ _ => ⟨rfl, e1, (by decide : 0 + 0 ≤ _), (by decide : 0 + 0 ≤ _)⟩)
  dsimp only [Pt.U, Pt.locs, Pt.cells, Pt.slots] at X2 l2 y2 z2 st2 hQ2
  subst l2 y2 z2
  obtain ⟨rfl, rfl, e2⟩ := hQ2
  have NF := Fr.app NF (Fr.nil n0)
  refine own_by (B := T2.setTop (mkF m 17 #[.val (.int i0), .val (.int i1), .val (.int i2), .val (.int uu), .unset, .unset, .unset, .unset, .unset] [(.int (f1_0 i1 ((i2 >>> ((2 : Int32) &&& 31)) &&& (3 : Int32))))])) (fun t k => st2 _ k) ?_
  refine own_by (B := T2.setTop (mkF m 19 #[.val (.int i0), .val (.int i1), .val (.int i2), .val (.int uu), .val (.int (f1_0 i1 ((i2 >>> ((2 : Int32) &&& 31)) &&& (3 : Int32)))), .unset, .unset, .unset, .unset] [])) (fun t k => XS.istore X2.here hx rfl (hb hby at_17) rfl (l' := #[.val (.int i0), .val (.int i1), .val (.int i2), .val (.int uu), .val (.int (f1_0 i1 ((i2 >>> ((2 : Int32) &&& 31)) &&& (3 : Int32)))), .unset, .unset, .unset, .unset]) rfl k) ?_
  obtain ⟨dd, hdd⟩ : ∃ z : Int32, z = (f1_0 i1 ((i2 >>> ((2 : Int32) &&& 31)) &&& (3 : Int32))) := ⟨_, rfl⟩
  rw [← hdd]
  obtain ⟨T3, h3, X3, e3, E3, A3, D3, -, st3⟩ := newO X2 hx hZ hown (hw _ (List.mem_of_getElem? (i := 4) rfl)) (hw _ (List.mem_of_getElem? (i := 5) rfl)) (hw _ (List.mem_of_getElem? (i := 6) rfl)) e2 (g := (mkF m 19 #[.val (.int i0), .val (.int i1), .val (.int i2), .val (.int uu), .val (.int dd), .unset, .unset, .unset, .unset] [])) rfl (hb hby at_19) (by decide) (by decide)
  obtain ⟨b3, g3⟩ : ∃ z, z = h0.size := ⟨_, rfl⟩
  rw [← g3] at A3 D3 st3
  have g_b3 : n0 ≤ b3 := Nat.le_trans Zs (Nat.le_of_eq g3.symm)
  replace Zs : n0 ≤ h3.size := Nat.le_trans Zs E3.1
  have E_b3 : Exa Z h3 b3 "com/example/pathmeter/pathmeter/codec/QosLevel" := A3
  have F_uplink_b3 : Fld Z h3 b3 "com/example/pathmeter/pathmeter/codec/QosLevel" "uplink" "I" (.int (0 : Int32)) := D3 (Or.inr (hw _ (List.mem_of_getElem? (i := 19) rfl))) (ty := .int) (by decide)
  have F_downlink_b3 : Fld Z h3 b3 "com/example/pathmeter/pathmeter/codec/QosLevel" "downlink" "I" (.int (0 : Int32)) := D3 (Or.inr (hw _ (List.mem_of_getElem? (i := 21) rfl))) (ty := .int) (by decide)
  refine own_by (B := T3.setTop (mkF m 22 #[.val (.int i0), .val (.int i1), .val (.int i2), .val (.int uu), .val (.int dd), .unset, .unset, .unset, .unset] [(.ref b3)])) (fun t k => st3 _ k) ?_
  refine own_by (B := T3.setTop (mkF m 23 #[.val (.int i0), .val (.int i1), .val (.int i2), .val (.int uu), .val (.int dd), .unset, .unset, .unset, .unset] [(.ref b3), (.ref b3)])) (fun t k => XS.dup X3.here hx rfl (hb hby at_22) rfl rfl k) ?_
  refine own_by (B := T3.setTop (mkF m 24 #[.val (.int i0), .val (.int i1), .val (.int i2), .val (.int uu), .val (.int dd), .unset, .unset, .unset, .unset] [(.int uu), (.ref b3), (.ref b3)])) (fun t k => XS.iloadN X3.here hx rfl (hb hby at_23) rfl k) ?_
  refine own_by (B := T3.setTop (mkF m 26 #[.val (.int i0), .val (.int i1), .val (.int i2), .val (.int uu), .val (.int dd), .unset, .unset, .unset, .unset] [(.int dd), (.int uu), (.ref b3), (.ref b3)])) (fun t k => XS.iload X3.here hx rfl (hb hby at_24) rfl k) ?_
  obtain ⟨v4, _, ⟨T4, L4, c4, n4⟩, -, X4, ⟨Lc4, hQ4, l4, y4, z4⟩, st4⟩ := X3.specialBack hx (y := (⟨"com/example/pathmeter/pathmeter/codec/QosLevel", "<init>", "(II)V"⟩ : MethodName)) rfl hown (mvT hZ (hw _ (List.mem_of_getElem? (i := 7) rfl))) (mvT hZ (hw _ (List.mem_of_getElem? (i := 8) rfl))) (mvT hZ (hw _ (List.mem_of_getElem? (i := 9) rfl))) (by decide) (backOf (W := 1) (rm2 l Z a0 hw [] b3 uu dd  h3 n0 Zs F_uplink_b3 F_downlink_b3 E_b3 g_b3  ) hZ (hw _ (List.mem_of_getElem? (i := 9) rfl)) (hw _ (List.mem_of_getElem? (i := 6) rfl)) (by decide) (by decide)) (g := (mkF m 26 #[.val (.int i0), .val (.int i1), .val (.int i2), .val (.int uu), .val (.int dd), .unset, .unset, .unset, .unset] [(.int dd), (.int uu), (.ref b3), (.ref b3)])) rfl (by rw [hml]; rfl) (Steps.refl _) (a := b3) (argsL := [(.int uu), (.int dd)]) (rest := [(.ref b3)]) (lenOf pd_2 rfl) rfl (by show 2 * 0 + _ ≤ _; exact Nat.le_of_eq rfl) (hb hby at_26) (fun _ _ => ⟨rfl, e3, (by decide : 1 + 0 ≤ _), (by decide : 2 + 0 ≤ _)⟩)
  dsimp only [Pt.U, Pt.locs, Pt.cells, Pt.slots] at X4 l4 y4 z4 st4 hQ4
  subst l4 y4 z4
  obtain ⟨rfl, Nq4, Kq4, o0_4, o1_4, o2_4⟩ := hQ4
  have NF := Fr.app NF Nq4
  replace E_b3 : Exa Z T4.heap b3 "com/example/pathmeter/pathmeter/codec/QosLevel" := E_b3.keep Kq4
  clear F_uplink_b3
  clear F_downlink_b3
  replace Zs : n0 ≤ T4.heap.size := Nat.le_trans Zs Kq4.1
  have F_uplink_b3 : Fld Z T4.heap b3 "com/example/pathmeter/pathmeter/codec/QosLevel" "uplink" "I" (.int uu) := o0_4
  have F_downlink_b3 : Fld Z T4.heap b3 "com/example/pathmeter/pathmeter/codec/QosLevel" "downlink" "I" (.int dd) := o1_4
  have E_b3 : Exa Z T4.heap b3 "com/example/pathmeter/pathmeter/codec/QosLevel" := o2_4
  refine own_by (B := T4.setTop (mkF m 29 #[.val (.int i0), .val (.int i1), .val (.int i2), .val (.int uu), .val (.int dd), .unset, .unset, .unset, .unset] [(.ref b3)])) (fun t k => st4.trans k) ?_
  refine own_by (B := T4.setTop (mkF m 31 #[.val (.int i0), .val (.int i1), .val (.int i2), .val (.int uu), .val (.int dd), .val (.ref b3), .unset, .unset, .unset] [])) (fun t k => XS.astore X4.here hx rfl (hb hby at_29) rfl rfl (l' := #[.val (.int i0), .val (.int i1), .val (.int i2), .val (.int uu), .val (.int dd), .val (.ref b3), .unset, .unset, .unset]) rfl k) ?_
  refine own_by (B := T4.setTop (mkF m 33 #[.val (.int i0), .val (.int i1), .val (.int i2), .val (.int uu), .val (.int dd), .val (.ref b3), .unset, .unset, .unset] [(.ref b3)])) (fun t k => XS.aload X4.here hx rfl (hb hby at_31) rfl rfl k) ?_
  obtain ⟨cq5, kq5, q5a, q5b, q5c⟩ := isOf hZ rfl E_b3
  obtain ⟨v5, _, ⟨T5, L5, c5, n5⟩, -, X5, ⟨Lc5, hQ5, l5, y5, z5⟩, st5⟩ := X4.virtualBack hx (y := (⟨"com/example/pathmeter/pathmeter/codec/QosLevel", "reachesMax", "()Z"⟩ : MethodName)) (z := (⟨"com/example/pathmeter/pathmeter/codec/QosLevel", "reachesMax", "()Z"⟩ : MethodName)) hown (mvT hZ (hw _ (List.mem_of_getElem? (i := 22) rfl))) (mvT hZ (hw _ (List.mem_of_getElem? (i := 23) rfl))) (notFace_of_selects (args := #[]) (mvT hZ (hw _ (List.mem_of_getElem? (i := 25) rfl)))) (mvT hZ (hw _ (List.mem_of_getElem? (i := 25) rfl))) (mvT hZ (hw _ (List.mem_of_getElem? (i := 24) rfl))) (by decide) (backOf (W := 0) (rm5 l Z a0 hw [] b3 uu dd T4.heap F_uplink_b3 F_downlink_b3) hZ (hw _ (List.mem_of_getElem? (i := 26) rfl)) (hw _ (List.mem_of_getElem? (i := 6) rfl)) (by decide) (by decide)) q5a q5c (g := (mkF m 33 #[.val (.int i0), .val (.int i1), .val (.int i2), .val (.int uu), .val (.int dd), .val (.ref b3), .unset, .unset, .unset] [(.ref b3)])) rfl (by rw [hml]; rfl) (Steps.refl _) (argsL := []) (rest := []) (lenOf pd_3 rfl) rfl (by show 2 * 0 + _ ≤ _; exact Nat.le_of_eq rfl) (hb hby at_33) (fun _ _ => ⟨rfl, rfl, (by decide : 1 + 0 ≤ _), (by decide : 2 + 0 ≤ _)⟩)
  dsimp only [Pt.U, Pt.locs, Pt.cells, Pt.slots] at X5 l5 y5 z5 st5 hQ5
  subst l5 y5 z5
  obtain ⟨rfl, rfl, e5⟩ := hQ5
  have NF := Fr.app NF (Fr.nil n0)
  refine own_by (B := T5.setTop (mkF m 36 #[.val (.int i0), .val (.int i1), .val (.int i2), .val (.int uu), .val (.int dd), .val (.ref b3), .unset, .unset, .unset] [(.int (f5_0 uu dd))])) (fun t k => st5.trans k) ?_
  refine own_by (B := T5.setTop (mkF m 38 #[.val (.int i0), .val (.int i1), .val (.int i2), .val (.int uu), .val (.int dd), .val (.ref b3), .val (.int (f5_0 uu dd)), .unset, .unset] [])) (fun t k => XS.istore X5.here hx rfl (hb hby at_36) rfl (l' := #[.val (.int i0), .val (.int i1), .val (.int i2), .val (.int uu), .val (.int dd), .val (.ref b3), .val (.int (f5_0 uu dd)), .unset, .unset]) rfl k) ?_
  refine own_by (B := T5.setTop (mkF m 39 #[.val (.int i0), .val (.int i1), .val (.int i2), .val (.int uu), .val (.int dd), .val (.ref b3), .val (.int (f5_0 uu dd)), .unset, .unset] [(.int uu)])) (fun t k => XS.iloadN X5.here hx rfl (hb hby at_38) rfl k) ?_
  refine own_by (B := T5.setTop (mkF m 41 #[.val (.int i0), .val (.int i1), .val (.int i2), .val (.int uu), .val (.int dd), .val (.ref b3), .val (.int (f5_0 uu dd)), .unset, .unset] [(.int (9 : Int32)), (.int uu)])) (fun t k => XS.bipush X5.here hx rfl (hb hby at_39) k) ?_
  obtain ⟨u7, hu7⟩ : ∃ z : Int32, z = (if uu = (9 : Int32) then (1 : Int32) else (if dd = (9 : Int32) then (1 : Int32) else (0 : Int32))) := ⟨_, rfl⟩
  refine own_by (B := T5.setTop (mkF m 56 #[.val (.int i0), .val (.int i1), .val (.int i2), .val (.int uu), .val (.int dd), .val (.ref b3), .val (.int (f5_0 uu dd)), .unset, .unset] [(.int u7)])) (fun t k => ?_) ?_
  ·
    show Steps p.tables e below (T5.setTop (mkF m 41 #[.val (.int i0), .val (.int i1), .val (.int i2), .val (.int uu), .val (.int dd), .val (.ref b3), .val (.int (f5_0 uu dd)), .unset, .unset] [(.int (9 : Int32)), (.int uu)])) t
    by_cases hm7 : uu = (9 : Int32)
    ·
      rw [if_pos hm7] at hu7
      refine XS.icmpYes X5.here hx rfl (pc0 := 41) (pc' := 51) rfl (hb hby at_41) rfl (teq hm7).1 (by decide) (by decide) ?_
      show Steps p.tables e below (T5.setTop (mkF m 51 #[.val (.int i0), .val (.int i1), .val (.int i2), .val (.int uu), .val (.int dd), .val (.ref b3), .val (.int (f5_0 uu dd)), .unset, .unset] [])) t
      show Steps p.tables e below (T5.setTop (mkF m 51 #[.val (.int i0), .val (.int i1), .val (.int i2), .val (.int uu), .val (.int dd), .val (.ref b3), .val (.int (f5_0 uu dd)), .unset, .unset] [])) t
      refine XS.iconst X5.here hx rfl (hb hby at_51) ?_
      show Steps p.tables e below (T5.setTop (mkF m 52 #[.val (.int i0), .val (.int i1), .val (.int i2), .val (.int uu), .val (.int dd), .val (.ref b3), .val (.int (f5_0 uu dd)), .unset, .unset] [(.int (1 : Int32))])) t
      refine XS.goto X5.here hx rfl (pc0 := 52) (pc' := 56) rfl (hb hby at_52) (by decide) (by decide) ?_
      show Steps p.tables e below (T5.setTop (mkF m 56 #[.val (.int i0), .val (.int i1), .val (.int i2), .val (.int uu), .val (.int dd), .val (.ref b3), .val (.int (f5_0 uu dd)), .unset, .unset] [(.int (1 : Int32))])) t
      subst hu7
      exact k
    ·
      rw [if_neg hm7] at hu7
      refine XS.icmpNo X5.here hx rfl (hb hby at_41) rfl (feq hm7).1 ?_
      show Steps p.tables e below (T5.setTop (mkF m 44 #[.val (.int i0), .val (.int i1), .val (.int i2), .val (.int uu), .val (.int dd), .val (.ref b3), .val (.int (f5_0 uu dd)), .unset, .unset] [])) t
      show Steps p.tables e below (T5.setTop (mkF m 44 #[.val (.int i0), .val (.int i1), .val (.int i2), .val (.int uu), .val (.int dd), .val (.ref b3), .val (.int (f5_0 uu dd)), .unset, .unset] [])) t
      refine XS.iload X5.here hx rfl (hb hby at_44) rfl ?_
      show Steps p.tables e below (T5.setTop (mkF m 46 #[.val (.int i0), .val (.int i1), .val (.int i2), .val (.int uu), .val (.int dd), .val (.ref b3), .val (.int (f5_0 uu dd)), .unset, .unset] [(.int dd)])) t
      refine XS.bipush X5.here hx rfl (hb hby at_46) ?_
      show Steps p.tables e below (T5.setTop (mkF m 48 #[.val (.int i0), .val (.int i1), .val (.int i2), .val (.int uu), .val (.int dd), .val (.ref b3), .val (.int (f5_0 uu dd)), .unset, .unset] [(.int (9 : Int32)), (.int dd)])) t
      by_cases hm8 : dd = (9 : Int32)
      ·
        rw [if_pos hm8] at hu7
        refine XS.icmpNo X5.here hx rfl (hb hby at_48) rfl (teq hm8).2 ?_
        show Steps p.tables e below (T5.setTop (mkF m 51 #[.val (.int i0), .val (.int i1), .val (.int i2), .val (.int uu), .val (.int dd), .val (.ref b3), .val (.int (f5_0 uu dd)), .unset, .unset] [])) t
        show Steps p.tables e below (T5.setTop (mkF m 51 #[.val (.int i0), .val (.int i1), .val (.int i2), .val (.int uu), .val (.int dd), .val (.ref b3), .val (.int (f5_0 uu dd)), .unset, .unset] [])) t
        refine XS.iconst X5.here hx rfl (hb hby at_51) ?_
        show Steps p.tables e below (T5.setTop (mkF m 52 #[.val (.int i0), .val (.int i1), .val (.int i2), .val (.int uu), .val (.int dd), .val (.ref b3), .val (.int (f5_0 uu dd)), .unset, .unset] [(.int (1 : Int32))])) t
        refine XS.goto X5.here hx rfl (pc0 := 52) (pc' := 56) rfl (hb hby at_52) (by decide) (by decide) ?_
        show Steps p.tables e below (T5.setTop (mkF m 56 #[.val (.int i0), .val (.int i1), .val (.int i2), .val (.int uu), .val (.int dd), .val (.ref b3), .val (.int (f5_0 uu dd)), .unset, .unset] [(.int (1 : Int32))])) t
        subst hu7
        exact k
      ·
        rw [if_neg hm8] at hu7
        refine XS.icmpYes X5.here hx rfl (pc0 := 48) (pc' := 55) rfl (hb hby at_48) rfl (feq hm8).2 (by decide) (by decide) ?_
        show Steps p.tables e below (T5.setTop (mkF m 55 #[.val (.int i0), .val (.int i1), .val (.int i2), .val (.int uu), .val (.int dd), .val (.ref b3), .val (.int (f5_0 uu dd)), .unset, .unset] [])) t
        show Steps p.tables e below (T5.setTop (mkF m 55 #[.val (.int i0), .val (.int i1), .val (.int i2), .val (.int uu), .val (.int dd), .val (.ref b3), .val (.int (f5_0 uu dd)), .unset, .unset] [])) t
        refine XS.iconst X5.here hx rfl (hb hby at_55) ?_
        show Steps p.tables e below (T5.setTop (mkF m 56 #[.val (.int i0), .val (.int i1), .val (.int i2), .val (.int uu), .val (.int dd), .val (.ref b3), .val (.int (f5_0 uu dd)), .unset, .unset] [(.int (0 : Int32))])) t
        subst hu7
        exact k
  refine own_by (B := T5.setTop (mkF m 58 #[.val (.int i0), .val (.int i1), .val (.int i2), .val (.int uu), .val (.int dd), .val (.ref b3), .val (.int (f5_0 uu dd)), .val (.int u7), .unset] [])) (fun t k => XS.istore X5.here hx rfl (hb hby at_56) rfl (l' := #[.val (.int i0), .val (.int i1), .val (.int i2), .val (.int uu), .val (.int dd), .val (.ref b3), .val (.int (f5_0 uu dd)), .val (.int u7), .unset]) rfl k) ?_
  refine own_by (B := T5.setTop (mkF m 60 #[.val (.int i0), .val (.int i1), .val (.int i2), .val (.int uu), .val (.int dd), .val (.ref b3), .val (.int (f5_0 uu dd)), .val (.int u7), .unset] [(.ref b3)])) (fun t k => XS.aload X5.here hx rfl (hb hby at_58) rfl rfl k) ?_
  refine own_by (B := T5.setTop (mkF m 61 #[.val (.int i0), .val (.int i1), .val (.int i2), .val (.int uu), .val (.int dd), .val (.ref b3), .val (.int (f5_0 uu dd)), .val (.int u7), .unset] [(.int (1 : Int32)), (.ref b3)])) (fun t k => XS.iconst X5.here hx rfl (hb hby at_60) k) ?_
  refine own_by (B := T5.setTop (mkF m 62 #[.val (.int i0), .val (.int i1), .val (.int i2), .val (.int uu), .val (.int dd), .val (.ref b3), .val (.int (f5_0 uu dd)), .val (.int u7), .unset] [(.int (0 : Int32)), (.int (1 : Int32)), (.ref b3)])) (fun t k => XS.iconst X5.here hx rfl (hb hby at_61) k) ?_
  obtain ⟨cq9, kq9, q9a, q9b, q9c⟩ := isOf hZ e5 E_b3
  obtain ⟨v9, _, ⟨T9, L9, c9, n9⟩, -, X9, ⟨Lc9, hQ9, l9, y9, z9⟩, st9⟩ := X5.virtualBack hx (y := (⟨"com/example/pathmeter/pathmeter/codec/QosLevel", "raised", "(ZZ)Lcom/example/pathmeter/pathmeter/codec/QosLevel;"⟩ : MethodName)) (z := (⟨"com/example/pathmeter/pathmeter/codec/QosLevel", "raised", "(ZZ)Lcom/example/pathmeter/pathmeter/codec/QosLevel;"⟩ : MethodName)) hown (mvT hZ (hw _ (List.mem_of_getElem? (i := 27) rfl))) (mvT hZ (hw _ (List.mem_of_getElem? (i := 28) rfl))) (notFace_of_selects (args := #[]) (mvT hZ (hw _ (List.mem_of_getElem? (i := 30) rfl)))) (mvT hZ (hw _ (List.mem_of_getElem? (i := 30) rfl))) (mvT hZ (hw _ (List.mem_of_getElem? (i := 29) rfl))) (by decide) (backOf (W := 0) (rm6a l Z a0 hw [] b3 uu dd T4.heap n0 Zs F_uplink_b3 F_downlink_b3 E_b3   ) hZ (hw _ (List.mem_of_getElem? (i := 31) rfl)) (hw _ (List.mem_of_getElem? (i := 6) rfl)) (by decide) (by decide)) q9a q9c (g := (mkF m 62 #[.val (.int i0), .val (.int i1), .val (.int i2), .val (.int uu), .val (.int dd), .val (.ref b3), .val (.int (f5_0 uu dd)), .val (.int u7), .unset] [(.int (0 : Int32)), (.int (1 : Int32)), (.ref b3)])) rfl (by rw [hml]; rfl) (Steps.refl _) (argsL := [(.int (1 : Int32)), (.int (0 : Int32))]) (rest := []) (lenOf pd_4 rfl) rfl (by show 2 * 0 + _ ≤ _; exact Nat.le_of_eq rfl) (hb hby at_62) (fun _ _ => ⟨rfl, e5, (by decide : 1 + 1 ≤ _), (by decide : 2 + 2 ≤ _)⟩)
  dsimp only [Pt.U, Pt.locs, Pt.cells, Pt.slots] at X9 l9 y9 z9 st9 hQ9
  subst l9 y9 z9
  obtain ⟨b9, rfl, Nq9, Kq9, g_b9, sq_b9, o0_9, o1_9, o2_9⟩ := hQ9
  have NF := Fr.app NF Nq9
  have ne_b3_b9 : b3 ≠ b9 := Nat.ne_of_lt (Nat.lt_of_lt_of_le E_b3.lt sq_b9)
  replace E_b3 : Exa Z T9.heap b3 "com/example/pathmeter/pathmeter/codec/QosLevel" := E_b3.keep Kq9
  replace F_uplink_b3 : Fld Z T9.heap b3 "com/example/pathmeter/pathmeter/codec/QosLevel" "uplink" "I" (.int uu) := F_uplink_b3.keep Kq9 nin0
  replace F_downlink_b3 : Fld Z T9.heap b3 "com/example/pathmeter/pathmeter/codec/QosLevel" "downlink" "I" (.int dd) := F_downlink_b3.keep Kq9 nin0
  replace Zs : n0 ≤ T9.heap.size := Nat.le_trans Zs Kq9.1
  have E_b9 : Exa Z T9.heap b9 "com/example/pathmeter/pathmeter/codec/QosLevel" := o0_9
  have F_uplink_b9 : Fld Z T9.heap b9 "com/example/pathmeter/pathmeter/codec/QosLevel" "uplink" "I" (.int (f7_0  (9 : Int32) (uu + (1 : Int32)))) := o1_9
  have F_downlink_b9 : Fld Z T9.heap b9 "com/example/pathmeter/pathmeter/codec/QosLevel" "downlink" "I" (.int dd) := o2_9
  refine own_by (B := T9.setTop (mkF m 65 #[.val (.int i0), .val (.int i1), .val (.int i2), .val (.int uu), .val (.int dd), .val (.ref b3), .val (.int (f5_0 uu dd)), .val (.int u7), .unset] [(.ref b9)])) (fun t k => st9.trans k) ?_
  obtain ⟨cq10, kq10, q10a, q10b, q10c⟩ := isOf hZ rfl E_b9
  obtain ⟨v10, _, ⟨T10, L10, c10, n10⟩, -, X10, ⟨Lc10, hQ10, l10, y10, z10⟩, st10⟩ := X9.virtualBack hx (y := (⟨"com/example/pathmeter/pathmeter/codec/QosLevel", "uplink", "()I"⟩ : MethodName)) (z := (⟨"com/example/pathmeter/pathmeter/codec/QosLevel", "uplink", "()I"⟩ : MethodName)) hown (mvT hZ (hw _ (List.mem_of_getElem? (i := 38) rfl))) (mvT hZ (hw _ (List.mem_of_getElem? (i := 39) rfl))) (notFace_of_selects (args := #[]) (mvT hZ (hw _ (List.mem_of_getElem? (i := 41) rfl)))) (mvT hZ (hw _ (List.mem_of_getElem? (i := 41) rfl))) (mvT hZ (hw _ (List.mem_of_getElem? (i := 40) rfl))) (by decide) (backOf (W := 0) (rm8 l Z a0 hw [] b9 (f7_0  (9 : Int32) (uu + (1 : Int32))) T9.heap F_uplink_b9) hZ (hw _ (List.mem_of_getElem? (i := 42) rfl)) (hw _ (List.mem_of_getElem? (i := 6) rfl)) (by decide) (by decide)) q10a q10c (g := (mkF m 65 #[.val (.int i0), .val (.int i1), .val (.int i2), .val (.int uu), .val (.int dd), .val (.ref b3), .val (.int (f5_0 uu dd)), .val (.int u7), .unset] [(.ref b9)])) rfl (by rw [hml]; rfl) (Steps.refl _) (argsL := []) (rest := []) (lenOf pd_5 rfl) rfl (by show 2 * 0 + _ ≤ _; exact Nat.le_of_eq rfl) (hb hby at_65) (fun _ _ => ⟨rfl, rfl, (by decide : 2 + 0 ≤ _), (by decide : 4 + 0 ≤ _)⟩)
  dsimp only [Pt.U, Pt.locs, Pt.cells, Pt.slots] at X10 l10 y10 z10 st10 hQ10
  subst l10 y10 z10
  obtain ⟨rfl, rfl, e10⟩ := hQ10
  have NF := Fr.app NF (Fr.nil n0)
  refine own_by (B := T10.setTop (mkF m 68 #[.val (.int i0), .val (.int i1), .val (.int i2), .val (.int uu), .val (.int dd), .val (.ref b3), .val (.int (f5_0 uu dd)), .val (.int u7), .unset] [(.int (f8_0 (f7_0  (9 : Int32) (uu + (1 : Int32)))))])) (fun t k => st10.trans k) ?_
  refine own_by (B := T10.setTop (mkF m 69 #[.val (.int i0), .val (.int i1), .val (.int i2), .val (.int uu), .val (.int dd), .val (.ref b3), .val (.int (f5_0 uu dd)), .val (.int u7), .unset] [(.int uu), (.int (f8_0 (f7_0  (9 : Int32) (uu + (1 : Int32)))))])) (fun t k => XS.iloadN X10.here hx rfl (hb hby at_68) rfl k) ?_
  by_cases hc11 : (f8_0 (f7_0  (9 : Int32) (uu + (1 : Int32)))) = uu
  ·
    refine own_by (B := T10.setTop (mkF m 87 #[.val (.int i0), .val (.int i1), .val (.int i2), .val (.int uu), .val (.int dd), .val (.ref b3), .val (.int (f5_0 uu dd)), .val (.int u7), .unset] [])) (fun t k => XS.icmpYes X10.here hx rfl (pc0 := 69) (pc' := 87) rfl (hb hby at_69) rfl (teq hc11).1 (by decide) (by decide) k) ?_
    refine own_by (B := T10.setTop (mkF m 88 #[.val (.int i0), .val (.int i1), .val (.int i2), .val (.int uu), .val (.int dd), .val (.ref b3), .val (.int (f5_0 uu dd)), .val (.int u7), .unset] [(.int (1 : Int32))])) (fun t k => XS.iconst X10.here hx rfl (hb hby at_87) k) ?_
    refine own_by (B := T10.setTop (mkF m 92 #[.val (.int i0), .val (.int i1), .val (.int i2), .val (.int uu), .val (.int dd), .val (.ref b3), .val (.int (f5_0 uu dd)), .val (.int u7), .unset] [(.int (1 : Int32))])) (fun t k => XS.goto X10.here hx rfl (pc0 := 88) (pc' := 92) rfl (hb hby at_88) (by decide) (by decide) k) ?_
    refine own_by (B := T10.setTop (mkF m 94 #[.val (.int i0), .val (.int i1), .val (.int i2), .val (.int uu), .val (.int dd), .val (.ref b3), .val (.int (f5_0 uu dd)), .val (.int u7), .val (.int (1 : Int32))] [])) (fun t k => XS.istore X10.here hx rfl (hb hby at_92) rfl (l' := #[.val (.int i0), .val (.int i1), .val (.int i2), .val (.int uu), .val (.int dd), .val (.ref b3), .val (.int (f5_0 uu dd)), .val (.int u7), .val (.int (1 : Int32))]) rfl k) ?_
    refine own_by (B := T10.setTop (mkF m 96 #[.val (.int i0), .val (.int i1), .val (.int i2), .val (.int uu), .val (.int dd), .val (.ref b3), .val (.int (f5_0 uu dd)), .val (.int u7), .val (.int (1 : Int32))] [(.int (f5_0 uu dd))])) (fun t k => XS.iload X10.here hx rfl (hb hby at_94) rfl k) ?_
    refine own_by (B := T10.setTop (mkF m 98 #[.val (.int i0), .val (.int i1), .val (.int i2), .val (.int uu), .val (.int dd), .val (.ref b3), .val (.int (f5_0 uu dd)), .val (.int u7), .val (.int (1 : Int32))] [(.int u7), (.int (f5_0 uu dd))])) (fun t k => XS.iload X10.here hx rfl (hb hby at_96) rfl k) ?_
    have hc12 : (f5_0 uu dd) = u7 := own_r uu dd u7 hu7
    refine own_by (B := T10.setTop (mkF m 101 #[.val (.int i0), .val (.int i1), .val (.int i2), .val (.int uu), .val (.int dd), .val (.ref b3), .val (.int (f5_0 uu dd)), .val (.int u7), .val (.int (1 : Int32))] [])) (fun t k => XS.icmpNo X10.here hx rfl (hb hby at_98) rfl (teq hc12).2 k) ?_
    refine own_by (B := T10.setTop (mkF m 103 #[.val (.int i0), .val (.int i1), .val (.int i2), .val (.int uu), .val (.int dd), .val (.ref b3), .val (.int (f5_0 uu dd)), .val (.int u7), .val (.int (1 : Int32))] [(.int (f5_0 uu dd))])) (fun t k => XS.iload X10.here hx rfl (hb hby at_101) rfl k) ?_
    refine own_by (B := T10.setTop (mkF m 105 #[.val (.int i0), .val (.int i1), .val (.int i2), .val (.int uu), .val (.int dd), .val (.ref b3), .val (.int (f5_0 uu dd)), .val (.int u7), .val (.int (1 : Int32))] [(.int (1 : Int32)), (.int (f5_0 uu dd))])) (fun t k => XS.iload X10.here hx rfl (hb hby at_103) rfl k) ?_
    have hc13 : (f5_0 uu dd) = (1 : Int32) := own_1 uu dd hc11
    refine own_by (B := T10.setTop (mkF m 108 #[.val (.int i0), .val (.int i1), .val (.int i2), .val (.int uu), .val (.int dd), .val (.ref b3), .val (.int (f5_0 uu dd)), .val (.int u7), .val (.int (1 : Int32))] [])) (fun t k => XS.icmpNo X10.here hx rfl (hb hby at_105) rfl (teq hc13).2 k) ?_
    refine own_by (B := T10.setTop (mkF m 109 #[.val (.int i0), .val (.int i1), .val (.int i2), .val (.int uu), .val (.int dd), .val (.ref b3), .val (.int (f5_0 uu dd)), .val (.int u7), .val (.int (1 : Int32))] [(.int (1 : Int32))])) (fun t k => XS.iconst X10.here hx rfl (hb hby at_108) k) ?_
    refine own_by (B := T10.setTop (mkF m 113 #[.val (.int i0), .val (.int i1), .val (.int i2), .val (.int uu), .val (.int dd), .val (.ref b3), .val (.int (f5_0 uu dd)), .val (.int u7), .val (.int (1 : Int32))] [(.int (1 : Int32))])) (fun t k => XS.goto X10.here hx rfl (pc0 := 109) (pc' := 113) rfl (hb hby at_109) (by decide) (by decide) k) ?_
    exact own_retN (t := .boolean) (by simp) X10 hx hlk hret (z' := (1 : Int32)) (by decide) (hb hby at_113) ⟨rfl, NF⟩ (by decide) (by decide)
  ·
    refine own_by (B := T10.setTop (mkF m 72 #[.val (.int i0), .val (.int i1), .val (.int i2), .val (.int uu), .val (.int dd), .val (.ref b3), .val (.int (f5_0 uu dd)), .val (.int u7), .unset] [])) (fun t k => XS.icmpNo X10.here hx rfl (hb hby at_69) rfl (feq hc11).1 k) ?_
    refine own_by (B := T10.setTop (mkF m 74 #[.val (.int i0), .val (.int i1), .val (.int i2), .val (.int uu), .val (.int dd), .val (.ref b3), .val (.int (f5_0 uu dd)), .val (.int u7), .unset] [(.ref b3)])) (fun t k => XS.aload X10.here hx rfl (hb hby at_72) rfl rfl k) ?_
    refine own_by (B := T10.setTop (mkF m 75 #[.val (.int i0), .val (.int i1), .val (.int i2), .val (.int uu), .val (.int dd), .val (.ref b3), .val (.int (f5_0 uu dd)), .val (.int u7), .unset] [(.int (0 : Int32)), (.ref b3)])) (fun t k => XS.iconst X10.here hx rfl (hb hby at_74) k) ?_
    refine own_by (B := T10.setTop (mkF m 76 #[.val (.int i0), .val (.int i1), .val (.int i2), .val (.int uu), .val (.int dd), .val (.ref b3), .val (.int (f5_0 uu dd)), .val (.int u7), .unset] [(.int (1 : Int32)), (.int (0 : Int32)), (.ref b3)])) (fun t k => XS.iconst X10.here hx rfl (hb hby at_75) k) ?_
    obtain ⟨cq14, kq14, q14a, q14b, q14c⟩ := isOf hZ e10 E_b3
    obtain ⟨v14, _, ⟨T14, L14, c14, n14⟩, -, X14, ⟨Lc14, hQ14, l14, y14, z14⟩, st14⟩ := X10.virtualBack hx (y := (⟨"com/example/pathmeter/pathmeter/codec/QosLevel", "raised", "(ZZ)Lcom/example/pathmeter/pathmeter/codec/QosLevel;"⟩ : MethodName)) (z := (⟨"com/example/pathmeter/pathmeter/codec/QosLevel", "raised", "(ZZ)Lcom/example/pathmeter/pathmeter/codec/QosLevel;"⟩ : MethodName)) hown (mvT hZ (hw _ (List.mem_of_getElem? (i := 27) rfl))) (mvT hZ (hw _ (List.mem_of_getElem? (i := 28) rfl))) (notFace_of_selects (args := #[]) (mvT hZ (hw _ (List.mem_of_getElem? (i := 30) rfl)))) (mvT hZ (hw _ (List.mem_of_getElem? (i := 30) rfl))) (mvT hZ (hw _ (List.mem_of_getElem? (i := 29) rfl))) (by decide) (backOf (W := 0) (rm6b l Z a0 hw [] b3 uu dd T9.heap n0 Zs F_uplink_b3 F_downlink_b3 E_b3   ) hZ (hw _ (List.mem_of_getElem? (i := 31) rfl)) (hw _ (List.mem_of_getElem? (i := 6) rfl)) (by decide) (by decide)) q14a q14c (g := (mkF m 76 #[.val (.int i0), .val (.int i1), .val (.int i2), .val (.int uu), .val (.int dd), .val (.ref b3), .val (.int (f5_0 uu dd)), .val (.int u7), .unset] [(.int (1 : Int32)), (.int (0 : Int32)), (.ref b3)])) rfl (by rw [hml]; rfl) (Steps.refl _) (argsL := [(.int (0 : Int32)), (.int (1 : Int32))]) (rest := []) (lenOf pd_4 rfl) rfl (by show 2 * 0 + _ ≤ _; exact Nat.le_of_eq rfl) (hb hby at_76) (fun _ _ => ⟨rfl, e10, (by decide : 2 + 1 ≤ _), (by decide : 4 + 2 ≤ _)⟩)
    dsimp only [Pt.U, Pt.locs, Pt.cells, Pt.slots] at X14 l14 y14 z14 st14 hQ14
    subst l14 y14 z14
    obtain ⟨b14, rfl, Nq14, Kq14, g_b14, sq_b14, o0_14, o1_14, o2_14⟩ := hQ14
    have NF := Fr.app NF Nq14
    have ne_b3_b14 : b3 ≠ b14 := Nat.ne_of_lt (Nat.lt_of_lt_of_le E_b3.lt sq_b14)
    have ne_b9_b14 : b9 ≠ b14 := Nat.ne_of_lt (Nat.lt_of_lt_of_le E_b9.lt sq_b14)
    replace E_b3 : Exa Z T14.heap b3 "com/example/pathmeter/pathmeter/codec/QosLevel" := E_b3.keep Kq14
    replace F_uplink_b3 : Fld Z T14.heap b3 "com/example/pathmeter/pathmeter/codec/QosLevel" "uplink" "I" (.int uu) := F_uplink_b3.keep Kq14 nin0
    replace F_downlink_b3 : Fld Z T14.heap b3 "com/example/pathmeter/pathmeter/codec/QosLevel" "downlink" "I" (.int dd) := F_downlink_b3.keep Kq14 nin0
    replace E_b9 : Exa Z T14.heap b9 "com/example/pathmeter/pathmeter/codec/QosLevel" := E_b9.keep Kq14
    replace F_uplink_b9 : Fld Z T14.heap b9 "com/example/pathmeter/pathmeter/codec/QosLevel" "uplink" "I" (.int (f7_0  (9 : Int32) (uu + (1 : Int32)))) := F_uplink_b9.keep Kq14 nin0
    replace F_downlink_b9 : Fld Z T14.heap b9 "com/example/pathmeter/pathmeter/codec/QosLevel" "downlink" "I" (.int dd) := F_downlink_b9.keep Kq14 nin0
    replace Zs : n0 ≤ T14.heap.size := Nat.le_trans Zs Kq14.1
    have E_b14 : Exa Z T14.heap b14 "com/example/pathmeter/pathmeter/codec/QosLevel" := o0_14
    have F_uplink_b14 : Fld Z T14.heap b14 "com/example/pathmeter/pathmeter/codec/QosLevel" "uplink" "I" (.int uu) := o1_14
    have F_downlink_b14 : Fld Z T14.heap b14 "com/example/pathmeter/pathmeter/codec/QosLevel" "downlink" "I" (.int (f7_0  (9 : Int32) (dd + (1 : Int32)))) := o2_14
    refine own_by (B := T14.setTop (mkF m 79 #[.val (.int i0), .val (.int i1), .val (.int i2), .val (.int uu), .val (.int dd), .val (.ref b3), .val (.int (f5_0 uu dd)), .val (.int u7), .unset] [(.ref b14)])) (fun t k => st14.trans k) ?_
    obtain ⟨cq15, kq15, q15a, q15b, q15c⟩ := isOf hZ rfl E_b14
    obtain ⟨v15, _, ⟨T15, L15, c15, n15⟩, -, X15, ⟨Lc15, hQ15, l15, y15, z15⟩, st15⟩ := X14.virtualBack hx (y := (⟨"com/example/pathmeter/pathmeter/codec/QosLevel", "downlink", "()I"⟩ : MethodName)) (z := (⟨"com/example/pathmeter/pathmeter/codec/QosLevel", "downlink", "()I"⟩ : MethodName)) hown (mvT hZ (hw _ (List.mem_of_getElem? (i := 43) rfl))) (mvT hZ (hw _ (List.mem_of_getElem? (i := 44) rfl))) (notFace_of_selects (args := #[]) (mvT hZ (hw _ (List.mem_of_getElem? (i := 46) rfl)))) (mvT hZ (hw _ (List.mem_of_getElem? (i := 46) rfl))) (mvT hZ (hw _ (List.mem_of_getElem? (i := 45) rfl))) (by decide) (backOf (W := 0) (rm9 l Z a0 hw [] b14 (f7_0  (9 : Int32) (dd + (1 : Int32))) T14.heap F_downlink_b14) hZ (hw _ (List.mem_of_getElem? (i := 47) rfl)) (hw _ (List.mem_of_getElem? (i := 6) rfl)) (by decide) (by decide)) q15a q15c (g := (mkF m 79 #[.val (.int i0), .val (.int i1), .val (.int i2), .val (.int uu), .val (.int dd), .val (.ref b3), .val (.int (f5_0 uu dd)), .val (.int u7), .unset] [(.ref b14)])) rfl (by rw [hml]; rfl) (Steps.refl _) (argsL := []) (rest := []) (lenOf pd_5 rfl) rfl (by show 2 * 0 + _ ≤ _; exact Nat.le_of_eq rfl) (hb hby at_79) (fun _ _ => ⟨rfl, rfl, (by decide : 3 + 0 ≤ _), (by decide : 6 + 0 ≤ _)⟩)
    dsimp only [Pt.U, Pt.locs, Pt.cells, Pt.slots] at X15 l15 y15 z15 st15 hQ15
    subst l15 y15 z15
    obtain ⟨rfl, rfl, e15⟩ := hQ15
    have NF := Fr.app NF (Fr.nil n0)
    refine own_by (B := T15.setTop (mkF m 82 #[.val (.int i0), .val (.int i1), .val (.int i2), .val (.int uu), .val (.int dd), .val (.ref b3), .val (.int (f5_0 uu dd)), .val (.int u7), .unset] [(.int (f9_0 (f7_0  (9 : Int32) (dd + (1 : Int32)))))])) (fun t k => st15.trans k) ?_
    refine own_by (B := T15.setTop (mkF m 84 #[.val (.int i0), .val (.int i1), .val (.int i2), .val (.int uu), .val (.int dd), .val (.ref b3), .val (.int (f5_0 uu dd)), .val (.int u7), .unset] [(.int dd), (.int (f9_0 (f7_0  (9 : Int32) (dd + (1 : Int32)))))])) (fun t k => XS.iload X15.here hx rfl (hb hby at_82) rfl k) ?_
    obtain ⟨u8, hu8⟩ : ∃ z : Int32, z = (if (f9_0 (f7_0  (9 : Int32) (dd + (1 : Int32)))) = dd then (1 : Int32) else (0 : Int32)) := ⟨_, rfl⟩
    refine own_by (B := T15.setTop (mkF m 92 #[.val (.int i0), .val (.int i1), .val (.int i2), .val (.int uu), .val (.int dd), .val (.ref b3), .val (.int (f5_0 uu dd)), .val (.int u7), .unset] [(.int u8)])) (fun t k => ?_) ?_
    ·
      show Steps p.tables e below (T15.setTop (mkF m 84 #[.val (.int i0), .val (.int i1), .val (.int i2), .val (.int uu), .val (.int dd), .val (.ref b3), .val (.int (f5_0 uu dd)), .val (.int u7), .unset] [(.int dd), (.int (f9_0 (f7_0  (9 : Int32) (dd + (1 : Int32)))))])) t
      by_cases hm17 : (f9_0 (f7_0  (9 : Int32) (dd + (1 : Int32)))) = dd
      ·
        rw [if_pos hm17] at hu8
        refine XS.icmpNo X15.here hx rfl (hb hby at_84) rfl (teq hm17).2 ?_
        show Steps p.tables e below (T15.setTop (mkF m 87 #[.val (.int i0), .val (.int i1), .val (.int i2), .val (.int uu), .val (.int dd), .val (.ref b3), .val (.int (f5_0 uu dd)), .val (.int u7), .unset] [])) t
        show Steps p.tables e below (T15.setTop (mkF m 87 #[.val (.int i0), .val (.int i1), .val (.int i2), .val (.int uu), .val (.int dd), .val (.ref b3), .val (.int (f5_0 uu dd)), .val (.int u7), .unset] [])) t
        refine XS.iconst X15.here hx rfl (hb hby at_87) ?_
        show Steps p.tables e below (T15.setTop (mkF m 88 #[.val (.int i0), .val (.int i1), .val (.int i2), .val (.int uu), .val (.int dd), .val (.ref b3), .val (.int (f5_0 uu dd)), .val (.int u7), .unset] [(.int (1 : Int32))])) t
        refine XS.goto X15.here hx rfl (pc0 := 88) (pc' := 92) rfl (hb hby at_88) (by decide) (by decide) ?_
        show Steps p.tables e below (T15.setTop (mkF m 92 #[.val (.int i0), .val (.int i1), .val (.int i2), .val (.int uu), .val (.int dd), .val (.ref b3), .val (.int (f5_0 uu dd)), .val (.int u7), .unset] [(.int (1 : Int32))])) t
        subst hu8
        exact k
      ·
        rw [if_neg hm17] at hu8
        refine XS.icmpYes X15.here hx rfl (pc0 := 84) (pc' := 91) rfl (hb hby at_84) rfl (feq hm17).2 (by decide) (by decide) ?_
        show Steps p.tables e below (T15.setTop (mkF m 91 #[.val (.int i0), .val (.int i1), .val (.int i2), .val (.int uu), .val (.int dd), .val (.ref b3), .val (.int (f5_0 uu dd)), .val (.int u7), .unset] [])) t
        show Steps p.tables e below (T15.setTop (mkF m 91 #[.val (.int i0), .val (.int i1), .val (.int i2), .val (.int uu), .val (.int dd), .val (.ref b3), .val (.int (f5_0 uu dd)), .val (.int u7), .unset] [])) t
        refine XS.iconst X15.here hx rfl (hb hby at_91) ?_
        show Steps p.tables e below (T15.setTop (mkF m 92 #[.val (.int i0), .val (.int i1), .val (.int i2), .val (.int uu), .val (.int dd), .val (.ref b3), .val (.int (f5_0 uu dd)), .val (.int u7), .unset] [(.int (0 : Int32))])) t
        subst hu8
        exact k
    refine own_by (B := T15.setTop (mkF m 94 #[.val (.int i0), .val (.int i1), .val (.int i2), .val (.int uu), .val (.int dd), .val (.ref b3), .val (.int (f5_0 uu dd)), .val (.int u7), .val (.int u8)] [])) (fun t k => XS.istore X15.here hx rfl (hb hby at_92) rfl (l' := #[.val (.int i0), .val (.int i1), .val (.int i2), .val (.int uu), .val (.int dd), .val (.ref b3), .val (.int (f5_0 uu dd)), .val (.int u7), .val (.int u8)]) rfl k) ?_
    refine own_by (B := T15.setTop (mkF m 96 #[.val (.int i0), .val (.int i1), .val (.int i2), .val (.int uu), .val (.int dd), .val (.ref b3), .val (.int (f5_0 uu dd)), .val (.int u7), .val (.int u8)] [(.int (f5_0 uu dd))])) (fun t k => XS.iload X15.here hx rfl (hb hby at_94) rfl k) ?_
    refine own_by (B := T15.setTop (mkF m 98 #[.val (.int i0), .val (.int i1), .val (.int i2), .val (.int uu), .val (.int dd), .val (.ref b3), .val (.int (f5_0 uu dd)), .val (.int u7), .val (.int u8)] [(.int u7), (.int (f5_0 uu dd))])) (fun t k => XS.iload X15.here hx rfl (hb hby at_96) rfl k) ?_
    have hc18 : (f5_0 uu dd) = u7 := own_r uu dd u7 hu7
    refine own_by (B := T15.setTop (mkF m 101 #[.val (.int i0), .val (.int i1), .val (.int i2), .val (.int uu), .val (.int dd), .val (.ref b3), .val (.int (f5_0 uu dd)), .val (.int u7), .val (.int u8)] [])) (fun t k => XS.icmpNo X15.here hx rfl (hb hby at_98) rfl (teq hc18).2 k) ?_
    refine own_by (B := T15.setTop (mkF m 103 #[.val (.int i0), .val (.int i1), .val (.int i2), .val (.int uu), .val (.int dd), .val (.ref b3), .val (.int (f5_0 uu dd)), .val (.int u7), .val (.int u8)] [(.int (f5_0 uu dd))])) (fun t k => XS.iload X15.here hx rfl (hb hby at_101) rfl k) ?_
    refine own_by (B := T15.setTop (mkF m 105 #[.val (.int i0), .val (.int i1), .val (.int i2), .val (.int uu), .val (.int dd), .val (.ref b3), .val (.int (f5_0 uu dd)), .val (.int u7), .val (.int u8)] [(.int u8), (.int (f5_0 uu dd))])) (fun t k => XS.iload X15.here hx rfl (hb hby at_103) rfl k) ?_
    have hc19 : (f5_0 uu dd) = u8 := own_2 uu dd u8 hc11 hu8
    refine own_by (B := T15.setTop (mkF m 108 #[.val (.int i0), .val (.int i1), .val (.int i2), .val (.int uu), .val (.int dd), .val (.ref b3), .val (.int (f5_0 uu dd)), .val (.int u7), .val (.int u8)] [])) (fun t k => XS.icmpNo X15.here hx rfl (hb hby at_105) rfl (teq hc19).2 k) ?_
    refine own_by (B := T15.setTop (mkF m 109 #[.val (.int i0), .val (.int i1), .val (.int i2), .val (.int uu), .val (.int dd), .val (.ref b3), .val (.int (f5_0 uu dd)), .val (.int u7), .val (.int u8)] [(.int (1 : Int32))])) (fun t k => XS.iconst X15.here hx rfl (hb hby at_108) k) ?_
    refine own_by (B := T15.setTop (mkF m 113 #[.val (.int i0), .val (.int i1), .val (.int i2), .val (.int uu), .val (.int dd), .val (.ref b3), .val (.int (f5_0 uu dd)), .val (.int u7), .val (.int u8)] [(.int (1 : Int32))])) (fun t k => XS.goto X15.here hx rfl (pc0 := 109) (pc' := 113) rfl (hb hby at_109) (by decide) (by decide) k) ?_
    exact own_retN (t := .boolean) (by simp) X15 hx hlk hret (z' := (1 : Int32)) (by decide) (hb hby at_113) ⟨rfl, NF⟩ (by decide) (by decide)
set_option maxRecDepth 65536 in
set_option maxHeartbeats 40000000 in
theorem comes_1 {Post : Tables → Env → Array Value → State → Outcome → State → Prop} (hpost : ∀ tb e args s v u, (limb_1_1.after args s (.returned v) u = true ∧ limb_1_2.after args s (.returned v) u = true ∧ True) → FrameEnd s (.returned v) u (Jvm.fieldLocs frame_1_writes args s ++ Jvm.arrayLocs frame_1_arrays args s ++ Jvm.staticLocs frame_1_statics s) 16 128 → Post tb e args s (.returned v) u) :
    ArmFor flags0 classFile x code maxLocals ret World_1 tables_1 room_1 Calls_1 rest_1 Pre_1 Post := by
  intro l hfl _ _ p e ha hc hk s m args below hf hA hF happ hP
  obtain ⟨hcalls, hrest, hpre⟩ := hP
  obtain ⟨-, -, -, hnamed, -, -, -, hat⟩ := (Spec.applies_iff hf).mp happ
  obtain ⟨hg, hn⟩ := and_e (Cond.before_iff.mp (show (Jvm.Cond.and given_1 narrow_1).before args s = true from hpre))
  obtain ⟨gg1, gg2⟩ := and_e hg
  obtain ⟨gg3, gg4⟩ := and_e gg2
  obtain ⟨gg5, gg6⟩ := and_e gg4
  obtain ⟨w0, w1, w2, rfl⟩ : ∃ w0 w1 w2 : Value, args = #[w0, w1, w2] := by
    have hs : args.size = 3 := by simpa [Cond.value, given_1] using gg1
    obtain ⟨L⟩ := args
    match L, hs with
    | [w0, w1, w2], _ => exact ⟨w0, w1, w2, rfl⟩
  have hw := fun d (hd : d ∈ tables_1) => atoms_spec (ws := Jvm.Cond.code x code maxLocals ret :: tables_1) hat d (List.mem_cons_of_mem _ hd)
  obtain ⟨i0, ei0⟩ := is_v gg3
  obtain rfl : w0 = (.int i0) := Option.some.inj ei0
  obtain ⟨i1, ei1⟩ := is_v gg5
  obtain rfl : w1 = (.int i1) := Option.some.inj ei1
  obtain ⟨i2, ei2⟩ := is_v gg6
  obtain rfl : w2 = (.int i2) := Option.some.inj ei2
  obtain ⟨n, o, h1, h2, h3, _, L, rfl, ⟨rfl, N⟩, hq⟩ := rm0 l s _ hw tables_1 i0 i1 i2 s.heap s.heap.size (Nat.le_refl _) p e ha hc hk s m _ below hf ((Spec.applies_iff_loose hf).mp happ).1 ⟨rfl, State.Warmed39.refl s, rfl⟩ trivial
  refine ⟨n, _, h1, h2, h3, hpost _ _ _ _ _ _ ⟨Cond.after_iff.mpr rfl, Cond.after_iff.mpr (eq_i res_at (Term.int_eval (1)) rfl), trivial⟩ ⟨hq.1, hq.2.1, (hq.2.2.sift fun y hy => Or.inr (N y hy)).mono (by decide) (by decide)⟩⟩
theorem main_1_1 : Claimed_1_1 := comes_1 fun _ _ _ _ _ _ h hF => ⟨h.1, hF⟩
theorem main_1_2 : Claimed_1_2 := comes_1 fun _ _ _ _ _ _ h hF => ⟨h.2.1, hF⟩
end Jvm.Pilot.@@N@@
namespace Jvm.Pilot.@@N@@
open Jvm Jvm.ClassFile Sem Op Lib Jvm.Free Jvm.Stand Jvm.Pilot.@@N@@.Jvm.D
/-! MADE BY PROGRAM (witnessworld.py) out of the Statement's table words and the real class files: 11 classes; the members and pool entries that the words name. The judged class is class 1, her method 2. -/
namespace start1
open Jvm.ClassFile
def u (s : String) : CpInfo := .utf8 (stringToUtf16 s)
/-- a pool by its gaps: so many unusable entries, then the entry; so many at the end -/
def gap : Nat → List CpInfo → List CpInfo
  | 0, r => r
  | n + 1, r => .unusable :: gap n r
def poolList (es : List (Nat × CpInfo)) (last : Nat) : List CpInfo := es.foldr (fun e r => gap e.1 (e.2 :: r)) (gap last [])
def pool (es : List (Nat × CpInfo)) (last : Nat) : Array CpInfo := ⟨poolList es last⟩
def fileOf (pool : Array CpInfo) (this : Nat) (attrs : Array Attribute := #[]) (ms : Array MethodInfo := #[]) (fl : Nat := 33) (sup : Nat := 0) (ifs : Array Nat := #[]) (fds : Array FieldInfo := #[]) : ClassFile where
  minorVersion := 0
  majorVersion := 65
  constantPool := pool
  accessFlags := fl
  thisClass := this
  superClass := sup
  interfaces := ifs
  fields := fds
  methods := ms
  attributes := attrs
def plain (name : String) (sup : Option ClassId) : Class where
  name := name
  kind := .ordinary
  loader := none
  accessFlags := 33
  super := sup
  interfaces := #[]
  cf := none
  fields := #[]
  methods := #[]
  instanceTypes := #[]
  staticTypes := #[]
  resolved := #[]
  callSites := []
  init := .initialized
  statics := none
  mirror := none

def pool0 : Array CpInfo := pool [(5, u "<init>"), (0, u "()V"), (1, .class_ 10), (1, u "java/lang/Object")] 113

def k0c0 : Code := { maxStack := 0, maxLocals := 1, code := object_method_1_code, exceptionTable := #[], attributes := #[] }
def k0m0 : Method := { name := "<init>", desc := "()V", sig := { parameters := [], returnType := none }, accessFlags := 1, code := some k0c0 }
/-- java/lang/Object -/
def k0 : Class := { plain "java/lang/Object" none with
  accessFlags := 33
  interfaces := #[]
  cf := some (fileOf pool0 8 #[] #[{ accessFlags := 1, nameIndex := 5, descriptorIndex := 6, attributes := #[] }] 33 0 #[] #[])
  fields := #[]
  methods := #[k0m0]
  instanceTypes := #[]
  staticTypes := #[]
  resolved := Array.replicate 124 none
  statics := none }

def pool1 : Array CpInfo := pool [(2, .class_ 4), (1, u "java/lang/Object"), (0, u "<init>"), (0, u "()V"), (0, .methodref 8 9), (0, .class_ 10), (0, .nameAndType 11 12), (0, u "com/example/pathmeter/pathmeter/codec/QosLevelReachesMaxPinLaw"), (0, u "pick"), (0, u "(II)I"), (0, .class_ 14), (0, u "com/example/pathmeter/pathmeter/codec/QosLevel"), (0, .methodref 13 16), (0, .nameAndType 5 17), (0, u "(II)V"), (0, .methodref 13 19), (0, .nameAndType 20 21), (0, u "reachesMax"), (0, u "()Z"), (0, .methodref 13 23), (0, .nameAndType 24 25), (0, u "raised"), (0, u "(ZZ)Lcom/example/pathmeter/pathmeter/codec/QosLevel;"), (0, .methodref 13 27), (0, .nameAndType 28 29), (0, u "uplink"), (0, u "()I"), (0, .methodref 13 31), (0, .nameAndType 32 29), (0, u "downlink"), (3, u "law"), (0, u "(III)Z")] 2

def k1m0 : Method := { name := "<init>", desc := "()V", sig := { parameters := [], returnType := none }, accessFlags := 2, code := none }
def k1c1 : Code := { maxStack := 2, maxLocals := 2, code := method_2_code, exceptionTable := #[], attributes := #[] }
def k1m1 : Method := { name := "pick", desc := "(II)I", sig := { parameters := [.int, .int], returnType := some .int }, accessFlags := 10, code := some k1c1 }
def k1c2 : Code := { maxStack := 4, maxLocals := 9, code := code, exceptionTable := #[], attributes := #[] }
def k1m2 : Method := { name := "law", desc := "(III)Z", sig := { parameters := [.int, .int, .int], returnType := some .boolean }, accessFlags := 9, code := some k1c2 }
/-- com/example/pathmeter/pathmeter/codec/QosLevelReachesMaxPinLaw -/
def k1 : Class := { plain "com/example/pathmeter/pathmeter/codec/QosLevelReachesMaxPinLaw" (some 0) with
  accessFlags := 49
  interfaces := #[]
  cf := some (fileOf pool1 8 #[] #[{ accessFlags := 2, nameIndex := 5, descriptorIndex := 6, attributes := #[] }, { accessFlags := 10, nameIndex := 11, descriptorIndex := 12, attributes := #[] }, { accessFlags := 9, nameIndex := 36, descriptorIndex := 37, attributes := #[] }] 49 2 #[] #[])
  fields := #[]
  methods := #[k1m0, k1m1, k1m2]
  instanceTypes := #[]
  staticTypes := #[]
  resolved := Array.replicate 40 none
  statics := none }

def pool2 : Array CpInfo := pool [(1, .methodref 2 3), (0, .class_ 4), (0, .nameAndType 5 6), (0, u "java/lang/Object"), (0, u "<init>"), (0, u "()V"), (0, .class_ 8), (0, u "java/lang/Record")] 13

def k2c0 : Code := { maxStack := 1, maxLocals := 1, code := jdk_30_method_1_code, exceptionTable := #[], attributes := #[] }
def k2m0 : Method := { name := "<init>", desc := "()V", sig := { parameters := [], returnType := none }, accessFlags := 4, code := some k2c0 }
/-- java/lang/Record -/
def k2 : Class := { plain "java/lang/Record" (some 0) with
  accessFlags := 1057
  interfaces := #[]
  cf := some (fileOf pool2 7 #[] #[{ accessFlags := 4, nameIndex := 5, descriptorIndex := 6, attributes := #[] }] 1057 2 #[] #[])
  fields := #[]
  methods := #[k2m0]
  instanceTypes := #[]
  staticTypes := #[]
  resolved := Array.replicate 22 none
  statics := none }

def pool3 : Array CpInfo := pool [(1, .methodref 2 3), (0, .class_ 4), (0, .nameAndType 5 6), (0, u "java/lang/Record"), (0, u "<init>"), (0, u "()V"), (0, .fieldref 8 9), (0, .class_ 10), (0, .nameAndType 11 12), (0, u "com/example/pathmeter/pathmeter/codec/QosLevel"), (0, u "uplink"), (0, u "I"), (0, .fieldref 8 14), (0, .nameAndType 15 12), (0, u "downlink"), (13, u "()Z"), (2, u "LOWEST"), (0, u "Lcom/example/pathmeter/pathmeter/codec/QosLevel;"), (2, u "LEVELS"), (0, u "Ljava/util/regex/Pattern;"), (46, .methodref 8 85), (0, .nameAndType 5 86), (0, u "(II)V"), (0, .methodref 88 89), (0, .class_ 90), (0, .nameAndType 91 92), (0, u "java/lang/Math"), (0, u "min"), (0, u "(II)I"), (57, u "ATTRIBUTE"), (0, u "Ljava/lang/String;"), (1, u "MAX"), (9, u "raised"), (0, u "(ZZ)Lcom/example/pathmeter/pathmeter/codec/QosLevel;"), (2, u "reachesMax"), (3, u "()I")] 32

def k3c0 : Code := { maxStack := 2, maxLocals := 3, code := prog_26_method_1_code, exceptionTable := #[], attributes := #[] }
def k3m0 : Method := { name := "<init>", desc := "(II)V", sig := { parameters := [.int, .int], returnType := none }, accessFlags := 1, code := some k3c0 }
def k3c1 : Code := { maxStack := 6, maxLocals := 3, code := prog_26_method_3_code, exceptionTable := #[], attributes := #[] }
def k3m1 : Method := { name := "raised", desc := "(ZZ)Lcom/example/pathmeter/pathmeter/codec/QosLevel;", sig := { parameters := [.boolean, .boolean], returnType := some (.object "com/example/pathmeter/pathmeter/codec/QosLevel") }, accessFlags := 1, code := some k3c1 }
def k3c2 : Code := { maxStack := 2, maxLocals := 1, code := prog_26_method_5_code, exceptionTable := #[], attributes := #[] }
def k3m2 : Method := { name := "reachesMax", desc := "()Z", sig := { parameters := [], returnType := some .boolean }, accessFlags := 1, code := some k3c2 }
def k3c3 : Code := { maxStack := 1, maxLocals := 1, code := prog_26_method_11_code, exceptionTable := #[], attributes := #[] }
def k3m3 : Method := { name := "uplink", desc := "()I", sig := { parameters := [], returnType := some .int }, accessFlags := 1, code := some k3c3 }
def k3c4 : Code := { maxStack := 1, maxLocals := 1, code := prog_26_method_12_code, exceptionTable := #[], attributes := #[] }
def k3m4 : Method := { name := "downlink", desc := "()I", sig := { parameters := [], returnType := some .int }, accessFlags := 1, code := some k3c4 }
/-- com/example/pathmeter/pathmeter/codec/QosLevel -/
def k3 : Class := { plain "com/example/pathmeter/pathmeter/codec/QosLevel" (some 2) with
  accessFlags := 49
  interfaces := #[]
  cf := some (fileOf pool3 8 #[] #[{ accessFlags := 1, nameIndex := 5, descriptorIndex := 86, attributes := #[] }, { accessFlags := 1, nameIndex := 163, descriptorIndex := 164, attributes := #[] }, { accessFlags := 1, nameIndex := 167, descriptorIndex := 29, attributes := #[] }, { accessFlags := 1, nameIndex := 11, descriptorIndex := 171, attributes := #[] }, { accessFlags := 1, nameIndex := 15, descriptorIndex := 171, attributes := #[] }] 49 2 #[] #[{ accessFlags := 18, nameIndex := 11, descriptorIndex := 12, attributes := #[] }, { accessFlags := 18, nameIndex := 15, descriptorIndex := 12, attributes := #[] }, { accessFlags := 25, nameIndex := 150, descriptorIndex := 151, attributes := #[] }, { accessFlags := 25, nameIndex := 153, descriptorIndex := 12, attributes := #[] }, { accessFlags := 25, nameIndex := 32, descriptorIndex := 33, attributes := #[] }, { accessFlags := 26, nameIndex := 36, descriptorIndex := 37, attributes := #[] }])
  fields := #[{ name := "uplink", type := .int, accessFlags := 18, slot := 0, constantValue := 0 }, { name := "downlink", type := .int, accessFlags := 18, slot := 1, constantValue := 0 }, { name := "ATTRIBUTE", type := (.object "java/lang/String"), accessFlags := 25, slot := 0, constantValue := 0 }, { name := "MAX", type := .int, accessFlags := 25, slot := 1, constantValue := 0 }, { name := "LOWEST", type := (.object "com/example/pathmeter/pathmeter/codec/QosLevel"), accessFlags := 25, slot := 2, constantValue := 0 }, { name := "LEVELS", type := (.object "java/util/regex/Pattern"), accessFlags := 26, slot := 3, constantValue := 0 }]
  methods := #[k3m0, k3m1, k3m2, k3m3, k3m4]
  instanceTypes := #[.int, .int]
  staticTypes := #[(.object "java/lang/String"), .int, (.object "com/example/pathmeter/pathmeter/codec/QosLevel"), (.object "java/util/regex/Pattern")]
  resolved := Array.replicate 204 none
  statics := none }

def pool4 : Array CpInfo := pool [(1, .class_ 2), (0, u "java/lang/Math"), (1, .class_ 6), (1, u "java/lang/Object"), (0, u "<init>"), (0, u "()V"), (89, .class_ 100), (1, u "java/lang/Math$RandomNumberGeneratorHolder"), (71, u "negativeZeroFloatBits"), (0, u "J"), (2, u "negativeZeroDoubleBits"), (24, u "min"), (43, u "$assertionsDisabled"), (0, u "Z"), (88, u "(II)I"), (2, u "twoToTheDoubleScaleDown"), (0, u "D"), (4, u "twoToTheDoubleScaleUp"), (9, u "E"), (3, u "PI"), (2, u "TAU"), (2, u "DEGREES_TO_RADIANS"), (0, u "RADIANS_TO_DEGREES")] 94

def k4m0 : Method := { name := "<init>", desc := "()V", sig := { parameters := [], returnType := none }, accessFlags := 2, code := none }
def k4c1 : Code := { maxStack := 2, maxLocals := 2, code := jdk_29_method_69_code, exceptionTable := #[], attributes := #[] }
def k4m1 : Method := { name := "min", desc := "(II)I", sig := { parameters := [.int, .int], returnType := some .int }, accessFlags := 9, code := some k4c1 }
/-- java/lang/Math -/
def k4 : Class := { plain "java/lang/Math" (some 0) with
  accessFlags := 49
  interfaces := #[]
  cf := some (fileOf pool4 1 #[.nestMembers #[98]] #[{ accessFlags := 2, nameIndex := 7, descriptorIndex := 8, attributes := #[] }, { accessFlags := 9, nameIndex := 201, descriptorIndex := 335, attributes := #[] }] 49 4 #[] #[{ accessFlags := 25, nameIndex := 354, descriptorIndex := 339, attributes := #[] }, { accessFlags := 25, nameIndex := 358, descriptorIndex := 339, attributes := #[] }, { accessFlags := 25, nameIndex := 361, descriptorIndex := 339, attributes := #[] }, { accessFlags := 26, nameIndex := 364, descriptorIndex := 339, attributes := #[] }, { accessFlags := 26, nameIndex := 365, descriptorIndex := 339, attributes := #[] }, { accessFlags := 26, nameIndex := 172, descriptorIndex := 173, attributes := #[] }, { accessFlags := 26, nameIndex := 176, descriptorIndex := 173, attributes := #[] }, { accessFlags := 8, nameIndex := 344, descriptorIndex := 339, attributes := #[] }, { accessFlags := 8, nameIndex := 338, descriptorIndex := 339, attributes := #[] }, { accessFlags := 4120, nameIndex := 245, descriptorIndex := 246, attributes := #[] }])
  fields := #[{ name := "E", type := .double, accessFlags := 25, slot := 0, constantValue := 0 }, { name := "PI", type := .double, accessFlags := 25, slot := 1, constantValue := 0 }, { name := "TAU", type := .double, accessFlags := 25, slot := 2, constantValue := 0 }, { name := "DEGREES_TO_RADIANS", type := .double, accessFlags := 26, slot := 3, constantValue := 0 }, { name := "RADIANS_TO_DEGREES", type := .double, accessFlags := 26, slot := 4, constantValue := 0 }, { name := "negativeZeroFloatBits", type := .long, accessFlags := 26, slot := 5, constantValue := 0 }, { name := "negativeZeroDoubleBits", type := .long, accessFlags := 26, slot := 6, constantValue := 0 }, { name := "twoToTheDoubleScaleUp", type := .double, accessFlags := 8, slot := 7, constantValue := 0 }, { name := "twoToTheDoubleScaleDown", type := .double, accessFlags := 8, slot := 8, constantValue := 0 }, { name := "$assertionsDisabled", type := .boolean, accessFlags := 4120, slot := 9, constantValue := 0 }]
  methods := #[k4m0, k4m1]
  instanceTypes := #[]
  staticTypes := #[.double, .double, .double, .double, .double, .long, .long, .double, .double, .boolean]
  resolved := Array.replicate 460 none
  statics := none }

def pool5 : Array CpInfo := pool [(1, u "java/lang/Cloneable"), (0, .class_ 1), (0, u "java/lang/Object"), (0, .class_ 3)] 3

/-- java/lang/Cloneable -/
def k5 : Class := { plain "java/lang/Cloneable" (some 0) with
  accessFlags := 1537
  interfaces := #[]
  cf := some (fileOf pool5 2 #[] #[] 1537 4 #[] #[])
  fields := #[]
  methods := #[]
  instanceTypes := #[]
  staticTypes := #[]
  resolved := Array.replicate 8 none
  statics := none }

def pool6 : Array CpInfo := pool [(1, u "java/io/Serializable"), (0, .class_ 1), (0, u "java/lang/Object"), (0, .class_ 3)] 3

/-- java/io/Serializable -/
def k6 : Class := { plain "java/io/Serializable" (some 0) with
  accessFlags := 1537
  interfaces := #[]
  cf := some (fileOf pool6 2 #[] #[] 1537 4 #[] #[])
  fields := #[]
  methods := #[]
  instanceTypes := #[]
  staticTypes := #[]
  resolved := Array.replicate 8 none
  statics := none }

/-- the primitive byte -/
def k7 : Class := { plain "byte" none with kind := .primitive 'B', accessFlags := 0x411 }
/-- [B -/
def k8 : Class := { plain "[B" (some 0) with kind := .array 7 .byte, interfaces := #[5, 6], accessFlags := 1041 }

/-- the primitive int -/
def k9 : Class := { plain "int" none with kind := .primitive 'I', accessFlags := 0x411 }
/-- [I -/
def k10 : Class := { plain "[I" (some 0) with kind := .array 9 .int, interfaces := #[5, 6], accessFlags := 1041 }

def heap : Heap := #[]
def classes : Array Class := #[k0, k1, k2, k3, k4, k5, k6, k7, k8, k9, k10]
def interned : List (Array UInt16 × Addr) := []
def slotsUsed : Nat := 0
def theMethod : MethodId := ⟨1, 2⟩
def args0 : Array Value := #[.int 5, .int 7, .int 3]
def aboutOver (below : List Frame) : State where
  vm := { classes := classes, interned := interned.toArray }
  heap := heap
  slotsUsed := slotsUsed
  threads := #[{ frames := .invoking theMethod args0 :: below }]
def below0 : List Frame := [.native { method := ⟨0, 0⟩, args := #[] }]
def about1 : State := aboutOver below0
def p0 : Program := .bare "" "" ""
def e0 : Env := launch0.env 0 0 0
theorem w_frames : about1.frames = Frame.invoking theMethod args0 :: below0 := rfl
set_option maxRecDepth 65536 in
theorem w_args : argsFit about1.vm theMethod args0 = true := by decide +kernel
set_option maxRecDepth 65536 in
theorem w_heap : heapFits about1 = true := by decide +kernel
set_option maxRecDepth 65536 in
theorem w_runnable : about1.curStatus? = some .runnable := by decide +kernel
set_option maxRecDepth 65536 in
theorem w_alone : about1.alone = true := by decide +kernel
set_option maxRecDepth 65536 in
theorem w_named : about1.methodNamed? x = some theMethod := by decide +kernel
set_option maxRecDepth 65536 in
theorem w_hears : about1.hears theMethod below0 = true := by decide +kernel
set_option maxRecDepth 65536 in
theorem w_ripe : about1.ripe theMethod args0 below0 = true := by decide +kernel
theorem w_running : about1.status = .running := rfl
set_option maxRecDepth 65536 in
theorem w_room : about1.hasRoom e0.platform room_1 = true :=
  launch0.hasRoom_least _ room_1 (by decide +kernel) (by decide +kernel) (by decide +kernel) (by decide +kernel) (by decide +kernel) (by decide +kernel)
theorem allAtoms_all (ts : List Jvm.Cond) (a : Array Jvm.Value) (st : Jvm.State) : (allAtoms ts).before a st = ts.all (fun c => c.before a st) := by
  induction ts with
  | nil => rfl
  | cons c t ih =>
    show (Jvm.Cond.and c (allAtoms t)).before a st = _
    rw [Jvm.Cond.before_and, ih, List.all_cons]
def words1 : List Jvm.Cond := Jvm.Cond.code x code maxLocals ret :: tables_1
/-- a 'code' word, met by the world's own term for the bytes: nothing is compared byte by byte -/
theorem code_word {y : MethodName} {bytes : ByteArray} {mx : Nat} {rt : Option FieldType} {a : Array Value} {s : State} {m : MethodId} {meth : Method} {c : Code} (h1 : s.methodNamed? y = some m) (h2 : s.vm.method? m = some meth) (h3 : meth.code = some c) (h4 : c.code = bytes)
    (h5 : (c.maxLocals == mx && c.exceptionTable.isEmpty && decide (c.maxStack ≤ mostOperands) && decide (meth.sig.returnType = rt) && !meth.locks && decide (parseMethodDescriptor y.desc = some meth.sig)) = true) : (Jvm.Cond.code y bytes mx rt).before a s = true := by
  simp only [Bool.and_eq_true, beq_iff_eq, Bool.not_eq_true', decide_eq_true_eq] at h5
  obtain ⟨⟨⟨⟨⟨g1, g2⟩, g3⟩, g4⟩, g5⟩, g6⟩ := h5
  simp [Cond.before, Cond.holds, Cond.value, h1, h2, h3, h4, g1, g2, g3, g4, g5, g6]
def isCode : Jvm.Cond → Bool
  | .code _ _ _ _ => true
  | _ => false
theorem all_split {L : List Jvm.Cond} {P : Jvm.Cond → Bool} (h1 : L.all (fun c => isCode c || P c) = true) (h2 : ∀ c ∈ L.filter isCode, P c = true) : L.all P = true := by
  refine List.all_eq_true.mpr fun c hc => ?_
  have h := List.all_eq_true.mp h1 c hc
  rcases Bool.eq_false_or_eq_true (isCode c) with hi | hi
  · exact h2 c (List.mem_filter.mpr ⟨hc, hi⟩)
  · simpa [hi] using h
set_option maxRecDepth 65536 in
theorem w_c0 : (Jvm.Cond.code x code maxLocals ret).before args0 about1 = true := code_word (m := ⟨1, 2⟩) (meth := k1m2) (c := k1c2) (by decide +kernel) rfl rfl rfl (by decide +kernel)
set_option maxRecDepth 65536 in
theorem w_c1 : (Jvm.Cond.code ({ cls := "com/example/pathmeter/pathmeter/codec/QosLevelReachesMaxPinLaw", name := "pick", desc := "(II)I" } : Jvm.MethodName) method_2_code (2 : Nat) (Option.some Jvm.ClassFile.FieldType.int)).before args0 about1 = true := code_word (m := ⟨1, 1⟩) (meth := k1m1) (c := k1c1) (by decide +kernel) rfl rfl rfl (by decide +kernel)
set_option maxRecDepth 65536 in
theorem w_c2 : (Jvm.Cond.code ({ cls := "com/example/pathmeter/pathmeter/codec/QosLevel", name := "<init>", desc := "(II)V" } : Jvm.MethodName) prog_26_method_1_code (3 : Nat) (Option.none : Option Jvm.ClassFile.FieldType)).before args0 about1 = true := code_word (m := ⟨3, 0⟩) (meth := k3m0) (c := k3c0) (by decide +kernel) rfl rfl rfl (by decide +kernel)
set_option maxRecDepth 65536 in
theorem w_c3 : (Jvm.Cond.code ({ cls := "java/lang/Record", name := "<init>", desc := "()V" } : Jvm.MethodName) jdk_30_method_1_code (1 : Nat) (Option.none : Option Jvm.ClassFile.FieldType)).before args0 about1 = true := code_word (m := ⟨2, 0⟩) (meth := k2m0) (c := k2c0) (by decide +kernel) rfl rfl rfl (by decide +kernel)
set_option maxRecDepth 65536 in
theorem w_c4 : (Jvm.Cond.code ({ cls := "java/lang/Object", name := "<init>", desc := "()V" } : Jvm.MethodName) object_method_1_code (1 : Nat) (Option.none : Option Jvm.ClassFile.FieldType)).before args0 about1 = true := code_word (m := ⟨0, 0⟩) (meth := k0m0) (c := k0c0) (by decide +kernel) rfl rfl rfl (by decide +kernel)
set_option maxRecDepth 65536 in
theorem w_c5 : (Jvm.Cond.code ({ cls := "com/example/pathmeter/pathmeter/codec/QosLevel", name := "reachesMax", desc := "()Z" } : Jvm.MethodName) prog_26_method_5_code (1 : Nat) (Option.some Jvm.ClassFile.FieldType.boolean)).before args0 about1 = true := code_word (m := ⟨3, 2⟩) (meth := k3m2) (c := k3c2) (by decide +kernel) rfl rfl rfl (by decide +kernel)
set_option maxRecDepth 65536 in
theorem w_c6 : (Jvm.Cond.code ({ cls := "com/example/pathmeter/pathmeter/codec/QosLevel", name := "raised", desc := "(ZZ)Lcom/example/pathmeter/pathmeter/codec/QosLevel;" } : Jvm.MethodName) prog_26_method_3_code (3 : Nat) (Option.some (Jvm.ClassFile.FieldType.object "com/example/pathmeter/pathmeter/codec/QosLevel"))).before args0 about1 = true := code_word (m := ⟨3, 1⟩) (meth := k3m1) (c := k3c1) (by decide +kernel) rfl rfl rfl (by decide +kernel)
set_option maxRecDepth 65536 in
theorem w_c7 : (Jvm.Cond.code ({ cls := "java/lang/Math", name := "min", desc := "(II)I" } : Jvm.MethodName) jdk_29_method_69_code (2 : Nat) (Option.some Jvm.ClassFile.FieldType.int)).before args0 about1 = true := code_word (m := ⟨4, 1⟩) (meth := k4m1) (c := k4c1) (by decide +kernel) rfl rfl rfl (by decide +kernel)
set_option maxRecDepth 65536 in
theorem w_c8 : (Jvm.Cond.code ({ cls := "com/example/pathmeter/pathmeter/codec/QosLevel", name := "uplink", desc := "()I" } : Jvm.MethodName) prog_26_method_11_code (1 : Nat) (Option.some Jvm.ClassFile.FieldType.int)).before args0 about1 = true := code_word (m := ⟨3, 3⟩) (meth := k3m3) (c := k3c3) (by decide +kernel) rfl rfl rfl (by decide +kernel)
set_option maxRecDepth 65536 in
theorem w_c9 : (Jvm.Cond.code ({ cls := "com/example/pathmeter/pathmeter/codec/QosLevel", name := "downlink", desc := "()I" } : Jvm.MethodName) prog_26_method_12_code (1 : Nat) (Option.some Jvm.ClassFile.FieldType.int)).before args0 about1 = true := code_word (m := ⟨3, 4⟩) (meth := k3m4) (c := k3c4) (by decide +kernel) rfl rfl rfl (by decide +kernel)
def codes1 : List Jvm.Cond := [Jvm.Cond.code x code maxLocals ret, Jvm.Cond.code ({ cls := "com/example/pathmeter/pathmeter/codec/QosLevelReachesMaxPinLaw", name := "pick", desc := "(II)I" } : Jvm.MethodName) method_2_code (2 : Nat) (Option.some Jvm.ClassFile.FieldType.int), Jvm.Cond.code ({ cls := "com/example/pathmeter/pathmeter/codec/QosLevel", name := "<init>", desc := "(II)V" } : Jvm.MethodName) prog_26_method_1_code (3 : Nat) (Option.none : Option Jvm.ClassFile.FieldType), Jvm.Cond.code ({ cls := "java/lang/Record", name := "<init>", desc := "()V" } : Jvm.MethodName) jdk_30_method_1_code (1 : Nat) (Option.none : Option Jvm.ClassFile.FieldType), Jvm.Cond.code ({ cls := "java/lang/Object", name := "<init>", desc := "()V" } : Jvm.MethodName) object_method_1_code (1 : Nat) (Option.none : Option Jvm.ClassFile.FieldType), Jvm.Cond.code ({ cls := "com/example/pathmeter/pathmeter/codec/QosLevel", name := "reachesMax", desc := "()Z" } : Jvm.MethodName) prog_26_method_5_code (1 : Nat) (Option.some Jvm.ClassFile.FieldType.boolean), Jvm.Cond.code ({ cls := "com/example/pathmeter/pathmeter/codec/QosLevel", name := "raised", desc := "(ZZ)Lcom/example/pathmeter/pathmeter/codec/QosLevel;" } : Jvm.MethodName) prog_26_method_3_code (3 : Nat) (Option.some (Jvm.ClassFile.FieldType.object "com/example/pathmeter/pathmeter/codec/QosLevel")), Jvm.Cond.code ({ cls := "java/lang/Math", name := "min", desc := "(II)I" } : Jvm.MethodName) jdk_29_method_69_code (2 : Nat) (Option.some Jvm.ClassFile.FieldType.int), Jvm.Cond.code ({ cls := "com/example/pathmeter/pathmeter/codec/QosLevel", name := "uplink", desc := "()I" } : Jvm.MethodName) prog_26_method_11_code (1 : Nat) (Option.some Jvm.ClassFile.FieldType.int), Jvm.Cond.code ({ cls := "com/example/pathmeter/pathmeter/codec/QosLevel", name := "downlink", desc := "()I" } : Jvm.MethodName) prog_26_method_12_code (1 : Nat) (Option.some Jvm.ClassFile.FieldType.int)]
set_option maxRecDepth 65536 in
theorem codes_eq : words1.filter isCode = codes1 := rfl
theorem w_codes : ∀ c ∈ words1.filter isCode, c.before args0 about1 = true := by
  rw [codes_eq]
  intro c hc
  simp only [codes1, List.mem_cons, List.not_mem_nil, or_false] at hc
  rcases hc with rfl | rfl | rfl | rfl | rfl | rfl | rfl | rfl | rfl | rfl
  · exact w_c0
  · exact w_c1
  · exact w_c2
  · exact w_c3
  · exact w_c4
  · exact w_c5
  · exact w_c6
  · exact w_c7
  · exact w_c8
  · exact w_c9
set_option maxRecDepth 65536 in
theorem w_t1 : (words1.take 24).all (fun c => isCode c || c.before args0 about1) = true := by decide +kernel
set_option maxRecDepth 65536 in
theorem w_t2 : ((words1.drop 24).take 24).all (fun c => isCode c || c.before args0 about1) = true := by decide +kernel
set_option maxRecDepth 65536 in
theorem w_t3 : ((words1.drop 24).drop 24).all (fun c => isCode c || c.before args0 about1) = true := by decide +kernel
theorem w_tables : (allAtoms (Jvm.Cond.code x code maxLocals ret :: tables_1)).before args0 about1 = true := by
  rw [allAtoms_all]
  show words1.all (fun c => c.before args0 about1) = true
  refine all_split ?_ w_codes
  rw [← List.take_append_drop 24 words1, List.all_append, w_t1, ← List.take_append_drop 24 (words1.drop 24), List.all_append, w_t2, w_t3]
  rfl
set_option maxRecDepth 65536 in
theorem w_case : (Jvm.Cond.and given_1 narrow_1).before args0 about1 = true := by decide +kernel
theorem w_applies : (headSpec (Jvm.Cond.code x code maxLocals ret :: tables_1) room_1).applies x e0.platform about1 = true :=
  (Spec.applies_iff w_frames).mpr ⟨w_running, w_runnable, w_alone, w_named, w_hears, w_ripe, w_room, w_tables⟩
theorem atStart : AtStart classFile x code maxLocals ret World_1 tables_1 room_1 Calls_1 rest_1 Pre_1 launch0 p0 e0 about1 theMethod args0 below0 :=
  ⟨lists_1, trivial, launch0.admits_env _ _ _, launch0.least_env, fairChoices_fair.cas, fairChoices_fair.clock, w_frames, w_args, w_heap, w_applies, trivial, trivial, w_case⟩
end start1
theorem witness_1 : WitnessClaimed_1 := ⟨start1.p0, start1.e0, start1.about1, start1.theMethod, start1.args0, start1.below0, start1.atStart⟩
end Jvm.Pilot.@@N@@
