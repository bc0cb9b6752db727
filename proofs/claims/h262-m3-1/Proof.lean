import JvmDerived
import JvmDerived.Pilot.@@N@@Statement
import JvmDerived.Pilot.@@N@@Code
set_option linter.unusedVariables false
set_option linter.unusedSimpArgs false
namespace Jvm.Pilot.@@N@@
open Jvm Jvm.ClassFile Sem Op Lib Jvm.Free Jvm.Stand Jvm.LawKit Jvm.RoadKit Bundle Jvm.Pilot.@@N@@.Jvm.D
/-! THE OWN KIT: the walk from a state to its end, as one proposition (own_Go); its steps, its leaves, its entry. -/
section OwnKit
variable {p : Program} {l : Launch} {e : Env} {R : Room} {s : State} {m : MethodId} {args : Array Value} {below : List Frame} {meth : Method} {c : Code} {T : State} {locs : List Loc} {cells slots : Nat}
variable {Q : Option Value → Heap → List Loc → Prop} {rc rs : Nat}
/-- from U the run ends in a return, and Q says what it leaves -/
def own_Go (p : Program) (e : Env) (below : List Frame) (s : State) (Q : Option Value → Heap → List Loc → Prop) (rc rs : Nat) (U : State) : Prop :=
  ∃ s₂ o, Steps p.tables e below U s₂ ∧ s₂.status = .running ∧ Ended s₂ below o ∧ ∃ v L, o = .returned v ∧ Q v s₂.heap L ∧ FrameEnd s o s₂ L rc rs
theorem own_by {A B : State} (k : ∀ t, Steps p.tables e below B t → Steps p.tables e below A t) (h : own_Go p e below s Q rc rs B) : own_Go p e below s Q rc rs A := by
  obtain ⟨s₂, o, h1, r⟩ := h
  exact ⟨s₂, o, k _ h1, r⟩
theorem own_imp {Q' : Option Value → Heap → List Loc → Prop} {A : State} (k : ∀ v h L, Q v h L → Q' v h L) (h : own_Go p e below s Q rc rs A) : own_Go p e below s Q' rc rs A := by
  obtain ⟨s₂, o, h1, h2, h3, v, L, h4, h5, h6⟩ := h
  exact ⟨s₂, o, h1, h2, h3, v, L, h4, k _ _ _ h5, h6⟩
theorem own_leave (X : Stand p l e R s m args below meth c T locs cells slots) (hlk : meth.locks = false) {v : Option Value} (hv : meth.sig.returnType = none → v = none) {U : State}
    (hst : ∀ fs, (∀ (f : JFrame) (acts : List Action), f.method = m → f.locked = none → f.entered = [] → (doReturn e (T.setTop f) acts v).1 = T.setFrames fs) → Steps p.tables e below U (T.setFrames fs))
    (hq : Q v T.heap locs) (hc : cells ≤ rc) (hs : slots ≤ rs) : own_Go p e below s Q rc rs U := by
  obtain ⟨fs, hr, hrun, hended, hW, hsame⟩ := X.leave (v := v) hv hlk
  exact ⟨_, _, hst fs hr, hrun, hended, _, _, rfl, hq, ⟨_, rfl⟩, hW, hsame.mono hc hs⟩
theorem own_ret (X : Stand p l e R s m args below meth c T locs cells slots) (hx : p.tables.exec = Jvm.exec) (hlk : meth.locks = false) (hret : meth.sig.returnType = none) {pc : Nat} {Ls : Array Slot} (hd : decode c.code pc = .ok (.return_, 1))
    (hq : Q none T.heap locs) (hc : cells ≤ rc) (hs : slots ≤ rs) : own_Go p e below s Q rc rs (T.setTop (mkF m pc Ls [])) :=
  own_leave X hlk (fun _ => rfl) (fun _ hr => X.returnOut hx hret hd hr) hq hc hs
theorem own_retI (X : Stand p l e R s m args below meth c T locs cells slots) (hx : p.tables.exec = Jvm.exec) (hlk : meth.locks = false) (hret : meth.sig.returnType = some .int) {pc : Nat} {Ls : Array Slot} {z : Int32} (hd : decode c.code pc = .ok (.ireturn, 1))
    (hq : Q (some (.int z)) T.heap locs) (hc : cells ≤ rc) (hs : slots ≤ rs) : own_Go p e below s Q rc rs (T.setTop (mkF m pc Ls [.int z])) :=
  own_leave X hlk (fun h => by rw [hret] at h; cases h) (fun _ hr => X.ireturnOut hx hret rfl (Or.inl rfl) hd hr) hq hc hs
theorem own_retN {t : FieldType} (ht : t = .boolean ∨ t = .byte ∨ t = .char ∨ t = .short) (X : Stand p l e R s m args below meth c T locs cells slots) (hx : p.tables.exec = Jvm.exec) (hlk : meth.locks = false) (hret : meth.sig.returnType = some t) {pc : Nat} {Ls : Array Slot} {z z' : Int32} (hn : nar t z = z') (hd : decode c.code pc = .ok (.ireturn, 1))
    (hq : Q (some (.int z')) T.heap locs) (hc : cells ≤ rc) (hs : slots ≤ rs) : own_Go p e below s Q rc rs (T.setTop (mkF m pc Ls [.int z])) := by
  subst hn
  exact own_leave X hlk (fun h => by rw [hret] at h; cases h) (fun _ hr => retN X hx hret ht hd hr) hq hc hs
theorem own_retJ (X : Stand p l e R s m args below meth c T locs cells slots) (hx : p.tables.exec = Jvm.exec) (hlk : meth.locks = false) (hret : meth.sig.returnType = some .long) {pc : Nat} {Ls : Array Slot} {z : Int64} (hd : decode c.code pc = .ok (.lreturn, 1))
    (hq : Q (some (.long z)) T.heap locs) (hc : cells ≤ rc) (hs : slots ≤ rs) : own_Go p e below s Q rc rs (T.setTop (mkF m pc Ls [.long z])) :=
  own_leave X hlk (fun h => by rw [hret] at h; cases h) (fun _ hr => X.lreturnOut hx hret hd hr) hq hc hs
theorem own_retA {t : FieldType} (ht : t.isReference = true) (X : Stand p l e R s m args below meth c T locs cells slots) (hx : p.tables.exec = Jvm.exec) (hlk : meth.locks = false) (hret : meth.sig.returnType = some t) {pc : Nat} {Ls : Array Slot} {a : Addr} (hd : decode c.code pc = .ok (.areturn, 1))
    (hq : Q (some (.ref a)) T.heap locs) (hc : cells ≤ rc) (hs : slots ≤ rs) : own_Go p e below s Q rc rs (T.setTop (mkF m pc Ls [.ref a])) :=
  own_leave X hlk (fun h => by rw [hret] at h; cases h) (fun _ hr => X.areturnOut hx rfl hret ht hd hr) hq hc hs
/-- a body's contract out of its walk -/
theorem own_met {y : MethodName} {bytes : ByteArray} {maxL : Nat} {ret : Option FieldType} {ws : List Jvm.Cond} {rm : Room} {as' : Array Value} {Z : State} {h0 : Heap} (hpl : plainFor y = true)
    (body : ∀ (p : Program) (e : Env) (s : State) (m : MethodId) (below : List Frame) (meth : Method) (c : Code) (T : State), Stand p l e rm s m as' below meth c T [] 0 0 → p.tables.exec = Jvm.exec → c.code = bytes → c.maxLocals = maxL → meth.sig.returnType = ret → meth.locks = false →
      Z.Warmed39 s.vm → s.vm.findClass y.cls = some m.cls → meth.name = y.name → T.heap = h0 → own_Go p e below s Q rc rs (T.setTop (entryFrame m as' maxL))) :
    MetFree l y (head1 (Jvm.Cond.code y bytes maxL ret :: ws) rm) (fun a U => a = as' ∧ Z.Warmed39 U.vm ∧ U.heap = h0) (fun _ _ _ _ _ => True) (fun _ U o U' => ∃ v L, o = .returned v ∧ Q v U'.heap L ∧ FrameEnd U o U' L rc rs) := by
  refine MetFree.of_bodySF hpl hisR ?_
  intro p e s m args below meth c s₁ Bd hml0 hP hK
  obtain ⟨rfl, hZ, hh⟩ := hP
  exact body p e s m below meth c s₁ (Stand.of_body Bd) Bd.exec Bd.bytes hml0 Bd.returns (BodyLoose.notSynchronized Bd) hZ (findClass_of_methodNamed Bd.named) (name_of_methodNamed Bd.named Bd.method).1 (by rw [← hh, Bd.state]; rfl)
theorem own_cast {g g' : JFrame} (q : g = g') (k : own_Go p e below s Q rc rs (T.setTop g')) : own_Go p e below s Q rc rs (T.setTop g) := q ▸ k
/-- what a body that writes nothing leaves -/
def own_Qp (r : Option Value) (h0 : Heap) (v : Option Value) (h : Heap) (L : List Loc) : Prop := v = r ∧ L = [] ∧ h = h0
theorem own_selPriv {a1 a2 : Array Value} {y y' z' : MethodName} {C : String} (h : (Jvm.Cond.selects C y' z').before a1 s = true) (hz : z'.cls = y.cls) (hpriv : s.PrivateAt y) (hinst : (Jvm.Cond.instanceMethod y).before a2 s = true) (hy : y.cls ≠ "java/lang/invoke/MethodHandle" ∧ y.cls ≠ "java/lang/invoke/VarHandle") : (Jvm.Cond.selects y.cls y y).before a2 s = true := by
  obtain ⟨_, _, m2, -, -, q3, -, kP, hkP, hkPi⟩ := Cond.selects_spec h
  exact selects_self_of_private (by rw [← hz]; exact findClass_of_methodNamed q3) hkP hkPi hpriv hinst hy
end OwnKit
theorem pd_0 : parseMethodDescriptor "(JJ)J" = some ⟨[.long, .long], some .long⟩ := by decide +kernel
theorem pd_1 : parseMethodDescriptor "(JJ)V" = some ⟨[.long, .long], none⟩ := by decide +kernel
theorem pd_2 : parseMethodDescriptor "(J)V" = some ⟨[.long], none⟩ := by decide +kernel
theorem pd_3 : parseMethodDescriptor "(J)J" = some ⟨[.long], some .long⟩ := by decide +kernel
theorem d1_0 : decode prog_53_method_1_code 0 = .ok (.aload_n 0, 1) := by decide +kernel
theorem d1_1 : decode prog_53_method_1_code 1 = .ok (.invokespecial 1, 3) := by decide +kernel
theorem d1_4 : decode prog_53_method_1_code 4 = .ok (.aload_n 0, 1) := by decide +kernel
theorem d1_5 : decode prog_53_method_1_code 5 = .ok (.lload_n 3, 1) := by decide +kernel
theorem d1_6 : decode prog_53_method_1_code 6 = .ok (.ldc2_w 7, 3) := by decide +kernel
theorem d1_9 : decode prog_53_method_1_code 9 = .ok (.lmul, 1) := by decide +kernel
theorem d1_10 : decode prog_53_method_1_code 10 = .ok (.ldc2_w 11, 3) := by decide +kernel
theorem d1_13 : decode prog_53_method_1_code 13 = .ok (.ldiv, 1) := by decide +kernel
theorem d1_14 : decode prog_53_method_1_code 14 = .ok (.putfield 13, 3) := by decide +kernel
theorem d1_17 : decode prog_53_method_1_code 17 = .ok (.aload_n 0, 1) := by decide +kernel
theorem d1_18 : decode prog_53_method_1_code 18 = .ok (.lload_n 1, 1) := by decide +kernel
theorem d1_19 : decode prog_53_method_1_code 19 = .ok (.putfield 17, 3) := by decide +kernel
theorem d1_22 : decode prog_53_method_1_code 22 = .ok (.return_, 1) := by decide +kernel
theorem pn_1 : plainName "com/example/pathmeter/pathmeter/probe/Pacer" = true := by first | (simp [plainName, overriddenIn]; done) | decide +kernel
theorem ef_1 (m : MethodId) (x0 : Addr) (x1 : Int64) (x2 : Int64) : entryFrame m #[(.ref x0), (.long x1), (.long x2)] 5 = mkF m 0 #[.val (.ref x0), .val (.long x1), .second, .val (.long x2), .second] [] := by first | (simp [entryFrame, mkF, argsToLocals, Value.category]; done) | rfl
def own_Q1 (Z : State) (a : Addr) (x1 : Int64) (x3 : Int64) (h0 : Heap) (n0 : Nat) (v : Option Value) (h : Heap) (L : List Loc) : Prop := v = none ∧ Fr n0 L ∧ Keep h0 h [a] ∧ Fld Z h a "com/example/pathmeter/pathmeter/probe/Pacer" "intervalNanos" "J" (.long ((x3 * (16 : Int64)) / (17 : Int64))) ∧ Fld Z h a "com/example/pathmeter/pathmeter/probe/Pacer" "paceNanos" "J" (.long x1) ∧ Exa Z h a "com/example/pathmeter/pathmeter/probe/Pacer"
set_option maxRecDepth 65536 in
set_option maxHeartbeats 40000000 in
theorem rm1 (l : Launch) (Z : State) (a0 : Array Value) (hw : ∀ d ∈ tables_1, d.before a0 Z = true) (ws : List Jvm.Cond) (a : Addr) (x1 : Int64) (x3 : Int64)  (h0 : Heap) (n0 : Nat) (Z0 : n0 ≤ h0.size) (F_intervalNanos_a : Fld Z h0 a "com/example/pathmeter/pathmeter/probe/Pacer" "intervalNanos" "J" (.long (0 : Int64))) (F_paceNanos_a : Fld Z h0 a "com/example/pathmeter/pathmeter/probe/Pacer" "paceNanos" "J" (.long (0 : Int64))) (E_a : Exa Z h0 a "com/example/pathmeter/pathmeter/probe/Pacer") (g_a : n0 ≤ a)   :
    MetFree l (⟨"com/example/pathmeter/pathmeter/probe/Pacer", "<init>", "(JJ)V"⟩ : MethodName) (head1 (Jvm.Cond.code (⟨"com/example/pathmeter/pathmeter/probe/Pacer", "<init>", "(JJ)V"⟩ : MethodName) prog_53_method_1_code 5 none :: ws) ({ frames := 1, cells := 0, slots := 0, locals := 12 } : Room)) (fun aa U => aa = #[(.ref a), (.long x1), (.long x3)] ∧ Z.Warmed39 U.vm ∧ U.heap = h0) (fun _ _ _ _ _ => True) (fun _ U o U' => ∃ v L, o = .returned v ∧ own_Q1 Z a x1 x3 h0 n0 v U'.heap L ∧ FrameEnd U o U' L ({ frames := 1, cells := 0, slots := 0, locals := 12 } : Room).cells ({ frames := 1, cells := 0, slots := 0, locals := 12 } : Room).slots) := by
  refine own_met (plainFor_of_name pn_1) fun p e s m below meth c T0 X0 hx hby hml hret hlk hZ hown hnm e0 => ?_
  refine own_cast (ef_1 m a x1 x3) ?_
  have NF := Fr.nil n0
  have Zs := Z0
  have K := Keep.refl h0 [a]
  refine own_by (B := T0.setTop (mkF m 1 #[.val (.ref a), .val (.long x1), .second, .val (.long x3), .second] [(.ref a)])) (fun t k => XS.aloadN X0.here hx rfl (hb hby d1_0) rfl rfl k) ?_
  obtain ⟨T1, X1, e1, st1⟩ := initO X0 hx hZ hown (hw _ (List.mem_of_getElem? (i := 6) rfl)) (hw _ (List.mem_of_getElem? (i := 7) rfl)) (hw _ (List.mem_of_getElem? (i := 8) rfl)) e0 (g := (mkF m 1 #[.val (.ref a), .val (.long x1), .second, .val (.long x3), .second] [(.ref a)])) rfl (by rw [hml]; rfl) rfl (hb hby d1_1) (by decide) (W := 0) (by show 2 * 0 + _ ≤ _; exact Nat.le_of_eq rfl) (by decide)
  refine own_by (B := T1.setTop (mkF m 4 #[.val (.ref a), .val (.long x1), .second, .val (.long x3), .second] [])) (fun t k => st1 _ k) ?_
  refine own_by (B := T1.setTop (mkF m 5 #[.val (.ref a), .val (.long x1), .second, .val (.long x3), .second] [(.ref a)])) (fun t k => XS.aloadN X1.here hx rfl (hb hby d1_4) rfl rfl k) ?_
  refine own_by (B := T1.setTop (mkF m 6 #[.val (.ref a), .val (.long x1), .second, .val (.long x3), .second] [(.long x3), (.ref a)])) (fun t k => XS.lloadN X1.here hx rfl (hb hby d1_5) rfl k) ?_
  refine own_by (B := T1.setTop (mkF m 9 #[.val (.ref a), .val (.long x1), .second, .val (.long x3), .second] [(.long (16 : Int64)), (.long x3), (.ref a)])) (fun t k => X1.ldc2Long hx hown (mvT hZ (hw _ (List.mem_of_getElem? (i := 9) rfl))) (g := (mkF m 6 #[.val (.ref a), .val (.long x1), .second, .val (.long x3), .second] [(.long x3), (.ref a)])) rfl (hb hby d1_6) _ k) ?_
  refine own_by (B := T1.setTop (mkF m 10 #[.val (.ref a), .val (.long x1), .second, .val (.long x3), .second] [(.long (x3 * (16 : Int64))), (.ref a)])) (fun t k => XS.lmul X1.here hx rfl (hb hby d1_9) rfl k) ?_
  refine own_by (B := T1.setTop (mkF m 13 #[.val (.ref a), .val (.long x1), .second, .val (.long x3), .second] [(.long (17 : Int64)), (.long (x3 * (16 : Int64))), (.ref a)])) (fun t k => X1.ldc2Long hx hown (mvT hZ (hw _ (List.mem_of_getElem? (i := 10) rfl))) (g := (mkF m 10 #[.val (.ref a), .val (.long x1), .second, .val (.long x3), .second] [(.long (x3 * (16 : Int64))), (.ref a)])) rfl (hb hby d1_10) _ k) ?_
  refine own_by (B := T1.setTop (mkF m 14 #[.val (.ref a), .val (.long x1), .second, .val (.long x3), .second] [(.long ((x3 * (16 : Int64)) / (17 : Int64))), (.ref a)])) (fun t k => XS.ldiv X1.here hx rfl (hb hby d1_13) rfl (by decide) k) ?_
  obtain ⟨T2, h2, X2, e2, W2, st2⟩ := putF X1 hx hZ hown (host := "") (Or.inl (hw _ (List.mem_of_getElem? (i := 11) rfl))) Via.refl e1 F_intervalNanos_a E_a (Or.inr ⟨(hw _ (List.mem_of_getElem? (i := 12) rfl)), rfl, hnm⟩) (hw _ (List.mem_of_getElem? (i := 1) rfl)) (ty := .long) (by decide) rfl rfl (g := (mkF m 14 #[.val (.ref a), .val (.long x1), .second, .val (.long x3), .second] [(.long ((x3 * (16 : Int64)) / (17 : Int64))), (.ref a)])) rfl rfl (hb hby d1_14)
  replace F_intervalNanos_a : Fld Z h2 a "com/example/pathmeter/pathmeter/probe/Pacer" "intervalNanos" "J" (.long ((x3 * (16 : Int64)) / (17 : Int64))) := F_intervalNanos_a.same W2
  replace F_paceNanos_a : Fld Z h2 a "com/example/pathmeter/pathmeter/probe/Pacer" "paceNanos" "J" (.long (0 : Int64)) := F_paceNanos_a.other W2 (Or.inr (slot_ne (Or.inl (hw _ (List.mem_of_getElem? (i := 14) rfl))) (Or.inr (hw _ (List.mem_of_getElem? (i := 12) rfl))) (by decide) (t := .long) (t' := .long) (by decide) (by decide)))
  replace E_a : Exa Z h2 a "com/example/pathmeter/pathmeter/probe/Pacer" := E_a.wr W2
  replace Zs : n0 ≤ h2.size := by rw [W2.size]; exact Zs
  replace K : Keep h0 h2 [a] := K.wr W2 (Or.inl (List.mem_of_getElem? (i := 0) rfl))
  have NF := Fr.snoc X2 NF g_a
  refine own_by (B := T2.setTop (mkF m 17 #[.val (.ref a), .val (.long x1), .second, .val (.long x3), .second] [])) (fun t k => st2 _ k) ?_
  refine own_by (B := T2.setTop (mkF m 18 #[.val (.ref a), .val (.long x1), .second, .val (.long x3), .second] [(.ref a)])) (fun t k => XS.aloadN X2.here hx rfl (hb hby d1_17) rfl rfl k) ?_
  refine own_by (B := T2.setTop (mkF m 19 #[.val (.ref a), .val (.long x1), .second, .val (.long x3), .second] [(.long x1), (.ref a)])) (fun t k => XS.lloadN X2.here hx rfl (hb hby d1_18) rfl k) ?_
  obtain ⟨T3, h3, X3, e3, W3, st3⟩ := putF X2 hx hZ hown (host := "") (Or.inl (hw _ (List.mem_of_getElem? (i := 13) rfl))) Via.refl e2 F_paceNanos_a E_a (Or.inl (hw _ (List.mem_of_getElem? (i := 14) rfl))) (hw _ (List.mem_of_getElem? (i := 1) rfl)) (ty := .long) (by decide) rfl rfl (g := (mkF m 19 #[.val (.ref a), .val (.long x1), .second, .val (.long x3), .second] [(.long x1), (.ref a)])) rfl rfl (hb hby d1_19)
  replace F_intervalNanos_a : Fld Z h3 a "com/example/pathmeter/pathmeter/probe/Pacer" "intervalNanos" "J" (.long ((x3 * (16 : Int64)) / (17 : Int64))) := F_intervalNanos_a.other W3 (Or.inr (slot_ne (Or.inr (hw _ (List.mem_of_getElem? (i := 12) rfl))) (Or.inl (hw _ (List.mem_of_getElem? (i := 14) rfl))) (by decide) (t := .long) (t' := .long) (by decide) (by decide)))
  replace F_paceNanos_a : Fld Z h3 a "com/example/pathmeter/pathmeter/probe/Pacer" "paceNanos" "J" (.long x1) := F_paceNanos_a.same W3
  replace E_a : Exa Z h3 a "com/example/pathmeter/pathmeter/probe/Pacer" := E_a.wr W3
  replace Zs : n0 ≤ h3.size := by rw [W3.size]; exact Zs
  replace K : Keep h0 h3 [a] := K.wr W3 (Or.inl (List.mem_of_getElem? (i := 0) rfl))
  have NF := Fr.snoc X3 NF g_a
  refine own_by (B := T3.setTop (mkF m 22 #[.val (.ref a), .val (.long x1), .second, .val (.long x3), .second] [])) (fun t k => st3 _ k) ?_
  exact own_ret X3 hx hlk hret (hb hby d1_22) (by show own_Q1 Z a x1 x3 h0 n0 _ _ _; rw [e3]; exact ⟨rfl, NF, K, F_intervalNanos_a, F_paceNanos_a, E_a⟩) (by decide) (by decide)
theorem d4_0 : decode jdk_29_method_66_code 0 = .ok (.lload_n 0, 1) := by decide +kernel
theorem d4_1 : decode jdk_29_method_66_code 1 = .ok (.lload_n 2, 1) := by decide +kernel
theorem d4_2 : decode jdk_29_method_66_code 2 = .ok (.lcmp, 1) := by decide +kernel
theorem d4_3 : decode jdk_29_method_66_code 3 = .ok (.ifCond .lt 7, 3) := by decide +kernel
theorem d4_6 : decode jdk_29_method_66_code 6 = .ok (.lload_n 0, 1) := by decide +kernel
theorem d4_7 : decode jdk_29_method_66_code 7 = .ok (.goto 4, 3) := by decide +kernel
theorem d4_10 : decode jdk_29_method_66_code 10 = .ok (.lload_n 2, 1) := by decide +kernel
theorem d4_11 : decode jdk_29_method_66_code 11 = .ok (.lreturn, 1) := by decide +kernel
theorem ef_4 (m : MethodId) (x0 : Int64) (x2 : Int64) : entryFrame m #[(.long x0), (.long x2)] 4 = mkF m 0 #[.val (.long x0), .second, .val (.long x2), .second] [] := by first | (simp [entryFrame, mkF, argsToLocals, Value.category]; done) | rfl
def f4_11  (x0 : Int64) (x2 : Int64) (y0 : Int64) : Int64 := y0
set_option maxRecDepth 65536 in
set_option maxHeartbeats 40000000 in
theorem bk4_11 (l : Launch) (Z : State) (a0 : Array Value) (hw : ∀ d ∈ tables_1, d.before a0 Z = true) (h0 : Heap)     (x0 : Int64) (x2 : Int64) (y0 : Int64)  {p : Program} {e : Env} {s : State} {m : MethodId} {args : Array Value} {below : List Frame} {meth : Method} {c : Code} {T0 : State}
    (X0 : Stand p l e ({ frames := 0, cells := 0, slots := 0, locals := 0 } : Room) s m args below meth c T0 [] 0 0) (hx : p.tables.exec = Jvm.exec) (hby : c.code = jdk_29_method_66_code) (hml : c.maxLocals = 4) (hret : meth.sig.returnType = (some .long)) (hlk : meth.locks = false) (hZ : Z.Warmed39 s.vm) (hown : s.vm.findClass "java/lang/Math" = some m.cls) (hnm : meth.name = "max") (e0 : T0.heap = h0) :
    own_Go p e below s (own_Qp (some (.long (f4_11  x0 x2 y0))) h0) 0 0 (T0.setTop (mkF m 11 #[.val (.long x0), .second, .val (.long x2), .second] [(.long y0)])) := by
  have hf : f4_11  x0 x2 y0 = y0 := rfl
  exact own_retJ X0 hx hlk hret (hb hby d4_11) ⟨by rw [hf], rfl, e0⟩ (by decide) (by decide)
def f4_0  (x0 : Int64) (x2 : Int64) : Int64 := (if x0 < x2 then (f4_11  x0 x2 x2) else (f4_11  x0 x2 x0))
set_option maxRecDepth 65536 in
set_option maxHeartbeats 40000000 in
theorem bk4_0 (l : Launch) (Z : State) (a0 : Array Value) (hw : ∀ d ∈ tables_1, d.before a0 Z = true) (h0 : Heap)     (x0 : Int64) (x2 : Int64)  {p : Program} {e : Env} {s : State} {m : MethodId} {args : Array Value} {below : List Frame} {meth : Method} {c : Code} {T0 : State}
    (X0 : Stand p l e ({ frames := 0, cells := 0, slots := 0, locals := 0 } : Room) s m args below meth c T0 [] 0 0) (hx : p.tables.exec = Jvm.exec) (hby : c.code = jdk_29_method_66_code) (hml : c.maxLocals = 4) (hret : meth.sig.returnType = (some .long)) (hlk : meth.locks = false) (hZ : Z.Warmed39 s.vm) (hown : s.vm.findClass "java/lang/Math" = some m.cls) (hnm : meth.name = "max") (e0 : T0.heap = h0) :
    own_Go p e below s (own_Qp (some (.long (f4_0  x0 x2))) h0) 0 0 (T0.setTop (mkF m 0 #[.val (.long x0), .second, .val (.long x2), .second] [])) := by
  have hf : f4_0  x0 x2 = (if x0 < x2 then (f4_11  x0 x2 x2) else (f4_11  x0 x2 x0)) := rfl
  refine own_by (B := T0.setTop (mkF m 1 #[.val (.long x0), .second, .val (.long x2), .second] [(.long x0)])) (fun t k => XS.lloadN X0.here hx rfl (hb hby d4_0) rfl k) ?_
  refine own_by (B := T0.setTop (mkF m 2 #[.val (.long x0), .second, .val (.long x2), .second] [(.long x2), (.long x0)])) (fun t k => XS.lloadN X0.here hx rfl (hb hby d4_1) rfl k) ?_
  refine own_by (B := T0.setTop (mkF m 3 #[.val (.long x0), .second, .val (.long x2), .second] [(.int (lcmpW x0 x2))])) (fun t k => XS.lcmp X0.here hx rfl (hb hby d4_2) rfl k) ?_
  by_cases hc1 : x0 < x2
  ·
    rw [if_pos hc1] at hf
    refine own_by (B := T0.setTop (mkF m 10 #[.val (.long x0), .second, .val (.long x2), .second] [])) (fun t k => XS.ifYes X0.here hx rfl (pc0 := 3) (pc' := 10) rfl (hb hby d4_3) rfl ((if0 _ _).trans (tlt ((lw_lt _ _).mpr hc1)).1) (by decide) (by decide) k) ?_
    refine own_by (B := T0.setTop (mkF m 11 #[.val (.long x0), .second, .val (.long x2), .second] [(.long x2)])) (fun t k => XS.lloadN X0.here hx rfl (hb hby d4_10) rfl k) ?_
    rw [hf]
    exact bk4_11 l Z a0 hw h0   x0 x2 x2  X0 hx hby hml hret hlk hZ hown hnm e0
  ·
    rw [if_neg hc1] at hf
    refine own_by (B := T0.setTop (mkF m 6 #[.val (.long x0), .second, .val (.long x2), .second] [])) (fun t k => XS.ifNo X0.here hx rfl (hb hby d4_3) rfl ((if0 _ _).trans (flt (fun q => hc1 ((lw_lt _ _).mp q))).1) k) ?_
    refine own_by (B := T0.setTop (mkF m 7 #[.val (.long x0), .second, .val (.long x2), .second] [(.long x0)])) (fun t k => XS.lloadN X0.here hx rfl (hb hby d4_6) rfl k) ?_
    refine own_by (B := T0.setTop (mkF m 11 #[.val (.long x0), .second, .val (.long x2), .second] [(.long x0)])) (fun t k => XS.goto X0.here hx rfl (pc0 := 7) (pc' := 11) rfl (hb hby d4_7) (by decide) (by decide) k) ?_
    rw [hf]
    exact bk4_11 l Z a0 hw h0   x0 x2 x0  X0 hx hby hml hret hlk hZ hown hnm e0
set_option maxRecDepth 65536 in
set_option maxHeartbeats 40000000 in
theorem rm4 (l : Launch) (Z : State) (a0 : Array Value) (hw : ∀ d ∈ tables_1, d.before a0 Z = true) (ws : List Jvm.Cond) (x0 : Int64) (x2 : Int64)   (h0 : Heap)   :
    MetFree l (⟨"java/lang/Math", "max", "(JJ)J"⟩ : MethodName) (head1 (Jvm.Cond.code (⟨"java/lang/Math", "max", "(JJ)J"⟩ : MethodName) jdk_29_method_66_code 4 (some .long) :: ws) ({ frames := 0, cells := 0, slots := 0, locals := 0 } : Room)) (fun aa U => aa = #[(.long x0), (.long x2)] ∧ Z.Warmed39 U.vm ∧ U.heap = h0) (fun _ _ _ _ _ => True) (fun _ U o U' => ∃ v L, o = .returned v ∧ own_Qp (some (.long (f4_0  x0 x2))) h0 v U'.heap L ∧ FrameEnd U o U' L ({ frames := 0, cells := 0, slots := 0, locals := 0 } : Room).cells ({ frames := 0, cells := 0, slots := 0, locals := 0 } : Room).slots) := by
  refine own_met (Jvm.Free.JP.mathPlain rfl (by decide +kernel)) fun p e s m below meth c T0 X0 hx hby hml hret hlk hZ hown hnm e0 => ?_
  refine own_cast (ef_4 m x0 x2) ?_
  exact bk4_0 l Z a0 hw h0   x0 x2  X0 hx hby hml hret hlk hZ hown hnm e0
theorem d3_0 : decode prog_53_method_3_code 0 = .ok (.aload_n 0, 1) := by decide +kernel
theorem d3_1 : decode prog_53_method_3_code 1 = .ok (.aload_n 0, 1) := by decide +kernel
theorem d3_2 : decode prog_53_method_3_code 2 = .ok (.getfield 17, 3) := by decide +kernel
theorem d3_5 : decode prog_53_method_3_code 5 = .ok (.lload_n 1, 1) := by decide +kernel
theorem d3_6 : decode prog_53_method_3_code 6 = .ok (.invokestatic 22, 3) := by decide +kernel
theorem d3_9 : decode prog_53_method_3_code 9 = .ok (.aload_n 0, 1) := by decide +kernel
theorem d3_10 : decode prog_53_method_3_code 10 = .ok (.getfield 13, 3) := by decide +kernel
theorem d3_13 : decode prog_53_method_3_code 13 = .ok (.ladd, 1) := by decide +kernel
theorem d3_14 : decode prog_53_method_3_code 14 = .ok (.putfield 17, 3) := by decide +kernel
theorem d3_17 : decode prog_53_method_3_code 17 = .ok (.return_, 1) := by decide +kernel
theorem pn_3 : plainName "com/example/pathmeter/pathmeter/probe/Pacer" = true := by first | (simp [plainName, overriddenIn]; done) | decide +kernel
theorem ef_3 (m : MethodId) (x0 : Addr) (x1 : Int64) : entryFrame m #[(.ref x0), (.long x1)] 3 = mkF m 0 #[.val (.ref x0), .val (.long x1), .second] [] := by first | (simp [entryFrame, mkF, argsToLocals, Value.category]; done) | rfl
def own_Q3 (Z : State) (a : Addr) (x1 : Int64) (pn : Int64) (iv : Int64) (h0 : Heap) (n0 : Nat) (v : Option Value) (h : Heap) (L : List Loc) : Prop := v = none ∧ Fr n0 L ∧ Keep h0 h [a] ∧ Fld Z h a "com/example/pathmeter/pathmeter/probe/Pacer" "paceNanos" "J" (.long ((f4_0  pn x1) + iv)) ∧ Fld Z h a "com/example/pathmeter/pathmeter/probe/Pacer" "intervalNanos" "J" (.long iv) ∧ Exa Z h a "com/example/pathmeter/pathmeter/probe/Pacer"
set_option maxRecDepth 65536 in
set_option maxHeartbeats 40000000 in
theorem rm3 (l : Launch) (Z : State) (a0 : Array Value) (hw : ∀ d ∈ tables_1, d.before a0 Z = true) (ws : List Jvm.Cond) (a : Addr) (x1 : Int64) (pn : Int64) (iv : Int64) (h0 : Heap) (n0 : Nat) (Z0 : n0 ≤ h0.size) (F_paceNanos_a : Fld Z h0 a "com/example/pathmeter/pathmeter/probe/Pacer" "paceNanos" "J" (.long pn)) (F_intervalNanos_a : Fld Z h0 a "com/example/pathmeter/pathmeter/probe/Pacer" "intervalNanos" "J" (.long iv)) (E_a : Exa Z h0 a "com/example/pathmeter/pathmeter/probe/Pacer") (g_a : n0 ≤ a)   :
    MetFree l (⟨"com/example/pathmeter/pathmeter/probe/Pacer", "sent", "(J)V"⟩ : MethodName) (head1 (Jvm.Cond.code (⟨"com/example/pathmeter/pathmeter/probe/Pacer", "sent", "(J)V"⟩ : MethodName) prog_53_method_3_code 3 none :: ws) ({ frames := 1, cells := 0, slots := 0, locals := 16 } : Room)) (fun aa U => aa = #[(.ref a), (.long x1)] ∧ Z.Warmed39 U.vm ∧ U.heap = h0) (fun _ _ _ _ _ => True) (fun _ U o U' => ∃ v L, o = .returned v ∧ own_Q3 Z a x1 pn iv h0 n0 v U'.heap L ∧ FrameEnd U o U' L ({ frames := 1, cells := 0, slots := 0, locals := 16 } : Room).cells ({ frames := 1, cells := 0, slots := 0, locals := 16 } : Room).slots) := by
  refine own_met (plainFor_of_name pn_3) fun p e s m below meth c T0 X0 hx hby hml hret hlk hZ hown hnm e0 => ?_
  refine own_cast (ef_3 m a x1) ?_
  have NF := Fr.nil n0
  have Zs := Z0
  have K := Keep.refl h0 [a]
  refine own_by (B := T0.setTop (mkF m 1 #[.val (.ref a), .val (.long x1), .second] [(.ref a)])) (fun t k => XS.aloadN X0.here hx rfl (hb hby d3_0) rfl rfl k) ?_
  refine own_by (B := T0.setTop (mkF m 2 #[.val (.ref a), .val (.long x1), .second] [(.ref a), (.ref a)])) (fun t k => XS.aloadN X0.here hx rfl (hb hby d3_1) rfl rfl k) ?_
  obtain ⟨T1, X1, e1, st1⟩ := getF X0 hx hZ hown (host := "") (Or.inl (hw _ (List.mem_of_getElem? (i := 13) rfl))) Via.refl e0 F_paceNanos_a (g := (mkF m 2 #[.val (.ref a), .val (.long x1), .second] [(.ref a), (.ref a)])) rfl rfl (hb hby d3_2)
  refine own_by (B := T1.setTop (mkF m 5 #[.val (.ref a), .val (.long x1), .second] [(.long pn), (.ref a)])) (fun t k => st1 _ k) ?_
  refine own_by (B := T1.setTop (mkF m 6 #[.val (.ref a), .val (.long x1), .second] [(.long x1), (.long pn), (.ref a)])) (fun t k => XS.lloadN X1.here hx rfl (hb hby d3_5) rfl k) ?_
  obtain ⟨v2, _, ⟨T2, L2, c2, n2⟩, -, X2, ⟨Lc2, hQ2, l2, y2, z2⟩, st2⟩ := Jvm.LawKit.callS X1 hx (y := (⟨"java/lang/Math", "max", "(JJ)J"⟩ : MethodName)) hown (mvT hZ (hw _ (List.mem_of_getElem? (i := 22) rfl))) (mvT hZ (hw _ (List.mem_of_getElem? (i := 23) rfl))) (mvT hZ (hw _ (List.mem_of_getElem? (i := 24) rfl))) (mvT hZ (hw _ (List.mem_of_getElem? (i := 25) rfl))) (by decide) (backOf (W := 1) (rm4 l Z a0 hw [] pn x1  h0 ) hZ (hw _ (List.mem_of_getElem? (i := 25) rfl)) (hw _ (List.mem_of_getElem? (i := 24) rfl)) (by decide) (by decide)) (g := (mkF m 6 #[.val (.ref a), .val (.long x1), .second] [(.long x1), (.long pn), (.ref a)])) rfl (by rw [hml]; rfl) (argsL := [(.long pn), (.long x1)]) (rest := [(.ref a)]) (lenOf pd_0 rfl) rfl (by show 2 * 0 + _ ≤ _; exact Nat.le_of_eq rfl) (hb hby d3_6) (fun _ _ => ⟨rfl, e1, (by decide : 0 + 0 ≤ _), (by decide : 0 + 0 ≤ _)⟩)
  dsimp only [Pt.U, Pt.locs, Pt.cells, Pt.slots] at X2 l2 y2 z2 st2 hQ2
  subst l2 y2 z2
  obtain ⟨rfl, rfl, e2⟩ := hQ2
  have NF := Fr.app NF (Fr.nil n0)
  refine own_by (B := T2.setTop (mkF m 9 #[.val (.ref a), .val (.long x1), .second] [(.long (f4_0 pn x1)), (.ref a)])) (fun t k => st2 _ k) ?_
  refine own_by (B := T2.setTop (mkF m 10 #[.val (.ref a), .val (.long x1), .second] [(.ref a), (.long (f4_0 pn x1)), (.ref a)])) (fun t k => XS.aloadN X2.here hx rfl (hb hby d3_9) rfl rfl k) ?_
  obtain ⟨T3, X3, e3, st3⟩ := getF X2 hx hZ hown (host := "") (Or.inl (hw _ (List.mem_of_getElem? (i := 11) rfl))) Via.refl e2 F_intervalNanos_a (g := (mkF m 10 #[.val (.ref a), .val (.long x1), .second] [(.ref a), (.long (f4_0 pn x1)), (.ref a)])) rfl rfl (hb hby d3_10)
  refine own_by (B := T3.setTop (mkF m 13 #[.val (.ref a), .val (.long x1), .second] [(.long iv), (.long (f4_0 pn x1)), (.ref a)])) (fun t k => st3 _ k) ?_
  refine own_by (B := T3.setTop (mkF m 14 #[.val (.ref a), .val (.long x1), .second] [(.long ((f4_0 pn x1) + iv)), (.ref a)])) (fun t k => XS.ladd X3.here hx rfl (hb hby d3_13) rfl k) ?_
  obtain ⟨T4, h4, X4, e4, W4, st4⟩ := putF X3 hx hZ hown (host := "") (Or.inl (hw _ (List.mem_of_getElem? (i := 13) rfl))) Via.refl e3 F_paceNanos_a E_a (Or.inl (hw _ (List.mem_of_getElem? (i := 14) rfl))) (hw _ (List.mem_of_getElem? (i := 1) rfl)) (ty := .long) (by decide) rfl rfl (g := (mkF m 14 #[.val (.ref a), .val (.long x1), .second] [(.long ((f4_0 pn x1) + iv)), (.ref a)])) rfl rfl (hb hby d3_14)
  replace F_paceNanos_a : Fld Z h4 a "com/example/pathmeter/pathmeter/probe/Pacer" "paceNanos" "J" (.long ((f4_0 pn x1) + iv)) := F_paceNanos_a.same W4
  replace F_intervalNanos_a : Fld Z h4 a "com/example/pathmeter/pathmeter/probe/Pacer" "intervalNanos" "J" (.long iv) := F_intervalNanos_a.other W4 (Or.inr (slot_ne (Or.inr (hw _ (List.mem_of_getElem? (i := 12) rfl))) (Or.inl (hw _ (List.mem_of_getElem? (i := 14) rfl))) (by decide) (t := .long) (t' := .long) (by decide) (by decide)))
  replace E_a : Exa Z h4 a "com/example/pathmeter/pathmeter/probe/Pacer" := E_a.wr W4
  replace Zs : n0 ≤ h4.size := by rw [W4.size]; exact Zs
  replace K : Keep h0 h4 [a] := K.wr W4 (Or.inl (List.mem_of_getElem? (i := 0) rfl))
  have NF := Fr.snoc X4 NF g_a
  refine own_by (B := T4.setTop (mkF m 17 #[.val (.ref a), .val (.long x1), .second] [])) (fun t k => st4 _ k) ?_
  exact own_ret X4 hx hlk hret (hb hby d3_17) (by show own_Q3 Z a x1 pn iv h0 n0 _ _ _; rw [e4]; exact ⟨rfl, NF, K, F_paceNanos_a, F_intervalNanos_a, E_a⟩) (by decide) (by decide)
theorem d5_0 : decode prog_53_method_2_code 0 = .ok (.lload_n 1, 1) := by decide +kernel
theorem d5_1 : decode prog_53_method_2_code 1 = .ok (.aload_n 0, 1) := by decide +kernel
theorem d5_2 : decode prog_53_method_2_code 2 = .ok (.getfield 17, 3) := by decide +kernel
theorem d5_5 : decode prog_53_method_2_code 5 = .ok (.ldc2_w 20, 3) := by decide +kernel
theorem d5_8 : decode prog_53_method_2_code 8 = .ok (.lsub, 1) := by decide +kernel
theorem d5_9 : decode prog_53_method_2_code 9 = .ok (.invokestatic 22, 3) := by decide +kernel
theorem d5_12 : decode prog_53_method_2_code 12 = .ok (.lreturn, 1) := by decide +kernel
theorem pn_5 : plainName "com/example/pathmeter/pathmeter/probe/Pacer" = true := by first | (simp [plainName, overriddenIn]; done) | decide +kernel
theorem ef_5 (m : MethodId) (a : Addr) (x1 : Int64) : entryFrame m #[(.ref a), (.long x1)] 3 = mkF m 0 #[.val (.ref a), .val (.long x1), .second] [] := by first | (simp [entryFrame, mkF, argsToLocals, Value.category]; done) | rfl
def f5_0 (pn : Int64) (x1 : Int64) : Int64 := (f4_0 x1 (pn - (2000000 : Int64)))
set_option maxRecDepth 65536 in
set_option maxHeartbeats 40000000 in
theorem bk5_0 (l : Launch) (Z : State) (a0 : Array Value) (hw : ∀ d ∈ tables_1, d.before a0 Z = true) (h0 : Heap) (a : Addr)  (pn : Int64) (F_paceNanos_a : Fld Z h0 a "com/example/pathmeter/pathmeter/probe/Pacer" "paceNanos" "J" (.long pn)) (x1 : Int64)  {p : Program} {e : Env} {s : State} {m : MethodId} {args : Array Value} {below : List Frame} {meth : Method} {c : Code} {T0 : State}
    (X0 : Stand p l e ({ frames := 1, cells := 0, slots := 0, locals := 15 } : Room) s m args below meth c T0 [] 0 0) (hx : p.tables.exec = Jvm.exec) (hby : c.code = prog_53_method_2_code) (hml : c.maxLocals = 3) (hret : meth.sig.returnType = (some .long)) (hlk : meth.locks = false) (hZ : Z.Warmed39 s.vm) (hown : s.vm.findClass "com/example/pathmeter/pathmeter/probe/Pacer" = some m.cls) (hnm : meth.name = "earliestNanos") (e0 : T0.heap = h0) :
    own_Go p e below s (own_Qp (some (.long (f5_0 pn x1))) h0) 0 0 (T0.setTop (mkF m 0 #[.val (.ref a), .val (.long x1), .second] [])) := by
  have hf : f5_0 pn x1 = (f4_0 x1 (pn - (2000000 : Int64))) := rfl
  refine own_by (B := T0.setTop (mkF m 1 #[.val (.ref a), .val (.long x1), .second] [(.long x1)])) (fun t k => XS.lloadN X0.here hx rfl (hb hby d5_0) rfl k) ?_
  refine own_by (B := T0.setTop (mkF m 2 #[.val (.ref a), .val (.long x1), .second] [(.ref a), (.long x1)])) (fun t k => XS.aloadN X0.here hx rfl (hb hby d5_1) rfl rfl k) ?_
  obtain ⟨T1, X1, e1, st1⟩ := getF X0 hx hZ hown (host := "") (Or.inl (hw _ (List.mem_of_getElem? (i := 13) rfl))) Via.refl e0 F_paceNanos_a (g := (mkF m 2 #[.val (.ref a), .val (.long x1), .second] [(.ref a), (.long x1)])) rfl rfl (hb hby d5_2)
  refine own_by (B := T1.setTop (mkF m 5 #[.val (.ref a), .val (.long x1), .second] [(.long pn), (.long x1)])) (fun t k => st1 _ k) ?_
  refine own_by (B := T1.setTop (mkF m 8 #[.val (.ref a), .val (.long x1), .second] [(.long (2000000 : Int64)), (.long pn), (.long x1)])) (fun t k => X1.ldc2Long hx hown (mvT hZ (hw _ (List.mem_of_getElem? (i := 32) rfl))) (g := (mkF m 5 #[.val (.ref a), .val (.long x1), .second] [(.long pn), (.long x1)])) rfl (hb hby d5_5) _ k) ?_
  refine own_by (B := T1.setTop (mkF m 9 #[.val (.ref a), .val (.long x1), .second] [(.long (pn - (2000000 : Int64))), (.long x1)])) (fun t k => XS.lsub X1.here hx rfl (hb hby d5_8) rfl k) ?_
  obtain ⟨v2, _, ⟨T2, L2, c2, n2⟩, -, X2, ⟨Lc2, hQ2, l2, y2, z2⟩, st2⟩ := Jvm.LawKit.callS X1 hx (y := (⟨"java/lang/Math", "max", "(JJ)J"⟩ : MethodName)) hown (mvT hZ (hw _ (List.mem_of_getElem? (i := 22) rfl))) (mvT hZ (hw _ (List.mem_of_getElem? (i := 23) rfl))) (mvT hZ (hw _ (List.mem_of_getElem? (i := 24) rfl))) (mvT hZ (hw _ (List.mem_of_getElem? (i := 25) rfl))) (by decide) (backOf (W := 0) (rm4 l Z a0 hw [] x1 (pn - (2000000 : Int64))  h0 ) hZ (hw _ (List.mem_of_getElem? (i := 25) rfl)) (hw _ (List.mem_of_getElem? (i := 24) rfl)) (by decide) (by decide)) (g := (mkF m 9 #[.val (.ref a), .val (.long x1), .second] [(.long (pn - (2000000 : Int64))), (.long x1)])) rfl (by rw [hml]; rfl) (argsL := [(.long x1), (.long (pn - (2000000 : Int64)))]) (rest := []) (lenOf pd_0 rfl) rfl (by show 2 * 0 + _ ≤ _; exact Nat.le_of_eq rfl) (hb hby d5_9) (fun _ _ => ⟨rfl, e1, (by decide : 0 + 0 ≤ _), (by decide : 0 + 0 ≤ _)⟩)
  dsimp only [Pt.U, Pt.locs, Pt.cells, Pt.slots] at X2 l2 y2 z2 st2 hQ2
  subst l2 y2 z2
  obtain ⟨rfl, rfl, e2⟩ := hQ2
  refine own_by (B := T2.setTop (mkF m 12 #[.val (.ref a), .val (.long x1), .second] [(.long (f4_0 x1 (pn - (2000000 : Int64))))])) (fun t k => st2 _ k) ?_
  exact own_retJ X2 hx hlk hret (hb hby d5_12) ⟨by rw [hf], rfl, e2⟩ (by decide) (by decide)
set_option maxRecDepth 65536 in
set_option maxHeartbeats 40000000 in
theorem rm5 (l : Launch) (Z : State) (a0 : Array Value) (hw : ∀ d ∈ tables_1, d.before a0 Z = true) (ws : List Jvm.Cond) (a : Addr) (x1 : Int64)  (pn : Int64) (h0 : Heap) (F_paceNanos_a : Fld Z h0 a "com/example/pathmeter/pathmeter/probe/Pacer" "paceNanos" "J" (.long pn))  :
    MetFree l (⟨"com/example/pathmeter/pathmeter/probe/Pacer", "earliestNanos", "(J)J"⟩ : MethodName) (head1 (Jvm.Cond.code (⟨"com/example/pathmeter/pathmeter/probe/Pacer", "earliestNanos", "(J)J"⟩ : MethodName) prog_53_method_2_code 3 (some .long) :: ws) ({ frames := 1, cells := 0, slots := 0, locals := 15 } : Room)) (fun aa U => aa = #[(.ref a), (.long x1)] ∧ Z.Warmed39 U.vm ∧ U.heap = h0) (fun _ _ _ _ _ => True) (fun _ U o U' => ∃ v L, o = .returned v ∧ own_Qp (some (.long (f5_0 pn x1))) h0 v U'.heap L ∧ FrameEnd U o U' L ({ frames := 1, cells := 0, slots := 0, locals := 15 } : Room).cells ({ frames := 1, cells := 0, slots := 0, locals := 15 } : Room).slots) := by
  refine own_met (plainFor_of_name pn_5) fun p e s m below meth c T0 X0 hx hby hml hret hlk hZ hown hnm e0 => ?_
  refine own_cast (ef_5 m a x1) ?_
  exact bk5_0 l Z a0 hw h0 a pn F_paceNanos_a x1  X0 hx hby hml hret hlk hZ hown hnm e0
theorem own_max (y : Int64) : f4_0 (-9223372036854775808 : Int64) y = y := by
  have hy := rng64 y
  have e : (-9223372036854775808 : Int64).toInt = -9223372036854775808 := by decide
  have hf : f4_0 (-9223372036854775808 : Int64) y = (if (-9223372036854775808 : Int64) < y then y else (-9223372036854775808 : Int64)) := rfl
  rw [hf]
  by_cases h : (-9223372036854775808 : Int64) < y
  · rw [if_pos h]
  · rw [if_neg h]
    rw [Int64.lt_iff_toInt_lt] at h
    exact Int64.toInt_inj.mp (by omega)
theorem own_back (pn : Int64) : (f5_0 pn (-9223372036854775808 : Int64)) + (2000000 : Int64) = pn := by
  have hf : f5_0 pn (-9223372036854775808 : Int64) = f4_0 (-9223372036854775808 : Int64) (pn - (2000000 : Int64)) := rfl
  rw [hf, own_max]
  exact Int64.sub_add_cancel pn 2000000
theorem own_mx (x y : Int64) : f4_0 x y = (if x < y then y else x) := rfl
theorem pn_0 : plainName "com/example/pathmeter/pathmeter/probe/PacerSentPinLaw" = true := by first | (simp [plainName, overriddenIn]; done) | decide +kernel
theorem ef_0 (m : MethodId) (j0 : Int64) (j1 : Int64) (j2 : Int64) (j3 : Int64) : entryFrame m #[(.long j0), (.long j1), (.long j2), (.long j3)] maxLocals = mkF m 0 #[.val (.long j0), .second, .val (.long j1), .second, .val (.long j2), .second, .val (.long j3), .second, .unset, .unset, .unset, .unset, .unset, .unset, .unset, .unset, .unset, .unset, .unset] [] := by first | (simp [entryFrame, mkF, argsToLocals, Value.category, maxLocals]; done) | rfl
def own_Q0 (n0 : Nat) (v : Option Value) (h : Heap) (L : List Loc) : Prop := v = some (.int 1) ∧ Fr n0 L
set_option maxRecDepth 65536 in
set_option maxHeartbeats 40000000 in
theorem rm0 (l : Launch) (Z : State) (a0 : Array Value) (hw : ∀ d ∈ tables_1, d.before a0 Z = true) (ws : List Jvm.Cond) (j0 : Int64) (j1 : Int64) (j2 : Int64) (j3 : Int64)  (h0 : Heap) (n0 : Nat) (Z0 : n0 ≤ h0.size)  :
    MetFree l x (head1 (Jvm.Cond.code x code maxLocals ret :: ws) room_1) (fun aa U => aa = #[(.long j0), (.long j1), (.long j2), (.long j3)] ∧ Z.Warmed39 U.vm ∧ U.heap = h0) (fun _ _ _ _ _ => True) (fun _ U o U' => ∃ v L, o = .returned v ∧ own_Q0 n0 v U'.heap L ∧ FrameEnd U o U' L room_1.cells room_1.slots) := by
  refine own_met (plainFor_of_name pn_0) fun p e s m below meth c T0 X0 hx hby hml hret hlk hZ hown hnm e0 => ?_
  refine own_cast (ef_0 m j0 j1 j2 j3) ?_
  have NF := Fr.nil n0
  have Zs := Z0
  obtain ⟨T1, h1, X1, e1, E1, A1, D1, -, st1⟩ := newO X0 hx hZ hown (hw _ (List.mem_of_getElem? (i := 0) rfl)) (hw _ (List.mem_of_getElem? (i := 1) rfl)) (hw _ (List.mem_of_getElem? (i := 2) rfl)) e0 (g := (mkF m 0 #[.val (.long j0), .second, .val (.long j1), .second, .val (.long j2), .second, .val (.long j3), .second, .unset, .unset, .unset, .unset, .unset, .unset, .unset, .unset, .unset, .unset, .unset] [])) rfl (hb hby at_0) (by decide) (by decide)
  obtain ⟨b1, g1⟩ : ∃ z, z = h0.size := ⟨_, rfl⟩
  rw [← g1] at A1 D1 st1
  have g_b1 : n0 ≤ b1 := Nat.le_trans Zs (Nat.le_of_eq g1.symm)
  replace Zs : n0 ≤ h1.size := Nat.le_trans Zs E1.1
  have E_b1 : Exa Z h1 b1 "com/example/pathmeter/pathmeter/probe/Pacer" := A1
  have F_intervalNanos_b1 : Fld Z h1 b1 "com/example/pathmeter/pathmeter/probe/Pacer" "intervalNanos" "J" (.long (0 : Int64)) := D1 (Or.inr (hw _ (List.mem_of_getElem? (i := 12) rfl))) (ty := .long) (by decide)
  have F_paceNanos_b1 : Fld Z h1 b1 "com/example/pathmeter/pathmeter/probe/Pacer" "paceNanos" "J" (.long (0 : Int64)) := D1 (Or.inl (hw _ (List.mem_of_getElem? (i := 14) rfl))) (ty := .long) (by decide)
  refine own_by (B := T1.setTop (mkF m 3 #[.val (.long j0), .second, .val (.long j1), .second, .val (.long j2), .second, .val (.long j3), .second, .unset, .unset, .unset, .unset, .unset, .unset, .unset, .unset, .unset, .unset, .unset] [(.ref b1)])) (fun t k => st1 _ k) ?_
  refine own_by (B := T1.setTop (mkF m 4 #[.val (.long j0), .second, .val (.long j1), .second, .val (.long j2), .second, .val (.long j3), .second, .unset, .unset, .unset, .unset, .unset, .unset, .unset, .unset, .unset, .unset, .unset] [(.ref b1), (.ref b1)])) (fun t k => XS.dup X1.here hx rfl (hb hby at_3) rfl rfl k) ?_
  refine own_by (B := T1.setTop (mkF m 5 #[.val (.long j0), .second, .val (.long j1), .second, .val (.long j2), .second, .val (.long j3), .second, .unset, .unset, .unset, .unset, .unset, .unset, .unset, .unset, .unset, .unset, .unset] [(.long j0), (.ref b1), (.ref b1)])) (fun t k => XS.lloadN X1.here hx rfl (hb hby at_4) rfl k) ?_
  refine own_by (B := T1.setTop (mkF m 6 #[.val (.long j0), .second, .val (.long j1), .second, .val (.long j2), .second, .val (.long j3), .second, .unset, .unset, .unset, .unset, .unset, .unset, .unset, .unset, .unset, .unset, .unset] [(.long j1), (.long j0), (.ref b1), (.ref b1)])) (fun t k => XS.lloadN X1.here hx rfl (hb hby at_5) rfl k) ?_
  obtain ⟨v2, _, ⟨T2, L2, c2, n2⟩, -, X2, ⟨Lc2, hQ2, l2, y2, z2⟩, st2⟩ := X1.specialBack hx (y := (⟨"com/example/pathmeter/pathmeter/probe/Pacer", "<init>", "(JJ)V"⟩ : MethodName)) rfl hown (mvT hZ (hw _ (List.mem_of_getElem? (i := 3) rfl))) (mvT hZ (hw _ (List.mem_of_getElem? (i := 4) rfl))) (mvT hZ (hw _ (List.mem_of_getElem? (i := 5) rfl))) (by decide) (backOf (W := 1) (rm1 l Z a0 hw [] b1 j0 j1  h1 n0 Zs F_intervalNanos_b1 F_paceNanos_b1 E_b1 g_b1  ) hZ (hw _ (List.mem_of_getElem? (i := 5) rfl)) (hw _ (List.mem_of_getElem? (i := 2) rfl)) (by decide) (by decide)) (g := (mkF m 6 #[.val (.long j0), .second, .val (.long j1), .second, .val (.long j2), .second, .val (.long j3), .second, .unset, .unset, .unset, .unset, .unset, .unset, .unset, .unset, .unset, .unset, .unset] [(.long j1), (.long j0), (.ref b1), (.ref b1)])) rfl (by rw [hml]; rfl) (Steps.refl _) (a := b1) (argsL := [(.long j0), (.long j1)]) (rest := [(.ref b1)]) (lenOf pd_1 rfl) rfl (by show 2 * 0 + _ ≤ _; exact Nat.le_of_eq rfl) (hb hby at_6) (fun _ _ => ⟨rfl, e1, (by decide : 1 + 0 ≤ _), (by decide : 2 + 0 ≤ _)⟩)
  dsimp only [Pt.U, Pt.locs, Pt.cells, Pt.slots] at X2 l2 y2 z2 st2 hQ2
  subst l2 y2 z2
  obtain ⟨rfl, Nq2, Kq2, o0_2, o1_2, o2_2⟩ := hQ2
  have NF := Fr.app NF Nq2
  replace E_b1 : Exa Z T2.heap b1 "com/example/pathmeter/pathmeter/probe/Pacer" := E_b1.keep Kq2
  clear F_intervalNanos_b1
  clear F_paceNanos_b1
  replace Zs : n0 ≤ T2.heap.size := Nat.le_trans Zs Kq2.1
  have F_intervalNanos_b1 : Fld Z T2.heap b1 "com/example/pathmeter/pathmeter/probe/Pacer" "intervalNanos" "J" (.long ((j1 * (16 : Int64)) / (17 : Int64))) := o0_2
  have F_paceNanos_b1 : Fld Z T2.heap b1 "com/example/pathmeter/pathmeter/probe/Pacer" "paceNanos" "J" (.long j0) := o1_2
  have E_b1 : Exa Z T2.heap b1 "com/example/pathmeter/pathmeter/probe/Pacer" := o2_2
  refine own_by (B := T2.setTop (mkF m 9 #[.val (.long j0), .second, .val (.long j1), .second, .val (.long j2), .second, .val (.long j3), .second, .unset, .unset, .unset, .unset, .unset, .unset, .unset, .unset, .unset, .unset, .unset] [(.ref b1)])) (fun t k => st2.trans k) ?_
  refine own_by (B := T2.setTop (mkF m 11 #[.val (.long j0), .second, .val (.long j1), .second, .val (.long j2), .second, .val (.long j3), .second, .val (.ref b1), .unset, .unset, .unset, .unset, .unset, .unset, .unset, .unset, .unset, .unset] [])) (fun t k => XS.astore X2.here hx rfl (hb hby at_9) rfl rfl (l' := #[.val (.long j0), .second, .val (.long j1), .second, .val (.long j2), .second, .val (.long j3), .second, .val (.ref b1), .unset, .unset, .unset, .unset, .unset, .unset, .unset, .unset, .unset, .unset]) rfl k) ?_
  refine own_by (B := T2.setTop (mkF m 12 #[.val (.long j0), .second, .val (.long j1), .second, .val (.long j2), .second, .val (.long j3), .second, .val (.ref b1), .unset, .unset, .unset, .unset, .unset, .unset, .unset, .unset, .unset, .unset] [(.long j1)])) (fun t k => XS.lloadN X2.here hx rfl (hb hby at_11) rfl k) ?_
  refine own_by (B := T2.setTop (mkF m 15 #[.val (.long j0), .second, .val (.long j1), .second, .val (.long j2), .second, .val (.long j3), .second, .val (.ref b1), .unset, .unset, .unset, .unset, .unset, .unset, .unset, .unset, .unset, .unset] [(.long (16 : Int64)), (.long j1)])) (fun t k => X2.ldc2Long hx hown (mvT hZ (hw _ (List.mem_of_getElem? (i := 15) rfl))) (g := (mkF m 12 #[.val (.long j0), .second, .val (.long j1), .second, .val (.long j2), .second, .val (.long j3), .second, .val (.ref b1), .unset, .unset, .unset, .unset, .unset, .unset, .unset, .unset, .unset, .unset] [(.long j1)])) rfl (hb hby at_12) _ k) ?_
  refine own_by (B := T2.setTop (mkF m 16 #[.val (.long j0), .second, .val (.long j1), .second, .val (.long j2), .second, .val (.long j3), .second, .val (.ref b1), .unset, .unset, .unset, .unset, .unset, .unset, .unset, .unset, .unset, .unset] [(.long (j1 * (16 : Int64)))])) (fun t k => XS.lmul X2.here hx rfl (hb hby at_15) rfl k) ?_
  refine own_by (B := T2.setTop (mkF m 19 #[.val (.long j0), .second, .val (.long j1), .second, .val (.long j2), .second, .val (.long j3), .second, .val (.ref b1), .unset, .unset, .unset, .unset, .unset, .unset, .unset, .unset, .unset, .unset] [(.long (17 : Int64)), (.long (j1 * (16 : Int64)))])) (fun t k => X2.ldc2Long hx hown (mvT hZ (hw _ (List.mem_of_getElem? (i := 16) rfl))) (g := (mkF m 16 #[.val (.long j0), .second, .val (.long j1), .second, .val (.long j2), .second, .val (.long j3), .second, .val (.ref b1), .unset, .unset, .unset, .unset, .unset, .unset, .unset, .unset, .unset, .unset] [(.long (j1 * (16 : Int64)))])) rfl (hb hby at_16) _ k) ?_
  refine own_by (B := T2.setTop (mkF m 20 #[.val (.long j0), .second, .val (.long j1), .second, .val (.long j2), .second, .val (.long j3), .second, .val (.ref b1), .unset, .unset, .unset, .unset, .unset, .unset, .unset, .unset, .unset, .unset] [(.long ((j1 * (16 : Int64)) / (17 : Int64)))])) (fun t k => XS.ldiv X2.here hx rfl (hb hby at_19) rfl (by decide) k) ?_
  refine own_by (B := T2.setTop (mkF m 22 #[.val (.long j0), .second, .val (.long j1), .second, .val (.long j2), .second, .val (.long j3), .second, .val (.ref b1), .val (.long ((j1 * (16 : Int64)) / (17 : Int64))), .second, .unset, .unset, .unset, .unset, .unset, .unset, .unset, .unset] [])) (fun t k => XS.lstore X2.here hx rfl (hb hby at_20) rfl (l' := #[.val (.long j0), .second, .val (.long j1), .second, .val (.long j2), .second, .val (.long j3), .second, .val (.ref b1), .val (.long ((j1 * (16 : Int64)) / (17 : Int64))), .second, .unset, .unset, .unset, .unset, .unset, .unset, .unset, .unset]) rfl k) ?_
  refine own_by (B := T2.setTop (mkF m 24 #[.val (.long j0), .second, .val (.long j1), .second, .val (.long j2), .second, .val (.long j3), .second, .val (.ref b1), .val (.long ((j1 * (16 : Int64)) / (17 : Int64))), .second, .unset, .unset, .unset, .unset, .unset, .unset, .unset, .unset] [(.ref b1)])) (fun t k => XS.aload X2.here hx rfl (hb hby at_22) rfl rfl k) ?_
  refine own_by (B := T2.setTop (mkF m 26 #[.val (.long j0), .second, .val (.long j1), .second, .val (.long j2), .second, .val (.long j3), .second, .val (.ref b1), .val (.long ((j1 * (16 : Int64)) / (17 : Int64))), .second, .unset, .unset, .unset, .unset, .unset, .unset, .unset, .unset] [(.long j2), (.ref b1)])) (fun t k => XS.lload X2.here hx rfl (hb hby at_24) rfl k) ?_
  obtain ⟨cq3, kq3, q3a, q3b, q3c⟩ := isOf hZ rfl E_b1
  obtain ⟨v3, _, ⟨T3, L3, c3, n3⟩, -, X3, ⟨Lc3, hQ3, l3, y3, z3⟩, st3⟩ := X2.virtualBack hx (y := (⟨"com/example/pathmeter/pathmeter/probe/Pacer", "sent", "(J)V"⟩ : MethodName)) (z := (⟨"com/example/pathmeter/pathmeter/probe/Pacer", "sent", "(J)V"⟩ : MethodName)) hown (mvT hZ (hw _ (List.mem_of_getElem? (i := 17) rfl))) (mvT hZ (hw _ (List.mem_of_getElem? (i := 18) rfl))) (notFace_of_selects (args := #[]) (mvT hZ (hw _ (List.mem_of_getElem? (i := 20) rfl)))) (mvT hZ (hw _ (List.mem_of_getElem? (i := 20) rfl))) (mvT hZ (hw _ (List.mem_of_getElem? (i := 19) rfl))) (by decide) (backOf (W := 0) (rm3 l Z a0 hw [] b1 j2 j0 ((j1 * (16 : Int64)) / (17 : Int64)) T2.heap n0 Zs F_paceNanos_b1 F_intervalNanos_b1 E_b1 g_b1  ) hZ (hw _ (List.mem_of_getElem? (i := 21) rfl)) (hw _ (List.mem_of_getElem? (i := 2) rfl)) (by decide) (by decide)) q3a q3c (g := (mkF m 26 #[.val (.long j0), .second, .val (.long j1), .second, .val (.long j2), .second, .val (.long j3), .second, .val (.ref b1), .val (.long ((j1 * (16 : Int64)) / (17 : Int64))), .second, .unset, .unset, .unset, .unset, .unset, .unset, .unset, .unset] [(.long j2), (.ref b1)])) rfl (by rw [hml]; rfl) (Steps.refl _) (argsL := [(.long j2)]) (rest := []) (lenOf pd_2 rfl) rfl (by show 2 * 0 + _ ≤ _; exact Nat.le_of_eq rfl) (hb hby at_26) (fun _ _ => ⟨rfl, rfl, (by decide : 1 + 0 ≤ _), (by decide : 2 + 0 ≤ _)⟩)
  dsimp only [Pt.U, Pt.locs, Pt.cells, Pt.slots] at X3 l3 y3 z3 st3 hQ3
  subst l3 y3 z3
  obtain ⟨rfl, Nq3, Kq3, o0_3, o1_3, o2_3⟩ := hQ3
  have NF := Fr.app NF Nq3
  replace E_b1 : Exa Z T3.heap b1 "com/example/pathmeter/pathmeter/probe/Pacer" := E_b1.keep Kq3
  clear F_intervalNanos_b1
  clear F_paceNanos_b1
  replace Zs : n0 ≤ T3.heap.size := Nat.le_trans Zs Kq3.1
  have F_paceNanos_b1 : Fld Z T3.heap b1 "com/example/pathmeter/pathmeter/probe/Pacer" "paceNanos" "J" (.long ((f4_0  j0 j2) + ((j1 * (16 : Int64)) / (17 : Int64)))) := o0_3
  have F_intervalNanos_b1 : Fld Z T3.heap b1 "com/example/pathmeter/pathmeter/probe/Pacer" "intervalNanos" "J" (.long ((j1 * (16 : Int64)) / (17 : Int64))) := o1_3
  have E_b1 : Exa Z T3.heap b1 "com/example/pathmeter/pathmeter/probe/Pacer" := o2_3
  refine own_by (B := T3.setTop (mkF m 29 #[.val (.long j0), .second, .val (.long j1), .second, .val (.long j2), .second, .val (.long j3), .second, .val (.ref b1), .val (.long ((j1 * (16 : Int64)) / (17 : Int64))), .second, .unset, .unset, .unset, .unset, .unset, .unset, .unset, .unset] [])) (fun t k => st3.trans k) ?_
  refine own_by (B := T3.setTop (mkF m 31 #[.val (.long j0), .second, .val (.long j1), .second, .val (.long j2), .second, .val (.long j3), .second, .val (.ref b1), .val (.long ((j1 * (16 : Int64)) / (17 : Int64))), .second, .unset, .unset, .unset, .unset, .unset, .unset, .unset, .unset] [(.ref b1)])) (fun t k => XS.aload X3.here hx rfl (hb hby at_29) rfl rfl k) ?_
  refine own_by (B := T3.setTop (mkF m 34 #[.val (.long j0), .second, .val (.long j1), .second, .val (.long j2), .second, .val (.long j3), .second, .val (.ref b1), .val (.long ((j1 * (16 : Int64)) / (17 : Int64))), .second, .unset, .unset, .unset, .unset, .unset, .unset, .unset, .unset] [(.long (-9223372036854775808 : Int64)), (.ref b1)])) (fun t k => X3.ldc2Long hx hown (mvT hZ (hw _ (List.mem_of_getElem? (i := 26) rfl))) (g := (mkF m 31 #[.val (.long j0), .second, .val (.long j1), .second, .val (.long j2), .second, .val (.long j3), .second, .val (.ref b1), .val (.long ((j1 * (16 : Int64)) / (17 : Int64))), .second, .unset, .unset, .unset, .unset, .unset, .unset, .unset, .unset] [(.ref b1)])) rfl (hb hby at_31) _ k) ?_
  obtain ⟨cq4, kq4, q4a, q4b, q4c⟩ := isOf hZ rfl E_b1
  obtain ⟨v4, _, ⟨T4, L4, c4, n4⟩, -, X4, ⟨Lc4, hQ4, l4, y4, z4⟩, st4⟩ := X3.virtualBack hx (y := (⟨"com/example/pathmeter/pathmeter/probe/Pacer", "earliestNanos", "(J)J"⟩ : MethodName)) (z := (⟨"com/example/pathmeter/pathmeter/probe/Pacer", "earliestNanos", "(J)J"⟩ : MethodName)) hown (mvT hZ (hw _ (List.mem_of_getElem? (i := 27) rfl))) (mvT hZ (hw _ (List.mem_of_getElem? (i := 28) rfl))) (notFace_of_selects (args := #[]) (mvT hZ (hw _ (List.mem_of_getElem? (i := 30) rfl)))) (mvT hZ (hw _ (List.mem_of_getElem? (i := 30) rfl))) (mvT hZ (hw _ (List.mem_of_getElem? (i := 29) rfl))) (by decide) (backOf (W := 0) (rm5 l Z a0 hw [] b1 (-9223372036854775808 : Int64) ((f4_0  j0 j2) + ((j1 * (16 : Int64)) / (17 : Int64))) T3.heap F_paceNanos_b1) hZ (hw _ (List.mem_of_getElem? (i := 31) rfl)) (hw _ (List.mem_of_getElem? (i := 2) rfl)) (by decide) (by decide)) q4a q4c (g := (mkF m 34 #[.val (.long j0), .second, .val (.long j1), .second, .val (.long j2), .second, .val (.long j3), .second, .val (.ref b1), .val (.long ((j1 * (16 : Int64)) / (17 : Int64))), .second, .unset, .unset, .unset, .unset, .unset, .unset, .unset, .unset] [(.long (-9223372036854775808 : Int64)), (.ref b1)])) rfl (by rw [hml]; rfl) (Steps.refl _) (argsL := [(.long (-9223372036854775808 : Int64))]) (rest := []) (lenOf pd_3 rfl) rfl (by show 2 * 0 + _ ≤ _; exact Nat.le_of_eq rfl) (hb hby at_34) (fun _ _ => ⟨rfl, rfl, (by decide : 1 + 0 ≤ _), (by decide : 2 + 0 ≤ _)⟩)
  dsimp only [Pt.U, Pt.locs, Pt.cells, Pt.slots] at X4 l4 y4 z4 st4 hQ4
  subst l4 y4 z4
  obtain ⟨rfl, rfl, e4⟩ := hQ4
  have NF := Fr.app NF (Fr.nil n0)
  refine own_by (B := T4.setTop (mkF m 37 #[.val (.long j0), .second, .val (.long j1), .second, .val (.long j2), .second, .val (.long j3), .second, .val (.ref b1), .val (.long ((j1 * (16 : Int64)) / (17 : Int64))), .second, .unset, .unset, .unset, .unset, .unset, .unset, .unset, .unset] [(.long (f5_0 ((f4_0  j0 j2) + ((j1 * (16 : Int64)) / (17 : Int64))) (-9223372036854775808 : Int64)))])) (fun t k => st4.trans k) ?_
  refine own_by (B := T4.setTop (mkF m 40 #[.val (.long j0), .second, .val (.long j1), .second, .val (.long j2), .second, .val (.long j3), .second, .val (.ref b1), .val (.long ((j1 * (16 : Int64)) / (17 : Int64))), .second, .unset, .unset, .unset, .unset, .unset, .unset, .unset, .unset] [(.long (2000000 : Int64)), (.long (f5_0 ((f4_0  j0 j2) + ((j1 * (16 : Int64)) / (17 : Int64))) (-9223372036854775808 : Int64)))])) (fun t k => X4.ldc2Long hx hown (mvT hZ (hw _ (List.mem_of_getElem? (i := 33) rfl))) (g := (mkF m 37 #[.val (.long j0), .second, .val (.long j1), .second, .val (.long j2), .second, .val (.long j3), .second, .val (.ref b1), .val (.long ((j1 * (16 : Int64)) / (17 : Int64))), .second, .unset, .unset, .unset, .unset, .unset, .unset, .unset, .unset] [(.long (f5_0 ((f4_0  j0 j2) + ((j1 * (16 : Int64)) / (17 : Int64))) (-9223372036854775808 : Int64)))])) rfl (hb hby at_37) _ k) ?_
  refine own_by (B := T4.setTop (mkF m 41 #[.val (.long j0), .second, .val (.long j1), .second, .val (.long j2), .second, .val (.long j3), .second, .val (.ref b1), .val (.long ((j1 * (16 : Int64)) / (17 : Int64))), .second, .unset, .unset, .unset, .unset, .unset, .unset, .unset, .unset] [(.long ((f5_0 ((f4_0  j0 j2) + ((j1 * (16 : Int64)) / (17 : Int64))) (-9223372036854775808 : Int64)) + (2000000 : Int64)))])) (fun t k => XS.ladd X4.here hx rfl (hb hby at_40) rfl k) ?_
  refine own_by (B := T4.setTop (mkF m 43 #[.val (.long j0), .second, .val (.long j1), .second, .val (.long j2), .second, .val (.long j3), .second, .val (.ref b1), .val (.long ((j1 * (16 : Int64)) / (17 : Int64))), .second, .val (.long ((f5_0 ((f4_0  j0 j2) + ((j1 * (16 : Int64)) / (17 : Int64))) (-9223372036854775808 : Int64)) + (2000000 : Int64))), .second, .unset, .unset, .unset, .unset, .unset, .unset] [])) (fun t k => XS.lstore X4.here hx rfl (hb hby at_41) rfl (l' := #[.val (.long j0), .second, .val (.long j1), .second, .val (.long j2), .second, .val (.long j3), .second, .val (.ref b1), .val (.long ((j1 * (16 : Int64)) / (17 : Int64))), .second, .val (.long ((f5_0 ((f4_0  j0 j2) + ((j1 * (16 : Int64)) / (17 : Int64))) (-9223372036854775808 : Int64)) + (2000000 : Int64))), .second, .unset, .unset, .unset, .unset, .unset, .unset]) rfl k) ?_
  refine own_by (B := T4.setTop (mkF m 45 #[.val (.long j0), .second, .val (.long j1), .second, .val (.long j2), .second, .val (.long j3), .second, .val (.ref b1), .val (.long ((j1 * (16 : Int64)) / (17 : Int64))), .second, .val (.long ((f5_0 ((f4_0  j0 j2) + ((j1 * (16 : Int64)) / (17 : Int64))) (-9223372036854775808 : Int64)) + (2000000 : Int64))), .second, .unset, .unset, .unset, .unset, .unset, .unset] [(.ref b1)])) (fun t k => XS.aload X4.here hx rfl (hb hby at_43) rfl rfl k) ?_
  refine own_by (B := T4.setTop (mkF m 47 #[.val (.long j0), .second, .val (.long j1), .second, .val (.long j2), .second, .val (.long j3), .second, .val (.ref b1), .val (.long ((j1 * (16 : Int64)) / (17 : Int64))), .second, .val (.long ((f5_0 ((f4_0  j0 j2) + ((j1 * (16 : Int64)) / (17 : Int64))) (-9223372036854775808 : Int64)) + (2000000 : Int64))), .second, .unset, .unset, .unset, .unset, .unset, .unset] [(.long j3), (.ref b1)])) (fun t k => XS.lload X4.here hx rfl (hb hby at_45) rfl k) ?_
  obtain ⟨cq5, kq5, q5a, q5b, q5c⟩ := isOf hZ e4 E_b1
  obtain ⟨v5, _, ⟨T5, L5, c5, n5⟩, -, X5, ⟨Lc5, hQ5, l5, y5, z5⟩, st5⟩ := X4.virtualBack hx (y := (⟨"com/example/pathmeter/pathmeter/probe/Pacer", "sent", "(J)V"⟩ : MethodName)) (z := (⟨"com/example/pathmeter/pathmeter/probe/Pacer", "sent", "(J)V"⟩ : MethodName)) hown (mvT hZ (hw _ (List.mem_of_getElem? (i := 17) rfl))) (mvT hZ (hw _ (List.mem_of_getElem? (i := 18) rfl))) (notFace_of_selects (args := #[]) (mvT hZ (hw _ (List.mem_of_getElem? (i := 20) rfl)))) (mvT hZ (hw _ (List.mem_of_getElem? (i := 20) rfl))) (mvT hZ (hw _ (List.mem_of_getElem? (i := 19) rfl))) (by decide) (backOf (W := 0) (rm3 l Z a0 hw [] b1 j3 ((f4_0  j0 j2) + ((j1 * (16 : Int64)) / (17 : Int64))) ((j1 * (16 : Int64)) / (17 : Int64)) T3.heap n0 Zs F_paceNanos_b1 F_intervalNanos_b1 E_b1 g_b1  ) hZ (hw _ (List.mem_of_getElem? (i := 21) rfl)) (hw _ (List.mem_of_getElem? (i := 2) rfl)) (by decide) (by decide)) q5a q5c (g := (mkF m 47 #[.val (.long j0), .second, .val (.long j1), .second, .val (.long j2), .second, .val (.long j3), .second, .val (.ref b1), .val (.long ((j1 * (16 : Int64)) / (17 : Int64))), .second, .val (.long ((f5_0 ((f4_0  j0 j2) + ((j1 * (16 : Int64)) / (17 : Int64))) (-9223372036854775808 : Int64)) + (2000000 : Int64))), .second, .unset, .unset, .unset, .unset, .unset, .unset] [(.long j3), (.ref b1)])) rfl (by rw [hml]; rfl) (Steps.refl _) (argsL := [(.long j3)]) (rest := []) (lenOf pd_2 rfl) rfl (by show 2 * 0 + _ ≤ _; exact Nat.le_of_eq rfl) (hb hby at_47) (fun _ _ => ⟨rfl, e4, (by decide : 1 + 0 ≤ _), (by decide : 2 + 0 ≤ _)⟩)
  dsimp only [Pt.U, Pt.locs, Pt.cells, Pt.slots] at X5 l5 y5 z5 st5 hQ5
  subst l5 y5 z5
  obtain ⟨rfl, Nq5, Kq5, o0_5, o1_5, o2_5⟩ := hQ5
  have NF := Fr.app NF Nq5
  replace E_b1 : Exa Z T5.heap b1 "com/example/pathmeter/pathmeter/probe/Pacer" := E_b1.keep Kq5
  clear F_paceNanos_b1
  clear F_intervalNanos_b1
  replace Zs : n0 ≤ T5.heap.size := Nat.le_trans Zs Kq5.1
  have F_paceNanos_b1 : Fld Z T5.heap b1 "com/example/pathmeter/pathmeter/probe/Pacer" "paceNanos" "J" (.long ((f4_0  ((f4_0  j0 j2) + ((j1 * (16 : Int64)) / (17 : Int64))) j3) + ((j1 * (16 : Int64)) / (17 : Int64)))) := o0_5
  have F_intervalNanos_b1 : Fld Z T5.heap b1 "com/example/pathmeter/pathmeter/probe/Pacer" "intervalNanos" "J" (.long ((j1 * (16 : Int64)) / (17 : Int64))) := o1_5
  have E_b1 : Exa Z T5.heap b1 "com/example/pathmeter/pathmeter/probe/Pacer" := o2_5
  refine own_by (B := T5.setTop (mkF m 50 #[.val (.long j0), .second, .val (.long j1), .second, .val (.long j2), .second, .val (.long j3), .second, .val (.ref b1), .val (.long ((j1 * (16 : Int64)) / (17 : Int64))), .second, .val (.long ((f5_0 ((f4_0  j0 j2) + ((j1 * (16 : Int64)) / (17 : Int64))) (-9223372036854775808 : Int64)) + (2000000 : Int64))), .second, .unset, .unset, .unset, .unset, .unset, .unset] [])) (fun t k => st5.trans k) ?_
  refine own_by (B := T5.setTop (mkF m 52 #[.val (.long j0), .second, .val (.long j1), .second, .val (.long j2), .second, .val (.long j3), .second, .val (.ref b1), .val (.long ((j1 * (16 : Int64)) / (17 : Int64))), .second, .val (.long ((f5_0 ((f4_0  j0 j2) + ((j1 * (16 : Int64)) / (17 : Int64))) (-9223372036854775808 : Int64)) + (2000000 : Int64))), .second, .unset, .unset, .unset, .unset, .unset, .unset] [(.ref b1)])) (fun t k => XS.aload X5.here hx rfl (hb hby at_50) rfl rfl k) ?_
  refine own_by (B := T5.setTop (mkF m 55 #[.val (.long j0), .second, .val (.long j1), .second, .val (.long j2), .second, .val (.long j3), .second, .val (.ref b1), .val (.long ((j1 * (16 : Int64)) / (17 : Int64))), .second, .val (.long ((f5_0 ((f4_0  j0 j2) + ((j1 * (16 : Int64)) / (17 : Int64))) (-9223372036854775808 : Int64)) + (2000000 : Int64))), .second, .unset, .unset, .unset, .unset, .unset, .unset] [(.long (-9223372036854775808 : Int64)), (.ref b1)])) (fun t k => X5.ldc2Long hx hown (mvT hZ (hw _ (List.mem_of_getElem? (i := 26) rfl))) (g := (mkF m 52 #[.val (.long j0), .second, .val (.long j1), .second, .val (.long j2), .second, .val (.long j3), .second, .val (.ref b1), .val (.long ((j1 * (16 : Int64)) / (17 : Int64))), .second, .val (.long ((f5_0 ((f4_0  j0 j2) + ((j1 * (16 : Int64)) / (17 : Int64))) (-9223372036854775808 : Int64)) + (2000000 : Int64))), .second, .unset, .unset, .unset, .unset, .unset, .unset] [(.ref b1)])) rfl (hb hby at_52) _ k) ?_
  obtain ⟨cq6, kq6, q6a, q6b, q6c⟩ := isOf hZ rfl E_b1
  obtain ⟨v6, _, ⟨T6, L6, c6, n6⟩, -, X6, ⟨Lc6, hQ6, l6, y6, z6⟩, st6⟩ := X5.virtualBack hx (y := (⟨"com/example/pathmeter/pathmeter/probe/Pacer", "earliestNanos", "(J)J"⟩ : MethodName)) (z := (⟨"com/example/pathmeter/pathmeter/probe/Pacer", "earliestNanos", "(J)J"⟩ : MethodName)) hown (mvT hZ (hw _ (List.mem_of_getElem? (i := 27) rfl))) (mvT hZ (hw _ (List.mem_of_getElem? (i := 28) rfl))) (notFace_of_selects (args := #[]) (mvT hZ (hw _ (List.mem_of_getElem? (i := 30) rfl)))) (mvT hZ (hw _ (List.mem_of_getElem? (i := 30) rfl))) (mvT hZ (hw _ (List.mem_of_getElem? (i := 29) rfl))) (by decide) (backOf (W := 0) (rm5 l Z a0 hw [] b1 (-9223372036854775808 : Int64) ((f4_0  ((f4_0  j0 j2) + ((j1 * (16 : Int64)) / (17 : Int64))) j3) + ((j1 * (16 : Int64)) / (17 : Int64))) T5.heap F_paceNanos_b1) hZ (hw _ (List.mem_of_getElem? (i := 31) rfl)) (hw _ (List.mem_of_getElem? (i := 2) rfl)) (by decide) (by decide)) q6a q6c (g := (mkF m 55 #[.val (.long j0), .second, .val (.long j1), .second, .val (.long j2), .second, .val (.long j3), .second, .val (.ref b1), .val (.long ((j1 * (16 : Int64)) / (17 : Int64))), .second, .val (.long ((f5_0 ((f4_0  j0 j2) + ((j1 * (16 : Int64)) / (17 : Int64))) (-9223372036854775808 : Int64)) + (2000000 : Int64))), .second, .unset, .unset, .unset, .unset, .unset, .unset] [(.long (-9223372036854775808 : Int64)), (.ref b1)])) rfl (by rw [hml]; rfl) (Steps.refl _) (argsL := [(.long (-9223372036854775808 : Int64))]) (rest := []) (lenOf pd_3 rfl) rfl (by show 2 * 0 + _ ≤ _; exact Nat.le_of_eq rfl) (hb hby at_55) (fun _ _ => ⟨rfl, rfl, (by decide : 1 + 0 ≤ _), (by decide : 2 + 0 ≤ _)⟩)
  dsimp only [Pt.U, Pt.locs, Pt.cells, Pt.slots] at X6 l6 y6 z6 st6 hQ6
  subst l6 y6 z6
  obtain ⟨rfl, rfl, e6⟩ := hQ6
  have NF := Fr.app NF (Fr.nil n0)
  refine own_by (B := T6.setTop (mkF m 58 #[.val (.long j0), .second, .val (.long j1), .second, .val (.long j2), .second, .val (.long j3), .second, .val (.ref b1), .val (.long ((j1 * (16 : Int64)) / (17 : Int64))), .second, .val (.long ((f5_0 ((f4_0  j0 j2) + ((j1 * (16 : Int64)) / (17 : Int64))) (-9223372036854775808 : Int64)) + (2000000 : Int64))), .second, .unset, .unset, .unset, .unset, .unset, .unset] [(.long (f5_0 ((f4_0  ((f4_0  j0 j2) + ((j1 * (16 : Int64)) / (17 : Int64))) j3) + ((j1 * (16 : Int64)) / (17 : Int64))) (-9223372036854775808 : Int64)))])) (fun t k => st6.trans k) ?_
  refine own_by (B := T6.setTop (mkF m 61 #[.val (.long j0), .second, .val (.long j1), .second, .val (.long j2), .second, .val (.long j3), .second, .val (.ref b1), .val (.long ((j1 * (16 : Int64)) / (17 : Int64))), .second, .val (.long ((f5_0 ((f4_0  j0 j2) + ((j1 * (16 : Int64)) / (17 : Int64))) (-9223372036854775808 : Int64)) + (2000000 : Int64))), .second, .unset, .unset, .unset, .unset, .unset, .unset] [(.long (2000000 : Int64)), (.long (f5_0 ((f4_0  ((f4_0  j0 j2) + ((j1 * (16 : Int64)) / (17 : Int64))) j3) + ((j1 * (16 : Int64)) / (17 : Int64))) (-9223372036854775808 : Int64)))])) (fun t k => X6.ldc2Long hx hown (mvT hZ (hw _ (List.mem_of_getElem? (i := 33) rfl))) (g := (mkF m 58 #[.val (.long j0), .second, .val (.long j1), .second, .val (.long j2), .second, .val (.long j3), .second, .val (.ref b1), .val (.long ((j1 * (16 : Int64)) / (17 : Int64))), .second, .val (.long ((f5_0 ((f4_0  j0 j2) + ((j1 * (16 : Int64)) / (17 : Int64))) (-9223372036854775808 : Int64)) + (2000000 : Int64))), .second, .unset, .unset, .unset, .unset, .unset, .unset] [(.long (f5_0 ((f4_0  ((f4_0  j0 j2) + ((j1 * (16 : Int64)) / (17 : Int64))) j3) + ((j1 * (16 : Int64)) / (17 : Int64))) (-9223372036854775808 : Int64)))])) rfl (hb hby at_58) _ k) ?_
  refine own_by (B := T6.setTop (mkF m 62 #[.val (.long j0), .second, .val (.long j1), .second, .val (.long j2), .second, .val (.long j3), .second, .val (.ref b1), .val (.long ((j1 * (16 : Int64)) / (17 : Int64))), .second, .val (.long ((f5_0 ((f4_0  j0 j2) + ((j1 * (16 : Int64)) / (17 : Int64))) (-9223372036854775808 : Int64)) + (2000000 : Int64))), .second, .unset, .unset, .unset, .unset, .unset, .unset] [(.long ((f5_0 ((f4_0  ((f4_0  j0 j2) + ((j1 * (16 : Int64)) / (17 : Int64))) j3) + ((j1 * (16 : Int64)) / (17 : Int64))) (-9223372036854775808 : Int64)) + (2000000 : Int64)))])) (fun t k => XS.ladd X6.here hx rfl (hb hby at_61) rfl k) ?_
  refine own_by (B := T6.setTop (mkF m 64 #[.val (.long j0), .second, .val (.long j1), .second, .val (.long j2), .second, .val (.long j3), .second, .val (.ref b1), .val (.long ((j1 * (16 : Int64)) / (17 : Int64))), .second, .val (.long ((f5_0 ((f4_0  j0 j2) + ((j1 * (16 : Int64)) / (17 : Int64))) (-9223372036854775808 : Int64)) + (2000000 : Int64))), .second, .val (.long ((f5_0 ((f4_0  ((f4_0  j0 j2) + ((j1 * (16 : Int64)) / (17 : Int64))) j3) + ((j1 * (16 : Int64)) / (17 : Int64))) (-9223372036854775808 : Int64)) + (2000000 : Int64))), .second, .unset, .unset, .unset, .unset] [])) (fun t k => XS.lstore X6.here hx rfl (hb hby at_62) rfl (l' := #[.val (.long j0), .second, .val (.long j1), .second, .val (.long j2), .second, .val (.long j3), .second, .val (.ref b1), .val (.long ((j1 * (16 : Int64)) / (17 : Int64))), .second, .val (.long ((f5_0 ((f4_0  j0 j2) + ((j1 * (16 : Int64)) / (17 : Int64))) (-9223372036854775808 : Int64)) + (2000000 : Int64))), .second, .val (.long ((f5_0 ((f4_0  ((f4_0  j0 j2) + ((j1 * (16 : Int64)) / (17 : Int64))) j3) + ((j1 * (16 : Int64)) / (17 : Int64))) (-9223372036854775808 : Int64)) + (2000000 : Int64))), .second, .unset, .unset, .unset, .unset]) rfl k) ?_
  refine own_by (B := T6.setTop (mkF m 65 #[.val (.long j0), .second, .val (.long j1), .second, .val (.long j2), .second, .val (.long j3), .second, .val (.ref b1), .val (.long ((j1 * (16 : Int64)) / (17 : Int64))), .second, .val (.long ((f5_0 ((f4_0  j0 j2) + ((j1 * (16 : Int64)) / (17 : Int64))) (-9223372036854775808 : Int64)) + (2000000 : Int64))), .second, .val (.long ((f5_0 ((f4_0  ((f4_0  j0 j2) + ((j1 * (16 : Int64)) / (17 : Int64))) j3) + ((j1 * (16 : Int64)) / (17 : Int64))) (-9223372036854775808 : Int64)) + (2000000 : Int64))), .second, .unset, .unset, .unset, .unset] [(.long j0)])) (fun t k => XS.lloadN X6.here hx rfl (hb hby at_64) rfl k) ?_
  refine own_by (B := T6.setTop (mkF m 67 #[.val (.long j0), .second, .val (.long j1), .second, .val (.long j2), .second, .val (.long j3), .second, .val (.ref b1), .val (.long ((j1 * (16 : Int64)) / (17 : Int64))), .second, .val (.long ((f5_0 ((f4_0  j0 j2) + ((j1 * (16 : Int64)) / (17 : Int64))) (-9223372036854775808 : Int64)) + (2000000 : Int64))), .second, .val (.long ((f5_0 ((f4_0  ((f4_0  j0 j2) + ((j1 * (16 : Int64)) / (17 : Int64))) j3) + ((j1 * (16 : Int64)) / (17 : Int64))) (-9223372036854775808 : Int64)) + (2000000 : Int64))), .second, .val (.long j0), .second, .unset, .unset] [])) (fun t k => XS.lstore X6.here hx rfl (hb hby at_65) rfl (l' := #[.val (.long j0), .second, .val (.long j1), .second, .val (.long j2), .second, .val (.long j3), .second, .val (.ref b1), .val (.long ((j1 * (16 : Int64)) / (17 : Int64))), .second, .val (.long ((f5_0 ((f4_0  j0 j2) + ((j1 * (16 : Int64)) / (17 : Int64))) (-9223372036854775808 : Int64)) + (2000000 : Int64))), .second, .val (.long ((f5_0 ((f4_0  ((f4_0  j0 j2) + ((j1 * (16 : Int64)) / (17 : Int64))) j3) + ((j1 * (16 : Int64)) / (17 : Int64))) (-9223372036854775808 : Int64)) + (2000000 : Int64))), .second, .val (.long j0), .second, .unset, .unset]) rfl k) ?_
  refine own_by (B := T6.setTop (mkF m 69 #[.val (.long j0), .second, .val (.long j1), .second, .val (.long j2), .second, .val (.long j3), .second, .val (.ref b1), .val (.long ((j1 * (16 : Int64)) / (17 : Int64))), .second, .val (.long ((f5_0 ((f4_0  j0 j2) + ((j1 * (16 : Int64)) / (17 : Int64))) (-9223372036854775808 : Int64)) + (2000000 : Int64))), .second, .val (.long ((f5_0 ((f4_0  ((f4_0  j0 j2) + ((j1 * (16 : Int64)) / (17 : Int64))) j3) + ((j1 * (16 : Int64)) / (17 : Int64))) (-9223372036854775808 : Int64)) + (2000000 : Int64))), .second, .val (.long j0), .second, .unset, .unset] [(.long j2)])) (fun t k => XS.lload X6.here hx rfl (hb hby at_67) rfl k) ?_
  refine own_by (B := T6.setTop (mkF m 70 #[.val (.long j0), .second, .val (.long j1), .second, .val (.long j2), .second, .val (.long j3), .second, .val (.ref b1), .val (.long ((j1 * (16 : Int64)) / (17 : Int64))), .second, .val (.long ((f5_0 ((f4_0  j0 j2) + ((j1 * (16 : Int64)) / (17 : Int64))) (-9223372036854775808 : Int64)) + (2000000 : Int64))), .second, .val (.long ((f5_0 ((f4_0  ((f4_0  j0 j2) + ((j1 * (16 : Int64)) / (17 : Int64))) j3) + ((j1 * (16 : Int64)) / (17 : Int64))) (-9223372036854775808 : Int64)) + (2000000 : Int64))), .second, .val (.long j0), .second, .unset, .unset] [(.long j0), (.long j2)])) (fun t k => XS.lloadN X6.here hx rfl (hb hby at_69) rfl k) ?_
  refine own_by (B := T6.setTop (mkF m 71 #[.val (.long j0), .second, .val (.long j1), .second, .val (.long j2), .second, .val (.long j3), .second, .val (.ref b1), .val (.long ((j1 * (16 : Int64)) / (17 : Int64))), .second, .val (.long ((f5_0 ((f4_0  j0 j2) + ((j1 * (16 : Int64)) / (17 : Int64))) (-9223372036854775808 : Int64)) + (2000000 : Int64))), .second, .val (.long ((f5_0 ((f4_0  ((f4_0  j0 j2) + ((j1 * (16 : Int64)) / (17 : Int64))) j3) + ((j1 * (16 : Int64)) / (17 : Int64))) (-9223372036854775808 : Int64)) + (2000000 : Int64))), .second, .val (.long j0), .second, .unset, .unset] [(.int (lcmpW j2 j0))])) (fun t k => XS.lcmp X6.here hx rfl (hb hby at_70) rfl k) ?_
  obtain ⟨ua, hua⟩ : ∃ z : Int64, z = (if j0 < j2 then j2 else j0) := ⟨_, rfl⟩
  refine own_by (B := T6.setTop (mkF m 78 #[.val (.long j0), .second, .val (.long j1), .second, .val (.long j2), .second, .val (.long j3), .second, .val (.ref b1), .val (.long ((j1 * (16 : Int64)) / (17 : Int64))), .second, .val (.long ((f5_0 ((f4_0  j0 j2) + ((j1 * (16 : Int64)) / (17 : Int64))) (-9223372036854775808 : Int64)) + (2000000 : Int64))), .second, .val (.long ((f5_0 ((f4_0  ((f4_0  j0 j2) + ((j1 * (16 : Int64)) / (17 : Int64))) j3) + ((j1 * (16 : Int64)) / (17 : Int64))) (-9223372036854775808 : Int64)) + (2000000 : Int64))), .second, .val (.long ua), .second, .unset, .unset] [])) (fun t k => ?_) ?_
  ·
    show Steps p.tables e below (T6.setTop (mkF m 71 #[.val (.long j0), .second, .val (.long j1), .second, .val (.long j2), .second, .val (.long j3), .second, .val (.ref b1), .val (.long ((j1 * (16 : Int64)) / (17 : Int64))), .second, .val (.long ((f5_0 ((f4_0  j0 j2) + ((j1 * (16 : Int64)) / (17 : Int64))) (-9223372036854775808 : Int64)) + (2000000 : Int64))), .second, .val (.long ((f5_0 ((f4_0  ((f4_0  j0 j2) + ((j1 * (16 : Int64)) / (17 : Int64))) j3) + ((j1 * (16 : Int64)) / (17 : Int64))) (-9223372036854775808 : Int64)) + (2000000 : Int64))), .second, .val (.long j0), .second, .unset, .unset] [(.int (lcmpW j2 j0))])) t
    by_cases hm8 : j0 < j2
    ·
      rw [if_pos hm8] at hua
      refine XS.ifNo X6.here hx rfl (hb hby at_71) rfl ((if0 _ _).trans (tlt ((lw_gt _ _).mpr hm8)).2.2.2) ?_
      show Steps p.tables e below (T6.setTop (mkF m 74 #[.val (.long j0), .second, .val (.long j1), .second, .val (.long j2), .second, .val (.long j3), .second, .val (.ref b1), .val (.long ((j1 * (16 : Int64)) / (17 : Int64))), .second, .val (.long ((f5_0 ((f4_0  j0 j2) + ((j1 * (16 : Int64)) / (17 : Int64))) (-9223372036854775808 : Int64)) + (2000000 : Int64))), .second, .val (.long ((f5_0 ((f4_0  ((f4_0  j0 j2) + ((j1 * (16 : Int64)) / (17 : Int64))) j3) + ((j1 * (16 : Int64)) / (17 : Int64))) (-9223372036854775808 : Int64)) + (2000000 : Int64))), .second, .val (.long j0), .second, .unset, .unset] [])) t
      show Steps p.tables e below (T6.setTop (mkF m 74 #[.val (.long j0), .second, .val (.long j1), .second, .val (.long j2), .second, .val (.long j3), .second, .val (.ref b1), .val (.long ((j1 * (16 : Int64)) / (17 : Int64))), .second, .val (.long ((f5_0 ((f4_0  j0 j2) + ((j1 * (16 : Int64)) / (17 : Int64))) (-9223372036854775808 : Int64)) + (2000000 : Int64))), .second, .val (.long ((f5_0 ((f4_0  ((f4_0  j0 j2) + ((j1 * (16 : Int64)) / (17 : Int64))) j3) + ((j1 * (16 : Int64)) / (17 : Int64))) (-9223372036854775808 : Int64)) + (2000000 : Int64))), .second, .val (.long j0), .second, .unset, .unset] [])) t
      refine XS.lload X6.here hx rfl (hb hby at_74) rfl ?_
      show Steps p.tables e below (T6.setTop (mkF m 76 #[.val (.long j0), .second, .val (.long j1), .second, .val (.long j2), .second, .val (.long j3), .second, .val (.ref b1), .val (.long ((j1 * (16 : Int64)) / (17 : Int64))), .second, .val (.long ((f5_0 ((f4_0  j0 j2) + ((j1 * (16 : Int64)) / (17 : Int64))) (-9223372036854775808 : Int64)) + (2000000 : Int64))), .second, .val (.long ((f5_0 ((f4_0  ((f4_0  j0 j2) + ((j1 * (16 : Int64)) / (17 : Int64))) j3) + ((j1 * (16 : Int64)) / (17 : Int64))) (-9223372036854775808 : Int64)) + (2000000 : Int64))), .second, .val (.long j0), .second, .unset, .unset] [(.long j2)])) t
      refine XS.lstore X6.here hx rfl (hb hby at_76) rfl (l' := #[.val (.long j0), .second, .val (.long j1), .second, .val (.long j2), .second, .val (.long j3), .second, .val (.ref b1), .val (.long ((j1 * (16 : Int64)) / (17 : Int64))), .second, .val (.long ((f5_0 ((f4_0  j0 j2) + ((j1 * (16 : Int64)) / (17 : Int64))) (-9223372036854775808 : Int64)) + (2000000 : Int64))), .second, .val (.long ((f5_0 ((f4_0  ((f4_0  j0 j2) + ((j1 * (16 : Int64)) / (17 : Int64))) j3) + ((j1 * (16 : Int64)) / (17 : Int64))) (-9223372036854775808 : Int64)) + (2000000 : Int64))), .second, .val (.long j2), .second, .unset, .unset]) rfl ?_
      show Steps p.tables e below (T6.setTop (mkF m 78 #[.val (.long j0), .second, .val (.long j1), .second, .val (.long j2), .second, .val (.long j3), .second, .val (.ref b1), .val (.long ((j1 * (16 : Int64)) / (17 : Int64))), .second, .val (.long ((f5_0 ((f4_0  j0 j2) + ((j1 * (16 : Int64)) / (17 : Int64))) (-9223372036854775808 : Int64)) + (2000000 : Int64))), .second, .val (.long ((f5_0 ((f4_0  ((f4_0  j0 j2) + ((j1 * (16 : Int64)) / (17 : Int64))) j3) + ((j1 * (16 : Int64)) / (17 : Int64))) (-9223372036854775808 : Int64)) + (2000000 : Int64))), .second, .val (.long j2), .second, .unset, .unset] [])) t
      subst hua
      exact k
    ·
      rw [if_neg hm8] at hua
      refine XS.ifYes X6.here hx rfl (pc0 := 71) (pc' := 78) rfl (hb hby at_71) rfl ((if0 _ _).trans (flt (fun q => hm8 ((lw_gt _ _).mp q))).2.2.2) (by decide) (by decide) ?_
      show Steps p.tables e below (T6.setTop (mkF m 78 #[.val (.long j0), .second, .val (.long j1), .second, .val (.long j2), .second, .val (.long j3), .second, .val (.ref b1), .val (.long ((j1 * (16 : Int64)) / (17 : Int64))), .second, .val (.long ((f5_0 ((f4_0  j0 j2) + ((j1 * (16 : Int64)) / (17 : Int64))) (-9223372036854775808 : Int64)) + (2000000 : Int64))), .second, .val (.long ((f5_0 ((f4_0  ((f4_0  j0 j2) + ((j1 * (16 : Int64)) / (17 : Int64))) j3) + ((j1 * (16 : Int64)) / (17 : Int64))) (-9223372036854775808 : Int64)) + (2000000 : Int64))), .second, .val (.long j0), .second, .unset, .unset] [])) t
      show Steps p.tables e below (T6.setTop (mkF m 78 #[.val (.long j0), .second, .val (.long j1), .second, .val (.long j2), .second, .val (.long j3), .second, .val (.ref b1), .val (.long ((j1 * (16 : Int64)) / (17 : Int64))), .second, .val (.long ((f5_0 ((f4_0  j0 j2) + ((j1 * (16 : Int64)) / (17 : Int64))) (-9223372036854775808 : Int64)) + (2000000 : Int64))), .second, .val (.long ((f5_0 ((f4_0  ((f4_0  j0 j2) + ((j1 * (16 : Int64)) / (17 : Int64))) j3) + ((j1 * (16 : Int64)) / (17 : Int64))) (-9223372036854775808 : Int64)) + (2000000 : Int64))), .second, .val (.long j0), .second, .unset, .unset] [])) t
      subst hua
      exact k
  refine own_by (B := T6.setTop (mkF m 80 #[.val (.long j0), .second, .val (.long j1), .second, .val (.long j2), .second, .val (.long j3), .second, .val (.ref b1), .val (.long ((j1 * (16 : Int64)) / (17 : Int64))), .second, .val (.long ((f5_0 ((f4_0  j0 j2) + ((j1 * (16 : Int64)) / (17 : Int64))) (-9223372036854775808 : Int64)) + (2000000 : Int64))), .second, .val (.long ((f5_0 ((f4_0  ((f4_0  j0 j2) + ((j1 * (16 : Int64)) / (17 : Int64))) j3) + ((j1 * (16 : Int64)) / (17 : Int64))) (-9223372036854775808 : Int64)) + (2000000 : Int64))), .second, .val (.long ua), .second, .unset, .unset] [(.long ua)])) (fun t k => XS.lload X6.here hx rfl (hb hby at_78) rfl k) ?_
  refine own_by (B := T6.setTop (mkF m 82 #[.val (.long j0), .second, .val (.long j1), .second, .val (.long j2), .second, .val (.long j3), .second, .val (.ref b1), .val (.long ((j1 * (16 : Int64)) / (17 : Int64))), .second, .val (.long ((f5_0 ((f4_0  j0 j2) + ((j1 * (16 : Int64)) / (17 : Int64))) (-9223372036854775808 : Int64)) + (2000000 : Int64))), .second, .val (.long ((f5_0 ((f4_0  ((f4_0  j0 j2) + ((j1 * (16 : Int64)) / (17 : Int64))) j3) + ((j1 * (16 : Int64)) / (17 : Int64))) (-9223372036854775808 : Int64)) + (2000000 : Int64))), .second, .val (.long ua), .second, .unset, .unset] [(.long ((j1 * (16 : Int64)) / (17 : Int64))), (.long ua)])) (fun t k => XS.lload X6.here hx rfl (hb hby at_80) rfl k) ?_
  refine own_by (B := T6.setTop (mkF m 83 #[.val (.long j0), .second, .val (.long j1), .second, .val (.long j2), .second, .val (.long j3), .second, .val (.ref b1), .val (.long ((j1 * (16 : Int64)) / (17 : Int64))), .second, .val (.long ((f5_0 ((f4_0  j0 j2) + ((j1 * (16 : Int64)) / (17 : Int64))) (-9223372036854775808 : Int64)) + (2000000 : Int64))), .second, .val (.long ((f5_0 ((f4_0  ((f4_0  j0 j2) + ((j1 * (16 : Int64)) / (17 : Int64))) j3) + ((j1 * (16 : Int64)) / (17 : Int64))) (-9223372036854775808 : Int64)) + (2000000 : Int64))), .second, .val (.long ua), .second, .unset, .unset] [(.long (ua + ((j1 * (16 : Int64)) / (17 : Int64))))])) (fun t k => XS.ladd X6.here hx rfl (hb hby at_82) rfl k) ?_
  refine own_by (B := T6.setTop (mkF m 85 #[.val (.long j0), .second, .val (.long j1), .second, .val (.long j2), .second, .val (.long j3), .second, .val (.ref b1), .val (.long ((j1 * (16 : Int64)) / (17 : Int64))), .second, .val (.long ((f5_0 ((f4_0  j0 j2) + ((j1 * (16 : Int64)) / (17 : Int64))) (-9223372036854775808 : Int64)) + (2000000 : Int64))), .second, .val (.long ((f5_0 ((f4_0  ((f4_0  j0 j2) + ((j1 * (16 : Int64)) / (17 : Int64))) j3) + ((j1 * (16 : Int64)) / (17 : Int64))) (-9223372036854775808 : Int64)) + (2000000 : Int64))), .second, .val (.long (ua + ((j1 * (16 : Int64)) / (17 : Int64)))), .second, .unset, .unset] [])) (fun t k => XS.lstore X6.here hx rfl (hb hby at_83) rfl (l' := #[.val (.long j0), .second, .val (.long j1), .second, .val (.long j2), .second, .val (.long j3), .second, .val (.ref b1), .val (.long ((j1 * (16 : Int64)) / (17 : Int64))), .second, .val (.long ((f5_0 ((f4_0  j0 j2) + ((j1 * (16 : Int64)) / (17 : Int64))) (-9223372036854775808 : Int64)) + (2000000 : Int64))), .second, .val (.long ((f5_0 ((f4_0  ((f4_0  j0 j2) + ((j1 * (16 : Int64)) / (17 : Int64))) j3) + ((j1 * (16 : Int64)) / (17 : Int64))) (-9223372036854775808 : Int64)) + (2000000 : Int64))), .second, .val (.long (ua + ((j1 * (16 : Int64)) / (17 : Int64)))), .second, .unset, .unset]) rfl k) ?_
  refine own_by (B := T6.setTop (mkF m 87 #[.val (.long j0), .second, .val (.long j1), .second, .val (.long j2), .second, .val (.long j3), .second, .val (.ref b1), .val (.long ((j1 * (16 : Int64)) / (17 : Int64))), .second, .val (.long ((f5_0 ((f4_0  j0 j2) + ((j1 * (16 : Int64)) / (17 : Int64))) (-9223372036854775808 : Int64)) + (2000000 : Int64))), .second, .val (.long ((f5_0 ((f4_0  ((f4_0  j0 j2) + ((j1 * (16 : Int64)) / (17 : Int64))) j3) + ((j1 * (16 : Int64)) / (17 : Int64))) (-9223372036854775808 : Int64)) + (2000000 : Int64))), .second, .val (.long (ua + ((j1 * (16 : Int64)) / (17 : Int64)))), .second, .unset, .unset] [(.long (ua + ((j1 * (16 : Int64)) / (17 : Int64))))])) (fun t k => XS.lload X6.here hx rfl (hb hby at_85) rfl k) ?_
  refine own_by (B := T6.setTop (mkF m 89 #[.val (.long j0), .second, .val (.long j1), .second, .val (.long j2), .second, .val (.long j3), .second, .val (.ref b1), .val (.long ((j1 * (16 : Int64)) / (17 : Int64))), .second, .val (.long ((f5_0 ((f4_0  j0 j2) + ((j1 * (16 : Int64)) / (17 : Int64))) (-9223372036854775808 : Int64)) + (2000000 : Int64))), .second, .val (.long ((f5_0 ((f4_0  ((f4_0  j0 j2) + ((j1 * (16 : Int64)) / (17 : Int64))) j3) + ((j1 * (16 : Int64)) / (17 : Int64))) (-9223372036854775808 : Int64)) + (2000000 : Int64))), .second, .val (.long (ua + ((j1 * (16 : Int64)) / (17 : Int64)))), .second, .val (.long (ua + ((j1 * (16 : Int64)) / (17 : Int64)))), .second] [])) (fun t k => XS.lstore X6.here hx rfl (hb hby at_87) rfl (l' := #[.val (.long j0), .second, .val (.long j1), .second, .val (.long j2), .second, .val (.long j3), .second, .val (.ref b1), .val (.long ((j1 * (16 : Int64)) / (17 : Int64))), .second, .val (.long ((f5_0 ((f4_0  j0 j2) + ((j1 * (16 : Int64)) / (17 : Int64))) (-9223372036854775808 : Int64)) + (2000000 : Int64))), .second, .val (.long ((f5_0 ((f4_0  ((f4_0  j0 j2) + ((j1 * (16 : Int64)) / (17 : Int64))) j3) + ((j1 * (16 : Int64)) / (17 : Int64))) (-9223372036854775808 : Int64)) + (2000000 : Int64))), .second, .val (.long (ua + ((j1 * (16 : Int64)) / (17 : Int64)))), .second, .val (.long (ua + ((j1 * (16 : Int64)) / (17 : Int64)))), .second]) rfl k) ?_
  refine own_by (B := T6.setTop (mkF m 91 #[.val (.long j0), .second, .val (.long j1), .second, .val (.long j2), .second, .val (.long j3), .second, .val (.ref b1), .val (.long ((j1 * (16 : Int64)) / (17 : Int64))), .second, .val (.long ((f5_0 ((f4_0  j0 j2) + ((j1 * (16 : Int64)) / (17 : Int64))) (-9223372036854775808 : Int64)) + (2000000 : Int64))), .second, .val (.long ((f5_0 ((f4_0  ((f4_0  j0 j2) + ((j1 * (16 : Int64)) / (17 : Int64))) j3) + ((j1 * (16 : Int64)) / (17 : Int64))) (-9223372036854775808 : Int64)) + (2000000 : Int64))), .second, .val (.long (ua + ((j1 * (16 : Int64)) / (17 : Int64)))), .second, .val (.long (ua + ((j1 * (16 : Int64)) / (17 : Int64)))), .second] [(.long j3)])) (fun t k => XS.lload X6.here hx rfl (hb hby at_89) rfl k) ?_
  refine own_by (B := T6.setTop (mkF m 93 #[.val (.long j0), .second, .val (.long j1), .second, .val (.long j2), .second, .val (.long j3), .second, .val (.ref b1), .val (.long ((j1 * (16 : Int64)) / (17 : Int64))), .second, .val (.long ((f5_0 ((f4_0  j0 j2) + ((j1 * (16 : Int64)) / (17 : Int64))) (-9223372036854775808 : Int64)) + (2000000 : Int64))), .second, .val (.long ((f5_0 ((f4_0  ((f4_0  j0 j2) + ((j1 * (16 : Int64)) / (17 : Int64))) j3) + ((j1 * (16 : Int64)) / (17 : Int64))) (-9223372036854775808 : Int64)) + (2000000 : Int64))), .second, .val (.long (ua + ((j1 * (16 : Int64)) / (17 : Int64)))), .second, .val (.long (ua + ((j1 * (16 : Int64)) / (17 : Int64)))), .second] [(.long (ua + ((j1 * (16 : Int64)) / (17 : Int64)))), (.long j3)])) (fun t k => XS.lload X6.here hx rfl (hb hby at_91) rfl k) ?_
  refine own_by (B := T6.setTop (mkF m 94 #[.val (.long j0), .second, .val (.long j1), .second, .val (.long j2), .second, .val (.long j3), .second, .val (.ref b1), .val (.long ((j1 * (16 : Int64)) / (17 : Int64))), .second, .val (.long ((f5_0 ((f4_0  j0 j2) + ((j1 * (16 : Int64)) / (17 : Int64))) (-9223372036854775808 : Int64)) + (2000000 : Int64))), .second, .val (.long ((f5_0 ((f4_0  ((f4_0  j0 j2) + ((j1 * (16 : Int64)) / (17 : Int64))) j3) + ((j1 * (16 : Int64)) / (17 : Int64))) (-9223372036854775808 : Int64)) + (2000000 : Int64))), .second, .val (.long (ua + ((j1 * (16 : Int64)) / (17 : Int64)))), .second, .val (.long (ua + ((j1 * (16 : Int64)) / (17 : Int64)))), .second] [(.int (lcmpW j3 (ua + ((j1 * (16 : Int64)) / (17 : Int64)))))])) (fun t k => XS.lcmp X6.here hx rfl (hb hby at_93) rfl k) ?_
  obtain ⟨ub, hub⟩ : ∃ z : Int64, z = (if (ua + ((j1 * (16 : Int64)) / (17 : Int64))) < j3 then j3 else (ua + ((j1 * (16 : Int64)) / (17 : Int64)))) := ⟨_, rfl⟩
  refine own_by (B := T6.setTop (mkF m 101 #[.val (.long j0), .second, .val (.long j1), .second, .val (.long j2), .second, .val (.long j3), .second, .val (.ref b1), .val (.long ((j1 * (16 : Int64)) / (17 : Int64))), .second, .val (.long ((f5_0 ((f4_0  j0 j2) + ((j1 * (16 : Int64)) / (17 : Int64))) (-9223372036854775808 : Int64)) + (2000000 : Int64))), .second, .val (.long ((f5_0 ((f4_0  ((f4_0  j0 j2) + ((j1 * (16 : Int64)) / (17 : Int64))) j3) + ((j1 * (16 : Int64)) / (17 : Int64))) (-9223372036854775808 : Int64)) + (2000000 : Int64))), .second, .val (.long (ua + ((j1 * (16 : Int64)) / (17 : Int64)))), .second, .val (.long ub), .second] [])) (fun t k => ?_) ?_
  ·
    show Steps p.tables e below (T6.setTop (mkF m 94 #[.val (.long j0), .second, .val (.long j1), .second, .val (.long j2), .second, .val (.long j3), .second, .val (.ref b1), .val (.long ((j1 * (16 : Int64)) / (17 : Int64))), .second, .val (.long ((f5_0 ((f4_0  j0 j2) + ((j1 * (16 : Int64)) / (17 : Int64))) (-9223372036854775808 : Int64)) + (2000000 : Int64))), .second, .val (.long ((f5_0 ((f4_0  ((f4_0  j0 j2) + ((j1 * (16 : Int64)) / (17 : Int64))) j3) + ((j1 * (16 : Int64)) / (17 : Int64))) (-9223372036854775808 : Int64)) + (2000000 : Int64))), .second, .val (.long (ua + ((j1 * (16 : Int64)) / (17 : Int64)))), .second, .val (.long (ua + ((j1 * (16 : Int64)) / (17 : Int64)))), .second] [(.int (lcmpW j3 (ua + ((j1 * (16 : Int64)) / (17 : Int64)))))])) t
    by_cases hm10 : (ua + ((j1 * (16 : Int64)) / (17 : Int64))) < j3
    ·
      rw [if_pos hm10] at hub
      refine XS.ifNo X6.here hx rfl (hb hby at_94) rfl ((if0 _ _).trans (tlt ((lw_gt _ _).mpr hm10)).2.2.2) ?_
      show Steps p.tables e below (T6.setTop (mkF m 97 #[.val (.long j0), .second, .val (.long j1), .second, .val (.long j2), .second, .val (.long j3), .second, .val (.ref b1), .val (.long ((j1 * (16 : Int64)) / (17 : Int64))), .second, .val (.long ((f5_0 ((f4_0  j0 j2) + ((j1 * (16 : Int64)) / (17 : Int64))) (-9223372036854775808 : Int64)) + (2000000 : Int64))), .second, .val (.long ((f5_0 ((f4_0  ((f4_0  j0 j2) + ((j1 * (16 : Int64)) / (17 : Int64))) j3) + ((j1 * (16 : Int64)) / (17 : Int64))) (-9223372036854775808 : Int64)) + (2000000 : Int64))), .second, .val (.long (ua + ((j1 * (16 : Int64)) / (17 : Int64)))), .second, .val (.long (ua + ((j1 * (16 : Int64)) / (17 : Int64)))), .second] [])) t
      show Steps p.tables e below (T6.setTop (mkF m 97 #[.val (.long j0), .second, .val (.long j1), .second, .val (.long j2), .second, .val (.long j3), .second, .val (.ref b1), .val (.long ((j1 * (16 : Int64)) / (17 : Int64))), .second, .val (.long ((f5_0 ((f4_0  j0 j2) + ((j1 * (16 : Int64)) / (17 : Int64))) (-9223372036854775808 : Int64)) + (2000000 : Int64))), .second, .val (.long ((f5_0 ((f4_0  ((f4_0  j0 j2) + ((j1 * (16 : Int64)) / (17 : Int64))) j3) + ((j1 * (16 : Int64)) / (17 : Int64))) (-9223372036854775808 : Int64)) + (2000000 : Int64))), .second, .val (.long (ua + ((j1 * (16 : Int64)) / (17 : Int64)))), .second, .val (.long (ua + ((j1 * (16 : Int64)) / (17 : Int64)))), .second] [])) t
      refine XS.lload X6.here hx rfl (hb hby at_97) rfl ?_
      show Steps p.tables e below (T6.setTop (mkF m 99 #[.val (.long j0), .second, .val (.long j1), .second, .val (.long j2), .second, .val (.long j3), .second, .val (.ref b1), .val (.long ((j1 * (16 : Int64)) / (17 : Int64))), .second, .val (.long ((f5_0 ((f4_0  j0 j2) + ((j1 * (16 : Int64)) / (17 : Int64))) (-9223372036854775808 : Int64)) + (2000000 : Int64))), .second, .val (.long ((f5_0 ((f4_0  ((f4_0  j0 j2) + ((j1 * (16 : Int64)) / (17 : Int64))) j3) + ((j1 * (16 : Int64)) / (17 : Int64))) (-9223372036854775808 : Int64)) + (2000000 : Int64))), .second, .val (.long (ua + ((j1 * (16 : Int64)) / (17 : Int64)))), .second, .val (.long (ua + ((j1 * (16 : Int64)) / (17 : Int64)))), .second] [(.long j3)])) t
      refine XS.lstore X6.here hx rfl (hb hby at_99) rfl (l' := #[.val (.long j0), .second, .val (.long j1), .second, .val (.long j2), .second, .val (.long j3), .second, .val (.ref b1), .val (.long ((j1 * (16 : Int64)) / (17 : Int64))), .second, .val (.long ((f5_0 ((f4_0  j0 j2) + ((j1 * (16 : Int64)) / (17 : Int64))) (-9223372036854775808 : Int64)) + (2000000 : Int64))), .second, .val (.long ((f5_0 ((f4_0  ((f4_0  j0 j2) + ((j1 * (16 : Int64)) / (17 : Int64))) j3) + ((j1 * (16 : Int64)) / (17 : Int64))) (-9223372036854775808 : Int64)) + (2000000 : Int64))), .second, .val (.long (ua + ((j1 * (16 : Int64)) / (17 : Int64)))), .second, .val (.long j3), .second]) rfl ?_
      show Steps p.tables e below (T6.setTop (mkF m 101 #[.val (.long j0), .second, .val (.long j1), .second, .val (.long j2), .second, .val (.long j3), .second, .val (.ref b1), .val (.long ((j1 * (16 : Int64)) / (17 : Int64))), .second, .val (.long ((f5_0 ((f4_0  j0 j2) + ((j1 * (16 : Int64)) / (17 : Int64))) (-9223372036854775808 : Int64)) + (2000000 : Int64))), .second, .val (.long ((f5_0 ((f4_0  ((f4_0  j0 j2) + ((j1 * (16 : Int64)) / (17 : Int64))) j3) + ((j1 * (16 : Int64)) / (17 : Int64))) (-9223372036854775808 : Int64)) + (2000000 : Int64))), .second, .val (.long (ua + ((j1 * (16 : Int64)) / (17 : Int64)))), .second, .val (.long j3), .second] [])) t
      subst hub
      exact k
    ·
      rw [if_neg hm10] at hub
      refine XS.ifYes X6.here hx rfl (pc0 := 94) (pc' := 101) rfl (hb hby at_94) rfl ((if0 _ _).trans (flt (fun q => hm10 ((lw_gt _ _).mp q))).2.2.2) (by decide) (by decide) ?_
      show Steps p.tables e below (T6.setTop (mkF m 101 #[.val (.long j0), .second, .val (.long j1), .second, .val (.long j2), .second, .val (.long j3), .second, .val (.ref b1), .val (.long ((j1 * (16 : Int64)) / (17 : Int64))), .second, .val (.long ((f5_0 ((f4_0  j0 j2) + ((j1 * (16 : Int64)) / (17 : Int64))) (-9223372036854775808 : Int64)) + (2000000 : Int64))), .second, .val (.long ((f5_0 ((f4_0  ((f4_0  j0 j2) + ((j1 * (16 : Int64)) / (17 : Int64))) j3) + ((j1 * (16 : Int64)) / (17 : Int64))) (-9223372036854775808 : Int64)) + (2000000 : Int64))), .second, .val (.long (ua + ((j1 * (16 : Int64)) / (17 : Int64)))), .second, .val (.long (ua + ((j1 * (16 : Int64)) / (17 : Int64)))), .second] [])) t
      show Steps p.tables e below (T6.setTop (mkF m 101 #[.val (.long j0), .second, .val (.long j1), .second, .val (.long j2), .second, .val (.long j3), .second, .val (.ref b1), .val (.long ((j1 * (16 : Int64)) / (17 : Int64))), .second, .val (.long ((f5_0 ((f4_0  j0 j2) + ((j1 * (16 : Int64)) / (17 : Int64))) (-9223372036854775808 : Int64)) + (2000000 : Int64))), .second, .val (.long ((f5_0 ((f4_0  ((f4_0  j0 j2) + ((j1 * (16 : Int64)) / (17 : Int64))) j3) + ((j1 * (16 : Int64)) / (17 : Int64))) (-9223372036854775808 : Int64)) + (2000000 : Int64))), .second, .val (.long (ua + ((j1 * (16 : Int64)) / (17 : Int64)))), .second, .val (.long (ua + ((j1 * (16 : Int64)) / (17 : Int64)))), .second] [])) t
      subst hub
      exact k
  refine own_by (B := T6.setTop (mkF m 103 #[.val (.long j0), .second, .val (.long j1), .second, .val (.long j2), .second, .val (.long j3), .second, .val (.ref b1), .val (.long ((j1 * (16 : Int64)) / (17 : Int64))), .second, .val (.long ((f5_0 ((f4_0  j0 j2) + ((j1 * (16 : Int64)) / (17 : Int64))) (-9223372036854775808 : Int64)) + (2000000 : Int64))), .second, .val (.long ((f5_0 ((f4_0  ((f4_0  j0 j2) + ((j1 * (16 : Int64)) / (17 : Int64))) j3) + ((j1 * (16 : Int64)) / (17 : Int64))) (-9223372036854775808 : Int64)) + (2000000 : Int64))), .second, .val (.long (ua + ((j1 * (16 : Int64)) / (17 : Int64)))), .second, .val (.long ub), .second] [(.long ub)])) (fun t k => XS.lload X6.here hx rfl (hb hby at_101) rfl k) ?_
  refine own_by (B := T6.setTop (mkF m 105 #[.val (.long j0), .second, .val (.long j1), .second, .val (.long j2), .second, .val (.long j3), .second, .val (.ref b1), .val (.long ((j1 * (16 : Int64)) / (17 : Int64))), .second, .val (.long ((f5_0 ((f4_0  j0 j2) + ((j1 * (16 : Int64)) / (17 : Int64))) (-9223372036854775808 : Int64)) + (2000000 : Int64))), .second, .val (.long ((f5_0 ((f4_0  ((f4_0  j0 j2) + ((j1 * (16 : Int64)) / (17 : Int64))) j3) + ((j1 * (16 : Int64)) / (17 : Int64))) (-9223372036854775808 : Int64)) + (2000000 : Int64))), .second, .val (.long (ua + ((j1 * (16 : Int64)) / (17 : Int64)))), .second, .val (.long ub), .second] [(.long ((j1 * (16 : Int64)) / (17 : Int64))), (.long ub)])) (fun t k => XS.lload X6.here hx rfl (hb hby at_103) rfl k) ?_
  refine own_by (B := T6.setTop (mkF m 106 #[.val (.long j0), .second, .val (.long j1), .second, .val (.long j2), .second, .val (.long j3), .second, .val (.ref b1), .val (.long ((j1 * (16 : Int64)) / (17 : Int64))), .second, .val (.long ((f5_0 ((f4_0  j0 j2) + ((j1 * (16 : Int64)) / (17 : Int64))) (-9223372036854775808 : Int64)) + (2000000 : Int64))), .second, .val (.long ((f5_0 ((f4_0  ((f4_0  j0 j2) + ((j1 * (16 : Int64)) / (17 : Int64))) j3) + ((j1 * (16 : Int64)) / (17 : Int64))) (-9223372036854775808 : Int64)) + (2000000 : Int64))), .second, .val (.long (ua + ((j1 * (16 : Int64)) / (17 : Int64)))), .second, .val (.long ub), .second] [(.long (ub + ((j1 * (16 : Int64)) / (17 : Int64))))])) (fun t k => XS.ladd X6.here hx rfl (hb hby at_105) rfl k) ?_
  refine own_by (B := T6.setTop (mkF m 108 #[.val (.long j0), .second, .val (.long j1), .second, .val (.long j2), .second, .val (.long j3), .second, .val (.ref b1), .val (.long ((j1 * (16 : Int64)) / (17 : Int64))), .second, .val (.long ((f5_0 ((f4_0  j0 j2) + ((j1 * (16 : Int64)) / (17 : Int64))) (-9223372036854775808 : Int64)) + (2000000 : Int64))), .second, .val (.long ((f5_0 ((f4_0  ((f4_0  j0 j2) + ((j1 * (16 : Int64)) / (17 : Int64))) j3) + ((j1 * (16 : Int64)) / (17 : Int64))) (-9223372036854775808 : Int64)) + (2000000 : Int64))), .second, .val (.long (ua + ((j1 * (16 : Int64)) / (17 : Int64)))), .second, .val (.long (ub + ((j1 * (16 : Int64)) / (17 : Int64)))), .second] [])) (fun t k => XS.lstore X6.here hx rfl (hb hby at_106) rfl (l' := #[.val (.long j0), .second, .val (.long j1), .second, .val (.long j2), .second, .val (.long j3), .second, .val (.ref b1), .val (.long ((j1 * (16 : Int64)) / (17 : Int64))), .second, .val (.long ((f5_0 ((f4_0  j0 j2) + ((j1 * (16 : Int64)) / (17 : Int64))) (-9223372036854775808 : Int64)) + (2000000 : Int64))), .second, .val (.long ((f5_0 ((f4_0  ((f4_0  j0 j2) + ((j1 * (16 : Int64)) / (17 : Int64))) j3) + ((j1 * (16 : Int64)) / (17 : Int64))) (-9223372036854775808 : Int64)) + (2000000 : Int64))), .second, .val (.long (ua + ((j1 * (16 : Int64)) / (17 : Int64)))), .second, .val (.long (ub + ((j1 * (16 : Int64)) / (17 : Int64)))), .second]) rfl k) ?_
  refine own_by (B := T6.setTop (mkF m 110 #[.val (.long j0), .second, .val (.long j1), .second, .val (.long j2), .second, .val (.long j3), .second, .val (.ref b1), .val (.long ((j1 * (16 : Int64)) / (17 : Int64))), .second, .val (.long ((f5_0 ((f4_0  j0 j2) + ((j1 * (16 : Int64)) / (17 : Int64))) (-9223372036854775808 : Int64)) + (2000000 : Int64))), .second, .val (.long ((f5_0 ((f4_0  ((f4_0  j0 j2) + ((j1 * (16 : Int64)) / (17 : Int64))) j3) + ((j1 * (16 : Int64)) / (17 : Int64))) (-9223372036854775808 : Int64)) + (2000000 : Int64))), .second, .val (.long (ua + ((j1 * (16 : Int64)) / (17 : Int64)))), .second, .val (.long (ub + ((j1 * (16 : Int64)) / (17 : Int64)))), .second] [(.long ((f5_0 ((f4_0  j0 j2) + ((j1 * (16 : Int64)) / (17 : Int64))) (-9223372036854775808 : Int64)) + (2000000 : Int64)))])) (fun t k => XS.lload X6.here hx rfl (hb hby at_108) rfl k) ?_
  refine own_by (B := T6.setTop (mkF m 112 #[.val (.long j0), .second, .val (.long j1), .second, .val (.long j2), .second, .val (.long j3), .second, .val (.ref b1), .val (.long ((j1 * (16 : Int64)) / (17 : Int64))), .second, .val (.long ((f5_0 ((f4_0  j0 j2) + ((j1 * (16 : Int64)) / (17 : Int64))) (-9223372036854775808 : Int64)) + (2000000 : Int64))), .second, .val (.long ((f5_0 ((f4_0  ((f4_0  j0 j2) + ((j1 * (16 : Int64)) / (17 : Int64))) j3) + ((j1 * (16 : Int64)) / (17 : Int64))) (-9223372036854775808 : Int64)) + (2000000 : Int64))), .second, .val (.long (ua + ((j1 * (16 : Int64)) / (17 : Int64)))), .second, .val (.long (ub + ((j1 * (16 : Int64)) / (17 : Int64)))), .second] [(.long (ua + ((j1 * (16 : Int64)) / (17 : Int64)))), (.long ((f5_0 ((f4_0  j0 j2) + ((j1 * (16 : Int64)) / (17 : Int64))) (-9223372036854775808 : Int64)) + (2000000 : Int64)))])) (fun t k => XS.lload X6.here hx rfl (hb hby at_110) rfl k) ?_
  refine own_by (B := T6.setTop (mkF m 113 #[.val (.long j0), .second, .val (.long j1), .second, .val (.long j2), .second, .val (.long j3), .second, .val (.ref b1), .val (.long ((j1 * (16 : Int64)) / (17 : Int64))), .second, .val (.long ((f5_0 ((f4_0  j0 j2) + ((j1 * (16 : Int64)) / (17 : Int64))) (-9223372036854775808 : Int64)) + (2000000 : Int64))), .second, .val (.long ((f5_0 ((f4_0  ((f4_0  j0 j2) + ((j1 * (16 : Int64)) / (17 : Int64))) j3) + ((j1 * (16 : Int64)) / (17 : Int64))) (-9223372036854775808 : Int64)) + (2000000 : Int64))), .second, .val (.long (ua + ((j1 * (16 : Int64)) / (17 : Int64)))), .second, .val (.long (ub + ((j1 * (16 : Int64)) / (17 : Int64)))), .second] [(.int (lcmpW ((f5_0 ((f4_0  j0 j2) + ((j1 * (16 : Int64)) / (17 : Int64))) (-9223372036854775808 : Int64)) + (2000000 : Int64)) (ua + ((j1 * (16 : Int64)) / (17 : Int64)))))])) (fun t k => XS.lcmp X6.here hx rfl (hb hby at_112) rfl k) ?_
  have hc11 : ((f5_0 ((f4_0  j0 j2) + ((j1 * (16 : Int64)) / (17 : Int64))) (-9223372036854775808 : Int64)) + (2000000 : Int64)) = (ua + ((j1 * (16 : Int64)) / (17 : Int64))) := by rw [own_back, own_mx, hua]
  refine own_by (B := T6.setTop (mkF m 116 #[.val (.long j0), .second, .val (.long j1), .second, .val (.long j2), .second, .val (.long j3), .second, .val (.ref b1), .val (.long ((j1 * (16 : Int64)) / (17 : Int64))), .second, .val (.long ((f5_0 ((f4_0  j0 j2) + ((j1 * (16 : Int64)) / (17 : Int64))) (-9223372036854775808 : Int64)) + (2000000 : Int64))), .second, .val (.long ((f5_0 ((f4_0  ((f4_0  j0 j2) + ((j1 * (16 : Int64)) / (17 : Int64))) j3) + ((j1 * (16 : Int64)) / (17 : Int64))) (-9223372036854775808 : Int64)) + (2000000 : Int64))), .second, .val (.long (ua + ((j1 * (16 : Int64)) / (17 : Int64)))), .second, .val (.long (ub + ((j1 * (16 : Int64)) / (17 : Int64)))), .second] [])) (fun t k => XS.ifNo X6.here hx rfl (hb hby at_113) rfl ((if0 _ _).trans (teq ((lw_eq _ _).mpr hc11)).2) k) ?_
  refine own_by (B := T6.setTop (mkF m 118 #[.val (.long j0), .second, .val (.long j1), .second, .val (.long j2), .second, .val (.long j3), .second, .val (.ref b1), .val (.long ((j1 * (16 : Int64)) / (17 : Int64))), .second, .val (.long ((f5_0 ((f4_0  j0 j2) + ((j1 * (16 : Int64)) / (17 : Int64))) (-9223372036854775808 : Int64)) + (2000000 : Int64))), .second, .val (.long ((f5_0 ((f4_0  ((f4_0  j0 j2) + ((j1 * (16 : Int64)) / (17 : Int64))) j3) + ((j1 * (16 : Int64)) / (17 : Int64))) (-9223372036854775808 : Int64)) + (2000000 : Int64))), .second, .val (.long (ua + ((j1 * (16 : Int64)) / (17 : Int64)))), .second, .val (.long (ub + ((j1 * (16 : Int64)) / (17 : Int64)))), .second] [(.long ((f5_0 ((f4_0  ((f4_0  j0 j2) + ((j1 * (16 : Int64)) / (17 : Int64))) j3) + ((j1 * (16 : Int64)) / (17 : Int64))) (-9223372036854775808 : Int64)) + (2000000 : Int64)))])) (fun t k => XS.lload X6.here hx rfl (hb hby at_116) rfl k) ?_
  refine own_by (B := T6.setTop (mkF m 120 #[.val (.long j0), .second, .val (.long j1), .second, .val (.long j2), .second, .val (.long j3), .second, .val (.ref b1), .val (.long ((j1 * (16 : Int64)) / (17 : Int64))), .second, .val (.long ((f5_0 ((f4_0  j0 j2) + ((j1 * (16 : Int64)) / (17 : Int64))) (-9223372036854775808 : Int64)) + (2000000 : Int64))), .second, .val (.long ((f5_0 ((f4_0  ((f4_0  j0 j2) + ((j1 * (16 : Int64)) / (17 : Int64))) j3) + ((j1 * (16 : Int64)) / (17 : Int64))) (-9223372036854775808 : Int64)) + (2000000 : Int64))), .second, .val (.long (ua + ((j1 * (16 : Int64)) / (17 : Int64)))), .second, .val (.long (ub + ((j1 * (16 : Int64)) / (17 : Int64)))), .second] [(.long (ub + ((j1 * (16 : Int64)) / (17 : Int64)))), (.long ((f5_0 ((f4_0  ((f4_0  j0 j2) + ((j1 * (16 : Int64)) / (17 : Int64))) j3) + ((j1 * (16 : Int64)) / (17 : Int64))) (-9223372036854775808 : Int64)) + (2000000 : Int64)))])) (fun t k => XS.lload X6.here hx rfl (hb hby at_118) rfl k) ?_
  refine own_by (B := T6.setTop (mkF m 121 #[.val (.long j0), .second, .val (.long j1), .second, .val (.long j2), .second, .val (.long j3), .second, .val (.ref b1), .val (.long ((j1 * (16 : Int64)) / (17 : Int64))), .second, .val (.long ((f5_0 ((f4_0  j0 j2) + ((j1 * (16 : Int64)) / (17 : Int64))) (-9223372036854775808 : Int64)) + (2000000 : Int64))), .second, .val (.long ((f5_0 ((f4_0  ((f4_0  j0 j2) + ((j1 * (16 : Int64)) / (17 : Int64))) j3) + ((j1 * (16 : Int64)) / (17 : Int64))) (-9223372036854775808 : Int64)) + (2000000 : Int64))), .second, .val (.long (ua + ((j1 * (16 : Int64)) / (17 : Int64)))), .second, .val (.long (ub + ((j1 * (16 : Int64)) / (17 : Int64)))), .second] [(.int (lcmpW ((f5_0 ((f4_0  ((f4_0  j0 j2) + ((j1 * (16 : Int64)) / (17 : Int64))) j3) + ((j1 * (16 : Int64)) / (17 : Int64))) (-9223372036854775808 : Int64)) + (2000000 : Int64)) (ub + ((j1 * (16 : Int64)) / (17 : Int64)))))])) (fun t k => XS.lcmp X6.here hx rfl (hb hby at_120) rfl k) ?_
  have hc12 : ((f5_0 ((f4_0  ((f4_0  j0 j2) + ((j1 * (16 : Int64)) / (17 : Int64))) j3) + ((j1 * (16 : Int64)) / (17 : Int64))) (-9223372036854775808 : Int64)) + (2000000 : Int64)) = (ub + ((j1 * (16 : Int64)) / (17 : Int64))) := by rw [own_back, own_mx, own_mx, hub, hua]
  refine own_by (B := T6.setTop (mkF m 124 #[.val (.long j0), .second, .val (.long j1), .second, .val (.long j2), .second, .val (.long j3), .second, .val (.ref b1), .val (.long ((j1 * (16 : Int64)) / (17 : Int64))), .second, .val (.long ((f5_0 ((f4_0  j0 j2) + ((j1 * (16 : Int64)) / (17 : Int64))) (-9223372036854775808 : Int64)) + (2000000 : Int64))), .second, .val (.long ((f5_0 ((f4_0  ((f4_0  j0 j2) + ((j1 * (16 : Int64)) / (17 : Int64))) j3) + ((j1 * (16 : Int64)) / (17 : Int64))) (-9223372036854775808 : Int64)) + (2000000 : Int64))), .second, .val (.long (ua + ((j1 * (16 : Int64)) / (17 : Int64)))), .second, .val (.long (ub + ((j1 * (16 : Int64)) / (17 : Int64)))), .second] [])) (fun t k => XS.ifNo X6.here hx rfl (hb hby at_121) rfl ((if0 _ _).trans (teq ((lw_eq _ _).mpr hc12)).2) k) ?_
  refine own_by (B := T6.setTop (mkF m 125 #[.val (.long j0), .second, .val (.long j1), .second, .val (.long j2), .second, .val (.long j3), .second, .val (.ref b1), .val (.long ((j1 * (16 : Int64)) / (17 : Int64))), .second, .val (.long ((f5_0 ((f4_0  j0 j2) + ((j1 * (16 : Int64)) / (17 : Int64))) (-9223372036854775808 : Int64)) + (2000000 : Int64))), .second, .val (.long ((f5_0 ((f4_0  ((f4_0  j0 j2) + ((j1 * (16 : Int64)) / (17 : Int64))) j3) + ((j1 * (16 : Int64)) / (17 : Int64))) (-9223372036854775808 : Int64)) + (2000000 : Int64))), .second, .val (.long (ua + ((j1 * (16 : Int64)) / (17 : Int64)))), .second, .val (.long (ub + ((j1 * (16 : Int64)) / (17 : Int64)))), .second] [(.int (1 : Int32))])) (fun t k => XS.iconst X6.here hx rfl (hb hby at_124) k) ?_
  refine own_by (B := T6.setTop (mkF m 129 #[.val (.long j0), .second, .val (.long j1), .second, .val (.long j2), .second, .val (.long j3), .second, .val (.ref b1), .val (.long ((j1 * (16 : Int64)) / (17 : Int64))), .second, .val (.long ((f5_0 ((f4_0  j0 j2) + ((j1 * (16 : Int64)) / (17 : Int64))) (-9223372036854775808 : Int64)) + (2000000 : Int64))), .second, .val (.long ((f5_0 ((f4_0  ((f4_0  j0 j2) + ((j1 * (16 : Int64)) / (17 : Int64))) j3) + ((j1 * (16 : Int64)) / (17 : Int64))) (-9223372036854775808 : Int64)) + (2000000 : Int64))), .second, .val (.long (ua + ((j1 * (16 : Int64)) / (17 : Int64)))), .second, .val (.long (ub + ((j1 * (16 : Int64)) / (17 : Int64)))), .second] [(.int (1 : Int32))])) (fun t k => XS.goto X6.here hx rfl (pc0 := 125) (pc' := 129) rfl (hb hby at_125) (by decide) (by decide) k) ?_
  exact own_retN (t := .boolean) (by simp) X6 hx hlk hret (by decide) (hb hby at_129) ⟨rfl, NF⟩ (by decide) (by decide)
set_option maxRecDepth 65536 in
set_option maxHeartbeats 40000000 in
theorem comes_1 {Post : Tables → Env → Array Value → State → Outcome → State → Prop} (hpost : ∀ tb e args s v u, (limb_1_1.after args s (.returned v) u = true ∧ limb_1_2.after args s (.returned v) u = true ∧ True) → FrameEnd s (.returned v) u (Jvm.fieldLocs frame_1_writes args s ++ Jvm.arrayLocs frame_1_arrays args s ++ Jvm.staticLocs frame_1_statics s) 16 128 → Post tb e args s (.returned v) u) :
    ArmFor flags0 classFile x code maxLocals ret World_1 tables_1 room_1 Calls_1 rest_1 Pre_1 Post := by
  intro l hfl _ _ p e ha hc hk s m args below hf hA hF happ hP
  obtain ⟨hcalls, hrest, hpre⟩ := hP
  obtain ⟨-, -, -, hnamed, -, -, -, hat⟩ := (Spec.applies_iff hf).mp happ
  obtain ⟨hg, hn⟩ := and_e (Cond.before_iff.mp (show (Jvm.Cond.and given_1 narrow_1).before args s = true from hpre))
  obtain ⟨gg1, gg2⟩ := and_e hg
  obtain ⟨gg3, gg4⟩ := and_e gg2
  obtain ⟨gg5, gg6⟩ := and_e gg4
  obtain ⟨gg7, gg8⟩ := and_e gg6
  obtain ⟨w0, w1, w2, w3, rfl⟩ : ∃ w0 w1 w2 w3 : Value, args = #[w0, w1, w2, w3] := by
    have hs : args.size = 4 := by simpa [Cond.value, given_1] using gg1
    obtain ⟨L⟩ := args
    match L, hs with
    | [w0, w1, w2, w3], _ => exact ⟨w0, w1, w2, w3, rfl⟩
  have hw := fun d (hd : d ∈ tables_1) => atoms_spec (ws := Jvm.Cond.code x code maxLocals ret :: tables_1) hat d (List.mem_cons_of_mem _ hd)
  obtain ⟨i0, ei0⟩ := isL_v gg3
  obtain rfl : w0 = (.long i0) := Option.some.inj ei0
  obtain ⟨i1, ei1⟩ := isL_v gg5
  obtain rfl : w1 = (.long i1) := Option.some.inj ei1
  obtain ⟨i2, ei2⟩ := isL_v gg7
  obtain rfl : w2 = (.long i2) := Option.some.inj ei2
  obtain ⟨i3, ei3⟩ := isL_v gg8
  obtain rfl : w3 = (.long i3) := Option.some.inj ei3
  obtain ⟨n, o, h1, h2, h3, _, L, rfl, ⟨rfl, N⟩, hq⟩ := rm0 l s _ hw tables_1 i0 i1 i2 i3 s.heap s.heap.size (Nat.le_refl _) p e ha hc hk s m _ below hf ((Spec.applies_iff_loose hf).mp happ).1 ⟨rfl, State.Warmed39.refl s, rfl⟩ trivial
  refine ⟨n, _, h1, h2, h3, hpost _ _ _ _ _ _ ⟨Cond.after_iff.mpr rfl, Cond.after_iff.mpr (eq_i res_at (Term.int_eval (1)) rfl), trivial⟩ ⟨hq.1, hq.2.1, (hq.2.2.sift fun y hy => Or.inr (N y hy)).mono (by decide) (by decide)⟩⟩
theorem main_1_1 : Claimed_1_1 := comes_1 fun _ _ _ _ _ _ h hF => ⟨h.1, hF⟩
theorem main_1_2 : Claimed_1_2 := comes_1 fun _ _ _ _ _ _ h hF => ⟨h.2.1, hF⟩
end Jvm.Pilot.@@N@@
namespace Jvm.Pilot.@@N@@
open Jvm Jvm.ClassFile Sem Op Lib Jvm.Free Jvm.Stand Jvm.Pilot.@@N@@.Jvm.D
/-! MADE BY PROGRAM (witnessworld.py) out of the Statement's table words and the real class files: 10 classes; the members and pool entries that the words name. The judged class is class 1, her method 1. -/
namespace start1
open Jvm.ClassFile
def u (s : String) : CpInfo := .utf8 (stringToUtf16 s)
/-- a pool by its gaps: so many unusable entries, then the entry; so many at the end -/
def gap : Nat → List CpInfo → List CpInfo
  | 0, r => r
  | n + 1, r => .unusable :: gap n r
def poolList (es : List (Nat × CpInfo)) (last : Nat) : List CpInfo := es.foldr (fun e r => gap e.1 (e.2 :: r)) (gap last [])
def pool (es : List (Nat × CpInfo)) (last : Nat) : Array CpInfo := ⟨poolList es last⟩
def fileOf (pool : Array CpInfo) (this : Nat) (attrs : Array Attribute := #[]) (ms : Array MethodInfo := #[]) (fl : Nat := 33) (sup : Nat := 0) (ifs : Array Nat := #[]) (fds : Array FieldInfo := #[]) : ClassFile where
  minorVersion := 0
  majorVersion := 65
  constantPool := pool
  accessFlags := fl
  thisClass := this
  superClass := sup
  interfaces := ifs
  fields := fds
  methods := ms
  attributes := attrs
def plain (name : String) (sup : Option ClassId) : Class where
  name := name
  kind := .ordinary
  loader := none
  accessFlags := 33
  super := sup
  interfaces := #[]
  cf := none
  fields := #[]
  methods := #[]
  instanceTypes := #[]
  staticTypes := #[]
  resolved := #[]
  callSites := []
  init := .initialized
  statics := none
  mirror := none

def pool0 : Array CpInfo := pool [(5, u "<init>"), (0, u "()V"), (1, .class_ 10), (1, u "java/lang/Object")] 113

def k0c0 : Code := { maxStack := 0, maxLocals := 1, code := object_method_1_code, exceptionTable := #[], attributes := #[] }
def k0m0 : Method := { name := "<init>", desc := "()V", sig := { parameters := [], returnType := none }, accessFlags := 1, code := some k0c0 }
/-- java/lang/Object -/
def k0 : Class := { plain "java/lang/Object" none with
  accessFlags := 33
  interfaces := #[]
  cf := some (fileOf pool0 8 #[] #[{ accessFlags := 1, nameIndex := 5, descriptorIndex := 6, attributes := #[] }] 33 0 #[] #[])
  fields := #[]
  methods := #[k0m0]
  instanceTypes := #[]
  staticTypes := #[]
  resolved := Array.replicate 124 none
  statics := none }

def pool1 : Array CpInfo := pool [(2, .class_ 4), (1, u "java/lang/Object"), (0, u "<init>"), (0, u "()V"), (0, .class_ 8), (0, u "com/example/pathmeter/pathmeter/probe/Pacer"), (0, .methodref 7 10), (0, .nameAndType 5 11), (0, u "(JJ)V"), (0, .long 16), (1, .long 17), (1, .methodref 7 17), (0, .nameAndType 18 19), (0, u "sent"), (0, u "(J)V"), (2, .long 9223372036854775808), (1, .methodref 7 25), (0, .nameAndType 26 27), (0, u "earliestNanos"), (0, u "(J)J"), (0, .long 2000000), (1, .class_ 31), (0, u "com/example/pathmeter/pathmeter/probe/PacerSentPinLaw"), (2, u "law"), (0, u "(JJJJ)Z")] 3

def k1m0 : Method := { name := "<init>", desc := "()V", sig := { parameters := [], returnType := none }, accessFlags := 1, code := none }
def k1c1 : Code := { maxStack := 6, maxLocals := 19, code := code, exceptionTable := #[], attributes := #[] }
def k1m1 : Method := { name := "law", desc := "(JJJJ)Z", sig := { parameters := [.long, .long, .long, .long], returnType := some .boolean }, accessFlags := 9, code := some k1c1 }
/-- com/example/pathmeter/pathmeter/probe/PacerSentPinLaw -/
def k1 : Class := { plain "com/example/pathmeter/pathmeter/probe/PacerSentPinLaw" (some 0) with
  accessFlags := 49
  interfaces := #[]
  cf := some (fileOf pool1 30 #[] #[{ accessFlags := 1, nameIndex := 5, descriptorIndex := 6, attributes := #[] }, { accessFlags := 9, nameIndex := 34, descriptorIndex := 35, attributes := #[] }] 49 2 #[] #[])
  fields := #[]
  methods := #[k1m0, k1m1]
  instanceTypes := #[]
  staticTypes := #[]
  resolved := Array.replicate 39 none
  statics := none }

def pool2 : Array CpInfo := pool [(1, .methodref 2 3), (0, .class_ 4), (0, .nameAndType 5 6), (0, u "java/lang/Object"), (0, u "<init>"), (0, u "()V"), (0, .long 16), (1, .class_ 10), (0, u "com/example/pathmeter/pathmeter/probe/Pacer"), (0, .long 17), (1, .fieldref 9 14), (0, .nameAndType 15 16), (0, u "intervalNanos"), (0, u "J"), (0, .fieldref 9 18), (0, .nameAndType 19 16), (0, u "paceNanos"), (0, .long 2000000), (1, .methodref 23 24), (0, .class_ 25), (0, .nameAndType 26 27), (0, u "java/lang/Math"), (0, u "max"), (0, u "(JJ)J"), (0, u "TOLERANCE_NANOS"), (1, u "CATCH_UP_SIXTEENTHS"), (0, u "(JJ)V"), (2, u "earliestNanos"), (0, u "(J)J"), (0, u "sent"), (0, u "(J)V")] 2

def k2c0 : Code := { maxStack := 5, maxLocals := 5, code := prog_53_method_1_code, exceptionTable := #[], attributes := #[] }
def k2m0 : Method := { name := "<init>", desc := "(JJ)V", sig := { parameters := [.long, .long], returnType := none }, accessFlags := 0, code := some k2c0 }
def k2c1 : Code := { maxStack := 6, maxLocals := 3, code := prog_53_method_2_code, exceptionTable := #[], attributes := #[] }
def k2m1 : Method := { name := "earliestNanos", desc := "(J)J", sig := { parameters := [.long], returnType := some .long }, accessFlags := 0, code := some k2c1 }
def k2c2 : Code := { maxStack := 5, maxLocals := 3, code := prog_53_method_3_code, exceptionTable := #[], attributes := #[] }
def k2m2 : Method := { name := "sent", desc := "(J)V", sig := { parameters := [.long], returnType := none }, accessFlags := 0, code := some k2c2 }
/-- com/example/pathmeter/pathmeter/probe/Pacer -/
def k2 : Class := { plain "com/example/pathmeter/pathmeter/probe/Pacer" (some 0) with
  accessFlags := 48
  interfaces := #[]
  cf := some (fileOf pool2 9 #[] #[{ accessFlags := 0, nameIndex := 5, descriptorIndex := 31, attributes := #[] }, { accessFlags := 0, nameIndex := 34, descriptorIndex := 35, attributes := #[] }, { accessFlags := 0, nameIndex := 36, descriptorIndex := 37, attributes := #[] }] 48 2 #[] #[{ accessFlags := 24, nameIndex := 28, descriptorIndex := 16, attributes := #[] }, { accessFlags := 26, nameIndex := 30, descriptorIndex := 16, attributes := #[] }, { accessFlags := 18, nameIndex := 15, descriptorIndex := 16, attributes := #[] }, { accessFlags := 2, nameIndex := 19, descriptorIndex := 16, attributes := #[] }])
  fields := #[{ name := "TOLERANCE_NANOS", type := .long, accessFlags := 24, slot := 0, constantValue := 0 }, { name := "CATCH_UP_SIXTEENTHS", type := .long, accessFlags := 26, slot := 1, constantValue := 0 }, { name := "intervalNanos", type := .long, accessFlags := 18, slot := 0, constantValue := 0 }, { name := "paceNanos", type := .long, accessFlags := 2, slot := 1, constantValue := 0 }]
  methods := #[k2m0, k2m1, k2m2]
  instanceTypes := #[.long, .long]
  staticTypes := #[.long, .long]
  resolved := Array.replicate 40 none
  statics := none }

def pool3 : Array CpInfo := pool [(1, .class_ 2), (0, u "java/lang/Math"), (1, .class_ 6), (1, u "java/lang/Object"), (0, u "<init>"), (0, u "()V"), (89, .class_ 100), (1, u "java/lang/Math$RandomNumberGeneratorHolder"), (20, u "(JJ)J"), (50, u "negativeZeroFloatBits"), (0, u "J"), (2, u "negativeZeroDoubleBits"), (21, u "max"), (46, u "$assertionsDisabled"), (0, u "Z"), (91, u "twoToTheDoubleScaleDown"), (0, u "D"), (4, u "twoToTheDoubleScaleUp"), (9, u "E"), (3, u "PI"), (2, u "TAU"), (2, u "DEGREES_TO_RADIANS"), (0, u "RADIANS_TO_DEGREES")] 94

def k3m0 : Method := { name := "<init>", desc := "()V", sig := { parameters := [], returnType := none }, accessFlags := 2, code := none }
def k3c1 : Code := { maxStack := 4, maxLocals := 4, code := jdk_29_method_66_code, exceptionTable := #[], attributes := #[] }
def k3m1 : Method := { name := "max", desc := "(JJ)J", sig := { parameters := [.long, .long], returnType := some .long }, accessFlags := 9, code := some k3c1 }
/-- java/lang/Math -/
def k3 : Class := { plain "java/lang/Math" (some 0) with
  accessFlags := 49
  interfaces := #[]
  cf := some (fileOf pool3 1 #[.nestMembers #[98]] #[{ accessFlags := 2, nameIndex := 7, descriptorIndex := 8, attributes := #[] }, { accessFlags := 9, nameIndex := 198, descriptorIndex := 121, attributes := #[] }] 49 4 #[] #[{ accessFlags := 25, nameIndex := 354, descriptorIndex := 339, attributes := #[] }, { accessFlags := 25, nameIndex := 358, descriptorIndex := 339, attributes := #[] }, { accessFlags := 25, nameIndex := 361, descriptorIndex := 339, attributes := #[] }, { accessFlags := 26, nameIndex := 364, descriptorIndex := 339, attributes := #[] }, { accessFlags := 26, nameIndex := 365, descriptorIndex := 339, attributes := #[] }, { accessFlags := 26, nameIndex := 172, descriptorIndex := 173, attributes := #[] }, { accessFlags := 26, nameIndex := 176, descriptorIndex := 173, attributes := #[] }, { accessFlags := 8, nameIndex := 344, descriptorIndex := 339, attributes := #[] }, { accessFlags := 8, nameIndex := 338, descriptorIndex := 339, attributes := #[] }, { accessFlags := 4120, nameIndex := 245, descriptorIndex := 246, attributes := #[] }])
  fields := #[{ name := "E", type := .double, accessFlags := 25, slot := 0, constantValue := 0 }, { name := "PI", type := .double, accessFlags := 25, slot := 1, constantValue := 0 }, { name := "TAU", type := .double, accessFlags := 25, slot := 2, constantValue := 0 }, { name := "DEGREES_TO_RADIANS", type := .double, accessFlags := 26, slot := 3, constantValue := 0 }, { name := "RADIANS_TO_DEGREES", type := .double, accessFlags := 26, slot := 4, constantValue := 0 }, { name := "negativeZeroFloatBits", type := .long, accessFlags := 26, slot := 5, constantValue := 0 }, { name := "negativeZeroDoubleBits", type := .long, accessFlags := 26, slot := 6, constantValue := 0 }, { name := "twoToTheDoubleScaleUp", type := .double, accessFlags := 8, slot := 7, constantValue := 0 }, { name := "twoToTheDoubleScaleDown", type := .double, accessFlags := 8, slot := 8, constantValue := 0 }, { name := "$assertionsDisabled", type := .boolean, accessFlags := 4120, slot := 9, constantValue := 0 }]
  methods := #[k3m0, k3m1]
  instanceTypes := #[]
  staticTypes := #[.double, .double, .double, .double, .double, .long, .long, .double, .double, .boolean]
  resolved := Array.replicate 460 none
  statics := none }

def pool4 : Array CpInfo := pool [(1, u "java/lang/Cloneable"), (0, .class_ 1), (0, u "java/lang/Object"), (0, .class_ 3)] 3

/-- java/lang/Cloneable -/
def k4 : Class := { plain "java/lang/Cloneable" (some 0) with
  accessFlags := 1537
  interfaces := #[]
  cf := some (fileOf pool4 2 #[] #[] 1537 4 #[] #[])
  fields := #[]
  methods := #[]
  instanceTypes := #[]
  staticTypes := #[]
  resolved := Array.replicate 8 none
  statics := none }

def pool5 : Array CpInfo := pool [(1, u "java/io/Serializable"), (0, .class_ 1), (0, u "java/lang/Object"), (0, .class_ 3)] 3

/-- java/io/Serializable -/
def k5 : Class := { plain "java/io/Serializable" (some 0) with
  accessFlags := 1537
  interfaces := #[]
  cf := some (fileOf pool5 2 #[] #[] 1537 4 #[] #[])
  fields := #[]
  methods := #[]
  instanceTypes := #[]
  staticTypes := #[]
  resolved := Array.replicate 8 none
  statics := none }

/-- the primitive byte -/
def k6 : Class := { plain "byte" none with kind := .primitive 'B', accessFlags := 0x411 }
/-- [B -/
def k7 : Class := { plain "[B" (some 0) with kind := .array 6 .byte, interfaces := #[4, 5], accessFlags := 1041 }

/-- the primitive int -/
def k8 : Class := { plain "int" none with kind := .primitive 'I', accessFlags := 0x411 }
/-- [I -/
def k9 : Class := { plain "[I" (some 0) with kind := .array 8 .int, interfaces := #[4, 5], accessFlags := 1041 }

def heap : Heap := #[]
def classes : Array Class := #[k0, k1, k2, k3, k4, k5, k6, k7, k8, k9]
def interned : List (Array UInt16 × Addr) := []
def slotsUsed : Nat := 0
def theMethod : MethodId := ⟨1, 1⟩
def args0 : Array Value := #[.long 5, .long 7, .long 3, .long 1]
def aboutOver (below : List Frame) : State where
  vm := { classes := classes, interned := interned.toArray }
  heap := heap
  slotsUsed := slotsUsed
  threads := #[{ frames := .invoking theMethod args0 :: below }]
def below0 : List Frame := [.native { method := ⟨0, 0⟩, args := #[] }]
def about1 : State := aboutOver below0
def p0 : Program := .bare "" "" ""
def e0 : Env := launch0.env 0 0 0
theorem w_frames : about1.frames = Frame.invoking theMethod args0 :: below0 := rfl
set_option maxRecDepth 65536 in
theorem w_args : argsFit about1.vm theMethod args0 = true := by decide +kernel
set_option maxRecDepth 65536 in
theorem w_heap : heapFits about1 = true := by decide +kernel
set_option maxRecDepth 65536 in
theorem w_runnable : about1.curStatus? = some .runnable := by decide +kernel
set_option maxRecDepth 65536 in
theorem w_alone : about1.alone = true := by decide +kernel
set_option maxRecDepth 65536 in
theorem w_named : about1.methodNamed? x = some theMethod := by decide +kernel
set_option maxRecDepth 65536 in
theorem w_hears : about1.hears theMethod below0 = true := by decide +kernel
set_option maxRecDepth 65536 in
theorem w_ripe : about1.ripe theMethod args0 below0 = true := by decide +kernel
theorem w_running : about1.status = .running := rfl
set_option maxRecDepth 65536 in
theorem w_room : about1.hasRoom e0.platform room_1 = true :=
  launch0.hasRoom_least _ room_1 (by decide +kernel) (by decide +kernel) (by decide +kernel) (by decide +kernel) (by decide +kernel) (by decide +kernel)
theorem allAtoms_all (ts : List Jvm.Cond) (a : Array Jvm.Value) (st : Jvm.State) : (allAtoms ts).before a st = ts.all (fun c => c.before a st) := by
  induction ts with
  | nil => rfl
  | cons c t ih =>
    show (Jvm.Cond.and c (allAtoms t)).before a st = _
    rw [Jvm.Cond.before_and, ih, List.all_cons]
def words1 : List Jvm.Cond := Jvm.Cond.code x code maxLocals ret :: tables_1
/-- a 'code' word, met by the world's own term for the bytes: nothing is compared byte by byte -/
theorem code_word {y : MethodName} {bytes : ByteArray} {mx : Nat} {rt : Option FieldType} {a : Array Value} {s : State} {m : MethodId} {meth : Method} {c : Code} (h1 : s.methodNamed? y = some m) (h2 : s.vm.method? m = some meth) (h3 : meth.code = some c) (h4 : c.code = bytes)
    (h5 : (c.maxLocals == mx && c.exceptionTable.isEmpty && decide (c.maxStack ≤ mostOperands) && decide (meth.sig.returnType = rt) && !meth.locks && decide (parseMethodDescriptor y.desc = some meth.sig)) = true) : (Jvm.Cond.code y bytes mx rt).before a s = true := by
  simp only [Bool.and_eq_true, beq_iff_eq, Bool.not_eq_true', decide_eq_true_eq] at h5
  obtain ⟨⟨⟨⟨⟨g1, g2⟩, g3⟩, g4⟩, g5⟩, g6⟩ := h5
  simp [Cond.before, Cond.holds, Cond.value, h1, h2, h3, h4, g1, g2, g3, g4, g5, g6]
def isCode : Jvm.Cond → Bool
  | .code _ _ _ _ => true
  | _ => false
theorem all_split {L : List Jvm.Cond} {P : Jvm.Cond → Bool} (h1 : L.all (fun c => isCode c || P c) = true) (h2 : ∀ c ∈ L.filter isCode, P c = true) : L.all P = true := by
  refine List.all_eq_true.mpr fun c hc => ?_
  have h := List.all_eq_true.mp h1 c hc
  rcases Bool.eq_false_or_eq_true (isCode c) with hi | hi
  · exact h2 c (List.mem_filter.mpr ⟨hc, hi⟩)
  · simpa [hi] using h
set_option maxRecDepth 65536 in
theorem w_c0 : (Jvm.Cond.code x code maxLocals ret).before args0 about1 = true := code_word (m := ⟨1, 1⟩) (meth := k1m1) (c := k1c1) (by decide +kernel) rfl rfl rfl (by decide +kernel)
set_option maxRecDepth 65536 in
theorem w_c1 : (Jvm.Cond.code ({ cls := "com/example/pathmeter/pathmeter/probe/Pacer", name := "<init>", desc := "(JJ)V" } : Jvm.MethodName) prog_53_method_1_code (5 : Nat) (Option.none : Option Jvm.ClassFile.FieldType)).before args0 about1 = true := code_word (m := ⟨2, 0⟩) (meth := k2m0) (c := k2c0) (by decide +kernel) rfl rfl rfl (by decide +kernel)
set_option maxRecDepth 65536 in
theorem w_c2 : (Jvm.Cond.code ({ cls := "java/lang/Object", name := "<init>", desc := "()V" } : Jvm.MethodName) object_method_1_code (1 : Nat) (Option.none : Option Jvm.ClassFile.FieldType)).before args0 about1 = true := code_word (m := ⟨0, 0⟩) (meth := k0m0) (c := k0c0) (by decide +kernel) rfl rfl rfl (by decide +kernel)
set_option maxRecDepth 65536 in
theorem w_c3 : (Jvm.Cond.code ({ cls := "com/example/pathmeter/pathmeter/probe/Pacer", name := "sent", desc := "(J)V" } : Jvm.MethodName) prog_53_method_3_code (3 : Nat) (Option.none : Option Jvm.ClassFile.FieldType)).before args0 about1 = true := code_word (m := ⟨2, 2⟩) (meth := k2m2) (c := k2c2) (by decide +kernel) rfl rfl rfl (by decide +kernel)
set_option maxRecDepth 65536 in
theorem w_c4 : (Jvm.Cond.code ({ cls := "java/lang/Math", name := "max", desc := "(JJ)J" } : Jvm.MethodName) jdk_29_method_66_code (4 : Nat) (Option.some Jvm.ClassFile.FieldType.long)).before args0 about1 = true := code_word (m := ⟨3, 1⟩) (meth := k3m1) (c := k3c1) (by decide +kernel) rfl rfl rfl (by decide +kernel)
set_option maxRecDepth 65536 in
theorem w_c5 : (Jvm.Cond.code ({ cls := "com/example/pathmeter/pathmeter/probe/Pacer", name := "earliestNanos", desc := "(J)J" } : Jvm.MethodName) prog_53_method_2_code (3 : Nat) (Option.some Jvm.ClassFile.FieldType.long)).before args0 about1 = true := code_word (m := ⟨2, 1⟩) (meth := k2m1) (c := k2c1) (by decide +kernel) rfl rfl rfl (by decide +kernel)
def codes1 : List Jvm.Cond := [Jvm.Cond.code x code maxLocals ret, Jvm.Cond.code ({ cls := "com/example/pathmeter/pathmeter/probe/Pacer", name := "<init>", desc := "(JJ)V" } : Jvm.MethodName) prog_53_method_1_code (5 : Nat) (Option.none : Option Jvm.ClassFile.FieldType), Jvm.Cond.code ({ cls := "java/lang/Object", name := "<init>", desc := "()V" } : Jvm.MethodName) object_method_1_code (1 : Nat) (Option.none : Option Jvm.ClassFile.FieldType), Jvm.Cond.code ({ cls := "com/example/pathmeter/pathmeter/probe/Pacer", name := "sent", desc := "(J)V" } : Jvm.MethodName) prog_53_method_3_code (3 : Nat) (Option.none : Option Jvm.ClassFile.FieldType), Jvm.Cond.code ({ cls := "java/lang/Math", name := "max", desc := "(JJ)J" } : Jvm.MethodName) jdk_29_method_66_code (4 : Nat) (Option.some Jvm.ClassFile.FieldType.long), Jvm.Cond.code ({ cls := "com/example/pathmeter/pathmeter/probe/Pacer", name := "earliestNanos", desc := "(J)J" } : Jvm.MethodName) prog_53_method_2_code (3 : Nat) (Option.some Jvm.ClassFile.FieldType.long)]
set_option maxRecDepth 65536 in
theorem codes_eq : words1.filter isCode = codes1 := rfl
theorem w_codes : ∀ c ∈ words1.filter isCode, c.before args0 about1 = true := by
  rw [codes_eq]
  intro c hc
  simp only [codes1, List.mem_cons, List.not_mem_nil, or_false] at hc
  rcases hc with rfl | rfl | rfl | rfl | rfl | rfl
  · exact w_c0
  · exact w_c1
  · exact w_c2
  · exact w_c3
  · exact w_c4
  · exact w_c5
set_option maxRecDepth 65536 in
theorem w_t1 : (words1.take 24).all (fun c => isCode c || c.before args0 about1) = true := by decide +kernel
set_option maxRecDepth 65536 in
theorem w_t2 : (words1.drop 24).all (fun c => isCode c || c.before args0 about1) = true := by decide +kernel
theorem w_tables : (allAtoms (Jvm.Cond.code x code maxLocals ret :: tables_1)).before args0 about1 = true := by
  rw [allAtoms_all]
  show words1.all (fun c => c.before args0 about1) = true
  refine all_split ?_ w_codes
  rw [← List.take_append_drop 24 words1, List.all_append, w_t1, w_t2]
  rfl
set_option maxRecDepth 65536 in
theorem w_case : (Jvm.Cond.and given_1 narrow_1).before args0 about1 = true := by decide +kernel
theorem w_applies : (headSpec (Jvm.Cond.code x code maxLocals ret :: tables_1) room_1).applies x e0.platform about1 = true :=
  (Spec.applies_iff w_frames).mpr ⟨w_running, w_runnable, w_alone, w_named, w_hears, w_ripe, w_room, w_tables⟩
theorem atStart : AtStart classFile x code maxLocals ret World_1 tables_1 room_1 Calls_1 rest_1 Pre_1 launch0 p0 e0 about1 theMethod args0 below0 :=
  ⟨lists_1, trivial, launch0.admits_env _ _ _, launch0.least_env, fairChoices_fair.cas, fairChoices_fair.clock, w_frames, w_args, w_heap, w_applies, trivial, trivial, w_case⟩
end start1
theorem witness_1 : WitnessClaimed_1 := ⟨start1.p0, start1.e0, start1.about1, start1.theMethod, start1.args0, start1.below0, start1.atStart⟩
end Jvm.Pilot.@@N@@
