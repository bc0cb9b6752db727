import JvmDerived
import JvmDerived.Pilot.@@N@@Statement
import JvmDerived.Pilot.@@N@@Code
set_option linter.unusedVariables false
set_option linter.unusedSimpArgs false
namespace Jvm.Pilot.@@N@@
open Jvm Jvm.ClassFile Sem Op Lib Jvm.Free Jvm.Stand Jvm.LawKit Jvm.RoadKit Bundle Jvm.Pilot.@@N@@.Jvm.D
/-! THE OWN KIT: the walk from a state to its end, as one proposition (own_Go); its steps, its leaves, its entry. -/
section OwnKit
variable {p : Program} {l : Launch} {e : Env} {R : Room} {s : State} {m : MethodId} {args : Array Value} {below : List Frame} {meth : Method} {c : Code} {T : State} {locs : List Loc} {cells slots : Nat}
variable {Q : Option Value → Heap → List Loc → Prop} {rc rs : Nat}
/-- from U the run ends in a return, and Q says what it leaves -/
def own_Go (p : Program) (e : Env) (below : List Frame) (s : State) (Q : Option Value → Heap → List Loc → Prop) (rc rs : Nat) (U : State) : Prop :=
  ∃ s₂ o, Steps p.tables e below U s₂ ∧ s₂.status = .running ∧ Ended s₂ below o ∧ ∃ v L, o = .returned v ∧ Q v s₂.heap L ∧ FrameEnd s o s₂ L rc rs
theorem own_by {A B : State} (k : ∀ t, Steps p.tables e below B t → Steps p.tables e below A t) (h : own_Go p e below s Q rc rs B) : own_Go p e below s Q rc rs A := by
  obtain ⟨s₂, o, h1, r⟩ := h
  exact ⟨s₂, o, k _ h1, r⟩
theorem own_imp {Q' : Option Value → Heap → List Loc → Prop} {A : State} (k : ∀ v h L, Q v h L → Q' v h L) (h : own_Go p e below s Q rc rs A) : own_Go p e below s Q' rc rs A := by
  obtain ⟨s₂, o, h1, h2, h3, v, L, h4, h5, h6⟩ := h
  exact ⟨s₂, o, h1, h2, h3, v, L, h4, k _ _ _ h5, h6⟩
theorem own_leave (X : Stand p l e R s m args below meth c T locs cells slots) (hlk : meth.locks = false) {v : Option Value} (hv : meth.sig.returnType = none → v = none) {U : State}
    (hst : ∀ fs, (∀ (f : JFrame) (acts : List Action), f.method = m → f.locked = none → f.entered = [] → (doReturn e (T.setTop f) acts v).1 = T.setFrames fs) → Steps p.tables e below U (T.setFrames fs))
    (hq : Q v T.heap locs) (hc : cells ≤ rc) (hs : slots ≤ rs) : own_Go p e below s Q rc rs U := by
  obtain ⟨fs, hr, hrun, hended, hW, hsame⟩ := X.leave (v := v) hv hlk
  exact ⟨_, _, hst fs hr, hrun, hended, _, _, rfl, hq, ⟨_, rfl⟩, hW, hsame.mono hc hs⟩
theorem own_ret (X : Stand p l e R s m args below meth c T locs cells slots) (hx : p.tables.exec = Jvm.exec) (hlk : meth.locks = false) (hret : meth.sig.returnType = none) {pc : Nat} {Ls : Array Slot} (hd : decode c.code pc = .ok (.return_, 1))
    (hq : Q none T.heap locs) (hc : cells ≤ rc) (hs : slots ≤ rs) : own_Go p e below s Q rc rs (T.setTop (mkF m pc Ls [])) :=
  own_leave X hlk (fun _ => rfl) (fun _ hr => X.returnOut hx hret hd hr) hq hc hs
theorem own_retI (X : Stand p l e R s m args below meth c T locs cells slots) (hx : p.tables.exec = Jvm.exec) (hlk : meth.locks = false) (hret : meth.sig.returnType = some .int) {pc : Nat} {Ls : Array Slot} {z : Int32} (hd : decode c.code pc = .ok (.ireturn, 1))
    (hq : Q (some (.int z)) T.heap locs) (hc : cells ≤ rc) (hs : slots ≤ rs) : own_Go p e below s Q rc rs (T.setTop (mkF m pc Ls [.int z])) :=
  own_leave X hlk (fun h => by rw [hret] at h; cases h) (fun _ hr => X.ireturnOut hx hret rfl (Or.inl rfl) hd hr) hq hc hs
theorem own_retN {t : FieldType} (ht : t = .boolean ∨ t = .byte ∨ t = .char ∨ t = .short) (X : Stand p l e R s m args below meth c T locs cells slots) (hx : p.tables.exec = Jvm.exec) (hlk : meth.locks = false) (hret : meth.sig.returnType = some t) {pc : Nat} {Ls : Array Slot} {z z' : Int32} (hn : nar t z = z') (hd : decode c.code pc = .ok (.ireturn, 1))
    (hq : Q (some (.int z')) T.heap locs) (hc : cells ≤ rc) (hs : slots ≤ rs) : own_Go p e below s Q rc rs (T.setTop (mkF m pc Ls [.int z])) := by
  subst hn
  exact own_leave X hlk (fun h => by rw [hret] at h; cases h) (fun _ hr => retN X hx hret ht hd hr) hq hc hs
theorem own_retJ (X : Stand p l e R s m args below meth c T locs cells slots) (hx : p.tables.exec = Jvm.exec) (hlk : meth.locks = false) (hret : meth.sig.returnType = some .long) {pc : Nat} {Ls : Array Slot} {z : Int64} (hd : decode c.code pc = .ok (.lreturn, 1))
    (hq : Q (some (.long z)) T.heap locs) (hc : cells ≤ rc) (hs : slots ≤ rs) : own_Go p e below s Q rc rs (T.setTop (mkF m pc Ls [.long z])) :=
  own_leave X hlk (fun h => by rw [hret] at h; cases h) (fun _ hr => X.lreturnOut hx hret hd hr) hq hc hs
theorem own_retA {t : FieldType} (ht : t.isReference = true) (X : Stand p l e R s m args below meth c T locs cells slots) (hx : p.tables.exec = Jvm.exec) (hlk : meth.locks = false) (hret : meth.sig.returnType = some t) {pc : Nat} {Ls : Array Slot} {a : Addr} (hd : decode c.code pc = .ok (.areturn, 1))
    (hq : Q (some (.ref a)) T.heap locs) (hc : cells ≤ rc) (hs : slots ≤ rs) : own_Go p e below s Q rc rs (T.setTop (mkF m pc Ls [.ref a])) :=
  own_leave X hlk (fun h => by rw [hret] at h; cases h) (fun _ hr => X.areturnOut hx rfl hret ht hd hr) hq hc hs
/-- a body's contract out of its walk -/
theorem own_met {y : MethodName} {bytes : ByteArray} {maxL : Nat} {ret : Option FieldType} {ws : List Jvm.Cond} {rm : Room} {as' : Array Value} {Z : State} {h0 : Heap} (hpl : plainFor y = true)
    (body : ∀ (p : Program) (e : Env) (s : State) (m : MethodId) (below : List Frame) (meth : Method) (c : Code) (T : State), Stand p l e rm s m as' below meth c T [] 0 0 → p.tables.exec = Jvm.exec → c.code = bytes → c.maxLocals = maxL → meth.sig.returnType = ret → meth.locks = false →
      Z.Warmed39 s.vm → s.vm.findClass y.cls = some m.cls → meth.name = y.name → T.heap = h0 → own_Go p e below s Q rc rs (T.setTop (entryFrame m as' maxL))) :
    MetFree l y (head1 (Jvm.Cond.code y bytes maxL ret :: ws) rm) (fun a U => a = as' ∧ Z.Warmed39 U.vm ∧ U.heap = h0) (fun _ _ _ _ _ => True) (fun _ U o U' => ∃ v L, o = .returned v ∧ Q v U'.heap L ∧ FrameEnd U o U' L rc rs) := by
  refine MetFree.of_bodySF hpl hisR ?_
  intro p e s m args below meth c s₁ Bd hml0 hP hK
  obtain ⟨rfl, hZ, hh⟩ := hP
  exact body p e s m below meth c s₁ (Stand.of_body Bd) Bd.exec Bd.bytes hml0 Bd.returns (BodyLoose.notSynchronized Bd) hZ (findClass_of_methodNamed Bd.named) (name_of_methodNamed Bd.named Bd.method).1 (by rw [← hh, Bd.state]; rfl)
theorem own_cast {g g' : JFrame} (q : g = g') (k : own_Go p e below s Q rc rs (T.setTop g')) : own_Go p e below s Q rc rs (T.setTop g) := q ▸ k
/-- what a body that writes nothing leaves -/
def own_Qp (r : Option Value) (h0 : Heap) (v : Option Value) (h : Heap) (L : List Loc) : Prop := v = r ∧ L = [] ∧ h = h0
theorem own_selPriv {a1 a2 : Array Value} {y y' z' : MethodName} {C : String} (h : (Jvm.Cond.selects C y' z').before a1 s = true) (hz : z'.cls = y.cls) (hpriv : s.PrivateAt y) (hinst : (Jvm.Cond.instanceMethod y).before a2 s = true) (hy : y.cls ≠ "java/lang/invoke/MethodHandle" ∧ y.cls ≠ "java/lang/invoke/VarHandle") : (Jvm.Cond.selects y.cls y y).before a2 s = true := by
  obtain ⟨_, _, m2, -, -, q3, -, kP, hkP, hkPi⟩ := Cond.selects_spec h
  exact selects_self_of_private (by rw [← hz]; exact findClass_of_methodNamed q3) hkP hkPi hpriv hinst hy
end OwnKit
theorem pd_0 : parseMethodDescriptor "()V" = some ⟨[], none⟩ := by decide +kernel
theorem pd_1 : parseMethodDescriptor "(II)I" = some ⟨[.int, .int], some .int⟩ := by decide +kernel
theorem pd_2 : parseMethodDescriptor "(II)V" = some ⟨[.int, .int], none⟩ := by decide +kernel
theorem pd_3 : parseMethodDescriptor "(Lcom/example/portico/portico/core/media/MediaType$Acceptance;)I" = some ⟨[(.object "com/example/portico/portico/core/media/MediaType$Acceptance")], some .int⟩ := by decide +kernel
theorem pd_4 : parseMethodDescriptor "()Z" = some ⟨[], some .boolean⟩ := by decide +kernel
theorem d2_0 : decode jdk_30_method_1_code 0 = .ok (.aload_n 0, 1) := by decide +kernel
theorem d2_1 : decode jdk_30_method_1_code 1 = .ok (.invokespecial 1, 3) := by decide +kernel
theorem d2_4 : decode jdk_30_method_1_code 4 = .ok (.return_, 1) := by decide +kernel
theorem pn_2 : plainName "java/lang/Record" = true := by first | (simp [plainName, overriddenIn]; done) | decide +kernel
theorem ef_2 (m : MethodId) (x0 : Addr) : entryFrame m #[(.ref x0)] 1 = mkF m 0 #[.val (.ref x0)] [] := by first | (simp [entryFrame, mkF, argsToLocals, Value.category]; done) | rfl
def own_Q2 (Z : State) (a : Addr) (h0 : Heap) (n0 : Nat) (v : Option Value) (h : Heap) (L : List Loc) : Prop := v = none ∧ Fr n0 L ∧ Keep h0 h []
set_option maxRecDepth 65536 in
set_option maxHeartbeats 40000000 in
theorem rm2 (l : Launch) (Z : State) (a0 : Array Value) (hw : ∀ d ∈ tables_1, d.before a0 Z = true) (ws : List Jvm.Cond) (a : Addr)  (h0 : Heap) (n0 : Nat) (Z0 : n0 ≤ h0.size)     :
    MetFree l (⟨"java/lang/Record", "<init>", "()V"⟩ : MethodName) (head1 (Jvm.Cond.code (⟨"java/lang/Record", "<init>", "()V"⟩ : MethodName) jdk_30_method_1_code 1 none :: ws) ({ frames := 1, cells := 0, slots := 0, locals := 12 } : Room)) (fun aa U => aa = #[(.ref a)] ∧ Z.Warmed39 U.vm ∧ U.heap = h0) (fun _ _ _ _ _ => True) (fun _ U o U' => ∃ v L, o = .returned v ∧ own_Q2 Z a h0 n0 v U'.heap L ∧ FrameEnd U o U' L ({ frames := 1, cells := 0, slots := 0, locals := 12 } : Room).cells ({ frames := 1, cells := 0, slots := 0, locals := 12 } : Room).slots) := by
  refine own_met (plainFor_of_name pn_2) fun p e s m below meth c T0 X0 hx hby hml hret hlk hZ hown hnm e0 => ?_
  refine own_cast (ef_2 m a) ?_
  have NF := Fr.nil n0
  have Zs := Z0
  have K := Keep.refl h0 []
  refine own_by (B := T0.setTop (mkF m 1 #[.val (.ref a)] [(.ref a)])) (fun t k => XS.aloadN X0.here hx rfl (hb hby d2_0) rfl rfl k) ?_
  obtain ⟨T1, X1, e1, st1⟩ := initO X0 hx hZ hown (hw _ (List.mem_of_getElem? (i := 11) rfl)) (hw _ (List.mem_of_getElem? (i := 12) rfl)) (hw _ (List.mem_of_getElem? (i := 13) rfl)) e0 (g := (mkF m 1 #[.val (.ref a)] [(.ref a)])) rfl (by rw [hml]; rfl) rfl (hb hby d2_1) (by decide) (W := 0) (by show 2 * 0 + _ ≤ _; exact Nat.le_of_eq rfl) (by decide)
  refine own_by (B := T1.setTop (mkF m 4 #[.val (.ref a)] [])) (fun t k => st1 _ k) ?_
  exact own_ret X1 hx hlk hret (hb hby d2_4) (by show own_Q2 Z a h0 n0 _ _ _; rw [e1]; exact ⟨rfl, NF, K⟩) (by decide) (by decide)
theorem d1_0 : decode prog_36_method_1_code 0 = .ok (.aload_n 0, 1) := by decide +kernel
theorem d1_1 : decode prog_36_method_1_code 1 = .ok (.invokespecial 1, 3) := by decide +kernel
theorem d1_4 : decode prog_36_method_1_code 4 = .ok (.aload_n 0, 1) := by decide +kernel
theorem d1_5 : decode prog_36_method_1_code 5 = .ok (.iload_n 1, 1) := by decide +kernel
theorem d1_6 : decode prog_36_method_1_code 6 = .ok (.putfield 7, 3) := by decide +kernel
theorem d1_9 : decode prog_36_method_1_code 9 = .ok (.aload_n 0, 1) := by decide +kernel
theorem d1_10 : decode prog_36_method_1_code 10 = .ok (.iload_n 2, 1) := by decide +kernel
theorem d1_11 : decode prog_36_method_1_code 11 = .ok (.putfield 13, 3) := by decide +kernel
theorem d1_14 : decode prog_36_method_1_code 14 = .ok (.return_, 1) := by decide +kernel
theorem pn_1 : plainName "com/example/portico/portico/core/media/MediaType$Acceptance" = true := by first | (simp [plainName, overriddenIn]; done) | decide +kernel
theorem ef_1 (m : MethodId) (x0 : Addr) (x1 : Int32) (x2 : Int32) : entryFrame m #[(.ref x0), (.int x1), (.int x2)] 3 = mkF m 0 #[.val (.ref x0), .val (.int x1), .val (.int x2)] [] := by first | (simp [entryFrame, mkF, argsToLocals, Value.category]; done) | rfl
def own_Q1 (Z : State) (a : Addr) (x1 : Int32) (x2 : Int32) (h0 : Heap) (n0 : Nat) (v : Option Value) (h : Heap) (L : List Loc) : Prop := v = none ∧ Fr n0 L ∧ Keep h0 h [a] ∧ Fld Z h a "com/example/portico/portico/core/media/MediaType$Acceptance" "quality" "I" (.int x1) ∧ Fld Z h a "com/example/portico/portico/core/media/MediaType$Acceptance" "specificity" "I" (.int x2) ∧ Exa Z h a "com/example/portico/portico/core/media/MediaType$Acceptance"
set_option maxRecDepth 65536 in
set_option maxHeartbeats 40000000 in
theorem rm1 (l : Launch) (Z : State) (a0 : Array Value) (hw : ∀ d ∈ tables_1, d.before a0 Z = true) (ws : List Jvm.Cond) (a : Addr) (x1 : Int32) (x2 : Int32)  (h0 : Heap) (n0 : Nat) (Z0 : n0 ≤ h0.size) (F_quality_a : Fld Z h0 a "com/example/portico/portico/core/media/MediaType$Acceptance" "quality" "I" (.int (0 : Int32))) (F_specificity_a : Fld Z h0 a "com/example/portico/portico/core/media/MediaType$Acceptance" "specificity" "I" (.int (0 : Int32))) (E_a : Exa Z h0 a "com/example/portico/portico/core/media/MediaType$Acceptance") (g_a : n0 ≤ a)   :
    MetFree l (⟨"com/example/portico/portico/core/media/MediaType$Acceptance", "<init>", "(II)V"⟩ : MethodName) (head1 (Jvm.Cond.code (⟨"com/example/portico/portico/core/media/MediaType$Acceptance", "<init>", "(II)V"⟩ : MethodName) prog_36_method_1_code 3 none :: ws) ({ frames := 2, cells := 0, slots := 0, locals := 24 } : Room)) (fun aa U => aa = #[(.ref a), (.int x1), (.int x2)] ∧ Z.Warmed39 U.vm ∧ U.heap = h0) (fun _ _ _ _ _ => True) (fun _ U o U' => ∃ v L, o = .returned v ∧ own_Q1 Z a x1 x2 h0 n0 v U'.heap L ∧ FrameEnd U o U' L ({ frames := 2, cells := 0, slots := 0, locals := 24 } : Room).cells ({ frames := 2, cells := 0, slots := 0, locals := 24 } : Room).slots) := by
  refine own_met (plainFor_of_name pn_1) fun p e s m below meth c T0 X0 hx hby hml hret hlk hZ hown hnm e0 => ?_
  refine own_cast (ef_1 m a x1 x2) ?_
  have NF := Fr.nil n0
  have Zs := Z0
  have K := Keep.refl h0 [a]
  refine own_by (B := T0.setTop (mkF m 1 #[.val (.ref a), .val (.int x1), .val (.int x2)] [(.ref a)])) (fun t k => XS.aloadN X0.here hx rfl (hb hby d1_0) rfl rfl k) ?_
  obtain ⟨v1, _, ⟨T1, L1, c1, n1⟩, -, X1, ⟨Lc1, hQ1, l1, y1, z1⟩, st1⟩ := X0.specialBack hx (y := (⟨"java/lang/Record", "<init>", "()V"⟩ : MethodName)) rfl hown (mvT hZ (hw _ (List.mem_of_getElem? (i := 6) rfl))) (mvT hZ (hw _ (List.mem_of_getElem? (i := 7) rfl))) (mvT hZ (hw _ (List.mem_of_getElem? (i := 10) rfl))) (by decide) (backOf (W := 0) (rm2 l Z a0 hw [] a  h0 n0 Zs    ) hZ (hw _ (List.mem_of_getElem? (i := 10) rfl)) (hw _ (List.mem_of_getElem? (i := 9) rfl)) (by decide) (by decide)) (g := (mkF m 1 #[.val (.ref a), .val (.int x1), .val (.int x2)] [(.ref a)])) rfl (by rw [hml]; rfl) (Steps.refl _) (a := a) (argsL := []) (rest := []) (lenOf pd_0 rfl) rfl (by show 2 * 0 + _ ≤ _; exact Nat.le_of_eq rfl) (hb hby d1_1) (fun _ _ => ⟨rfl, e0, (by decide : 0 + 0 ≤ _), (by decide : 0 + 0 ≤ _)⟩)
  dsimp only [Pt.U, Pt.locs, Pt.cells, Pt.slots] at X1 l1 y1 z1 st1 hQ1
  subst l1 y1 z1
  obtain ⟨rfl, Nq1, Kq1⟩ := hQ1
  have NF := Fr.app NF Nq1
  replace F_quality_a : Fld Z T1.heap a "com/example/portico/portico/core/media/MediaType$Acceptance" "quality" "I" (.int (0 : Int32)) := F_quality_a.keep Kq1 nin0
  replace F_specificity_a : Fld Z T1.heap a "com/example/portico/portico/core/media/MediaType$Acceptance" "specificity" "I" (.int (0 : Int32)) := F_specificity_a.keep Kq1 nin0
  replace E_a : Exa Z T1.heap a "com/example/portico/portico/core/media/MediaType$Acceptance" := E_a.keep Kq1
  replace Zs : n0 ≤ T1.heap.size := Nat.le_trans Zs Kq1.1
  replace K : Keep h0 T1.heap [a] := K.trans Kq1 all0
  refine own_by (B := T1.setTop (mkF m 4 #[.val (.ref a), .val (.int x1), .val (.int x2)] [])) (fun t k => st1.trans k) ?_
  refine own_by (B := T1.setTop (mkF m 5 #[.val (.ref a), .val (.int x1), .val (.int x2)] [(.ref a)])) (fun t k => XS.aloadN X1.here hx rfl (hb hby d1_4) rfl rfl k) ?_
  refine own_by (B := T1.setTop (mkF m 6 #[.val (.ref a), .val (.int x1), .val (.int x2)] [(.int x1), (.ref a)])) (fun t k => XS.iloadN X1.here hx rfl (hb hby d1_5) rfl k) ?_
  obtain ⟨T2, h2, X2, e2, W2, st2⟩ := putF X1 hx hZ hown (host := "") (Or.inl (hw _ (List.mem_of_getElem? (i := 14) rfl))) Via.refl rfl F_quality_a E_a (Or.inr ⟨(hw _ (List.mem_of_getElem? (i := 15) rfl)), rfl, hnm⟩) (hw _ (List.mem_of_getElem? (i := 1) rfl)) (ty := .int) (by decide) rfl rfl (g := (mkF m 6 #[.val (.ref a), .val (.int x1), .val (.int x2)] [(.int x1), (.ref a)])) rfl rfl (hb hby d1_6)
  replace F_quality_a : Fld Z h2 a "com/example/portico/portico/core/media/MediaType$Acceptance" "quality" "I" (.int x1) := F_quality_a.same W2
  replace F_specificity_a : Fld Z h2 a "com/example/portico/portico/core/media/MediaType$Acceptance" "specificity" "I" (.int (0 : Int32)) := F_specificity_a.other W2 (Or.inr (slot_ne (Or.inr (hw _ (List.mem_of_getElem? (i := 17) rfl))) (Or.inr (hw _ (List.mem_of_getElem? (i := 15) rfl))) (by decide) (t := .int) (t' := .int) (by decide) (by decide)))
  replace E_a : Exa Z h2 a "com/example/portico/portico/core/media/MediaType$Acceptance" := E_a.wr W2
  replace Zs : n0 ≤ h2.size := by rw [W2.size]; exact Zs
  replace K : Keep h0 h2 [a] := K.wr W2 (Or.inl (List.mem_of_getElem? (i := 0) rfl))
  have NF := Fr.snoc X2 NF g_a
  refine own_by (B := T2.setTop (mkF m 9 #[.val (.ref a), .val (.int x1), .val (.int x2)] [])) (fun t k => st2 _ k) ?_
  refine own_by (B := T2.setTop (mkF m 10 #[.val (.ref a), .val (.int x1), .val (.int x2)] [(.ref a)])) (fun t k => XS.aloadN X2.here hx rfl (hb hby d1_9) rfl rfl k) ?_
  refine own_by (B := T2.setTop (mkF m 11 #[.val (.ref a), .val (.int x1), .val (.int x2)] [(.int x2), (.ref a)])) (fun t k => XS.iloadN X2.here hx rfl (hb hby d1_10) rfl k) ?_
  obtain ⟨T3, h3, X3, e3, W3, st3⟩ := putF X2 hx hZ hown (host := "") (Or.inl (hw _ (List.mem_of_getElem? (i := 16) rfl))) Via.refl e2 F_specificity_a E_a (Or.inr ⟨(hw _ (List.mem_of_getElem? (i := 17) rfl)), rfl, hnm⟩) (hw _ (List.mem_of_getElem? (i := 1) rfl)) (ty := .int) (by decide) rfl rfl (g := (mkF m 11 #[.val (.ref a), .val (.int x1), .val (.int x2)] [(.int x2), (.ref a)])) rfl rfl (hb hby d1_11)
  replace F_quality_a : Fld Z h3 a "com/example/portico/portico/core/media/MediaType$Acceptance" "quality" "I" (.int x1) := F_quality_a.other W3 (Or.inr (slot_ne (Or.inr (hw _ (List.mem_of_getElem? (i := 15) rfl))) (Or.inr (hw _ (List.mem_of_getElem? (i := 17) rfl))) (by decide) (t := .int) (t' := .int) (by decide) (by decide)))
  replace F_specificity_a : Fld Z h3 a "com/example/portico/portico/core/media/MediaType$Acceptance" "specificity" "I" (.int x2) := F_specificity_a.same W3
  replace E_a : Exa Z h3 a "com/example/portico/portico/core/media/MediaType$Acceptance" := E_a.wr W3
  replace Zs : n0 ≤ h3.size := by rw [W3.size]; exact Zs
  replace K : Keep h0 h3 [a] := K.wr W3 (Or.inl (List.mem_of_getElem? (i := 0) rfl))
  have NF := Fr.snoc X3 NF g_a
  refine own_by (B := T3.setTop (mkF m 14 #[.val (.ref a), .val (.int x1), .val (.int x2)] [])) (fun t k => st3 _ k) ?_
  exact own_ret X3 hx hlk hret (hb hby d1_14) (by show own_Q1 Z a x1 x2 h0 n0 _ _ _; rw [e3]; exact ⟨rfl, NF, K, F_quality_a, F_specificity_a, E_a⟩) (by decide) (by decide)
theorem d5_0 : decode jdk_33_method_40_code 0 = .ok (.iload_n 0, 1) := by decide +kernel
theorem d5_1 : decode jdk_33_method_40_code 1 = .ok (.iload_n 1, 1) := by decide +kernel
theorem d5_2 : decode jdk_33_method_40_code 2 = .ok (.if_icmp .ge 7, 3) := by decide +kernel
theorem d5_5 : decode jdk_33_method_40_code 5 = .ok (.iconst (-1), 1) := by decide +kernel
theorem d5_6 : decode jdk_33_method_40_code 6 = .ok (.goto 13, 3) := by decide +kernel
theorem d5_9 : decode jdk_33_method_40_code 9 = .ok (.iload_n 0, 1) := by decide +kernel
theorem d5_10 : decode jdk_33_method_40_code 10 = .ok (.iload_n 1, 1) := by decide +kernel
theorem d5_11 : decode jdk_33_method_40_code 11 = .ok (.if_icmp .ne 7, 3) := by decide +kernel
theorem d5_14 : decode jdk_33_method_40_code 14 = .ok (.iconst 0, 1) := by decide +kernel
theorem d5_15 : decode jdk_33_method_40_code 15 = .ok (.goto 4, 3) := by decide +kernel
theorem d5_18 : decode jdk_33_method_40_code 18 = .ok (.iconst 1, 1) := by decide +kernel
theorem d5_19 : decode jdk_33_method_40_code 19 = .ok (.ireturn, 1) := by decide +kernel
theorem pn_5 : plainName "java/lang/Integer" = true := by first | (simp [plainName, overriddenIn]; done) | decide +kernel
theorem ef_5 (m : MethodId) (x0 : Int32) (x1 : Int32) : entryFrame m #[(.int x0), (.int x1)] 2 = mkF m 0 #[.val (.int x0), .val (.int x1)] [] := by first | (simp [entryFrame, mkF, argsToLocals, Value.category]; done) | rfl
def f5_19  (x0 : Int32) (x1 : Int32) (y0 : Int32) : Int32 := y0
set_option maxRecDepth 65536 in
set_option maxHeartbeats 40000000 in
theorem bk5_19 (l : Launch) (Z : State) (a0 : Array Value) (hw : ∀ d ∈ tables_1, d.before a0 Z = true) (h0 : Heap)     (x0 : Int32) (x1 : Int32) (y0 : Int32)  {p : Program} {e : Env} {s : State} {m : MethodId} {args : Array Value} {below : List Frame} {meth : Method} {c : Code} {T0 : State}
    (X0 : Stand p l e ({ frames := 0, cells := 0, slots := 0, locals := 0 } : Room) s m args below meth c T0 [] 0 0) (hx : p.tables.exec = Jvm.exec) (hby : c.code = jdk_33_method_40_code) (hml : c.maxLocals = 2) (hret : meth.sig.returnType = (some .int)) (hlk : meth.locks = false) (hZ : Z.Warmed39 s.vm) (hown : s.vm.findClass "java/lang/Integer" = some m.cls) (hnm : meth.name = "compare") (e0 : T0.heap = h0) :
    own_Go p e below s (own_Qp (some (.int (f5_19  x0 x1 y0))) h0) 0 0 (T0.setTop (mkF m 19 #[.val (.int x0), .val (.int x1)] [(.int y0)])) := by
  have hf : f5_19  x0 x1 y0 = y0 := rfl
  exact own_retI X0 hx hlk hret (hb hby d5_19) ⟨by rw [hf], rfl, e0⟩ (by decide) (by decide)
def f5_0  (x0 : Int32) (x1 : Int32) : Int32 := (if x0 < x1 then (f5_19  x0 x1 (-1 : Int32)) else (if x0 = x1 then (f5_19  x0 x1 (0 : Int32)) else (f5_19  x0 x1 (1 : Int32))))
set_option maxRecDepth 65536 in
set_option maxHeartbeats 40000000 in
theorem bk5_0 (l : Launch) (Z : State) (a0 : Array Value) (hw : ∀ d ∈ tables_1, d.before a0 Z = true) (h0 : Heap)     (x0 : Int32) (x1 : Int32)  {p : Program} {e : Env} {s : State} {m : MethodId} {args : Array Value} {below : List Frame} {meth : Method} {c : Code} {T0 : State}
    (X0 : Stand p l e ({ frames := 0, cells := 0, slots := 0, locals := 0 } : Room) s m args below meth c T0 [] 0 0) (hx : p.tables.exec = Jvm.exec) (hby : c.code = jdk_33_method_40_code) (hml : c.maxLocals = 2) (hret : meth.sig.returnType = (some .int)) (hlk : meth.locks = false) (hZ : Z.Warmed39 s.vm) (hown : s.vm.findClass "java/lang/Integer" = some m.cls) (hnm : meth.name = "compare") (e0 : T0.heap = h0) :
    own_Go p e below s (own_Qp (some (.int (f5_0  x0 x1))) h0) 0 0 (T0.setTop (mkF m 0 #[.val (.int x0), .val (.int x1)] [])) := by
  have hf : f5_0  x0 x1 = (if x0 < x1 then (f5_19  x0 x1 (-1 : Int32)) else (if x0 = x1 then (f5_19  x0 x1 (0 : Int32)) else (f5_19  x0 x1 (1 : Int32)))) := rfl
  refine own_by (B := T0.setTop (mkF m 1 #[.val (.int x0), .val (.int x1)] [(.int x0)])) (fun t k => XS.iloadN X0.here hx rfl (hb hby d5_0) rfl k) ?_
  refine own_by (B := T0.setTop (mkF m 2 #[.val (.int x0), .val (.int x1)] [(.int x1), (.int x0)])) (fun t k => XS.iloadN X0.here hx rfl (hb hby d5_1) rfl k) ?_
  by_cases hc1 : x0 < x1
  ·
    rw [if_pos hc1] at hf
    refine own_by (B := T0.setTop (mkF m 5 #[.val (.int x0), .val (.int x1)] [])) (fun t k => XS.icmpNo X0.here hx rfl (hb hby d5_2) rfl (tlt hc1).2.1 k) ?_
    refine own_by (B := T0.setTop (mkF m 6 #[.val (.int x0), .val (.int x1)] [(.int (-1 : Int32))])) (fun t k => XS.iconst X0.here hx rfl (hb hby d5_5) k) ?_
    refine own_by (B := T0.setTop (mkF m 19 #[.val (.int x0), .val (.int x1)] [(.int (-1 : Int32))])) (fun t k => XS.goto X0.here hx rfl (pc0 := 6) (pc' := 19) rfl (hb hby d5_6) (by decide) (by decide) k) ?_
    rw [hf]
    exact bk5_19 l Z a0 hw h0   x0 x1 (-1 : Int32)  X0 hx hby hml hret hlk hZ hown hnm e0
  ·
    rw [if_neg hc1] at hf
    refine own_by (B := T0.setTop (mkF m 9 #[.val (.int x0), .val (.int x1)] [])) (fun t k => XS.icmpYes X0.here hx rfl (pc0 := 2) (pc' := 9) rfl (hb hby d5_2) rfl (flt hc1).2.1 (by decide) (by decide) k) ?_
    refine own_by (B := T0.setTop (mkF m 10 #[.val (.int x0), .val (.int x1)] [(.int x0)])) (fun t k => XS.iloadN X0.here hx rfl (hb hby d5_9) rfl k) ?_
    refine own_by (B := T0.setTop (mkF m 11 #[.val (.int x0), .val (.int x1)] [(.int x1), (.int x0)])) (fun t k => XS.iloadN X0.here hx rfl (hb hby d5_10) rfl k) ?_
    by_cases hc2 : x0 = x1
    ·
      rw [if_pos hc2] at hf
      refine own_by (B := T0.setTop (mkF m 14 #[.val (.int x0), .val (.int x1)] [])) (fun t k => XS.icmpNo X0.here hx rfl (hb hby d5_11) rfl (teq hc2).2 k) ?_
      refine own_by (B := T0.setTop (mkF m 15 #[.val (.int x0), .val (.int x1)] [(.int (0 : Int32))])) (fun t k => XS.iconst X0.here hx rfl (hb hby d5_14) k) ?_
      refine own_by (B := T0.setTop (mkF m 19 #[.val (.int x0), .val (.int x1)] [(.int (0 : Int32))])) (fun t k => XS.goto X0.here hx rfl (pc0 := 15) (pc' := 19) rfl (hb hby d5_15) (by decide) (by decide) k) ?_
      rw [hf]
      exact bk5_19 l Z a0 hw h0   x0 x1 (0 : Int32)  X0 hx hby hml hret hlk hZ hown hnm e0
    ·
      rw [if_neg hc2] at hf
      refine own_by (B := T0.setTop (mkF m 18 #[.val (.int x0), .val (.int x1)] [])) (fun t k => XS.icmpYes X0.here hx rfl (pc0 := 11) (pc' := 18) rfl (hb hby d5_11) rfl (feq hc2).2 (by decide) (by decide) k) ?_
      refine own_by (B := T0.setTop (mkF m 19 #[.val (.int x0), .val (.int x1)] [(.int (1 : Int32))])) (fun t k => XS.iconst X0.here hx rfl (hb hby d5_18) k) ?_
      rw [hf]
      exact bk5_19 l Z a0 hw h0   x0 x1 (1 : Int32)  X0 hx hby hml hret hlk hZ hown hnm e0
set_option maxRecDepth 65536 in
set_option maxHeartbeats 40000000 in
theorem rm5 (l : Launch) (Z : State) (a0 : Array Value) (hw : ∀ d ∈ tables_1, d.before a0 Z = true) (ws : List Jvm.Cond) (x0 : Int32) (x1 : Int32)   (h0 : Heap)   :
    MetFree l (⟨"java/lang/Integer", "compare", "(II)I"⟩ : MethodName) (head1 (Jvm.Cond.code (⟨"java/lang/Integer", "compare", "(II)I"⟩ : MethodName) jdk_33_method_40_code 2 (some .int) :: ws) ({ frames := 0, cells := 0, slots := 0, locals := 0 } : Room)) (fun aa U => aa = #[(.int x0), (.int x1)] ∧ Z.Warmed39 U.vm ∧ U.heap = h0) (fun _ _ _ _ _ => True) (fun _ U o U' => ∃ v L, o = .returned v ∧ own_Qp (some (.int (f5_0  x0 x1))) h0 v U'.heap L ∧ FrameEnd U o U' L ({ frames := 0, cells := 0, slots := 0, locals := 0 } : Room).cells ({ frames := 0, cells := 0, slots := 0, locals := 0 } : Room).slots) := by
  refine own_met (plainFor_of_name pn_5) fun p e s m below meth c T0 X0 hx hby hml hret hlk hZ hown hnm e0 => ?_
  refine own_cast (ef_5 m x0 x1) ?_
  exact bk5_0 l Z a0 hw h0   x0 x1  X0 hx hby hml hret hlk hZ hown hnm e0
theorem d4_0 : decode prog_36_method_3_code 0 = .ok (.aload_n 0, 1) := by decide +kernel
theorem d4_1 : decode prog_36_method_3_code 1 = .ok (.getfield 7, 3) := by decide +kernel
theorem d4_4 : decode prog_36_method_3_code 4 = .ok (.aload_n 1, 1) := by decide +kernel
theorem d4_5 : decode prog_36_method_3_code 5 = .ok (.getfield 7, 3) := by decide +kernel
theorem d4_8 : decode prog_36_method_3_code 8 = .ok (.invokestatic 16, 3) := by decide +kernel
theorem d4_11 : decode prog_36_method_3_code 11 = .ok (.istore_n 2, 1) := by decide +kernel
theorem d4_12 : decode prog_36_method_3_code 12 = .ok (.iload_n 2, 1) := by decide +kernel
theorem d4_13 : decode prog_36_method_3_code 13 = .ok (.ifCond .eq 7, 3) := by decide +kernel
theorem d4_16 : decode prog_36_method_3_code 16 = .ok (.iload_n 2, 1) := by decide +kernel
theorem d4_17 : decode prog_36_method_3_code 17 = .ok (.goto 14, 3) := by decide +kernel
theorem d4_20 : decode prog_36_method_3_code 20 = .ok (.aload_n 0, 1) := by decide +kernel
theorem d4_21 : decode prog_36_method_3_code 21 = .ok (.getfield 13, 3) := by decide +kernel
theorem d4_24 : decode prog_36_method_3_code 24 = .ok (.aload_n 1, 1) := by decide +kernel
theorem d4_25 : decode prog_36_method_3_code 25 = .ok (.getfield 13, 3) := by decide +kernel
theorem d4_28 : decode prog_36_method_3_code 28 = .ok (.invokestatic 16, 3) := by decide +kernel
theorem d4_31 : decode prog_36_method_3_code 31 = .ok (.ireturn, 1) := by decide +kernel
theorem pn_4 : plainName "com/example/portico/portico/core/media/MediaType$Acceptance" = true := by first | (simp [plainName, overriddenIn]; done) | decide +kernel
theorem ef_4 (m : MethodId) (a : Addr) (b : Addr) : entryFrame m #[(.ref a), (.ref b)] 3 = mkF m 0 #[.val (.ref a), .val (.ref b), .unset] [] := by first | (simp [entryFrame, mkF, argsToLocals, Value.category]; done) | rfl
def f4_31 (qa sa qb sb : Int32) (x2 : Int32) (y0 : Int32) : Int32 := y0
set_option maxRecDepth 65536 in
set_option maxHeartbeats 40000000 in
theorem bk4_31 (l : Launch) (Z : State) (a0 : Array Value) (hw : ∀ d ∈ tables_1, d.before a0 Z = true) (h0 : Heap) (a : Addr) (b : Addr)  (qa sa qb sb : Int32) (F_quality_a : Fld Z h0 a "com/example/portico/portico/core/media/MediaType$Acceptance" "quality" "I" (.int qa)) (F_specificity_a : Fld Z h0 a "com/example/portico/portico/core/media/MediaType$Acceptance" "specificity" "I" (.int sa)) (F_quality_b : Fld Z h0 b "com/example/portico/portico/core/media/MediaType$Acceptance" "quality" "I" (.int qb)) (F_specificity_b : Fld Z h0 b "com/example/portico/portico/core/media/MediaType$Acceptance" "specificity" "I" (.int sb)) (x2 : Int32) (y0 : Int32)  {p : Program} {e : Env} {s : State} {m : MethodId} {args : Array Value} {below : List Frame} {meth : Method} {c : Code} {T0 : State}
    (X0 : Stand p l e ({ frames := 1, cells := 0, slots := 0, locals := 13 } : Room) s m args below meth c T0 [] 0 0) (hx : p.tables.exec = Jvm.exec) (hby : c.code = prog_36_method_3_code) (hml : c.maxLocals = 3) (hret : meth.sig.returnType = (some .int)) (hlk : meth.locks = false) (hZ : Z.Warmed39 s.vm) (hown : s.vm.findClass "com/example/portico/portico/core/media/MediaType$Acceptance" = some m.cls) (hnm : meth.name = "compareTo") (e0 : T0.heap = h0) :
    own_Go p e below s (own_Qp (some (.int (f4_31 qa sa qb sb x2 y0))) h0) 0 0 (T0.setTop (mkF m 31 #[.val (.ref a), .val (.ref b), .val (.int x2)] [(.int y0)])) := by
  have hf : f4_31 qa sa qb sb x2 y0 = y0 := rfl
  exact own_retI X0 hx hlk hret (hb hby d4_31) ⟨by rw [hf], rfl, e0⟩ (by decide) (by decide)
def f4_0 (qa sa qb sb : Int32)  : Int32 := (if (f5_0 qa qb) = (0 : Int32) then (f4_31 qa sa qb sb (f5_0 qa qb) (f5_0 sa sb)) else (f4_31 qa sa qb sb (f5_0 qa qb) (f5_0 qa qb)))
set_option maxRecDepth 65536 in
set_option maxHeartbeats 40000000 in
theorem bk4_0 (l : Launch) (Z : State) (a0 : Array Value) (hw : ∀ d ∈ tables_1, d.before a0 Z = true) (h0 : Heap) (a : Addr) (b : Addr)  (qa sa qb sb : Int32) (F_quality_a : Fld Z h0 a "com/example/portico/portico/core/media/MediaType$Acceptance" "quality" "I" (.int qa)) (F_specificity_a : Fld Z h0 a "com/example/portico/portico/core/media/MediaType$Acceptance" "specificity" "I" (.int sa)) (F_quality_b : Fld Z h0 b "com/example/portico/portico/core/media/MediaType$Acceptance" "quality" "I" (.int qb)) (F_specificity_b : Fld Z h0 b "com/example/portico/portico/core/media/MediaType$Acceptance" "specificity" "I" (.int sb))   {p : Program} {e : Env} {s : State} {m : MethodId} {args : Array Value} {below : List Frame} {meth : Method} {c : Code} {T0 : State}
    (X0 : Stand p l e ({ frames := 1, cells := 0, slots := 0, locals := 13 } : Room) s m args below meth c T0 [] 0 0) (hx : p.tables.exec = Jvm.exec) (hby : c.code = prog_36_method_3_code) (hml : c.maxLocals = 3) (hret : meth.sig.returnType = (some .int)) (hlk : meth.locks = false) (hZ : Z.Warmed39 s.vm) (hown : s.vm.findClass "com/example/portico/portico/core/media/MediaType$Acceptance" = some m.cls) (hnm : meth.name = "compareTo") (e0 : T0.heap = h0) :
    own_Go p e below s (own_Qp (some (.int (f4_0 qa sa qb sb ))) h0) 0 0 (T0.setTop (mkF m 0 #[.val (.ref a), .val (.ref b), .unset] [])) := by
  have hf : f4_0 qa sa qb sb  = (if (f5_0 qa qb) = (0 : Int32) then (f4_31 qa sa qb sb (f5_0 qa qb) (f5_0 sa sb)) else (f4_31 qa sa qb sb (f5_0 qa qb) (f5_0 qa qb))) := rfl
  refine own_by (B := T0.setTop (mkF m 1 #[.val (.ref a), .val (.ref b), .unset] [(.ref a)])) (fun t k => XS.aloadN X0.here hx rfl (hb hby d4_0) rfl rfl k) ?_
  obtain ⟨T1, X1, e1, st1⟩ := getF X0 hx hZ hown (host := "") (Or.inl (hw _ (List.mem_of_getElem? (i := 14) rfl))) Via.refl e0 F_quality_a (g := (mkF m 1 #[.val (.ref a), .val (.ref b), .unset] [(.ref a)])) rfl rfl (hb hby d4_1)
  refine own_by (B := T1.setTop (mkF m 4 #[.val (.ref a), .val (.ref b), .unset] [(.int qa)])) (fun t k => st1 _ k) ?_
  refine own_by (B := T1.setTop (mkF m 5 #[.val (.ref a), .val (.ref b), .unset] [(.ref b), (.int qa)])) (fun t k => XS.aloadN X1.here hx rfl (hb hby d4_4) rfl rfl k) ?_
  obtain ⟨T2, X2, e2, st2⟩ := getF X1 hx hZ hown (host := "") (Or.inl (hw _ (List.mem_of_getElem? (i := 14) rfl))) Via.refl e1 F_quality_b (g := (mkF m 5 #[.val (.ref a), .val (.ref b), .unset] [(.ref b), (.int qa)])) rfl rfl (hb hby d4_5)
  refine own_by (B := T2.setTop (mkF m 8 #[.val (.ref a), .val (.ref b), .unset] [(.int qb), (.int qa)])) (fun t k => st2 _ k) ?_
  obtain ⟨v3, _, ⟨T3, L3, c3, n3⟩, -, X3, ⟨Lc3, hQ3, l3, y3, z3⟩, st3⟩ := Jvm.LawKit.callS X2 hx (y := (⟨"java/lang/Integer", "compare", "(II)I"⟩ : MethodName)) hown (mvT hZ (hw _ (List.mem_of_getElem? (i := 24) rfl))) (mvT hZ (hw _ (List.mem_of_getElem? (i := 25) rfl))) (mvT hZ (hw _ (List.mem_of_getElem? (i := 26) rfl))) (mvT hZ (hw _ (List.mem_of_getElem? (i := 27) rfl))) (by decide) (backOf (W := 0) (rm5 l Z a0 hw [] qa qb  h0 ) hZ (hw _ (List.mem_of_getElem? (i := 27) rfl)) (hw _ (List.mem_of_getElem? (i := 26) rfl)) (by decide) (by decide)) (g := (mkF m 8 #[.val (.ref a), .val (.ref b), .unset] [(.int qb), (.int qa)])) rfl (by rw [hml]; rfl) (argsL := [(.int qa), (.int qb)]) (rest := []) (lenOf pd_1 rfl) rfl (by show 2 * 0 + _ ≤ _; exact Nat.le_of_eq rfl) (hb hby d4_8) (fun _ _ => ⟨rfl, e2, (by decide : 0 + 0 ≤ _), (by decide : 0 + 0 ≤ _)⟩)
  dsimp only [Pt.U, Pt.locs, Pt.cells, Pt.slots] at X3 l3 y3 z3 st3 hQ3
  subst l3 y3 z3
  obtain ⟨rfl, rfl, e3⟩ := hQ3
  refine own_by (B := T3.setTop (mkF m 11 #[.val (.ref a), .val (.ref b), .unset] [(.int (f5_0 qa qb))])) (fun t k => st3 _ k) ?_
  refine own_by (B := T3.setTop (mkF m 12 #[.val (.ref a), .val (.ref b), .val (.int (f5_0 qa qb))] [])) (fun t k => XS.istoreN X3.here hx rfl (hb hby d4_11) rfl (l' := #[.val (.ref a), .val (.ref b), .val (.int (f5_0 qa qb))]) rfl k) ?_
  refine own_by (B := T3.setTop (mkF m 13 #[.val (.ref a), .val (.ref b), .val (.int (f5_0 qa qb))] [(.int (f5_0 qa qb))])) (fun t k => XS.iloadN X3.here hx rfl (hb hby d4_12) rfl k) ?_
  by_cases hc4 : (f5_0 qa qb) = (0 : Int32)
  ·
    rw [if_pos hc4] at hf
    refine own_by (B := T3.setTop (mkF m 20 #[.val (.ref a), .val (.ref b), .val (.int (f5_0 qa qb))] [])) (fun t k => XS.ifYes X3.here hx rfl (pc0 := 13) (pc' := 20) rfl (hb hby d4_13) rfl ((if0 _ _).trans (teq hc4).1) (by decide) (by decide) k) ?_
    refine own_by (B := T3.setTop (mkF m 21 #[.val (.ref a), .val (.ref b), .val (.int (f5_0 qa qb))] [(.ref a)])) (fun t k => XS.aloadN X3.here hx rfl (hb hby d4_20) rfl rfl k) ?_
    obtain ⟨T5, X5, e5, st5⟩ := getF X3 hx hZ hown (host := "") (Or.inl (hw _ (List.mem_of_getElem? (i := 16) rfl))) Via.refl e3 F_specificity_a (g := (mkF m 21 #[.val (.ref a), .val (.ref b), .val (.int (f5_0 qa qb))] [(.ref a)])) rfl rfl (hb hby d4_21)
    refine own_by (B := T5.setTop (mkF m 24 #[.val (.ref a), .val (.ref b), .val (.int (f5_0 qa qb))] [(.int sa)])) (fun t k => st5 _ k) ?_
    refine own_by (B := T5.setTop (mkF m 25 #[.val (.ref a), .val (.ref b), .val (.int (f5_0 qa qb))] [(.ref b), (.int sa)])) (fun t k => XS.aloadN X5.here hx rfl (hb hby d4_24) rfl rfl k) ?_
    obtain ⟨T6, X6, e6, st6⟩ := getF X5 hx hZ hown (host := "") (Or.inl (hw _ (List.mem_of_getElem? (i := 16) rfl))) Via.refl e5 F_specificity_b (g := (mkF m 25 #[.val (.ref a), .val (.ref b), .val (.int (f5_0 qa qb))] [(.ref b), (.int sa)])) rfl rfl (hb hby d4_25)
    refine own_by (B := T6.setTop (mkF m 28 #[.val (.ref a), .val (.ref b), .val (.int (f5_0 qa qb))] [(.int sb), (.int sa)])) (fun t k => st6 _ k) ?_
    obtain ⟨v7, _, ⟨T7, L7, c7, n7⟩, -, X7, ⟨Lc7, hQ7, l7, y7, z7⟩, st7⟩ := Jvm.LawKit.callS X6 hx (y := (⟨"java/lang/Integer", "compare", "(II)I"⟩ : MethodName)) hown (mvT hZ (hw _ (List.mem_of_getElem? (i := 24) rfl))) (mvT hZ (hw _ (List.mem_of_getElem? (i := 25) rfl))) (mvT hZ (hw _ (List.mem_of_getElem? (i := 26) rfl))) (mvT hZ (hw _ (List.mem_of_getElem? (i := 27) rfl))) (by decide) (backOf (W := 0) (rm5 l Z a0 hw [] sa sb  h0 ) hZ (hw _ (List.mem_of_getElem? (i := 27) rfl)) (hw _ (List.mem_of_getElem? (i := 26) rfl)) (by decide) (by decide)) (g := (mkF m 28 #[.val (.ref a), .val (.ref b), .val (.int (f5_0 qa qb))] [(.int sb), (.int sa)])) rfl (by rw [hml]; rfl) (argsL := [(.int sa), (.int sb)]) (rest := []) (lenOf pd_1 rfl) rfl (by show 2 * 0 + _ ≤ _; exact Nat.le_of_eq rfl) (hb hby d4_28) (fun _ _ => ⟨rfl, e6, (by decide : 0 + 0 ≤ _), (by decide : 0 + 0 ≤ _)⟩)
    dsimp only [Pt.U, Pt.locs, Pt.cells, Pt.slots] at X7 l7 y7 z7 st7 hQ7
    subst l7 y7 z7
    obtain ⟨rfl, rfl, e7⟩ := hQ7
    refine own_by (B := T7.setTop (mkF m 31 #[.val (.ref a), .val (.ref b), .val (.int (f5_0 qa qb))] [(.int (f5_0 sa sb))])) (fun t k => st7 _ k) ?_
    rw [hf]
    exact bk4_31 l Z a0 hw h0 a b qa sa qb sb F_quality_a F_specificity_a F_quality_b F_specificity_b (f5_0 qa qb) (f5_0 sa sb)  X7 hx hby hml hret hlk hZ hown hnm e7
  ·
    rw [if_neg hc4] at hf
    refine own_by (B := T3.setTop (mkF m 16 #[.val (.ref a), .val (.ref b), .val (.int (f5_0 qa qb))] [])) (fun t k => XS.ifNo X3.here hx rfl (hb hby d4_13) rfl ((if0 _ _).trans (feq hc4).1) k) ?_
    refine own_by (B := T3.setTop (mkF m 17 #[.val (.ref a), .val (.ref b), .val (.int (f5_0 qa qb))] [(.int (f5_0 qa qb))])) (fun t k => XS.iloadN X3.here hx rfl (hb hby d4_16) rfl k) ?_
    refine own_by (B := T3.setTop (mkF m 31 #[.val (.ref a), .val (.ref b), .val (.int (f5_0 qa qb))] [(.int (f5_0 qa qb))])) (fun t k => XS.goto X3.here hx rfl (pc0 := 17) (pc' := 31) rfl (hb hby d4_17) (by decide) (by decide) k) ?_
    rw [hf]
    exact bk4_31 l Z a0 hw h0 a b qa sa qb sb F_quality_a F_specificity_a F_quality_b F_specificity_b (f5_0 qa qb) (f5_0 qa qb)  X3 hx hby hml hret hlk hZ hown hnm e3
set_option maxRecDepth 65536 in
set_option maxHeartbeats 40000000 in
theorem rm4 (l : Launch) (Z : State) (a0 : Array Value) (hw : ∀ d ∈ tables_1, d.before a0 Z = true) (ws : List Jvm.Cond) (a : Addr) (b : Addr)  (qa sa qb sb : Int32) (h0 : Heap) (F_quality_a : Fld Z h0 a "com/example/portico/portico/core/media/MediaType$Acceptance" "quality" "I" (.int qa)) (F_specificity_a : Fld Z h0 a "com/example/portico/portico/core/media/MediaType$Acceptance" "specificity" "I" (.int sa)) (F_quality_b : Fld Z h0 b "com/example/portico/portico/core/media/MediaType$Acceptance" "quality" "I" (.int qb)) (F_specificity_b : Fld Z h0 b "com/example/portico/portico/core/media/MediaType$Acceptance" "specificity" "I" (.int sb))  :
    MetFree l (⟨"com/example/portico/portico/core/media/MediaType$Acceptance", "compareTo", "(Lcom/example/portico/portico/core/media/MediaType$Acceptance;)I"⟩ : MethodName) (head1 (Jvm.Cond.code (⟨"com/example/portico/portico/core/media/MediaType$Acceptance", "compareTo", "(Lcom/example/portico/portico/core/media/MediaType$Acceptance;)I"⟩ : MethodName) prog_36_method_3_code 3 (some .int) :: ws) ({ frames := 1, cells := 0, slots := 0, locals := 13 } : Room)) (fun aa U => aa = #[(.ref a), (.ref b)] ∧ Z.Warmed39 U.vm ∧ U.heap = h0) (fun _ _ _ _ _ => True) (fun _ U o U' => ∃ v L, o = .returned v ∧ own_Qp (some (.int (f4_0 qa sa qb sb ))) h0 v U'.heap L ∧ FrameEnd U o U' L ({ frames := 1, cells := 0, slots := 0, locals := 13 } : Room).cells ({ frames := 1, cells := 0, slots := 0, locals := 13 } : Room).slots) := by
  refine own_met (plainFor_of_name pn_4) fun p e s m below meth c T0 X0 hx hby hml hret hlk hZ hown hnm e0 => ?_
  refine own_cast (ef_4 m a b) ?_
  exact bk4_0 l Z a0 hw h0 a b qa sa qb sb F_quality_a F_specificity_a F_quality_b F_specificity_b   X0 hx hby hml hret hlk hZ hown hnm e0
theorem d6_0 : decode prog_36_method_2_code 0 = .ok (.aload_n 0, 1) := by decide +kernel
theorem d6_1 : decode prog_36_method_2_code 1 = .ok (.getfield 7, 3) := by decide +kernel
theorem d6_4 : decode prog_36_method_2_code 4 = .ok (.ifCond .le 7, 3) := by decide +kernel
theorem d6_7 : decode prog_36_method_2_code 7 = .ok (.iconst 1, 1) := by decide +kernel
theorem d6_8 : decode prog_36_method_2_code 8 = .ok (.goto 4, 3) := by decide +kernel
theorem d6_11 : decode prog_36_method_2_code 11 = .ok (.iconst 0, 1) := by decide +kernel
theorem d6_12 : decode prog_36_method_2_code 12 = .ok (.ireturn, 1) := by decide +kernel
theorem pn_6 : plainName "com/example/portico/portico/core/media/MediaType$Acceptance" = true := by first | (simp [plainName, overriddenIn]; done) | decide +kernel
theorem ef_6 (m : MethodId) (a : Addr) : entryFrame m #[(.ref a)] 1 = mkF m 0 #[.val (.ref a)] [] := by first | (simp [entryFrame, mkF, argsToLocals, Value.category]; done) | rfl
def f6_12 (qa : Int32) (y0 : Int32) : Int32 := (nar .boolean y0)
set_option maxRecDepth 65536 in
set_option maxHeartbeats 40000000 in
theorem bk6_12 (l : Launch) (Z : State) (a0 : Array Value) (hw : ∀ d ∈ tables_1, d.before a0 Z = true) (h0 : Heap) (a : Addr)  (qa : Int32) (F_quality_a : Fld Z h0 a "com/example/portico/portico/core/media/MediaType$Acceptance" "quality" "I" (.int qa)) (y0 : Int32)  {p : Program} {e : Env} {s : State} {m : MethodId} {args : Array Value} {below : List Frame} {meth : Method} {c : Code} {T0 : State}
    (X0 : Stand p l e ({ frames := 0, cells := 0, slots := 0, locals := 0 } : Room) s m args below meth c T0 [] 0 0) (hx : p.tables.exec = Jvm.exec) (hby : c.code = prog_36_method_2_code) (hml : c.maxLocals = 1) (hret : meth.sig.returnType = (some .boolean)) (hlk : meth.locks = false) (hZ : Z.Warmed39 s.vm) (hown : s.vm.findClass "com/example/portico/portico/core/media/MediaType$Acceptance" = some m.cls) (hnm : meth.name = "isAcceptable") (e0 : T0.heap = h0) :
    own_Go p e below s (own_Qp (some (.int (f6_12 qa y0))) h0) 0 0 (T0.setTop (mkF m 12 #[.val (.ref a)] [(.int y0)])) := by
  have hf : f6_12 qa y0 = (nar .boolean y0) := rfl
  exact own_retN (t := .boolean) (by simp) X0 hx hlk hret (z' := (nar .boolean y0)) rfl (hb hby d6_12) ⟨by rw [hf], rfl, e0⟩ (by decide) (by decide)
def f6_0 (qa : Int32)  : Int32 := (if (0 : Int32) < qa then (f6_12 qa (1 : Int32)) else (f6_12 qa (0 : Int32)))
set_option maxRecDepth 65536 in
set_option maxHeartbeats 40000000 in
theorem bk6_0 (l : Launch) (Z : State) (a0 : Array Value) (hw : ∀ d ∈ tables_1, d.before a0 Z = true) (h0 : Heap) (a : Addr)  (qa : Int32) (F_quality_a : Fld Z h0 a "com/example/portico/portico/core/media/MediaType$Acceptance" "quality" "I" (.int qa))   {p : Program} {e : Env} {s : State} {m : MethodId} {args : Array Value} {below : List Frame} {meth : Method} {c : Code} {T0 : State}
    (X0 : Stand p l e ({ frames := 0, cells := 0, slots := 0, locals := 0 } : Room) s m args below meth c T0 [] 0 0) (hx : p.tables.exec = Jvm.exec) (hby : c.code = prog_36_method_2_code) (hml : c.maxLocals = 1) (hret : meth.sig.returnType = (some .boolean)) (hlk : meth.locks = false) (hZ : Z.Warmed39 s.vm) (hown : s.vm.findClass "com/example/portico/portico/core/media/MediaType$Acceptance" = some m.cls) (hnm : meth.name = "isAcceptable") (e0 : T0.heap = h0) :
    own_Go p e below s (own_Qp (some (.int (f6_0 qa ))) h0) 0 0 (T0.setTop (mkF m 0 #[.val (.ref a)] [])) := by
  have hf : f6_0 qa  = (if (0 : Int32) < qa then (f6_12 qa (1 : Int32)) else (f6_12 qa (0 : Int32))) := rfl
  refine own_by (B := T0.setTop (mkF m 1 #[.val (.ref a)] [(.ref a)])) (fun t k => XS.aloadN X0.here hx rfl (hb hby d6_0) rfl rfl k) ?_
  obtain ⟨T1, X1, e1, st1⟩ := getF X0 hx hZ hown (host := "") (Or.inl (hw _ (List.mem_of_getElem? (i := 14) rfl))) Via.refl e0 F_quality_a (g := (mkF m 1 #[.val (.ref a)] [(.ref a)])) rfl rfl (hb hby d6_1)
  refine own_by (B := T1.setTop (mkF m 4 #[.val (.ref a)] [(.int qa)])) (fun t k => st1 _ k) ?_
  by_cases hc2 : (0 : Int32) < qa
  ·
    rw [if_pos hc2] at hf
    refine own_by (B := T1.setTop (mkF m 7 #[.val (.ref a)] [])) (fun t k => XS.ifNo X1.here hx rfl (hb hby d6_4) rfl ((if0 _ _).trans (tlt hc2).2.2.2) k) ?_
    refine own_by (B := T1.setTop (mkF m 8 #[.val (.ref a)] [(.int (1 : Int32))])) (fun t k => XS.iconst X1.here hx rfl (hb hby d6_7) k) ?_
    refine own_by (B := T1.setTop (mkF m 12 #[.val (.ref a)] [(.int (1 : Int32))])) (fun t k => XS.goto X1.here hx rfl (pc0 := 8) (pc' := 12) rfl (hb hby d6_8) (by decide) (by decide) k) ?_
    rw [hf]
    exact bk6_12 l Z a0 hw h0 a qa F_quality_a (1 : Int32)  X1 hx hby hml hret hlk hZ hown hnm e1
  ·
    rw [if_neg hc2] at hf
    refine own_by (B := T1.setTop (mkF m 11 #[.val (.ref a)] [])) (fun t k => XS.ifYes X1.here hx rfl (pc0 := 4) (pc' := 11) rfl (hb hby d6_4) rfl ((if0 _ _).trans (flt hc2).2.2.2) (by decide) (by decide) k) ?_
    refine own_by (B := T1.setTop (mkF m 12 #[.val (.ref a)] [(.int (0 : Int32))])) (fun t k => XS.iconst X1.here hx rfl (hb hby d6_11) k) ?_
    rw [hf]
    exact bk6_12 l Z a0 hw h0 a qa F_quality_a (0 : Int32)  X1 hx hby hml hret hlk hZ hown hnm e1
set_option maxRecDepth 65536 in
set_option maxHeartbeats 40000000 in
theorem rm6 (l : Launch) (Z : State) (a0 : Array Value) (hw : ∀ d ∈ tables_1, d.before a0 Z = true) (ws : List Jvm.Cond) (a : Addr)  (qa : Int32) (h0 : Heap) (F_quality_a : Fld Z h0 a "com/example/portico/portico/core/media/MediaType$Acceptance" "quality" "I" (.int qa))  :
    MetFree l (⟨"com/example/portico/portico/core/media/MediaType$Acceptance", "isAcceptable", "()Z"⟩ : MethodName) (head1 (Jvm.Cond.code (⟨"com/example/portico/portico/core/media/MediaType$Acceptance", "isAcceptable", "()Z"⟩ : MethodName) prog_36_method_2_code 1 (some .boolean) :: ws) ({ frames := 0, cells := 0, slots := 0, locals := 0 } : Room)) (fun aa U => aa = #[(.ref a)] ∧ Z.Warmed39 U.vm ∧ U.heap = h0) (fun _ _ _ _ _ => True) (fun _ U o U' => ∃ v L, o = .returned v ∧ own_Qp (some (.int (f6_0 qa ))) h0 v U'.heap L ∧ FrameEnd U o U' L ({ frames := 0, cells := 0, slots := 0, locals := 0 } : Room).cells ({ frames := 0, cells := 0, slots := 0, locals := 0 } : Room).slots) := by
  refine own_met (plainFor_of_name pn_6) fun p e s m below meth c T0 X0 hx hby hml hret hlk hZ hown hnm e0 => ?_
  refine own_cast (ef_6 m a) ?_
  exact bk6_0 l Z a0 hw h0 a qa F_quality_a   X0 hx hby hml hret hlk hZ hown hnm e0
theorem own_le (x y : Int32) : (x < y) = (x.toInt < y.toInt) := by rw [Int32.lt_iff_toInt_lt]
theorem own_ok1 (q s u8 u9 : Int32) (h8 : u8 = (if (0 : Int32) < (f4_0 q s (0 : Int32) (2147483647 : Int32)) then (1 : Int32) else (0 : Int32))) (h9 : u9 = (if (f6_0 q) = u8 then (1 : Int32) else (0 : Int32))) : ¬ u9 = 0 := by
  have hs := rng32 s
  have e1 : (2147483647 : Int32).toInt = 2147483647 := by decide
  have e0 : (0 : Int32).toInt = 0 := by decide
  have key : f6_0 q = u8 := by
    subst h8
    have hn : ¬ (2147483647 : Int32) < s := by rw [Int32.lt_iff_toInt_lt]; omega
    by_cases h1 : q < 0
    · have h2 : ¬ (0 : Int32) < q := by rw [Int32.lt_iff_toInt_lt] at *; omega
      simp only [f6_0, f4_0, f4_31, f5_0, f5_19, f6_12, h1, h2, if_true, if_false]
      rw [if_neg (by decide : ¬ (-1 : Int32) = 0)]
      decide
    · by_cases h3 : q = 0
      · subst h3
        by_cases h4 : s < (2147483647 : Int32)
        · simp only [f6_0, f4_0, f4_31, f5_0, f5_19, f6_12, h4, if_true, if_false]
          decide
        · have h5 : s = (2147483647 : Int32) := by
            rw [Int32.lt_iff_toInt_lt] at *
            exact Int32.toInt_inj.mp (by omega)
          subst h5
          decide
      · have h2 : (0 : Int32) < q := by
          rw [Int32.lt_iff_toInt_lt] at *
          have : q.toInt ≠ 0 := fun z => h3 (Int32.toInt_inj.mp (by rw [z, e0]))
          omega
        simp only [f6_0, f4_0, f4_31, f5_0, f5_19, f6_12, h1, h2, h3, if_true, if_false]
        rw [if_neg (by decide : ¬ (1 : Int32) = 0)]
        decide
  rw [if_pos key] at h9
  subst h9
  decide
theorem own_ok2 (r dq u v : Int32) (hd : dq = ((r &&& (2147483647 : Int32)) % (1001 : Int32))) (hu : u = (if dq = (0 : Int32) then (0 : Int32) else (1 : Int32))) (hv : v = (if (f6_0 dq) = u then (1 : Int32) else (0 : Int32))) : ¬ v = 0 := by
  have b1 := c_and r 2147483647 (by decide)
  have b2 := (c_irem (r &&& (2147483647 : Int32)) (1001 : Int32) 1001 (by decide)).1 b1.1
  rw [← hd] at b2
  have e0 : (0 : Int32).toInt = 0 := by decide
  have key : f6_0 dq = u := by
    subst hu
    by_cases h : dq = 0
    · subst h; decide
    · have h2 : (0 : Int32) < dq := by
        rw [Int32.lt_iff_toInt_lt]
        have : dq.toInt ≠ 0 := fun z => h (Int32.toInt_inj.mp (by rw [z, e0]))
        omega
      simp only [f6_0, f6_12, h, h2, if_true, if_false]
      decide
  rw [if_pos key] at hv
  subst hv
  decide
theorem pn_0 : plainName "com/example/portico/portico/core/media/AcceptanceIsAcceptablePinLaw" = true := by first | (simp [plainName, overriddenIn]; done) | decide +kernel
theorem ef_0 (m : MethodId) (i0 : Int32) (i1 : Int32) (i2 : Int32) (i3 : Int32) : entryFrame m #[(.int i0), (.int i1), (.int i2), (.int i3)] maxLocals = mkF m 0 #[.val (.int i0), .val (.int i1), .val (.int i2), .val (.int i3), .unset, .unset, .unset, .unset, .unset, .unset, .unset] [] := by first | (simp [entryFrame, mkF, argsToLocals, Value.category, maxLocals]; done) | rfl
def own_Q0 (n0 : Nat) (v : Option Value) (h : Heap) (L : List Loc) : Prop := v = some (.int 1) ∧ Fr n0 L
set_option maxRecDepth 65536 in
set_option maxHeartbeats 40000000 in
theorem rm0 (l : Launch) (Z : State) (a0 : Array Value) (hw : ∀ d ∈ tables_1, d.before a0 Z = true) (ws : List Jvm.Cond) (i0 : Int32) (i1 : Int32) (i2 : Int32) (i3 : Int32)  (h0 : Heap) (n0 : Nat) (Z0 : n0 ≤ h0.size)  :
    MetFree l x (head1 (Jvm.Cond.code x code maxLocals ret :: ws) room_1) (fun aa U => aa = #[(.int i0), (.int i1), (.int i2), (.int i3)] ∧ Z.Warmed39 U.vm ∧ U.heap = h0) (fun _ _ _ _ _ => True) (fun _ U o U' => ∃ v L, o = .returned v ∧ own_Q0 n0 v U'.heap L ∧ FrameEnd U o U' L room_1.cells room_1.slots) := by
  refine own_met (plainFor_of_name pn_0) fun p e s m below meth c T0 X0 hx hby hml hret hlk hZ hown hnm e0 => ?_
  refine own_cast (ef_0 m i0 i1 i2 i3) ?_
  have NF := Fr.nil n0
  have Zs := Z0
  obtain ⟨T1, h1, X1, e1, E1, A1, D1, -, st1⟩ := newO X0 hx hZ hown (hw _ (List.mem_of_getElem? (i := 0) rfl)) (hw _ (List.mem_of_getElem? (i := 1) rfl)) (hw _ (List.mem_of_getElem? (i := 2) rfl)) e0 (g := (mkF m 0 #[.val (.int i0), .val (.int i1), .val (.int i2), .val (.int i3), .unset, .unset, .unset, .unset, .unset, .unset, .unset] [])) rfl (hb hby at_0) (by decide) (by decide)
  obtain ⟨b1, g1⟩ : ∃ z, z = h0.size := ⟨_, rfl⟩
  rw [← g1] at A1 D1 st1
  have g_b1 : n0 ≤ b1 := Nat.le_trans Zs (Nat.le_of_eq g1.symm)
  replace Zs : n0 ≤ h1.size := Nat.le_trans Zs E1.1
  have E_b1 : Exa Z h1 b1 "com/example/portico/portico/core/media/MediaType$Acceptance" := A1
  have F_quality_b1 : Fld Z h1 b1 "com/example/portico/portico/core/media/MediaType$Acceptance" "quality" "I" (.int (0 : Int32)) := D1 (Or.inr (hw _ (List.mem_of_getElem? (i := 15) rfl))) (ty := .int) (by decide)
  have F_specificity_b1 : Fld Z h1 b1 "com/example/portico/portico/core/media/MediaType$Acceptance" "specificity" "I" (.int (0 : Int32)) := D1 (Or.inr (hw _ (List.mem_of_getElem? (i := 17) rfl))) (ty := .int) (by decide)
  refine own_by (B := T1.setTop (mkF m 3 #[.val (.int i0), .val (.int i1), .val (.int i2), .val (.int i3), .unset, .unset, .unset, .unset, .unset, .unset, .unset] [(.ref b1)])) (fun t k => st1 _ k) ?_
  refine own_by (B := T1.setTop (mkF m 4 #[.val (.int i0), .val (.int i1), .val (.int i2), .val (.int i3), .unset, .unset, .unset, .unset, .unset, .unset, .unset] [(.ref b1), (.ref b1)])) (fun t k => XS.dup X1.here hx rfl (hb hby at_3) rfl rfl k) ?_
  refine own_by (B := T1.setTop (mkF m 5 #[.val (.int i0), .val (.int i1), .val (.int i2), .val (.int i3), .unset, .unset, .unset, .unset, .unset, .unset, .unset] [(.int i0), (.ref b1), (.ref b1)])) (fun t k => XS.iloadN X1.here hx rfl (hb hby at_4) rfl k) ?_
  refine own_by (B := T1.setTop (mkF m 6 #[.val (.int i0), .val (.int i1), .val (.int i2), .val (.int i3), .unset, .unset, .unset, .unset, .unset, .unset, .unset] [(.int i1), (.int i0), (.ref b1), (.ref b1)])) (fun t k => XS.iloadN X1.here hx rfl (hb hby at_5) rfl k) ?_
  obtain ⟨v2, _, ⟨T2, L2, c2, n2⟩, -, X2, ⟨Lc2, hQ2, l2, y2, z2⟩, st2⟩ := X1.specialBack hx (y := (⟨"com/example/portico/portico/core/media/MediaType$Acceptance", "<init>", "(II)V"⟩ : MethodName)) rfl hown (mvT hZ (hw _ (List.mem_of_getElem? (i := 3) rfl))) (mvT hZ (hw _ (List.mem_of_getElem? (i := 4) rfl))) (mvT hZ (hw _ (List.mem_of_getElem? (i := 5) rfl))) (by decide) (backOf (W := 1) (rm1 l Z a0 hw [] b1 i0 i1  h1 n0 Zs F_quality_b1 F_specificity_b1 E_b1 g_b1  ) hZ (hw _ (List.mem_of_getElem? (i := 5) rfl)) (hw _ (List.mem_of_getElem? (i := 2) rfl)) (by decide) (by decide)) (g := (mkF m 6 #[.val (.int i0), .val (.int i1), .val (.int i2), .val (.int i3), .unset, .unset, .unset, .unset, .unset, .unset, .unset] [(.int i1), (.int i0), (.ref b1), (.ref b1)])) rfl (by rw [hml]; rfl) (Steps.refl _) (a := b1) (argsL := [(.int i0), (.int i1)]) (rest := [(.ref b1)]) (lenOf pd_2 rfl) rfl (by show 2 * 0 + _ ≤ _; exact Nat.le_of_eq rfl) (hb hby at_6) (fun _ _ => ⟨rfl, e1, (by decide : 1 + 0 ≤ _), (by decide : 2 + 0 ≤ _)⟩)
  dsimp only [Pt.U, Pt.locs, Pt.cells, Pt.slots] at X2 l2 y2 z2 st2 hQ2
  subst l2 y2 z2
  obtain ⟨rfl, Nq2, Kq2, o0_2, o1_2, o2_2⟩ := hQ2
  have NF := Fr.app NF Nq2
  replace E_b1 : Exa Z T2.heap b1 "com/example/portico/portico/core/media/MediaType$Acceptance" := E_b1.keep Kq2
  clear F_quality_b1
  clear F_specificity_b1
  replace Zs : n0 ≤ T2.heap.size := Nat.le_trans Zs Kq2.1
  have F_quality_b1 : Fld Z T2.heap b1 "com/example/portico/portico/core/media/MediaType$Acceptance" "quality" "I" (.int i0) := o0_2
  have F_specificity_b1 : Fld Z T2.heap b1 "com/example/portico/portico/core/media/MediaType$Acceptance" "specificity" "I" (.int i1) := o1_2
  have E_b1 : Exa Z T2.heap b1 "com/example/portico/portico/core/media/MediaType$Acceptance" := o2_2
  refine own_by (B := T2.setTop (mkF m 9 #[.val (.int i0), .val (.int i1), .val (.int i2), .val (.int i3), .unset, .unset, .unset, .unset, .unset, .unset, .unset] [(.ref b1)])) (fun t k => st2.trans k) ?_
  refine own_by (B := T2.setTop (mkF m 11 #[.val (.int i0), .val (.int i1), .val (.int i2), .val (.int i3), .val (.ref b1), .unset, .unset, .unset, .unset, .unset, .unset] [])) (fun t k => XS.astore X2.here hx rfl (hb hby at_9) rfl rfl (l' := #[.val (.int i0), .val (.int i1), .val (.int i2), .val (.int i3), .val (.ref b1), .unset, .unset, .unset, .unset, .unset, .unset]) rfl k) ?_
  obtain ⟨T3, h3, X3, e3, E3, A3, D3, -, st3⟩ := newO X2 hx hZ hown (hw _ (List.mem_of_getElem? (i := 0) rfl)) (hw _ (List.mem_of_getElem? (i := 1) rfl)) (hw _ (List.mem_of_getElem? (i := 2) rfl)) rfl (g := (mkF m 11 #[.val (.int i0), .val (.int i1), .val (.int i2), .val (.int i3), .val (.ref b1), .unset, .unset, .unset, .unset, .unset, .unset] [])) rfl (hb hby at_11) (by decide) (by decide)
  obtain ⟨b3, g3⟩ : ∃ z, z = T2.heap.size := ⟨_, rfl⟩
  rw [← g3] at A3 D3 st3
  have g_b3 : n0 ≤ b3 := Nat.le_trans Zs (Nat.le_of_eq g3.symm)
  have ne_b1_b3 : b1 ≠ b3 := Nat.ne_of_lt (Nat.lt_of_lt_of_le E_b1.lt (Nat.le_of_eq g3.symm))
  replace E_b1 : Exa Z h3 b1 "com/example/portico/portico/core/media/MediaType$Acceptance" := E_b1.ext E3
  replace F_quality_b1 : Fld Z h3 b1 "com/example/portico/portico/core/media/MediaType$Acceptance" "quality" "I" (.int i0) := F_quality_b1.ext E3
  replace F_specificity_b1 : Fld Z h3 b1 "com/example/portico/portico/core/media/MediaType$Acceptance" "specificity" "I" (.int i1) := F_specificity_b1.ext E3
  replace Zs : n0 ≤ h3.size := Nat.le_trans Zs E3.1
  have E_b3 : Exa Z h3 b3 "com/example/portico/portico/core/media/MediaType$Acceptance" := A3
  have F_quality_b3 : Fld Z h3 b3 "com/example/portico/portico/core/media/MediaType$Acceptance" "quality" "I" (.int (0 : Int32)) := D3 (Or.inr (hw _ (List.mem_of_getElem? (i := 15) rfl))) (ty := .int) (by decide)
  have F_specificity_b3 : Fld Z h3 b3 "com/example/portico/portico/core/media/MediaType$Acceptance" "specificity" "I" (.int (0 : Int32)) := D3 (Or.inr (hw _ (List.mem_of_getElem? (i := 17) rfl))) (ty := .int) (by decide)
  refine own_by (B := T3.setTop (mkF m 14 #[.val (.int i0), .val (.int i1), .val (.int i2), .val (.int i3), .val (.ref b1), .unset, .unset, .unset, .unset, .unset, .unset] [(.ref b3)])) (fun t k => st3 _ k) ?_
  refine own_by (B := T3.setTop (mkF m 15 #[.val (.int i0), .val (.int i1), .val (.int i2), .val (.int i3), .val (.ref b1), .unset, .unset, .unset, .unset, .unset, .unset] [(.ref b3), (.ref b3)])) (fun t k => XS.dup X3.here hx rfl (hb hby at_14) rfl rfl k) ?_
  refine own_by (B := T3.setTop (mkF m 16 #[.val (.int i0), .val (.int i1), .val (.int i2), .val (.int i3), .val (.ref b1), .unset, .unset, .unset, .unset, .unset, .unset] [(.int (0 : Int32)), (.ref b3), (.ref b3)])) (fun t k => XS.iconst X3.here hx rfl (hb hby at_15) k) ?_
  refine own_by (B := T3.setTop (mkF m 18 #[.val (.int i0), .val (.int i1), .val (.int i2), .val (.int i3), .val (.ref b1), .unset, .unset, .unset, .unset, .unset, .unset] [(.int (2147483647 : Int32)), (.int (0 : Int32)), (.ref b3), (.ref b3)])) (fun t k => X3.ldcInt hx hown (mvT hZ (hw _ (List.mem_of_getElem? (i := 18) rfl))) (g := (mkF m 16 #[.val (.int i0), .val (.int i1), .val (.int i2), .val (.int i3), .val (.ref b1), .unset, .unset, .unset, .unset, .unset, .unset] [(.int (0 : Int32)), (.ref b3), (.ref b3)])) rfl (hb hby at_16) _ k) ?_
  obtain ⟨v4, _, ⟨T4, L4, c4, n4⟩, -, X4, ⟨Lc4, hQ4, l4, y4, z4⟩, st4⟩ := X3.specialBack hx (y := (⟨"com/example/portico/portico/core/media/MediaType$Acceptance", "<init>", "(II)V"⟩ : MethodName)) rfl hown (mvT hZ (hw _ (List.mem_of_getElem? (i := 3) rfl))) (mvT hZ (hw _ (List.mem_of_getElem? (i := 4) rfl))) (mvT hZ (hw _ (List.mem_of_getElem? (i := 5) rfl))) (by decide) (backOf (W := 1) (rm1 l Z a0 hw [] b3 (0 : Int32) (2147483647 : Int32)  h3 n0 Zs F_quality_b3 F_specificity_b3 E_b3 g_b3  ) hZ (hw _ (List.mem_of_getElem? (i := 5) rfl)) (hw _ (List.mem_of_getElem? (i := 2) rfl)) (by decide) (by decide)) (g := (mkF m 18 #[.val (.int i0), .val (.int i1), .val (.int i2), .val (.int i3), .val (.ref b1), .unset, .unset, .unset, .unset, .unset, .unset] [(.int (2147483647 : Int32)), (.int (0 : Int32)), (.ref b3), (.ref b3)])) rfl (by rw [hml]; rfl) (Steps.refl _) (a := b3) (argsL := [(.int (0 : Int32)), (.int (2147483647 : Int32))]) (rest := [(.ref b3)]) (lenOf pd_2 rfl) rfl (by show 2 * 0 + _ ≤ _; exact Nat.le_of_eq rfl) (hb hby at_18) (fun _ _ => ⟨rfl, e3, (by decide : 2 + 0 ≤ _), (by decide : 4 + 0 ≤ _)⟩)
  dsimp only [Pt.U, Pt.locs, Pt.cells, Pt.slots] at X4 l4 y4 z4 st4 hQ4
  subst l4 y4 z4
  obtain ⟨rfl, Nq4, Kq4, o0_4, o1_4, o2_4⟩ := hQ4
  have NF := Fr.app NF Nq4
  replace E_b1 : Exa Z T4.heap b1 "com/example/portico/portico/core/media/MediaType$Acceptance" := E_b1.keep Kq4
  replace F_quality_b1 : Fld Z T4.heap b1 "com/example/portico/portico/core/media/MediaType$Acceptance" "quality" "I" (.int i0) := F_quality_b1.keep Kq4 (ninS ne_b1_b3 nin0)
  replace F_specificity_b1 : Fld Z T4.heap b1 "com/example/portico/portico/core/media/MediaType$Acceptance" "specificity" "I" (.int i1) := F_specificity_b1.keep Kq4 (ninS ne_b1_b3 nin0)
  replace E_b3 : Exa Z T4.heap b3 "com/example/portico/portico/core/media/MediaType$Acceptance" := E_b3.keep Kq4
  clear F_quality_b3
  clear F_specificity_b3
  replace Zs : n0 ≤ T4.heap.size := Nat.le_trans Zs Kq4.1
  have F_quality_b3 : Fld Z T4.heap b3 "com/example/portico/portico/core/media/MediaType$Acceptance" "quality" "I" (.int (0 : Int32)) := o0_4
  have F_specificity_b3 : Fld Z T4.heap b3 "com/example/portico/portico/core/media/MediaType$Acceptance" "specificity" "I" (.int (2147483647 : Int32)) := o1_4
  have E_b3 : Exa Z T4.heap b3 "com/example/portico/portico/core/media/MediaType$Acceptance" := o2_4
  refine own_by (B := T4.setTop (mkF m 21 #[.val (.int i0), .val (.int i1), .val (.int i2), .val (.int i3), .val (.ref b1), .unset, .unset, .unset, .unset, .unset, .unset] [(.ref b3)])) (fun t k => st4.trans k) ?_
  refine own_by (B := T4.setTop (mkF m 23 #[.val (.int i0), .val (.int i1), .val (.int i2), .val (.int i3), .val (.ref b1), .val (.ref b3), .unset, .unset, .unset, .unset, .unset] [])) (fun t k => XS.astore X4.here hx rfl (hb hby at_21) rfl rfl (l' := #[.val (.int i0), .val (.int i1), .val (.int i2), .val (.int i3), .val (.ref b1), .val (.ref b3), .unset, .unset, .unset, .unset, .unset]) rfl k) ?_
  refine own_by (B := T4.setTop (mkF m 24 #[.val (.int i0), .val (.int i1), .val (.int i2), .val (.int i3), .val (.ref b1), .val (.ref b3), .unset, .unset, .unset, .unset, .unset] [(.int i2)])) (fun t k => XS.iloadN X4.here hx rfl (hb hby at_23) rfl k) ?_
  refine own_by (B := T4.setTop (mkF m 26 #[.val (.int i0), .val (.int i1), .val (.int i2), .val (.int i3), .val (.ref b1), .val (.ref b3), .unset, .unset, .unset, .unset, .unset] [(.int (2147483647 : Int32)), (.int i2)])) (fun t k => X4.ldcInt hx hown (mvT hZ (hw _ (List.mem_of_getElem? (i := 18) rfl))) (g := (mkF m 24 #[.val (.int i0), .val (.int i1), .val (.int i2), .val (.int i3), .val (.ref b1), .val (.ref b3), .unset, .unset, .unset, .unset, .unset] [(.int i2)])) rfl (hb hby at_24) _ k) ?_
  refine own_by (B := T4.setTop (mkF m 27 #[.val (.int i0), .val (.int i1), .val (.int i2), .val (.int i3), .val (.ref b1), .val (.ref b3), .unset, .unset, .unset, .unset, .unset] [(.int (i2 &&& (2147483647 : Int32)))])) (fun t k => XS.iand X4.here hx rfl (hb hby at_26) rfl k) ?_
  refine own_by (B := T4.setTop (mkF m 30 #[.val (.int i0), .val (.int i1), .val (.int i2), .val (.int i3), .val (.ref b1), .val (.ref b3), .unset, .unset, .unset, .unset, .unset] [(.int (1001 : Int32)), (.int (i2 &&& (2147483647 : Int32)))])) (fun t k => XS.sipush X4.here hx rfl (hb hby at_27) k) ?_
  refine own_by (B := T4.setTop (mkF m 31 #[.val (.int i0), .val (.int i1), .val (.int i2), .val (.int i3), .val (.ref b1), .val (.ref b3), .unset, .unset, .unset, .unset, .unset] [(.int ((i2 &&& (2147483647 : Int32)) % (1001 : Int32)))])) (fun t k => iremM X4 hx rfl (hb hby at_30) rfl (by decide) k) ?_
  refine own_by (B := T4.setTop (mkF m 33 #[.val (.int i0), .val (.int i1), .val (.int i2), .val (.int i3), .val (.ref b1), .val (.ref b3), .val (.int ((i2 &&& (2147483647 : Int32)) % (1001 : Int32))), .unset, .unset, .unset, .unset] [])) (fun t k => XS.istore X4.here hx rfl (hb hby at_31) rfl (l' := #[.val (.int i0), .val (.int i1), .val (.int i2), .val (.int i3), .val (.ref b1), .val (.ref b3), .val (.int ((i2 &&& (2147483647 : Int32)) % (1001 : Int32))), .unset, .unset, .unset, .unset]) rfl k) ?_
  obtain ⟨dq, hdq⟩ : ∃ z : Int32, z = ((i2 &&& (2147483647 : Int32)) % (1001 : Int32)) := ⟨_, rfl⟩
  rw [← hdq]
  obtain ⟨T5, h5, X5, e5, E5, A5, D5, -, st5⟩ := newO X4 hx hZ hown (hw _ (List.mem_of_getElem? (i := 0) rfl)) (hw _ (List.mem_of_getElem? (i := 1) rfl)) (hw _ (List.mem_of_getElem? (i := 2) rfl)) rfl (g := (mkF m 33 #[.val (.int i0), .val (.int i1), .val (.int i2), .val (.int i3), .val (.ref b1), .val (.ref b3), .val (.int dq), .unset, .unset, .unset, .unset] [])) rfl (hb hby at_33) (by decide) (by decide)
  obtain ⟨b5, g5⟩ : ∃ z, z = T4.heap.size := ⟨_, rfl⟩
  rw [← g5] at A5 D5 st5
  have g_b5 : n0 ≤ b5 := Nat.le_trans Zs (Nat.le_of_eq g5.symm)
  have ne_b1_b5 : b1 ≠ b5 := Nat.ne_of_lt (Nat.lt_of_lt_of_le E_b1.lt (Nat.le_of_eq g5.symm))
  have ne_b3_b5 : b3 ≠ b5 := Nat.ne_of_lt (Nat.lt_of_lt_of_le E_b3.lt (Nat.le_of_eq g5.symm))
  replace E_b1 : Exa Z h5 b1 "com/example/portico/portico/core/media/MediaType$Acceptance" := E_b1.ext E5
  replace F_quality_b1 : Fld Z h5 b1 "com/example/portico/portico/core/media/MediaType$Acceptance" "quality" "I" (.int i0) := F_quality_b1.ext E5
  replace F_specificity_b1 : Fld Z h5 b1 "com/example/portico/portico/core/media/MediaType$Acceptance" "specificity" "I" (.int i1) := F_specificity_b1.ext E5
  replace E_b3 : Exa Z h5 b3 "com/example/portico/portico/core/media/MediaType$Acceptance" := E_b3.ext E5
  replace F_quality_b3 : Fld Z h5 b3 "com/example/portico/portico/core/media/MediaType$Acceptance" "quality" "I" (.int (0 : Int32)) := F_quality_b3.ext E5
  replace F_specificity_b3 : Fld Z h5 b3 "com/example/portico/portico/core/media/MediaType$Acceptance" "specificity" "I" (.int (2147483647 : Int32)) := F_specificity_b3.ext E5
  replace Zs : n0 ≤ h5.size := Nat.le_trans Zs E5.1
  have E_b5 : Exa Z h5 b5 "com/example/portico/portico/core/media/MediaType$Acceptance" := A5
  have F_quality_b5 : Fld Z h5 b5 "com/example/portico/portico/core/media/MediaType$Acceptance" "quality" "I" (.int (0 : Int32)) := D5 (Or.inr (hw _ (List.mem_of_getElem? (i := 15) rfl))) (ty := .int) (by decide)
  have F_specificity_b5 : Fld Z h5 b5 "com/example/portico/portico/core/media/MediaType$Acceptance" "specificity" "I" (.int (0 : Int32)) := D5 (Or.inr (hw _ (List.mem_of_getElem? (i := 17) rfl))) (ty := .int) (by decide)
  refine own_by (B := T5.setTop (mkF m 36 #[.val (.int i0), .val (.int i1), .val (.int i2), .val (.int i3), .val (.ref b1), .val (.ref b3), .val (.int dq), .unset, .unset, .unset, .unset] [(.ref b5)])) (fun t k => st5 _ k) ?_
  refine own_by (B := T5.setTop (mkF m 37 #[.val (.int i0), .val (.int i1), .val (.int i2), .val (.int i3), .val (.ref b1), .val (.ref b3), .val (.int dq), .unset, .unset, .unset, .unset] [(.ref b5), (.ref b5)])) (fun t k => XS.dup X5.here hx rfl (hb hby at_36) rfl rfl k) ?_
  refine own_by (B := T5.setTop (mkF m 39 #[.val (.int i0), .val (.int i1), .val (.int i2), .val (.int i3), .val (.ref b1), .val (.ref b3), .val (.int dq), .unset, .unset, .unset, .unset] [(.int dq), (.ref b5), (.ref b5)])) (fun t k => XS.iload X5.here hx rfl (hb hby at_37) rfl k) ?_
  refine own_by (B := T5.setTop (mkF m 40 #[.val (.int i0), .val (.int i1), .val (.int i2), .val (.int i3), .val (.ref b1), .val (.ref b3), .val (.int dq), .unset, .unset, .unset, .unset] [(.int i3), (.int dq), (.ref b5), (.ref b5)])) (fun t k => XS.iloadN X5.here hx rfl (hb hby at_39) rfl k) ?_
  obtain ⟨v6, _, ⟨T6, L6, c6, n6⟩, -, X6, ⟨Lc6, hQ6, l6, y6, z6⟩, st6⟩ := X5.specialBack hx (y := (⟨"com/example/portico/portico/core/media/MediaType$Acceptance", "<init>", "(II)V"⟩ : MethodName)) rfl hown (mvT hZ (hw _ (List.mem_of_getElem? (i := 3) rfl))) (mvT hZ (hw _ (List.mem_of_getElem? (i := 4) rfl))) (mvT hZ (hw _ (List.mem_of_getElem? (i := 5) rfl))) (by decide) (backOf (W := 1) (rm1 l Z a0 hw [] b5 dq i3  h5 n0 Zs F_quality_b5 F_specificity_b5 E_b5 g_b5  ) hZ (hw _ (List.mem_of_getElem? (i := 5) rfl)) (hw _ (List.mem_of_getElem? (i := 2) rfl)) (by decide) (by decide)) (g := (mkF m 40 #[.val (.int i0), .val (.int i1), .val (.int i2), .val (.int i3), .val (.ref b1), .val (.ref b3), .val (.int dq), .unset, .unset, .unset, .unset] [(.int i3), (.int dq), (.ref b5), (.ref b5)])) rfl (by rw [hml]; rfl) (Steps.refl _) (a := b5) (argsL := [(.int dq), (.int i3)]) (rest := [(.ref b5)]) (lenOf pd_2 rfl) rfl (by show 2 * 0 + _ ≤ _; exact Nat.le_of_eq rfl) (hb hby at_40) (fun _ _ => ⟨rfl, e5, (by decide : 3 + 0 ≤ _), (by decide : 6 + 0 ≤ _)⟩)
  dsimp only [Pt.U, Pt.locs, Pt.cells, Pt.slots] at X6 l6 y6 z6 st6 hQ6
  subst l6 y6 z6
  obtain ⟨rfl, Nq6, Kq6, o0_6, o1_6, o2_6⟩ := hQ6
  have NF := Fr.app NF Nq6
  replace E_b1 : Exa Z T6.heap b1 "com/example/portico/portico/core/media/MediaType$Acceptance" := E_b1.keep Kq6
  replace F_quality_b1 : Fld Z T6.heap b1 "com/example/portico/portico/core/media/MediaType$Acceptance" "quality" "I" (.int i0) := F_quality_b1.keep Kq6 (ninS ne_b1_b5 nin0)
  replace F_specificity_b1 : Fld Z T6.heap b1 "com/example/portico/portico/core/media/MediaType$Acceptance" "specificity" "I" (.int i1) := F_specificity_b1.keep Kq6 (ninS ne_b1_b5 nin0)
  replace E_b3 : Exa Z T6.heap b3 "com/example/portico/portico/core/media/MediaType$Acceptance" := E_b3.keep Kq6
  replace F_quality_b3 : Fld Z T6.heap b3 "com/example/portico/portico/core/media/MediaType$Acceptance" "quality" "I" (.int (0 : Int32)) := F_quality_b3.keep Kq6 (ninS ne_b3_b5 nin0)
  replace F_specificity_b3 : Fld Z T6.heap b3 "com/example/portico/portico/core/media/MediaType$Acceptance" "specificity" "I" (.int (2147483647 : Int32)) := F_specificity_b3.keep Kq6 (ninS ne_b3_b5 nin0)
  replace E_b5 : Exa Z T6.heap b5 "com/example/portico/portico/core/media/MediaType$Acceptance" := E_b5.keep Kq6
  clear F_quality_b5
  clear F_specificity_b5
  replace Zs : n0 ≤ T6.heap.size := Nat.le_trans Zs Kq6.1
  have F_quality_b5 : Fld Z T6.heap b5 "com/example/portico/portico/core/media/MediaType$Acceptance" "quality" "I" (.int dq) := o0_6
  have F_specificity_b5 : Fld Z T6.heap b5 "com/example/portico/portico/core/media/MediaType$Acceptance" "specificity" "I" (.int i3) := o1_6
  have E_b5 : Exa Z T6.heap b5 "com/example/portico/portico/core/media/MediaType$Acceptance" := o2_6
  refine own_by (B := T6.setTop (mkF m 43 #[.val (.int i0), .val (.int i1), .val (.int i2), .val (.int i3), .val (.ref b1), .val (.ref b3), .val (.int dq), .unset, .unset, .unset, .unset] [(.ref b5)])) (fun t k => st6.trans k) ?_
  refine own_by (B := T6.setTop (mkF m 45 #[.val (.int i0), .val (.int i1), .val (.int i2), .val (.int i3), .val (.ref b1), .val (.ref b3), .val (.int dq), .val (.ref b5), .unset, .unset, .unset] [])) (fun t k => XS.astore X6.here hx rfl (hb hby at_43) rfl rfl (l' := #[.val (.int i0), .val (.int i1), .val (.int i2), .val (.int i3), .val (.ref b1), .val (.ref b3), .val (.int dq), .val (.ref b5), .unset, .unset, .unset]) rfl k) ?_
  refine own_by (B := T6.setTop (mkF m 47 #[.val (.int i0), .val (.int i1), .val (.int i2), .val (.int i3), .val (.ref b1), .val (.ref b3), .val (.int dq), .val (.ref b5), .unset, .unset, .unset] [(.ref b1)])) (fun t k => XS.aload X6.here hx rfl (hb hby at_45) rfl rfl k) ?_
  refine own_by (B := T6.setTop (mkF m 49 #[.val (.int i0), .val (.int i1), .val (.int i2), .val (.int i3), .val (.ref b1), .val (.ref b3), .val (.int dq), .val (.ref b5), .unset, .unset, .unset] [(.ref b3), (.ref b1)])) (fun t k => XS.aload X6.here hx rfl (hb hby at_47) rfl rfl k) ?_
  obtain ⟨cq7, kq7, q7a, q7b, q7c⟩ := isOf hZ rfl E_b1
  obtain ⟨v7, _, ⟨T7, L7, c7, n7⟩, -, X7, ⟨Lc7, hQ7, l7, y7, z7⟩, st7⟩ := X6.virtualBack hx (y := (⟨"com/example/portico/portico/core/media/MediaType$Acceptance", "compareTo", "(Lcom/example/portico/portico/core/media/MediaType$Acceptance;)I"⟩ : MethodName)) (z := (⟨"com/example/portico/portico/core/media/MediaType$Acceptance", "compareTo", "(Lcom/example/portico/portico/core/media/MediaType$Acceptance;)I"⟩ : MethodName)) hown (mvT hZ (hw _ (List.mem_of_getElem? (i := 19) rfl))) (mvT hZ (hw _ (List.mem_of_getElem? (i := 20) rfl))) (notFace_of_selects (args := #[]) (mvT hZ (hw _ (List.mem_of_getElem? (i := 22) rfl)))) (mvT hZ (hw _ (List.mem_of_getElem? (i := 22) rfl))) (mvT hZ (hw _ (List.mem_of_getElem? (i := 21) rfl))) (by decide) (backOf (W := 0) (rm4 l Z a0 hw [] b1 b3 i0 i1 (0 : Int32) (2147483647 : Int32) T6.heap F_quality_b1 F_specificity_b1 F_quality_b3 F_specificity_b3) hZ (hw _ (List.mem_of_getElem? (i := 23) rfl)) (hw _ (List.mem_of_getElem? (i := 2) rfl)) (by decide) (by decide)) q7a q7c (g := (mkF m 49 #[.val (.int i0), .val (.int i1), .val (.int i2), .val (.int i3), .val (.ref b1), .val (.ref b3), .val (.int dq), .val (.ref b5), .unset, .unset, .unset] [(.ref b3), (.ref b1)])) rfl (by rw [hml]; rfl) (Steps.refl _) (argsL := [(.ref b3)]) (rest := []) (lenOf pd_3 rfl) rfl (by show 2 * 0 + _ ≤ _; exact Nat.le_of_eq rfl) (hb hby at_49) (fun _ _ => ⟨rfl, rfl, (by decide : 3 + 0 ≤ _), (by decide : 6 + 0 ≤ _)⟩)
  dsimp only [Pt.U, Pt.locs, Pt.cells, Pt.slots] at X7 l7 y7 z7 st7 hQ7
  subst l7 y7 z7
  obtain ⟨rfl, rfl, e7⟩ := hQ7
  have NF := Fr.app NF (Fr.nil n0)
  refine own_by (B := T7.setTop (mkF m 52 #[.val (.int i0), .val (.int i1), .val (.int i2), .val (.int i3), .val (.ref b1), .val (.ref b3), .val (.int dq), .val (.ref b5), .unset, .unset, .unset] [(.int (f4_0 i0 i1 (0 : Int32) (2147483647 : Int32)))])) (fun t k => st7.trans k) ?_
  obtain ⟨u8, hu8⟩ : ∃ z : Int32, z = (if (0 : Int32) < (f4_0 i0 i1 (0 : Int32) (2147483647 : Int32)) then (1 : Int32) else (0 : Int32)) := ⟨_, rfl⟩
  refine own_by (B := T7.setTop (mkF m 60 #[.val (.int i0), .val (.int i1), .val (.int i2), .val (.int i3), .val (.ref b1), .val (.ref b3), .val (.int dq), .val (.ref b5), .unset, .unset, .unset] [(.int u8)])) (fun t k => ?_) ?_
  ·
    show Steps p.tables e below (T7.setTop (mkF m 52 #[.val (.int i0), .val (.int i1), .val (.int i2), .val (.int i3), .val (.ref b1), .val (.ref b3), .val (.int dq), .val (.ref b5), .unset, .unset, .unset] [(.int (f4_0 i0 i1 (0 : Int32) (2147483647 : Int32)))])) t
    by_cases hm9 : (0 : Int32) < (f4_0 i0 i1 (0 : Int32) (2147483647 : Int32))
    ·
      rw [if_pos hm9] at hu8
      refine XS.ifNo X7.here hx rfl (hb hby at_52) rfl ((if0 _ _).trans (tlt hm9).2.2.2) ?_
      show Steps p.tables e below (T7.setTop (mkF m 55 #[.val (.int i0), .val (.int i1), .val (.int i2), .val (.int i3), .val (.ref b1), .val (.ref b3), .val (.int dq), .val (.ref b5), .unset, .unset, .unset] [])) t
      show Steps p.tables e below (T7.setTop (mkF m 55 #[.val (.int i0), .val (.int i1), .val (.int i2), .val (.int i3), .val (.ref b1), .val (.ref b3), .val (.int dq), .val (.ref b5), .unset, .unset, .unset] [])) t
      refine XS.iconst X7.here hx rfl (hb hby at_55) ?_
      show Steps p.tables e below (T7.setTop (mkF m 56 #[.val (.int i0), .val (.int i1), .val (.int i2), .val (.int i3), .val (.ref b1), .val (.ref b3), .val (.int dq), .val (.ref b5), .unset, .unset, .unset] [(.int (1 : Int32))])) t
      refine XS.goto X7.here hx rfl (pc0 := 56) (pc' := 60) rfl (hb hby at_56) (by decide) (by decide) ?_
      show Steps p.tables e below (T7.setTop (mkF m 60 #[.val (.int i0), .val (.int i1), .val (.int i2), .val (.int i3), .val (.ref b1), .val (.ref b3), .val (.int dq), .val (.ref b5), .unset, .unset, .unset] [(.int (1 : Int32))])) t
      subst hu8
      exact k
    ·
      rw [if_neg hm9] at hu8
      refine XS.ifYes X7.here hx rfl (pc0 := 52) (pc' := 59) rfl (hb hby at_52) rfl ((if0 _ _).trans (flt hm9).2.2.2) (by decide) (by decide) ?_
      show Steps p.tables e below (T7.setTop (mkF m 59 #[.val (.int i0), .val (.int i1), .val (.int i2), .val (.int i3), .val (.ref b1), .val (.ref b3), .val (.int dq), .val (.ref b5), .unset, .unset, .unset] [])) t
      show Steps p.tables e below (T7.setTop (mkF m 59 #[.val (.int i0), .val (.int i1), .val (.int i2), .val (.int i3), .val (.ref b1), .val (.ref b3), .val (.int dq), .val (.ref b5), .unset, .unset, .unset] [])) t
      refine XS.iconst X7.here hx rfl (hb hby at_59) ?_
      show Steps p.tables e below (T7.setTop (mkF m 60 #[.val (.int i0), .val (.int i1), .val (.int i2), .val (.int i3), .val (.ref b1), .val (.ref b3), .val (.int dq), .val (.ref b5), .unset, .unset, .unset] [(.int (0 : Int32))])) t
      subst hu8
      exact k
  refine own_by (B := T7.setTop (mkF m 62 #[.val (.int i0), .val (.int i1), .val (.int i2), .val (.int i3), .val (.ref b1), .val (.ref b3), .val (.int dq), .val (.ref b5), .val (.int u8), .unset, .unset] [])) (fun t k => XS.istore X7.here hx rfl (hb hby at_60) rfl (l' := #[.val (.int i0), .val (.int i1), .val (.int i2), .val (.int i3), .val (.ref b1), .val (.ref b3), .val (.int dq), .val (.ref b5), .val (.int u8), .unset, .unset]) rfl k) ?_
  refine own_by (B := T7.setTop (mkF m 64 #[.val (.int i0), .val (.int i1), .val (.int i2), .val (.int i3), .val (.ref b1), .val (.ref b3), .val (.int dq), .val (.ref b5), .val (.int u8), .unset, .unset] [(.ref b1)])) (fun t k => XS.aload X7.here hx rfl (hb hby at_62) rfl rfl k) ?_
  obtain ⟨cq10, kq10, q10a, q10b, q10c⟩ := isOf hZ e7 E_b1
  obtain ⟨v10, _, ⟨T10, L10, c10, n10⟩, -, X10, ⟨Lc10, hQ10, l10, y10, z10⟩, st10⟩ := X7.virtualBack hx (y := (⟨"com/example/portico/portico/core/media/MediaType$Acceptance", "isAcceptable", "()Z"⟩ : MethodName)) (z := (⟨"com/example/portico/portico/core/media/MediaType$Acceptance", "isAcceptable", "()Z"⟩ : MethodName)) hown (mvT hZ (hw _ (List.mem_of_getElem? (i := 28) rfl))) (mvT hZ (hw _ (List.mem_of_getElem? (i := 29) rfl))) (notFace_of_selects (args := #[]) (mvT hZ (hw _ (List.mem_of_getElem? (i := 31) rfl)))) (mvT hZ (hw _ (List.mem_of_getElem? (i := 31) rfl))) (mvT hZ (hw _ (List.mem_of_getElem? (i := 30) rfl))) (by decide) (backOf (W := 0) (rm6 l Z a0 hw [] b1 i0 T6.heap F_quality_b1) hZ (hw _ (List.mem_of_getElem? (i := 32) rfl)) (hw _ (List.mem_of_getElem? (i := 2) rfl)) (by decide) (by decide)) q10a q10c (g := (mkF m 64 #[.val (.int i0), .val (.int i1), .val (.int i2), .val (.int i3), .val (.ref b1), .val (.ref b3), .val (.int dq), .val (.ref b5), .val (.int u8), .unset, .unset] [(.ref b1)])) rfl (by rw [hml]; rfl) (Steps.refl _) (argsL := []) (rest := []) (lenOf pd_4 rfl) rfl (by show 2 * 0 + _ ≤ _; exact Nat.le_of_eq rfl) (hb hby at_64) (fun _ _ => ⟨rfl, e7, (by decide : 3 + 0 ≤ _), (by decide : 6 + 0 ≤ _)⟩)
  dsimp only [Pt.U, Pt.locs, Pt.cells, Pt.slots] at X10 l10 y10 z10 st10 hQ10
  subst l10 y10 z10
  obtain ⟨rfl, rfl, e10⟩ := hQ10
  have NF := Fr.app NF (Fr.nil n0)
  refine own_by (B := T10.setTop (mkF m 67 #[.val (.int i0), .val (.int i1), .val (.int i2), .val (.int i3), .val (.ref b1), .val (.ref b3), .val (.int dq), .val (.ref b5), .val (.int u8), .unset, .unset] [(.int (f6_0 i0))])) (fun t k => st10.trans k) ?_
  refine own_by (B := T10.setTop (mkF m 69 #[.val (.int i0), .val (.int i1), .val (.int i2), .val (.int i3), .val (.ref b1), .val (.ref b3), .val (.int dq), .val (.ref b5), .val (.int u8), .unset, .unset] [(.int u8), (.int (f6_0 i0))])) (fun t k => XS.iload X10.here hx rfl (hb hby at_67) rfl k) ?_
  obtain ⟨u9, hu9⟩ : ∃ z : Int32, z = (if (f6_0 i0) = u8 then (1 : Int32) else (0 : Int32)) := ⟨_, rfl⟩
  refine own_by (B := T10.setTop (mkF m 77 #[.val (.int i0), .val (.int i1), .val (.int i2), .val (.int i3), .val (.ref b1), .val (.ref b3), .val (.int dq), .val (.ref b5), .val (.int u8), .unset, .unset] [(.int u9)])) (fun t k => ?_) ?_
  ·
    show Steps p.tables e below (T10.setTop (mkF m 69 #[.val (.int i0), .val (.int i1), .val (.int i2), .val (.int i3), .val (.ref b1), .val (.ref b3), .val (.int dq), .val (.ref b5), .val (.int u8), .unset, .unset] [(.int u8), (.int (f6_0 i0))])) t
    by_cases hm12 : (f6_0 i0) = u8
    ·
      rw [if_pos hm12] at hu9
      refine XS.icmpNo X10.here hx rfl (hb hby at_69) rfl (teq hm12).2 ?_
      show Steps p.tables e below (T10.setTop (mkF m 72 #[.val (.int i0), .val (.int i1), .val (.int i2), .val (.int i3), .val (.ref b1), .val (.ref b3), .val (.int dq), .val (.ref b5), .val (.int u8), .unset, .unset] [])) t
      show Steps p.tables e below (T10.setTop (mkF m 72 #[.val (.int i0), .val (.int i1), .val (.int i2), .val (.int i3), .val (.ref b1), .val (.ref b3), .val (.int dq), .val (.ref b5), .val (.int u8), .unset, .unset] [])) t
      refine XS.iconst X10.here hx rfl (hb hby at_72) ?_
      show Steps p.tables e below (T10.setTop (mkF m 73 #[.val (.int i0), .val (.int i1), .val (.int i2), .val (.int i3), .val (.ref b1), .val (.ref b3), .val (.int dq), .val (.ref b5), .val (.int u8), .unset, .unset] [(.int (1 : Int32))])) t
      refine XS.goto X10.here hx rfl (pc0 := 73) (pc' := 77) rfl (hb hby at_73) (by decide) (by decide) ?_
      show Steps p.tables e below (T10.setTop (mkF m 77 #[.val (.int i0), .val (.int i1), .val (.int i2), .val (.int i3), .val (.ref b1), .val (.ref b3), .val (.int dq), .val (.ref b5), .val (.int u8), .unset, .unset] [(.int (1 : Int32))])) t
      subst hu9
      exact k
    ·
      rw [if_neg hm12] at hu9
      refine XS.icmpYes X10.here hx rfl (pc0 := 69) (pc' := 76) rfl (hb hby at_69) rfl (feq hm12).2 (by decide) (by decide) ?_
      show Steps p.tables e below (T10.setTop (mkF m 76 #[.val (.int i0), .val (.int i1), .val (.int i2), .val (.int i3), .val (.ref b1), .val (.ref b3), .val (.int dq), .val (.ref b5), .val (.int u8), .unset, .unset] [])) t
      show Steps p.tables e below (T10.setTop (mkF m 76 #[.val (.int i0), .val (.int i1), .val (.int i2), .val (.int i3), .val (.ref b1), .val (.ref b3), .val (.int dq), .val (.ref b5), .val (.int u8), .unset, .unset] [])) t
      refine XS.iconst X10.here hx rfl (hb hby at_76) ?_
      show Steps p.tables e below (T10.setTop (mkF m 77 #[.val (.int i0), .val (.int i1), .val (.int i2), .val (.int i3), .val (.ref b1), .val (.ref b3), .val (.int dq), .val (.ref b5), .val (.int u8), .unset, .unset] [(.int (0 : Int32))])) t
      subst hu9
      exact k
  refine own_by (B := T10.setTop (mkF m 79 #[.val (.int i0), .val (.int i1), .val (.int i2), .val (.int i3), .val (.ref b1), .val (.ref b3), .val (.int dq), .val (.ref b5), .val (.int u8), .val (.int u9), .unset] [])) (fun t k => XS.istore X10.here hx rfl (hb hby at_77) rfl (l' := #[.val (.int i0), .val (.int i1), .val (.int i2), .val (.int i3), .val (.ref b1), .val (.ref b3), .val (.int dq), .val (.ref b5), .val (.int u8), .val (.int u9), .unset]) rfl k) ?_
  refine own_by (B := T10.setTop (mkF m 81 #[.val (.int i0), .val (.int i1), .val (.int i2), .val (.int i3), .val (.ref b1), .val (.ref b3), .val (.int dq), .val (.ref b5), .val (.int u8), .val (.int u9), .unset] [(.ref b5)])) (fun t k => XS.aload X10.here hx rfl (hb hby at_79) rfl rfl k) ?_
  obtain ⟨cq13, kq13, q13a, q13b, q13c⟩ := isOf hZ e10 E_b5
  obtain ⟨v13, _, ⟨T13, L13, c13, n13⟩, -, X13, ⟨Lc13, hQ13, l13, y13, z13⟩, st13⟩ := X10.virtualBack hx (y := (⟨"com/example/portico/portico/core/media/MediaType$Acceptance", "isAcceptable", "()Z"⟩ : MethodName)) (z := (⟨"com/example/portico/portico/core/media/MediaType$Acceptance", "isAcceptable", "()Z"⟩ : MethodName)) hown (mvT hZ (hw _ (List.mem_of_getElem? (i := 28) rfl))) (mvT hZ (hw _ (List.mem_of_getElem? (i := 29) rfl))) (notFace_of_selects (args := #[]) (mvT hZ (hw _ (List.mem_of_getElem? (i := 31) rfl)))) (mvT hZ (hw _ (List.mem_of_getElem? (i := 31) rfl))) (mvT hZ (hw _ (List.mem_of_getElem? (i := 30) rfl))) (by decide) (backOf (W := 0) (rm6 l Z a0 hw [] b5 dq T6.heap F_quality_b5) hZ (hw _ (List.mem_of_getElem? (i := 32) rfl)) (hw _ (List.mem_of_getElem? (i := 2) rfl)) (by decide) (by decide)) q13a q13c (g := (mkF m 81 #[.val (.int i0), .val (.int i1), .val (.int i2), .val (.int i3), .val (.ref b1), .val (.ref b3), .val (.int dq), .val (.ref b5), .val (.int u8), .val (.int u9), .unset] [(.ref b5)])) rfl (by rw [hml]; rfl) (Steps.refl _) (argsL := []) (rest := []) (lenOf pd_4 rfl) rfl (by show 2 * 0 + _ ≤ _; exact Nat.le_of_eq rfl) (hb hby at_81) (fun _ _ => ⟨rfl, e10, (by decide : 3 + 0 ≤ _), (by decide : 6 + 0 ≤ _)⟩)
  dsimp only [Pt.U, Pt.locs, Pt.cells, Pt.slots] at X13 l13 y13 z13 st13 hQ13
  subst l13 y13 z13
  obtain ⟨rfl, rfl, e13⟩ := hQ13
  have NF := Fr.app NF (Fr.nil n0)
  refine own_by (B := T13.setTop (mkF m 84 #[.val (.int i0), .val (.int i1), .val (.int i2), .val (.int i3), .val (.ref b1), .val (.ref b3), .val (.int dq), .val (.ref b5), .val (.int u8), .val (.int u9), .unset] [(.int (f6_0 dq))])) (fun t k => st13.trans k) ?_
  refine own_by (B := T13.setTop (mkF m 86 #[.val (.int i0), .val (.int i1), .val (.int i2), .val (.int i3), .val (.ref b1), .val (.ref b3), .val (.int dq), .val (.ref b5), .val (.int u8), .val (.int u9), .unset] [(.int dq), (.int (f6_0 dq))])) (fun t k => XS.iload X13.here hx rfl (hb hby at_84) rfl k) ?_
  obtain ⟨u, hu⟩ : ∃ z : Int32, z = (if dq = (0 : Int32) then (0 : Int32) else (1 : Int32)) := ⟨_, rfl⟩
  refine own_by (B := T13.setTop (mkF m 94 #[.val (.int i0), .val (.int i1), .val (.int i2), .val (.int i3), .val (.ref b1), .val (.ref b3), .val (.int dq), .val (.ref b5), .val (.int u8), .val (.int u9), .unset] [(.int u), (.int (f6_0 dq))])) (fun t k => ?_) ?_
  ·
    show Steps p.tables e below (T13.setTop (mkF m 86 #[.val (.int i0), .val (.int i1), .val (.int i2), .val (.int i3), .val (.ref b1), .val (.ref b3), .val (.int dq), .val (.ref b5), .val (.int u8), .val (.int u9), .unset] [(.int dq), (.int (f6_0 dq))])) t
    by_cases hm15 : dq = (0 : Int32)
    ·
      rw [if_pos hm15] at hu
      refine XS.ifYes X13.here hx rfl (pc0 := 86) (pc' := 93) rfl (hb hby at_86) rfl ((if0 _ _).trans (teq hm15).1) (by decide) (by decide) ?_
      show Steps p.tables e below (T13.setTop (mkF m 93 #[.val (.int i0), .val (.int i1), .val (.int i2), .val (.int i3), .val (.ref b1), .val (.ref b3), .val (.int dq), .val (.ref b5), .val (.int u8), .val (.int u9), .unset] [(.int (f6_0 dq))])) t
      show Steps p.tables e below (T13.setTop (mkF m 93 #[.val (.int i0), .val (.int i1), .val (.int i2), .val (.int i3), .val (.ref b1), .val (.ref b3), .val (.int dq), .val (.ref b5), .val (.int u8), .val (.int u9), .unset] [(.int (f6_0 dq))])) t
      refine XS.iconst X13.here hx rfl (hb hby at_93) ?_
      show Steps p.tables e below (T13.setTop (mkF m 94 #[.val (.int i0), .val (.int i1), .val (.int i2), .val (.int i3), .val (.ref b1), .val (.ref b3), .val (.int dq), .val (.ref b5), .val (.int u8), .val (.int u9), .unset] [(.int (0 : Int32)), (.int (f6_0 dq))])) t
      subst hu
      exact k
    ·
      rw [if_neg hm15] at hu
      refine XS.ifNo X13.here hx rfl (hb hby at_86) rfl ((if0 _ _).trans (feq hm15).1) ?_
      show Steps p.tables e below (T13.setTop (mkF m 89 #[.val (.int i0), .val (.int i1), .val (.int i2), .val (.int i3), .val (.ref b1), .val (.ref b3), .val (.int dq), .val (.ref b5), .val (.int u8), .val (.int u9), .unset] [(.int (f6_0 dq))])) t
      show Steps p.tables e below (T13.setTop (mkF m 89 #[.val (.int i0), .val (.int i1), .val (.int i2), .val (.int i3), .val (.ref b1), .val (.ref b3), .val (.int dq), .val (.ref b5), .val (.int u8), .val (.int u9), .unset] [(.int (f6_0 dq))])) t
      refine XS.iconst X13.here hx rfl (hb hby at_89) ?_
      show Steps p.tables e below (T13.setTop (mkF m 90 #[.val (.int i0), .val (.int i1), .val (.int i2), .val (.int i3), .val (.ref b1), .val (.ref b3), .val (.int dq), .val (.ref b5), .val (.int u8), .val (.int u9), .unset] [(.int (1 : Int32)), (.int (f6_0 dq))])) t
      refine XS.goto X13.here hx rfl (pc0 := 90) (pc' := 94) rfl (hb hby at_90) (by decide) (by decide) ?_
      show Steps p.tables e below (T13.setTop (mkF m 94 #[.val (.int i0), .val (.int i1), .val (.int i2), .val (.int i3), .val (.ref b1), .val (.ref b3), .val (.int dq), .val (.ref b5), .val (.int u8), .val (.int u9), .unset] [(.int (1 : Int32)), (.int (f6_0 dq))])) t
      subst hu
      exact k
  obtain ⟨u10, hu10⟩ : ∃ z : Int32, z = (if (f6_0 dq) = u then (1 : Int32) else (0 : Int32)) := ⟨_, rfl⟩
  refine own_by (B := T13.setTop (mkF m 102 #[.val (.int i0), .val (.int i1), .val (.int i2), .val (.int i3), .val (.ref b1), .val (.ref b3), .val (.int dq), .val (.ref b5), .val (.int u8), .val (.int u9), .unset] [(.int u10)])) (fun t k => ?_) ?_
  ·
    show Steps p.tables e below (T13.setTop (mkF m 94 #[.val (.int i0), .val (.int i1), .val (.int i2), .val (.int i3), .val (.ref b1), .val (.ref b3), .val (.int dq), .val (.ref b5), .val (.int u8), .val (.int u9), .unset] [(.int u), (.int (f6_0 dq))])) t
    by_cases hm17 : (f6_0 dq) = u
    ·
      rw [if_pos hm17] at hu10
      refine XS.icmpNo X13.here hx rfl (hb hby at_94) rfl (teq hm17).2 ?_
      show Steps p.tables e below (T13.setTop (mkF m 97 #[.val (.int i0), .val (.int i1), .val (.int i2), .val (.int i3), .val (.ref b1), .val (.ref b3), .val (.int dq), .val (.ref b5), .val (.int u8), .val (.int u9), .unset] [])) t
      show Steps p.tables e below (T13.setTop (mkF m 97 #[.val (.int i0), .val (.int i1), .val (.int i2), .val (.int i3), .val (.ref b1), .val (.ref b3), .val (.int dq), .val (.ref b5), .val (.int u8), .val (.int u9), .unset] [])) t
      refine XS.iconst X13.here hx rfl (hb hby at_97) ?_
      show Steps p.tables e below (T13.setTop (mkF m 98 #[.val (.int i0), .val (.int i1), .val (.int i2), .val (.int i3), .val (.ref b1), .val (.ref b3), .val (.int dq), .val (.ref b5), .val (.int u8), .val (.int u9), .unset] [(.int (1 : Int32))])) t
      refine XS.goto X13.here hx rfl (pc0 := 98) (pc' := 102) rfl (hb hby at_98) (by decide) (by decide) ?_
      show Steps p.tables e below (T13.setTop (mkF m 102 #[.val (.int i0), .val (.int i1), .val (.int i2), .val (.int i3), .val (.ref b1), .val (.ref b3), .val (.int dq), .val (.ref b5), .val (.int u8), .val (.int u9), .unset] [(.int (1 : Int32))])) t
      subst hu10
      exact k
    ·
      rw [if_neg hm17] at hu10
      refine XS.icmpYes X13.here hx rfl (pc0 := 94) (pc' := 101) rfl (hb hby at_94) rfl (feq hm17).2 (by decide) (by decide) ?_
      show Steps p.tables e below (T13.setTop (mkF m 101 #[.val (.int i0), .val (.int i1), .val (.int i2), .val (.int i3), .val (.ref b1), .val (.ref b3), .val (.int dq), .val (.ref b5), .val (.int u8), .val (.int u9), .unset] [])) t
      show Steps p.tables e below (T13.setTop (mkF m 101 #[.val (.int i0), .val (.int i1), .val (.int i2), .val (.int i3), .val (.ref b1), .val (.ref b3), .val (.int dq), .val (.ref b5), .val (.int u8), .val (.int u9), .unset] [])) t
      refine XS.iconst X13.here hx rfl (hb hby at_101) ?_
      show Steps p.tables e below (T13.setTop (mkF m 102 #[.val (.int i0), .val (.int i1), .val (.int i2), .val (.int i3), .val (.ref b1), .val (.ref b3), .val (.int dq), .val (.ref b5), .val (.int u8), .val (.int u9), .unset] [(.int (0 : Int32))])) t
      subst hu10
      exact k
  refine own_by (B := T13.setTop (mkF m 104 #[.val (.int i0), .val (.int i1), .val (.int i2), .val (.int i3), .val (.ref b1), .val (.ref b3), .val (.int dq), .val (.ref b5), .val (.int u8), .val (.int u9), .val (.int u10)] [])) (fun t k => XS.istore X13.here hx rfl (hb hby at_102) rfl (l' := #[.val (.int i0), .val (.int i1), .val (.int i2), .val (.int i3), .val (.ref b1), .val (.ref b3), .val (.int dq), .val (.ref b5), .val (.int u8), .val (.int u9), .val (.int u10)]) rfl k) ?_
  refine own_by (B := T13.setTop (mkF m 106 #[.val (.int i0), .val (.int i1), .val (.int i2), .val (.int i3), .val (.ref b1), .val (.ref b3), .val (.int dq), .val (.ref b5), .val (.int u8), .val (.int u9), .val (.int u10)] [(.int u9)])) (fun t k => XS.iload X13.here hx rfl (hb hby at_104) rfl k) ?_
  have hc18 : ¬ (u9 = (0 : Int32)) := own_ok1 i0 i1 u8 u9 hu8 hu9
  refine own_by (B := T13.setTop (mkF m 109 #[.val (.int i0), .val (.int i1), .val (.int i2), .val (.int i3), .val (.ref b1), .val (.ref b3), .val (.int dq), .val (.ref b5), .val (.int u8), .val (.int u9), .val (.int u10)] [])) (fun t k => XS.ifNo X13.here hx rfl (hb hby at_106) rfl ((if0 _ _).trans (feq hc18).1) k) ?_
  refine own_by (B := T13.setTop (mkF m 111 #[.val (.int i0), .val (.int i1), .val (.int i2), .val (.int i3), .val (.ref b1), .val (.ref b3), .val (.int dq), .val (.ref b5), .val (.int u8), .val (.int u9), .val (.int u10)] [(.int u10)])) (fun t k => XS.iload X13.here hx rfl (hb hby at_109) rfl k) ?_
  have hc19 : ¬ (u10 = (0 : Int32)) := own_ok2 i2 dq u u10 hdq hu hu10
  refine own_by (B := T13.setTop (mkF m 114 #[.val (.int i0), .val (.int i1), .val (.int i2), .val (.int i3), .val (.ref b1), .val (.ref b3), .val (.int dq), .val (.ref b5), .val (.int u8), .val (.int u9), .val (.int u10)] [])) (fun t k => XS.ifNo X13.here hx rfl (hb hby at_111) rfl ((if0 _ _).trans (feq hc19).1) k) ?_
  refine own_by (B := T13.setTop (mkF m 115 #[.val (.int i0), .val (.int i1), .val (.int i2), .val (.int i3), .val (.ref b1), .val (.ref b3), .val (.int dq), .val (.ref b5), .val (.int u8), .val (.int u9), .val (.int u10)] [(.int (1 : Int32))])) (fun t k => XS.iconst X13.here hx rfl (hb hby at_114) k) ?_
  refine own_by (B := T13.setTop (mkF m 119 #[.val (.int i0), .val (.int i1), .val (.int i2), .val (.int i3), .val (.ref b1), .val (.ref b3), .val (.int dq), .val (.ref b5), .val (.int u8), .val (.int u9), .val (.int u10)] [(.int (1 : Int32))])) (fun t k => XS.goto X13.here hx rfl (pc0 := 115) (pc' := 119) rfl (hb hby at_115) (by decide) (by decide) k) ?_
  exact own_retN (t := .boolean) (by simp) X13 hx hlk hret (z' := (1 : Int32)) (by decide) (hb hby at_119) ⟨rfl, NF⟩ (by decide) (by decide)
set_option maxRecDepth 65536 in
set_option maxHeartbeats 40000000 in
theorem comes_1 {Post : Tables → Env → Array Value → State → Outcome → State → Prop} (hpost : ∀ tb e args s v u, (limb_1_1.after args s (.returned v) u = true ∧ limb_1_2.after args s (.returned v) u = true ∧ True) → FrameEnd s (.returned v) u (Jvm.fieldLocs frame_1_writes args s ++ Jvm.arrayLocs frame_1_arrays args s ++ Jvm.staticLocs frame_1_statics s) 16 128 → Post tb e args s (.returned v) u) :
    ArmFor flags0 classFile x code maxLocals ret World_1 tables_1 room_1 Calls_1 rest_1 Pre_1 Post := by
  intro l hfl _ _ p e ha hc hk s m args below hf hA hF happ hP
  obtain ⟨hcalls, hrest, hpre⟩ := hP
  obtain ⟨-, -, -, hnamed, -, -, -, hat⟩ := (Spec.applies_iff hf).mp happ
  obtain ⟨hg, hn⟩ := and_e (Cond.before_iff.mp (show (Jvm.Cond.and given_1 narrow_1).before args s = true from hpre))
  obtain ⟨gg1, gg2⟩ := and_e hg
  obtain ⟨gg3, gg4⟩ := and_e gg2
  obtain ⟨gg5, gg6⟩ := and_e gg4
  obtain ⟨gg7, gg8⟩ := and_e gg6
  obtain ⟨w0, w1, w2, w3, rfl⟩ : ∃ w0 w1 w2 w3 : Value, args = #[w0, w1, w2, w3] := by
    have hs : args.size = 4 := by simpa [Cond.value, given_1] using gg1
    obtain ⟨L⟩ := args
    match L, hs with
    | [w0, w1, w2, w3], _ => exact ⟨w0, w1, w2, w3, rfl⟩
  have hw := fun d (hd : d ∈ tables_1) => atoms_spec (ws := Jvm.Cond.code x code maxLocals ret :: tables_1) hat d (List.mem_cons_of_mem _ hd)
  obtain ⟨i0, ei0⟩ := is_v gg3
  obtain rfl : w0 = (.int i0) := Option.some.inj ei0
  obtain ⟨i1, ei1⟩ := is_v gg5
  obtain rfl : w1 = (.int i1) := Option.some.inj ei1
  obtain ⟨i2, ei2⟩ := is_v gg7
  obtain rfl : w2 = (.int i2) := Option.some.inj ei2
  obtain ⟨i3, ei3⟩ := is_v gg8
  obtain rfl : w3 = (.int i3) := Option.some.inj ei3
  obtain ⟨n, o, h1, h2, h3, _, L, rfl, ⟨rfl, N⟩, hq⟩ := rm0 l s _ hw tables_1 i0 i1 i2 i3 s.heap s.heap.size (Nat.le_refl _) p e ha hc hk s m _ below hf ((Spec.applies_iff_loose hf).mp happ).1 ⟨rfl, State.Warmed39.refl s, rfl⟩ trivial
  refine ⟨n, _, h1, h2, h3, hpost _ _ _ _ _ _ ⟨Cond.after_iff.mpr rfl, Cond.after_iff.mpr (eq_i res_at (Term.int_eval (1)) rfl), trivial⟩ ⟨hq.1, hq.2.1, (hq.2.2.sift fun y hy => Or.inr (N y hy)).mono (by decide) (by decide)⟩⟩
theorem main_1_1 : Claimed_1_1 := comes_1 fun _ _ _ _ _ _ h hF => ⟨h.1, hF⟩
theorem main_1_2 : Claimed_1_2 := comes_1 fun _ _ _ _ _ _ h hF => ⟨h.2.1, hF⟩
end Jvm.Pilot.@@N@@
namespace Jvm.Pilot.@@N@@
open Jvm Jvm.ClassFile Sem Op Lib Jvm.Free Jvm.Stand Jvm.Pilot.@@N@@.Jvm.D
/-! MADE BY PROGRAM (witnessworld.py) out of the Statement's table words and the real class files: 15 classes; the members and pool entries that the words name. The judged class is class 1, her method 1. -/
namespace start1
open Jvm.ClassFile
def u (s : String) : CpInfo := .utf8 (stringToUtf16 s)
/-- a pool by its gaps: so many unusable entries, then the entry; so many at the end -/
def gap : Nat → List CpInfo → List CpInfo
  | 0, r => r
  | n + 1, r => .unusable :: gap n r
def poolList (es : List (Nat × CpInfo)) (last : Nat) : List CpInfo := es.foldr (fun e r => gap e.1 (e.2 :: r)) (gap last [])
def pool (es : List (Nat × CpInfo)) (last : Nat) : Array CpInfo := ⟨poolList es last⟩
def fileOf (pool : Array CpInfo) (this : Nat) (attrs : Array Attribute := #[]) (ms : Array MethodInfo := #[]) (fl : Nat := 33) (sup : Nat := 0) (ifs : Array Nat := #[]) (fds : Array FieldInfo := #[]) : ClassFile where
  minorVersion := 0
  majorVersion := 65
  constantPool := pool
  accessFlags := fl
  thisClass := this
  superClass := sup
  interfaces := ifs
  fields := fds
  methods := ms
  attributes := attrs
def plain (name : String) (sup : Option ClassId) : Class where
  name := name
  kind := .ordinary
  loader := none
  accessFlags := 33
  super := sup
  interfaces := #[]
  cf := none
  fields := #[]
  methods := #[]
  instanceTypes := #[]
  staticTypes := #[]
  resolved := #[]
  callSites := []
  init := .initialized
  statics := none
  mirror := none

def pool0 : Array CpInfo := pool [(5, u "<init>"), (0, u "()V"), (1, .class_ 10), (1, u "java/lang/Object")] 113

def k0c0 : Code := { maxStack := 0, maxLocals := 1, code := object_method_1_code, exceptionTable := #[], attributes := #[] }
def k0m0 : Method := { name := "<init>", desc := "()V", sig := { parameters := [], returnType := none }, accessFlags := 1, code := some k0c0 }
/-- java/lang/Object -/
def k0 : Class := { plain "java/lang/Object" none with
  accessFlags := 33
  interfaces := #[]
  cf := some (fileOf pool0 8 #[] #[{ accessFlags := 1, nameIndex := 5, descriptorIndex := 6, attributes := #[] }] 33 0 #[] #[])
  fields := #[]
  methods := #[k0m0]
  instanceTypes := #[]
  staticTypes := #[]
  resolved := Array.replicate 124 none
  statics := none }

def pool1 : Array CpInfo := pool [(2, .class_ 4), (1, u "java/lang/Object"), (0, u "<init>"), (0, u "()V"), (0, .class_ 8), (0, u "com/example/portico/portico/core/media/MediaType$Acceptance"), (0, .methodref 7 10), (0, .nameAndType 5 11), (0, u "(II)V"), (2, .integer 2147483647), (0, .methodref 7 16), (0, .nameAndType 17 18), (0, u "compareTo"), (0, u "(Lcom/example/portico/portico/core/media/MediaType$Acceptance;)I"), (0, .methodref 7 20), (0, .nameAndType 21 22), (0, u "isAcceptable"), (0, u "()Z"), (0, .class_ 24), (0, u "com/example/portico/portico/core/media/AcceptanceIsAcceptablePinLaw"), (2, u "law"), (0, u "(IIII)Z")] 7

def k1m0 : Method := { name := "<init>", desc := "()V", sig := { parameters := [], returnType := none }, accessFlags := 1, code := none }
def k1c1 : Code := { maxStack := 4, maxLocals := 11, code := code, exceptionTable := #[], attributes := #[] }
def k1m1 : Method := { name := "law", desc := "(IIII)Z", sig := { parameters := [.int, .int, .int, .int], returnType := some .boolean }, accessFlags := 9, code := some k1c1 }
/-- com/example/portico/portico/core/media/AcceptanceIsAcceptablePinLaw -/
def k1 : Class := { plain "com/example/portico/portico/core/media/AcceptanceIsAcceptablePinLaw" (some 0) with
  accessFlags := 49
  interfaces := #[]
  cf := some (fileOf pool1 23 #[] #[{ accessFlags := 1, nameIndex := 5, descriptorIndex := 6, attributes := #[] }, { accessFlags := 9, nameIndex := 27, descriptorIndex := 28, attributes := #[] }] 49 2 #[] #[])
  fields := #[]
  methods := #[k1m0, k1m1]
  instanceTypes := #[]
  staticTypes := #[]
  resolved := Array.replicate 36 none
  statics := none }

def pool2 : Array CpInfo := pool [(1, .methodref 2 3), (0, .class_ 4), (0, .nameAndType 5 6), (0, u "java/lang/Object"), (0, u "<init>"), (0, u "()V"), (0, .class_ 8), (0, u "java/lang/Record")] 13

def k2c0 : Code := { maxStack := 1, maxLocals := 1, code := jdk_30_method_1_code, exceptionTable := #[], attributes := #[] }
def k2m0 : Method := { name := "<init>", desc := "()V", sig := { parameters := [], returnType := none }, accessFlags := 4, code := some k2c0 }
/-- java/lang/Record -/
def k2 : Class := { plain "java/lang/Record" (some 0) with
  accessFlags := 1057
  interfaces := #[]
  cf := some (fileOf pool2 7 #[] #[{ accessFlags := 4, nameIndex := 5, descriptorIndex := 6, attributes := #[] }] 1057 2 #[] #[])
  fields := #[]
  methods := #[k2m0]
  instanceTypes := #[]
  staticTypes := #[]
  resolved := Array.replicate 22 none
  statics := none }

def pool3 : Array CpInfo := pool [(1, .class_ 2), (0, u "java/lang/Comparable"), (0, .class_ 4), (0, u "java/lang/Object")] 7

/-- java/lang/Comparable -/
def k3 : Class := { plain "java/lang/Comparable" (some 0) with
  accessFlags := 1537
  interfaces := #[]
  cf := some (fileOf pool3 1 #[] #[] 1537 3 #[] #[])
  fields := #[]
  methods := #[]
  instanceTypes := #[]
  staticTypes := #[]
  resolved := Array.replicate 12 none
  statics := none }

def pool4 : Array CpInfo := pool [(1, .methodref 2 3), (0, .class_ 4), (0, .nameAndType 5 6), (0, u "java/lang/Record"), (0, u "<init>"), (0, u "()V"), (0, .fieldref 8 9), (0, .class_ 10), (0, .nameAndType 11 12), (0, u "com/example/portico/portico/core/media/MediaType$Acceptance"), (0, u "quality"), (0, u "I"), (0, .fieldref 8 14), (0, .nameAndType 15 12), (0, u "specificity"), (0, .methodref 17 18), (0, .class_ 19), (0, .nameAndType 20 21), (0, u "java/lang/Integer"), (0, u "compare"), (0, u "(II)I"), (2, u "compareTo"), (0, u "(Lcom/example/portico/portico/core/media/MediaType$Acceptance;)I"), (13, u "(II)V"), (2, u "NONE"), (0, u "Lcom/example/portico/portico/core/media/MediaType$Acceptance;"), (0, .class_ 45), (0, u "java/lang/Comparable"), (0, u "FULL_QUALITY"), (5, u "isAcceptable"), (0, u "()Z"), (11, .class_ 66), (0, u "com/example/portico/portico/core/media/MediaType")] 20

def k4c0 : Code := { maxStack := 2, maxLocals := 3, code := prog_36_method_1_code, exceptionTable := #[], attributes := #[] }
def k4m0 : Method := { name := "<init>", desc := "(II)V", sig := { parameters := [.int, .int], returnType := none }, accessFlags := 1, code := some k4c0 }
def k4c1 : Code := { maxStack := 1, maxLocals := 1, code := prog_36_method_2_code, exceptionTable := #[], attributes := #[] }
def k4m1 : Method := { name := "isAcceptable", desc := "()Z", sig := { parameters := [], returnType := some .boolean }, accessFlags := 1, code := some k4c1 }
def k4c2 : Code := { maxStack := 2, maxLocals := 3, code := prog_36_method_3_code, exceptionTable := #[], attributes := #[] }
def k4m2 : Method := { name := "compareTo", desc := "(Lcom/example/portico/portico/core/media/MediaType$Acceptance;)I", sig := { parameters := [(.object "com/example/portico/portico/core/media/MediaType$Acceptance")], returnType := some .int }, accessFlags := 1, code := some k4c2 }
/-- com/example/portico/portico/core/media/MediaType$Acceptance -/
def k4 : Class := { plain "com/example/portico/portico/core/media/MediaType$Acceptance" (some 2) with
  accessFlags := 49
  interfaces := #[3]
  cf := some (fileOf pool4 8 #[.nestHost 65] #[{ accessFlags := 1, nameIndex := 5, descriptorIndex := 39, attributes := #[] }, { accessFlags := 1, nameIndex := 52, descriptorIndex := 53, attributes := #[] }, { accessFlags := 1, nameIndex := 24, descriptorIndex := 25, attributes := #[] }] 49 2 #[44] #[{ accessFlags := 18, nameIndex := 11, descriptorIndex := 12, attributes := #[] }, { accessFlags := 18, nameIndex := 15, descriptorIndex := 12, attributes := #[] }, { accessFlags := 25, nameIndex := 46, descriptorIndex := 12, attributes := #[] }, { accessFlags := 25, nameIndex := 42, descriptorIndex := 43, attributes := #[] }])
  fields := #[{ name := "quality", type := .int, accessFlags := 18, slot := 0, constantValue := 0 }, { name := "specificity", type := .int, accessFlags := 18, slot := 1, constantValue := 0 }, { name := "FULL_QUALITY", type := .int, accessFlags := 25, slot := 0, constantValue := 0 }, { name := "NONE", type := (.object "com/example/portico/portico/core/media/MediaType$Acceptance"), accessFlags := 25, slot := 1, constantValue := 0 }]
  methods := #[k4m0, k4m1, k4m2]
  instanceTypes := #[.int, .int]
  staticTypes := #[.int, (.object "com/example/portico/portico/core/media/MediaType$Acceptance")]
  resolved := Array.replicate 87 none
  statics := none }

def pool5 : Array CpInfo := pool [(1, .class_ 2), (0, u "java/io/Serializable"), (0, .class_ 4), (0, u "java/lang/Object")] 2

/-- java/io/Serializable -/
def k5 : Class := { plain "java/io/Serializable" (some 0) with
  accessFlags := 1537
  interfaces := #[]
  cf := some (fileOf pool5 1 #[] #[] 1537 3 #[] #[])
  fields := #[]
  methods := #[]
  instanceTypes := #[]
  staticTypes := #[]
  resolved := Array.replicate 7 none
  statics := none }

def pool6 : Array CpInfo := pool [(2, .class_ 4), (1, u "java/lang/Object"), (0, u "<init>"), (0, u "()V"), (1, .class_ 10), (1, u "java/lang/Number"), (2, .class_ 14), (0, u "java/io/Serializable"), (0, u "serialVersionUID"), (0, u "J")] 20

def k6m0 : Method := { name := "<init>", desc := "()V", sig := { parameters := [], returnType := none }, accessFlags := 1, code := none }
/-- java/lang/Number -/
def k6 : Class := { plain "java/lang/Number" (some 0) with
  accessFlags := 1057
  interfaces := #[5]
  cf := some (fileOf pool6 8 #[] #[{ accessFlags := 1, nameIndex := 5, descriptorIndex := 6, attributes := #[] }] 1057 2 #[13] #[{ accessFlags := 26, nameIndex := 15, descriptorIndex := 16, attributes := #[] }])
  fields := #[{ name := "serialVersionUID", type := .long, accessFlags := 26, slot := 0, constantValue := 0 }]
  methods := #[k6m0]
  instanceTypes := #[]
  staticTypes := #[.long]
  resolved := Array.replicate 37 none
  statics := none }

def pool7 : Array CpInfo := pool [(1, .class_ 2), (0, u "java/lang/constant/Constable"), (0, .class_ 4), (0, u "java/lang/Object")] 6

/-- java/lang/constant/Constable -/
def k7 : Class := { plain "java/lang/constant/Constable" (some 0) with
  accessFlags := 1537
  interfaces := #[]
  cf := some (fileOf pool7 1 #[] #[] 1537 3 #[] #[])
  fields := #[]
  methods := #[]
  instanceTypes := #[]
  staticTypes := #[]
  resolved := Array.replicate 11 none
  statics := none }

def pool8 : Array CpInfo := pool [(1, .class_ 2), (0, u "java/lang/constant/ConstantDesc"), (0, .class_ 4), (0, u "java/lang/Object")] 32

/-- java/lang/constant/ConstantDesc -/
def k8 : Class := { plain "java/lang/constant/ConstantDesc" (some 0) with
  accessFlags := 1537
  interfaces := #[]
  cf := some (fileOf pool8 1 #[] #[] 1537 3 #[] #[])
  fields := #[]
  methods := #[]
  instanceTypes := #[]
  staticTypes := #[]
  resolved := Array.replicate 37 none
  statics := none }

def pool9 : Array CpInfo := pool [(1, .class_ 2), (0, u "java/lang/Integer"), (16, u "digits"), (0, u "[C"), (39, u "(II)I"), (24, u "DigitOnes"), (0, u "[B"), (2, u "DigitTens"), (99, .class_ 190), (0, u "java/lang/Integer$IntegerCache"), (3, u "I"), (8, .class_ 204), (0, u "java/lang/Number"), (2, u "value"), (53, u "compare"), (40, u "TYPE"), (0, u "Ljava/lang/Class;"), (0, .class_ 305), (0, u "java/lang/Comparable"), (0, .class_ 307), (0, u "java/lang/constant/Constable"), (0, .class_ 309), (0, u "java/lang/constant/ConstantDesc"), (0, u "MIN_VALUE"), (1, u "MAX_VALUE"), (3, u "SIZE"), (1, u "BYTES"), (1, u "serialVersionUID"), (0, u "J")] 131

def k9c0 : Code := { maxStack := 2, maxLocals := 2, code := jdk_33_method_40_code, exceptionTable := #[], attributes := #[] }
def k9m0 : Method := { name := "compare", desc := "(II)I", sig := { parameters := [.int, .int], returnType := some .int }, accessFlags := 9, code := some k9c0 }
/-- java/lang/Integer -/
def k9 : Class := { plain "java/lang/Integer" (some 6) with
  accessFlags := 49
  interfaces := #[3, 7, 8]
  cf := some (fileOf pool9 1 #[.nestMembers #[189]] #[{ accessFlags := 9, nameIndex := 261, descriptorIndex := 60, attributes := #[] }] 49 203 #[304, 306, 308] #[{ accessFlags := 25, nameIndex := 310, descriptorIndex := 194, attributes := #[] }, { accessFlags := 25, nameIndex := 312, descriptorIndex := 194, attributes := #[] }, { accessFlags := 25, nameIndex := 302, descriptorIndex := 303, attributes := #[] }, { accessFlags := 24, nameIndex := 19, descriptorIndex := 20, attributes := #[] }, { accessFlags := 24, nameIndex := 89, descriptorIndex := 86, attributes := #[] }, { accessFlags := 24, nameIndex := 85, descriptorIndex := 86, attributes := #[] }, { accessFlags := 18, nameIndex := 207, descriptorIndex := 194, attributes := #[] }, { accessFlags := 25, nameIndex := 316, descriptorIndex := 194, attributes := #[] }, { accessFlags := 25, nameIndex := 318, descriptorIndex := 194, attributes := #[] }, { accessFlags := 26, nameIndex := 320, descriptorIndex := 321, attributes := #[] }])
  fields := #[{ name := "MIN_VALUE", type := .int, accessFlags := 25, slot := 0, constantValue := 0 }, { name := "MAX_VALUE", type := .int, accessFlags := 25, slot := 1, constantValue := 0 }, { name := "TYPE", type := (.object "java/lang/Class"), accessFlags := 25, slot := 2, constantValue := 0 }, { name := "digits", type := (.array .char), accessFlags := 24, slot := 3, constantValue := 0 }, { name := "DigitTens", type := (.array .byte), accessFlags := 24, slot := 4, constantValue := 0 }, { name := "DigitOnes", type := (.array .byte), accessFlags := 24, slot := 5, constantValue := 0 }, { name := "value", type := .int, accessFlags := 18, slot := 0, constantValue := 0 }, { name := "SIZE", type := .int, accessFlags := 25, slot := 6, constantValue := 0 }, { name := "BYTES", type := .int, accessFlags := 25, slot := 7, constantValue := 0 }, { name := "serialVersionUID", type := .long, accessFlags := 26, slot := 8, constantValue := 0 }]
  methods := #[k9m0]
  instanceTypes := #[.int]
  staticTypes := #[.int, .int, (.object "java/lang/Class"), (.array .char), (.array .byte), (.array .byte), .int, .int, .long]
  resolved := Array.replicate 453 none
  statics := none }

def pool10 : Array CpInfo := pool [(1, u "java/lang/Cloneable"), (0, .class_ 1), (0, u "java/lang/Object"), (0, .class_ 3)] 3

/-- java/lang/Cloneable -/
def k10 : Class := { plain "java/lang/Cloneable" (some 0) with
  accessFlags := 1537
  interfaces := #[]
  cf := some (fileOf pool10 2 #[] #[] 1537 4 #[] #[])
  fields := #[]
  methods := #[]
  instanceTypes := #[]
  staticTypes := #[]
  resolved := Array.replicate 8 none
  statics := none }

/-- the primitive byte -/
def k11 : Class := { plain "byte" none with kind := .primitive 'B', accessFlags := 0x411 }
/-- [B -/
def k12 : Class := { plain "[B" (some 0) with kind := .array 11 .byte, interfaces := #[10, 5], accessFlags := 1041 }

/-- the primitive int -/
def k13 : Class := { plain "int" none with kind := .primitive 'I', accessFlags := 0x411 }
/-- [I -/
def k14 : Class := { plain "[I" (some 0) with kind := .array 13 .int, interfaces := #[10, 5], accessFlags := 1041 }

def heap : Heap := #[]
def classes : Array Class := #[k0, k1, k2, k3, k4, k5, k6, k7, k8, k9, k10, k11, k12, k13, k14]
def interned : List (Array UInt16 × Addr) := []
def slotsUsed : Nat := 0
def theMethod : MethodId := ⟨1, 1⟩
def args0 : Array Value := #[.int 5, .int 7, .int 3, .int 1]
def aboutOver (below : List Frame) : State where
  vm := { classes := classes, interned := interned.toArray }
  heap := heap
  slotsUsed := slotsUsed
  threads := #[{ frames := .invoking theMethod args0 :: below }]
def below0 : List Frame := [.native { method := ⟨0, 0⟩, args := #[] }]
def about1 : State := aboutOver below0
def p0 : Program := .bare "" "" ""
def e0 : Env := launch0.env 0 0 0
theorem w_frames : about1.frames = Frame.invoking theMethod args0 :: below0 := rfl
set_option maxRecDepth 65536 in
theorem w_args : argsFit about1.vm theMethod args0 = true := by decide +kernel
set_option maxRecDepth 65536 in
theorem w_heap : heapFits about1 = true := by decide +kernel
set_option maxRecDepth 65536 in
theorem w_runnable : about1.curStatus? = some .runnable := by decide +kernel
set_option maxRecDepth 65536 in
theorem w_alone : about1.alone = true := by decide +kernel
set_option maxRecDepth 65536 in
theorem w_named : about1.methodNamed? x = some theMethod := by decide +kernel
set_option maxRecDepth 65536 in
theorem w_hears : about1.hears theMethod below0 = true := by decide +kernel
set_option maxRecDepth 65536 in
theorem w_ripe : about1.ripe theMethod args0 below0 = true := by decide +kernel
theorem w_running : about1.status = .running := rfl
set_option maxRecDepth 65536 in
theorem w_room : about1.hasRoom e0.platform room_1 = true :=
  launch0.hasRoom_least _ room_1 (by decide +kernel) (by decide +kernel) (by decide +kernel) (by decide +kernel) (by decide +kernel) (by decide +kernel)
theorem allAtoms_all (ts : List Jvm.Cond) (a : Array Jvm.Value) (st : Jvm.State) : (allAtoms ts).before a st = ts.all (fun c => c.before a st) := by
  induction ts with
  | nil => rfl
  | cons c t ih =>
    show (Jvm.Cond.and c (allAtoms t)).before a st = _
    rw [Jvm.Cond.before_and, ih, List.all_cons]
def words1 : List Jvm.Cond := Jvm.Cond.code x code maxLocals ret :: tables_1
/-- a 'code' word, met by the world's own term for the bytes: nothing is compared byte by byte -/
theorem code_word {y : MethodName} {bytes : ByteArray} {mx : Nat} {rt : Option FieldType} {a : Array Value} {s : State} {m : MethodId} {meth : Method} {c : Code} (h1 : s.methodNamed? y = some m) (h2 : s.vm.method? m = some meth) (h3 : meth.code = some c) (h4 : c.code = bytes)
    (h5 : (c.maxLocals == mx && c.exceptionTable.isEmpty && decide (c.maxStack ≤ mostOperands) && decide (meth.sig.returnType = rt) && !meth.locks && decide (parseMethodDescriptor y.desc = some meth.sig)) = true) : (Jvm.Cond.code y bytes mx rt).before a s = true := by
  simp only [Bool.and_eq_true, beq_iff_eq, Bool.not_eq_true', decide_eq_true_eq] at h5
  obtain ⟨⟨⟨⟨⟨g1, g2⟩, g3⟩, g4⟩, g5⟩, g6⟩ := h5
  simp [Cond.before, Cond.holds, Cond.value, h1, h2, h3, h4, g1, g2, g3, g4, g5, g6]
def isCode : Jvm.Cond → Bool
  | .code _ _ _ _ => true
  | _ => false
theorem all_split {L : List Jvm.Cond} {P : Jvm.Cond → Bool} (h1 : L.all (fun c => isCode c || P c) = true) (h2 : ∀ c ∈ L.filter isCode, P c = true) : L.all P = true := by
  refine List.all_eq_true.mpr fun c hc => ?_
  have h := List.all_eq_true.mp h1 c hc
  rcases Bool.eq_false_or_eq_true (isCode c) with hi | hi
  · exact h2 c (List.mem_filter.mpr ⟨hc, hi⟩)
  · simpa [hi] using h
set_option maxRecDepth 65536 in
theorem w_c0 : (Jvm.Cond.code x code maxLocals ret).before args0 about1 = true := code_word (m := ⟨1, 1⟩) (meth := k1m1) (c := k1c1) (by decide +kernel) rfl rfl rfl (by decide +kernel)
set_option maxRecDepth 65536 in
theorem w_c1 : (Jvm.Cond.code ({ cls := "com/example/portico/portico/core/media/MediaType$Acceptance", name := "<init>", desc := "(II)V" } : Jvm.MethodName) prog_36_method_1_code (3 : Nat) (Option.none : Option Jvm.ClassFile.FieldType)).before args0 about1 = true := code_word (m := ⟨4, 0⟩) (meth := k4m0) (c := k4c0) (by decide +kernel) rfl rfl rfl (by decide +kernel)
set_option maxRecDepth 65536 in
theorem w_c2 : (Jvm.Cond.code ({ cls := "java/lang/Record", name := "<init>", desc := "()V" } : Jvm.MethodName) jdk_30_method_1_code (1 : Nat) (Option.none : Option Jvm.ClassFile.FieldType)).before args0 about1 = true := code_word (m := ⟨2, 0⟩) (meth := k2m0) (c := k2c0) (by decide +kernel) rfl rfl rfl (by decide +kernel)
set_option maxRecDepth 65536 in
theorem w_c3 : (Jvm.Cond.code ({ cls := "java/lang/Object", name := "<init>", desc := "()V" } : Jvm.MethodName) object_method_1_code (1 : Nat) (Option.none : Option Jvm.ClassFile.FieldType)).before args0 about1 = true := code_word (m := ⟨0, 0⟩) (meth := k0m0) (c := k0c0) (by decide +kernel) rfl rfl rfl (by decide +kernel)
set_option maxRecDepth 65536 in
theorem w_c4 : (Jvm.Cond.code ({ cls := "com/example/portico/portico/core/media/MediaType$Acceptance", name := "compareTo", desc := "(Lcom/example/portico/portico/core/media/MediaType$Acceptance;)I" } : Jvm.MethodName) prog_36_method_3_code (3 : Nat) (Option.some Jvm.ClassFile.FieldType.int)).before args0 about1 = true := code_word (m := ⟨4, 2⟩) (meth := k4m2) (c := k4c2) (by decide +kernel) rfl rfl rfl (by decide +kernel)
set_option maxRecDepth 65536 in
theorem w_c5 : (Jvm.Cond.code ({ cls := "java/lang/Integer", name := "compare", desc := "(II)I" } : Jvm.MethodName) jdk_33_method_40_code (2 : Nat) (Option.some Jvm.ClassFile.FieldType.int)).before args0 about1 = true := code_word (m := ⟨9, 0⟩) (meth := k9m0) (c := k9c0) (by decide +kernel) rfl rfl rfl (by decide +kernel)
set_option maxRecDepth 65536 in
theorem w_c6 : (Jvm.Cond.code ({ cls := "com/example/portico/portico/core/media/MediaType$Acceptance", name := "isAcceptable", desc := "()Z" } : Jvm.MethodName) prog_36_method_2_code (1 : Nat) (Option.some Jvm.ClassFile.FieldType.boolean)).before args0 about1 = true := code_word (m := ⟨4, 1⟩) (meth := k4m1) (c := k4c1) (by decide +kernel) rfl rfl rfl (by decide +kernel)
def codes1 : List Jvm.Cond := [Jvm.Cond.code x code maxLocals ret, Jvm.Cond.code ({ cls := "com/example/portico/portico/core/media/MediaType$Acceptance", name := "<init>", desc := "(II)V" } : Jvm.MethodName) prog_36_method_1_code (3 : Nat) (Option.none : Option Jvm.ClassFile.FieldType), Jvm.Cond.code ({ cls := "java/lang/Record", name := "<init>", desc := "()V" } : Jvm.MethodName) jdk_30_method_1_code (1 : Nat) (Option.none : Option Jvm.ClassFile.FieldType), Jvm.Cond.code ({ cls := "java/lang/Object", name := "<init>", desc := "()V" } : Jvm.MethodName) object_method_1_code (1 : Nat) (Option.none : Option Jvm.ClassFile.FieldType), Jvm.Cond.code ({ cls := "com/example/portico/portico/core/media/MediaType$Acceptance", name := "compareTo", desc := "(Lcom/example/portico/portico/core/media/MediaType$Acceptance;)I" } : Jvm.MethodName) prog_36_method_3_code (3 : Nat) (Option.some Jvm.ClassFile.FieldType.int), Jvm.Cond.code ({ cls := "java/lang/Integer", name := "compare", desc := "(II)I" } : Jvm.MethodName) jdk_33_method_40_code (2 : Nat) (Option.some Jvm.ClassFile.FieldType.int), Jvm.Cond.code ({ cls := "com/example/portico/portico/core/media/MediaType$Acceptance", name := "isAcceptable", desc := "()Z" } : Jvm.MethodName) prog_36_method_2_code (1 : Nat) (Option.some Jvm.ClassFile.FieldType.boolean)]
set_option maxRecDepth 65536 in
theorem codes_eq : words1.filter isCode = codes1 := rfl
theorem w_codes : ∀ c ∈ words1.filter isCode, c.before args0 about1 = true := by
  rw [codes_eq]
  intro c hc
  simp only [codes1, List.mem_cons, List.not_mem_nil, or_false] at hc
  rcases hc with rfl | rfl | rfl | rfl | rfl | rfl | rfl
  · exact w_c0
  · exact w_c1
  · exact w_c2
  · exact w_c3
  · exact w_c4
  · exact w_c5
  · exact w_c6
set_option maxRecDepth 65536 in
theorem w_t1 : (words1.take 24).all (fun c => isCode c || c.before args0 about1) = true := by decide +kernel
set_option maxRecDepth 65536 in
theorem w_t2 : (words1.drop 24).all (fun c => isCode c || c.before args0 about1) = true := by decide +kernel
theorem w_tables : (allAtoms (Jvm.Cond.code x code maxLocals ret :: tables_1)).before args0 about1 = true := by
  rw [allAtoms_all]
  show words1.all (fun c => c.before args0 about1) = true
  refine all_split ?_ w_codes
  rw [← List.take_append_drop 24 words1, List.all_append, w_t1, w_t2]
  rfl
set_option maxRecDepth 65536 in
theorem w_case : (Jvm.Cond.and given_1 narrow_1).before args0 about1 = true := by decide +kernel
theorem w_applies : (headSpec (Jvm.Cond.code x code maxLocals ret :: tables_1) room_1).applies x e0.platform about1 = true :=
  (Spec.applies_iff w_frames).mpr ⟨w_running, w_runnable, w_alone, w_named, w_hears, w_ripe, w_room, w_tables⟩
theorem atStart : AtStart classFile x code maxLocals ret World_1 tables_1 room_1 Calls_1 rest_1 Pre_1 launch0 p0 e0 about1 theMethod args0 below0 :=
  ⟨lists_1, trivial, launch0.admits_env _ _ _, launch0.least_env, fairChoices_fair.cas, fairChoices_fair.clock, w_frames, w_args, w_heap, w_applies, trivial, trivial, w_case⟩
end start1
theorem witness_1 : WitnessClaimed_1 := ⟨start1.p0, start1.e0, start1.about1, start1.theMethod, start1.args0, start1.below0, start1.atStart⟩
end Jvm.Pilot.@@N@@
