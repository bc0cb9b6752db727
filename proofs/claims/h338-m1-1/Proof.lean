import JvmDerived
import JvmDerived.Pilot.@@N@@Statement
import JvmDerived.Pilot.@@N@@Code
set_option linter.unusedVariables false
set_option linter.unusedSimpArgs false
namespace Jvm.Pilot.@@N@@
open Jvm Jvm.ClassFile Sem Op Lib Jvm.Free Jvm.Stand Jvm.LawKit Jvm.RoadKit Bundle Jvm.Pilot.@@N@@.Jvm.D
/-! THE OWN KIT: the walk from a state to its end, as one proposition (own_Go); its steps, its leaves, its entry. -/
section OwnKit
variable {p : Program} {l : Launch} {e : Env} {R : Room} {s : State} {m : MethodId} {args : Array Value} {below : List Frame} {meth : Method} {c : Code} {T : State} {locs : List Loc} {cells slots : Nat}
variable {Q : Option Value → Heap → List Loc → Prop} {rc rs : Nat}
/-- from U the run ends in a return, and Q says what it leaves -/
def own_Go (p : Program) (e : Env) (below : List Frame) (s : State) (Q : Option Value → Heap → List Loc → Prop) (rc rs : Nat) (U : State) : Prop :=
  ∃ s₂ o, Steps p.tables e below U s₂ ∧ s₂.status = .running ∧ Ended s₂ below o ∧ ∃ v L, o = .returned v ∧ Q v s₂.heap L ∧ FrameEnd s o s₂ L rc rs
theorem own_by {A B : State} (k : ∀ t, Steps p.tables e below B t → Steps p.tables e below A t) (h : own_Go p e below s Q rc rs B) : own_Go p e below s Q rc rs A := by
  obtain ⟨s₂, o, h1, r⟩ := h
  exact ⟨s₂, o, k _ h1, r⟩
theorem own_imp {Q' : Option Value → Heap → List Loc → Prop} {A : State} (k : ∀ v h L, Q v h L → Q' v h L) (h : own_Go p e below s Q rc rs A) : own_Go p e below s Q' rc rs A := by
  obtain ⟨s₂, o, h1, h2, h3, v, L, h4, h5, h6⟩ := h
  exact ⟨s₂, o, h1, h2, h3, v, L, h4, k _ _ _ h5, h6⟩
theorem own_leave (X : Stand p l e R s m args below meth c T locs cells slots) (hlk : meth.locks = false) {v : Option Value} (hv : meth.sig.returnType = none → v = none) {U : State}
    (hst : ∀ fs, (∀ (f : JFrame) (acts : List Action), f.method = m → f.locked = none → f.entered = [] → (doReturn e (T.setTop f) acts v).1 = T.setFrames fs) → Steps p.tables e below U (T.setFrames fs))
    (hq : Q v T.heap locs) (hc : cells ≤ rc) (hs : slots ≤ rs) : own_Go p e below s Q rc rs U := by
  obtain ⟨fs, hr, hrun, hended, hW, hsame⟩ := X.leave (v := v) hv hlk
  exact ⟨_, _, hst fs hr, hrun, hended, _, _, rfl, hq, ⟨_, rfl⟩, hW, hsame.mono hc hs⟩
theorem own_ret (X : Stand p l e R s m args below meth c T locs cells slots) (hx : p.tables.exec = Jvm.exec) (hlk : meth.locks = false) (hret : meth.sig.returnType = none) {pc : Nat} {Ls : Array Slot} (hd : decode c.code pc = .ok (.return_, 1))
    (hq : Q none T.heap locs) (hc : cells ≤ rc) (hs : slots ≤ rs) : own_Go p e below s Q rc rs (T.setTop (mkF m pc Ls [])) :=
  own_leave X hlk (fun _ => rfl) (fun _ hr => X.returnOut hx hret hd hr) hq hc hs
theorem own_retI (X : Stand p l e R s m args below meth c T locs cells slots) (hx : p.tables.exec = Jvm.exec) (hlk : meth.locks = false) (hret : meth.sig.returnType = some .int) {pc : Nat} {Ls : Array Slot} {z : Int32} (hd : decode c.code pc = .ok (.ireturn, 1))
    (hq : Q (some (.int z)) T.heap locs) (hc : cells ≤ rc) (hs : slots ≤ rs) : own_Go p e below s Q rc rs (T.setTop (mkF m pc Ls [.int z])) :=
  own_leave X hlk (fun h => by rw [hret] at h; cases h) (fun _ hr => X.ireturnOut hx hret rfl (Or.inl rfl) hd hr) hq hc hs
theorem own_retN {t : FieldType} (ht : t = .boolean ∨ t = .byte ∨ t = .char ∨ t = .short) (X : Stand p l e R s m args below meth c T locs cells slots) (hx : p.tables.exec = Jvm.exec) (hlk : meth.locks = false) (hret : meth.sig.returnType = some t) {pc : Nat} {Ls : Array Slot} {z z' : Int32} (hn : nar t z = z') (hd : decode c.code pc = .ok (.ireturn, 1))
    (hq : Q (some (.int z')) T.heap locs) (hc : cells ≤ rc) (hs : slots ≤ rs) : own_Go p e below s Q rc rs (T.setTop (mkF m pc Ls [.int z])) := by
  subst hn
  exact own_leave X hlk (fun h => by rw [hret] at h; cases h) (fun _ hr => retN X hx hret ht hd hr) hq hc hs
theorem own_retJ (X : Stand p l e R s m args below meth c T locs cells slots) (hx : p.tables.exec = Jvm.exec) (hlk : meth.locks = false) (hret : meth.sig.returnType = some .long) {pc : Nat} {Ls : Array Slot} {z : Int64} (hd : decode c.code pc = .ok (.lreturn, 1))
    (hq : Q (some (.long z)) T.heap locs) (hc : cells ≤ rc) (hs : slots ≤ rs) : own_Go p e below s Q rc rs (T.setTop (mkF m pc Ls [.long z])) :=
  own_leave X hlk (fun h => by rw [hret] at h; cases h) (fun _ hr => X.lreturnOut hx hret hd hr) hq hc hs
theorem own_retA {t : FieldType} (ht : t.isReference = true) (X : Stand p l e R s m args below meth c T locs cells slots) (hx : p.tables.exec = Jvm.exec) (hlk : meth.locks = false) (hret : meth.sig.returnType = some t) {pc : Nat} {Ls : Array Slot} {a : Addr} (hd : decode c.code pc = .ok (.areturn, 1))
    (hq : Q (some (.ref a)) T.heap locs) (hc : cells ≤ rc) (hs : slots ≤ rs) : own_Go p e below s Q rc rs (T.setTop (mkF m pc Ls [.ref a])) :=
  own_leave X hlk (fun h => by rw [hret] at h; cases h) (fun _ hr => X.areturnOut hx rfl hret ht hd hr) hq hc hs
/-- a body's contract out of its walk -/
theorem own_met {y : MethodName} {bytes : ByteArray} {maxL : Nat} {ret : Option FieldType} {ws : List Jvm.Cond} {rm : Room} {as' : Array Value} {Z : State} {h0 : Heap} (hpl : plainFor y = true)
    (body : ∀ (p : Program) (e : Env) (s : State) (m : MethodId) (below : List Frame) (meth : Method) (c : Code) (T : State), Stand p l e rm s m as' below meth c T [] 0 0 → p.tables.exec = Jvm.exec → c.code = bytes → c.maxLocals = maxL → meth.sig.returnType = ret → meth.locks = false →
      Z.Warmed39 s.vm → s.vm.findClass y.cls = some m.cls → meth.name = y.name → T.heap = h0 → own_Go p e below s Q rc rs (T.setTop (entryFrame m as' maxL))) :
    MetFree l y (head1 (Jvm.Cond.code y bytes maxL ret :: ws) rm) (fun a U => a = as' ∧ Z.Warmed39 U.vm ∧ U.heap = h0) (fun _ _ _ _ _ => True) (fun _ U o U' => ∃ v L, o = .returned v ∧ Q v U'.heap L ∧ FrameEnd U o U' L rc rs) := by
  refine MetFree.of_bodySF hpl hisR ?_
  intro p e s m args below meth c s₁ Bd hml0 hP hK
  obtain ⟨rfl, hZ, hh⟩ := hP
  exact body p e s m below meth c s₁ (Stand.of_body Bd) Bd.exec Bd.bytes hml0 Bd.returns (BodyLoose.notSynchronized Bd) hZ (findClass_of_methodNamed Bd.named) (name_of_methodNamed Bd.named Bd.method).1 (by rw [← hh, Bd.state]; rfl)
theorem own_cast {g g' : JFrame} (q : g = g') (k : own_Go p e below s Q rc rs (T.setTop g')) : own_Go p e below s Q rc rs (T.setTop g) := q ▸ k
/-- what a body that writes nothing leaves -/
def own_Qp (r : Option Value) (h0 : Heap) (v : Option Value) (h : Heap) (L : List Loc) : Prop := v = r ∧ L = [] ∧ h = h0
theorem own_selPriv {a1 a2 : Array Value} {y y' z' : MethodName} {C : String} (h : (Jvm.Cond.selects C y' z').before a1 s = true) (hz : z'.cls = y.cls) (hpriv : s.PrivateAt y) (hinst : (Jvm.Cond.instanceMethod y).before a2 s = true) (hy : y.cls ≠ "java/lang/invoke/MethodHandle" ∧ y.cls ≠ "java/lang/invoke/VarHandle") : (Jvm.Cond.selects y.cls y y).before a2 s = true := by
  obtain ⟨_, _, m2, -, -, q3, -, kP, hkP, hkPi⟩ := Cond.selects_spec h
  exact selects_self_of_private (by rw [← hz]; exact findClass_of_methodNamed q3) hkP hkPi hpriv hinst hy
end OwnKit
theorem pd_0 : parseMethodDescriptor "(J)Z" = some ⟨[.long], some .boolean⟩ := by decide +kernel
theorem pd_1 : parseMethodDescriptor "(J)V" = some ⟨[.long], none⟩ := by decide +kernel
theorem d1_0 : decode prog_55_method_1_code 0 = .ok (.aload_n 0, 1) := by decide +kernel
theorem d1_1 : decode prog_55_method_1_code 1 = .ok (.invokespecial 1, 3) := by decide +kernel
theorem d1_4 : decode prog_55_method_1_code 4 = .ok (.aload_n 0, 1) := by decide +kernel
theorem d1_5 : decode prog_55_method_1_code 5 = .ok (.lload_n 1, 1) := by decide +kernel
theorem d1_6 : decode prog_55_method_1_code 6 = .ok (.putfield 7, 3) := by decide +kernel
theorem d1_9 : decode prog_55_method_1_code 9 = .ok (.return_, 1) := by decide +kernel
theorem pn_1 : plainName "com/example/arcwright/arcwright/propagation/MemoryBudget" = true := by first | (simp [plainName, overriddenIn]; done) | decide +kernel
theorem ef_1 (m : MethodId) (x0 : Addr) (x1 : Int64) : entryFrame m #[(.ref x0), (.long x1)] 3 = mkF m 0 #[.val (.ref x0), .val (.long x1), .second] [] := by first | (simp [entryFrame, mkF, argsToLocals, Value.category]; done) | rfl
def own_Q1 (Z : State) (a : Addr) (x1 : Int64) (h0 : Heap) (n0 : Nat) (v : Option Value) (h : Heap) (L : List Loc) : Prop := v = none ∧ Fr n0 L ∧ Keep h0 h [a] ∧ Fld Z h a "com/example/arcwright/arcwright/propagation/MemoryBudget" "left" "J" (.long x1) ∧ Exa Z h a "com/example/arcwright/arcwright/propagation/MemoryBudget"
set_option maxRecDepth 65536 in
set_option maxHeartbeats 40000000 in
theorem rm1 (l : Launch) (Z : State) (a0 : Array Value) (hw : ∀ d ∈ tables_1, d.before a0 Z = true) (ws : List Jvm.Cond) (a : Addr) (x1 : Int64)  (h0 : Heap) (n0 : Nat) (Z0 : n0 ≤ h0.size) (F_left_a : Fld Z h0 a "com/example/arcwright/arcwright/propagation/MemoryBudget" "left" "J" (.long (0 : Int64))) (E_a : Exa Z h0 a "com/example/arcwright/arcwright/propagation/MemoryBudget") (g_a : n0 ≤ a)   :
    MetFree l (⟨"com/example/arcwright/arcwright/propagation/MemoryBudget", "<init>", "(J)V"⟩ : MethodName) (head1 (Jvm.Cond.code (⟨"com/example/arcwright/arcwright/propagation/MemoryBudget", "<init>", "(J)V"⟩ : MethodName) prog_55_method_1_code 3 none :: ws) ({ frames := 1, cells := 0, slots := 0, locals := 12 } : Room)) (fun aa U => aa = #[(.ref a), (.long x1)] ∧ Z.Warmed39 U.vm ∧ U.heap = h0) (fun _ _ _ _ _ => True) (fun _ U o U' => ∃ v L, o = .returned v ∧ own_Q1 Z a x1 h0 n0 v U'.heap L ∧ FrameEnd U o U' L ({ frames := 1, cells := 0, slots := 0, locals := 12 } : Room).cells ({ frames := 1, cells := 0, slots := 0, locals := 12 } : Room).slots) := by
  refine own_met (plainFor_of_name pn_1) fun p e s m below meth c T0 X0 hx hby hml hret hlk hZ hown hnm e0 => ?_
  refine own_cast (ef_1 m a x1) ?_
  have NF := Fr.nil n0
  have Zs := Z0
  have K := Keep.refl h0 [a]
  refine own_by (B := T0.setTop (mkF m 1 #[.val (.ref a), .val (.long x1), .second] [(.ref a)])) (fun t k => XS.aloadN X0.here hx rfl (hb hby d1_0) rfl rfl k) ?_
  obtain ⟨T1, X1, e1, st1⟩ := initO X0 hx hZ hown (hw _ (List.mem_of_getElem? (i := 7) rfl)) (hw _ (List.mem_of_getElem? (i := 8) rfl)) (hw _ (List.mem_of_getElem? (i := 9) rfl)) e0 (g := (mkF m 1 #[.val (.ref a), .val (.long x1), .second] [(.ref a)])) rfl (by rw [hml]; rfl) rfl (hb hby d1_1) (by decide) (W := 0) (by show 2 * 0 + _ ≤ _; exact Nat.le_of_eq rfl) (by decide)
  refine own_by (B := T1.setTop (mkF m 4 #[.val (.ref a), .val (.long x1), .second] [])) (fun t k => st1 _ k) ?_
  refine own_by (B := T1.setTop (mkF m 5 #[.val (.ref a), .val (.long x1), .second] [(.ref a)])) (fun t k => XS.aloadN X1.here hx rfl (hb hby d1_4) rfl rfl k) ?_
  refine own_by (B := T1.setTop (mkF m 6 #[.val (.ref a), .val (.long x1), .second] [(.long x1), (.ref a)])) (fun t k => XS.lloadN X1.here hx rfl (hb hby d1_5) rfl k) ?_
  obtain ⟨T2, h2, X2, e2, W2, st2⟩ := putF X1 hx hZ hown (host := "") (Or.inl (hw _ (List.mem_of_getElem? (i := 10) rfl))) Via.refl e1 F_left_a E_a (Or.inl (hw _ (List.mem_of_getElem? (i := 11) rfl))) (hw _ (List.mem_of_getElem? (i := 2) rfl)) (ty := .long) (by decide) rfl rfl (g := (mkF m 6 #[.val (.ref a), .val (.long x1), .second] [(.long x1), (.ref a)])) rfl rfl (hb hby d1_6)
  replace F_left_a : Fld Z h2 a "com/example/arcwright/arcwright/propagation/MemoryBudget" "left" "J" (.long x1) := F_left_a.same W2
  replace E_a : Exa Z h2 a "com/example/arcwright/arcwright/propagation/MemoryBudget" := E_a.wr W2
  replace Zs : n0 ≤ h2.size := by rw [W2.size]; exact Zs
  replace K : Keep h0 h2 [a] := K.wr W2 (Or.inl (List.mem_of_getElem? (i := 0) rfl))
  have NF := Fr.snoc X2 NF g_a
  refine own_by (B := T2.setTop (mkF m 9 #[.val (.ref a), .val (.long x1), .second] [])) (fun t k => st2 _ k) ?_
  exact own_ret X2 hx hlk hret (hb hby d1_9) (by show own_Q1 Z a x1 h0 n0 _ _ _; rw [e2]; exact ⟨rfl, NF, K, F_left_a, E_a⟩) (by decide) (by decide)
theorem d3_0 : decode prog_55_method_5_code 0 = .ok (.lload_n 1, 1) := by decide +kernel
theorem d3_1 : decode prog_55_method_5_code 1 = .ok (.aload_n 0, 1) := by decide +kernel
theorem d3_2 : decode prog_55_method_5_code 2 = .ok (.getfield 7, 3) := by decide +kernel
theorem d3_5 : decode prog_55_method_5_code 5 = .ok (.lcmp, 1) := by decide +kernel
theorem d3_6 : decode prog_55_method_5_code 6 = .ok (.ifCond .gt 7, 3) := by decide +kernel
theorem d3_9 : decode prog_55_method_5_code 9 = .ok (.iconst 1, 1) := by decide +kernel
theorem d3_10 : decode prog_55_method_5_code 10 = .ok (.goto 4, 3) := by decide +kernel
theorem d3_13 : decode prog_55_method_5_code 13 = .ok (.iconst 0, 1) := by decide +kernel
theorem d3_14 : decode prog_55_method_5_code 14 = .ok (.istore_n 3, 1) := by decide +kernel
theorem d3_15 : decode prog_55_method_5_code 15 = .ok (.iload_n 3, 1) := by decide +kernel
theorem d3_16 : decode prog_55_method_5_code 16 = .ok (.ifCond .eq 13, 3) := by decide +kernel
theorem d3_19 : decode prog_55_method_5_code 19 = .ok (.aload_n 0, 1) := by decide +kernel
theorem d3_20 : decode prog_55_method_5_code 20 = .ok (.dup, 1) := by decide +kernel
theorem d3_21 : decode prog_55_method_5_code 21 = .ok (.getfield 7, 3) := by decide +kernel
theorem d3_24 : decode prog_55_method_5_code 24 = .ok (.lload_n 1, 1) := by decide +kernel
theorem d3_25 : decode prog_55_method_5_code 25 = .ok (.lsub, 1) := by decide +kernel
theorem d3_26 : decode prog_55_method_5_code 26 = .ok (.putfield 7, 3) := by decide +kernel
theorem d3_29 : decode prog_55_method_5_code 29 = .ok (.iload_n 3, 1) := by decide +kernel
theorem d3_30 : decode prog_55_method_5_code 30 = .ok (.ireturn, 1) := by decide +kernel
theorem pn_3 : plainName "com/example/arcwright/arcwright/propagation/MemoryBudget" = true := by first | (simp [plainName, overriddenIn]; done) | decide +kernel
theorem ef_3 (m : MethodId) (x0 : Addr) (x1 : Int64) : entryFrame m #[(.ref x0), (.long x1)] 4 = mkF m 0 #[.val (.ref x0), .val (.long x1), .second, .unset] [] := by first | (simp [entryFrame, mkF, argsToLocals, Value.category]; done) | rfl
def own_Q3 (Z : State) (a : Addr) (x1 : Int64) (lf : Int64) (h0 : Heap) (n0 : Nat) (v : Option Value) (h : Heap) (L : List Loc) : Prop := v = some (.int (if lf < x1 then (0 : Int32) else (1 : Int32))) ∧ Fr n0 L ∧ Keep h0 h [a] ∧ Fld Z h a "com/example/arcwright/arcwright/propagation/MemoryBudget" "left" "J" (.long (if lf < x1 then lf else (lf - x1))) ∧ Exa Z h a "com/example/arcwright/arcwright/propagation/MemoryBudget"
set_option maxRecDepth 65536 in
set_option maxHeartbeats 40000000 in
theorem rm3 (l : Launch) (Z : State) (a0 : Array Value) (hw : ∀ d ∈ tables_1, d.before a0 Z = true) (ws : List Jvm.Cond) (a : Addr) (x1 : Int64) (lf : Int64) (h0 : Heap) (n0 : Nat) (Z0 : n0 ≤ h0.size) (F_left_a : Fld Z h0 a "com/example/arcwright/arcwright/propagation/MemoryBudget" "left" "J" (.long lf)) (E_a : Exa Z h0 a "com/example/arcwright/arcwright/propagation/MemoryBudget") (g_a : n0 ≤ a)   :
    MetFree l (⟨"com/example/arcwright/arcwright/propagation/MemoryBudget", "take", "(J)Z"⟩ : MethodName) (head1 (Jvm.Cond.code (⟨"com/example/arcwright/arcwright/propagation/MemoryBudget", "take", "(J)Z"⟩ : MethodName) prog_55_method_5_code 4 (some .boolean) :: ws) ({ frames := 0, cells := 0, slots := 0, locals := 0 } : Room)) (fun aa U => aa = #[(.ref a), (.long x1)] ∧ Z.Warmed39 U.vm ∧ U.heap = h0) (fun _ _ _ _ _ => True) (fun _ U o U' => ∃ v L, o = .returned v ∧ own_Q3 Z a x1 lf h0 n0 v U'.heap L ∧ FrameEnd U o U' L ({ frames := 0, cells := 0, slots := 0, locals := 0 } : Room).cells ({ frames := 0, cells := 0, slots := 0, locals := 0 } : Room).slots) := by
  refine own_met (plainFor_of_name pn_3) fun p e s m below meth c T0 X0 hx hby hml hret hlk hZ hown hnm e0 => ?_
  refine own_cast (ef_3 m a x1) ?_
  have NF := Fr.nil n0
  have Zs := Z0
  have K := Keep.refl h0 [a]
  refine own_by (B := T0.setTop (mkF m 1 #[.val (.ref a), .val (.long x1), .second, .unset] [(.long x1)])) (fun t k => XS.lloadN X0.here hx rfl (hb hby d3_0) rfl k) ?_
  refine own_by (B := T0.setTop (mkF m 2 #[.val (.ref a), .val (.long x1), .second, .unset] [(.ref a), (.long x1)])) (fun t k => XS.aloadN X0.here hx rfl (hb hby d3_1) rfl rfl k) ?_
  obtain ⟨T1, X1, e1, st1⟩ := getF X0 hx hZ hown (host := "") (Or.inl (hw _ (List.mem_of_getElem? (i := 10) rfl))) Via.refl e0 F_left_a (g := (mkF m 2 #[.val (.ref a), .val (.long x1), .second, .unset] [(.ref a), (.long x1)])) rfl rfl (hb hby d3_2)
  refine own_by (B := T1.setTop (mkF m 5 #[.val (.ref a), .val (.long x1), .second, .unset] [(.long lf), (.long x1)])) (fun t k => st1 _ k) ?_
  refine own_by (B := T1.setTop (mkF m 6 #[.val (.ref a), .val (.long x1), .second, .unset] [(.int (lcmpW x1 lf))])) (fun t k => XS.lcmp X1.here hx rfl (hb hby d3_5) rfl k) ?_
  by_cases hc2 : lf < x1
  ·
    refine own_by (B := T1.setTop (mkF m 13 #[.val (.ref a), .val (.long x1), .second, .unset] [])) (fun t k => XS.ifYes X1.here hx rfl (pc0 := 6) (pc' := 13) rfl (hb hby d3_6) rfl ((if0 _ _).trans (tlt ((lw_gt _ _).mpr hc2)).2.2.1) (by decide) (by decide) k) ?_
    refine own_by (B := T1.setTop (mkF m 14 #[.val (.ref a), .val (.long x1), .second, .unset] [(.int (0 : Int32))])) (fun t k => XS.iconst X1.here hx rfl (hb hby d3_13) k) ?_
    refine own_by (B := T1.setTop (mkF m 15 #[.val (.ref a), .val (.long x1), .second, .val (.int (0 : Int32))] [])) (fun t k => XS.istoreN X1.here hx rfl (hb hby d3_14) rfl (l' := #[.val (.ref a), .val (.long x1), .second, .val (.int (0 : Int32))]) rfl k) ?_
    refine own_by (B := T1.setTop (mkF m 16 #[.val (.ref a), .val (.long x1), .second, .val (.int (0 : Int32))] [(.int (0 : Int32))])) (fun t k => XS.iloadN X1.here hx rfl (hb hby d3_15) rfl k) ?_
    have hc3 : (0 : Int32) = (0 : Int32) := rfl
    refine own_by (B := T1.setTop (mkF m 29 #[.val (.ref a), .val (.long x1), .second, .val (.int (0 : Int32))] [])) (fun t k => XS.ifYes X1.here hx rfl (pc0 := 16) (pc' := 29) rfl (hb hby d3_16) rfl ((if0 _ _).trans (teq hc3).1) (by decide) (by decide) k) ?_
    refine own_by (B := T1.setTop (mkF m 30 #[.val (.ref a), .val (.long x1), .second, .val (.int (0 : Int32))] [(.int (0 : Int32))])) (fun t k => XS.iloadN X1.here hx rfl (hb hby d3_29) rfl k) ?_
    exact own_retN (t := .boolean) (by simp) X1 hx hlk hret (z' := (0 : Int32)) (by decide) (hb hby d3_30) (by show own_Q3 Z a x1 lf h0 n0 _ _ _; rw [e1]; unfold own_Q3; rw [if_pos hc2, if_pos hc2]; exact ⟨rfl, NF, K, F_left_a, E_a⟩) (by decide) (by decide)
  ·
    refine own_by (B := T1.setTop (mkF m 9 #[.val (.ref a), .val (.long x1), .second, .unset] [])) (fun t k => XS.ifNo X1.here hx rfl (hb hby d3_6) rfl ((if0 _ _).trans (flt (fun q => hc2 ((lw_gt _ _).mp q))).2.2.1) k) ?_
    refine own_by (B := T1.setTop (mkF m 10 #[.val (.ref a), .val (.long x1), .second, .unset] [(.int (1 : Int32))])) (fun t k => XS.iconst X1.here hx rfl (hb hby d3_9) k) ?_
    refine own_by (B := T1.setTop (mkF m 14 #[.val (.ref a), .val (.long x1), .second, .unset] [(.int (1 : Int32))])) (fun t k => XS.goto X1.here hx rfl (pc0 := 10) (pc' := 14) rfl (hb hby d3_10) (by decide) (by decide) k) ?_
    refine own_by (B := T1.setTop (mkF m 15 #[.val (.ref a), .val (.long x1), .second, .val (.int (1 : Int32))] [])) (fun t k => XS.istoreN X1.here hx rfl (hb hby d3_14) rfl (l' := #[.val (.ref a), .val (.long x1), .second, .val (.int (1 : Int32))]) rfl k) ?_
    refine own_by (B := T1.setTop (mkF m 16 #[.val (.ref a), .val (.long x1), .second, .val (.int (1 : Int32))] [(.int (1 : Int32))])) (fun t k => XS.iloadN X1.here hx rfl (hb hby d3_15) rfl k) ?_
    have hc4 : ¬ ((1 : Int32) = (0 : Int32)) := (by decide)
    refine own_by (B := T1.setTop (mkF m 19 #[.val (.ref a), .val (.long x1), .second, .val (.int (1 : Int32))] [])) (fun t k => XS.ifNo X1.here hx rfl (hb hby d3_16) rfl ((if0 _ _).trans (feq hc4).1) k) ?_
    refine own_by (B := T1.setTop (mkF m 20 #[.val (.ref a), .val (.long x1), .second, .val (.int (1 : Int32))] [(.ref a)])) (fun t k => XS.aloadN X1.here hx rfl (hb hby d3_19) rfl rfl k) ?_
    refine own_by (B := T1.setTop (mkF m 21 #[.val (.ref a), .val (.long x1), .second, .val (.int (1 : Int32))] [(.ref a), (.ref a)])) (fun t k => XS.dup X1.here hx rfl (hb hby d3_20) rfl rfl k) ?_
    obtain ⟨T5, X5, e5, st5⟩ := getF X1 hx hZ hown (host := "") (Or.inl (hw _ (List.mem_of_getElem? (i := 10) rfl))) Via.refl e1 F_left_a (g := (mkF m 21 #[.val (.ref a), .val (.long x1), .second, .val (.int (1 : Int32))] [(.ref a), (.ref a)])) rfl rfl (hb hby d3_21)
    refine own_by (B := T5.setTop (mkF m 24 #[.val (.ref a), .val (.long x1), .second, .val (.int (1 : Int32))] [(.long lf), (.ref a)])) (fun t k => st5 _ k) ?_
    refine own_by (B := T5.setTop (mkF m 25 #[.val (.ref a), .val (.long x1), .second, .val (.int (1 : Int32))] [(.long x1), (.long lf), (.ref a)])) (fun t k => XS.lloadN X5.here hx rfl (hb hby d3_24) rfl k) ?_
    refine own_by (B := T5.setTop (mkF m 26 #[.val (.ref a), .val (.long x1), .second, .val (.int (1 : Int32))] [(.long (lf - x1)), (.ref a)])) (fun t k => XS.lsub X5.here hx rfl (hb hby d3_25) rfl k) ?_
    obtain ⟨T6, h6, X6, e6, W6, st6⟩ := putF X5 hx hZ hown (host := "") (Or.inl (hw _ (List.mem_of_getElem? (i := 10) rfl))) Via.refl e5 F_left_a E_a (Or.inl (hw _ (List.mem_of_getElem? (i := 11) rfl))) (hw _ (List.mem_of_getElem? (i := 2) rfl)) (ty := .long) (by decide) rfl rfl (g := (mkF m 26 #[.val (.ref a), .val (.long x1), .second, .val (.int (1 : Int32))] [(.long (lf - x1)), (.ref a)])) rfl rfl (hb hby d3_26)
    replace F_left_a : Fld Z h6 a "com/example/arcwright/arcwright/propagation/MemoryBudget" "left" "J" (.long (lf - x1)) := F_left_a.same W6
    replace E_a : Exa Z h6 a "com/example/arcwright/arcwright/propagation/MemoryBudget" := E_a.wr W6
    replace Zs : n0 ≤ h6.size := by rw [W6.size]; exact Zs
    replace K : Keep h0 h6 [a] := K.wr W6 (Or.inl (List.mem_of_getElem? (i := 0) rfl))
    have NF := Fr.snoc X6 NF g_a
    refine own_by (B := T6.setTop (mkF m 29 #[.val (.ref a), .val (.long x1), .second, .val (.int (1 : Int32))] [])) (fun t k => st6 _ k) ?_
    refine own_by (B := T6.setTop (mkF m 30 #[.val (.ref a), .val (.long x1), .second, .val (.int (1 : Int32))] [(.int (1 : Int32))])) (fun t k => XS.iloadN X6.here hx rfl (hb hby d3_29) rfl k) ?_
    exact own_retN (t := .boolean) (by simp) X6 hx hlk hret (z' := (1 : Int32)) (by decide) (hb hby d3_30) (by show own_Q3 Z a x1 lf h0 n0 _ _ _; rw [e6]; unfold own_Q3; rw [if_neg hc2, if_neg hc2]; exact ⟨rfl, NF, K, F_left_a, E_a⟩) (by decide) (by decide)
theorem own_ul (j0 y ul : Int64) (u9 : Int32) (h9 : u9 = (if j0 < y then (0 : Int32) else (1 : Int32))) (hl : ul = (if u9 = (0 : Int32) then j0 else (j0 - y))) : (if j0 < y then j0 else (j0 - y)) = ul := by
  by_cases q : j0 < y
  · rw [if_pos q] at h9
    rw [if_pos q, hl, if_pos h9]
  · rw [if_neg q] at h9
    rw [if_neg q, hl, h9, if_neg (by decide)]
def own_Q0 (n0 : Nat) (v : Option Value) (h : Heap) (L : List Loc) : Prop := v = some (.int 1) ∧ Fr n0 L
set_option maxRecDepth 65536 in
set_option maxHeartbeats 40000000 in
theorem lw55 (l : Launch) (Z : State) (a0 : Array Value) (hw : ∀ d ∈ tables_1, d.before a0 Z = true) (h0 : Heap) (n0 : Nat) (Z0 : n0 ≤ h0.size) {p : Program} {e : Env} {s : State} {m : MethodId} {args : Array Value} {below : List Frame} {meth : Method} {c : Code} {T0 : State} {locs : List Loc} (j0 : Int64) (j1 : Int64) (i2 : Int32) (y : Int64) (b : Addr) (F_left_b : Fld Z h0 b "com/example/arcwright/arcwright/propagation/MemoryBudget" "left" "J" (.long j0)) (E_b : Exa Z h0 b "com/example/arcwright/arcwright/propagation/MemoryBudget") (g_b : n0 ≤ b)  
    (X0 : Stand p l e room_1 s m args below meth c T0 locs 1 1) (NF : Fr n0 locs) (hx : p.tables.exec = Jvm.exec) (hby : c.code = code) (hml : c.maxLocals = 15) (hret : meth.sig.returnType = ret) (hlk : meth.locks = false) (hZ : Z.Warmed39 s.vm) (hown : s.vm.findClass "com/example/arcwright/arcwright/propagation/MemoryBudgetTakePinLaw" = some m.cls) (hnm : meth.name = "law") (e0 : T0.heap = h0) :
    own_Go p e below s (own_Q0 n0) room_1.cells room_1.slots (T0.setTop (mkF m 55 #[.val (.long j0), .second, .val (.long j1), .second, .val (.int i2), .val (.long y), .second, .val (.ref b), .unset, .unset, .unset, .unset, .unset, .unset, .unset] [])) := by
  have Zs := Z0
  refine own_by (B := T0.setTop (mkF m 57 #[.val (.long j0), .second, .val (.long j1), .second, .val (.int i2), .val (.long y), .second, .val (.ref b), .unset, .unset, .unset, .unset, .unset, .unset, .unset] [(.ref b)])) (fun t k => XS.aload X0.here hx rfl (hb hby at_55) rfl rfl k) ?_
  refine own_by (B := T0.setTop (mkF m 59 #[.val (.long j0), .second, .val (.long j1), .second, .val (.int i2), .val (.long y), .second, .val (.ref b), .unset, .unset, .unset, .unset, .unset, .unset, .unset] [(.long y), (.ref b)])) (fun t k => XS.lload X0.here hx rfl (hb hby at_57) rfl k) ?_
  obtain ⟨cq1, kq1, q1a, q1b, q1c⟩ := isOf hZ e0 E_b
  obtain ⟨v1, _, ⟨T1, L1, c1, n1⟩, -, X1, ⟨Lc1, hQ1, l1, y1, z1⟩, st1⟩ := X0.virtualBack hx (y := (⟨"com/example/arcwright/arcwright/propagation/MemoryBudget", "take", "(J)Z"⟩ : MethodName)) (z := (⟨"com/example/arcwright/arcwright/propagation/MemoryBudget", "take", "(J)Z"⟩ : MethodName)) hown (mvT hZ (hw _ (List.mem_of_getElem? (i := 12) rfl))) (mvT hZ (hw _ (List.mem_of_getElem? (i := 13) rfl))) (notFace_of_selects (args := #[]) (mvT hZ (hw _ (List.mem_of_getElem? (i := 15) rfl)))) (mvT hZ (hw _ (List.mem_of_getElem? (i := 15) rfl))) (mvT hZ (hw _ (List.mem_of_getElem? (i := 14) rfl))) (by decide) (backOf (W := 0) (rm3 l Z a0 hw [] b y j0 h0 n0 Zs F_left_b E_b g_b  ) hZ (hw _ (List.mem_of_getElem? (i := 16) rfl)) (hw _ (List.mem_of_getElem? (i := 3) rfl)) (by decide) (by decide)) q1a q1c (g := (mkF m 59 #[.val (.long j0), .second, .val (.long j1), .second, .val (.int i2), .val (.long y), .second, .val (.ref b), .unset, .unset, .unset, .unset, .unset, .unset, .unset] [(.long y), (.ref b)])) rfl (by rw [hml]; rfl) (Steps.refl _) (argsL := [(.long y)]) (rest := []) (lenOf pd_0 rfl) rfl (by show 2 * 0 + _ ≤ _; exact Nat.le_of_eq rfl) (hb hby at_59) (fun _ _ => ⟨rfl, e0, (by decide : 1 + 0 ≤ _), (by decide : 1 + 0 ≤ _)⟩)
  dsimp only [Pt.U, Pt.locs, Pt.cells, Pt.slots] at X1 l1 y1 z1 st1 hQ1
  subst l1 y1 z1
  obtain ⟨rfl, Nq1, Kq1, o0_1, o1_1⟩ := hQ1
  have NF := Fr.app NF Nq1
  clear F_left_b
  replace E_b : Exa Z T1.heap b "com/example/arcwright/arcwright/propagation/MemoryBudget" := E_b.keep Kq1
  replace Zs : n0 ≤ T1.heap.size := Nat.le_trans Zs Kq1.1
  have F_left_b : Fld Z T1.heap b "com/example/arcwright/arcwright/propagation/MemoryBudget" "left" "J" (.long (if j0 < y then j0 else (j0 - y))) := o0_1
  have E_b : Exa Z T1.heap b "com/example/arcwright/arcwright/propagation/MemoryBudget" := o1_1
  refine own_by (B := T1.setTop (mkF m 62 #[.val (.long j0), .second, .val (.long j1), .second, .val (.int i2), .val (.long y), .second, .val (.ref b), .unset, .unset, .unset, .unset, .unset, .unset, .unset] [(.int (if j0 < y then (0 : Int32) else (1 : Int32)))])) (fun t k => st1.trans k) ?_
  refine own_by (B := T1.setTop (mkF m 64 #[.val (.long j0), .second, .val (.long j1), .second, .val (.int i2), .val (.long y), .second, .val (.ref b), .val (.int (if j0 < y then (0 : Int32) else (1 : Int32))), .unset, .unset, .unset, .unset, .unset, .unset] [])) (fun t k => XS.istore X1.here hx rfl (hb hby at_62) rfl (l' := #[.val (.long j0), .second, .val (.long j1), .second, .val (.int i2), .val (.long y), .second, .val (.ref b), .val (.int (if j0 < y then (0 : Int32) else (1 : Int32))), .unset, .unset, .unset, .unset, .unset, .unset]) rfl k) ?_
  refine own_by (B := T1.setTop (mkF m 66 #[.val (.long j0), .second, .val (.long j1), .second, .val (.int i2), .val (.long y), .second, .val (.ref b), .val (.int (if j0 < y then (0 : Int32) else (1 : Int32))), .unset, .unset, .unset, .unset, .unset, .unset] [(.long y)])) (fun t k => XS.lload X1.here hx rfl (hb hby at_64) rfl k) ?_
  refine own_by (B := T1.setTop (mkF m 67 #[.val (.long j0), .second, .val (.long j1), .second, .val (.int i2), .val (.long y), .second, .val (.ref b), .val (.int (if j0 < y then (0 : Int32) else (1 : Int32))), .unset, .unset, .unset, .unset, .unset, .unset] [(.long j0), (.long y)])) (fun t k => XS.lloadN X1.here hx rfl (hb hby at_66) rfl k) ?_
  refine own_by (B := T1.setTop (mkF m 68 #[.val (.long j0), .second, .val (.long j1), .second, .val (.int i2), .val (.long y), .second, .val (.ref b), .val (.int (if j0 < y then (0 : Int32) else (1 : Int32))), .unset, .unset, .unset, .unset, .unset, .unset] [(.int (lcmpW y j0))])) (fun t k => XS.lcmp X1.here hx rfl (hb hby at_67) rfl k) ?_
  obtain ⟨u9, hu9⟩ : ∃ z : Int32, z = (if j0 < y then (0 : Int32) else (1 : Int32)) := ⟨_, rfl⟩
  refine own_by (B := T1.setTop (mkF m 76 #[.val (.long j0), .second, .val (.long j1), .second, .val (.int i2), .val (.long y), .second, .val (.ref b), .val (.int (if j0 < y then (0 : Int32) else (1 : Int32))), .unset, .unset, .unset, .unset, .unset, .unset] [(.int u9)])) (fun t k => ?_) ?_
  ·
    show Steps p.tables e below (T1.setTop (mkF m 68 #[.val (.long j0), .second, .val (.long j1), .second, .val (.int i2), .val (.long y), .second, .val (.ref b), .val (.int (if j0 < y then (0 : Int32) else (1 : Int32))), .unset, .unset, .unset, .unset, .unset, .unset] [(.int (lcmpW y j0))])) t
    by_cases hm3 : j0 < y
    ·
      rw [if_pos hm3] at hu9
      refine XS.ifYes X1.here hx rfl (pc0 := 68) (pc' := 75) rfl (hb hby at_68) rfl ((if0 _ _).trans (tlt ((lw_gt _ _).mpr hm3)).2.2.1) (by decide) (by decide) ?_
      show Steps p.tables e below (T1.setTop (mkF m 75 #[.val (.long j0), .second, .val (.long j1), .second, .val (.int i2), .val (.long y), .second, .val (.ref b), .val (.int (if j0 < y then (0 : Int32) else (1 : Int32))), .unset, .unset, .unset, .unset, .unset, .unset] [])) t
      show Steps p.tables e below (T1.setTop (mkF m 75 #[.val (.long j0), .second, .val (.long j1), .second, .val (.int i2), .val (.long y), .second, .val (.ref b), .val (.int (if j0 < y then (0 : Int32) else (1 : Int32))), .unset, .unset, .unset, .unset, .unset, .unset] [])) t
      refine XS.iconst X1.here hx rfl (hb hby at_75) ?_
      show Steps p.tables e below (T1.setTop (mkF m 76 #[.val (.long j0), .second, .val (.long j1), .second, .val (.int i2), .val (.long y), .second, .val (.ref b), .val (.int (if j0 < y then (0 : Int32) else (1 : Int32))), .unset, .unset, .unset, .unset, .unset, .unset] [(.int (0 : Int32))])) t
      subst hu9
      exact k
    ·
      rw [if_neg hm3] at hu9
      refine XS.ifNo X1.here hx rfl (hb hby at_68) rfl ((if0 _ _).trans (flt (fun q => hm3 ((lw_gt _ _).mp q))).2.2.1) ?_
      show Steps p.tables e below (T1.setTop (mkF m 71 #[.val (.long j0), .second, .val (.long j1), .second, .val (.int i2), .val (.long y), .second, .val (.ref b), .val (.int (if j0 < y then (0 : Int32) else (1 : Int32))), .unset, .unset, .unset, .unset, .unset, .unset] [])) t
      show Steps p.tables e below (T1.setTop (mkF m 71 #[.val (.long j0), .second, .val (.long j1), .second, .val (.int i2), .val (.long y), .second, .val (.ref b), .val (.int (if j0 < y then (0 : Int32) else (1 : Int32))), .unset, .unset, .unset, .unset, .unset, .unset] [])) t
      refine XS.iconst X1.here hx rfl (hb hby at_71) ?_
      show Steps p.tables e below (T1.setTop (mkF m 72 #[.val (.long j0), .second, .val (.long j1), .second, .val (.int i2), .val (.long y), .second, .val (.ref b), .val (.int (if j0 < y then (0 : Int32) else (1 : Int32))), .unset, .unset, .unset, .unset, .unset, .unset] [(.int (1 : Int32))])) t
      refine XS.goto X1.here hx rfl (pc0 := 72) (pc' := 76) rfl (hb hby at_72) (by decide) (by decide) ?_
      show Steps p.tables e below (T1.setTop (mkF m 76 #[.val (.long j0), .second, .val (.long j1), .second, .val (.int i2), .val (.long y), .second, .val (.ref b), .val (.int (if j0 < y then (0 : Int32) else (1 : Int32))), .unset, .unset, .unset, .unset, .unset, .unset] [(.int (1 : Int32))])) t
      subst hu9
      exact k
  refine own_by (B := T1.setTop (mkF m 78 #[.val (.long j0), .second, .val (.long j1), .second, .val (.int i2), .val (.long y), .second, .val (.ref b), .val (.int (if j0 < y then (0 : Int32) else (1 : Int32))), .val (.int u9), .unset, .unset, .unset, .unset, .unset] [])) (fun t k => XS.istore X1.here hx rfl (hb hby at_76) rfl (l' := #[.val (.long j0), .second, .val (.long j1), .second, .val (.int i2), .val (.long y), .second, .val (.ref b), .val (.int (if j0 < y then (0 : Int32) else (1 : Int32))), .val (.int u9), .unset, .unset, .unset, .unset, .unset]) rfl k) ?_
  refine own_by (B := T1.setTop (mkF m 80 #[.val (.long j0), .second, .val (.long j1), .second, .val (.int i2), .val (.long y), .second, .val (.ref b), .val (.int (if j0 < y then (0 : Int32) else (1 : Int32))), .val (.int u9), .unset, .unset, .unset, .unset, .unset] [(.int (if j0 < y then (0 : Int32) else (1 : Int32)))])) (fun t k => XS.iload X1.here hx rfl (hb hby at_78) rfl k) ?_
  refine own_by (B := T1.setTop (mkF m 82 #[.val (.long j0), .second, .val (.long j1), .second, .val (.int i2), .val (.long y), .second, .val (.ref b), .val (.int (if j0 < y then (0 : Int32) else (1 : Int32))), .val (.int u9), .unset, .unset, .unset, .unset, .unset] [(.int u9), (.int (if j0 < y then (0 : Int32) else (1 : Int32)))])) (fun t k => XS.iload X1.here hx rfl (hb hby at_80) rfl k) ?_
  have hc4 : (if j0 < y then (0 : Int32) else (1 : Int32)) = u9 := hu9.symm
  refine own_by (B := T1.setTop (mkF m 87 #[.val (.long j0), .second, .val (.long j1), .second, .val (.int i2), .val (.long y), .second, .val (.ref b), .val (.int (if j0 < y then (0 : Int32) else (1 : Int32))), .val (.int u9), .unset, .unset, .unset, .unset, .unset] [])) (fun t k => XS.icmpYes X1.here hx rfl (pc0 := 82) (pc' := 87) rfl (hb hby at_82) rfl (teq hc4).1 (by decide) (by decide) k) ?_
  refine own_by (B := T1.setTop (mkF m 89 #[.val (.long j0), .second, .val (.long j1), .second, .val (.int i2), .val (.long y), .second, .val (.ref b), .val (.int (if j0 < y then (0 : Int32) else (1 : Int32))), .val (.int u9), .unset, .unset, .unset, .unset, .unset] [(.int u9)])) (fun t k => XS.iload X1.here hx rfl (hb hby at_87) rfl k) ?_
  obtain ⟨ul, hul⟩ : ∃ z : Int64, z = (if u9 = (0 : Int32) then j0 else (j0 - y)) := ⟨_, rfl⟩
  refine own_by (B := T1.setTop (mkF m 100 #[.val (.long j0), .second, .val (.long j1), .second, .val (.int i2), .val (.long y), .second, .val (.ref b), .val (.int (if j0 < y then (0 : Int32) else (1 : Int32))), .val (.int u9), .unset, .unset, .unset, .unset, .unset] [(.long ul)])) (fun t k => ?_) ?_
  ·
    show Steps p.tables e below (T1.setTop (mkF m 89 #[.val (.long j0), .second, .val (.long j1), .second, .val (.int i2), .val (.long y), .second, .val (.ref b), .val (.int (if j0 < y then (0 : Int32) else (1 : Int32))), .val (.int u9), .unset, .unset, .unset, .unset, .unset] [(.int u9)])) t
    by_cases hm6 : u9 = (0 : Int32)
    ·
      rw [if_pos hm6] at hul
      refine XS.ifYes X1.here hx rfl (pc0 := 89) (pc' := 99) rfl (hb hby at_89) rfl ((if0 _ _).trans (teq hm6).1) (by decide) (by decide) ?_
      show Steps p.tables e below (T1.setTop (mkF m 99 #[.val (.long j0), .second, .val (.long j1), .second, .val (.int i2), .val (.long y), .second, .val (.ref b), .val (.int (if j0 < y then (0 : Int32) else (1 : Int32))), .val (.int u9), .unset, .unset, .unset, .unset, .unset] [])) t
      show Steps p.tables e below (T1.setTop (mkF m 99 #[.val (.long j0), .second, .val (.long j1), .second, .val (.int i2), .val (.long y), .second, .val (.ref b), .val (.int (if j0 < y then (0 : Int32) else (1 : Int32))), .val (.int u9), .unset, .unset, .unset, .unset, .unset] [])) t
      refine XS.lloadN X1.here hx rfl (hb hby at_99) rfl ?_
      show Steps p.tables e below (T1.setTop (mkF m 100 #[.val (.long j0), .second, .val (.long j1), .second, .val (.int i2), .val (.long y), .second, .val (.ref b), .val (.int (if j0 < y then (0 : Int32) else (1 : Int32))), .val (.int u9), .unset, .unset, .unset, .unset, .unset] [(.long j0)])) t
      subst hul
      exact k
    ·
      rw [if_neg hm6] at hul
      refine XS.ifNo X1.here hx rfl (hb hby at_89) rfl ((if0 _ _).trans (feq hm6).1) ?_
      show Steps p.tables e below (T1.setTop (mkF m 92 #[.val (.long j0), .second, .val (.long j1), .second, .val (.int i2), .val (.long y), .second, .val (.ref b), .val (.int (if j0 < y then (0 : Int32) else (1 : Int32))), .val (.int u9), .unset, .unset, .unset, .unset, .unset] [])) t
      show Steps p.tables e below (T1.setTop (mkF m 92 #[.val (.long j0), .second, .val (.long j1), .second, .val (.int i2), .val (.long y), .second, .val (.ref b), .val (.int (if j0 < y then (0 : Int32) else (1 : Int32))), .val (.int u9), .unset, .unset, .unset, .unset, .unset] [])) t
      refine XS.lloadN X1.here hx rfl (hb hby at_92) rfl ?_
      show Steps p.tables e below (T1.setTop (mkF m 93 #[.val (.long j0), .second, .val (.long j1), .second, .val (.int i2), .val (.long y), .second, .val (.ref b), .val (.int (if j0 < y then (0 : Int32) else (1 : Int32))), .val (.int u9), .unset, .unset, .unset, .unset, .unset] [(.long j0)])) t
      refine XS.lload X1.here hx rfl (hb hby at_93) rfl ?_
      show Steps p.tables e below (T1.setTop (mkF m 95 #[.val (.long j0), .second, .val (.long j1), .second, .val (.int i2), .val (.long y), .second, .val (.ref b), .val (.int (if j0 < y then (0 : Int32) else (1 : Int32))), .val (.int u9), .unset, .unset, .unset, .unset, .unset] [(.long y), (.long j0)])) t
      refine XS.lsub X1.here hx rfl (hb hby at_95) rfl ?_
      show Steps p.tables e below (T1.setTop (mkF m 96 #[.val (.long j0), .second, .val (.long j1), .second, .val (.int i2), .val (.long y), .second, .val (.ref b), .val (.int (if j0 < y then (0 : Int32) else (1 : Int32))), .val (.int u9), .unset, .unset, .unset, .unset, .unset] [(.long (j0 - y))])) t
      refine XS.goto X1.here hx rfl (pc0 := 96) (pc' := 100) rfl (hb hby at_96) (by decide) (by decide) ?_
      show Steps p.tables e below (T1.setTop (mkF m 100 #[.val (.long j0), .second, .val (.long j1), .second, .val (.int i2), .val (.long y), .second, .val (.ref b), .val (.int (if j0 < y then (0 : Int32) else (1 : Int32))), .val (.int u9), .unset, .unset, .unset, .unset, .unset] [(.long (j0 - y))])) t
      subst hul
      exact k
  refine own_by (B := T1.setTop (mkF m 102 #[.val (.long j0), .second, .val (.long j1), .second, .val (.int i2), .val (.long y), .second, .val (.ref b), .val (.int (if j0 < y then (0 : Int32) else (1 : Int32))), .val (.int u9), .val (.long ul), .second, .unset, .unset, .unset] [])) (fun t k => XS.lstore X1.here hx rfl (hb hby at_100) rfl (l' := #[.val (.long j0), .second, .val (.long j1), .second, .val (.int i2), .val (.long y), .second, .val (.ref b), .val (.int (if j0 < y then (0 : Int32) else (1 : Int32))), .val (.int u9), .val (.long ul), .second, .unset, .unset, .unset]) rfl k) ?_
  have hr7 : (if j0 < y then j0 else (j0 - y)) = ul := own_ul j0 y ul u9 hu9 hul
  rw [hr7] at F_left_b
  refine own_by (B := T1.setTop (mkF m 104 #[.val (.long j0), .second, .val (.long j1), .second, .val (.int i2), .val (.long y), .second, .val (.ref b), .val (.int (if j0 < y then (0 : Int32) else (1 : Int32))), .val (.int u9), .val (.long ul), .second, .unset, .unset, .unset] [(.ref b)])) (fun t k => XS.aload X1.here hx rfl (hb hby at_102) rfl rfl k) ?_
  refine own_by (B := T1.setTop (mkF m 106 #[.val (.long j0), .second, .val (.long j1), .second, .val (.int i2), .val (.long y), .second, .val (.ref b), .val (.int (if j0 < y then (0 : Int32) else (1 : Int32))), .val (.int u9), .val (.long ul), .second, .unset, .unset, .unset] [(.long ul), (.ref b)])) (fun t k => XS.lload X1.here hx rfl (hb hby at_104) rfl k) ?_
  obtain ⟨cq8, kq8, q8a, q8b, q8c⟩ := isOf hZ rfl E_b
  obtain ⟨v8, _, ⟨T8, L8, c8, n8⟩, -, X8, ⟨Lc8, hQ8, l8, y8, z8⟩, st8⟩ := X1.virtualBack hx (y := (⟨"com/example/arcwright/arcwright/propagation/MemoryBudget", "take", "(J)Z"⟩ : MethodName)) (z := (⟨"com/example/arcwright/arcwright/propagation/MemoryBudget", "take", "(J)Z"⟩ : MethodName)) hown (mvT hZ (hw _ (List.mem_of_getElem? (i := 12) rfl))) (mvT hZ (hw _ (List.mem_of_getElem? (i := 13) rfl))) (notFace_of_selects (args := #[]) (mvT hZ (hw _ (List.mem_of_getElem? (i := 15) rfl)))) (mvT hZ (hw _ (List.mem_of_getElem? (i := 15) rfl))) (mvT hZ (hw _ (List.mem_of_getElem? (i := 14) rfl))) (by decide) (backOf (W := 0) (rm3 l Z a0 hw [] b ul ul T1.heap n0 Zs F_left_b E_b g_b  ) hZ (hw _ (List.mem_of_getElem? (i := 16) rfl)) (hw _ (List.mem_of_getElem? (i := 3) rfl)) (by decide) (by decide)) q8a q8c (g := (mkF m 106 #[.val (.long j0), .second, .val (.long j1), .second, .val (.int i2), .val (.long y), .second, .val (.ref b), .val (.int (if j0 < y then (0 : Int32) else (1 : Int32))), .val (.int u9), .val (.long ul), .second, .unset, .unset, .unset] [(.long ul), (.ref b)])) rfl (by rw [hml]; rfl) (Steps.refl _) (argsL := [(.long ul)]) (rest := []) (lenOf pd_0 rfl) rfl (by show 2 * 0 + _ ≤ _; exact Nat.le_of_eq rfl) (hb hby at_106) (fun _ _ => ⟨rfl, rfl, (by decide : 1 + 0 ≤ _), (by decide : 1 + 0 ≤ _)⟩)
  dsimp only [Pt.U, Pt.locs, Pt.cells, Pt.slots] at X8 l8 y8 z8 st8 hQ8
  subst l8 y8 z8
  obtain ⟨rfl, Nq8, Kq8, o0_8, o1_8⟩ := hQ8
  have NF := Fr.app NF Nq8
  replace E_b : Exa Z T8.heap b "com/example/arcwright/arcwright/propagation/MemoryBudget" := E_b.keep Kq8
  clear F_left_b
  replace Zs : n0 ≤ T8.heap.size := Nat.le_trans Zs Kq8.1
  have F_left_b : Fld Z T8.heap b "com/example/arcwright/arcwright/propagation/MemoryBudget" "left" "J" (.long (if ul < ul then ul else (ul - ul))) := o0_8
  have E_b : Exa Z T8.heap b "com/example/arcwright/arcwright/propagation/MemoryBudget" := o1_8
  refine own_by (B := T8.setTop (mkF m 109 #[.val (.long j0), .second, .val (.long j1), .second, .val (.int i2), .val (.long y), .second, .val (.ref b), .val (.int (if j0 < y then (0 : Int32) else (1 : Int32))), .val (.int u9), .val (.long ul), .second, .unset, .unset, .unset] [(.int (if ul < ul then (0 : Int32) else (1 : Int32)))])) (fun t k => st8.trans k) ?_
  refine own_by (B := T8.setTop (mkF m 111 #[.val (.long j0), .second, .val (.long j1), .second, .val (.int i2), .val (.long y), .second, .val (.ref b), .val (.int (if j0 < y then (0 : Int32) else (1 : Int32))), .val (.int u9), .val (.long ul), .second, .val (.int (if ul < ul then (0 : Int32) else (1 : Int32))), .unset, .unset] [])) (fun t k => XS.istore X8.here hx rfl (hb hby at_109) rfl (l' := #[.val (.long j0), .second, .val (.long j1), .second, .val (.int i2), .val (.long y), .second, .val (.ref b), .val (.int (if j0 < y then (0 : Int32) else (1 : Int32))), .val (.int u9), .val (.long ul), .second, .val (.int (if ul < ul then (0 : Int32) else (1 : Int32))), .unset, .unset]) rfl k) ?_
  have hr9 : (if ul < ul then ul else (ul - ul)) = (0 : Int64) := by rw [if_neg (fun q => Int64.lt_irrefl q : ¬ ul < ul), Int64.sub_self]
  rw [hr9] at F_left_b
  refine own_by (B := T8.setTop (mkF m 113 #[.val (.long j0), .second, .val (.long j1), .second, .val (.int i2), .val (.long y), .second, .val (.ref b), .val (.int (if j0 < y then (0 : Int32) else (1 : Int32))), .val (.int u9), .val (.long ul), .second, .val (.int (if ul < ul then (0 : Int32) else (1 : Int32))), .unset, .unset] [(.ref b)])) (fun t k => XS.aload X8.here hx rfl (hb hby at_111) rfl rfl k) ?_
  refine own_by (B := T8.setTop (mkF m 114 #[.val (.long j0), .second, .val (.long j1), .second, .val (.int i2), .val (.long y), .second, .val (.ref b), .val (.int (if j0 < y then (0 : Int32) else (1 : Int32))), .val (.int u9), .val (.long ul), .second, .val (.int (if ul < ul then (0 : Int32) else (1 : Int32))), .unset, .unset] [(.long (1 : Int64)), (.ref b)])) (fun t k => XS.lconst X8.here hx rfl (hb hby at_113) k) ?_
  obtain ⟨cq10, kq10, q10a, q10b, q10c⟩ := isOf hZ rfl E_b
  obtain ⟨v10, _, ⟨T10, L10, c10, n10⟩, -, X10, ⟨Lc10, hQ10, l10, y10, z10⟩, st10⟩ := X8.virtualBack hx (y := (⟨"com/example/arcwright/arcwright/propagation/MemoryBudget", "take", "(J)Z"⟩ : MethodName)) (z := (⟨"com/example/arcwright/arcwright/propagation/MemoryBudget", "take", "(J)Z"⟩ : MethodName)) hown (mvT hZ (hw _ (List.mem_of_getElem? (i := 12) rfl))) (mvT hZ (hw _ (List.mem_of_getElem? (i := 13) rfl))) (notFace_of_selects (args := #[]) (mvT hZ (hw _ (List.mem_of_getElem? (i := 15) rfl)))) (mvT hZ (hw _ (List.mem_of_getElem? (i := 15) rfl))) (mvT hZ (hw _ (List.mem_of_getElem? (i := 14) rfl))) (by decide) (backOf (W := 0) (rm3 l Z a0 hw [] b (1 : Int64) (0 : Int64) T8.heap n0 Zs F_left_b E_b g_b  ) hZ (hw _ (List.mem_of_getElem? (i := 16) rfl)) (hw _ (List.mem_of_getElem? (i := 3) rfl)) (by decide) (by decide)) q10a q10c (g := (mkF m 114 #[.val (.long j0), .second, .val (.long j1), .second, .val (.int i2), .val (.long y), .second, .val (.ref b), .val (.int (if j0 < y then (0 : Int32) else (1 : Int32))), .val (.int u9), .val (.long ul), .second, .val (.int (if ul < ul then (0 : Int32) else (1 : Int32))), .unset, .unset] [(.long (1 : Int64)), (.ref b)])) rfl (by rw [hml]; rfl) (Steps.refl _) (argsL := [(.long (1 : Int64))]) (rest := []) (lenOf pd_0 rfl) rfl (by show 2 * 0 + _ ≤ _; exact Nat.le_of_eq rfl) (hb hby at_114) (fun _ _ => ⟨rfl, rfl, (by decide : 1 + 0 ≤ _), (by decide : 1 + 0 ≤ _)⟩)
  dsimp only [Pt.U, Pt.locs, Pt.cells, Pt.slots] at X10 l10 y10 z10 st10 hQ10
  subst l10 y10 z10
  obtain ⟨rfl, Nq10, Kq10, o0_10, o1_10⟩ := hQ10
  have NF := Fr.app NF Nq10
  replace E_b : Exa Z T10.heap b "com/example/arcwright/arcwright/propagation/MemoryBudget" := E_b.keep Kq10
  clear F_left_b
  replace Zs : n0 ≤ T10.heap.size := Nat.le_trans Zs Kq10.1
  have F_left_b : Fld Z T10.heap b "com/example/arcwright/arcwright/propagation/MemoryBudget" "left" "J" (.long (if (0 : Int64) < (1 : Int64) then (0 : Int64) else ((0 : Int64) - (1 : Int64)))) := o0_10
  have E_b : Exa Z T10.heap b "com/example/arcwright/arcwright/propagation/MemoryBudget" := o1_10
  refine own_by (B := T10.setTop (mkF m 117 #[.val (.long j0), .second, .val (.long j1), .second, .val (.int i2), .val (.long y), .second, .val (.ref b), .val (.int (if j0 < y then (0 : Int32) else (1 : Int32))), .val (.int u9), .val (.long ul), .second, .val (.int (if ul < ul then (0 : Int32) else (1 : Int32))), .unset, .unset] [(.int (if (0 : Int64) < (1 : Int64) then (0 : Int32) else (1 : Int32)))])) (fun t k => st10.trans k) ?_
  refine own_by (B := T10.setTop (mkF m 119 #[.val (.long j0), .second, .val (.long j1), .second, .val (.int i2), .val (.long y), .second, .val (.ref b), .val (.int (if j0 < y then (0 : Int32) else (1 : Int32))), .val (.int u9), .val (.long ul), .second, .val (.int (if ul < ul then (0 : Int32) else (1 : Int32))), .val (.int (if (0 : Int64) < (1 : Int64) then (0 : Int32) else (1 : Int32))), .unset] [])) (fun t k => XS.istore X10.here hx rfl (hb hby at_117) rfl (l' := #[.val (.long j0), .second, .val (.long j1), .second, .val (.int i2), .val (.long y), .second, .val (.ref b), .val (.int (if j0 < y then (0 : Int32) else (1 : Int32))), .val (.int u9), .val (.long ul), .second, .val (.int (if ul < ul then (0 : Int32) else (1 : Int32))), .val (.int (if (0 : Int64) < (1 : Int64) then (0 : Int32) else (1 : Int32))), .unset]) rfl k) ?_
  have hr11 : (if (0 : Int64) < (1 : Int64) then (0 : Int64) else ((0 : Int64) - (1 : Int64))) = (0 : Int64) := by decide
  rw [hr11] at F_left_b
  refine own_by (B := T10.setTop (mkF m 121 #[.val (.long j0), .second, .val (.long j1), .second, .val (.int i2), .val (.long y), .second, .val (.ref b), .val (.int (if j0 < y then (0 : Int32) else (1 : Int32))), .val (.int u9), .val (.long ul), .second, .val (.int (if ul < ul then (0 : Int32) else (1 : Int32))), .val (.int (if (0 : Int64) < (1 : Int64) then (0 : Int32) else (1 : Int32))), .unset] [(.ref b)])) (fun t k => XS.aload X10.here hx rfl (hb hby at_119) rfl rfl k) ?_
  refine own_by (B := T10.setTop (mkF m 122 #[.val (.long j0), .second, .val (.long j1), .second, .val (.int i2), .val (.long y), .second, .val (.ref b), .val (.int (if j0 < y then (0 : Int32) else (1 : Int32))), .val (.int u9), .val (.long ul), .second, .val (.int (if ul < ul then (0 : Int32) else (1 : Int32))), .val (.int (if (0 : Int64) < (1 : Int64) then (0 : Int32) else (1 : Int32))), .unset] [(.long (0 : Int64)), (.ref b)])) (fun t k => XS.lconst X10.here hx rfl (hb hby at_121) k) ?_
  obtain ⟨cq12, kq12, q12a, q12b, q12c⟩ := isOf hZ rfl E_b
  obtain ⟨v12, _, ⟨T12, L12, c12, n12⟩, -, X12, ⟨Lc12, hQ12, l12, y12, z12⟩, st12⟩ := X10.virtualBack hx (y := (⟨"com/example/arcwright/arcwright/propagation/MemoryBudget", "take", "(J)Z"⟩ : MethodName)) (z := (⟨"com/example/arcwright/arcwright/propagation/MemoryBudget", "take", "(J)Z"⟩ : MethodName)) hown (mvT hZ (hw _ (List.mem_of_getElem? (i := 12) rfl))) (mvT hZ (hw _ (List.mem_of_getElem? (i := 13) rfl))) (notFace_of_selects (args := #[]) (mvT hZ (hw _ (List.mem_of_getElem? (i := 15) rfl)))) (mvT hZ (hw _ (List.mem_of_getElem? (i := 15) rfl))) (mvT hZ (hw _ (List.mem_of_getElem? (i := 14) rfl))) (by decide) (backOf (W := 0) (rm3 l Z a0 hw [] b (0 : Int64) (0 : Int64) T10.heap n0 Zs F_left_b E_b g_b  ) hZ (hw _ (List.mem_of_getElem? (i := 16) rfl)) (hw _ (List.mem_of_getElem? (i := 3) rfl)) (by decide) (by decide)) q12a q12c (g := (mkF m 122 #[.val (.long j0), .second, .val (.long j1), .second, .val (.int i2), .val (.long y), .second, .val (.ref b), .val (.int (if j0 < y then (0 : Int32) else (1 : Int32))), .val (.int u9), .val (.long ul), .second, .val (.int (if ul < ul then (0 : Int32) else (1 : Int32))), .val (.int (if (0 : Int64) < (1 : Int64) then (0 : Int32) else (1 : Int32))), .unset] [(.long (0 : Int64)), (.ref b)])) rfl (by rw [hml]; rfl) (Steps.refl _) (argsL := [(.long (0 : Int64))]) (rest := []) (lenOf pd_0 rfl) rfl (by show 2 * 0 + _ ≤ _; exact Nat.le_of_eq rfl) (hb hby at_122) (fun _ _ => ⟨rfl, rfl, (by decide : 1 + 0 ≤ _), (by decide : 1 + 0 ≤ _)⟩)
  dsimp only [Pt.U, Pt.locs, Pt.cells, Pt.slots] at X12 l12 y12 z12 st12 hQ12
  subst l12 y12 z12
  obtain ⟨rfl, Nq12, Kq12, o0_12, o1_12⟩ := hQ12
  have NF := Fr.app NF Nq12
  replace E_b : Exa Z T12.heap b "com/example/arcwright/arcwright/propagation/MemoryBudget" := E_b.keep Kq12
  clear F_left_b
  replace Zs : n0 ≤ T12.heap.size := Nat.le_trans Zs Kq12.1
  have F_left_b : Fld Z T12.heap b "com/example/arcwright/arcwright/propagation/MemoryBudget" "left" "J" (.long (if (0 : Int64) < (0 : Int64) then (0 : Int64) else ((0 : Int64) - (0 : Int64)))) := o0_12
  have E_b : Exa Z T12.heap b "com/example/arcwright/arcwright/propagation/MemoryBudget" := o1_12
  refine own_by (B := T12.setTop (mkF m 125 #[.val (.long j0), .second, .val (.long j1), .second, .val (.int i2), .val (.long y), .second, .val (.ref b), .val (.int (if j0 < y then (0 : Int32) else (1 : Int32))), .val (.int u9), .val (.long ul), .second, .val (.int (if ul < ul then (0 : Int32) else (1 : Int32))), .val (.int (if (0 : Int64) < (1 : Int64) then (0 : Int32) else (1 : Int32))), .unset] [(.int (if (0 : Int64) < (0 : Int64) then (0 : Int32) else (1 : Int32)))])) (fun t k => st12.trans k) ?_
  refine own_by (B := T12.setTop (mkF m 127 #[.val (.long j0), .second, .val (.long j1), .second, .val (.int i2), .val (.long y), .second, .val (.ref b), .val (.int (if j0 < y then (0 : Int32) else (1 : Int32))), .val (.int u9), .val (.long ul), .second, .val (.int (if ul < ul then (0 : Int32) else (1 : Int32))), .val (.int (if (0 : Int64) < (1 : Int64) then (0 : Int32) else (1 : Int32))), .val (.int (if (0 : Int64) < (0 : Int64) then (0 : Int32) else (1 : Int32)))] [])) (fun t k => XS.istore X12.here hx rfl (hb hby at_125) rfl (l' := #[.val (.long j0), .second, .val (.long j1), .second, .val (.int i2), .val (.long y), .second, .val (.ref b), .val (.int (if j0 < y then (0 : Int32) else (1 : Int32))), .val (.int u9), .val (.long ul), .second, .val (.int (if ul < ul then (0 : Int32) else (1 : Int32))), .val (.int (if (0 : Int64) < (1 : Int64) then (0 : Int32) else (1 : Int32))), .val (.int (if (0 : Int64) < (0 : Int64) then (0 : Int32) else (1 : Int32)))]) rfl k) ?_
  refine own_by (B := T12.setTop (mkF m 129 #[.val (.long j0), .second, .val (.long j1), .second, .val (.int i2), .val (.long y), .second, .val (.ref b), .val (.int (if j0 < y then (0 : Int32) else (1 : Int32))), .val (.int u9), .val (.long ul), .second, .val (.int (if ul < ul then (0 : Int32) else (1 : Int32))), .val (.int (if (0 : Int64) < (1 : Int64) then (0 : Int32) else (1 : Int32))), .val (.int (if (0 : Int64) < (0 : Int64) then (0 : Int32) else (1 : Int32)))] [(.int (if ul < ul then (0 : Int32) else (1 : Int32)))])) (fun t k => XS.iload X12.here hx rfl (hb hby at_127) rfl k) ?_
  have hc13 : ¬ ((if ul < ul then (0 : Int32) else (1 : Int32)) = (0 : Int32)) := by rw [if_neg (fun q => Int64.lt_irrefl q : ¬ ul < ul)]; decide
  refine own_by (B := T12.setTop (mkF m 132 #[.val (.long j0), .second, .val (.long j1), .second, .val (.int i2), .val (.long y), .second, .val (.ref b), .val (.int (if j0 < y then (0 : Int32) else (1 : Int32))), .val (.int u9), .val (.long ul), .second, .val (.int (if ul < ul then (0 : Int32) else (1 : Int32))), .val (.int (if (0 : Int64) < (1 : Int64) then (0 : Int32) else (1 : Int32))), .val (.int (if (0 : Int64) < (0 : Int64) then (0 : Int32) else (1 : Int32)))] [])) (fun t k => XS.ifNo X12.here hx rfl (hb hby at_129) rfl ((if0 _ _).trans (feq hc13).1) k) ?_
  refine own_by (B := T12.setTop (mkF m 134 #[.val (.long j0), .second, .val (.long j1), .second, .val (.int i2), .val (.long y), .second, .val (.ref b), .val (.int (if j0 < y then (0 : Int32) else (1 : Int32))), .val (.int u9), .val (.long ul), .second, .val (.int (if ul < ul then (0 : Int32) else (1 : Int32))), .val (.int (if (0 : Int64) < (1 : Int64) then (0 : Int32) else (1 : Int32))), .val (.int (if (0 : Int64) < (0 : Int64) then (0 : Int32) else (1 : Int32)))] [(.int (if (0 : Int64) < (1 : Int64) then (0 : Int32) else (1 : Int32)))])) (fun t k => XS.iload X12.here hx rfl (hb hby at_132) rfl k) ?_
  have hc14 : (if (0 : Int64) < (1 : Int64) then (0 : Int32) else (1 : Int32)) = (0 : Int32) := by decide
  refine own_by (B := T12.setTop (mkF m 137 #[.val (.long j0), .second, .val (.long j1), .second, .val (.int i2), .val (.long y), .second, .val (.ref b), .val (.int (if j0 < y then (0 : Int32) else (1 : Int32))), .val (.int u9), .val (.long ul), .second, .val (.int (if ul < ul then (0 : Int32) else (1 : Int32))), .val (.int (if (0 : Int64) < (1 : Int64) then (0 : Int32) else (1 : Int32))), .val (.int (if (0 : Int64) < (0 : Int64) then (0 : Int32) else (1 : Int32)))] [])) (fun t k => XS.ifNo X12.here hx rfl (hb hby at_134) rfl ((if0 _ _).trans (teq hc14).2) k) ?_
  refine own_by (B := T12.setTop (mkF m 139 #[.val (.long j0), .second, .val (.long j1), .second, .val (.int i2), .val (.long y), .second, .val (.ref b), .val (.int (if j0 < y then (0 : Int32) else (1 : Int32))), .val (.int u9), .val (.long ul), .second, .val (.int (if ul < ul then (0 : Int32) else (1 : Int32))), .val (.int (if (0 : Int64) < (1 : Int64) then (0 : Int32) else (1 : Int32))), .val (.int (if (0 : Int64) < (0 : Int64) then (0 : Int32) else (1 : Int32)))] [(.int (if (0 : Int64) < (0 : Int64) then (0 : Int32) else (1 : Int32)))])) (fun t k => XS.iload X12.here hx rfl (hb hby at_137) rfl k) ?_
  have hc15 : ¬ ((if (0 : Int64) < (0 : Int64) then (0 : Int32) else (1 : Int32)) = (0 : Int32)) := by decide
  refine own_by (B := T12.setTop (mkF m 142 #[.val (.long j0), .second, .val (.long j1), .second, .val (.int i2), .val (.long y), .second, .val (.ref b), .val (.int (if j0 < y then (0 : Int32) else (1 : Int32))), .val (.int u9), .val (.long ul), .second, .val (.int (if ul < ul then (0 : Int32) else (1 : Int32))), .val (.int (if (0 : Int64) < (1 : Int64) then (0 : Int32) else (1 : Int32))), .val (.int (if (0 : Int64) < (0 : Int64) then (0 : Int32) else (1 : Int32)))] [])) (fun t k => XS.ifNo X12.here hx rfl (hb hby at_139) rfl ((if0 _ _).trans (feq hc15).1) k) ?_
  refine own_by (B := T12.setTop (mkF m 143 #[.val (.long j0), .second, .val (.long j1), .second, .val (.int i2), .val (.long y), .second, .val (.ref b), .val (.int (if j0 < y then (0 : Int32) else (1 : Int32))), .val (.int u9), .val (.long ul), .second, .val (.int (if ul < ul then (0 : Int32) else (1 : Int32))), .val (.int (if (0 : Int64) < (1 : Int64) then (0 : Int32) else (1 : Int32))), .val (.int (if (0 : Int64) < (0 : Int64) then (0 : Int32) else (1 : Int32)))] [(.int (1 : Int32))])) (fun t k => XS.iconst X12.here hx rfl (hb hby at_142) k) ?_
  refine own_by (B := T12.setTop (mkF m 147 #[.val (.long j0), .second, .val (.long j1), .second, .val (.int i2), .val (.long y), .second, .val (.ref b), .val (.int (if j0 < y then (0 : Int32) else (1 : Int32))), .val (.int u9), .val (.long ul), .second, .val (.int (if ul < ul then (0 : Int32) else (1 : Int32))), .val (.int (if (0 : Int64) < (1 : Int64) then (0 : Int32) else (1 : Int32))), .val (.int (if (0 : Int64) < (0 : Int64) then (0 : Int32) else (1 : Int32)))] [(.int (1 : Int32))])) (fun t k => XS.goto X12.here hx rfl (pc0 := 143) (pc' := 147) rfl (hb hby at_143) (by decide) (by decide) k) ?_
  exact own_retN (t := .boolean) (by simp) X12 hx hlk hret (z' := (1 : Int32)) (by decide) (hb hby at_147) ⟨rfl, NF⟩ (by decide) (by decide)
theorem pn_0 : plainName "com/example/arcwright/arcwright/propagation/MemoryBudgetTakePinLaw" = true := by first | (simp [plainName, overriddenIn]; done) | decide +kernel
theorem ef_0 (m : MethodId) (j0 : Int64) (j1 : Int64) (i2 : Int32) : entryFrame m #[(.long j0), (.long j1), (.int i2)] maxLocals = mkF m 0 #[.val (.long j0), .second, .val (.long j1), .second, .val (.int i2), .unset, .unset, .unset, .unset, .unset, .unset, .unset, .unset, .unset, .unset] [] := by first | (simp [entryFrame, mkF, argsToLocals, Value.category, maxLocals]; done) | rfl
set_option maxRecDepth 65536 in
set_option maxHeartbeats 40000000 in
theorem rm0 (l : Launch) (Z : State) (a0 : Array Value) (hw : ∀ d ∈ tables_1, d.before a0 Z = true) (ws : List Jvm.Cond) (j0 : Int64) (j1 : Int64) (i2 : Int32)  (h0 : Heap) (n0 : Nat) (Z0 : n0 ≤ h0.size)  :
    MetFree l x (head1 (Jvm.Cond.code x code maxLocals ret :: ws) room_1) (fun aa U => aa = #[(.long j0), (.long j1), (.int i2)] ∧ Z.Warmed39 U.vm ∧ U.heap = h0) (fun _ _ _ _ _ => True) (fun _ U o U' => ∃ v L, o = .returned v ∧ own_Q0 n0 v U'.heap L ∧ FrameEnd U o U' L room_1.cells room_1.slots) := by
  refine own_met (plainFor_of_name pn_0) fun p e s m below meth c T0 X0 hx hby hml hret hlk hZ hown hnm e0 => ?_
  refine own_cast (ef_0 m j0 j1 i2) ?_
  have NF := Fr.nil n0
  have Zs := Z0
  refine own_by (B := T0.setTop (mkF m 1 #[.val (.long j0), .second, .val (.long j1), .second, .val (.int i2), .unset, .unset, .unset, .unset, .unset, .unset, .unset, .unset, .unset, .unset] [(.long j1)])) (fun t k => XS.lloadN X0.here hx rfl (hb hby at_0) rfl k) ?_
  refine own_by (B := T0.setTop (mkF m 4 #[.val (.long j0), .second, .val (.long j1), .second, .val (.int i2), .unset, .unset, .unset, .unset, .unset, .unset, .unset, .unset, .unset, .unset] [(.long (9223372036854775807 : Int64)), (.long j1)])) (fun t k => X0.ldc2Long hx hown (mvT hZ (hw _ (List.mem_of_getElem? (i := 0) rfl))) (g := (mkF m 1 #[.val (.long j0), .second, .val (.long j1), .second, .val (.int i2), .unset, .unset, .unset, .unset, .unset, .unset, .unset, .unset, .unset, .unset] [(.long j1)])) rfl (hb hby at_1) _ k) ?_
  refine own_by (B := T0.setTop (mkF m 5 #[.val (.long j0), .second, .val (.long j1), .second, .val (.int i2), .unset, .unset, .unset, .unset, .unset, .unset, .unset, .unset, .unset, .unset] [(.long (j1 &&& (9223372036854775807 : Int64)))])) (fun t k => XS.land X0.here hx rfl (hb hby at_4) rfl k) ?_
  refine own_by (B := T0.setTop (mkF m 7 #[.val (.long j0), .second, .val (.long j1), .second, .val (.int i2), .val (.long (j1 &&& (9223372036854775807 : Int64))), .second, .unset, .unset, .unset, .unset, .unset, .unset, .unset, .unset] [])) (fun t k => XS.lstore X0.here hx rfl (hb hby at_5) rfl (l' := #[.val (.long j0), .second, .val (.long j1), .second, .val (.int i2), .val (.long (j1 &&& (9223372036854775807 : Int64))), .second, .unset, .unset, .unset, .unset, .unset, .unset, .unset, .unset]) rfl k) ?_
  refine own_by (B := T0.setTop (mkF m 9 #[.val (.long j0), .second, .val (.long j1), .second, .val (.int i2), .val (.long (j1 &&& (9223372036854775807 : Int64))), .second, .unset, .unset, .unset, .unset, .unset, .unset, .unset, .unset] [(.int i2)])) (fun t k => XS.iload X0.here hx rfl (hb hby at_7) rfl k) ?_
  refine own_by (B := T0.setTop (mkF m 10 #[.val (.long j0), .second, .val (.long j1), .second, .val (.int i2), .val (.long (j1 &&& (9223372036854775807 : Int64))), .second, .unset, .unset, .unset, .unset, .unset, .unset, .unset, .unset] [(.int (1 : Int32)), (.int i2)])) (fun t k => XS.iconst X0.here hx rfl (hb hby at_9) k) ?_
  refine own_by (B := T0.setTop (mkF m 11 #[.val (.long j0), .second, .val (.long j1), .second, .val (.int i2), .val (.long (j1 &&& (9223372036854775807 : Int64))), .second, .unset, .unset, .unset, .unset, .unset, .unset, .unset, .unset] [(.int (i2 &&& (1 : Int32)))])) (fun t k => XS.iand X0.here hx rfl (hb hby at_10) rfl k) ?_
  by_cases hc1 : (i2 &&& (1 : Int32)) = (0 : Int32)
  ·
    refine own_by (B := T0.setTop (mkF m 45 #[.val (.long j0), .second, .val (.long j1), .second, .val (.int i2), .val (.long (j1 &&& (9223372036854775807 : Int64))), .second, .unset, .unset, .unset, .unset, .unset, .unset, .unset, .unset] [])) (fun t k => XS.ifYes X0.here hx rfl (pc0 := 11) (pc' := 45) rfl (hb hby at_11) rfl ((if0 _ _).trans (teq hc1).1) (by decide) (by decide) k) ?_
    obtain ⟨T2, h2, X2, e2, E2, A2, D2, -, st2⟩ := newO X0 hx hZ hown (hw _ (List.mem_of_getElem? (i := 1) rfl)) (hw _ (List.mem_of_getElem? (i := 2) rfl)) (hw _ (List.mem_of_getElem? (i := 3) rfl)) e0 (g := (mkF m 45 #[.val (.long j0), .second, .val (.long j1), .second, .val (.int i2), .val (.long (j1 &&& (9223372036854775807 : Int64))), .second, .unset, .unset, .unset, .unset, .unset, .unset, .unset, .unset] [])) rfl (hb hby at_45) (by decide) (by decide)
    obtain ⟨b2, g2⟩ : ∃ z, z = h0.size := ⟨_, rfl⟩
    rw [← g2] at A2 D2 st2
    have g_b2 : n0 ≤ b2 := Nat.le_trans Zs (Nat.le_of_eq g2.symm)
    replace Zs : n0 ≤ h2.size := Nat.le_trans Zs E2.1
    have E_b2 : Exa Z h2 b2 "com/example/arcwright/arcwright/propagation/MemoryBudget" := A2
    have F_left_b2 : Fld Z h2 b2 "com/example/arcwright/arcwright/propagation/MemoryBudget" "left" "J" (.long (0 : Int64)) := D2 (Or.inl (hw _ (List.mem_of_getElem? (i := 11) rfl))) (ty := .long) (by decide)
    refine own_by (B := T2.setTop (mkF m 48 #[.val (.long j0), .second, .val (.long j1), .second, .val (.int i2), .val (.long (j1 &&& (9223372036854775807 : Int64))), .second, .unset, .unset, .unset, .unset, .unset, .unset, .unset, .unset] [(.ref b2)])) (fun t k => st2 _ k) ?_
    refine own_by (B := T2.setTop (mkF m 49 #[.val (.long j0), .second, .val (.long j1), .second, .val (.int i2), .val (.long (j1 &&& (9223372036854775807 : Int64))), .second, .unset, .unset, .unset, .unset, .unset, .unset, .unset, .unset] [(.ref b2), (.ref b2)])) (fun t k => XS.dup X2.here hx rfl (hb hby at_48) rfl rfl k) ?_
    refine own_by (B := T2.setTop (mkF m 50 #[.val (.long j0), .second, .val (.long j1), .second, .val (.int i2), .val (.long (j1 &&& (9223372036854775807 : Int64))), .second, .unset, .unset, .unset, .unset, .unset, .unset, .unset, .unset] [(.long j0), (.ref b2), (.ref b2)])) (fun t k => XS.lloadN X2.here hx rfl (hb hby at_49) rfl k) ?_
    obtain ⟨v3, _, ⟨T3, L3, c3, n3⟩, -, X3, ⟨Lc3, hQ3, l3, y3, z3⟩, st3⟩ := X2.specialBack hx (y := (⟨"com/example/arcwright/arcwright/propagation/MemoryBudget", "<init>", "(J)V"⟩ : MethodName)) rfl hown (mvT hZ (hw _ (List.mem_of_getElem? (i := 4) rfl))) (mvT hZ (hw _ (List.mem_of_getElem? (i := 5) rfl))) (mvT hZ (hw _ (List.mem_of_getElem? (i := 6) rfl))) (by decide) (backOf (W := 1) (rm1 l Z a0 hw [] b2 j0  h2 n0 Zs F_left_b2 E_b2 g_b2  ) hZ (hw _ (List.mem_of_getElem? (i := 6) rfl)) (hw _ (List.mem_of_getElem? (i := 3) rfl)) (by decide) (by decide)) (g := (mkF m 50 #[.val (.long j0), .second, .val (.long j1), .second, .val (.int i2), .val (.long (j1 &&& (9223372036854775807 : Int64))), .second, .unset, .unset, .unset, .unset, .unset, .unset, .unset, .unset] [(.long j0), (.ref b2), (.ref b2)])) rfl (by rw [hml]; rfl) (Steps.refl _) (a := b2) (argsL := [(.long j0)]) (rest := [(.ref b2)]) (lenOf pd_1 rfl) rfl (by show 2 * 0 + _ ≤ _; exact Nat.le_of_eq rfl) (hb hby at_50) (fun _ _ => ⟨rfl, e2, (by decide : 1 + 0 ≤ _), (by decide : 1 + 0 ≤ _)⟩)
    dsimp only [Pt.U, Pt.locs, Pt.cells, Pt.slots] at X3 l3 y3 z3 st3 hQ3
    subst l3 y3 z3
    obtain ⟨rfl, Nq3, Kq3, o0_3, o1_3⟩ := hQ3
    have NF := Fr.app NF Nq3
    replace E_b2 : Exa Z T3.heap b2 "com/example/arcwright/arcwright/propagation/MemoryBudget" := E_b2.keep Kq3
    clear F_left_b2
    replace Zs : n0 ≤ T3.heap.size := Nat.le_trans Zs Kq3.1
    have F_left_b2 : Fld Z T3.heap b2 "com/example/arcwright/arcwright/propagation/MemoryBudget" "left" "J" (.long j0) := o0_3
    have E_b2 : Exa Z T3.heap b2 "com/example/arcwright/arcwright/propagation/MemoryBudget" := o1_3
    refine own_by (B := T3.setTop (mkF m 53 #[.val (.long j0), .second, .val (.long j1), .second, .val (.int i2), .val (.long (j1 &&& (9223372036854775807 : Int64))), .second, .unset, .unset, .unset, .unset, .unset, .unset, .unset, .unset] [(.ref b2)])) (fun t k => st3.trans k) ?_
    refine own_by (B := T3.setTop (mkF m 55 #[.val (.long j0), .second, .val (.long j1), .second, .val (.int i2), .val (.long (j1 &&& (9223372036854775807 : Int64))), .second, .val (.ref b2), .unset, .unset, .unset, .unset, .unset, .unset, .unset] [])) (fun t k => XS.astore X3.here hx rfl (hb hby at_53) rfl rfl (l' := #[.val (.long j0), .second, .val (.long j1), .second, .val (.int i2), .val (.long (j1 &&& (9223372036854775807 : Int64))), .second, .val (.ref b2), .unset, .unset, .unset, .unset, .unset, .unset, .unset]) rfl k) ?_
    exact lw55 l Z a0 hw T3.heap n0 Zs j0 j1 i2 (j1 &&& (9223372036854775807 : Int64)) b2 F_left_b2 E_b2 g_b2  X3 NF hx hby hml hret hlk hZ hown hnm rfl
  ·
    refine own_by (B := T0.setTop (mkF m 14 #[.val (.long j0), .second, .val (.long j1), .second, .val (.int i2), .val (.long (j1 &&& (9223372036854775807 : Int64))), .second, .unset, .unset, .unset, .unset, .unset, .unset, .unset, .unset] [])) (fun t k => XS.ifNo X0.here hx rfl (hb hby at_11) rfl ((if0 _ _).trans (feq hc1).1) k) ?_
    refine own_by (B := T0.setTop (mkF m 15 #[.val (.long j0), .second, .val (.long j1), .second, .val (.int i2), .val (.long (j1 &&& (9223372036854775807 : Int64))), .second, .unset, .unset, .unset, .unset, .unset, .unset, .unset, .unset] [(.long j0)])) (fun t k => XS.lloadN X0.here hx rfl (hb hby at_14) rfl k) ?_
    refine own_by (B := T0.setTop (mkF m 16 #[.val (.long j0), .second, .val (.long j1), .second, .val (.int i2), .val (.long (j1 &&& (9223372036854775807 : Int64))), .second, .unset, .unset, .unset, .unset, .unset, .unset, .unset, .unset] [(.long (1 : Int64)), (.long j0)])) (fun t k => XS.lconst X0.here hx rfl (hb hby at_15) k) ?_
    refine own_by (B := T0.setTop (mkF m 17 #[.val (.long j0), .second, .val (.long j1), .second, .val (.int i2), .val (.long (j1 &&& (9223372036854775807 : Int64))), .second, .unset, .unset, .unset, .unset, .unset, .unset, .unset, .unset] [(.int (lcmpW j0 (1 : Int64)))])) (fun t k => XS.lcmp X0.here hx rfl (hb hby at_16) rfl k) ?_
    by_cases hc4 : j0 < (1 : Int64)
    ·
      refine own_by (B := T0.setTop (mkF m 45 #[.val (.long j0), .second, .val (.long j1), .second, .val (.int i2), .val (.long (j1 &&& (9223372036854775807 : Int64))), .second, .unset, .unset, .unset, .unset, .unset, .unset, .unset, .unset] [])) (fun t k => XS.ifYes X0.here hx rfl (pc0 := 17) (pc' := 45) rfl (hb hby at_17) rfl ((if0 _ _).trans (tlt ((lw_lt _ _).mpr hc4)).1) (by decide) (by decide) k) ?_
      obtain ⟨T5, h5, X5, e5, E5, A5, D5, -, st5⟩ := newO X0 hx hZ hown (hw _ (List.mem_of_getElem? (i := 1) rfl)) (hw _ (List.mem_of_getElem? (i := 2) rfl)) (hw _ (List.mem_of_getElem? (i := 3) rfl)) e0 (g := (mkF m 45 #[.val (.long j0), .second, .val (.long j1), .second, .val (.int i2), .val (.long (j1 &&& (9223372036854775807 : Int64))), .second, .unset, .unset, .unset, .unset, .unset, .unset, .unset, .unset] [])) rfl (hb hby at_45) (by decide) (by decide)
      obtain ⟨b5, g5⟩ : ∃ z, z = h0.size := ⟨_, rfl⟩
      rw [← g5] at A5 D5 st5
      have g_b5 : n0 ≤ b5 := Nat.le_trans Zs (Nat.le_of_eq g5.symm)
      replace Zs : n0 ≤ h5.size := Nat.le_trans Zs E5.1
      have E_b5 : Exa Z h5 b5 "com/example/arcwright/arcwright/propagation/MemoryBudget" := A5
      have F_left_b5 : Fld Z h5 b5 "com/example/arcwright/arcwright/propagation/MemoryBudget" "left" "J" (.long (0 : Int64)) := D5 (Or.inl (hw _ (List.mem_of_getElem? (i := 11) rfl))) (ty := .long) (by decide)
      refine own_by (B := T5.setTop (mkF m 48 #[.val (.long j0), .second, .val (.long j1), .second, .val (.int i2), .val (.long (j1 &&& (9223372036854775807 : Int64))), .second, .unset, .unset, .unset, .unset, .unset, .unset, .unset, .unset] [(.ref b5)])) (fun t k => st5 _ k) ?_
      refine own_by (B := T5.setTop (mkF m 49 #[.val (.long j0), .second, .val (.long j1), .second, .val (.int i2), .val (.long (j1 &&& (9223372036854775807 : Int64))), .second, .unset, .unset, .unset, .unset, .unset, .unset, .unset, .unset] [(.ref b5), (.ref b5)])) (fun t k => XS.dup X5.here hx rfl (hb hby at_48) rfl rfl k) ?_
      refine own_by (B := T5.setTop (mkF m 50 #[.val (.long j0), .second, .val (.long j1), .second, .val (.int i2), .val (.long (j1 &&& (9223372036854775807 : Int64))), .second, .unset, .unset, .unset, .unset, .unset, .unset, .unset, .unset] [(.long j0), (.ref b5), (.ref b5)])) (fun t k => XS.lloadN X5.here hx rfl (hb hby at_49) rfl k) ?_
      obtain ⟨v6, _, ⟨T6, L6, c6, n6⟩, -, X6, ⟨Lc6, hQ6, l6, y6, z6⟩, st6⟩ := X5.specialBack hx (y := (⟨"com/example/arcwright/arcwright/propagation/MemoryBudget", "<init>", "(J)V"⟩ : MethodName)) rfl hown (mvT hZ (hw _ (List.mem_of_getElem? (i := 4) rfl))) (mvT hZ (hw _ (List.mem_of_getElem? (i := 5) rfl))) (mvT hZ (hw _ (List.mem_of_getElem? (i := 6) rfl))) (by decide) (backOf (W := 1) (rm1 l Z a0 hw [] b5 j0  h5 n0 Zs F_left_b5 E_b5 g_b5  ) hZ (hw _ (List.mem_of_getElem? (i := 6) rfl)) (hw _ (List.mem_of_getElem? (i := 3) rfl)) (by decide) (by decide)) (g := (mkF m 50 #[.val (.long j0), .second, .val (.long j1), .second, .val (.int i2), .val (.long (j1 &&& (9223372036854775807 : Int64))), .second, .unset, .unset, .unset, .unset, .unset, .unset, .unset, .unset] [(.long j0), (.ref b5), (.ref b5)])) rfl (by rw [hml]; rfl) (Steps.refl _) (a := b5) (argsL := [(.long j0)]) (rest := [(.ref b5)]) (lenOf pd_1 rfl) rfl (by show 2 * 0 + _ ≤ _; exact Nat.le_of_eq rfl) (hb hby at_50) (fun _ _ => ⟨rfl, e5, (by decide : 1 + 0 ≤ _), (by decide : 1 + 0 ≤ _)⟩)
      dsimp only [Pt.U, Pt.locs, Pt.cells, Pt.slots] at X6 l6 y6 z6 st6 hQ6
      subst l6 y6 z6
      obtain ⟨rfl, Nq6, Kq6, o0_6, o1_6⟩ := hQ6
      have NF := Fr.app NF Nq6
      replace E_b5 : Exa Z T6.heap b5 "com/example/arcwright/arcwright/propagation/MemoryBudget" := E_b5.keep Kq6
      clear F_left_b5
      replace Zs : n0 ≤ T6.heap.size := Nat.le_trans Zs Kq6.1
      have F_left_b5 : Fld Z T6.heap b5 "com/example/arcwright/arcwright/propagation/MemoryBudget" "left" "J" (.long j0) := o0_6
      have E_b5 : Exa Z T6.heap b5 "com/example/arcwright/arcwright/propagation/MemoryBudget" := o1_6
      refine own_by (B := T6.setTop (mkF m 53 #[.val (.long j0), .second, .val (.long j1), .second, .val (.int i2), .val (.long (j1 &&& (9223372036854775807 : Int64))), .second, .unset, .unset, .unset, .unset, .unset, .unset, .unset, .unset] [(.ref b5)])) (fun t k => st6.trans k) ?_
      refine own_by (B := T6.setTop (mkF m 55 #[.val (.long j0), .second, .val (.long j1), .second, .val (.int i2), .val (.long (j1 &&& (9223372036854775807 : Int64))), .second, .val (.ref b5), .unset, .unset, .unset, .unset, .unset, .unset, .unset] [])) (fun t k => XS.astore X6.here hx rfl (hb hby at_53) rfl rfl (l' := #[.val (.long j0), .second, .val (.long j1), .second, .val (.int i2), .val (.long (j1 &&& (9223372036854775807 : Int64))), .second, .val (.ref b5), .unset, .unset, .unset, .unset, .unset, .unset, .unset]) rfl k) ?_
      exact lw55 l Z a0 hw T6.heap n0 Zs j0 j1 i2 (j1 &&& (9223372036854775807 : Int64)) b5 F_left_b5 E_b5 g_b5  X6 NF hx hby hml hret hlk hZ hown hnm rfl
    ·
      refine own_by (B := T0.setTop (mkF m 20 #[.val (.long j0), .second, .val (.long j1), .second, .val (.int i2), .val (.long (j1 &&& (9223372036854775807 : Int64))), .second, .unset, .unset, .unset, .unset, .unset, .unset, .unset, .unset] [])) (fun t k => XS.ifNo X0.here hx rfl (hb hby at_17) rfl ((if0 _ _).trans (flt (fun q => hc4 ((lw_lt _ _).mp q))).1) k) ?_
      refine own_by (B := T0.setTop (mkF m 21 #[.val (.long j0), .second, .val (.long j1), .second, .val (.int i2), .val (.long (j1 &&& (9223372036854775807 : Int64))), .second, .unset, .unset, .unset, .unset, .unset, .unset, .unset, .unset] [(.long j0)])) (fun t k => XS.lloadN X0.here hx rfl (hb hby at_20) rfl k) ?_
      refine own_by (B := T0.setTop (mkF m 24 #[.val (.long j0), .second, .val (.long j1), .second, .val (.int i2), .val (.long (j1 &&& (9223372036854775807 : Int64))), .second, .unset, .unset, .unset, .unset, .unset, .unset, .unset, .unset] [(.long (9223372036854775807 : Int64)), (.long j0)])) (fun t k => X0.ldc2Long hx hown (mvT hZ (hw _ (List.mem_of_getElem? (i := 0) rfl))) (g := (mkF m 21 #[.val (.long j0), .second, .val (.long j1), .second, .val (.int i2), .val (.long (j1 &&& (9223372036854775807 : Int64))), .second, .unset, .unset, .unset, .unset, .unset, .unset, .unset, .unset] [(.long j0)])) rfl (hb hby at_21) _ k) ?_
      refine own_by (B := T0.setTop (mkF m 25 #[.val (.long j0), .second, .val (.long j1), .second, .val (.int i2), .val (.long (j1 &&& (9223372036854775807 : Int64))), .second, .unset, .unset, .unset, .unset, .unset, .unset, .unset, .unset] [(.int (lcmpW j0 (9223372036854775807 : Int64)))])) (fun t k => XS.lcmp X0.here hx rfl (hb hby at_24) rfl k) ?_
      by_cases hc7 : j0 < (9223372036854775807 : Int64)
      ·
        refine own_by (B := T0.setTop (mkF m 28 #[.val (.long j0), .second, .val (.long j1), .second, .val (.int i2), .val (.long (j1 &&& (9223372036854775807 : Int64))), .second, .unset, .unset, .unset, .unset, .unset, .unset, .unset, .unset] [])) (fun t k => XS.ifNo X0.here hx rfl (hb hby at_25) rfl ((if0 _ _).trans (tlt ((lw_lt _ _).mpr hc7)).2.1) k) ?_
        refine own_by (B := T0.setTop (mkF m 30 #[.val (.long j0), .second, .val (.long j1), .second, .val (.int i2), .val (.long (j1 &&& (9223372036854775807 : Int64))), .second, .unset, .unset, .unset, .unset, .unset, .unset, .unset, .unset] [(.int i2)])) (fun t k => XS.iload X0.here hx rfl (hb hby at_28) rfl k) ?_
        refine own_by (B := T0.setTop (mkF m 31 #[.val (.long j0), .second, .val (.long j1), .second, .val (.int i2), .val (.long (j1 &&& (9223372036854775807 : Int64))), .second, .unset, .unset, .unset, .unset, .unset, .unset, .unset, .unset] [(.int (1 : Int32)), (.int i2)])) (fun t k => XS.iconst X0.here hx rfl (hb hby at_30) k) ?_
        refine own_by (B := T0.setTop (mkF m 32 #[.val (.long j0), .second, .val (.long j1), .second, .val (.int i2), .val (.long (j1 &&& (9223372036854775807 : Int64))), .second, .unset, .unset, .unset, .unset, .unset, .unset, .unset, .unset] [(.int ((i2.toUInt32 >>> ((1 : Int32) &&& 31).toUInt32).toInt32))])) (fun t k => XS.iushr X0.here hx rfl (hb hby at_31) rfl k) ?_
        refine own_by (B := T0.setTop (mkF m 33 #[.val (.long j0), .second, .val (.long j1), .second, .val (.int i2), .val (.long (j1 &&& (9223372036854775807 : Int64))), .second, .unset, .unset, .unset, .unset, .unset, .unset, .unset, .unset] [(.int (3 : Int32)), (.int ((i2.toUInt32 >>> ((1 : Int32) &&& 31).toUInt32).toInt32))])) (fun t k => XS.iconst X0.here hx rfl (hb hby at_32) k) ?_
        refine own_by (B := T0.setTop (mkF m 34 #[.val (.long j0), .second, .val (.long j1), .second, .val (.int i2), .val (.long (j1 &&& (9223372036854775807 : Int64))), .second, .unset, .unset, .unset, .unset, .unset, .unset, .unset, .unset] [(.int (((i2.toUInt32 >>> ((1 : Int32) &&& 31).toUInt32).toInt32) % (3 : Int32)))])) (fun t k => iremM X0 hx rfl (hb hby at_33) rfl (by decide) k) ?_
        refine own_by (B := T0.setTop (mkF m 35 #[.val (.long j0), .second, .val (.long j1), .second, .val (.int i2), .val (.long (j1 &&& (9223372036854775807 : Int64))), .second, .unset, .unset, .unset, .unset, .unset, .unset, .unset, .unset] [(.long ((((i2.toUInt32 >>> ((1 : Int32) &&& 31).toUInt32).toInt32) % (3 : Int32)).toInt64))])) (fun t k => XS.i2l X0.here hx rfl (hb hby at_34) rfl k) ?_
        refine own_by (B := T0.setTop (mkF m 36 #[.val (.long j0), .second, .val (.long j1), .second, .val (.int i2), .val (.long (j1 &&& (9223372036854775807 : Int64))), .second, .unset, .unset, .unset, .unset, .unset, .unset, .unset, .unset] [(.long (1 : Int64)), (.long ((((i2.toUInt32 >>> ((1 : Int32) &&& 31).toUInt32).toInt32) % (3 : Int32)).toInt64))])) (fun t k => XS.lconst X0.here hx rfl (hb hby at_35) k) ?_
        refine own_by (B := T0.setTop (mkF m 37 #[.val (.long j0), .second, .val (.long j1), .second, .val (.int i2), .val (.long (j1 &&& (9223372036854775807 : Int64))), .second, .unset, .unset, .unset, .unset, .unset, .unset, .unset, .unset] [(.long (((((i2.toUInt32 >>> ((1 : Int32) &&& 31).toUInt32).toInt32) % (3 : Int32)).toInt64) - (1 : Int64)))])) (fun t k => XS.lsub X0.here hx rfl (hb hby at_36) rfl k) ?_
        refine own_by (B := T0.setTop (mkF m 39 #[.val (.long j0), .second, .val (.long j1), .second, .val (.int i2), .val (.long (j1 &&& (9223372036854775807 : Int64))), .second, .val (.long (((((i2.toUInt32 >>> ((1 : Int32) &&& 31).toUInt32).toInt32) % (3 : Int32)).toInt64) - (1 : Int64))), .second, .unset, .unset, .unset, .unset, .unset, .unset] [])) (fun t k => XS.lstore X0.here hx rfl (hb hby at_37) rfl (l' := #[.val (.long j0), .second, .val (.long j1), .second, .val (.int i2), .val (.long (j1 &&& (9223372036854775807 : Int64))), .second, .val (.long (((((i2.toUInt32 >>> ((1 : Int32) &&& 31).toUInt32).toInt32) % (3 : Int32)).toInt64) - (1 : Int64))), .second, .unset, .unset, .unset, .unset, .unset, .unset]) rfl k) ?_
        refine own_by (B := T0.setTop (mkF m 40 #[.val (.long j0), .second, .val (.long j1), .second, .val (.int i2), .val (.long (j1 &&& (9223372036854775807 : Int64))), .second, .val (.long (((((i2.toUInt32 >>> ((1 : Int32) &&& 31).toUInt32).toInt32) % (3 : Int32)).toInt64) - (1 : Int64))), .second, .unset, .unset, .unset, .unset, .unset, .unset] [(.long j0)])) (fun t k => XS.lloadN X0.here hx rfl (hb hby at_39) rfl k) ?_
        refine own_by (B := T0.setTop (mkF m 42 #[.val (.long j0), .second, .val (.long j1), .second, .val (.int i2), .val (.long (j1 &&& (9223372036854775807 : Int64))), .second, .val (.long (((((i2.toUInt32 >>> ((1 : Int32) &&& 31).toUInt32).toInt32) % (3 : Int32)).toInt64) - (1 : Int64))), .second, .unset, .unset, .unset, .unset, .unset, .unset] [(.long (((((i2.toUInt32 >>> ((1 : Int32) &&& 31).toUInt32).toInt32) % (3 : Int32)).toInt64) - (1 : Int64))), (.long j0)])) (fun t k => XS.lload X0.here hx rfl (hb hby at_40) rfl k) ?_
        refine own_by (B := T0.setTop (mkF m 43 #[.val (.long j0), .second, .val (.long j1), .second, .val (.int i2), .val (.long (j1 &&& (9223372036854775807 : Int64))), .second, .val (.long (((((i2.toUInt32 >>> ((1 : Int32) &&& 31).toUInt32).toInt32) % (3 : Int32)).toInt64) - (1 : Int64))), .second, .unset, .unset, .unset, .unset, .unset, .unset] [(.long (j0 + (((((i2.toUInt32 >>> ((1 : Int32) &&& 31).toUInt32).toInt32) % (3 : Int32)).toInt64) - (1 : Int64))))])) (fun t k => XS.ladd X0.here hx rfl (hb hby at_42) rfl k) ?_
        refine own_by (B := T0.setTop (mkF m 45 #[.val (.long j0), .second, .val (.long j1), .second, .val (.int i2), .val (.long (j0 + (((((i2.toUInt32 >>> ((1 : Int32) &&& 31).toUInt32).toInt32) % (3 : Int32)).toInt64) - (1 : Int64)))), .second, .val (.long (((((i2.toUInt32 >>> ((1 : Int32) &&& 31).toUInt32).toInt32) % (3 : Int32)).toInt64) - (1 : Int64))), .second, .unset, .unset, .unset, .unset, .unset, .unset] [])) (fun t k => XS.lstore X0.here hx rfl (hb hby at_43) rfl (l' := #[.val (.long j0), .second, .val (.long j1), .second, .val (.int i2), .val (.long (j0 + (((((i2.toUInt32 >>> ((1 : Int32) &&& 31).toUInt32).toInt32) % (3 : Int32)).toInt64) - (1 : Int64)))), .second, .val (.long (((((i2.toUInt32 >>> ((1 : Int32) &&& 31).toUInt32).toInt32) % (3 : Int32)).toInt64) - (1 : Int64))), .second, .unset, .unset, .unset, .unset, .unset, .unset]) rfl k) ?_
        obtain ⟨T8, h8, X8, e8, E8, A8, D8, -, st8⟩ := newO X0 hx hZ hown (hw _ (List.mem_of_getElem? (i := 1) rfl)) (hw _ (List.mem_of_getElem? (i := 2) rfl)) (hw _ (List.mem_of_getElem? (i := 3) rfl)) e0 (g := (mkF m 45 #[.val (.long j0), .second, .val (.long j1), .second, .val (.int i2), .val (.long (j0 + (((((i2.toUInt32 >>> ((1 : Int32) &&& 31).toUInt32).toInt32) % (3 : Int32)).toInt64) - (1 : Int64)))), .second, .val (.long (((((i2.toUInt32 >>> ((1 : Int32) &&& 31).toUInt32).toInt32) % (3 : Int32)).toInt64) - (1 : Int64))), .second, .unset, .unset, .unset, .unset, .unset, .unset] [])) rfl (hb hby at_45) (by decide) (by decide)
        obtain ⟨b8, g8⟩ : ∃ z, z = h0.size := ⟨_, rfl⟩
        rw [← g8] at A8 D8 st8
        have g_b8 : n0 ≤ b8 := Nat.le_trans Zs (Nat.le_of_eq g8.symm)
        replace Zs : n0 ≤ h8.size := Nat.le_trans Zs E8.1
        have E_b8 : Exa Z h8 b8 "com/example/arcwright/arcwright/propagation/MemoryBudget" := A8
        have F_left_b8 : Fld Z h8 b8 "com/example/arcwright/arcwright/propagation/MemoryBudget" "left" "J" (.long (0 : Int64)) := D8 (Or.inl (hw _ (List.mem_of_getElem? (i := 11) rfl))) (ty := .long) (by decide)
        refine own_by (B := T8.setTop (mkF m 48 #[.val (.long j0), .second, .val (.long j1), .second, .val (.int i2), .val (.long (j0 + (((((i2.toUInt32 >>> ((1 : Int32) &&& 31).toUInt32).toInt32) % (3 : Int32)).toInt64) - (1 : Int64)))), .second, .val (.long (((((i2.toUInt32 >>> ((1 : Int32) &&& 31).toUInt32).toInt32) % (3 : Int32)).toInt64) - (1 : Int64))), .second, .unset, .unset, .unset, .unset, .unset, .unset] [(.ref b8)])) (fun t k => st8 _ k) ?_
        refine own_by (B := T8.setTop (mkF m 49 #[.val (.long j0), .second, .val (.long j1), .second, .val (.int i2), .val (.long (j0 + (((((i2.toUInt32 >>> ((1 : Int32) &&& 31).toUInt32).toInt32) % (3 : Int32)).toInt64) - (1 : Int64)))), .second, .val (.long (((((i2.toUInt32 >>> ((1 : Int32) &&& 31).toUInt32).toInt32) % (3 : Int32)).toInt64) - (1 : Int64))), .second, .unset, .unset, .unset, .unset, .unset, .unset] [(.ref b8), (.ref b8)])) (fun t k => XS.dup X8.here hx rfl (hb hby at_48) rfl rfl k) ?_
        refine own_by (B := T8.setTop (mkF m 50 #[.val (.long j0), .second, .val (.long j1), .second, .val (.int i2), .val (.long (j0 + (((((i2.toUInt32 >>> ((1 : Int32) &&& 31).toUInt32).toInt32) % (3 : Int32)).toInt64) - (1 : Int64)))), .second, .val (.long (((((i2.toUInt32 >>> ((1 : Int32) &&& 31).toUInt32).toInt32) % (3 : Int32)).toInt64) - (1 : Int64))), .second, .unset, .unset, .unset, .unset, .unset, .unset] [(.long j0), (.ref b8), (.ref b8)])) (fun t k => XS.lloadN X8.here hx rfl (hb hby at_49) rfl k) ?_
        obtain ⟨v9, _, ⟨T9, L9, c9, n9⟩, -, X9, ⟨Lc9, hQ9, l9, y9, z9⟩, st9⟩ := X8.specialBack hx (y := (⟨"com/example/arcwright/arcwright/propagation/MemoryBudget", "<init>", "(J)V"⟩ : MethodName)) rfl hown (mvT hZ (hw _ (List.mem_of_getElem? (i := 4) rfl))) (mvT hZ (hw _ (List.mem_of_getElem? (i := 5) rfl))) (mvT hZ (hw _ (List.mem_of_getElem? (i := 6) rfl))) (by decide) (backOf (W := 1) (rm1 l Z a0 hw [] b8 j0  h8 n0 Zs F_left_b8 E_b8 g_b8  ) hZ (hw _ (List.mem_of_getElem? (i := 6) rfl)) (hw _ (List.mem_of_getElem? (i := 3) rfl)) (by decide) (by decide)) (g := (mkF m 50 #[.val (.long j0), .second, .val (.long j1), .second, .val (.int i2), .val (.long (j0 + (((((i2.toUInt32 >>> ((1 : Int32) &&& 31).toUInt32).toInt32) % (3 : Int32)).toInt64) - (1 : Int64)))), .second, .val (.long (((((i2.toUInt32 >>> ((1 : Int32) &&& 31).toUInt32).toInt32) % (3 : Int32)).toInt64) - (1 : Int64))), .second, .unset, .unset, .unset, .unset, .unset, .unset] [(.long j0), (.ref b8), (.ref b8)])) rfl (by rw [hml]; rfl) (Steps.refl _) (a := b8) (argsL := [(.long j0)]) (rest := [(.ref b8)]) (lenOf pd_1 rfl) rfl (by show 2 * 0 + _ ≤ _; exact Nat.le_of_eq rfl) (hb hby at_50) (fun _ _ => ⟨rfl, e8, (by decide : 1 + 0 ≤ _), (by decide : 1 + 0 ≤ _)⟩)
        dsimp only [Pt.U, Pt.locs, Pt.cells, Pt.slots] at X9 l9 y9 z9 st9 hQ9
        subst l9 y9 z9
        obtain ⟨rfl, Nq9, Kq9, o0_9, o1_9⟩ := hQ9
        have NF := Fr.app NF Nq9
        replace E_b8 : Exa Z T9.heap b8 "com/example/arcwright/arcwright/propagation/MemoryBudget" := E_b8.keep Kq9
        clear F_left_b8
        replace Zs : n0 ≤ T9.heap.size := Nat.le_trans Zs Kq9.1
        have F_left_b8 : Fld Z T9.heap b8 "com/example/arcwright/arcwright/propagation/MemoryBudget" "left" "J" (.long j0) := o0_9
        have E_b8 : Exa Z T9.heap b8 "com/example/arcwright/arcwright/propagation/MemoryBudget" := o1_9
        refine own_by (B := T9.setTop (mkF m 53 #[.val (.long j0), .second, .val (.long j1), .second, .val (.int i2), .val (.long (j0 + (((((i2.toUInt32 >>> ((1 : Int32) &&& 31).toUInt32).toInt32) % (3 : Int32)).toInt64) - (1 : Int64)))), .second, .val (.long (((((i2.toUInt32 >>> ((1 : Int32) &&& 31).toUInt32).toInt32) % (3 : Int32)).toInt64) - (1 : Int64))), .second, .unset, .unset, .unset, .unset, .unset, .unset] [(.ref b8)])) (fun t k => st9.trans k) ?_
        refine own_by (B := T9.setTop (mkF m 55 #[.val (.long j0), .second, .val (.long j1), .second, .val (.int i2), .val (.long (j0 + (((((i2.toUInt32 >>> ((1 : Int32) &&& 31).toUInt32).toInt32) % (3 : Int32)).toInt64) - (1 : Int64)))), .second, .val (.ref b8), .unset, .unset, .unset, .unset, .unset, .unset, .unset] [])) (fun t k => XS.astore X9.here hx rfl (hb hby at_53) rfl rfl (l' := #[.val (.long j0), .second, .val (.long j1), .second, .val (.int i2), .val (.long (j0 + (((((i2.toUInt32 >>> ((1 : Int32) &&& 31).toUInt32).toInt32) % (3 : Int32)).toInt64) - (1 : Int64)))), .second, .val (.ref b8), .unset, .unset, .unset, .unset, .unset, .unset, .unset]) rfl k) ?_
        exact lw55 l Z a0 hw T9.heap n0 Zs j0 j1 i2 (j0 + (((((i2.toUInt32 >>> ((1 : Int32) &&& 31).toUInt32).toInt32) % (3 : Int32)).toInt64) - (1 : Int64))) b8 F_left_b8 E_b8 g_b8  X9 NF hx hby hml hret hlk hZ hown hnm rfl
      ·
        refine own_by (B := T0.setTop (mkF m 45 #[.val (.long j0), .second, .val (.long j1), .second, .val (.int i2), .val (.long (j1 &&& (9223372036854775807 : Int64))), .second, .unset, .unset, .unset, .unset, .unset, .unset, .unset, .unset] [])) (fun t k => XS.ifYes X0.here hx rfl (pc0 := 25) (pc' := 45) rfl (hb hby at_25) rfl ((if0 _ _).trans (flt (fun q => hc7 ((lw_lt _ _).mp q))).2.1) (by decide) (by decide) k) ?_
        obtain ⟨T10, h10, X10, e10, E10, A10, D10, -, st10⟩ := newO X0 hx hZ hown (hw _ (List.mem_of_getElem? (i := 1) rfl)) (hw _ (List.mem_of_getElem? (i := 2) rfl)) (hw _ (List.mem_of_getElem? (i := 3) rfl)) e0 (g := (mkF m 45 #[.val (.long j0), .second, .val (.long j1), .second, .val (.int i2), .val (.long (j1 &&& (9223372036854775807 : Int64))), .second, .unset, .unset, .unset, .unset, .unset, .unset, .unset, .unset] [])) rfl (hb hby at_45) (by decide) (by decide)
        obtain ⟨b10, g10⟩ : ∃ z, z = h0.size := ⟨_, rfl⟩
        rw [← g10] at A10 D10 st10
        have g_b10 : n0 ≤ b10 := Nat.le_trans Zs (Nat.le_of_eq g10.symm)
        replace Zs : n0 ≤ h10.size := Nat.le_trans Zs E10.1
        have E_b10 : Exa Z h10 b10 "com/example/arcwright/arcwright/propagation/MemoryBudget" := A10
        have F_left_b10 : Fld Z h10 b10 "com/example/arcwright/arcwright/propagation/MemoryBudget" "left" "J" (.long (0 : Int64)) := D10 (Or.inl (hw _ (List.mem_of_getElem? (i := 11) rfl))) (ty := .long) (by decide)
        refine own_by (B := T10.setTop (mkF m 48 #[.val (.long j0), .second, .val (.long j1), .second, .val (.int i2), .val (.long (j1 &&& (9223372036854775807 : Int64))), .second, .unset, .unset, .unset, .unset, .unset, .unset, .unset, .unset] [(.ref b10)])) (fun t k => st10 _ k) ?_
        refine own_by (B := T10.setTop (mkF m 49 #[.val (.long j0), .second, .val (.long j1), .second, .val (.int i2), .val (.long (j1 &&& (9223372036854775807 : Int64))), .second, .unset, .unset, .unset, .unset, .unset, .unset, .unset, .unset] [(.ref b10), (.ref b10)])) (fun t k => XS.dup X10.here hx rfl (hb hby at_48) rfl rfl k) ?_
        refine own_by (B := T10.setTop (mkF m 50 #[.val (.long j0), .second, .val (.long j1), .second, .val (.int i2), .val (.long (j1 &&& (9223372036854775807 : Int64))), .second, .unset, .unset, .unset, .unset, .unset, .unset, .unset, .unset] [(.long j0), (.ref b10), (.ref b10)])) (fun t k => XS.lloadN X10.here hx rfl (hb hby at_49) rfl k) ?_
        obtain ⟨v11, _, ⟨T11, L11, c11, n11⟩, -, X11, ⟨Lc11, hQ11, l11, y11, z11⟩, st11⟩ := X10.specialBack hx (y := (⟨"com/example/arcwright/arcwright/propagation/MemoryBudget", "<init>", "(J)V"⟩ : MethodName)) rfl hown (mvT hZ (hw _ (List.mem_of_getElem? (i := 4) rfl))) (mvT hZ (hw _ (List.mem_of_getElem? (i := 5) rfl))) (mvT hZ (hw _ (List.mem_of_getElem? (i := 6) rfl))) (by decide) (backOf (W := 1) (rm1 l Z a0 hw [] b10 j0  h10 n0 Zs F_left_b10 E_b10 g_b10  ) hZ (hw _ (List.mem_of_getElem? (i := 6) rfl)) (hw _ (List.mem_of_getElem? (i := 3) rfl)) (by decide) (by decide)) (g := (mkF m 50 #[.val (.long j0), .second, .val (.long j1), .second, .val (.int i2), .val (.long (j1 &&& (9223372036854775807 : Int64))), .second, .unset, .unset, .unset, .unset, .unset, .unset, .unset, .unset] [(.long j0), (.ref b10), (.ref b10)])) rfl (by rw [hml]; rfl) (Steps.refl _) (a := b10) (argsL := [(.long j0)]) (rest := [(.ref b10)]) (lenOf pd_1 rfl) rfl (by show 2 * 0 + _ ≤ _; exact Nat.le_of_eq rfl) (hb hby at_50) (fun _ _ => ⟨rfl, e10, (by decide : 1 + 0 ≤ _), (by decide : 1 + 0 ≤ _)⟩)
        dsimp only [Pt.U, Pt.locs, Pt.cells, Pt.slots] at X11 l11 y11 z11 st11 hQ11
        subst l11 y11 z11
        obtain ⟨rfl, Nq11, Kq11, o0_11, o1_11⟩ := hQ11
        have NF := Fr.app NF Nq11
        replace E_b10 : Exa Z T11.heap b10 "com/example/arcwright/arcwright/propagation/MemoryBudget" := E_b10.keep Kq11
        clear F_left_b10
        replace Zs : n0 ≤ T11.heap.size := Nat.le_trans Zs Kq11.1
        have F_left_b10 : Fld Z T11.heap b10 "com/example/arcwright/arcwright/propagation/MemoryBudget" "left" "J" (.long j0) := o0_11
        have E_b10 : Exa Z T11.heap b10 "com/example/arcwright/arcwright/propagation/MemoryBudget" := o1_11
        refine own_by (B := T11.setTop (mkF m 53 #[.val (.long j0), .second, .val (.long j1), .second, .val (.int i2), .val (.long (j1 &&& (9223372036854775807 : Int64))), .second, .unset, .unset, .unset, .unset, .unset, .unset, .unset, .unset] [(.ref b10)])) (fun t k => st11.trans k) ?_
        refine own_by (B := T11.setTop (mkF m 55 #[.val (.long j0), .second, .val (.long j1), .second, .val (.int i2), .val (.long (j1 &&& (9223372036854775807 : Int64))), .second, .val (.ref b10), .unset, .unset, .unset, .unset, .unset, .unset, .unset] [])) (fun t k => XS.astore X11.here hx rfl (hb hby at_53) rfl rfl (l' := #[.val (.long j0), .second, .val (.long j1), .second, .val (.int i2), .val (.long (j1 &&& (9223372036854775807 : Int64))), .second, .val (.ref b10), .unset, .unset, .unset, .unset, .unset, .unset, .unset]) rfl k) ?_
        exact lw55 l Z a0 hw T11.heap n0 Zs j0 j1 i2 (j1 &&& (9223372036854775807 : Int64)) b10 F_left_b10 E_b10 g_b10  X11 NF hx hby hml hret hlk hZ hown hnm rfl
set_option maxRecDepth 65536 in
set_option maxHeartbeats 40000000 in
theorem comes_1 {Post : Tables → Env → Array Value → State → Outcome → State → Prop} (hpost : ∀ tb e args s v u, (limb_1_1.after args s (.returned v) u = true ∧ limb_1_2.after args s (.returned v) u = true ∧ True) → FrameEnd s (.returned v) u (Jvm.fieldLocs frame_1_writes args s ++ Jvm.arrayLocs frame_1_arrays args s ++ Jvm.staticLocs frame_1_statics s) 16 128 → Post tb e args s (.returned v) u) :
    ArmFor flags0 classFile x code maxLocals ret World_1 tables_1 room_1 Calls_1 rest_1 Pre_1 Post := by
  intro l hfl _ _ p e ha hc hk s m args below hf hA hF happ hP
  obtain ⟨hcalls, hrest, hpre⟩ := hP
  obtain ⟨-, -, -, hnamed, -, -, -, hat⟩ := (Spec.applies_iff hf).mp happ
  obtain ⟨hg, hn⟩ := and_e (Cond.before_iff.mp (show (Jvm.Cond.and given_1 narrow_1).before args s = true from hpre))
  obtain ⟨gg1, gg2⟩ := and_e hg
  obtain ⟨gg3, gg4⟩ := and_e gg2
  obtain ⟨gg5, gg6⟩ := and_e gg4
  obtain ⟨w0, w1, w2, rfl⟩ : ∃ w0 w1 w2 : Value, args = #[w0, w1, w2] := by
    have hs : args.size = 3 := by simpa [Cond.value, given_1] using gg1
    obtain ⟨L⟩ := args
    match L, hs with
    | [w0, w1, w2], _ => exact ⟨w0, w1, w2, rfl⟩
  have hw := fun d (hd : d ∈ tables_1) => atoms_spec (ws := Jvm.Cond.code x code maxLocals ret :: tables_1) hat d (List.mem_cons_of_mem _ hd)
  obtain ⟨i0, ei0⟩ := isL_v gg3
  obtain rfl : w0 = (.long i0) := Option.some.inj ei0
  obtain ⟨i1, ei1⟩ := isL_v gg5
  obtain rfl : w1 = (.long i1) := Option.some.inj ei1
  obtain ⟨i2, ei2⟩ := is_v gg6
  obtain rfl : w2 = (.int i2) := Option.some.inj ei2
  obtain ⟨n, o, h1, h2, h3, _, L, rfl, ⟨rfl, N⟩, hq⟩ := rm0 l s _ hw tables_1 i0 i1 i2 s.heap s.heap.size (Nat.le_refl _) p e ha hc hk s m _ below hf ((Spec.applies_iff_loose hf).mp happ).1 ⟨rfl, State.Warmed39.refl s, rfl⟩ trivial
  refine ⟨n, _, h1, h2, h3, hpost _ _ _ _ _ _ ⟨Cond.after_iff.mpr rfl, Cond.after_iff.mpr (eq_i res_at (Term.int_eval (1)) rfl), trivial⟩ ⟨hq.1, hq.2.1, (hq.2.2.sift fun y hy => Or.inr (N y hy)).mono (by decide) (by decide)⟩⟩
theorem main_1_1 : Claimed_1_1 := comes_1 fun _ _ _ _ _ _ h hF => ⟨h.1, hF⟩
theorem main_1_2 : Claimed_1_2 := comes_1 fun _ _ _ _ _ _ h hF => ⟨h.2.1, hF⟩
end Jvm.Pilot.@@N@@
namespace Jvm.Pilot.@@N@@
open Jvm Jvm.ClassFile Sem Op Lib Jvm.Free Jvm.Stand Jvm.Pilot.@@N@@.Jvm.D
/-! MADE BY PROGRAM (witnessworld.py) out of the Statement's table words and the real class files: 9 classes; the members and pool entries that the words name. The judged class is class 1, her method 1. -/
namespace start1
open Jvm.ClassFile
def u (s : String) : CpInfo := .utf8 (stringToUtf16 s)
/-- a pool by its gaps: so many unusable entries, then the entry; so many at the end -/
def gap : Nat → List CpInfo → List CpInfo
  | 0, r => r
  | n + 1, r => .unusable :: gap n r
def poolList (es : List (Nat × CpInfo)) (last : Nat) : List CpInfo := es.foldr (fun e r => gap e.1 (e.2 :: r)) (gap last [])
def pool (es : List (Nat × CpInfo)) (last : Nat) : Array CpInfo := ⟨poolList es last⟩
def fileOf (pool : Array CpInfo) (this : Nat) (attrs : Array Attribute := #[]) (ms : Array MethodInfo := #[]) (fl : Nat := 33) (sup : Nat := 0) (ifs : Array Nat := #[]) (fds : Array FieldInfo := #[]) : ClassFile where
  minorVersion := 0
  majorVersion := 65
  constantPool := pool
  accessFlags := fl
  thisClass := this
  superClass := sup
  interfaces := ifs
  fields := fds
  methods := ms
  attributes := attrs
def plain (name : String) (sup : Option ClassId) : Class where
  name := name
  kind := .ordinary
  loader := none
  accessFlags := 33
  super := sup
  interfaces := #[]
  cf := none
  fields := #[]
  methods := #[]
  instanceTypes := #[]
  staticTypes := #[]
  resolved := #[]
  callSites := []
  init := .initialized
  statics := none
  mirror := none

def pool0 : Array CpInfo := pool [(5, u "<init>"), (0, u "()V"), (1, .class_ 10), (1, u "java/lang/Object")] 113

def k0c0 : Code := { maxStack := 0, maxLocals := 1, code := object_method_1_code, exceptionTable := #[], attributes := #[] }
def k0m0 : Method := { name := "<init>", desc := "()V", sig := { parameters := [], returnType := none }, accessFlags := 1, code := some k0c0 }
/-- java/lang/Object -/
def k0 : Class := { plain "java/lang/Object" none with
  accessFlags := 33
  interfaces := #[]
  cf := some (fileOf pool0 8 #[] #[{ accessFlags := 1, nameIndex := 5, descriptorIndex := 6, attributes := #[] }] 33 0 #[] #[])
  fields := #[]
  methods := #[k0m0]
  instanceTypes := #[]
  staticTypes := #[]
  resolved := Array.replicate 124 none
  statics := none }

def pool1 : Array CpInfo := pool [(2, .class_ 4), (1, u "java/lang/Object"), (0, u "<init>"), (0, u "()V"), (2, .long 9223372036854775807), (1, .class_ 12), (0, u "com/example/arcwright/arcwright/propagation/MemoryBudget"), (0, .methodref 11 14), (0, .nameAndType 5 15), (0, u "(J)V"), (0, .methodref 11 17), (0, .nameAndType 18 19), (0, u "take"), (0, u "(J)Z"), (0, .class_ 21), (0, u "com/example/arcwright/arcwright/propagation/MemoryBudgetTakePinLaw"), (2, u "law"), (0, u "(JJI)Z")] 3

def k1m0 : Method := { name := "<init>", desc := "()V", sig := { parameters := [], returnType := none }, accessFlags := 2, code := none }
def k1c1 : Code := { maxStack := 4, maxLocals := 15, code := code, exceptionTable := #[], attributes := #[] }
def k1m1 : Method := { name := "law", desc := "(JJI)Z", sig := { parameters := [.long, .long, .int], returnType := some .boolean }, accessFlags := 9, code := some k1c1 }
/-- com/example/arcwright/arcwright/propagation/MemoryBudgetTakePinLaw -/
def k1 : Class := { plain "com/example/arcwright/arcwright/propagation/MemoryBudgetTakePinLaw" (some 0) with
  accessFlags := 49
  interfaces := #[]
  cf := some (fileOf pool1 20 #[] #[{ accessFlags := 2, nameIndex := 5, descriptorIndex := 6, attributes := #[] }, { accessFlags := 9, nameIndex := 24, descriptorIndex := 25, attributes := #[] }] 49 2 #[] #[])
  fields := #[]
  methods := #[k1m0, k1m1]
  instanceTypes := #[]
  staticTypes := #[]
  resolved := Array.replicate 29 none
  statics := none }

def pool2 : Array CpInfo := pool [(1, .methodref 2 3), (0, .class_ 4), (0, .nameAndType 5 6), (0, u "java/lang/Object"), (0, u "<init>"), (0, u "()V"), (0, .fieldref 8 9), (0, .class_ 10), (0, .nameAndType 11 12), (0, u "com/example/arcwright/arcwright/propagation/MemoryBudget"), (0, u "left"), (0, u "J"), (6, u "(J)V"), (16, u "take"), (0, u "(J)Z")] 3

def k2c0 : Code := { maxStack := 3, maxLocals := 3, code := prog_55_method_1_code, exceptionTable := #[], attributes := #[] }
def k2m0 : Method := { name := "<init>", desc := "(J)V", sig := { parameters := [.long], returnType := none }, accessFlags := 1, code := some k2c0 }
def k2c1 : Code := { maxStack := 5, maxLocals := 4, code := prog_55_method_5_code, exceptionTable := #[], attributes := #[] }
def k2m1 : Method := { name := "take", desc := "(J)Z", sig := { parameters := [.long], returnType := some .boolean }, accessFlags := 0, code := some k2c1 }
/-- com/example/arcwright/arcwright/propagation/MemoryBudget -/
def k2 : Class := { plain "com/example/arcwright/arcwright/propagation/MemoryBudget" (some 0) with
  accessFlags := 49
  interfaces := #[]
  cf := some (fileOf pool2 8 #[] #[{ accessFlags := 1, nameIndex := 5, descriptorIndex := 19, attributes := #[] }, { accessFlags := 0, nameIndex := 36, descriptorIndex := 37, attributes := #[] }] 49 2 #[] #[{ accessFlags := 2, nameIndex := 11, descriptorIndex := 12, attributes := #[] }])
  fields := #[{ name := "left", type := .long, accessFlags := 2, slot := 0, constantValue := 0 }]
  methods := #[k2m0, k2m1]
  instanceTypes := #[.long]
  staticTypes := #[]
  resolved := Array.replicate 41 none
  statics := none }

def pool3 : Array CpInfo := pool [(1, u "java/lang/Cloneable"), (0, .class_ 1), (0, u "java/lang/Object"), (0, .class_ 3)] 3

/-- java/lang/Cloneable -/
def k3 : Class := { plain "java/lang/Cloneable" (some 0) with
  accessFlags := 1537
  interfaces := #[]
  cf := some (fileOf pool3 2 #[] #[] 1537 4 #[] #[])
  fields := #[]
  methods := #[]
  instanceTypes := #[]
  staticTypes := #[]
  resolved := Array.replicate 8 none
  statics := none }

def pool4 : Array CpInfo := pool [(1, u "java/io/Serializable"), (0, .class_ 1), (0, u "java/lang/Object"), (0, .class_ 3)] 3

/-- java/io/Serializable -/
def k4 : Class := { plain "java/io/Serializable" (some 0) with
  accessFlags := 1537
  interfaces := #[]
  cf := some (fileOf pool4 2 #[] #[] 1537 4 #[] #[])
  fields := #[]
  methods := #[]
  instanceTypes := #[]
  staticTypes := #[]
  resolved := Array.replicate 8 none
  statics := none }

/-- the primitive byte -/
def k5 : Class := { plain "byte" none with kind := .primitive 'B', accessFlags := 0x411 }
/-- [B -/
def k6 : Class := { plain "[B" (some 0) with kind := .array 5 .byte, interfaces := #[3, 4], accessFlags := 1041 }

/-- the primitive int -/
def k7 : Class := { plain "int" none with kind := .primitive 'I', accessFlags := 0x411 }
/-- [I -/
def k8 : Class := { plain "[I" (some 0) with kind := .array 7 .int, interfaces := #[3, 4], accessFlags := 1041 }

def heap : Heap := #[]
def classes : Array Class := #[k0, k1, k2, k3, k4, k5, k6, k7, k8]
def interned : List (Array UInt16 × Addr) := []
def slotsUsed : Nat := 0
def theMethod : MethodId := ⟨1, 1⟩
def args0 : Array Value := #[.long 5, .long 7, .int 3]
def aboutOver (below : List Frame) : State where
  vm := { classes := classes, interned := interned.toArray }
  heap := heap
  slotsUsed := slotsUsed
  threads := #[{ frames := .invoking theMethod args0 :: below }]
def below0 : List Frame := [.native { method := ⟨0, 0⟩, args := #[] }]
def about1 : State := aboutOver below0
def p0 : Program := .bare "" "" ""
def e0 : Env := launch0.env 0 0 0
theorem w_frames : about1.frames = Frame.invoking theMethod args0 :: below0 := rfl
set_option maxRecDepth 65536 in
theorem w_args : argsFit about1.vm theMethod args0 = true := by decide +kernel
set_option maxRecDepth 65536 in
theorem w_heap : heapFits about1 = true := by decide +kernel
set_option maxRecDepth 65536 in
theorem w_runnable : about1.curStatus? = some .runnable := by decide +kernel
set_option maxRecDepth 65536 in
theorem w_alone : about1.alone = true := by decide +kernel
set_option maxRecDepth 65536 in
theorem w_named : about1.methodNamed? x = some theMethod := by decide +kernel
set_option maxRecDepth 65536 in
theorem w_hears : about1.hears theMethod below0 = true := by decide +kernel
set_option maxRecDepth 65536 in
theorem w_ripe : about1.ripe theMethod args0 below0 = true := by decide +kernel
theorem w_running : about1.status = .running := rfl
set_option maxRecDepth 65536 in
theorem w_room : about1.hasRoom e0.platform room_1 = true :=
  launch0.hasRoom_least _ room_1 (by decide +kernel) (by decide +kernel) (by decide +kernel) (by decide +kernel) (by decide +kernel) (by decide +kernel)
theorem allAtoms_all (ts : List Jvm.Cond) (a : Array Jvm.Value) (st : Jvm.State) : (allAtoms ts).before a st = ts.all (fun c => c.before a st) := by
  induction ts with
  | nil => rfl
  | cons c t ih =>
    show (Jvm.Cond.and c (allAtoms t)).before a st = _
    rw [Jvm.Cond.before_and, ih, List.all_cons]
def words1 : List Jvm.Cond := Jvm.Cond.code x code maxLocals ret :: tables_1
/-- a 'code' word, met by the world's own term for the bytes: nothing is compared byte by byte -/
theorem code_word {y : MethodName} {bytes : ByteArray} {mx : Nat} {rt : Option FieldType} {a : Array Value} {s : State} {m : MethodId} {meth : Method} {c : Code} (h1 : s.methodNamed? y = some m) (h2 : s.vm.method? m = some meth) (h3 : meth.code = some c) (h4 : c.code = bytes)
    (h5 : (c.maxLocals == mx && c.exceptionTable.isEmpty && decide (c.maxStack ≤ mostOperands) && decide (meth.sig.returnType = rt) && !meth.locks && decide (parseMethodDescriptor y.desc = some meth.sig)) = true) : (Jvm.Cond.code y bytes mx rt).before a s = true := by
  simp only [Bool.and_eq_true, beq_iff_eq, Bool.not_eq_true', decide_eq_true_eq] at h5
  obtain ⟨⟨⟨⟨⟨g1, g2⟩, g3⟩, g4⟩, g5⟩, g6⟩ := h5
  simp [Cond.before, Cond.holds, Cond.value, h1, h2, h3, h4, g1, g2, g3, g4, g5, g6]
def isCode : Jvm.Cond → Bool
  | .code _ _ _ _ => true
  | _ => false
theorem all_split {L : List Jvm.Cond} {P : Jvm.Cond → Bool} (h1 : L.all (fun c => isCode c || P c) = true) (h2 : ∀ c ∈ L.filter isCode, P c = true) : L.all P = true := by
  refine List.all_eq_true.mpr fun c hc => ?_
  have h := List.all_eq_true.mp h1 c hc
  rcases Bool.eq_false_or_eq_true (isCode c) with hi | hi
  · exact h2 c (List.mem_filter.mpr ⟨hc, hi⟩)
  · simpa [hi] using h
set_option maxRecDepth 65536 in
theorem w_c0 : (Jvm.Cond.code x code maxLocals ret).before args0 about1 = true := code_word (m := ⟨1, 1⟩) (meth := k1m1) (c := k1c1) (by decide +kernel) rfl rfl rfl (by decide +kernel)
set_option maxRecDepth 65536 in
theorem w_c1 : (Jvm.Cond.code ({ cls := "com/example/arcwright/arcwright/propagation/MemoryBudget", name := "<init>", desc := "(J)V" } : Jvm.MethodName) prog_55_method_1_code (3 : Nat) (Option.none : Option Jvm.ClassFile.FieldType)).before args0 about1 = true := code_word (m := ⟨2, 0⟩) (meth := k2m0) (c := k2c0) (by decide +kernel) rfl rfl rfl (by decide +kernel)
set_option maxRecDepth 65536 in
theorem w_c2 : (Jvm.Cond.code ({ cls := "java/lang/Object", name := "<init>", desc := "()V" } : Jvm.MethodName) object_method_1_code (1 : Nat) (Option.none : Option Jvm.ClassFile.FieldType)).before args0 about1 = true := code_word (m := ⟨0, 0⟩) (meth := k0m0) (c := k0c0) (by decide +kernel) rfl rfl rfl (by decide +kernel)
set_option maxRecDepth 65536 in
theorem w_c3 : (Jvm.Cond.code ({ cls := "com/example/arcwright/arcwright/propagation/MemoryBudget", name := "take", desc := "(J)Z" } : Jvm.MethodName) prog_55_method_5_code (4 : Nat) (Option.some Jvm.ClassFile.FieldType.boolean)).before args0 about1 = true := code_word (m := ⟨2, 1⟩) (meth := k2m1) (c := k2c1) (by decide +kernel) rfl rfl rfl (by decide +kernel)
def codes1 : List Jvm.Cond := [Jvm.Cond.code x code maxLocals ret, Jvm.Cond.code ({ cls := "com/example/arcwright/arcwright/propagation/MemoryBudget", name := "<init>", desc := "(J)V" } : Jvm.MethodName) prog_55_method_1_code (3 : Nat) (Option.none : Option Jvm.ClassFile.FieldType), Jvm.Cond.code ({ cls := "java/lang/Object", name := "<init>", desc := "()V" } : Jvm.MethodName) object_method_1_code (1 : Nat) (Option.none : Option Jvm.ClassFile.FieldType), Jvm.Cond.code ({ cls := "com/example/arcwright/arcwright/propagation/MemoryBudget", name := "take", desc := "(J)Z" } : Jvm.MethodName) prog_55_method_5_code (4 : Nat) (Option.some Jvm.ClassFile.FieldType.boolean)]
set_option maxRecDepth 65536 in
theorem codes_eq : words1.filter isCode = codes1 := rfl
theorem w_codes : ∀ c ∈ words1.filter isCode, c.before args0 about1 = true := by
  rw [codes_eq]
  intro c hc
  simp only [codes1, List.mem_cons, List.not_mem_nil, or_false] at hc
  rcases hc with rfl | rfl | rfl | rfl
  · exact w_c0
  · exact w_c1
  · exact w_c2
  · exact w_c3
set_option maxRecDepth 65536 in
theorem w_t1 : words1.all (fun c => isCode c || c.before args0 about1) = true := by decide +kernel
theorem w_tables : (allAtoms (Jvm.Cond.code x code maxLocals ret :: tables_1)).before args0 about1 = true := by
  rw [allAtoms_all]
  show words1.all (fun c => c.before args0 about1) = true
  refine all_split ?_ w_codes
  rw [w_t1]
set_option maxRecDepth 65536 in
theorem w_case : (Jvm.Cond.and given_1 narrow_1).before args0 about1 = true := by decide +kernel
theorem w_applies : (headSpec (Jvm.Cond.code x code maxLocals ret :: tables_1) room_1).applies x e0.platform about1 = true :=
  (Spec.applies_iff w_frames).mpr ⟨w_running, w_runnable, w_alone, w_named, w_hears, w_ripe, w_room, w_tables⟩
theorem atStart : AtStart classFile x code maxLocals ret World_1 tables_1 room_1 Calls_1 rest_1 Pre_1 launch0 p0 e0 about1 theMethod args0 below0 :=
  ⟨lists_1, trivial, launch0.admits_env _ _ _, launch0.least_env, fairChoices_fair.cas, fairChoices_fair.clock, w_frames, w_args, w_heap, w_applies, trivial, trivial, w_case⟩
end start1
theorem witness_1 : WitnessClaimed_1 := ⟨start1.p0, start1.e0, start1.about1, start1.theMethod, start1.args0, start1.below0, start1.atStart⟩
end Jvm.Pilot.@@N@@
