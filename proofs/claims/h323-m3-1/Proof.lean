import JvmDerived
import JvmDerived.Pilot.@@N@@Statement
import JvmDerived.Pilot.@@N@@Code
set_option linter.unusedVariables false
set_option linter.unusedSimpArgs false
namespace Jvm.Pilot.@@N@@
open Jvm Jvm.ClassFile Sem Op Lib Jvm.Free Jvm.Stand Jvm.LawKit Jvm.RoadKit Bundle Jvm.Pilot.@@N@@.Jvm.D
/-! THE OWN KIT: the walk from a state to its end, as one proposition (own_Go); its steps, its leaves, its entry. -/
section OwnKit
variable {p : Program} {l : Launch} {e : Env} {R : Room} {s : State} {m : MethodId} {args : Array Value} {below : List Frame} {meth : Method} {c : Code} {T : State} {locs : List Loc} {cells slots : Nat}
variable {Q : Option Value → Heap → List Loc → Prop} {rc rs : Nat}
/-- from U the run ends in a return, and Q says what it leaves -/
def own_Go (p : Program) (e : Env) (below : List Frame) (s : State) (Q : Option Value → Heap → List Loc → Prop) (rc rs : Nat) (U : State) : Prop :=
  ∃ s₂ o, Steps p.tables e below U s₂ ∧ s₂.status = .running ∧ Ended s₂ below o ∧ ∃ v L, o = .returned v ∧ Q v s₂.heap L ∧ FrameEnd s o s₂ L rc rs
theorem own_by {A B : State} (k : ∀ t, Steps p.tables e below B t → Steps p.tables e below A t) (h : own_Go p e below s Q rc rs B) : own_Go p e below s Q rc rs A := by
  obtain ⟨s₂, o, h1, r⟩ := h
  exact ⟨s₂, o, k _ h1, r⟩
theorem own_imp {Q' : Option Value → Heap → List Loc → Prop} {A : State} (k : ∀ v h L, Q v h L → Q' v h L) (h : own_Go p e below s Q rc rs A) : own_Go p e below s Q' rc rs A := by
  obtain ⟨s₂, o, h1, h2, h3, v, L, h4, h5, h6⟩ := h
  exact ⟨s₂, o, h1, h2, h3, v, L, h4, k _ _ _ h5, h6⟩
theorem own_leave (X : Stand p l e R s m args below meth c T locs cells slots) (hlk : meth.locks = false) {v : Option Value} (hv : meth.sig.returnType = none → v = none) {U : State}
    (hst : ∀ fs, (∀ (f : JFrame) (acts : List Action), f.method = m → f.locked = none → f.entered = [] → (doReturn e (T.setTop f) acts v).1 = T.setFrames fs) → Steps p.tables e below U (T.setFrames fs))
    (hq : Q v T.heap locs) (hc : cells ≤ rc) (hs : slots ≤ rs) : own_Go p e below s Q rc rs U := by
  obtain ⟨fs, hr, hrun, hended, hW, hsame⟩ := X.leave (v := v) hv hlk
  exact ⟨_, _, hst fs hr, hrun, hended, _, _, rfl, hq, ⟨_, rfl⟩, hW, hsame.mono hc hs⟩
theorem own_ret (X : Stand p l e R s m args below meth c T locs cells slots) (hx : p.tables.exec = Jvm.exec) (hlk : meth.locks = false) (hret : meth.sig.returnType = none) {pc : Nat} {Ls : Array Slot} (hd : decode c.code pc = .ok (.return_, 1))
    (hq : Q none T.heap locs) (hc : cells ≤ rc) (hs : slots ≤ rs) : own_Go p e below s Q rc rs (T.setTop (mkF m pc Ls [])) :=
  own_leave X hlk (fun _ => rfl) (fun _ hr => X.returnOut hx hret hd hr) hq hc hs
theorem own_retI (X : Stand p l e R s m args below meth c T locs cells slots) (hx : p.tables.exec = Jvm.exec) (hlk : meth.locks = false) (hret : meth.sig.returnType = some .int) {pc : Nat} {Ls : Array Slot} {z : Int32} (hd : decode c.code pc = .ok (.ireturn, 1))
    (hq : Q (some (.int z)) T.heap locs) (hc : cells ≤ rc) (hs : slots ≤ rs) : own_Go p e below s Q rc rs (T.setTop (mkF m pc Ls [.int z])) :=
  own_leave X hlk (fun h => by rw [hret] at h; cases h) (fun _ hr => X.ireturnOut hx hret rfl (Or.inl rfl) hd hr) hq hc hs
theorem own_retN {t : FieldType} (ht : t = .boolean ∨ t = .byte ∨ t = .char ∨ t = .short) (X : Stand p l e R s m args below meth c T locs cells slots) (hx : p.tables.exec = Jvm.exec) (hlk : meth.locks = false) (hret : meth.sig.returnType = some t) {pc : Nat} {Ls : Array Slot} {z z' : Int32} (hn : nar t z = z') (hd : decode c.code pc = .ok (.ireturn, 1))
    (hq : Q (some (.int z')) T.heap locs) (hc : cells ≤ rc) (hs : slots ≤ rs) : own_Go p e below s Q rc rs (T.setTop (mkF m pc Ls [.int z])) := by
  subst hn
  exact own_leave X hlk (fun h => by rw [hret] at h; cases h) (fun _ hr => retN X hx hret ht hd hr) hq hc hs
theorem own_retJ (X : Stand p l e R s m args below meth c T locs cells slots) (hx : p.tables.exec = Jvm.exec) (hlk : meth.locks = false) (hret : meth.sig.returnType = some .long) {pc : Nat} {Ls : Array Slot} {z : Int64} (hd : decode c.code pc = .ok (.lreturn, 1))
    (hq : Q (some (.long z)) T.heap locs) (hc : cells ≤ rc) (hs : slots ≤ rs) : own_Go p e below s Q rc rs (T.setTop (mkF m pc Ls [.long z])) :=
  own_leave X hlk (fun h => by rw [hret] at h; cases h) (fun _ hr => X.lreturnOut hx hret hd hr) hq hc hs
theorem own_retA {t : FieldType} (ht : t.isReference = true) (X : Stand p l e R s m args below meth c T locs cells slots) (hx : p.tables.exec = Jvm.exec) (hlk : meth.locks = false) (hret : meth.sig.returnType = some t) {pc : Nat} {Ls : Array Slot} {a : Addr} (hd : decode c.code pc = .ok (.areturn, 1))
    (hq : Q (some (.ref a)) T.heap locs) (hc : cells ≤ rc) (hs : slots ≤ rs) : own_Go p e below s Q rc rs (T.setTop (mkF m pc Ls [.ref a])) :=
  own_leave X hlk (fun h => by rw [hret] at h; cases h) (fun _ hr => X.areturnOut hx rfl hret ht hd hr) hq hc hs
/-- a body's contract out of its walk -/
theorem own_met {y : MethodName} {bytes : ByteArray} {maxL : Nat} {ret : Option FieldType} {ws : List Jvm.Cond} {rm : Room} {as' : Array Value} {Z : State} {h0 : Heap} (hpl : plainFor y = true)
    (body : ∀ (p : Program) (e : Env) (s : State) (m : MethodId) (below : List Frame) (meth : Method) (c : Code) (T : State), Stand p l e rm s m as' below meth c T [] 0 0 → p.tables.exec = Jvm.exec → c.code = bytes → c.maxLocals = maxL → meth.sig.returnType = ret → meth.locks = false →
      Z.Warmed39 s.vm → s.vm.findClass y.cls = some m.cls → meth.name = y.name → T.heap = h0 → own_Go p e below s Q rc rs (T.setTop (entryFrame m as' maxL))) :
    MetFree l y (head1 (Jvm.Cond.code y bytes maxL ret :: ws) rm) (fun a U => a = as' ∧ Z.Warmed39 U.vm ∧ U.heap = h0) (fun _ _ _ _ _ => True) (fun _ U o U' => ∃ v L, o = .returned v ∧ Q v U'.heap L ∧ FrameEnd U o U' L rc rs) := by
  refine MetFree.of_bodySF hpl hisR ?_
  intro p e s m args below meth c s₁ Bd hml0 hP hK
  obtain ⟨rfl, hZ, hh⟩ := hP
  exact body p e s m below meth c s₁ (Stand.of_body Bd) Bd.exec Bd.bytes hml0 Bd.returns (BodyLoose.notSynchronized Bd) hZ (findClass_of_methodNamed Bd.named) (name_of_methodNamed Bd.named Bd.method).1 (by rw [← hh, Bd.state]; rfl)
theorem own_cast {g g' : JFrame} (q : g = g') (k : own_Go p e below s Q rc rs (T.setTop g')) : own_Go p e below s Q rc rs (T.setTop g) := q ▸ k
/-- what a body that writes nothing leaves -/
def own_Qp (r : Option Value) (h0 : Heap) (v : Option Value) (h : Heap) (L : List Loc) : Prop := v = r ∧ L = [] ∧ h = h0
theorem own_selPriv {a1 a2 : Array Value} {y y' z' : MethodName} {C : String} (h : (Jvm.Cond.selects C y' z').before a1 s = true) (hz : z'.cls = y.cls) (hpriv : s.PrivateAt y) (hinst : (Jvm.Cond.instanceMethod y).before a2 s = true) (hy : y.cls ≠ "java/lang/invoke/MethodHandle" ∧ y.cls ≠ "java/lang/invoke/VarHandle") : (Jvm.Cond.selects y.cls y y).before a2 s = true := by
  obtain ⟨_, _, m2, -, -, q3, -, kP, hkP, hkPi⟩ := Cond.selects_spec h
  exact selects_self_of_private (by rw [← hz]; exact findClass_of_methodNamed q3) hkP hkPi hpriv hinst hy
end OwnKit
theorem pd_0 : parseMethodDescriptor "(C)Z" = some ⟨[.char], some .boolean⟩ := by decide +kernel

theorem d1_0 : decode prog_15_method_2_code 0 = .ok (.iload_n 0, 1) := by decide +kernel
theorem d1_1 : decode prog_15_method_2_code 1 = .ok (.bipush 32, 2) := by decide +kernel
theorem d1_3 : decode prog_15_method_2_code 3 = .ok (.if_icmp .eq 21, 3) := by decide +kernel
theorem d1_6 : decode prog_15_method_2_code 6 = .ok (.iload_n 0, 1) := by decide +kernel
theorem d1_7 : decode prog_15_method_2_code 7 = .ok (.bipush 9, 2) := by decide +kernel
theorem d1_9 : decode prog_15_method_2_code 9 = .ok (.if_icmp .eq 15, 3) := by decide +kernel
theorem d1_12 : decode prog_15_method_2_code 12 = .ok (.iload_n 0, 1) := by decide +kernel
theorem d1_13 : decode prog_15_method_2_code 13 = .ok (.bipush 13, 2) := by decide +kernel
theorem d1_15 : decode prog_15_method_2_code 15 = .ok (.if_icmp .eq 9, 3) := by decide +kernel
theorem d1_18 : decode prog_15_method_2_code 18 = .ok (.iload_n 0, 1) := by decide +kernel
theorem d1_19 : decode prog_15_method_2_code 19 = .ok (.bipush 10, 2) := by decide +kernel
theorem d1_21 : decode prog_15_method_2_code 21 = .ok (.if_icmp .ne 7, 3) := by decide +kernel
theorem d1_24 : decode prog_15_method_2_code 24 = .ok (.iconst 1, 1) := by decide +kernel
theorem d1_25 : decode prog_15_method_2_code 25 = .ok (.goto 4, 3) := by decide +kernel
theorem d1_28 : decode prog_15_method_2_code 28 = .ok (.iconst 0, 1) := by decide +kernel
theorem d1_29 : decode prog_15_method_2_code 29 = .ok (.ireturn, 1) := by decide +kernel
theorem pn_1 : plainName "com/example/siegelbund/siegelbund/core/xml/XmlChars" = true := by first | (simp [plainName, overriddenIn]; done) | decide +kernel
theorem ef_1 (m : MethodId) (x0 : Int32) : entryFrame m #[(.int x0)] 1 = mkF m 0 #[.val (.int x0)] [] := by first | (simp [entryFrame, mkF, argsToLocals, Value.category]; done) | rfl
def f1_29  (x0 : Int32) (y0 : Int32) : Int32 := (nar .boolean y0)
set_option maxRecDepth 65536 in
set_option maxHeartbeats 40000000 in
theorem bk1_29 (l : Launch) (Z : State) (a0 : Array Value) (hw : ∀ d ∈ tables_1, d.before a0 Z = true) (h0 : Heap)     (x0 : Int32) (y0 : Int32)  {p : Program} {e : Env} {s : State} {m : MethodId} {args : Array Value} {below : List Frame} {meth : Method} {c : Code} {T0 : State}
    (X0 : Stand p l e ({ frames := 0, cells := 0, slots := 0, locals := 0 } : Room) s m args below meth c T0 [] 0 0) (hx : p.tables.exec = Jvm.exec) (hby : c.code = prog_15_method_2_code) (hml : c.maxLocals = 1) (hret : meth.sig.returnType = (some .boolean)) (hlk : meth.locks = false) (hZ : Z.Warmed39 s.vm) (hown : s.vm.findClass "com/example/siegelbund/siegelbund/core/xml/XmlChars" = some m.cls) (hnm : meth.name = "isWhitespace") (e0 : T0.heap = h0) :
    own_Go p e below s (own_Qp (some (.int (f1_29  x0 y0))) h0) 0 0 (T0.setTop (mkF m 29 #[.val (.int x0)] [(.int y0)])) := by
  have hf : f1_29  x0 y0 = (nar .boolean y0) := rfl
  exact own_retN (t := .boolean) (by simp) X0 hx hlk hret (z' := (nar .boolean y0)) rfl (hb hby d1_29) ⟨by rw [hf], rfl, e0⟩ (by decide) (by decide)
def f1_24  (x0 : Int32) : Int32 := (f1_29  x0 (1 : Int32))
set_option maxRecDepth 65536 in
set_option maxHeartbeats 40000000 in
theorem bk1_24 (l : Launch) (Z : State) (a0 : Array Value) (hw : ∀ d ∈ tables_1, d.before a0 Z = true) (h0 : Heap)     (x0 : Int32)  {p : Program} {e : Env} {s : State} {m : MethodId} {args : Array Value} {below : List Frame} {meth : Method} {c : Code} {T0 : State}
    (X0 : Stand p l e ({ frames := 0, cells := 0, slots := 0, locals := 0 } : Room) s m args below meth c T0 [] 0 0) (hx : p.tables.exec = Jvm.exec) (hby : c.code = prog_15_method_2_code) (hml : c.maxLocals = 1) (hret : meth.sig.returnType = (some .boolean)) (hlk : meth.locks = false) (hZ : Z.Warmed39 s.vm) (hown : s.vm.findClass "com/example/siegelbund/siegelbund/core/xml/XmlChars" = some m.cls) (hnm : meth.name = "isWhitespace") (e0 : T0.heap = h0) :
    own_Go p e below s (own_Qp (some (.int (f1_24  x0))) h0) 0 0 (T0.setTop (mkF m 24 #[.val (.int x0)] [])) := by
  have hf : f1_24  x0 = (f1_29  x0 (1 : Int32)) := rfl
  refine own_by (B := T0.setTop (mkF m 25 #[.val (.int x0)] [(.int (1 : Int32))])) (fun t k => XS.iconst X0.here hx rfl (hb hby d1_24) k) ?_
  refine own_by (B := T0.setTop (mkF m 29 #[.val (.int x0)] [(.int (1 : Int32))])) (fun t k => XS.goto X0.here hx rfl (pc0 := 25) (pc' := 29) rfl (hb hby d1_25) (by decide) (by decide) k) ?_
  rw [hf]
  exact bk1_29 l Z a0 hw h0   x0 (1 : Int32)  X0 hx hby hml hret hlk hZ hown hnm e0
def f1_0  (x0 : Int32) : Int32 := (if x0 = (32 : Int32) then (f1_24  x0) else (if x0 = (9 : Int32) then (f1_24  x0) else (if x0 = (13 : Int32) then (f1_24  x0) else (if x0 = (10 : Int32) then (f1_24  x0) else (f1_29  x0 (0 : Int32))))))
set_option maxRecDepth 65536 in
set_option maxHeartbeats 40000000 in
theorem bk1_0 (l : Launch) (Z : State) (a0 : Array Value) (hw : ∀ d ∈ tables_1, d.before a0 Z = true) (h0 : Heap)     (x0 : Int32)  {p : Program} {e : Env} {s : State} {m : MethodId} {args : Array Value} {below : List Frame} {meth : Method} {c : Code} {T0 : State}
    (X0 : Stand p l e ({ frames := 0, cells := 0, slots := 0, locals := 0 } : Room) s m args below meth c T0 [] 0 0) (hx : p.tables.exec = Jvm.exec) (hby : c.code = prog_15_method_2_code) (hml : c.maxLocals = 1) (hret : meth.sig.returnType = (some .boolean)) (hlk : meth.locks = false) (hZ : Z.Warmed39 s.vm) (hown : s.vm.findClass "com/example/siegelbund/siegelbund/core/xml/XmlChars" = some m.cls) (hnm : meth.name = "isWhitespace") (e0 : T0.heap = h0) :
    own_Go p e below s (own_Qp (some (.int (f1_0  x0))) h0) 0 0 (T0.setTop (mkF m 0 #[.val (.int x0)] [])) := by
  have hf : f1_0  x0 = (if x0 = (32 : Int32) then (f1_24  x0) else (if x0 = (9 : Int32) then (f1_24  x0) else (if x0 = (13 : Int32) then (f1_24  x0) else (if x0 = (10 : Int32) then (f1_24  x0) else (f1_29  x0 (0 : Int32)))))) := rfl
  refine own_by (B := T0.setTop (mkF m 1 #[.val (.int x0)] [(.int x0)])) (fun t k => XS.iloadN X0.here hx rfl (hb hby d1_0) rfl k) ?_
  refine own_by (B := T0.setTop (mkF m 3 #[.val (.int x0)] [(.int (32 : Int32)), (.int x0)])) (fun t k => XS.bipush X0.here hx rfl (hb hby d1_1) k) ?_
  by_cases hc1 : x0 = (32 : Int32)
  ·
    rw [if_pos hc1] at hf
    refine own_by (B := T0.setTop (mkF m 24 #[.val (.int x0)] [])) (fun t k => XS.icmpYes X0.here hx rfl (pc0 := 3) (pc' := 24) rfl (hb hby d1_3) rfl (teq hc1).1 (by decide) (by decide) k) ?_
    rw [hf]
    exact bk1_24 l Z a0 hw h0   x0  X0 hx hby hml hret hlk hZ hown hnm e0
  ·
    rw [if_neg hc1] at hf
    refine own_by (B := T0.setTop (mkF m 6 #[.val (.int x0)] [])) (fun t k => XS.icmpNo X0.here hx rfl (hb hby d1_3) rfl (feq hc1).1 k) ?_
    refine own_by (B := T0.setTop (mkF m 7 #[.val (.int x0)] [(.int x0)])) (fun t k => XS.iloadN X0.here hx rfl (hb hby d1_6) rfl k) ?_
    refine own_by (B := T0.setTop (mkF m 9 #[.val (.int x0)] [(.int (9 : Int32)), (.int x0)])) (fun t k => XS.bipush X0.here hx rfl (hb hby d1_7) k) ?_
    by_cases hc2 : x0 = (9 : Int32)
    ·
      rw [if_pos hc2] at hf
      refine own_by (B := T0.setTop (mkF m 24 #[.val (.int x0)] [])) (fun t k => XS.icmpYes X0.here hx rfl (pc0 := 9) (pc' := 24) rfl (hb hby d1_9) rfl (teq hc2).1 (by decide) (by decide) k) ?_
      rw [hf]
      exact bk1_24 l Z a0 hw h0   x0  X0 hx hby hml hret hlk hZ hown hnm e0
    ·
      rw [if_neg hc2] at hf
      refine own_by (B := T0.setTop (mkF m 12 #[.val (.int x0)] [])) (fun t k => XS.icmpNo X0.here hx rfl (hb hby d1_9) rfl (feq hc2).1 k) ?_
      refine own_by (B := T0.setTop (mkF m 13 #[.val (.int x0)] [(.int x0)])) (fun t k => XS.iloadN X0.here hx rfl (hb hby d1_12) rfl k) ?_
      refine own_by (B := T0.setTop (mkF m 15 #[.val (.int x0)] [(.int (13 : Int32)), (.int x0)])) (fun t k => XS.bipush X0.here hx rfl (hb hby d1_13) k) ?_
      by_cases hc3 : x0 = (13 : Int32)
      ·
        rw [if_pos hc3] at hf
        refine own_by (B := T0.setTop (mkF m 24 #[.val (.int x0)] [])) (fun t k => XS.icmpYes X0.here hx rfl (pc0 := 15) (pc' := 24) rfl (hb hby d1_15) rfl (teq hc3).1 (by decide) (by decide) k) ?_
        rw [hf]
        exact bk1_24 l Z a0 hw h0   x0  X0 hx hby hml hret hlk hZ hown hnm e0
      ·
        rw [if_neg hc3] at hf
        refine own_by (B := T0.setTop (mkF m 18 #[.val (.int x0)] [])) (fun t k => XS.icmpNo X0.here hx rfl (hb hby d1_15) rfl (feq hc3).1 k) ?_
        refine own_by (B := T0.setTop (mkF m 19 #[.val (.int x0)] [(.int x0)])) (fun t k => XS.iloadN X0.here hx rfl (hb hby d1_18) rfl k) ?_
        refine own_by (B := T0.setTop (mkF m 21 #[.val (.int x0)] [(.int (10 : Int32)), (.int x0)])) (fun t k => XS.bipush X0.here hx rfl (hb hby d1_19) k) ?_
        by_cases hc4 : x0 = (10 : Int32)
        ·
          rw [if_pos hc4] at hf
          refine own_by (B := T0.setTop (mkF m 24 #[.val (.int x0)] [])) (fun t k => XS.icmpNo X0.here hx rfl (hb hby d1_21) rfl (teq hc4).2 k) ?_
          rw [hf]
          exact bk1_24 l Z a0 hw h0   x0  X0 hx hby hml hret hlk hZ hown hnm e0
        ·
          rw [if_neg hc4] at hf
          refine own_by (B := T0.setTop (mkF m 28 #[.val (.int x0)] [])) (fun t k => XS.icmpYes X0.here hx rfl (pc0 := 21) (pc' := 28) rfl (hb hby d1_21) rfl (feq hc4).2 (by decide) (by decide) k) ?_
          refine own_by (B := T0.setTop (mkF m 29 #[.val (.int x0)] [(.int (0 : Int32))])) (fun t k => XS.iconst X0.here hx rfl (hb hby d1_28) k) ?_
          rw [hf]
          exact bk1_29 l Z a0 hw h0   x0 (0 : Int32)  X0 hx hby hml hret hlk hZ hown hnm e0
set_option maxRecDepth 65536 in
set_option maxHeartbeats 40000000 in
theorem rm1 (l : Launch) (Z : State) (a0 : Array Value) (hw : ∀ d ∈ tables_1, d.before a0 Z = true) (ws : List Jvm.Cond) (x0 : Int32)   (h0 : Heap)   :
    MetFree l (⟨"com/example/siegelbund/siegelbund/core/xml/XmlChars", "isWhitespace", "(C)Z"⟩ : MethodName) (head1 (Jvm.Cond.code (⟨"com/example/siegelbund/siegelbund/core/xml/XmlChars", "isWhitespace", "(C)Z"⟩ : MethodName) prog_15_method_2_code 1 (some .boolean) :: ws) ({ frames := 0, cells := 0, slots := 0, locals := 0 } : Room)) (fun aa U => aa = #[(.int x0)] ∧ Z.Warmed39 U.vm ∧ U.heap = h0) (fun _ _ _ _ _ => True) (fun _ U o U' => ∃ v L, o = .returned v ∧ own_Qp (some (.int (f1_0  x0))) h0 v U'.heap L ∧ FrameEnd U o U' L ({ frames := 0, cells := 0, slots := 0, locals := 0 } : Room).cells ({ frames := 0, cells := 0, slots := 0, locals := 0 } : Room).slots) := by
  refine own_met (plainFor_of_name pn_1) fun p e s m below meth c T0 X0 hx hby hml hret hlk hZ hown hnm e0 => ?_
  refine own_cast (ef_1 m x0) ?_
  exact bk1_0 l Z a0 hw h0   x0  X0 hx hby hml hret hlk hZ hown hnm e0
theorem own_small (u : Int32) (h0 : ¬ u < 0) (h1 : u < 64) : ∃ n : Fin 64, u = Int32.ofNat n.val := by
  rw [Int32.lt_iff_toInt_lt] at h0 h1
  have e0 : (0 : Int32).toInt = 0 := by decide
  have e1 : (64 : Int32).toInt = 64 := by decide
  refine ⟨⟨u.toInt.toNat, by omega⟩, Int32.toInt_inj.mp ?_⟩
  show u.toInt = (Int32.ofNat u.toInt.toNat).toInt
  rw [Int32.toInt_ofNat_of_lt (by omega)]
  omega
theorem own_main (u w : Int32) (h0 : ¬ u < 0) (h : w = (if u < (64 : Int32) then (if ((((4294977024 : Int64).toUInt64 >>> (u &&& 0x3f).toInt64.toUInt64).toInt64) &&& (1 : Int64)) = (0 : Int64) then (0 : Int32) else (1 : Int32)) else (0 : Int32))) : f1_0 u = w := by
  by_cases h1 : u < 64
  · obtain ⟨n, rfl⟩ := own_small u h0 h1
    subst h
    revert n; decide +kernel
  · rw [if_neg h1] at h
    subst h
    rw [Int32.lt_iff_toInt_lt] at h1
    have e1 : (64 : Int32).toInt = 64 := by decide
    have d : ∀ z : Int32, z.toInt < 64 → u ≠ z := fun z hz q => by subst q; omega
    simp only [f1_0, f1_24]
    rw [if_neg (d _ (by decide)), if_neg (d _ (by decide)), if_neg (d _ (by decide)), if_neg (d _ (by decide))]
    exact (by decide : nar .boolean (0 : Int32) = 0)
theorem own_char (k x u : Int32) (h : u = (if k = (0 : Int32) then (32 : Int32) else (if k = (1 : Int32) then (9 : Int32) else (if k = (2 : Int32) then (13 : Int32) else (if k = (3 : Int32) then (10 : Int32) else (x.toUInt32.toUInt16.toUInt32.toInt32)))))) : ¬ u < 0 := by
  have e := (c_i2c x).2.1
  have e0 : (0 : Int32).toInt = 0 := by decide
  rw [Int32.lt_iff_toInt_lt]
  subst h
  repeat' split
  all_goals first | decide | omega
theorem pn_0 : plainName "com/example/siegelbund/siegelbund/core/xml/XmlCharsIsWhitespacePinLaw" = true := by first | (simp [plainName, overriddenIn]; done) | decide +kernel
theorem ef_0 (m : MethodId) (i0 : Int32) (i1 : Int32) : entryFrame m #[(.int i0), (.int i1)] maxLocals = mkF m 0 #[.val (.int i0), .val (.int i1), .unset, .unset, .unset, .unset, .unset] [] := by first | (simp [entryFrame, mkF, argsToLocals, Value.category, maxLocals]; done) | rfl
def own_Q0 (n0 : Nat) (v : Option Value) (h : Heap) (L : List Loc) : Prop := v = some (.int 1) ∧ Fr n0 L
set_option maxRecDepth 65536 in
set_option maxHeartbeats 40000000 in
theorem rm0 (l : Launch) (Z : State) (a0 : Array Value) (hw : ∀ d ∈ tables_1, d.before a0 Z = true) (ws : List Jvm.Cond) (i0 : Int32) (i1 : Int32)  (h0 : Heap) (n0 : Nat) (Z0 : n0 ≤ h0.size)  :
    MetFree l x (head1 (Jvm.Cond.code x code maxLocals ret :: ws) room_1) (fun aa U => aa = #[(.int i0), (.int i1)] ∧ Z.Warmed39 U.vm ∧ U.heap = h0) (fun _ _ _ _ _ => True) (fun _ U o U' => ∃ v L, o = .returned v ∧ own_Q0 n0 v U'.heap L ∧ FrameEnd U o U' L room_1.cells room_1.slots) := by
  refine own_met (plainFor_of_name pn_0) fun p e s m below meth c T0 X0 hx hby hml hret hlk hZ hown hnm e0 => ?_
  refine own_cast (ef_0 m i0 i1) ?_
  have NF := Fr.nil n0
  have Zs := Z0
  refine own_by (B := T0.setTop (mkF m 1 #[.val (.int i0), .val (.int i1), .unset, .unset, .unset, .unset, .unset] [(.int i0)])) (fun t k => XS.iloadN X0.here hx rfl (hb hby at_0) rfl k) ?_
  refine own_by (B := T0.setTop (mkF m 3 #[.val (.int i0), .val (.int i1), .unset, .unset, .unset, .unset, .unset] [(.int (7 : Int32)), (.int i0)])) (fun t k => XS.bipush X0.here hx rfl (hb hby at_1) k) ?_
  refine own_by (B := T0.setTop (mkF m 4 #[.val (.int i0), .val (.int i1), .unset, .unset, .unset, .unset, .unset] [(.int (i0 &&& (7 : Int32)))])) (fun t k => XS.iand X0.here hx rfl (hb hby at_3) rfl k) ?_
  refine own_by (B := T0.setTop (mkF m 5 #[.val (.int i0), .val (.int i1), .unset, .val (.int (i0 &&& (7 : Int32))), .unset, .unset, .unset] [])) (fun t k => XS.istoreN X0.here hx rfl (hb hby at_4) rfl (l' := #[.val (.int i0), .val (.int i1), .unset, .val (.int (i0 &&& (7 : Int32))), .unset, .unset, .unset]) rfl k) ?_
  refine own_by (B := T0.setTop (mkF m 6 #[.val (.int i0), .val (.int i1), .unset, .val (.int (i0 &&& (7 : Int32))), .unset, .unset, .unset] [(.int (i0 &&& (7 : Int32)))])) (fun t k => XS.iloadN X0.here hx rfl (hb hby at_5) rfl k) ?_
  obtain ⟨u, hu⟩ : ∃ z : Int32, z = (if (i0 &&& (7 : Int32)) = (0 : Int32) then (32 : Int32) else (if (i0 &&& (7 : Int32)) = (1 : Int32) then (9 : Int32) else (if (i0 &&& (7 : Int32)) = (2 : Int32) then (13 : Int32) else (if (i0 &&& (7 : Int32)) = (3 : Int32) then (10 : Int32) else (i1.toUInt32.toUInt16.toUInt32.toInt32))))) := ⟨_, rfl⟩
  refine own_by (B := T0.setTop (mkF m 51 #[.val (.int i0), .val (.int i1), .val (.int u), .val (.int (i0 &&& (7 : Int32))), .unset, .unset, .unset] [])) (fun t k => ?_) ?_
  ·
    show Steps p.tables e below (T0.setTop (mkF m 6 #[.val (.int i0), .val (.int i1), .unset, .val (.int (i0 &&& (7 : Int32))), .unset, .unset, .unset] [(.int (i0 &&& (7 : Int32)))])) t
    by_cases hm2 : (i0 &&& (7 : Int32)) = (0 : Int32)
    ·
      rw [if_pos hm2] at hu
      refine XS.ifNo X0.here hx rfl (hb hby at_6) rfl ((if0 _ _).trans (teq hm2).2) ?_
      show Steps p.tables e below (T0.setTop (mkF m 9 #[.val (.int i0), .val (.int i1), .unset, .val (.int (i0 &&& (7 : Int32))), .unset, .unset, .unset] [])) t
      show Steps p.tables e below (T0.setTop (mkF m 9 #[.val (.int i0), .val (.int i1), .unset, .val (.int (i0 &&& (7 : Int32))), .unset, .unset, .unset] [])) t
      refine XS.bipush X0.here hx rfl (hb hby at_9) ?_
      show Steps p.tables e below (T0.setTop (mkF m 11 #[.val (.int i0), .val (.int i1), .unset, .val (.int (i0 &&& (7 : Int32))), .unset, .unset, .unset] [(.int (32 : Int32))])) t
      refine XS.istoreN X0.here hx rfl (hb hby at_11) rfl (l' := #[.val (.int i0), .val (.int i1), .val (.int (32 : Int32)), .val (.int (i0 &&& (7 : Int32))), .unset, .unset, .unset]) rfl ?_
      show Steps p.tables e below (T0.setTop (mkF m 12 #[.val (.int i0), .val (.int i1), .val (.int (32 : Int32)), .val (.int (i0 &&& (7 : Int32))), .unset, .unset, .unset] [])) t
      refine XS.goto X0.here hx rfl (pc0 := 12) (pc' := 51) rfl (hb hby at_12) (by decide) (by decide) ?_
      show Steps p.tables e below (T0.setTop (mkF m 51 #[.val (.int i0), .val (.int i1), .val (.int (32 : Int32)), .val (.int (i0 &&& (7 : Int32))), .unset, .unset, .unset] [])) t
      subst hu
      exact k
    ·
      rw [if_neg hm2] at hu
      refine XS.ifYes X0.here hx rfl (pc0 := 6) (pc' := 15) rfl (hb hby at_6) rfl ((if0 _ _).trans (feq hm2).2) (by decide) (by decide) ?_
      show Steps p.tables e below (T0.setTop (mkF m 15 #[.val (.int i0), .val (.int i1), .unset, .val (.int (i0 &&& (7 : Int32))), .unset, .unset, .unset] [])) t
      show Steps p.tables e below (T0.setTop (mkF m 15 #[.val (.int i0), .val (.int i1), .unset, .val (.int (i0 &&& (7 : Int32))), .unset, .unset, .unset] [])) t
      refine XS.iloadN X0.here hx rfl (hb hby at_15) rfl ?_
      show Steps p.tables e below (T0.setTop (mkF m 16 #[.val (.int i0), .val (.int i1), .unset, .val (.int (i0 &&& (7 : Int32))), .unset, .unset, .unset] [(.int (i0 &&& (7 : Int32)))])) t
      refine XS.iconst X0.here hx rfl (hb hby at_16) ?_
      show Steps p.tables e below (T0.setTop (mkF m 17 #[.val (.int i0), .val (.int i1), .unset, .val (.int (i0 &&& (7 : Int32))), .unset, .unset, .unset] [(.int (1 : Int32)), (.int (i0 &&& (7 : Int32)))])) t
      by_cases hm3 : (i0 &&& (7 : Int32)) = (1 : Int32)
      ·
        rw [if_pos hm3] at hu
        refine XS.icmpNo X0.here hx rfl (hb hby at_17) rfl (teq hm3).2 ?_
        show Steps p.tables e below (T0.setTop (mkF m 20 #[.val (.int i0), .val (.int i1), .unset, .val (.int (i0 &&& (7 : Int32))), .unset, .unset, .unset] [])) t
        show Steps p.tables e below (T0.setTop (mkF m 20 #[.val (.int i0), .val (.int i1), .unset, .val (.int (i0 &&& (7 : Int32))), .unset, .unset, .unset] [])) t
        refine XS.bipush X0.here hx rfl (hb hby at_20) ?_
        show Steps p.tables e below (T0.setTop (mkF m 22 #[.val (.int i0), .val (.int i1), .unset, .val (.int (i0 &&& (7 : Int32))), .unset, .unset, .unset] [(.int (9 : Int32))])) t
        refine XS.istoreN X0.here hx rfl (hb hby at_22) rfl (l' := #[.val (.int i0), .val (.int i1), .val (.int (9 : Int32)), .val (.int (i0 &&& (7 : Int32))), .unset, .unset, .unset]) rfl ?_
        show Steps p.tables e below (T0.setTop (mkF m 23 #[.val (.int i0), .val (.int i1), .val (.int (9 : Int32)), .val (.int (i0 &&& (7 : Int32))), .unset, .unset, .unset] [])) t
        refine XS.goto X0.here hx rfl (pc0 := 23) (pc' := 51) rfl (hb hby at_23) (by decide) (by decide) ?_
        show Steps p.tables e below (T0.setTop (mkF m 51 #[.val (.int i0), .val (.int i1), .val (.int (9 : Int32)), .val (.int (i0 &&& (7 : Int32))), .unset, .unset, .unset] [])) t
        subst hu
        exact k
      ·
        rw [if_neg hm3] at hu
        refine XS.icmpYes X0.here hx rfl (pc0 := 17) (pc' := 26) rfl (hb hby at_17) rfl (feq hm3).2 (by decide) (by decide) ?_
        show Steps p.tables e below (T0.setTop (mkF m 26 #[.val (.int i0), .val (.int i1), .unset, .val (.int (i0 &&& (7 : Int32))), .unset, .unset, .unset] [])) t
        show Steps p.tables e below (T0.setTop (mkF m 26 #[.val (.int i0), .val (.int i1), .unset, .val (.int (i0 &&& (7 : Int32))), .unset, .unset, .unset] [])) t
        refine XS.iloadN X0.here hx rfl (hb hby at_26) rfl ?_
        show Steps p.tables e below (T0.setTop (mkF m 27 #[.val (.int i0), .val (.int i1), .unset, .val (.int (i0 &&& (7 : Int32))), .unset, .unset, .unset] [(.int (i0 &&& (7 : Int32)))])) t
        refine XS.iconst X0.here hx rfl (hb hby at_27) ?_
        show Steps p.tables e below (T0.setTop (mkF m 28 #[.val (.int i0), .val (.int i1), .unset, .val (.int (i0 &&& (7 : Int32))), .unset, .unset, .unset] [(.int (2 : Int32)), (.int (i0 &&& (7 : Int32)))])) t
        by_cases hm4 : (i0 &&& (7 : Int32)) = (2 : Int32)
        ·
          rw [if_pos hm4] at hu
          refine XS.icmpNo X0.here hx rfl (hb hby at_28) rfl (teq hm4).2 ?_
          show Steps p.tables e below (T0.setTop (mkF m 31 #[.val (.int i0), .val (.int i1), .unset, .val (.int (i0 &&& (7 : Int32))), .unset, .unset, .unset] [])) t
          show Steps p.tables e below (T0.setTop (mkF m 31 #[.val (.int i0), .val (.int i1), .unset, .val (.int (i0 &&& (7 : Int32))), .unset, .unset, .unset] [])) t
          refine XS.bipush X0.here hx rfl (hb hby at_31) ?_
          show Steps p.tables e below (T0.setTop (mkF m 33 #[.val (.int i0), .val (.int i1), .unset, .val (.int (i0 &&& (7 : Int32))), .unset, .unset, .unset] [(.int (13 : Int32))])) t
          refine XS.istoreN X0.here hx rfl (hb hby at_33) rfl (l' := #[.val (.int i0), .val (.int i1), .val (.int (13 : Int32)), .val (.int (i0 &&& (7 : Int32))), .unset, .unset, .unset]) rfl ?_
          show Steps p.tables e below (T0.setTop (mkF m 34 #[.val (.int i0), .val (.int i1), .val (.int (13 : Int32)), .val (.int (i0 &&& (7 : Int32))), .unset, .unset, .unset] [])) t
          refine XS.goto X0.here hx rfl (pc0 := 34) (pc' := 51) rfl (hb hby at_34) (by decide) (by decide) ?_
          show Steps p.tables e below (T0.setTop (mkF m 51 #[.val (.int i0), .val (.int i1), .val (.int (13 : Int32)), .val (.int (i0 &&& (7 : Int32))), .unset, .unset, .unset] [])) t
          subst hu
          exact k
        ·
          rw [if_neg hm4] at hu
          refine XS.icmpYes X0.here hx rfl (pc0 := 28) (pc' := 37) rfl (hb hby at_28) rfl (feq hm4).2 (by decide) (by decide) ?_
          show Steps p.tables e below (T0.setTop (mkF m 37 #[.val (.int i0), .val (.int i1), .unset, .val (.int (i0 &&& (7 : Int32))), .unset, .unset, .unset] [])) t
          show Steps p.tables e below (T0.setTop (mkF m 37 #[.val (.int i0), .val (.int i1), .unset, .val (.int (i0 &&& (7 : Int32))), .unset, .unset, .unset] [])) t
          refine XS.iloadN X0.here hx rfl (hb hby at_37) rfl ?_
          show Steps p.tables e below (T0.setTop (mkF m 38 #[.val (.int i0), .val (.int i1), .unset, .val (.int (i0 &&& (7 : Int32))), .unset, .unset, .unset] [(.int (i0 &&& (7 : Int32)))])) t
          refine XS.iconst X0.here hx rfl (hb hby at_38) ?_
          show Steps p.tables e below (T0.setTop (mkF m 39 #[.val (.int i0), .val (.int i1), .unset, .val (.int (i0 &&& (7 : Int32))), .unset, .unset, .unset] [(.int (3 : Int32)), (.int (i0 &&& (7 : Int32)))])) t
          by_cases hm5 : (i0 &&& (7 : Int32)) = (3 : Int32)
          ·
            rw [if_pos hm5] at hu
            refine XS.icmpNo X0.here hx rfl (hb hby at_39) rfl (teq hm5).2 ?_
            show Steps p.tables e below (T0.setTop (mkF m 42 #[.val (.int i0), .val (.int i1), .unset, .val (.int (i0 &&& (7 : Int32))), .unset, .unset, .unset] [])) t
            show Steps p.tables e below (T0.setTop (mkF m 42 #[.val (.int i0), .val (.int i1), .unset, .val (.int (i0 &&& (7 : Int32))), .unset, .unset, .unset] [])) t
            refine XS.bipush X0.here hx rfl (hb hby at_42) ?_
            show Steps p.tables e below (T0.setTop (mkF m 44 #[.val (.int i0), .val (.int i1), .unset, .val (.int (i0 &&& (7 : Int32))), .unset, .unset, .unset] [(.int (10 : Int32))])) t
            refine XS.istoreN X0.here hx rfl (hb hby at_44) rfl (l' := #[.val (.int i0), .val (.int i1), .val (.int (10 : Int32)), .val (.int (i0 &&& (7 : Int32))), .unset, .unset, .unset]) rfl ?_
            show Steps p.tables e below (T0.setTop (mkF m 45 #[.val (.int i0), .val (.int i1), .val (.int (10 : Int32)), .val (.int (i0 &&& (7 : Int32))), .unset, .unset, .unset] [])) t
            refine XS.goto X0.here hx rfl (pc0 := 45) (pc' := 51) rfl (hb hby at_45) (by decide) (by decide) ?_
            show Steps p.tables e below (T0.setTop (mkF m 51 #[.val (.int i0), .val (.int i1), .val (.int (10 : Int32)), .val (.int (i0 &&& (7 : Int32))), .unset, .unset, .unset] [])) t
            subst hu
            exact k
          ·
            rw [if_neg hm5] at hu
            refine XS.icmpYes X0.here hx rfl (pc0 := 39) (pc' := 48) rfl (hb hby at_39) rfl (feq hm5).2 (by decide) (by decide) ?_
            show Steps p.tables e below (T0.setTop (mkF m 48 #[.val (.int i0), .val (.int i1), .unset, .val (.int (i0 &&& (7 : Int32))), .unset, .unset, .unset] [])) t
            show Steps p.tables e below (T0.setTop (mkF m 48 #[.val (.int i0), .val (.int i1), .unset, .val (.int (i0 &&& (7 : Int32))), .unset, .unset, .unset] [])) t
            refine XS.iloadN X0.here hx rfl (hb hby at_48) rfl ?_
            show Steps p.tables e below (T0.setTop (mkF m 49 #[.val (.int i0), .val (.int i1), .unset, .val (.int (i0 &&& (7 : Int32))), .unset, .unset, .unset] [(.int i1)])) t
            refine XS.i2c X0.here hx rfl (hb hby at_49) rfl ?_
            show Steps p.tables e below (T0.setTop (mkF m 50 #[.val (.int i0), .val (.int i1), .unset, .val (.int (i0 &&& (7 : Int32))), .unset, .unset, .unset] [(.int (i1.toUInt32.toUInt16.toUInt32.toInt32))])) t
            refine XS.istoreN X0.here hx rfl (hb hby at_50) rfl (l' := #[.val (.int i0), .val (.int i1), .val (.int (i1.toUInt32.toUInt16.toUInt32.toInt32)), .val (.int (i0 &&& (7 : Int32))), .unset, .unset, .unset]) rfl ?_
            show Steps p.tables e below (T0.setTop (mkF m 51 #[.val (.int i0), .val (.int i1), .val (.int (i1.toUInt32.toUInt16.toUInt32.toInt32)), .val (.int (i0 &&& (7 : Int32))), .unset, .unset, .unset] [])) t
            subst hu
            exact k
  have hu0 : ¬ u < 0 := own_char (i0 &&& (7 : Int32)) i1 u hu
  refine own_by (B := T0.setTop (mkF m 54 #[.val (.int i0), .val (.int i1), .val (.int u), .val (.int (i0 &&& (7 : Int32))), .unset, .unset, .unset] [(.long (4294977024 : Int64))])) (fun t k => X0.ldc2Long hx hown (mvT hZ (hw _ (List.mem_of_getElem? (i := 0) rfl))) (g := (mkF m 51 #[.val (.int i0), .val (.int i1), .val (.int u), .val (.int (i0 &&& (7 : Int32))), .unset, .unset, .unset] [])) rfl (hb hby at_51) _ k) ?_
  refine own_by (B := T0.setTop (mkF m 56 #[.val (.int i0), .val (.int i1), .val (.int u), .val (.int (i0 &&& (7 : Int32))), .val (.long (4294977024 : Int64)), .second, .unset] [])) (fun t k => XS.lstore X0.here hx rfl (hb hby at_54) rfl (l' := #[.val (.int i0), .val (.int i1), .val (.int u), .val (.int (i0 &&& (7 : Int32))), .val (.long (4294977024 : Int64)), .second, .unset]) rfl k) ?_
  refine own_by (B := T0.setTop (mkF m 57 #[.val (.int i0), .val (.int i1), .val (.int u), .val (.int (i0 &&& (7 : Int32))), .val (.long (4294977024 : Int64)), .second, .unset] [(.int u)])) (fun t k => XS.iloadN X0.here hx rfl (hb hby at_56) rfl k) ?_
  refine own_by (B := T0.setTop (mkF m 59 #[.val (.int i0), .val (.int i1), .val (.int u), .val (.int (i0 &&& (7 : Int32))), .val (.long (4294977024 : Int64)), .second, .unset] [(.int (64 : Int32)), (.int u)])) (fun t k => XS.bipush X0.here hx rfl (hb hby at_57) k) ?_
  obtain ⟨w, hw6⟩ : ∃ z : Int32, z = (if u < (64 : Int32) then (if ((((4294977024 : Int64).toUInt64 >>> (u &&& 0x3f).toInt64.toUInt64).toInt64) &&& (1 : Int64)) = (0 : Int64) then (0 : Int32) else (1 : Int32)) else (0 : Int32)) := ⟨_, rfl⟩
  refine own_by (B := T0.setTop (mkF m 78 #[.val (.int i0), .val (.int i1), .val (.int u), .val (.int (i0 &&& (7 : Int32))), .val (.long (4294977024 : Int64)), .second, .unset] [(.int w)])) (fun t k => ?_) ?_
  ·
    show Steps p.tables e below (T0.setTop (mkF m 59 #[.val (.int i0), .val (.int i1), .val (.int u), .val (.int (i0 &&& (7 : Int32))), .val (.long (4294977024 : Int64)), .second, .unset] [(.int (64 : Int32)), (.int u)])) t
    by_cases hm7 : u < (64 : Int32)
    ·
      rw [if_pos hm7] at hw6
      refine XS.icmpNo X0.here hx rfl (hb hby at_59) rfl (tlt hm7).2.1 ?_
      show Steps p.tables e below (T0.setTop (mkF m 62 #[.val (.int i0), .val (.int i1), .val (.int u), .val (.int (i0 &&& (7 : Int32))), .val (.long (4294977024 : Int64)), .second, .unset] [])) t
      show Steps p.tables e below (T0.setTop (mkF m 62 #[.val (.int i0), .val (.int i1), .val (.int u), .val (.int (i0 &&& (7 : Int32))), .val (.long (4294977024 : Int64)), .second, .unset] [])) t
      refine XS.lload X0.here hx rfl (hb hby at_62) rfl ?_
      show Steps p.tables e below (T0.setTop (mkF m 64 #[.val (.int i0), .val (.int i1), .val (.int u), .val (.int (i0 &&& (7 : Int32))), .val (.long (4294977024 : Int64)), .second, .unset] [(.long (4294977024 : Int64))])) t
      refine XS.iloadN X0.here hx rfl (hb hby at_64) rfl ?_
      show Steps p.tables e below (T0.setTop (mkF m 65 #[.val (.int i0), .val (.int i1), .val (.int u), .val (.int (i0 &&& (7 : Int32))), .val (.long (4294977024 : Int64)), .second, .unset] [(.int u), (.long (4294977024 : Int64))])) t
      refine XS.lushr X0.here hx rfl (hb hby at_65) rfl ?_
      show Steps p.tables e below (T0.setTop (mkF m 66 #[.val (.int i0), .val (.int i1), .val (.int u), .val (.int (i0 &&& (7 : Int32))), .val (.long (4294977024 : Int64)), .second, .unset] [(.long (((4294977024 : Int64).toUInt64 >>> (u &&& 0x3f).toInt64.toUInt64).toInt64))])) t
      refine XS.lconst X0.here hx rfl (hb hby at_66) ?_
      show Steps p.tables e below (T0.setTop (mkF m 67 #[.val (.int i0), .val (.int i1), .val (.int u), .val (.int (i0 &&& (7 : Int32))), .val (.long (4294977024 : Int64)), .second, .unset] [(.long (1 : Int64)), (.long (((4294977024 : Int64).toUInt64 >>> (u &&& 0x3f).toInt64.toUInt64).toInt64))])) t
      refine XS.land X0.here hx rfl (hb hby at_67) rfl ?_
      show Steps p.tables e below (T0.setTop (mkF m 68 #[.val (.int i0), .val (.int i1), .val (.int u), .val (.int (i0 &&& (7 : Int32))), .val (.long (4294977024 : Int64)), .second, .unset] [(.long ((((4294977024 : Int64).toUInt64 >>> (u &&& 0x3f).toInt64.toUInt64).toInt64) &&& (1 : Int64)))])) t
      refine XS.lconst X0.here hx rfl (hb hby at_68) ?_
      show Steps p.tables e below (T0.setTop (mkF m 69 #[.val (.int i0), .val (.int i1), .val (.int u), .val (.int (i0 &&& (7 : Int32))), .val (.long (4294977024 : Int64)), .second, .unset] [(.long (0 : Int64)), (.long ((((4294977024 : Int64).toUInt64 >>> (u &&& 0x3f).toInt64.toUInt64).toInt64) &&& (1 : Int64)))])) t
      refine XS.lcmp X0.here hx rfl (hb hby at_69) rfl ?_
      show Steps p.tables e below (T0.setTop (mkF m 70 #[.val (.int i0), .val (.int i1), .val (.int u), .val (.int (i0 &&& (7 : Int32))), .val (.long (4294977024 : Int64)), .second, .unset] [(.int (lcmpW ((((4294977024 : Int64).toUInt64 >>> (u &&& 0x3f).toInt64.toUInt64).toInt64) &&& (1 : Int64)) (0 : Int64)))])) t
      by_cases hm8 : ((((4294977024 : Int64).toUInt64 >>> (u &&& 0x3f).toInt64.toUInt64).toInt64) &&& (1 : Int64)) = (0 : Int64)
      ·
        rw [if_pos hm8] at hw6
        refine XS.ifYes X0.here hx rfl (pc0 := 70) (pc' := 77) rfl (hb hby at_70) rfl ((if0 _ _).trans (teq ((lw_eq _ _).mpr hm8)).1) (by decide) (by decide) ?_
        show Steps p.tables e below (T0.setTop (mkF m 77 #[.val (.int i0), .val (.int i1), .val (.int u), .val (.int (i0 &&& (7 : Int32))), .val (.long (4294977024 : Int64)), .second, .unset] [])) t
        show Steps p.tables e below (T0.setTop (mkF m 77 #[.val (.int i0), .val (.int i1), .val (.int u), .val (.int (i0 &&& (7 : Int32))), .val (.long (4294977024 : Int64)), .second, .unset] [])) t
        refine XS.iconst X0.here hx rfl (hb hby at_77) ?_
        show Steps p.tables e below (T0.setTop (mkF m 78 #[.val (.int i0), .val (.int i1), .val (.int u), .val (.int (i0 &&& (7 : Int32))), .val (.long (4294977024 : Int64)), .second, .unset] [(.int (0 : Int32))])) t
        subst hw6
        exact k
      ·
        rw [if_neg hm8] at hw6
        refine XS.ifNo X0.here hx rfl (hb hby at_70) rfl ((if0 _ _).trans (feq (fun q => hm8 ((lw_eq _ _).mp q))).1) ?_
        show Steps p.tables e below (T0.setTop (mkF m 73 #[.val (.int i0), .val (.int i1), .val (.int u), .val (.int (i0 &&& (7 : Int32))), .val (.long (4294977024 : Int64)), .second, .unset] [])) t
        show Steps p.tables e below (T0.setTop (mkF m 73 #[.val (.int i0), .val (.int i1), .val (.int u), .val (.int (i0 &&& (7 : Int32))), .val (.long (4294977024 : Int64)), .second, .unset] [])) t
        refine XS.iconst X0.here hx rfl (hb hby at_73) ?_
        show Steps p.tables e below (T0.setTop (mkF m 74 #[.val (.int i0), .val (.int i1), .val (.int u), .val (.int (i0 &&& (7 : Int32))), .val (.long (4294977024 : Int64)), .second, .unset] [(.int (1 : Int32))])) t
        refine XS.goto X0.here hx rfl (pc0 := 74) (pc' := 78) rfl (hb hby at_74) (by decide) (by decide) ?_
        show Steps p.tables e below (T0.setTop (mkF m 78 #[.val (.int i0), .val (.int i1), .val (.int u), .val (.int (i0 &&& (7 : Int32))), .val (.long (4294977024 : Int64)), .second, .unset] [(.int (1 : Int32))])) t
        subst hw6
        exact k
    ·
      rw [if_neg hm7] at hw6
      refine XS.icmpYes X0.here hx rfl (pc0 := 59) (pc' := 77) rfl (hb hby at_59) rfl (flt hm7).2.1 (by decide) (by decide) ?_
      show Steps p.tables e below (T0.setTop (mkF m 77 #[.val (.int i0), .val (.int i1), .val (.int u), .val (.int (i0 &&& (7 : Int32))), .val (.long (4294977024 : Int64)), .second, .unset] [])) t
      show Steps p.tables e below (T0.setTop (mkF m 77 #[.val (.int i0), .val (.int i1), .val (.int u), .val (.int (i0 &&& (7 : Int32))), .val (.long (4294977024 : Int64)), .second, .unset] [])) t
      refine XS.iconst X0.here hx rfl (hb hby at_77) ?_
      show Steps p.tables e below (T0.setTop (mkF m 78 #[.val (.int i0), .val (.int i1), .val (.int u), .val (.int (i0 &&& (7 : Int32))), .val (.long (4294977024 : Int64)), .second, .unset] [(.int (0 : Int32))])) t
      subst hw6
      exact k
  refine own_by (B := T0.setTop (mkF m 80 #[.val (.int i0), .val (.int i1), .val (.int u), .val (.int (i0 &&& (7 : Int32))), .val (.long (4294977024 : Int64)), .second, .val (.int w)] [])) (fun t k => XS.istore X0.here hx rfl (hb hby at_78) rfl (l' := #[.val (.int i0), .val (.int i1), .val (.int u), .val (.int (i0 &&& (7 : Int32))), .val (.long (4294977024 : Int64)), .second, .val (.int w)]) rfl k) ?_
  refine own_by (B := T0.setTop (mkF m 81 #[.val (.int i0), .val (.int i1), .val (.int u), .val (.int (i0 &&& (7 : Int32))), .val (.long (4294977024 : Int64)), .second, .val (.int w)] [(.int u)])) (fun t k => XS.iloadN X0.here hx rfl (hb hby at_80) rfl k) ?_
  obtain ⟨v9, _, ⟨T9, L9, c9, n9⟩, -, X9, ⟨Lc9, hQ9, l9, y9, z9⟩, st9⟩ := Jvm.LawKit.callS X0 hx (y := (⟨"com/example/siegelbund/siegelbund/core/xml/XmlChars", "isWhitespace", "(C)Z"⟩ : MethodName)) hown (mvT hZ (hw _ (List.mem_of_getElem? (i := 1) rfl))) (mvT hZ (hw _ (List.mem_of_getElem? (i := 2) rfl))) (mvT hZ (hw _ (List.mem_of_getElem? (i := 3) rfl))) (mvT hZ (hw _ (List.mem_of_getElem? (i := 4) rfl))) (by decide) (backOf (W := 0) (rm1 l Z a0 hw [] u  h0 ) hZ (hw _ (List.mem_of_getElem? (i := 4) rfl)) (hw _ (List.mem_of_getElem? (i := 3) rfl)) (by decide) (by decide)) (g := (mkF m 81 #[.val (.int i0), .val (.int i1), .val (.int u), .val (.int (i0 &&& (7 : Int32))), .val (.long (4294977024 : Int64)), .second, .val (.int w)] [(.int u)])) rfl (by rw [hml]; rfl) (argsL := [(.int u)]) (rest := []) (lenOf pd_0 rfl) rfl (by show 2 * 0 + _ ≤ _; exact Nat.le_of_eq rfl) (hb hby at_81) (fun _ _ => ⟨rfl, e0, (by decide : 0 + 0 ≤ _), (by decide : 0 + 0 ≤ _)⟩)
  dsimp only [Pt.U, Pt.locs, Pt.cells, Pt.slots] at X9 l9 y9 z9 st9 hQ9
  subst l9 y9 z9
  obtain ⟨rfl, rfl, e9⟩ := hQ9
  have NF := Fr.app NF (Fr.nil n0)
  refine own_by (B := T9.setTop (mkF m 84 #[.val (.int i0), .val (.int i1), .val (.int u), .val (.int (i0 &&& (7 : Int32))), .val (.long (4294977024 : Int64)), .second, .val (.int w)] [(.int (f1_0 u))])) (fun t k => st9 _ k) ?_
  refine own_by (B := T9.setTop (mkF m 86 #[.val (.int i0), .val (.int i1), .val (.int u), .val (.int (i0 &&& (7 : Int32))), .val (.long (4294977024 : Int64)), .second, .val (.int w)] [(.int w), (.int (f1_0 u))])) (fun t k => XS.iload X9.here hx rfl (hb hby at_84) rfl k) ?_
  have hc10 : (f1_0 u) = w := own_main u w hu0 hw6
  refine own_by (B := T9.setTop (mkF m 89 #[.val (.int i0), .val (.int i1), .val (.int u), .val (.int (i0 &&& (7 : Int32))), .val (.long (4294977024 : Int64)), .second, .val (.int w)] [])) (fun t k => XS.icmpNo X9.here hx rfl (hb hby at_86) rfl (teq hc10).2 k) ?_
  refine own_by (B := T9.setTop (mkF m 90 #[.val (.int i0), .val (.int i1), .val (.int u), .val (.int (i0 &&& (7 : Int32))), .val (.long (4294977024 : Int64)), .second, .val (.int w)] [(.int (1 : Int32))])) (fun t k => XS.iconst X9.here hx rfl (hb hby at_89) k) ?_
  refine own_by (B := T9.setTop (mkF m 94 #[.val (.int i0), .val (.int i1), .val (.int u), .val (.int (i0 &&& (7 : Int32))), .val (.long (4294977024 : Int64)), .second, .val (.int w)] [(.int (1 : Int32))])) (fun t k => XS.goto X9.here hx rfl (pc0 := 90) (pc' := 94) rfl (hb hby at_90) (by decide) (by decide) k) ?_
  exact own_retN (t := .boolean) (by simp) X9 hx hlk hret (z' := (1 : Int32)) (by decide) (hb hby at_94) ⟨rfl, NF⟩ (by decide) (by decide)
set_option maxRecDepth 65536 in
set_option maxHeartbeats 40000000 in
theorem comes_1 {Post : Tables → Env → Array Value → State → Outcome → State → Prop} (hpost : ∀ tb e args s v u, (limb_1_1.after args s (.returned v) u = true ∧ limb_1_2.after args s (.returned v) u = true ∧ True) → FrameEnd s (.returned v) u (Jvm.fieldLocs frame_1_writes args s ++ Jvm.arrayLocs frame_1_arrays args s ++ Jvm.staticLocs frame_1_statics s) 0 0 → Post tb e args s (.returned v) u) :
    ArmFor flags0 classFile x code maxLocals ret World_1 tables_1 room_1 Calls_1 rest_1 Pre_1 Post := by
  intro l hfl _ _ p e ha hc hk s m args below hf hA hF happ hP
  obtain ⟨hcalls, hrest, hpre⟩ := hP
  obtain ⟨-, -, -, hnamed, -, -, -, hat⟩ := (Spec.applies_iff hf).mp happ
  obtain ⟨hg, hn⟩ := and_e (Cond.before_iff.mp (show (Jvm.Cond.and given_1 narrow_1).before args s = true from hpre))
  obtain ⟨gg1, gg2⟩ := and_e hg
  obtain ⟨gg3, gg4⟩ := and_e gg2
  obtain ⟨w0, w1, rfl⟩ : ∃ w0 w1 : Value, args = #[w0, w1] := by
    have hs : args.size = 2 := by simpa [Cond.value, given_1] using gg1
    obtain ⟨L⟩ := args
    match L, hs with
    | [w0, w1], _ => exact ⟨w0, w1, rfl⟩
  have hw := fun d (hd : d ∈ tables_1) => atoms_spec (ws := Jvm.Cond.code x code maxLocals ret :: tables_1) hat d (List.mem_cons_of_mem _ hd)
  obtain ⟨i0, ei0⟩ := is_v gg3
  obtain rfl : w0 = (.int i0) := Option.some.inj ei0
  obtain ⟨i1, ei1⟩ := is_v gg4
  obtain rfl : w1 = (.int i1) := Option.some.inj ei1
  obtain ⟨n, o, h1, h2, h3, _, L, rfl, ⟨rfl, N⟩, hq⟩ := rm0 l s _ hw tables_1 i0 i1 s.heap s.heap.size (Nat.le_refl _) p e ha hc hk s m _ below hf ((Spec.applies_iff_loose hf).mp happ).1 ⟨rfl, State.Warmed39.refl s, rfl⟩ trivial
  refine ⟨n, _, h1, h2, h3, hpost _ _ _ _ _ _ ⟨Cond.after_iff.mpr rfl, Cond.after_iff.mpr (eq_i res_at (Term.int_eval (1)) rfl), trivial⟩ ⟨hq.1, hq.2.1, (hq.2.2.sift fun y hy => Or.inr (N y hy)).mono (by decide) (by decide)⟩⟩
theorem main_1_1 : Claimed_1_1 := comes_1 fun _ _ _ _ _ _ h hF => ⟨h.1, hF⟩
theorem main_1_2 : Claimed_1_2 := comes_1 fun _ _ _ _ _ _ h hF => ⟨h.2.1, hF⟩
end Jvm.Pilot.@@N@@
namespace Jvm.Pilot.@@N@@
open Jvm Jvm.ClassFile Sem Op Lib Jvm.Free Jvm.Stand Jvm.Pilot.@@N@@.Jvm.D
/-! MADE BY PROGRAM (witnessworld.py) out of the Statement's table words and the real class files: 9 classes; the members and pool entries that the words name. The judged class is class 1, her method 1. -/
namespace start1
open Jvm.ClassFile
def u (s : String) : CpInfo := .utf8 (stringToUtf16 s)
/-- a pool by its gaps: so many unusable entries, then the entry; so many at the end -/
def gap : Nat → List CpInfo → List CpInfo
  | 0, r => r
  | n + 1, r => .unusable :: gap n r
def poolList (es : List (Nat × CpInfo)) (last : Nat) : List CpInfo := es.foldr (fun e r => gap e.1 (e.2 :: r)) (gap last [])
def pool (es : List (Nat × CpInfo)) (last : Nat) : Array CpInfo := ⟨poolList es last⟩
def fileOf (pool : Array CpInfo) (this : Nat) (attrs : Array Attribute := #[]) (ms : Array MethodInfo := #[]) (fl : Nat := 33) (sup : Nat := 0) (ifs : Array Nat := #[]) (fds : Array FieldInfo := #[]) : ClassFile where
  minorVersion := 0
  majorVersion := 65
  constantPool := pool
  accessFlags := fl
  thisClass := this
  superClass := sup
  interfaces := ifs
  fields := fds
  methods := ms
  attributes := attrs
def plain (name : String) (sup : Option ClassId) : Class where
  name := name
  kind := .ordinary
  loader := none
  accessFlags := 33
  super := sup
  interfaces := #[]
  cf := none
  fields := #[]
  methods := #[]
  instanceTypes := #[]
  staticTypes := #[]
  resolved := #[]
  callSites := []
  init := .initialized
  statics := none
  mirror := none

def pool0 : Array CpInfo := pool [(5, u "<init>"), (0, u "()V"), (1, .class_ 10), (1, u "java/lang/Object")] 113

def k0m0 : Method := { name := "<init>", desc := "()V", sig := { parameters := [], returnType := none }, accessFlags := 1, code := none }
/-- java/lang/Object -/
def k0 : Class := { plain "java/lang/Object" none with
  accessFlags := 33
  interfaces := #[]
  cf := some (fileOf pool0 8 #[] #[{ accessFlags := 1, nameIndex := 5, descriptorIndex := 6, attributes := #[] }] 33 0 #[] #[])
  fields := #[]
  methods := #[k0m0]
  instanceTypes := #[]
  staticTypes := #[]
  resolved := Array.replicate 124 none
  statics := none }

def pool1 : Array CpInfo := pool [(2, .class_ 4), (1, u "java/lang/Object"), (0, u "<init>"), (0, u "()V"), (0, .long 4294977024), (1, .methodref 10 11), (0, .class_ 12), (0, .nameAndType 13 14), (0, u "com/example/siegelbund/siegelbund/core/xml/XmlChars"), (0, u "isWhitespace"), (0, u "(C)Z"), (0, .class_ 16), (0, u "com/example/siegelbund/siegelbund/core/xml/XmlCharsIsWhitespacePinLaw"), (2, u "law"), (0, u "(II)Z")] 3

def k1m0 : Method := { name := "<init>", desc := "()V", sig := { parameters := [], returnType := none }, accessFlags := 1, code := none }
def k1c1 : Code := { maxStack := 4, maxLocals := 7, code := code, exceptionTable := #[], attributes := #[] }
def k1m1 : Method := { name := "law", desc := "(II)Z", sig := { parameters := [.int, .int], returnType := some .boolean }, accessFlags := 9, code := some k1c1 }
/-- com/example/siegelbund/siegelbund/core/xml/XmlCharsIsWhitespacePinLaw -/
def k1 : Class := { plain "com/example/siegelbund/siegelbund/core/xml/XmlCharsIsWhitespacePinLaw" (some 0) with
  accessFlags := 49
  interfaces := #[]
  cf := some (fileOf pool1 15 #[] #[{ accessFlags := 1, nameIndex := 5, descriptorIndex := 6, attributes := #[] }, { accessFlags := 9, nameIndex := 19, descriptorIndex := 20, attributes := #[] }] 49 2 #[] #[])
  fields := #[]
  methods := #[k1m0, k1m1]
  instanceTypes := #[]
  staticTypes := #[]
  resolved := Array.replicate 24 none
  statics := none }

def pool2 : Array CpInfo := pool [(2, .class_ 4), (1, u "java/lang/Object"), (0, u "<init>"), (0, u "()V"), (11, .class_ 20), (1, u "com/example/siegelbund/siegelbund/core/xml/XmlChars"), (0, u "isWhitespace"), (0, u "(C)Z")] 18

def k2m0 : Method := { name := "<init>", desc := "()V", sig := { parameters := [], returnType := none }, accessFlags := 2, code := none }
def k2c1 : Code := { maxStack := 2, maxLocals := 1, code := prog_15_method_2_code, exceptionTable := #[], attributes := #[] }
def k2m1 : Method := { name := "isWhitespace", desc := "(C)Z", sig := { parameters := [.char], returnType := some .boolean }, accessFlags := 9, code := some k2c1 }
/-- com/example/siegelbund/siegelbund/core/xml/XmlChars -/
def k2 : Class := { plain "com/example/siegelbund/siegelbund/core/xml/XmlChars" (some 0) with
  accessFlags := 49
  interfaces := #[]
  cf := some (fileOf pool2 18 #[] #[{ accessFlags := 2, nameIndex := 5, descriptorIndex := 6, attributes := #[] }, { accessFlags := 9, nameIndex := 21, descriptorIndex := 22, attributes := #[] }] 49 2 #[] #[])
  fields := #[]
  methods := #[k2m0, k2m1]
  instanceTypes := #[]
  staticTypes := #[]
  resolved := Array.replicate 41 none
  statics := none }

def pool3 : Array CpInfo := pool [(1, u "java/lang/Cloneable"), (0, .class_ 1), (0, u "java/lang/Object"), (0, .class_ 3)] 3

/-- java/lang/Cloneable -/
def k3 : Class := { plain "java/lang/Cloneable" (some 0) with
  accessFlags := 1537
  interfaces := #[]
  cf := some (fileOf pool3 2 #[] #[] 1537 4 #[] #[])
  fields := #[]
  methods := #[]
  instanceTypes := #[]
  staticTypes := #[]
  resolved := Array.replicate 8 none
  statics := none }

def pool4 : Array CpInfo := pool [(1, u "java/io/Serializable"), (0, .class_ 1), (0, u "java/lang/Object"), (0, .class_ 3)] 3

/-- java/io/Serializable -/
def k4 : Class := { plain "java/io/Serializable" (some 0) with
  accessFlags := 1537
  interfaces := #[]
  cf := some (fileOf pool4 2 #[] #[] 1537 4 #[] #[])
  fields := #[]
  methods := #[]
  instanceTypes := #[]
  staticTypes := #[]
  resolved := Array.replicate 8 none
  statics := none }

/-- the primitive byte -/
def k5 : Class := { plain "byte" none with kind := .primitive 'B', accessFlags := 0x411 }
/-- [B -/
def k6 : Class := { plain "[B" (some 0) with kind := .array 5 .byte, interfaces := #[3, 4], accessFlags := 1041 }

/-- the primitive int -/
def k7 : Class := { plain "int" none with kind := .primitive 'I', accessFlags := 0x411 }
/-- [I -/
def k8 : Class := { plain "[I" (some 0) with kind := .array 7 .int, interfaces := #[3, 4], accessFlags := 1041 }

def heap : Heap := #[]
def classes : Array Class := #[k0, k1, k2, k3, k4, k5, k6, k7, k8]
def interned : List (Array UInt16 × Addr) := []
def slotsUsed : Nat := 0
def theMethod : MethodId := ⟨1, 1⟩
def args0 : Array Value := #[.int 5, .int 7]
def aboutOver (below : List Frame) : State where
  vm := { classes := classes, interned := interned.toArray }
  heap := heap
  slotsUsed := slotsUsed
  threads := #[{ frames := .invoking theMethod args0 :: below }]
def below0 : List Frame := [.native { method := ⟨0, 0⟩, args := #[] }]
def about1 : State := aboutOver below0
def p0 : Program := .bare "" "" ""
def e0 : Env := launch0.env 0 0 0
theorem w_frames : about1.frames = Frame.invoking theMethod args0 :: below0 := rfl
set_option maxRecDepth 65536 in
theorem w_args : argsFit about1.vm theMethod args0 = true := by decide +kernel
set_option maxRecDepth 65536 in
theorem w_heap : heapFits about1 = true := by decide +kernel
set_option maxRecDepth 65536 in
theorem w_runnable : about1.curStatus? = some .runnable := by decide +kernel
set_option maxRecDepth 65536 in
theorem w_alone : about1.alone = true := by decide +kernel
set_option maxRecDepth 65536 in
theorem w_named : about1.methodNamed? x = some theMethod := by decide +kernel
set_option maxRecDepth 65536 in
theorem w_hears : about1.hears theMethod below0 = true := by decide +kernel
set_option maxRecDepth 65536 in
theorem w_ripe : about1.ripe theMethod args0 below0 = true := by decide +kernel
theorem w_running : about1.status = .running := rfl
set_option maxRecDepth 65536 in
theorem w_room : about1.hasRoom e0.platform room_1 = true :=
  launch0.hasRoom_least _ room_1 (by decide +kernel) (by decide +kernel) (by decide +kernel) (by decide +kernel) (by decide +kernel) (by decide +kernel)
theorem allAtoms_all (ts : List Jvm.Cond) (a : Array Jvm.Value) (st : Jvm.State) : (allAtoms ts).before a st = ts.all (fun c => c.before a st) := by
  induction ts with
  | nil => rfl
  | cons c t ih =>
    show (Jvm.Cond.and c (allAtoms t)).before a st = _
    rw [Jvm.Cond.before_and, ih, List.all_cons]
def words1 : List Jvm.Cond := Jvm.Cond.code x code maxLocals ret :: tables_1
/-- a 'code' word, met by the world's own term for the bytes: nothing is compared byte by byte -/
theorem code_word {y : MethodName} {bytes : ByteArray} {mx : Nat} {rt : Option FieldType} {a : Array Value} {s : State} {m : MethodId} {meth : Method} {c : Code} (h1 : s.methodNamed? y = some m) (h2 : s.vm.method? m = some meth) (h3 : meth.code = some c) (h4 : c.code = bytes)
    (h5 : (c.maxLocals == mx && c.exceptionTable.isEmpty && decide (c.maxStack ≤ mostOperands) && decide (meth.sig.returnType = rt) && !meth.locks && decide (parseMethodDescriptor y.desc = some meth.sig)) = true) : (Jvm.Cond.code y bytes mx rt).before a s = true := by
  simp only [Bool.and_eq_true, beq_iff_eq, Bool.not_eq_true', decide_eq_true_eq] at h5
  obtain ⟨⟨⟨⟨⟨g1, g2⟩, g3⟩, g4⟩, g5⟩, g6⟩ := h5
  simp [Cond.before, Cond.holds, Cond.value, h1, h2, h3, h4, g1, g2, g3, g4, g5, g6]
def isCode : Jvm.Cond → Bool
  | .code _ _ _ _ => true
  | _ => false
theorem all_split {L : List Jvm.Cond} {P : Jvm.Cond → Bool} (h1 : L.all (fun c => isCode c || P c) = true) (h2 : ∀ c ∈ L.filter isCode, P c = true) : L.all P = true := by
  refine List.all_eq_true.mpr fun c hc => ?_
  have h := List.all_eq_true.mp h1 c hc
  rcases Bool.eq_false_or_eq_true (isCode c) with hi | hi
  · exact h2 c (List.mem_filter.mpr ⟨hc, hi⟩)
  · simpa [hi] using h
set_option maxRecDepth 65536 in
theorem w_c0 : (Jvm.Cond.code x code maxLocals ret).before args0 about1 = true := code_word (m := ⟨1, 1⟩) (meth := k1m1) (c := k1c1) (by decide +kernel) rfl rfl rfl (by decide +kernel)
set_option maxRecDepth 65536 in
theorem w_c1 : (Jvm.Cond.code ({ cls := "com/example/siegelbund/siegelbund/core/xml/XmlChars", name := "isWhitespace", desc := "(C)Z" } : Jvm.MethodName) prog_15_method_2_code (1 : Nat) (Option.some Jvm.ClassFile.FieldType.boolean)).before args0 about1 = true := code_word (m := ⟨2, 1⟩) (meth := k2m1) (c := k2c1) (by decide +kernel) rfl rfl rfl (by decide +kernel)
def codes1 : List Jvm.Cond := [Jvm.Cond.code x code maxLocals ret, Jvm.Cond.code ({ cls := "com/example/siegelbund/siegelbund/core/xml/XmlChars", name := "isWhitespace", desc := "(C)Z" } : Jvm.MethodName) prog_15_method_2_code (1 : Nat) (Option.some Jvm.ClassFile.FieldType.boolean)]
set_option maxRecDepth 65536 in
theorem codes_eq : words1.filter isCode = codes1 := rfl
theorem w_codes : ∀ c ∈ words1.filter isCode, c.before args0 about1 = true := by
  rw [codes_eq]
  intro c hc
  simp only [codes1, List.mem_cons, List.not_mem_nil, or_false] at hc
  rcases hc with rfl | rfl
  · exact w_c0
  · exact w_c1
set_option maxRecDepth 65536 in
theorem w_t1 : words1.all (fun c => isCode c || c.before args0 about1) = true := by decide +kernel
theorem w_tables : (allAtoms (Jvm.Cond.code x code maxLocals ret :: tables_1)).before args0 about1 = true := by
  rw [allAtoms_all]
  show words1.all (fun c => c.before args0 about1) = true
  refine all_split ?_ w_codes
  rw [w_t1]
set_option maxRecDepth 65536 in
theorem w_case : (Jvm.Cond.and given_1 narrow_1).before args0 about1 = true := by decide +kernel
theorem w_applies : (headSpec (Jvm.Cond.code x code maxLocals ret :: tables_1) room_1).applies x e0.platform about1 = true :=
  (Spec.applies_iff w_frames).mpr ⟨w_running, w_runnable, w_alone, w_named, w_hears, w_ripe, w_room, w_tables⟩
theorem atStart : AtStart classFile x code maxLocals ret World_1 tables_1 room_1 Calls_1 rest_1 Pre_1 launch0 p0 e0 about1 theMethod args0 below0 :=
  ⟨lists_1, trivial, launch0.admits_env _ _ _, launch0.least_env, fairChoices_fair.cas, fairChoices_fair.clock, w_frames, w_args, w_heap, w_applies, trivial, trivial, w_case⟩
end start1
theorem witness_1 : WitnessClaimed_1 := ⟨start1.p0, start1.e0, start1.about1, start1.theMethod, start1.args0, start1.below0, start1.atStart⟩
end Jvm.Pilot.@@N@@
