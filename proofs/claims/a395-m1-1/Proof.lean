import JvmDerived
import JvmDerived.Pilot.@@N@@Statement
import JvmDerived.Pilot.@@N@@Code
set_option linter.unusedVariables false
set_option linter.unusedSimpArgs false
namespace Jvm.RoadKit
open Sem ClassFile Op Lib Jvm.Stand Jvm.Free Jvm.LawKit
section New
variable {p : Program} {l : Launch} {e : Env} {R : Room} {s : State} {m : MethodId} {args : Array Value} {below : List Frame} {meth : Method} {c : Code} {T : State} {locs : List Loc} {cells slots : Nat}
theorem retI (X : Stand p l e R s m args below meth c T locs cells slots) (hx : p.tables.exec = Jvm.exec) {pc : Nat} {Ls : Array Slot} {z : Int32} {rest : List Value} (hret : meth.sig.returnType = some .int) (hd : decode c.code pc = .ok (.ireturn, 1)) {fs : List Frame}
    (hl : ∀ (f : JFrame) (acts : List Action), f.method = m → f.locked = none → f.entered = [] → (doReturn e (T.setTop f) acts (some (.int z))).1 = T.setFrames fs) : Steps p.tables e below (T.setTop (mkF m pc Ls (.int z :: rest))) (T.setFrames fs) := by
  have hm' : T.vm.method? m = some meth := X.method'
  have hn : narrow .int (.int z) = .int z := rfl
  show Steps p.tables e below (T.setTop { method := m, pc := pc, locals := Ls, stack := _ :: rest, locked := none }) _
  jvm_step X.here [X.here.top, hx, hd, hm', hret, hn]
  first | (intro acts; rw [hl _ acts rfl rfl rfl]) | rw [hl _ _ rfl rfl rfl]
  exact Steps.refl _
theorem retJ (X : Stand p l e R s m args below meth c T locs cells slots) (hx : p.tables.exec = Jvm.exec) {pc : Nat} {Ls : Array Slot} {z : Int64} {rest : List Value} (hret : meth.sig.returnType = some .long) (hd : decode c.code pc = .ok (.lreturn, 1)) {fs : List Frame}
    (hl : ∀ (f : JFrame) (acts : List Action), f.method = m → f.locked = none → f.entered = [] → (doReturn e (T.setTop f) acts (some (.long z))).1 = T.setFrames fs) : Steps p.tables e below (T.setTop (mkF m pc Ls (.long z :: rest))) (T.setFrames fs) := by
  have hm' : T.vm.method? m = some meth := X.method'
  have hn : narrow .long (.long z) = .long z := rfl
  show Steps p.tables e below (T.setTop { method := m, pc := pc, locals := Ls, stack := _ :: rest, locked := none }) _
  jvm_step X.here [X.here.top, hx, hd, hm', hret, hn, narrow]
  first | (intro acts; rw [hl _ acts rfl rfl rfl]) | rw [hl _ _ rfl rfl rfl]
  exact Steps.refl _
theorem retR (X : Stand p l e R s m args below meth c T locs cells slots) (hx : p.tables.exec = Jvm.exec) {pc : Nat} {Ls : Array Slot} {z : Addr} {rest : List Value} {ty : FieldType} (hret : meth.sig.returnType = some ty) (hty : ty.isReference = true) (hd : decode c.code pc = .ok (.areturn, 1)) {fs : List Frame}
    (hl : ∀ (f : JFrame) (acts : List Action), f.method = m → f.locked = none → f.entered = [] → (doReturn e (T.setTop f) acts (some (.ref z))).1 = T.setFrames fs) : Steps p.tables e below (T.setTop (mkF m pc Ls (.ref z :: rest))) (T.setFrames fs) := by
  have hm' : T.vm.method? m = some meth := X.method'
  show Steps p.tables e below (T.setTop { method := m, pc := pc, locals := Ls, stack := _ :: rest, locked := none }) _
  jvm_step X.here [X.here.top, hx, hd, hm', hret, hty, Value.isRef]
  first | (intro acts; rw [hl _ acts rfl rfl rfl]) | rw [hl _ _ rfl rfl rfl]
  exact Steps.refl _
theorem lremM {tb : Tables} [Ours tb] {target : State} {g : JFrame} (h : At T m c below) (hx : tb.exec = Jvm.exec) (hg : g.method = m) {x y : Int64} {rest : List Value} (hd : decode c.code g.pc = .ok (.lrem, 1)) (hs : g.stack = .long y :: .long x :: rest) (hy : y ≠ 0)
    (hr : Steps tb e below (T.setTop { g with pc := g.pc + 1, stack := .long (x % y) :: rest }) target) : Steps tb e below (T.setTop g) target := by
  rw [← lrem_mod] at hr
  exact XS.lrem h hx hg hd hs hy hr
end New
end Jvm.RoadKit
namespace Jvm.Pilot.@@N@@
open Jvm Jvm.ClassFile Sem Op Lib Jvm.Free Jvm.Stand Jvm.LawKit Jvm.RoadKit Bundle Jvm.Pilot.@@N@@.Jvm.D
/-- a Java boolean -/
def bI (P : Prop) [Decidable P] : Int32 := if P then 1 else 0
theorem bI_pos {P : Prop} [Decidable P] (h : P) : bI P = (1 : Int32) := if_pos h
theorem bI_neg {P : Prop} [Decidable P] (h : ¬ P) : bI P = (0 : Int32) := if_neg h
theorem bI_0 {P : Prop} [Decidable P] (h : ¬ P) : bI P = 0 := if_neg h
theorem bI_ne0 {P : Prop} [Decidable P] (h : P) : ¬ bI P = 0 := by rw [bI_pos h]; decide
theorem bI_iff {P Q : Prop} [Decidable P] [Decidable Q] : bI P = bI Q ↔ (P ↔ Q) := by
  by_cases p : P <;> by_cases q : Q <;> simp [bI, p, q]
theorem nar_0 : nar .boolean (0 : Int32) = 0 := by decide
theorem nar_1 : nar .boolean (1 : Int32) = 1 := by decide
theorem nar_bI (P : Prop) [Decidable P] : nar .boolean (bI P) = bI P := by by_cases p : P <;> simp [bI, p] <;> decide
/-- the run from st ends, and Q holds of what it returns and leaves -/
def OG (p : Program) (e : Env) (below : List Frame) (s : State) (Q : Option Value → Heap → List Loc → Prop) (cc ss : Nat) (st : State) : Prop :=
  ∃ s₂ o, Steps p.tables e below st s₂ ∧ s₂.status = .running ∧ Ended s₂ below o ∧ ∃ v L, o = .returned v ∧ Q v s₂.heap L ∧ FrameEnd s o s₂ L cc ss
section Out
variable {p : Program} {l : Launch} {e : Env} {R : Room} {s : State} {m : MethodId} {args : Array Value} {below : List Frame} {meth : Method} {c : Code} {T : State} {locs : List Loc} {cells slots : Nat} {Q : Option Value → Heap → List Loc → Prop} {cc ss : Nat} {h : Heap}
theorem OG.step {st st' : State} (h : ∀ t, Steps p.tables e below st' t → Steps p.tables e below st t) (g : OG p e below s Q cc ss st') : OG p e below s Q cc ss st := by
  obtain ⟨s₂, o, h1, r⟩ := g
  exact ⟨s₂, o, h _ h1, r⟩
theorem OG.out (X : Stand p l e R s m args below meth c T locs cells slots) {v : Option Value} (hv : meth.sig.returnType = none → v = none) (hlk : meth.locks = false) {g : JFrame} (eT : T.heap = h)
    (hs : ∀ fs, (∀ (f : JFrame) (acts : List Action), f.method = m → f.locked = none → f.entered = [] → (doReturn e (T.setTop f) acts v).1 = T.setFrames fs) → Steps p.tables e below (T.setTop g) (T.setFrames fs))
    (hQ : Q v h locs) (hc : cells ≤ cc) (hl : slots ≤ ss) : OG p e below s Q cc ss (T.setTop g) := by
  obtain ⟨fs, hr, hrun, hended, hW, hsame⟩ := X.leave (v := v) hv hlk
  exact ⟨_, _, hs fs hr, hrun, hended, _, _, rfl, by show Q v T.heap locs; rw [eT]; exact hQ, ⟨_, rfl⟩, hW, hsame.mono hc hl⟩
theorem OG.retV (X : Stand p l e R s m args below meth c T locs cells slots) (hx : p.tables.exec = Jvm.exec) (hlk : meth.locks = false) (hret : meth.sig.returnType = none) {pc : Nat} {Ls : Array Slot} (hd : decode c.code pc = .ok (.return_, 1)) (eT : T.heap = h) (hQ : Q none h locs) (hc : cells ≤ cc) (hl : slots ≤ ss) : OG p e below s Q cc ss (T.setTop (mkF m pc Ls [])) :=
  OG.out X (fun _ => rfl) hlk eT (fun _ hr => X.returnOut hx hret hd hr) hQ hc hl
theorem OG.retI (X : Stand p l e R s m args below meth c T locs cells slots) (hx : p.tables.exec = Jvm.exec) (hlk : meth.locks = false) (hret : meth.sig.returnType = some .int) {pc : Nat} {Ls : Array Slot} {z : Int32} {rest : List Value} (hd : decode c.code pc = .ok (.ireturn, 1)) (eT : T.heap = h) (hQ : Q (some (.int z)) h locs) (hc : cells ≤ cc) (hl : slots ≤ ss) : OG p e below s Q cc ss (T.setTop (mkF m pc Ls (.int z :: rest))) :=
  OG.out X (fun h => by rw [hret] at h; cases h) hlk eT (fun _ hr => Jvm.RoadKit.retI X hx hret hd hr) hQ hc hl
theorem OG.retJ (X : Stand p l e R s m args below meth c T locs cells slots) (hx : p.tables.exec = Jvm.exec) (hlk : meth.locks = false) (hret : meth.sig.returnType = some .long) {pc : Nat} {Ls : Array Slot} {z : Int64} {rest : List Value} (hd : decode c.code pc = .ok (.lreturn, 1)) (eT : T.heap = h) (hQ : Q (some (.long z)) h locs) (hc : cells ≤ cc) (hl : slots ≤ ss) : OG p e below s Q cc ss (T.setTop (mkF m pc Ls (.long z :: rest))) :=
  OG.out X (fun h => by rw [hret] at h; cases h) hlk eT (fun _ hr => Jvm.RoadKit.retJ X hx hret hd hr) hQ hc hl
theorem OG.retR (X : Stand p l e R s m args below meth c T locs cells slots) (hx : p.tables.exec = Jvm.exec) (hlk : meth.locks = false) {ty : FieldType} (hret : meth.sig.returnType = some ty) (hty : ty.isReference = true) {pc : Nat} {Ls : Array Slot} {z : Addr} {rest : List Value} (hd : decode c.code pc = .ok (.areturn, 1)) (eT : T.heap = h) (hQ : Q (some (.ref z)) h locs) (hc : cells ≤ cc) (hl : slots ≤ ss) : OG p e below s Q cc ss (T.setTop (mkF m pc Ls (.ref z :: rest))) :=
  OG.out X (fun h => by rw [hret] at h; cases h) hlk eT (fun _ hr => Jvm.RoadKit.retR X hx hret hty hd hr) hQ hc hl
theorem OG.retZ (X : Stand p l e R s m args below meth c T locs cells slots) (hx : p.tables.exec = Jvm.exec) (hlk : meth.locks = false) (hret : meth.sig.returnType = some .boolean) {pc : Nat} {Ls : Array Slot} {z z' : Int32} {rest : List Value} (hd : decode c.code pc = .ok (.ireturn, 1)) (hz : nar .boolean z = z') (eT : T.heap = h) (hQ : Q (some (.int z')) h locs) (hc : cells ≤ cc) (hl : slots ≤ ss) : OG p e below s Q cc ss (T.setTop (mkF m pc Ls (.int z :: rest))) := by
  subst hz
  exact OG.out X (fun h => by rw [hret] at h; cases h) hlk eT (fun _ hr => retN X hx (t := .boolean) hret (by simp) hd hr) hQ hc hl
end Out
def own_maxI (a b : Int32) : Int32 := if a < b then b else a
theorem d1_0 : decode jdk_29_method_65_code 0 = .ok (.iload_n 0, 1) := by decide +kernel
theorem d1_1 : decode jdk_29_method_65_code 1 = .ok (.iload_n 1, 1) := by decide +kernel
theorem d1_2 : decode jdk_29_method_65_code 2 = .ok (.if_icmp .lt 7, 3) := by decide +kernel
theorem d1_5 : decode jdk_29_method_65_code 5 = .ok (.iload_n 0, 1) := by decide +kernel
theorem d1_6 : decode jdk_29_method_65_code 6 = .ok (.goto 4, 3) := by decide +kernel
theorem d1_9 : decode jdk_29_method_65_code 9 = .ok (.iload_n 1, 1) := by decide +kernel
theorem d1_10 : decode jdk_29_method_65_code 10 = .ok (.ireturn, 1) := by decide +kernel
theorem ef_1 (m : MethodId) (x0 : Int32) (x1 : Int32) : entryFrame m #[(.int x0), (.int x1)] 2 = mkF m 0 #[.val (.int x0), .val (.int x1)] [] := by first | (simp [entryFrame, mkF, argsToLocals, Value.category]; done) | rfl
def Q1 (Z : State) (q0 : Int32) (q1 : Int32) (h0 : Heap) (n0 : Nat) (v : Option Value) (h : Heap) (L : List Loc) : Prop := (v = some (.int (own_maxI q0 q1))) ∧ (Fr n0 L) ∧ (h = h0)
abbrev rom_1 : Room := { frames := 0, cells := 0, slots := 0, locals := 0 }
set_option maxRecDepth 65536 in
set_option maxHeartbeats 40000000 in
theorem rm1 (l : Launch) (Z : State) (a0 : Array Value) (hw : ∀ d ∈ tables_1, d.before a0 Z = true) (ws : List Jvm.Cond) (q0 : Int32) (q1 : Int32) (h0 : Heap) (n0 : Nat) (Z0 : n0 ≤ h0.size) :
    MetFree l (⟨"java/lang/Math", "max", "(II)I"⟩ : MethodName) (head1 (Jvm.Cond.code (⟨"java/lang/Math", "max", "(II)I"⟩ : MethodName) jdk_29_method_65_code 2 (some .int) :: ws) rom_1) (fun a U => a = #[(.int q0), (.int q1)] ∧ Z.Warmed39 U.vm ∧ U.heap = h0) (fun _ _ _ _ _ => True) (fun _ U o U' => ∃ v L, o = .returned v ∧ Q1 Z q0 q1 h0 n0 v U'.heap L ∧ FrameEnd U o U' L rom_1.cells rom_1.slots) := by
  refine MetFree.of_bodySF (Jvm.Free.JP.mathPlain rfl (by decide +kernel)) hisR ?_
  intro p e s m args below meth c s₁ Bd hml0 hP hK
  obtain ⟨rfl, hZ, hh⟩ := hP
  have hx := Bd.exec
  have hby := Bd.bytes
  have hlk := Bd.notSynchronized
  have hml : c.maxLocals = 2 := hml0
  have hown : s.vm.findClass "java/lang/Math" = some m.cls := findClass_of_methodNamed Bd.named
  have hnm := (name_of_methodNamed Bd.named Bd.method).1
  have X0 : Stand p l e rom_1 s m #[(.int q0), (.int q1)] below meth c s₁ [] 0 0 := Stand.of_body Bd
  have e0 : s₁.heap = h0 := by rw [← hh, Bd.state]; rfl
  have N0 := Fr.nil n0
  have K0 : Keep h0 h0 [] := Keep.refl _ _
  refine (?_ : OG p e below s (Q1 Z q0 q1 h0 n0) rom_1.cells rom_1.slots _)
  rw [ef_1]
  have s1 : ∀ tz, Steps p.tables e below (s₁.setTop (mkF m 2 #[.val (.int q0), .val (.int q1)] [(.int q1), (.int q0)])) tz → Steps p.tables e below (s₁.setTop (mkF m 0 #[.val (.int q0), .val (.int q1)] [])) tz := by
    intro tz kz
    refine XS.iloadN X0.here hx rfl (hb hby d1_0) rfl ?_
    show Steps p.tables e below (s₁.setTop (mkF m 1 #[.val (.int q0), .val (.int q1)] [(.int q0)])) _
    refine XS.iloadN X0.here hx rfl (hb hby d1_1) rfl ?_
    exact kz
  refine OG.step s1 ?_
  by_cases hc2 : q0 < q1
  · have s2 : ∀ tz, Steps p.tables e below (s₁.setTop (mkF m 10 #[.val (.int q0), .val (.int q1)] [(.int q1)])) tz → Steps p.tables e below (s₁.setTop (mkF m 2 #[.val (.int q0), .val (.int q1)] [(.int q1), (.int q0)])) tz := by
      intro tz kz
      refine XS.icmpYes X0.here hx rfl (pc0 := 2) (pc' := 9) rfl (hb hby d1_2) rfl (tlt hc2).1 (by decide) (by decide) ?_
      show Steps p.tables e below (s₁.setTop (mkF m 9 #[.val (.int q0), .val (.int q1)] [])) _
      refine XS.iloadN X0.here hx rfl (hb hby d1_9) rfl ?_
      exact kz
    refine OG.step s2 ?_
    exact OG.retI X0 hx hlk Bd.returns (hb hby d1_10) e0 ⟨(by simp [own_maxI, hc2]), N0, rfl⟩ (by decide) (by decide)
  · have s3 : ∀ tz, Steps p.tables e below (s₁.setTop (mkF m 10 #[.val (.int q0), .val (.int q1)] [(.int q0)])) tz → Steps p.tables e below (s₁.setTop (mkF m 2 #[.val (.int q0), .val (.int q1)] [(.int q1), (.int q0)])) tz := by
      intro tz kz
      refine XS.icmpNo X0.here hx rfl (hb hby d1_2) rfl (flt hc2).1 ?_
      show Steps p.tables e below (s₁.setTop (mkF m 5 #[.val (.int q0), .val (.int q1)] [])) _
      refine XS.iloadN X0.here hx rfl (hb hby d1_5) rfl ?_
      show Steps p.tables e below (s₁.setTop (mkF m 6 #[.val (.int q0), .val (.int q1)] [(.int q0)])) _
      refine XS.goto X0.here hx rfl (pc0 := 6) (pc' := 10) rfl (hb hby d1_6) (by decide) (by decide) ?_
      exact kz
    refine OG.step s3 ?_
    exact OG.retI X0 hx hlk Bd.returns (hb hby d1_10) e0 ⟨(by simp [own_maxI, hc2]), N0, rfl⟩ (by decide) (by decide)
theorem d3_0 : decode jdk_30_method_1_code 0 = .ok (.aload_n 0, 1) := by decide +kernel
theorem d3_1 : decode jdk_30_method_1_code 1 = .ok (.invokespecial 1, 3) := by decide +kernel
theorem d3_4 : decode jdk_30_method_1_code 4 = .ok (.return_, 1) := by decide +kernel
theorem pn_java_lang_Record : plainName "java/lang/Record" = true := by first | (simp [plainName, overriddenIn]; done) | decide +kernel
theorem ef_3 (m : MethodId) (x0 : Addr) : entryFrame m #[(.ref x0)] 1 = mkF m 0 #[.val (.ref x0)] [] := by first | (simp [entryFrame, mkF, argsToLocals, Value.category]; done) | rfl
def Q3 (Z : State) (o0 : Addr) (h0 : Heap) (n0 : Nat) (v : Option Value) (h : Heap) (L : List Loc) : Prop := (v = none) ∧ (Fr n0 L) ∧ (h = h0)
abbrev rom_3 : Room := { frames := 1, cells := 0, slots := 0, locals := 12 }
set_option maxRecDepth 65536 in
set_option maxHeartbeats 40000000 in
theorem rm3 (l : Launch) (Z : State) (a0 : Array Value) (hw : ∀ d ∈ tables_1, d.before a0 Z = true) (ws : List Jvm.Cond) (o0 : Addr) (h0 : Heap) (n0 : Nat) (Z0 : n0 ≤ h0.size) :
    MetFree l (⟨"java/lang/Record", "<init>", "()V"⟩ : MethodName) (head1 (Jvm.Cond.code (⟨"java/lang/Record", "<init>", "()V"⟩ : MethodName) jdk_30_method_1_code 1 none :: ws) rom_3) (fun a U => a = #[(.ref o0)] ∧ Z.Warmed39 U.vm ∧ U.heap = h0) (fun _ _ _ _ _ => True) (fun _ U o U' => ∃ v L, o = .returned v ∧ Q3 Z o0 h0 n0 v U'.heap L ∧ FrameEnd U o U' L rom_3.cells rom_3.slots) := by
  refine MetFree.of_bodySF (plainFor_of_name pn_java_lang_Record) hisR ?_
  intro p e s m args below meth c s₁ Bd hml0 hP hK
  obtain ⟨rfl, hZ, hh⟩ := hP
  have hx := Bd.exec
  have hby := Bd.bytes
  have hlk := Bd.notSynchronized
  have hml : c.maxLocals = 1 := hml0
  have hown : s.vm.findClass "java/lang/Record" = some m.cls := findClass_of_methodNamed Bd.named
  have hnm := (name_of_methodNamed Bd.named Bd.method).1
  have X0 : Stand p l e rom_3 s m #[(.ref o0)] below meth c s₁ [] 0 0 := Stand.of_body Bd
  have e0 : s₁.heap = h0 := by rw [← hh, Bd.state]; rfl
  have N0 := Fr.nil n0
  have K0 : Keep h0 h0 [] := Keep.refl _ _
  refine (?_ : OG p e below s (Q3 Z o0 h0 n0) rom_3.cells rom_3.slots _)
  rw [ef_3]
  have s1 : ∀ tz, Steps p.tables e below (s₁.setTop (mkF m 1 #[.val (.ref o0)] [(.ref o0)])) tz → Steps p.tables e below (s₁.setTop (mkF m 0 #[.val (.ref o0)] [])) tz := by
    intro tz kz
    refine XS.aloadN X0.here hx rfl (hb hby d3_0) rfl rfl ?_
    exact kz
  refine OG.step s1 ?_
  obtain ⟨T2, X2, e2, st2⟩ := initO X0 hx hZ hown (hw _ (List.mem_of_getElem? (i := 18) rfl)) (hw _ (List.mem_of_getElem? (i := 19) rfl)) (hw _ (List.mem_of_getElem? (i := 20) rfl)) e0 (g := (mkF m 1 #[.val (.ref o0)] [(.ref o0)])) rfl (by rw [hml]; rfl) rfl (hb hby d3_1) (by decide) (W := 0) (by show 2 * 0 + _ ≤ _; exact Nat.le_of_eq rfl) (by decide)
  refine OG.step st2 ?_
  show OG _ _ _ _ _ _ _ (T2.setTop (mkF m 4 #[.val (.ref o0)] []))
  exact OG.retV X2 hx hlk Bd.returns (hb hby d3_4) e2 ⟨rfl, N0, rfl⟩ (by decide) (by decide)
def own_minJ (a b : Int64) : Int64 := if b < a then b else a
theorem d7_0 : decode jdk_29_method_70_code 0 = .ok (.lload_n 0, 1) := by decide +kernel
theorem d7_1 : decode jdk_29_method_70_code 1 = .ok (.lload_n 2, 1) := by decide +kernel
theorem d7_2 : decode jdk_29_method_70_code 2 = .ok (.lcmp, 1) := by decide +kernel
theorem d7_3 : decode jdk_29_method_70_code 3 = .ok (.ifCond .gt 7, 3) := by decide +kernel
theorem d7_6 : decode jdk_29_method_70_code 6 = .ok (.lload_n 0, 1) := by decide +kernel
theorem d7_7 : decode jdk_29_method_70_code 7 = .ok (.goto 4, 3) := by decide +kernel
theorem d7_10 : decode jdk_29_method_70_code 10 = .ok (.lload_n 2, 1) := by decide +kernel
theorem d7_11 : decode jdk_29_method_70_code 11 = .ok (.lreturn, 1) := by decide +kernel
theorem ef_7 (m : MethodId) (x0 : Int64) (x1 : Int64) : entryFrame m #[(.long x0), (.long x1)] 4 = mkF m 0 #[.val (.long x0), .second, .val (.long x1), .second] [] := by first | (simp [entryFrame, mkF, argsToLocals, Value.category]; done) | rfl
def Q7 (Z : State) (q0 : Int64) (q1 : Int64) (h0 : Heap) (n0 : Nat) (v : Option Value) (h : Heap) (L : List Loc) : Prop := (v = some (.long (own_minJ q0 q1))) ∧ (Fr n0 L) ∧ (h = h0)
abbrev rom_7 : Room := { frames := 0, cells := 0, slots := 0, locals := 0 }
set_option maxRecDepth 65536 in
set_option maxHeartbeats 40000000 in
theorem rm7 (l : Launch) (Z : State) (a0 : Array Value) (hw : ∀ d ∈ tables_1, d.before a0 Z = true) (ws : List Jvm.Cond) (q0 : Int64) (q1 : Int64) (h0 : Heap) (n0 : Nat) (Z0 : n0 ≤ h0.size) :
    MetFree l (⟨"java/lang/Math", "min", "(JJ)J"⟩ : MethodName) (head1 (Jvm.Cond.code (⟨"java/lang/Math", "min", "(JJ)J"⟩ : MethodName) jdk_29_method_70_code 4 (some .long) :: ws) rom_7) (fun a U => a = #[(.long q0), (.long q1)] ∧ Z.Warmed39 U.vm ∧ U.heap = h0) (fun _ _ _ _ _ => True) (fun _ U o U' => ∃ v L, o = .returned v ∧ Q7 Z q0 q1 h0 n0 v U'.heap L ∧ FrameEnd U o U' L rom_7.cells rom_7.slots) := by
  refine MetFree.of_bodySF (Jvm.Free.JP.mathPlain rfl (by decide +kernel)) hisR ?_
  intro p e s m args below meth c s₁ Bd hml0 hP hK
  obtain ⟨rfl, hZ, hh⟩ := hP
  have hx := Bd.exec
  have hby := Bd.bytes
  have hlk := Bd.notSynchronized
  have hml : c.maxLocals = 4 := hml0
  have hown : s.vm.findClass "java/lang/Math" = some m.cls := findClass_of_methodNamed Bd.named
  have hnm := (name_of_methodNamed Bd.named Bd.method).1
  have X0 : Stand p l e rom_7 s m #[(.long q0), (.long q1)] below meth c s₁ [] 0 0 := Stand.of_body Bd
  have e0 : s₁.heap = h0 := by rw [← hh, Bd.state]; rfl
  have N0 := Fr.nil n0
  have K0 : Keep h0 h0 [] := Keep.refl _ _
  refine (?_ : OG p e below s (Q7 Z q0 q1 h0 n0) rom_7.cells rom_7.slots _)
  rw [ef_7]
  have s1 : ∀ tz, Steps p.tables e below (s₁.setTop (mkF m 3 #[.val (.long q0), .second, .val (.long q1), .second] [(.int (lcmpW q0 q1))])) tz → Steps p.tables e below (s₁.setTop (mkF m 0 #[.val (.long q0), .second, .val (.long q1), .second] [])) tz := by
    intro tz kz
    refine XS.lloadN X0.here hx rfl (hb hby d7_0) rfl ?_
    show Steps p.tables e below (s₁.setTop (mkF m 1 #[.val (.long q0), .second, .val (.long q1), .second] [(.long q0)])) _
    refine XS.lloadN X0.here hx rfl (hb hby d7_1) rfl ?_
    show Steps p.tables e below (s₁.setTop (mkF m 2 #[.val (.long q0), .second, .val (.long q1), .second] [(.long q1), (.long q0)])) _
    refine XS.lcmp X0.here hx rfl (hb hby d7_2) rfl ?_
    exact kz
  refine OG.step s1 ?_
  by_cases hc3 : q1 < q0
  · have s2 : ∀ tz, Steps p.tables e below (s₁.setTop (mkF m 11 #[.val (.long q0), .second, .val (.long q1), .second] [(.long q1)])) tz → Steps p.tables e below (s₁.setTop (mkF m 3 #[.val (.long q0), .second, .val (.long q1), .second] [(.int (lcmpW q0 q1))])) tz := by
      intro tz kz
      refine XS.ifYes X0.here hx rfl (pc0 := 3) (pc' := 10) rfl (hb hby d7_3) rfl ((if0 _ _).trans (tlt ((lw_gt q0 q1).mpr hc3)).2.2.1) (by decide) (by decide) ?_
      show Steps p.tables e below (s₁.setTop (mkF m 10 #[.val (.long q0), .second, .val (.long q1), .second] [])) _
      refine XS.lloadN X0.here hx rfl (hb hby d7_10) rfl ?_
      exact kz
    refine OG.step s2 ?_
    exact OG.retJ X0 hx hlk Bd.returns (hb hby d7_11) e0 ⟨(by simp [own_minJ, hc3]), N0, rfl⟩ (by decide) (by decide)
  · have s3 : ∀ tz, Steps p.tables e below (s₁.setTop (mkF m 11 #[.val (.long q0), .second, .val (.long q1), .second] [(.long q0)])) tz → Steps p.tables e below (s₁.setTop (mkF m 3 #[.val (.long q0), .second, .val (.long q1), .second] [(.int (lcmpW q0 q1))])) tz := by
      intro tz kz
      refine XS.ifNo X0.here hx rfl (hb hby d7_3) rfl ((if0 _ _).trans (flt (mt (lw_gt q0 q1).mp hc3)).2.2.1) ?_
      show Steps p.tables e below (s₁.setTop (mkF m 6 #[.val (.long q0), .second, .val (.long q1), .second] [])) _
      refine XS.lloadN X0.here hx rfl (hb hby d7_6) rfl ?_
      show Steps p.tables e below (s₁.setTop (mkF m 7 #[.val (.long q0), .second, .val (.long q1), .second] [(.long q0)])) _
      refine XS.goto X0.here hx rfl (pc0 := 7) (pc' := 11) rfl (hb hby d7_7) (by decide) (by decide) ?_
      exact kz
    refine OG.step s3 ?_
    exact OG.retJ X0 hx hlk Bd.returns (hb hby d7_11) e0 ⟨(by simp [own_minJ, hc3]), N0, rfl⟩ (by decide) (by decide)
theorem d2_0 : decode prog_15_method_1_code 0 = .ok (.aload_n 0, 1) := by decide +kernel
theorem d2_1 : decode prog_15_method_1_code 1 = .ok (.invokespecial 1, 3) := by decide +kernel
theorem d2_4 : decode prog_15_method_1_code 4 = .ok (.aload_n 0, 1) := by decide +kernel
theorem d2_5 : decode prog_15_method_1_code 5 = .ok (.lload_n 1, 1) := by decide +kernel
theorem d2_6 : decode prog_15_method_1_code 6 = .ok (.putfield 7, 3) := by decide +kernel
theorem d2_9 : decode prog_15_method_1_code 9 = .ok (.aload_n 0, 1) := by decide +kernel
theorem d2_10 : decode prog_15_method_1_code 10 = .ok (.lload_n 3, 1) := by decide +kernel
theorem d2_11 : decode prog_15_method_1_code 11 = .ok (.putfield 13, 3) := by decide +kernel
theorem d2_14 : decode prog_15_method_1_code 14 = .ok (.return_, 1) := by decide +kernel
theorem pn_com_example_measured_queue_measuredqueue_RetryRule_Backoff_Linear : plainName "com/example/measured_queue/measuredqueue/RetryRule$Backoff$Linear" = true := by first | (simp [plainName, overriddenIn]; done) | decide +kernel
theorem ef_2 (m : MethodId) (x0 : Addr) (x1 : Int64) (x2 : Int64) : entryFrame m #[(.ref x0), (.long x1), (.long x2)] 5 = mkF m 0 #[.val (.ref x0), .val (.long x1), .second, .val (.long x2), .second] [] := by first | (simp [entryFrame, mkF, argsToLocals, Value.category]; done) | rfl
def Q2 (Z : State) (a1 : Addr) (q1 : Int64) (q2 : Int64) (u1 : Value) (u2 : Value) (h0 : Heap) (n0 : Nat) (v : Option Value) (h : Heap) (L : List Loc) : Prop := (v = none) ∧ (Fr n0 L) ∧ (Keep h0 h [a1]) ∧ (Fld Z h a1 "com/example/measured_queue/measuredqueue/RetryRule$Backoff$Linear" "initialMs" "J" (.long q1)) ∧ (Fld Z h a1 "com/example/measured_queue/measuredqueue/RetryRule$Backoff$Linear" "stepMs" "J" (.long q2))
theorem pd___V : parseMethodDescriptor "()V" = some ⟨[], none⟩ := by decide +kernel
abbrev rom_2 : Room := { frames := 2, cells := 0, slots := 0, locals := 24 }
set_option maxRecDepth 65536 in
set_option maxHeartbeats 40000000 in
theorem rm2 (l : Launch) (Z : State) (a0 : Array Value) (hw : ∀ d ∈ tables_1, d.before a0 Z = true) (ws : List Jvm.Cond) (a1 : Addr) (q1 : Int64) (q2 : Int64) (u1 : Value) (u2 : Value) (h0 : Heap) (n0 : Nat) (Z0 : n0 ≤ h0.size) (F0_a1 : Exa Z h0 a1 "com/example/measured_queue/measuredqueue/RetryRule$Backoff$Linear") (F1_a1_initialMs : Fld Z h0 a1 "com/example/measured_queue/measuredqueue/RetryRule$Backoff$Linear" "initialMs" "J" u1) (F2_a1_stepMs : Fld Z h0 a1 "com/example/measured_queue/measuredqueue/RetryRule$Backoff$Linear" "stepMs" "J" u2) (g_a1 : n0 ≤ a1) :
    MetFree l (⟨"com/example/measured_queue/measuredqueue/RetryRule$Backoff$Linear", "<init>", "(JJ)V"⟩ : MethodName) (head1 (Jvm.Cond.code (⟨"com/example/measured_queue/measuredqueue/RetryRule$Backoff$Linear", "<init>", "(JJ)V"⟩ : MethodName) prog_15_method_1_code 5 none :: ws) rom_2) (fun a U => a = #[(.ref a1), (.long q1), (.long q2)] ∧ Z.Warmed39 U.vm ∧ U.heap = h0) (fun _ _ _ _ _ => True) (fun _ U o U' => ∃ v L, o = .returned v ∧ Q2 Z a1 q1 q2 u1 u2 h0 n0 v U'.heap L ∧ FrameEnd U o U' L rom_2.cells rom_2.slots) := by
  refine MetFree.of_bodySF (plainFor_of_name pn_com_example_measured_queue_measuredqueue_RetryRule_Backoff_Linear) hisR ?_
  intro p e s m args below meth c s₁ Bd hml0 hP hK
  obtain ⟨rfl, hZ, hh⟩ := hP
  have hx := Bd.exec
  have hby := Bd.bytes
  have hlk := Bd.notSynchronized
  have hml : c.maxLocals = 5 := hml0
  have hown : s.vm.findClass "com/example/measured_queue/measuredqueue/RetryRule$Backoff$Linear" = some m.cls := findClass_of_methodNamed Bd.named
  have hnm := (name_of_methodNamed Bd.named Bd.method).1
  have X0 : Stand p l e rom_2 s m #[(.ref a1), (.long q1), (.long q2)] below meth c s₁ [] 0 0 := Stand.of_body Bd
  have e0 : s₁.heap = h0 := by rw [← hh, Bd.state]; rfl
  have N0 := Fr.nil n0
  have K0 : Keep h0 h0 [a1] := Keep.refl _ _
  refine (?_ : OG p e below s (Q2 Z a1 q1 q2 u1 u2 h0 n0) rom_2.cells rom_2.slots _)
  rw [ef_2]
  have s1 : ∀ tz, Steps p.tables e below (s₁.setTop (mkF m 1 #[.val (.ref a1), .val (.long q1), .second, .val (.long q2), .second] [(.ref a1)])) tz → Steps p.tables e below (s₁.setTop (mkF m 0 #[.val (.ref a1), .val (.long q1), .second, .val (.long q2), .second] [])) tz := by
    intro tz kz
    refine XS.aloadN X0.here hx rfl (hb hby d2_0) rfl rfl ?_
    exact kz
  refine OG.step s1 ?_
  obtain ⟨_, _, ⟨T2, L2, k2, n2⟩, -, X2, ⟨Lc2, hQ2, l2, y2, z2⟩, st2⟩ := X0.specialBack hx (y := (⟨"java/lang/Record", "<init>", "()V"⟩ : MethodName)) rfl hown (mvT hZ (hw _ (List.mem_of_getElem? (i := 13) rfl))) (mvT hZ (hw _ (List.mem_of_getElem? (i := 14) rfl))) (mvT hZ (hw _ (List.mem_of_getElem? (i := 17) rfl))) (by decide) (backOf (W := 0) (rm3 l Z a0 hw [] a1 h0 n0 (Nat.le_trans Z0 K0.1)) hZ (hw _ (List.mem_of_getElem? (i := 17) rfl)) (hw _ (List.mem_of_getElem? (i := 16) rfl)) (by decide) (by decide)) (g := (mkF m 1 #[.val (.ref a1), .val (.long q1), .second, .val (.long q2), .second] [(.ref a1)])) rfl (by rw [hml]; rfl) (Steps.refl _) (a := a1) (argsL := []) (rest := []) (lenOf pd___V rfl) rfl (by show 2 * 0 + _ ≤ _; exact Nat.le_of_eq rfl) (hb hby d2_1) (fun _ _ => ⟨rfl, e0, (by decide : 0 + 0 ≤ _), (by decide : 0 + 0 ≤ _)⟩)
  dsimp only [Pt.U, Pt.locs, Pt.cells, Pt.slots] at X2 l2 y2 z2 st2 hQ2
  subst l2 y2 z2
  obtain ⟨rfl, N2q, e2⟩ := hQ2
  have N2 := Fr.app N0 N2q
  refine OG.step (fun tz kz => st2.trans kz) ?_
  show OG _ _ _ _ _ _ _ (T2.setTop (mkF m 4 #[.val (.ref a1), .val (.long q1), .second, .val (.long q2), .second] []))
  have s3 : ∀ tz, Steps p.tables e below (T2.setTop (mkF m 6 #[.val (.ref a1), .val (.long q1), .second, .val (.long q2), .second] [(.long q1), (.ref a1)])) tz → Steps p.tables e below (T2.setTop (mkF m 4 #[.val (.ref a1), .val (.long q1), .second, .val (.long q2), .second] [])) tz := by
    intro tz kz
    refine XS.aloadN X2.here hx rfl (hb hby d2_4) rfl rfl ?_
    show Steps p.tables e below (T2.setTop (mkF m 5 #[.val (.ref a1), .val (.long q1), .second, .val (.long q2), .second] [(.ref a1)])) _
    refine XS.lloadN X2.here hx rfl (hb hby d2_5) rfl ?_
    exact kz
  refine OG.step s3 ?_
  obtain ⟨T4, h4, X4, e4, W4, st4⟩ := putF X2 hx hZ hown (host := "") (Or.inl (hw _ (List.mem_of_getElem? (i := 21) rfl))) Via.refl e2 F1_a1_initialMs F0_a1 (Or.inr ⟨(hw _ (List.mem_of_getElem? (i := 22) rfl)), rfl, hnm⟩) (hw _ (List.mem_of_getElem? (i := 8) rfl)) (ty := .long) (by decide) rfl rfl (g := (mkF m 6 #[.val (.ref a1), .val (.long q1), .second, .val (.long q2), .second] [(.long q1), (.ref a1)])) rfl rfl (hb hby d2_6)
  refine OG.step st4 ?_
  have fw4 := F1_a1_initialMs.same W4
  have f5 := F0_a1.wr W4
  have f6 := F2_a1_stepMs.other W4 (Or.inr (slot_ne (Or.inr (hw _ (List.mem_of_getElem? (i := 24) rfl))) (Or.inr (hw _ (List.mem_of_getElem? (i := 22) rfl))) (by decide) (t := .long) (t' := .long) (by decide) (by decide)))
  have K4 := K0.wr W4 (Or.inl (List.mem_of_getElem? (i := 0) rfl))
  have N4 := Fr.snoc X4 N2 g_a1
  show OG _ _ _ _ _ _ _ (T4.setTop (mkF m 9 #[.val (.ref a1), .val (.long q1), .second, .val (.long q2), .second] []))
  have s7 : ∀ tz, Steps p.tables e below (T4.setTop (mkF m 11 #[.val (.ref a1), .val (.long q1), .second, .val (.long q2), .second] [(.long q2), (.ref a1)])) tz → Steps p.tables e below (T4.setTop (mkF m 9 #[.val (.ref a1), .val (.long q1), .second, .val (.long q2), .second] [])) tz := by
    intro tz kz
    refine XS.aloadN X4.here hx rfl (hb hby d2_9) rfl rfl ?_
    show Steps p.tables e below (T4.setTop (mkF m 10 #[.val (.ref a1), .val (.long q1), .second, .val (.long q2), .second] [(.ref a1)])) _
    refine XS.lloadN X4.here hx rfl (hb hby d2_10) rfl ?_
    exact kz
  refine OG.step s7 ?_
  obtain ⟨T8, h8, X8, e8, W8, st8⟩ := putF X4 hx hZ hown (host := "") (Or.inl (hw _ (List.mem_of_getElem? (i := 23) rfl))) Via.refl e4 f6 f5 (Or.inr ⟨(hw _ (List.mem_of_getElem? (i := 24) rfl)), rfl, hnm⟩) (hw _ (List.mem_of_getElem? (i := 8) rfl)) (ty := .long) (by decide) rfl rfl (g := (mkF m 11 #[.val (.ref a1), .val (.long q1), .second, .val (.long q2), .second] [(.long q2), (.ref a1)])) rfl rfl (hb hby d2_11)
  refine OG.step st8 ?_
  have fw8 := f6.same W8
  have f9 := f5.wr W8
  have f10 := fw4.other W8 (Or.inr (slot_ne (Or.inr (hw _ (List.mem_of_getElem? (i := 22) rfl))) (Or.inr (hw _ (List.mem_of_getElem? (i := 24) rfl))) (by decide) (t := .long) (t' := .long) (by decide) (by decide)))
  have K8 := K4.wr W8 (Or.inl (List.mem_of_getElem? (i := 0) rfl))
  have N8 := Fr.snoc X8 N4 g_a1
  show OG _ _ _ _ _ _ _ (T8.setTop (mkF m 14 #[.val (.ref a1), .val (.long q1), .second, .val (.long q2), .second] []))
  exact OG.retV X8 hx hlk Bd.returns (hb hby d2_14) e8 ⟨rfl, N8, K8, f10, fw8⟩ (by decide) (by decide)
def own_wait (i st : Int64) (n : Int32) : Int64 := if st = (0 : Int64) then (i + ((n.toInt64 - (1 : Int64)) * st)) else if (((253402300799999 : Int64) - i) / st) < (n.toInt64 - (1 : Int64)) then (253402300799999 : Int64) else (i + ((n.toInt64 - (1 : Int64)) * st))
def own_hp (st : Int64) (n : Int32) : Int64 := ((n.toInt64 - (1 : Int64)) * ((st.toUInt64 >>> ((24 : Int32) &&& 0x3f).toInt64.toUInt64).toInt64))
def own_tot (i st : Int64) (n : Int32) : Int64 := (((own_hp st n) <<< ((24 : Int32) &&& 0x3f).toInt64) + ((n.toInt64 - (1 : Int64)) * (st &&& (16777215 : Int64)))) + i
def own_exp (i st : Int64) (n : Int32) : Int64 := if (own_hp st n) < (16777216 : Int64) then own_minJ (own_tot i st n) (253402300799999 : Int64) else (253402300799999 : Int64)
theorem d5_0 : decode prog_15_method_2_code 0 = .ok (.iload_n 1, 1) := by decide +kernel
theorem d5_1 : decode prog_15_method_2_code 1 = .ok (.i2l, 1) := by decide +kernel
theorem d5_2 : decode prog_15_method_2_code 2 = .ok (.lconst 1, 1) := by decide +kernel
theorem d5_3 : decode prog_15_method_2_code 3 = .ok (.lsub, 1) := by decide +kernel
theorem d5_4 : decode prog_15_method_2_code 4 = .ok (.lstore_n 2, 1) := by decide +kernel
theorem d5_5 : decode prog_15_method_2_code 5 = .ok (.aload_n 0, 1) := by decide +kernel
theorem d5_6 : decode prog_15_method_2_code 6 = .ok (.getfield 13, 3) := by decide +kernel
theorem d5_9 : decode prog_15_method_2_code 9 = .ok (.lconst 0, 1) := by decide +kernel
theorem d5_10 : decode prog_15_method_2_code 10 = .ok (.lcmp, 1) := by decide +kernel
theorem d5_11 : decode prog_15_method_2_code 11 = .ok (.ifCond .eq 21, 3) := by decide +kernel
theorem d5_14 : decode prog_15_method_2_code 14 = .ok (.lload_n 2, 1) := by decide +kernel
theorem d5_15 : decode prog_15_method_2_code 15 = .ok (.ldc2_w 18, 3) := by decide +kernel
theorem d5_18 : decode prog_15_method_2_code 18 = .ok (.aload_n 0, 1) := by decide +kernel
theorem d5_19 : decode prog_15_method_2_code 19 = .ok (.getfield 7, 3) := by decide +kernel
theorem d5_22 : decode prog_15_method_2_code 22 = .ok (.lsub, 1) := by decide +kernel
theorem d5_23 : decode prog_15_method_2_code 23 = .ok (.aload_n 0, 1) := by decide +kernel
theorem d5_24 : decode prog_15_method_2_code 24 = .ok (.getfield 13, 3) := by decide +kernel
theorem d5_27 : decode prog_15_method_2_code 27 = .ok (.ldiv, 1) := by decide +kernel
theorem d5_28 : decode prog_15_method_2_code 28 = .ok (.lcmp, 1) := by decide +kernel
theorem d5_29 : decode prog_15_method_2_code 29 = .ok (.ifCond .gt 17, 3) := by decide +kernel
theorem d5_32 : decode prog_15_method_2_code 32 = .ok (.aload_n 0, 1) := by decide +kernel
theorem d5_33 : decode prog_15_method_2_code 33 = .ok (.getfield 7, 3) := by decide +kernel
theorem d5_36 : decode prog_15_method_2_code 36 = .ok (.lload_n 2, 1) := by decide +kernel
theorem d5_37 : decode prog_15_method_2_code 37 = .ok (.aload_n 0, 1) := by decide +kernel
theorem d5_38 : decode prog_15_method_2_code 38 = .ok (.getfield 13, 3) := by decide +kernel
theorem d5_41 : decode prog_15_method_2_code 41 = .ok (.lmul, 1) := by decide +kernel
theorem d5_42 : decode prog_15_method_2_code 42 = .ok (.ladd, 1) := by decide +kernel
theorem d5_43 : decode prog_15_method_2_code 43 = .ok (.goto 6, 3) := by decide +kernel
theorem d5_46 : decode prog_15_method_2_code 46 = .ok (.ldc2_w 18, 3) := by decide +kernel
theorem d5_49 : decode prog_15_method_2_code 49 = .ok (.lreturn, 1) := by decide +kernel
theorem ef_5 (m : MethodId) (x0 : Addr) (x1 : Int32) : entryFrame m #[(.ref x0), (.int x1)] 4 = mkF m 0 #[.val (.ref x0), .val (.int x1), .unset, .unset] [] := by first | (simp [entryFrame, mkF, argsToLocals, Value.category]; done) | rfl
def Q5 (Z : State) (a1 : Addr) (p1 : Int32) (wi : Int64) (ws_ : Int64) (h0 : Heap) (n0 : Nat) (v : Option Value) (h : Heap) (L : List Loc) : Prop := (v = some (.long (own_wait wi ws_ p1))) ∧ (Fr n0 L) ∧ (h = h0)
abbrev rom_5 : Room := { frames := 0, cells := 0, slots := 0, locals := 0 }
set_option maxRecDepth 65536 in
set_option maxHeartbeats 40000000 in
theorem rm5 (l : Launch) (Z : State) (a0 : Array Value) (hw : ∀ d ∈ tables_1, d.before a0 Z = true) (ws : List Jvm.Cond) (a1 : Addr) (p1 : Int32) (wi : Int64) (ws_ : Int64) (h0 : Heap) (n0 : Nat) (Z0 : n0 ≤ h0.size) (F0_a1_initialMs : Fld Z h0 a1 "com/example/measured_queue/measuredqueue/RetryRule$Backoff$Linear" "initialMs" "J" (.long wi)) (F1_a1_stepMs : Fld Z h0 a1 "com/example/measured_queue/measuredqueue/RetryRule$Backoff$Linear" "stepMs" "J" (.long ws_)) :
    MetFree l (⟨"com/example/measured_queue/measuredqueue/RetryRule$Backoff$Linear", "waitMs", "(I)J"⟩ : MethodName) (head1 (Jvm.Cond.code (⟨"com/example/measured_queue/measuredqueue/RetryRule$Backoff$Linear", "waitMs", "(I)J"⟩ : MethodName) prog_15_method_2_code 4 (some .long) :: ws) rom_5) (fun a U => a = #[(.ref a1), (.int p1)] ∧ Z.Warmed39 U.vm ∧ U.heap = h0) (fun _ _ _ _ _ => True) (fun _ U o U' => ∃ v L, o = .returned v ∧ Q5 Z a1 p1 wi ws_ h0 n0 v U'.heap L ∧ FrameEnd U o U' L rom_5.cells rom_5.slots) := by
  refine MetFree.of_bodySF (plainFor_of_name pn_com_example_measured_queue_measuredqueue_RetryRule_Backoff_Linear) hisR ?_
  intro p e s m args below meth c s₁ Bd hml0 hP hK
  obtain ⟨rfl, hZ, hh⟩ := hP
  have hx := Bd.exec
  have hby := Bd.bytes
  have hlk := Bd.notSynchronized
  have hml : c.maxLocals = 4 := hml0
  have hown : s.vm.findClass "com/example/measured_queue/measuredqueue/RetryRule$Backoff$Linear" = some m.cls := findClass_of_methodNamed Bd.named
  have hnm := (name_of_methodNamed Bd.named Bd.method).1
  have X0 : Stand p l e rom_5 s m #[(.ref a1), (.int p1)] below meth c s₁ [] 0 0 := Stand.of_body Bd
  have e0 : s₁.heap = h0 := by rw [← hh, Bd.state]; rfl
  have N0 := Fr.nil n0
  have K0 : Keep h0 h0 [] := Keep.refl _ _
  refine (?_ : OG p e below s (Q5 Z a1 p1 wi ws_ h0 n0) rom_5.cells rom_5.slots _)
  rw [ef_5]
  have s1 : ∀ tz, Steps p.tables e below (s₁.setTop (mkF m 6 #[.val (.ref a1), .val (.int p1), .val (.long ((p1.toInt64) - (1 : Int64))), .second] [(.ref a1)])) tz → Steps p.tables e below (s₁.setTop (mkF m 0 #[.val (.ref a1), .val (.int p1), .unset, .unset] [])) tz := by
    intro tz kz
    refine XS.iloadN X0.here hx rfl (hb hby d5_0) rfl ?_
    show Steps p.tables e below (s₁.setTop (mkF m 1 #[.val (.ref a1), .val (.int p1), .unset, .unset] [(.int p1)])) _
    refine XS.i2l X0.here hx rfl (hb hby d5_1) rfl ?_
    show Steps p.tables e below (s₁.setTop (mkF m 2 #[.val (.ref a1), .val (.int p1), .unset, .unset] [(.long (p1.toInt64))])) _
    refine XS.lconst X0.here hx rfl (hb hby d5_2) ?_
    show Steps p.tables e below (s₁.setTop (mkF m 3 #[.val (.ref a1), .val (.int p1), .unset, .unset] [(.long (1 : Int64)), (.long (p1.toInt64))])) _
    refine XS.lsub X0.here hx rfl (hb hby d5_3) rfl ?_
    show Steps p.tables e below (s₁.setTop (mkF m 4 #[.val (.ref a1), .val (.int p1), .unset, .unset] [(.long ((p1.toInt64) - (1 : Int64)))])) _
    refine XS.lstoreN X0.here hx rfl (hb hby d5_4) rfl (l' := #[.val (.ref a1), .val (.int p1), .val (.long ((p1.toInt64) - (1 : Int64))), .second]) rfl ?_
    show Steps p.tables e below (s₁.setTop (mkF m 5 #[.val (.ref a1), .val (.int p1), .val (.long ((p1.toInt64) - (1 : Int64))), .second] [])) _
    refine XS.aloadN X0.here hx rfl (hb hby d5_5) rfl rfl ?_
    exact kz
  refine OG.step s1 ?_
  obtain ⟨T2, X2, e2, st2⟩ := getF X0 hx hZ hown (host := "") (Or.inl (hw _ (List.mem_of_getElem? (i := 23) rfl))) Via.refl e0 F1_a1_stepMs (g := (mkF m 6 #[.val (.ref a1), .val (.int p1), .val (.long ((p1.toInt64) - (1 : Int64))), .second] [(.ref a1)])) rfl rfl (hb hby d5_6)
  refine OG.step st2 ?_
  show OG _ _ _ _ _ _ _ (T2.setTop (mkF m 9 #[.val (.ref a1), .val (.int p1), .val (.long ((p1.toInt64) - (1 : Int64))), .second] [(.long ws_)]))
  have s3 : ∀ tz, Steps p.tables e below (T2.setTop (mkF m 11 #[.val (.ref a1), .val (.int p1), .val (.long ((p1.toInt64) - (1 : Int64))), .second] [(.int (lcmpW ws_ (0 : Int64)))])) tz → Steps p.tables e below (T2.setTop (mkF m 9 #[.val (.ref a1), .val (.int p1), .val (.long ((p1.toInt64) - (1 : Int64))), .second] [(.long ws_)])) tz := by
    intro tz kz
    refine XS.lconst X2.here hx rfl (hb hby d5_9) ?_
    show Steps p.tables e below (T2.setTop (mkF m 10 #[.val (.ref a1), .val (.int p1), .val (.long ((p1.toInt64) - (1 : Int64))), .second] [(.long (0 : Int64)), (.long ws_)])) _
    refine XS.lcmp X2.here hx rfl (hb hby d5_10) rfl ?_
    exact kz
  refine OG.step s3 ?_
  by_cases hc11 : ws_ = (0 : Int64)
  · have s4 : ∀ tz, Steps p.tables e below (T2.setTop (mkF m 33 #[.val (.ref a1), .val (.int p1), .val (.long ((p1.toInt64) - (1 : Int64))), .second] [(.ref a1)])) tz → Steps p.tables e below (T2.setTop (mkF m 11 #[.val (.ref a1), .val (.int p1), .val (.long ((p1.toInt64) - (1 : Int64))), .second] [(.int (lcmpW ws_ (0 : Int64)))])) tz := by
      intro tz kz
      refine XS.ifYes X2.here hx rfl (pc0 := 11) (pc' := 32) rfl (hb hby d5_11) rfl ((if0 _ _).trans (teq ((lw_eq ws_ (0 : Int64)).mpr hc11)).1) (by decide) (by decide) ?_
      show Steps p.tables e below (T2.setTop (mkF m 32 #[.val (.ref a1), .val (.int p1), .val (.long ((p1.toInt64) - (1 : Int64))), .second] [])) _
      refine XS.aloadN X2.here hx rfl (hb hby d5_32) rfl rfl ?_
      exact kz
    refine OG.step s4 ?_
    obtain ⟨T5, X5, e5, st5⟩ := getF X2 hx hZ hown (host := "") (Or.inl (hw _ (List.mem_of_getElem? (i := 21) rfl))) Via.refl e2 F0_a1_initialMs (g := (mkF m 33 #[.val (.ref a1), .val (.int p1), .val (.long ((p1.toInt64) - (1 : Int64))), .second] [(.ref a1)])) rfl rfl (hb hby d5_33)
    refine OG.step st5 ?_
    show OG _ _ _ _ _ _ _ (T5.setTop (mkF m 36 #[.val (.ref a1), .val (.int p1), .val (.long ((p1.toInt64) - (1 : Int64))), .second] [(.long wi)]))
    have s6 : ∀ tz, Steps p.tables e below (T5.setTop (mkF m 38 #[.val (.ref a1), .val (.int p1), .val (.long ((p1.toInt64) - (1 : Int64))), .second] [(.ref a1), (.long ((p1.toInt64) - (1 : Int64))), (.long wi)])) tz → Steps p.tables e below (T5.setTop (mkF m 36 #[.val (.ref a1), .val (.int p1), .val (.long ((p1.toInt64) - (1 : Int64))), .second] [(.long wi)])) tz := by
      intro tz kz
      refine XS.lloadN X5.here hx rfl (hb hby d5_36) rfl ?_
      show Steps p.tables e below (T5.setTop (mkF m 37 #[.val (.ref a1), .val (.int p1), .val (.long ((p1.toInt64) - (1 : Int64))), .second] [(.long ((p1.toInt64) - (1 : Int64))), (.long wi)])) _
      refine XS.aloadN X5.here hx rfl (hb hby d5_37) rfl rfl ?_
      exact kz
    refine OG.step s6 ?_
    obtain ⟨T7, X7, e7, st7⟩ := getF X5 hx hZ hown (host := "") (Or.inl (hw _ (List.mem_of_getElem? (i := 23) rfl))) Via.refl e5 F1_a1_stepMs (g := (mkF m 38 #[.val (.ref a1), .val (.int p1), .val (.long ((p1.toInt64) - (1 : Int64))), .second] [(.ref a1), (.long ((p1.toInt64) - (1 : Int64))), (.long wi)])) rfl rfl (hb hby d5_38)
    refine OG.step st7 ?_
    show OG _ _ _ _ _ _ _ (T7.setTop (mkF m 41 #[.val (.ref a1), .val (.int p1), .val (.long ((p1.toInt64) - (1 : Int64))), .second] [(.long ws_), (.long ((p1.toInt64) - (1 : Int64))), (.long wi)]))
    have s8 : ∀ tz, Steps p.tables e below (T7.setTop (mkF m 49 #[.val (.ref a1), .val (.int p1), .val (.long ((p1.toInt64) - (1 : Int64))), .second] [(.long (wi + (((p1.toInt64) - (1 : Int64)) * ws_)))])) tz → Steps p.tables e below (T7.setTop (mkF m 41 #[.val (.ref a1), .val (.int p1), .val (.long ((p1.toInt64) - (1 : Int64))), .second] [(.long ws_), (.long ((p1.toInt64) - (1 : Int64))), (.long wi)])) tz := by
      intro tz kz
      refine XS.lmul X7.here hx rfl (hb hby d5_41) rfl ?_
      show Steps p.tables e below (T7.setTop (mkF m 42 #[.val (.ref a1), .val (.int p1), .val (.long ((p1.toInt64) - (1 : Int64))), .second] [(.long (((p1.toInt64) - (1 : Int64)) * ws_)), (.long wi)])) _
      refine XS.ladd X7.here hx rfl (hb hby d5_42) rfl ?_
      show Steps p.tables e below (T7.setTop (mkF m 43 #[.val (.ref a1), .val (.int p1), .val (.long ((p1.toInt64) - (1 : Int64))), .second] [(.long (wi + (((p1.toInt64) - (1 : Int64)) * ws_)))])) _
      refine XS.goto X7.here hx rfl (pc0 := 43) (pc' := 49) rfl (hb hby d5_43) (by decide) (by decide) ?_
      exact kz
    refine OG.step s8 ?_
    exact OG.retJ X7 hx hlk Bd.returns (hb hby d5_49) e7 ⟨(by simp [own_wait, hc11]), N0, rfl⟩ (by decide) (by decide)
  · have s9 : ∀ tz, Steps p.tables e below (T2.setTop (mkF m 19 #[.val (.ref a1), .val (.int p1), .val (.long ((p1.toInt64) - (1 : Int64))), .second] [(.ref a1), (.long (253402300799999 : Int64)), (.long ((p1.toInt64) - (1 : Int64)))])) tz → Steps p.tables e below (T2.setTop (mkF m 11 #[.val (.ref a1), .val (.int p1), .val (.long ((p1.toInt64) - (1 : Int64))), .second] [(.int (lcmpW ws_ (0 : Int64)))])) tz := by
      intro tz kz
      refine XS.ifNo X2.here hx rfl (hb hby d5_11) rfl ((if0 _ _).trans (feq (mt (lw_eq ws_ (0 : Int64)).mp hc11)).1) ?_
      show Steps p.tables e below (T2.setTop (mkF m 14 #[.val (.ref a1), .val (.int p1), .val (.long ((p1.toInt64) - (1 : Int64))), .second] [])) _
      refine XS.lloadN X2.here hx rfl (hb hby d5_14) rfl ?_
      show Steps p.tables e below (T2.setTop (mkF m 15 #[.val (.ref a1), .val (.int p1), .val (.long ((p1.toInt64) - (1 : Int64))), .second] [(.long ((p1.toInt64) - (1 : Int64)))])) _
      refine X2.ldc2Long hx hown (mvT hZ (hw _ (List.mem_of_getElem? (i := 30) rfl))) (g := (mkF m 15 #[.val (.ref a1), .val (.int p1), .val (.long ((p1.toInt64) - (1 : Int64))), .second] [(.long ((p1.toInt64) - (1 : Int64)))])) rfl (hb hby d5_15) _ ?_
      show Steps p.tables e below (T2.setTop (mkF m 18 #[.val (.ref a1), .val (.int p1), .val (.long ((p1.toInt64) - (1 : Int64))), .second] [(.long (253402300799999 : Int64)), (.long ((p1.toInt64) - (1 : Int64)))])) _
      refine XS.aloadN X2.here hx rfl (hb hby d5_18) rfl rfl ?_
      exact kz
    refine OG.step s9 ?_
    obtain ⟨T10, X10, e10, st10⟩ := getF X2 hx hZ hown (host := "") (Or.inl (hw _ (List.mem_of_getElem? (i := 21) rfl))) Via.refl e2 F0_a1_initialMs (g := (mkF m 19 #[.val (.ref a1), .val (.int p1), .val (.long ((p1.toInt64) - (1 : Int64))), .second] [(.ref a1), (.long (253402300799999 : Int64)), (.long ((p1.toInt64) - (1 : Int64)))])) rfl rfl (hb hby d5_19)
    refine OG.step st10 ?_
    show OG _ _ _ _ _ _ _ (T10.setTop (mkF m 22 #[.val (.ref a1), .val (.int p1), .val (.long ((p1.toInt64) - (1 : Int64))), .second] [(.long wi), (.long (253402300799999 : Int64)), (.long ((p1.toInt64) - (1 : Int64)))]))
    have s11 : ∀ tz, Steps p.tables e below (T10.setTop (mkF m 24 #[.val (.ref a1), .val (.int p1), .val (.long ((p1.toInt64) - (1 : Int64))), .second] [(.ref a1), (.long ((253402300799999 : Int64) - wi)), (.long ((p1.toInt64) - (1 : Int64)))])) tz → Steps p.tables e below (T10.setTop (mkF m 22 #[.val (.ref a1), .val (.int p1), .val (.long ((p1.toInt64) - (1 : Int64))), .second] [(.long wi), (.long (253402300799999 : Int64)), (.long ((p1.toInt64) - (1 : Int64)))])) tz := by
      intro tz kz
      refine XS.lsub X10.here hx rfl (hb hby d5_22) rfl ?_
      show Steps p.tables e below (T10.setTop (mkF m 23 #[.val (.ref a1), .val (.int p1), .val (.long ((p1.toInt64) - (1 : Int64))), .second] [(.long ((253402300799999 : Int64) - wi)), (.long ((p1.toInt64) - (1 : Int64)))])) _
      refine XS.aloadN X10.here hx rfl (hb hby d5_23) rfl rfl ?_
      exact kz
    refine OG.step s11 ?_
    obtain ⟨T12, X12, e12, st12⟩ := getF X10 hx hZ hown (host := "") (Or.inl (hw _ (List.mem_of_getElem? (i := 23) rfl))) Via.refl e10 F1_a1_stepMs (g := (mkF m 24 #[.val (.ref a1), .val (.int p1), .val (.long ((p1.toInt64) - (1 : Int64))), .second] [(.ref a1), (.long ((253402300799999 : Int64) - wi)), (.long ((p1.toInt64) - (1 : Int64)))])) rfl rfl (hb hby d5_24)
    refine OG.step st12 ?_
    show OG _ _ _ _ _ _ _ (T12.setTop (mkF m 27 #[.val (.ref a1), .val (.int p1), .val (.long ((p1.toInt64) - (1 : Int64))), .second] [(.long ws_), (.long ((253402300799999 : Int64) - wi)), (.long ((p1.toInt64) - (1 : Int64)))]))
    have s13 : ∀ tz, Steps p.tables e below (T12.setTop (mkF m 29 #[.val (.ref a1), .val (.int p1), .val (.long ((p1.toInt64) - (1 : Int64))), .second] [(.int (lcmpW ((p1.toInt64) - (1 : Int64)) (((253402300799999 : Int64) - wi) / ws_)))])) tz → Steps p.tables e below (T12.setTop (mkF m 27 #[.val (.ref a1), .val (.int p1), .val (.long ((p1.toInt64) - (1 : Int64))), .second] [(.long ws_), (.long ((253402300799999 : Int64) - wi)), (.long ((p1.toInt64) - (1 : Int64)))])) tz := by
      intro tz kz
      refine XS.ldiv X12.here hx rfl (hb hby d5_27) rfl hc11 ?_
      show Steps p.tables e below (T12.setTop (mkF m 28 #[.val (.ref a1), .val (.int p1), .val (.long ((p1.toInt64) - (1 : Int64))), .second] [(.long (((253402300799999 : Int64) - wi) / ws_)), (.long ((p1.toInt64) - (1 : Int64)))])) _
      refine XS.lcmp X12.here hx rfl (hb hby d5_28) rfl ?_
      exact kz
    refine OG.step s13 ?_
    by_cases hc29 : (((253402300799999 : Int64) - wi) / ws_) < ((p1.toInt64) - (1 : Int64))
    · have s14 : ∀ tz, Steps p.tables e below (T12.setTop (mkF m 49 #[.val (.ref a1), .val (.int p1), .val (.long ((p1.toInt64) - (1 : Int64))), .second] [(.long (253402300799999 : Int64))])) tz → Steps p.tables e below (T12.setTop (mkF m 29 #[.val (.ref a1), .val (.int p1), .val (.long ((p1.toInt64) - (1 : Int64))), .second] [(.int (lcmpW ((p1.toInt64) - (1 : Int64)) (((253402300799999 : Int64) - wi) / ws_)))])) tz := by
        intro tz kz
        refine XS.ifYes X12.here hx rfl (pc0 := 29) (pc' := 46) rfl (hb hby d5_29) rfl ((if0 _ _).trans (tlt ((lw_gt ((p1.toInt64) - (1 : Int64)) (((253402300799999 : Int64) - wi) / ws_)).mpr hc29)).2.2.1) (by decide) (by decide) ?_
        show Steps p.tables e below (T12.setTop (mkF m 46 #[.val (.ref a1), .val (.int p1), .val (.long ((p1.toInt64) - (1 : Int64))), .second] [])) _
        refine X12.ldc2Long hx hown (mvT hZ (hw _ (List.mem_of_getElem? (i := 30) rfl))) (g := (mkF m 46 #[.val (.ref a1), .val (.int p1), .val (.long ((p1.toInt64) - (1 : Int64))), .second] [])) rfl (hb hby d5_46) _ ?_
        exact kz
      refine OG.step s14 ?_
      exact OG.retJ X12 hx hlk Bd.returns (hb hby d5_49) e12 ⟨(by simp [own_wait, hc11, hc29]), N0, rfl⟩ (by decide) (by decide)
    · have s15 : ∀ tz, Steps p.tables e below (T12.setTop (mkF m 33 #[.val (.ref a1), .val (.int p1), .val (.long ((p1.toInt64) - (1 : Int64))), .second] [(.ref a1)])) tz → Steps p.tables e below (T12.setTop (mkF m 29 #[.val (.ref a1), .val (.int p1), .val (.long ((p1.toInt64) - (1 : Int64))), .second] [(.int (lcmpW ((p1.toInt64) - (1 : Int64)) (((253402300799999 : Int64) - wi) / ws_)))])) tz := by
        intro tz kz
        refine XS.ifNo X12.here hx rfl (hb hby d5_29) rfl ((if0 _ _).trans (flt (mt (lw_gt ((p1.toInt64) - (1 : Int64)) (((253402300799999 : Int64) - wi) / ws_)).mp hc29)).2.2.1) ?_
        show Steps p.tables e below (T12.setTop (mkF m 32 #[.val (.ref a1), .val (.int p1), .val (.long ((p1.toInt64) - (1 : Int64))), .second] [])) _
        refine XS.aloadN X12.here hx rfl (hb hby d5_32) rfl rfl ?_
        exact kz
      refine OG.step s15 ?_
      obtain ⟨T16, X16, e16, st16⟩ := getF X12 hx hZ hown (host := "") (Or.inl (hw _ (List.mem_of_getElem? (i := 21) rfl))) Via.refl e12 F0_a1_initialMs (g := (mkF m 33 #[.val (.ref a1), .val (.int p1), .val (.long ((p1.toInt64) - (1 : Int64))), .second] [(.ref a1)])) rfl rfl (hb hby d5_33)
      refine OG.step st16 ?_
      show OG _ _ _ _ _ _ _ (T16.setTop (mkF m 36 #[.val (.ref a1), .val (.int p1), .val (.long ((p1.toInt64) - (1 : Int64))), .second] [(.long wi)]))
      have s17 : ∀ tz, Steps p.tables e below (T16.setTop (mkF m 38 #[.val (.ref a1), .val (.int p1), .val (.long ((p1.toInt64) - (1 : Int64))), .second] [(.ref a1), (.long ((p1.toInt64) - (1 : Int64))), (.long wi)])) tz → Steps p.tables e below (T16.setTop (mkF m 36 #[.val (.ref a1), .val (.int p1), .val (.long ((p1.toInt64) - (1 : Int64))), .second] [(.long wi)])) tz := by
        intro tz kz
        refine XS.lloadN X16.here hx rfl (hb hby d5_36) rfl ?_
        show Steps p.tables e below (T16.setTop (mkF m 37 #[.val (.ref a1), .val (.int p1), .val (.long ((p1.toInt64) - (1 : Int64))), .second] [(.long ((p1.toInt64) - (1 : Int64))), (.long wi)])) _
        refine XS.aloadN X16.here hx rfl (hb hby d5_37) rfl rfl ?_
        exact kz
      refine OG.step s17 ?_
      obtain ⟨T18, X18, e18, st18⟩ := getF X16 hx hZ hown (host := "") (Or.inl (hw _ (List.mem_of_getElem? (i := 23) rfl))) Via.refl e16 F1_a1_stepMs (g := (mkF m 38 #[.val (.ref a1), .val (.int p1), .val (.long ((p1.toInt64) - (1 : Int64))), .second] [(.ref a1), (.long ((p1.toInt64) - (1 : Int64))), (.long wi)])) rfl rfl (hb hby d5_38)
      refine OG.step st18 ?_
      show OG _ _ _ _ _ _ _ (T18.setTop (mkF m 41 #[.val (.ref a1), .val (.int p1), .val (.long ((p1.toInt64) - (1 : Int64))), .second] [(.long ws_), (.long ((p1.toInt64) - (1 : Int64))), (.long wi)]))
      have s19 : ∀ tz, Steps p.tables e below (T18.setTop (mkF m 49 #[.val (.ref a1), .val (.int p1), .val (.long ((p1.toInt64) - (1 : Int64))), .second] [(.long (wi + (((p1.toInt64) - (1 : Int64)) * ws_)))])) tz → Steps p.tables e below (T18.setTop (mkF m 41 #[.val (.ref a1), .val (.int p1), .val (.long ((p1.toInt64) - (1 : Int64))), .second] [(.long ws_), (.long ((p1.toInt64) - (1 : Int64))), (.long wi)])) tz := by
        intro tz kz
        refine XS.lmul X18.here hx rfl (hb hby d5_41) rfl ?_
        show Steps p.tables e below (T18.setTop (mkF m 42 #[.val (.ref a1), .val (.int p1), .val (.long ((p1.toInt64) - (1 : Int64))), .second] [(.long (((p1.toInt64) - (1 : Int64)) * ws_)), (.long wi)])) _
        refine XS.ladd X18.here hx rfl (hb hby d5_42) rfl ?_
        show Steps p.tables e below (T18.setTop (mkF m 43 #[.val (.ref a1), .val (.int p1), .val (.long ((p1.toInt64) - (1 : Int64))), .second] [(.long (wi + (((p1.toInt64) - (1 : Int64)) * ws_)))])) _
        refine XS.goto X18.here hx rfl (pc0 := 43) (pc' := 49) rfl (hb hby d5_43) (by decide) (by decide) ?_
        exact kz
      refine OG.step s19 ?_
      exact OG.retJ X18 hx hlk Bd.returns (hb hby d5_49) e18 ⟨(by simp [own_wait, hc11, hc29]), N0, rfl⟩ (by decide) (by decide)
theorem d6_0 : decode method_3_code 0 = .ok (.iload 4, 2) := by decide +kernel
theorem d6_2 : decode method_3_code 2 = .ok (.i2l, 1) := by decide +kernel
theorem d6_3 : decode method_3_code 3 = .ok (.lconst 1, 1) := by decide +kernel
theorem d6_4 : decode method_3_code 4 = .ok (.lsub, 1) := by decide +kernel
theorem d6_5 : decode method_3_code 5 = .ok (.lstore 5, 2) := by decide +kernel
theorem d6_7 : decode method_3_code 7 = .ok (.lload_n 2, 1) := by decide +kernel
theorem d6_8 : decode method_3_code 8 = .ok (.bipush 24, 2) := by decide +kernel
theorem d6_10 : decode method_3_code 10 = .ok (.lushr, 1) := by decide +kernel
theorem d6_11 : decode method_3_code 11 = .ok (.lstore 7, 2) := by decide +kernel
theorem d6_13 : decode method_3_code 13 = .ok (.lload_n 2, 1) := by decide +kernel
theorem d6_14 : decode method_3_code 14 = .ok (.ldc2_w 35, 3) := by decide +kernel
theorem d6_17 : decode method_3_code 17 = .ok (.land, 1) := by decide +kernel
theorem d6_18 : decode method_3_code 18 = .ok (.lstore 9, 2) := by decide +kernel
theorem d6_20 : decode method_3_code 20 = .ok (.lload 5, 2) := by decide +kernel
theorem d6_22 : decode method_3_code 22 = .ok (.lload 7, 2) := by decide +kernel
theorem d6_24 : decode method_3_code 24 = .ok (.lmul, 1) := by decide +kernel
theorem d6_25 : decode method_3_code 25 = .ok (.lstore 11, 2) := by decide +kernel
theorem d6_27 : decode method_3_code 27 = .ok (.lload 11, 2) := by decide +kernel
theorem d6_29 : decode method_3_code 29 = .ok (.ldc2_w 37, 3) := by decide +kernel
theorem d6_32 : decode method_3_code 32 = .ok (.lcmp, 1) := by decide +kernel
theorem d6_33 : decode method_3_code 33 = .ok (.ifCond .lt 7, 3) := by decide +kernel
theorem d6_36 : decode method_3_code 36 = .ok (.ldc2_w 39, 3) := by decide +kernel
theorem d6_39 : decode method_3_code 39 = .ok (.lreturn, 1) := by decide +kernel
theorem d6_40 : decode method_3_code 40 = .ok (.lload 11, 2) := by decide +kernel
theorem d6_42 : decode method_3_code 42 = .ok (.bipush 24, 2) := by decide +kernel
theorem d6_44 : decode method_3_code 44 = .ok (.lshl, 1) := by decide +kernel
theorem d6_45 : decode method_3_code 45 = .ok (.lload 5, 2) := by decide +kernel
theorem d6_47 : decode method_3_code 47 = .ok (.lload 9, 2) := by decide +kernel
theorem d6_49 : decode method_3_code 49 = .ok (.lmul, 1) := by decide +kernel
theorem d6_50 : decode method_3_code 50 = .ok (.ladd, 1) := by decide +kernel
theorem d6_51 : decode method_3_code 51 = .ok (.lload_n 0, 1) := by decide +kernel
theorem d6_52 : decode method_3_code 52 = .ok (.ladd, 1) := by decide +kernel
theorem d6_53 : decode method_3_code 53 = .ok (.lstore 13, 2) := by decide +kernel
theorem d6_55 : decode method_3_code 55 = .ok (.lload 13, 2) := by decide +kernel
theorem d6_57 : decode method_3_code 57 = .ok (.ldc2_w 39, 3) := by decide +kernel
theorem d6_60 : decode method_3_code 60 = .ok (.invokestatic 41, 3) := by decide +kernel
theorem d6_63 : decode method_3_code 63 = .ok (.lreturn, 1) := by decide +kernel
theorem pn_com_example_measured_queue_measuredqueue_LinearWaitMsPinLaw : plainName "com/example/measured_queue/measuredqueue/LinearWaitMsPinLaw" = true := by first | (simp [plainName, overriddenIn]; done) | decide +kernel
theorem ef_6 (m : MethodId) (x0 : Int64) (x1 : Int64) (x2 : Int32) : entryFrame m #[(.long x0), (.long x1), (.int x2)] 15 = mkF m 0 #[.val (.long x0), .second, .val (.long x1), .second, .val (.int x2), .unset, .unset, .unset, .unset, .unset, .unset, .unset, .unset, .unset, .unset] [] := by first | (simp [entryFrame, mkF, argsToLocals, Value.category]; done) | rfl
def Q6 (Z : State) (q0 : Int64) (q1 : Int64) (p2 : Int32) (h0 : Heap) (n0 : Nat) (v : Option Value) (h : Heap) (L : List Loc) : Prop := (v = some (.long (own_exp q0 q1 p2))) ∧ (Fr n0 L) ∧ (h = h0)
theorem pd__JJ_J : parseMethodDescriptor "(JJ)J" = some ⟨[.long, .long], some .long⟩ := by decide +kernel
abbrev rom_6 : Room := { frames := 1, cells := 0, slots := 0, locals := 15 }
set_option maxRecDepth 65536 in
set_option maxHeartbeats 40000000 in
theorem rm6 (l : Launch) (Z : State) (a0 : Array Value) (hw : ∀ d ∈ tables_1, d.before a0 Z = true) (ws : List Jvm.Cond) (q0 : Int64) (q1 : Int64) (p2 : Int32) (h0 : Heap) (n0 : Nat) (Z0 : n0 ≤ h0.size) :
    MetFree l (⟨"com/example/measured_queue/measuredqueue/LinearWaitMsPinLaw", "expected", "(JJI)J"⟩ : MethodName) (head1 (Jvm.Cond.code (⟨"com/example/measured_queue/measuredqueue/LinearWaitMsPinLaw", "expected", "(JJI)J"⟩ : MethodName) method_3_code 15 (some .long) :: ws) rom_6) (fun a U => a = #[(.long q0), (.long q1), (.int p2)] ∧ Z.Warmed39 U.vm ∧ U.heap = h0) (fun _ _ _ _ _ => True) (fun _ U o U' => ∃ v L, o = .returned v ∧ Q6 Z q0 q1 p2 h0 n0 v U'.heap L ∧ FrameEnd U o U' L rom_6.cells rom_6.slots) := by
  refine MetFree.of_bodySF (plainFor_of_name pn_com_example_measured_queue_measuredqueue_LinearWaitMsPinLaw) hisR ?_
  intro p e s m args below meth c s₁ Bd hml0 hP hK
  obtain ⟨rfl, hZ, hh⟩ := hP
  have hx := Bd.exec
  have hby := Bd.bytes
  have hlk := Bd.notSynchronized
  have hml : c.maxLocals = 15 := hml0
  have hown : s.vm.findClass "com/example/measured_queue/measuredqueue/LinearWaitMsPinLaw" = some m.cls := findClass_of_methodNamed Bd.named
  have hnm := (name_of_methodNamed Bd.named Bd.method).1
  have X0 : Stand p l e rom_6 s m #[(.long q0), (.long q1), (.int p2)] below meth c s₁ [] 0 0 := Stand.of_body Bd
  have e0 : s₁.heap = h0 := by rw [← hh, Bd.state]; rfl
  have N0 := Fr.nil n0
  have K0 : Keep h0 h0 [] := Keep.refl _ _
  refine (?_ : OG p e below s (Q6 Z q0 q1 p2 h0 n0) rom_6.cells rom_6.slots _)
  rw [ef_6]
  have s1 : ∀ tz, Steps p.tables e below (s₁.setTop (mkF m 33 #[.val (.long q0), .second, .val (.long q1), .second, .val (.int p2), .val (.long ((p2.toInt64) - (1 : Int64))), .second, .val (.long ((q1.toUInt64 >>> ((24 : Int32) &&& 0x3f).toInt64.toUInt64).toInt64)), .second, .val (.long (q1 &&& (16777215 : Int64))), .second, .val (.long (own_hp q1 p2)), .second, .unset, .unset] [(.int (lcmpW (own_hp q1 p2) (16777216 : Int64)))])) tz → Steps p.tables e below (s₁.setTop (mkF m 0 #[.val (.long q0), .second, .val (.long q1), .second, .val (.int p2), .unset, .unset, .unset, .unset, .unset, .unset, .unset, .unset, .unset, .unset] [])) tz := by
    intro tz kz
    refine XS.iload X0.here hx rfl (hb hby d6_0) rfl ?_
    show Steps p.tables e below (s₁.setTop (mkF m 2 #[.val (.long q0), .second, .val (.long q1), .second, .val (.int p2), .unset, .unset, .unset, .unset, .unset, .unset, .unset, .unset, .unset, .unset] [(.int p2)])) _
    refine XS.i2l X0.here hx rfl (hb hby d6_2) rfl ?_
    show Steps p.tables e below (s₁.setTop (mkF m 3 #[.val (.long q0), .second, .val (.long q1), .second, .val (.int p2), .unset, .unset, .unset, .unset, .unset, .unset, .unset, .unset, .unset, .unset] [(.long (p2.toInt64))])) _
    refine XS.lconst X0.here hx rfl (hb hby d6_3) ?_
    show Steps p.tables e below (s₁.setTop (mkF m 4 #[.val (.long q0), .second, .val (.long q1), .second, .val (.int p2), .unset, .unset, .unset, .unset, .unset, .unset, .unset, .unset, .unset, .unset] [(.long (1 : Int64)), (.long (p2.toInt64))])) _
    refine XS.lsub X0.here hx rfl (hb hby d6_4) rfl ?_
    show Steps p.tables e below (s₁.setTop (mkF m 5 #[.val (.long q0), .second, .val (.long q1), .second, .val (.int p2), .unset, .unset, .unset, .unset, .unset, .unset, .unset, .unset, .unset, .unset] [(.long ((p2.toInt64) - (1 : Int64)))])) _
    refine XS.lstore X0.here hx rfl (hb hby d6_5) rfl (l' := #[.val (.long q0), .second, .val (.long q1), .second, .val (.int p2), .val (.long ((p2.toInt64) - (1 : Int64))), .second, .unset, .unset, .unset, .unset, .unset, .unset, .unset, .unset]) rfl ?_
    show Steps p.tables e below (s₁.setTop (mkF m 7 #[.val (.long q0), .second, .val (.long q1), .second, .val (.int p2), .val (.long ((p2.toInt64) - (1 : Int64))), .second, .unset, .unset, .unset, .unset, .unset, .unset, .unset, .unset] [])) _
    refine XS.lloadN X0.here hx rfl (hb hby d6_7) rfl ?_
    show Steps p.tables e below (s₁.setTop (mkF m 8 #[.val (.long q0), .second, .val (.long q1), .second, .val (.int p2), .val (.long ((p2.toInt64) - (1 : Int64))), .second, .unset, .unset, .unset, .unset, .unset, .unset, .unset, .unset] [(.long q1)])) _
    refine XS.bipush X0.here hx rfl (hb hby d6_8) ?_
    show Steps p.tables e below (s₁.setTop (mkF m 10 #[.val (.long q0), .second, .val (.long q1), .second, .val (.int p2), .val (.long ((p2.toInt64) - (1 : Int64))), .second, .unset, .unset, .unset, .unset, .unset, .unset, .unset, .unset] [(.int (24 : Int32)), (.long q1)])) _
    refine XS.lushr X0.here hx rfl (hb hby d6_10) rfl ?_
    show Steps p.tables e below (s₁.setTop (mkF m 11 #[.val (.long q0), .second, .val (.long q1), .second, .val (.int p2), .val (.long ((p2.toInt64) - (1 : Int64))), .second, .unset, .unset, .unset, .unset, .unset, .unset, .unset, .unset] [(.long ((q1.toUInt64 >>> ((24 : Int32) &&& 0x3f).toInt64.toUInt64).toInt64))])) _
    refine XS.lstore X0.here hx rfl (hb hby d6_11) rfl (l' := #[.val (.long q0), .second, .val (.long q1), .second, .val (.int p2), .val (.long ((p2.toInt64) - (1 : Int64))), .second, .val (.long ((q1.toUInt64 >>> ((24 : Int32) &&& 0x3f).toInt64.toUInt64).toInt64)), .second, .unset, .unset, .unset, .unset, .unset, .unset]) rfl ?_
    show Steps p.tables e below (s₁.setTop (mkF m 13 #[.val (.long q0), .second, .val (.long q1), .second, .val (.int p2), .val (.long ((p2.toInt64) - (1 : Int64))), .second, .val (.long ((q1.toUInt64 >>> ((24 : Int32) &&& 0x3f).toInt64.toUInt64).toInt64)), .second, .unset, .unset, .unset, .unset, .unset, .unset] [])) _
    refine XS.lloadN X0.here hx rfl (hb hby d6_13) rfl ?_
    show Steps p.tables e below (s₁.setTop (mkF m 14 #[.val (.long q0), .second, .val (.long q1), .second, .val (.int p2), .val (.long ((p2.toInt64) - (1 : Int64))), .second, .val (.long ((q1.toUInt64 >>> ((24 : Int32) &&& 0x3f).toInt64.toUInt64).toInt64)), .second, .unset, .unset, .unset, .unset, .unset, .unset] [(.long q1)])) _
    refine X0.ldc2Long hx hown (mvT hZ (hw _ (List.mem_of_getElem? (i := 35) rfl))) (g := (mkF m 14 #[.val (.long q0), .second, .val (.long q1), .second, .val (.int p2), .val (.long ((p2.toInt64) - (1 : Int64))), .second, .val (.long ((q1.toUInt64 >>> ((24 : Int32) &&& 0x3f).toInt64.toUInt64).toInt64)), .second, .unset, .unset, .unset, .unset, .unset, .unset] [(.long q1)])) rfl (hb hby d6_14) _ ?_
    show Steps p.tables e below (s₁.setTop (mkF m 17 #[.val (.long q0), .second, .val (.long q1), .second, .val (.int p2), .val (.long ((p2.toInt64) - (1 : Int64))), .second, .val (.long ((q1.toUInt64 >>> ((24 : Int32) &&& 0x3f).toInt64.toUInt64).toInt64)), .second, .unset, .unset, .unset, .unset, .unset, .unset] [(.long (16777215 : Int64)), (.long q1)])) _
    refine XS.land X0.here hx rfl (hb hby d6_17) rfl ?_
    show Steps p.tables e below (s₁.setTop (mkF m 18 #[.val (.long q0), .second, .val (.long q1), .second, .val (.int p2), .val (.long ((p2.toInt64) - (1 : Int64))), .second, .val (.long ((q1.toUInt64 >>> ((24 : Int32) &&& 0x3f).toInt64.toUInt64).toInt64)), .second, .unset, .unset, .unset, .unset, .unset, .unset] [(.long (q1 &&& (16777215 : Int64)))])) _
    refine XS.lstore X0.here hx rfl (hb hby d6_18) rfl (l' := #[.val (.long q0), .second, .val (.long q1), .second, .val (.int p2), .val (.long ((p2.toInt64) - (1 : Int64))), .second, .val (.long ((q1.toUInt64 >>> ((24 : Int32) &&& 0x3f).toInt64.toUInt64).toInt64)), .second, .val (.long (q1 &&& (16777215 : Int64))), .second, .unset, .unset, .unset, .unset]) rfl ?_
    show Steps p.tables e below (s₁.setTop (mkF m 20 #[.val (.long q0), .second, .val (.long q1), .second, .val (.int p2), .val (.long ((p2.toInt64) - (1 : Int64))), .second, .val (.long ((q1.toUInt64 >>> ((24 : Int32) &&& 0x3f).toInt64.toUInt64).toInt64)), .second, .val (.long (q1 &&& (16777215 : Int64))), .second, .unset, .unset, .unset, .unset] [])) _
    refine XS.lload X0.here hx rfl (hb hby d6_20) rfl ?_
    show Steps p.tables e below (s₁.setTop (mkF m 22 #[.val (.long q0), .second, .val (.long q1), .second, .val (.int p2), .val (.long ((p2.toInt64) - (1 : Int64))), .second, .val (.long ((q1.toUInt64 >>> ((24 : Int32) &&& 0x3f).toInt64.toUInt64).toInt64)), .second, .val (.long (q1 &&& (16777215 : Int64))), .second, .unset, .unset, .unset, .unset] [(.long ((p2.toInt64) - (1 : Int64)))])) _
    refine XS.lload X0.here hx rfl (hb hby d6_22) rfl ?_
    show Steps p.tables e below (s₁.setTop (mkF m 24 #[.val (.long q0), .second, .val (.long q1), .second, .val (.int p2), .val (.long ((p2.toInt64) - (1 : Int64))), .second, .val (.long ((q1.toUInt64 >>> ((24 : Int32) &&& 0x3f).toInt64.toUInt64).toInt64)), .second, .val (.long (q1 &&& (16777215 : Int64))), .second, .unset, .unset, .unset, .unset] [(.long ((q1.toUInt64 >>> ((24 : Int32) &&& 0x3f).toInt64.toUInt64).toInt64)), (.long ((p2.toInt64) - (1 : Int64)))])) _
    refine XS.lmul X0.here hx rfl (hb hby d6_24) rfl ?_
    show Steps p.tables e below (s₁.setTop (mkF m 25 #[.val (.long q0), .second, .val (.long q1), .second, .val (.int p2), .val (.long ((p2.toInt64) - (1 : Int64))), .second, .val (.long ((q1.toUInt64 >>> ((24 : Int32) &&& 0x3f).toInt64.toUInt64).toInt64)), .second, .val (.long (q1 &&& (16777215 : Int64))), .second, .unset, .unset, .unset, .unset] [(.long (((p2.toInt64) - (1 : Int64)) * ((q1.toUInt64 >>> ((24 : Int32) &&& 0x3f).toInt64.toUInt64).toInt64)))])) _
    refine XS.lstore X0.here hx rfl (hb hby d6_25) rfl (l' := #[.val (.long q0), .second, .val (.long q1), .second, .val (.int p2), .val (.long ((p2.toInt64) - (1 : Int64))), .second, .val (.long ((q1.toUInt64 >>> ((24 : Int32) &&& 0x3f).toInt64.toUInt64).toInt64)), .second, .val (.long (q1 &&& (16777215 : Int64))), .second, .val (.long (own_hp q1 p2)), .second, .unset, .unset]) rfl ?_
    show Steps p.tables e below (s₁.setTop (mkF m 27 #[.val (.long q0), .second, .val (.long q1), .second, .val (.int p2), .val (.long ((p2.toInt64) - (1 : Int64))), .second, .val (.long ((q1.toUInt64 >>> ((24 : Int32) &&& 0x3f).toInt64.toUInt64).toInt64)), .second, .val (.long (q1 &&& (16777215 : Int64))), .second, .val (.long (own_hp q1 p2)), .second, .unset, .unset] [])) _
    refine XS.lload X0.here hx rfl (hb hby d6_27) rfl ?_
    show Steps p.tables e below (s₁.setTop (mkF m 29 #[.val (.long q0), .second, .val (.long q1), .second, .val (.int p2), .val (.long ((p2.toInt64) - (1 : Int64))), .second, .val (.long ((q1.toUInt64 >>> ((24 : Int32) &&& 0x3f).toInt64.toUInt64).toInt64)), .second, .val (.long (q1 &&& (16777215 : Int64))), .second, .val (.long (own_hp q1 p2)), .second, .unset, .unset] [(.long (own_hp q1 p2))])) _
    refine X0.ldc2Long hx hown (mvT hZ (hw _ (List.mem_of_getElem? (i := 36) rfl))) (g := (mkF m 29 #[.val (.long q0), .second, .val (.long q1), .second, .val (.int p2), .val (.long ((p2.toInt64) - (1 : Int64))), .second, .val (.long ((q1.toUInt64 >>> ((24 : Int32) &&& 0x3f).toInt64.toUInt64).toInt64)), .second, .val (.long (q1 &&& (16777215 : Int64))), .second, .val (.long (own_hp q1 p2)), .second, .unset, .unset] [(.long (own_hp q1 p2))])) rfl (hb hby d6_29) _ ?_
    show Steps p.tables e below (s₁.setTop (mkF m 32 #[.val (.long q0), .second, .val (.long q1), .second, .val (.int p2), .val (.long ((p2.toInt64) - (1 : Int64))), .second, .val (.long ((q1.toUInt64 >>> ((24 : Int32) &&& 0x3f).toInt64.toUInt64).toInt64)), .second, .val (.long (q1 &&& (16777215 : Int64))), .second, .val (.long (own_hp q1 p2)), .second, .unset, .unset] [(.long (16777216 : Int64)), (.long (own_hp q1 p2))])) _
    refine XS.lcmp X0.here hx rfl (hb hby d6_32) rfl ?_
    exact kz
  refine OG.step s1 ?_
  by_cases hc33 : (own_hp q1 p2) < (16777216 : Int64)
  · have s2 : ∀ tz, Steps p.tables e below (s₁.setTop (mkF m 60 #[.val (.long q0), .second, .val (.long q1), .second, .val (.int p2), .val (.long ((p2.toInt64) - (1 : Int64))), .second, .val (.long ((q1.toUInt64 >>> ((24 : Int32) &&& 0x3f).toInt64.toUInt64).toInt64)), .second, .val (.long (q1 &&& (16777215 : Int64))), .second, .val (.long (own_hp q1 p2)), .second, .val (.long (own_tot q0 q1 p2)), .second] [(.long (253402300799999 : Int64)), (.long (own_tot q0 q1 p2))])) tz → Steps p.tables e below (s₁.setTop (mkF m 33 #[.val (.long q0), .second, .val (.long q1), .second, .val (.int p2), .val (.long ((p2.toInt64) - (1 : Int64))), .second, .val (.long ((q1.toUInt64 >>> ((24 : Int32) &&& 0x3f).toInt64.toUInt64).toInt64)), .second, .val (.long (q1 &&& (16777215 : Int64))), .second, .val (.long (own_hp q1 p2)), .second, .unset, .unset] [(.int (lcmpW (own_hp q1 p2) (16777216 : Int64)))])) tz := by
      intro tz kz
      refine XS.ifYes X0.here hx rfl (pc0 := 33) (pc' := 40) rfl (hb hby d6_33) rfl ((if0 _ _).trans (tlt ((lw_lt (own_hp q1 p2) (16777216 : Int64)).mpr hc33)).1) (by decide) (by decide) ?_
      show Steps p.tables e below (s₁.setTop (mkF m 40 #[.val (.long q0), .second, .val (.long q1), .second, .val (.int p2), .val (.long ((p2.toInt64) - (1 : Int64))), .second, .val (.long ((q1.toUInt64 >>> ((24 : Int32) &&& 0x3f).toInt64.toUInt64).toInt64)), .second, .val (.long (q1 &&& (16777215 : Int64))), .second, .val (.long (own_hp q1 p2)), .second, .unset, .unset] [])) _
      refine XS.lload X0.here hx rfl (hb hby d6_40) rfl ?_
      show Steps p.tables e below (s₁.setTop (mkF m 42 #[.val (.long q0), .second, .val (.long q1), .second, .val (.int p2), .val (.long ((p2.toInt64) - (1 : Int64))), .second, .val (.long ((q1.toUInt64 >>> ((24 : Int32) &&& 0x3f).toInt64.toUInt64).toInt64)), .second, .val (.long (q1 &&& (16777215 : Int64))), .second, .val (.long (own_hp q1 p2)), .second, .unset, .unset] [(.long (own_hp q1 p2))])) _
      refine XS.bipush X0.here hx rfl (hb hby d6_42) ?_
      show Steps p.tables e below (s₁.setTop (mkF m 44 #[.val (.long q0), .second, .val (.long q1), .second, .val (.int p2), .val (.long ((p2.toInt64) - (1 : Int64))), .second, .val (.long ((q1.toUInt64 >>> ((24 : Int32) &&& 0x3f).toInt64.toUInt64).toInt64)), .second, .val (.long (q1 &&& (16777215 : Int64))), .second, .val (.long (own_hp q1 p2)), .second, .unset, .unset] [(.int (24 : Int32)), (.long (own_hp q1 p2))])) _
      refine XS.lshl X0.here hx rfl (hb hby d6_44) rfl ?_
      show Steps p.tables e below (s₁.setTop (mkF m 45 #[.val (.long q0), .second, .val (.long q1), .second, .val (.int p2), .val (.long ((p2.toInt64) - (1 : Int64))), .second, .val (.long ((q1.toUInt64 >>> ((24 : Int32) &&& 0x3f).toInt64.toUInt64).toInt64)), .second, .val (.long (q1 &&& (16777215 : Int64))), .second, .val (.long (own_hp q1 p2)), .second, .unset, .unset] [(.long ((own_hp q1 p2) <<< ((24 : Int32) &&& 0x3f).toInt64))])) _
      refine XS.lload X0.here hx rfl (hb hby d6_45) rfl ?_
      show Steps p.tables e below (s₁.setTop (mkF m 47 #[.val (.long q0), .second, .val (.long q1), .second, .val (.int p2), .val (.long ((p2.toInt64) - (1 : Int64))), .second, .val (.long ((q1.toUInt64 >>> ((24 : Int32) &&& 0x3f).toInt64.toUInt64).toInt64)), .second, .val (.long (q1 &&& (16777215 : Int64))), .second, .val (.long (own_hp q1 p2)), .second, .unset, .unset] [(.long ((p2.toInt64) - (1 : Int64))), (.long ((own_hp q1 p2) <<< ((24 : Int32) &&& 0x3f).toInt64))])) _
      refine XS.lload X0.here hx rfl (hb hby d6_47) rfl ?_
      show Steps p.tables e below (s₁.setTop (mkF m 49 #[.val (.long q0), .second, .val (.long q1), .second, .val (.int p2), .val (.long ((p2.toInt64) - (1 : Int64))), .second, .val (.long ((q1.toUInt64 >>> ((24 : Int32) &&& 0x3f).toInt64.toUInt64).toInt64)), .second, .val (.long (q1 &&& (16777215 : Int64))), .second, .val (.long (own_hp q1 p2)), .second, .unset, .unset] [(.long (q1 &&& (16777215 : Int64))), (.long ((p2.toInt64) - (1 : Int64))), (.long ((own_hp q1 p2) <<< ((24 : Int32) &&& 0x3f).toInt64))])) _
      refine XS.lmul X0.here hx rfl (hb hby d6_49) rfl ?_
      show Steps p.tables e below (s₁.setTop (mkF m 50 #[.val (.long q0), .second, .val (.long q1), .second, .val (.int p2), .val (.long ((p2.toInt64) - (1 : Int64))), .second, .val (.long ((q1.toUInt64 >>> ((24 : Int32) &&& 0x3f).toInt64.toUInt64).toInt64)), .second, .val (.long (q1 &&& (16777215 : Int64))), .second, .val (.long (own_hp q1 p2)), .second, .unset, .unset] [(.long (((p2.toInt64) - (1 : Int64)) * (q1 &&& (16777215 : Int64)))), (.long ((own_hp q1 p2) <<< ((24 : Int32) &&& 0x3f).toInt64))])) _
      refine XS.ladd X0.here hx rfl (hb hby d6_50) rfl ?_
      show Steps p.tables e below (s₁.setTop (mkF m 51 #[.val (.long q0), .second, .val (.long q1), .second, .val (.int p2), .val (.long ((p2.toInt64) - (1 : Int64))), .second, .val (.long ((q1.toUInt64 >>> ((24 : Int32) &&& 0x3f).toInt64.toUInt64).toInt64)), .second, .val (.long (q1 &&& (16777215 : Int64))), .second, .val (.long (own_hp q1 p2)), .second, .unset, .unset] [(.long (((own_hp q1 p2) <<< ((24 : Int32) &&& 0x3f).toInt64) + (((p2.toInt64) - (1 : Int64)) * (q1 &&& (16777215 : Int64)))))])) _
      refine XS.lloadN X0.here hx rfl (hb hby d6_51) rfl ?_
      show Steps p.tables e below (s₁.setTop (mkF m 52 #[.val (.long q0), .second, .val (.long q1), .second, .val (.int p2), .val (.long ((p2.toInt64) - (1 : Int64))), .second, .val (.long ((q1.toUInt64 >>> ((24 : Int32) &&& 0x3f).toInt64.toUInt64).toInt64)), .second, .val (.long (q1 &&& (16777215 : Int64))), .second, .val (.long (own_hp q1 p2)), .second, .unset, .unset] [(.long q0), (.long (((own_hp q1 p2) <<< ((24 : Int32) &&& 0x3f).toInt64) + (((p2.toInt64) - (1 : Int64)) * (q1 &&& (16777215 : Int64)))))])) _
      refine XS.ladd X0.here hx rfl (hb hby d6_52) rfl ?_
      show Steps p.tables e below (s₁.setTop (mkF m 53 #[.val (.long q0), .second, .val (.long q1), .second, .val (.int p2), .val (.long ((p2.toInt64) - (1 : Int64))), .second, .val (.long ((q1.toUInt64 >>> ((24 : Int32) &&& 0x3f).toInt64.toUInt64).toInt64)), .second, .val (.long (q1 &&& (16777215 : Int64))), .second, .val (.long (own_hp q1 p2)), .second, .unset, .unset] [(.long ((((own_hp q1 p2) <<< ((24 : Int32) &&& 0x3f).toInt64) + (((p2.toInt64) - (1 : Int64)) * (q1 &&& (16777215 : Int64)))) + q0))])) _
      refine XS.lstore X0.here hx rfl (hb hby d6_53) rfl (l' := #[.val (.long q0), .second, .val (.long q1), .second, .val (.int p2), .val (.long ((p2.toInt64) - (1 : Int64))), .second, .val (.long ((q1.toUInt64 >>> ((24 : Int32) &&& 0x3f).toInt64.toUInt64).toInt64)), .second, .val (.long (q1 &&& (16777215 : Int64))), .second, .val (.long (own_hp q1 p2)), .second, .val (.long (own_tot q0 q1 p2)), .second]) rfl ?_
      show Steps p.tables e below (s₁.setTop (mkF m 55 #[.val (.long q0), .second, .val (.long q1), .second, .val (.int p2), .val (.long ((p2.toInt64) - (1 : Int64))), .second, .val (.long ((q1.toUInt64 >>> ((24 : Int32) &&& 0x3f).toInt64.toUInt64).toInt64)), .second, .val (.long (q1 &&& (16777215 : Int64))), .second, .val (.long (own_hp q1 p2)), .second, .val (.long (own_tot q0 q1 p2)), .second] [])) _
      refine XS.lload X0.here hx rfl (hb hby d6_55) rfl ?_
      show Steps p.tables e below (s₁.setTop (mkF m 57 #[.val (.long q0), .second, .val (.long q1), .second, .val (.int p2), .val (.long ((p2.toInt64) - (1 : Int64))), .second, .val (.long ((q1.toUInt64 >>> ((24 : Int32) &&& 0x3f).toInt64.toUInt64).toInt64)), .second, .val (.long (q1 &&& (16777215 : Int64))), .second, .val (.long (own_hp q1 p2)), .second, .val (.long (own_tot q0 q1 p2)), .second] [(.long (own_tot q0 q1 p2))])) _
      refine X0.ldc2Long hx hown (mvT hZ (hw _ (List.mem_of_getElem? (i := 37) rfl))) (g := (mkF m 57 #[.val (.long q0), .second, .val (.long q1), .second, .val (.int p2), .val (.long ((p2.toInt64) - (1 : Int64))), .second, .val (.long ((q1.toUInt64 >>> ((24 : Int32) &&& 0x3f).toInt64.toUInt64).toInt64)), .second, .val (.long (q1 &&& (16777215 : Int64))), .second, .val (.long (own_hp q1 p2)), .second, .val (.long (own_tot q0 q1 p2)), .second] [(.long (own_tot q0 q1 p2))])) rfl (hb hby d6_57) _ ?_
      exact kz
    refine OG.step s2 ?_
    obtain ⟨_, _, ⟨T3, L3, k3, n3⟩, -, X3, ⟨Lc3, hQ3, l3, y3, z3⟩, st3⟩ := Jvm.LawKit.callS X0 hx (y := (⟨"java/lang/Math", "min", "(JJ)J"⟩ : MethodName)) hown (mvT hZ (hw _ (List.mem_of_getElem? (i := 38) rfl))) (mvT hZ (hw _ (List.mem_of_getElem? (i := 39) rfl))) (mvT hZ (hw _ (List.mem_of_getElem? (i := 5) rfl))) (mvT hZ (hw _ (List.mem_of_getElem? (i := 40) rfl))) (by decide) (backOf (W := 0) (rm7 l Z a0 hw [] (own_tot q0 q1 p2) (253402300799999 : Int64) h0 n0 (Nat.le_trans Z0 K0.1)) hZ (hw _ (List.mem_of_getElem? (i := 40) rfl)) (hw _ (List.mem_of_getElem? (i := 5) rfl)) (by decide) (by decide)) (g := (mkF m 60 #[.val (.long q0), .second, .val (.long q1), .second, .val (.int p2), .val (.long ((p2.toInt64) - (1 : Int64))), .second, .val (.long ((q1.toUInt64 >>> ((24 : Int32) &&& 0x3f).toInt64.toUInt64).toInt64)), .second, .val (.long (q1 &&& (16777215 : Int64))), .second, .val (.long (own_hp q1 p2)), .second, .val (.long (own_tot q0 q1 p2)), .second] [(.long (253402300799999 : Int64)), (.long (own_tot q0 q1 p2))])) rfl (by rw [hml]; rfl) (argsL := [(.long (own_tot q0 q1 p2)), (.long (253402300799999 : Int64))]) (rest := []) (lenOf pd__JJ_J rfl) rfl (by show 2 * 0 + _ ≤ _; exact Nat.le_of_eq rfl) (hb hby d6_60) (fun _ _ => ⟨rfl, e0, (by decide : 0 + 0 ≤ _), (by decide : 0 + 0 ≤ _)⟩)
    dsimp only [Pt.U, Pt.locs, Pt.cells, Pt.slots] at X3 l3 y3 z3 st3 hQ3
    subst l3 y3 z3
    obtain ⟨rfl, N3q, e3⟩ := hQ3
    have N3 := Fr.app N0 N3q
    refine OG.step st3 ?_
    show OG _ _ _ _ _ _ _ (T3.setTop (mkF m 63 #[.val (.long q0), .second, .val (.long q1), .second, .val (.int p2), .val (.long ((p2.toInt64) - (1 : Int64))), .second, .val (.long ((q1.toUInt64 >>> ((24 : Int32) &&& 0x3f).toInt64.toUInt64).toInt64)), .second, .val (.long (q1 &&& (16777215 : Int64))), .second, .val (.long (own_hp q1 p2)), .second, .val (.long (own_tot q0 q1 p2)), .second] [(.long (own_minJ (own_tot q0 q1 p2) (253402300799999 : Int64)))]))
    exact OG.retJ X3 hx hlk Bd.returns (hb hby d6_63) e3 ⟨(by simp [own_exp, hc33]), N3, rfl⟩ (by decide) (by decide)
  · have s4 : ∀ tz, Steps p.tables e below (s₁.setTop (mkF m 39 #[.val (.long q0), .second, .val (.long q1), .second, .val (.int p2), .val (.long ((p2.toInt64) - (1 : Int64))), .second, .val (.long ((q1.toUInt64 >>> ((24 : Int32) &&& 0x3f).toInt64.toUInt64).toInt64)), .second, .val (.long (q1 &&& (16777215 : Int64))), .second, .val (.long (own_hp q1 p2)), .second, .unset, .unset] [(.long (253402300799999 : Int64))])) tz → Steps p.tables e below (s₁.setTop (mkF m 33 #[.val (.long q0), .second, .val (.long q1), .second, .val (.int p2), .val (.long ((p2.toInt64) - (1 : Int64))), .second, .val (.long ((q1.toUInt64 >>> ((24 : Int32) &&& 0x3f).toInt64.toUInt64).toInt64)), .second, .val (.long (q1 &&& (16777215 : Int64))), .second, .val (.long (own_hp q1 p2)), .second, .unset, .unset] [(.int (lcmpW (own_hp q1 p2) (16777216 : Int64)))])) tz := by
      intro tz kz
      refine XS.ifNo X0.here hx rfl (hb hby d6_33) rfl ((if0 _ _).trans (flt (mt (lw_lt (own_hp q1 p2) (16777216 : Int64)).mp hc33)).1) ?_
      show Steps p.tables e below (s₁.setTop (mkF m 36 #[.val (.long q0), .second, .val (.long q1), .second, .val (.int p2), .val (.long ((p2.toInt64) - (1 : Int64))), .second, .val (.long ((q1.toUInt64 >>> ((24 : Int32) &&& 0x3f).toInt64.toUInt64).toInt64)), .second, .val (.long (q1 &&& (16777215 : Int64))), .second, .val (.long (own_hp q1 p2)), .second, .unset, .unset] [])) _
      refine X0.ldc2Long hx hown (mvT hZ (hw _ (List.mem_of_getElem? (i := 37) rfl))) (g := (mkF m 36 #[.val (.long q0), .second, .val (.long q1), .second, .val (.int p2), .val (.long ((p2.toInt64) - (1 : Int64))), .second, .val (.long ((q1.toUInt64 >>> ((24 : Int32) &&& 0x3f).toInt64.toUInt64).toInt64)), .second, .val (.long (q1 &&& (16777215 : Int64))), .second, .val (.long (own_hp q1 p2)), .second, .unset, .unset] [])) rfl (hb hby d6_36) _ ?_
      exact kz
    refine OG.step s4 ?_
    exact OG.retJ X0 hx hlk Bd.returns (hb hby d6_39) e0 ⟨(by simp [own_exp, hc33]), N0, rfl⟩ (by decide) (by decide)
def own_in (a : Int64) : Int64 := (a &&& (9223372036854775807 : Int64)) % (253402300800000 : Int64)
theorem own_inb (a : Int64) : 0 ≤ (own_in a).toInt ∧ (own_in a).toInt ≤ 253402300799999 := by
  have e := c_maskL a (9223372036854775807 : Int64) 63 (by decide) (by decide)
  have q : (253402300800000 : Int64).toInt = 253402300800000 := by decide
  have z : 0 ≤ (a &&& (9223372036854775807 : Int64)).toInt := by omega
  unfold own_in
  rw [Int64.toInt_mod, Int.tmod_eq_emod_of_nonneg z, q]
  omega
def own_att (n : Int32) : Int32 := own_maxI (1 : Int32) (n &&& (2147483647 : Int32))
theorem own_attb (n : Int32) : 1 ≤ (own_att n).toInt := by
  have o : (1 : Int32).toInt = 1 := by decide
  unfold own_att own_maxI; split
  · rename_i h; rw [Int32.lt_iff_toInt_lt] at h; omega
  · omega
theorem own_S (n : Int32) (h : 1 ≤ n.toInt) : (n.toInt64 - (1 : Int64)).toInt = n.toInt - 1 := by
  have e := c_lsub n.toInt64 1
  have r := rng64 (n.toInt64 - 1)
  have e2 := c_i2l n
  have r2 := rng32 n
  have o1 : (1 : Int64).toInt = 1 := by decide
  omega
theorem own_D (i : Int64) (hi : 0 ≤ i.toInt ∧ i.toInt ≤ 253402300799999) : ((253402300799999 : Int64) - i).toInt = 253402300799999 - i.toInt := by
  have e := c_lsub (253402300799999 : Int64) i
  have r := rng64 ((253402300799999 : Int64) - i)
  have o1 : (253402300799999 : Int64).toInt = 253402300799999 := by decide
  omega
theorem own_W (i a b : Int64) (S T : Int) (hi : 0 ≤ i.toInt ∧ i.toInt ≤ 253402300799999) (ha : a.toInt = S) (hb : b.toInt = T) (h0 : 0 ≤ S * T) (h1 : S * T ≤ 1000000000000000000) : (i + a * b).toInt = i.toInt + S * T := by
  have e1 := c_lmul a b
  have e2 := c_ladd i (a * b)
  have r := rng64 (i + a * b)
  rw [ha, hb] at e1
  generalize S * T = Q at *
  omega
theorem own_P (a b : Int64) (S T : Int) (ha : a.toInt = S) (hb : b.toInt = T) (h0 : 0 ≤ S * T) (h1 : S * T ≤ 1000000000000000000) : (a * b).toInt = S * T := by
  have e1 := c_lmul a b
  have r := rng64 (a * b)
  rw [ha, hb] at e1
  generalize S * T = Q at *
  omega
theorem own_shl24 (x : Int64) (P : Int) (h : x.toInt = P) (h0 : 0 ≤ P) (h1 : P < 16777216) : (x <<< ((24 : Int32) &&& 0x3f).toInt64).toInt = P * 16777216 := by
  have e1 := c_lshl x (24 : Int32) 24 (by decide)
  have r := rng64 (x <<< ((24 : Int32) &&& 0x3f).toInt64)
  have p24 : ((2 ^ 24 : Nat) : Int) = 16777216 := by decide
  rw [p24, h] at e1
  omega
theorem own_add3 (x y z : Int64) (X Y I : Int) (hx : x.toInt = X) (hy : y.toInt = Y) (hz : z.toInt = I) (b1 : 0 ≤ X ∧ X ≤ 1000000000000000000) (b2 : 0 ≤ Y ∧ Y ≤ 1000000000000000000) (b3 : 0 ≤ I ∧ I ≤ 1000000000000000000) : ((x + y) + z).toInt = X + Y + I := by
  have e3 := c_ladd x y
  have e4 := c_ladd (x + y) z
  have r := rng64 ((x + y) + z)
  omega
theorem own_Q (a b : Int64) (A B : Int) (ha : a.toInt = A) (hb : b.toInt = B) (h0 : 0 ≤ A) (h1 : 0 < B) : (a / b).toInt = A / B := by
  have n : b ≠ -1 := fun q => by rw [q] at hb; have : (-1 : Int64).toInt = -1 := by decide
                                 omega
  have := (c_ldiv a b B hb n).1 (by omega)
  rw [this, ha]
theorem own_hl (st : Int64) (hs : 0 ≤ st.toInt ∧ st.toInt ≤ 253402300799999) : ∃ H L : Int, ((st.toUInt64 >>> ((24 : Int32) &&& 0x3f).toInt64.toUInt64).toInt64).toInt = H ∧ (st &&& (16777215 : Int64)).toInt = L ∧ st.toInt = H * 16777216 + L ∧ 0 ≤ H ∧ H ≤ 16777216 ∧ 0 ≤ L ∧ L ≤ 16777215 := by
  have eH := c_lushr st (24 : Int32) 24 (by decide) (by decide)
  have eL := c_maskL st (16777215 : Int64) 24 (by decide) (by decide)
  have p24 : ((2 ^ 24 : Nat) : Int) = 16777216 := by decide
  rw [p24] at eH eL
  refine ⟨_, _, rfl, rfl, ?_⟩
  rw [eH, eL]
  omega
theorem own_last (i st tot W D s : Int64) (S : Int) (hi : 0 ≤ i.toInt ∧ i.toInt ≤ 253402300799999) (hs : 0 ≤ st.toInt) (eS : s.toInt = S) (eD : D.toInt = 253402300799999 - i.toInt) (eT : tot.toInt = S * st.toInt + i.toInt) (same : tot = W) : (if st = (0 : Int64) then W else if (D / st) < s then (253402300799999 : Int64) else W) = own_minJ tot (253402300799999 : Int64) := by
  have o1 : (253402300799999 : Int64).toInt = 253402300799999 := by decide
  have o3 : (0 : Int64).toInt = 0 := by decide
  subst same
  by_cases z : st = (0 : Int64)
  · rw [if_pos z]
    have z' : st.toInt = 0 := by rw [z]; exact o3
    have q : ¬ (253402300799999 : Int64) < tot := by
      rw [Int64.lt_iff_toInt_lt, eT, o1, z', Int.mul_zero]; omega
    exact (if_neg q).symm
  · rw [if_neg z]
    have zp : 0 < st.toInt := by
      have : st.toInt ≠ 0 := fun q => z (Int64.toInt_inj.mp (by rw [q, o3]))
      omega
    have eQ := own_Q D st _ _ eD rfl (by omega) zp
    by_cases g : (D / st) < s
    · rw [if_pos g]
      rw [Int64.lt_iff_toInt_lt, eQ, eS] at g
      have g' := Int.lt_mul_of_ediv_lt zp g
      have q : (253402300799999 : Int64) < tot := by
        rw [Int64.lt_iff_toInt_lt, eT, o1]; omega
      exact (if_pos q).symm
    · rw [if_neg g]
      rw [Int64.lt_iff_toInt_lt, eQ, eS] at g
      have g' := Int.mul_le_of_le_ediv zp (Int.not_lt.mp g)
      have q : ¬ (253402300799999 : Int64) < tot := by
        rw [Int64.lt_iff_toInt_lt, eT, o1]; omega
      exact (if_neg q).symm
theorem own_last2 (i st W D s : Int64) (S : Int) (hi : 0 ≤ i.toInt ∧ i.toInt ≤ 253402300799999) (hs : 0 ≤ st.toInt) (eS : s.toInt = S) (eD : D.toInt = 253402300799999 - i.toInt) (big : 253402300799999 < S * st.toInt) : (if st = (0 : Int64) then W else if (D / st) < s then (253402300799999 : Int64) else W) = (253402300799999 : Int64) := by
  have zp : 0 < st.toInt := by
    by_cases q : st.toInt = 0
    · exfalso; rw [q, Int.mul_zero] at big; omega
    · omega
  have z : ¬ st = (0 : Int64) := fun q => by rw [q] at zp; exact absurd zp (by decide)
  have eQ := own_Q D st _ _ eD rfl (by omega) zp
  rw [if_neg z, if_pos]
  rw [Int64.lt_iff_toInt_lt, eQ, eS]
  exact Int.ediv_lt_of_lt_mul zp (by omega)
theorem own_key (i st : Int64) (n : Int32) (hi : 0 ≤ i.toInt ∧ i.toInt ≤ 253402300799999) (hs : 0 ≤ st.toInt ∧ st.toInt ≤ 253402300799999) (hn : 1 ≤ n.toInt) : own_wait i st n = own_exp i st n := by
  have rn := rng32 n
  have eS := own_S n hn
  obtain ⟨S, hS⟩ : ∃ z, z = n.toInt - 1 := ⟨_, rfl⟩
  rw [← hS] at eS
  have S0 : 0 ≤ S := by omega
  have S1 : S ≤ 2147483646 := by omega
  obtain ⟨H, L, eH, eL, dec, H0, H1, L0, L1⟩ := own_hl st hs
  have SH0 : 0 ≤ S * H := Int.mul_nonneg S0 H0
  have SH1 : S * H ≤ 2147483646 * 16777216 := Int.mul_le_mul S1 H1 H0 (by decide)
  have SL0 : 0 ≤ S * L := Int.mul_nonneg S0 L0
  have SL1 : S * L ≤ 2147483646 * 16777215 := Int.mul_le_mul S1 L1 L0 (by decide)
  have ST : S * st.toInt = (S * H) * 16777216 + S * L := by rw [dec, Int.mul_add, Int.mul_assoc]
  have b0 : 0 ≤ S * st.toInt := Int.mul_nonneg S0 hs.1
  have c0 : S * H ≤ 1000000000000000000 := by clear eS eH eL dec; omega
  have c2 : 0 ≤ S * L ∧ S * L ≤ 1000000000000000000 := by clear eS eH eL dec; omega
  have c3 : 0 ≤ i.toInt ∧ i.toInt ≤ 1000000000000000000 := by clear eS eH eL dec; omega
  have c1 : S * H < 16777216 → 0 ≤ (S * H) * 16777216 ∧ (S * H) * 16777216 ≤ 1000000000000000000 := by clear eS eH eL dec; omega
  have c4 : S * H < 16777216 → S * st.toInt ≤ 1000000000000000000 := by clear eS eH eL dec; omega
  have c5 : ¬ S * H < 16777216 → 253402300799999 < S * st.toInt := by clear eS eH eL dec; omega
  have eP : (own_hp st n).toInt = S * H := own_P _ _ S H eS eH SH0 c0
  have eQ2 : ((n.toInt64 - (1 : Int64)) * (st &&& (16777215 : Int64))).toInt = S * L := own_P _ _ S L eS eL SL0 c2.2
  have eD := own_D i hi
  have o2 : (16777216 : Int64).toInt = 16777216 := by decide
  by_cases hp : own_hp st n < (16777216 : Int64)
  · have eE : own_exp i st n = own_minJ (own_tot i st n) (253402300799999 : Int64) := if_pos hp
    rw [eE]
    rw [Int64.lt_iff_toInt_lt, eP, o2] at hp
    have e24 := own_shl24 (own_hp st n) (S * H) eP SH0 hp
    have eT : (own_tot i st n).toInt = (S * H) * 16777216 + S * L + i.toInt := own_add3 (own_hp st n <<< ((24 : Int32) &&& 0x3f).toInt64) ((n.toInt64 - (1 : Int64)) * (st &&& (16777215 : Int64))) i ((S * H) * 16777216) (S * L) i.toInt e24 eQ2 rfl (c1 hp) c2 c3
    rw [← ST] at eT
    have eW : (i + ((n.toInt64 - (1 : Int64)) * st)).toInt = i.toInt + S * st.toInt := own_W i _ st S st.toInt hi eS rfl b0 (c4 hp)
    have same : own_tot i st n = i + ((n.toInt64 - (1 : Int64)) * st) := Int64.toInt_inj.mp (by rw [eT, eW, Int.add_comm])
    exact own_last i st (own_tot i st n) (i + ((n.toInt64 - (1 : Int64)) * st)) ((253402300799999 : Int64) - i) (n.toInt64 - (1 : Int64)) S hi hs.1 eS eD eT same
  · have eE : own_exp i st n = (253402300799999 : Int64) := if_neg hp
    rw [eE]
    rw [Int64.lt_iff_toInt_lt, eP, o2] at hp
    exact own_last2 i st (i + ((n.toInt64 - (1 : Int64)) * st)) ((253402300799999 : Int64) - i) (n.toInt64 - (1 : Int64)) S hi hs.1 eS eD (c5 hp)
theorem ef_0 (m : MethodId) (x0 : Int64) (x1 : Int64) (x2 : Int32) : entryFrame m #[(.long x0), (.long x1), (.int x2)] maxLocals = mkF m 0 #[.val (.long x0), .second, .val (.long x1), .second, .val (.int x2), .unset, .unset, .unset, .unset, .unset, .unset, .unset] [] := by first | (simp [entryFrame, mkF, argsToLocals, Value.category, maxLocals]; done) | rfl
def Q0 (Z : State) (q0 : Int64) (q1 : Int64) (p2 : Int32) (h0 : Heap) (n0 : Nat) (v : Option Value) (h : Heap) (L : List Loc) : Prop := (v = some (.int (1 : Int32))) ∧ (Fr n0 L)
theorem pd__II_I : parseMethodDescriptor "(II)I" = some ⟨[.int, .int], some .int⟩ := by decide +kernel
theorem pd__JJ_V : parseMethodDescriptor "(JJ)V" = some ⟨[.long, .long], none⟩ := by decide +kernel
theorem pd__I_J : parseMethodDescriptor "(I)J" = some ⟨[.int], some .long⟩ := by decide +kernel
theorem pd__JJI_J : parseMethodDescriptor "(JJI)J" = some ⟨[.long, .long, .int], some .long⟩ := by decide +kernel
set_option maxRecDepth 65536 in
set_option maxHeartbeats 40000000 in
theorem rm0 (l : Launch) (Z : State) (a0 : Array Value) (hw : ∀ d ∈ tables_1, d.before a0 Z = true) (ws : List Jvm.Cond) (q0 : Int64) (q1 : Int64) (p2 : Int32) (h0 : Heap) (n0 : Nat) (Z0 : n0 ≤ h0.size) :
    MetFree l x (head1 (Jvm.Cond.code x code maxLocals ret :: ws) room_1) (fun a U => a = #[(.long q0), (.long q1), (.int p2)] ∧ Z.Warmed39 U.vm ∧ U.heap = h0) (fun _ _ _ _ _ => True) (fun _ U o U' => ∃ v L, o = .returned v ∧ Q0 Z q0 q1 p2 h0 n0 v U'.heap L ∧ FrameEnd U o U' L room_1.cells room_1.slots) := by
  refine MetFree.of_bodySF (plainFor_of_name pn_com_example_measured_queue_measuredqueue_LinearWaitMsPinLaw) hisR ?_
  intro p e s m args below meth c s₁ Bd hml0 hP hK
  obtain ⟨rfl, hZ, hh⟩ := hP
  have hx := Bd.exec
  have hby := Bd.bytes
  have hlk := Bd.notSynchronized
  have hml : c.maxLocals = 12 := hml0
  have hown : s.vm.findClass "com/example/measured_queue/measuredqueue/LinearWaitMsPinLaw" = some m.cls := findClass_of_methodNamed Bd.named
  have hnm := (name_of_methodNamed Bd.named Bd.method).1
  have X0 : Stand p l e room_1 s m #[(.long q0), (.long q1), (.int p2)] below meth c s₁ [] 0 0 := Stand.of_body Bd
  have e0 : s₁.heap = h0 := by rw [← hh, Bd.state]; rfl
  have N0 := Fr.nil n0
  have K0 : Keep h0 h0 [] := Keep.refl _ _
  refine (?_ : OG p e below s (Q0 Z q0 q1 p2 h0 n0) room_1.cells room_1.slots _)
  rw [ef_0]
  have s1 : ∀ tz, Steps p.tables e below (s₁.setTop (mkF m 28 #[.val (.long q0), .second, .val (.long q1), .second, .val (.int p2), .val (.long (own_in q0)), .second, .val (.long (own_in q1)), .second, .unset, .unset, .unset] [(.int (p2 &&& (2147483647 : Int32))), (.int (1 : Int32))])) tz → Steps p.tables e below (s₁.setTop (mkF m 0 #[.val (.long q0), .second, .val (.long q1), .second, .val (.int p2), .unset, .unset, .unset, .unset, .unset, .unset, .unset] [])) tz := by
    intro tz kz
    refine XS.lloadN X0.here hx rfl (hb hby at_0) rfl ?_
    show Steps p.tables e below (s₁.setTop (mkF m 1 #[.val (.long q0), .second, .val (.long q1), .second, .val (.int p2), .unset, .unset, .unset, .unset, .unset, .unset, .unset] [(.long q0)])) _
    refine X0.ldc2Long hx hown (mvT hZ (hw _ (List.mem_of_getElem? (i := 0) rfl))) (g := (mkF m 1 #[.val (.long q0), .second, .val (.long q1), .second, .val (.int p2), .unset, .unset, .unset, .unset, .unset, .unset, .unset] [(.long q0)])) rfl (hb hby at_1) _ ?_
    show Steps p.tables e below (s₁.setTop (mkF m 4 #[.val (.long q0), .second, .val (.long q1), .second, .val (.int p2), .unset, .unset, .unset, .unset, .unset, .unset, .unset] [(.long (9223372036854775807 : Int64)), (.long q0)])) _
    refine XS.land X0.here hx rfl (hb hby at_4) rfl ?_
    show Steps p.tables e below (s₁.setTop (mkF m 5 #[.val (.long q0), .second, .val (.long q1), .second, .val (.int p2), .unset, .unset, .unset, .unset, .unset, .unset, .unset] [(.long (q0 &&& (9223372036854775807 : Int64)))])) _
    refine X0.ldc2Long hx hown (mvT hZ (hw _ (List.mem_of_getElem? (i := 1) rfl))) (g := (mkF m 5 #[.val (.long q0), .second, .val (.long q1), .second, .val (.int p2), .unset, .unset, .unset, .unset, .unset, .unset, .unset] [(.long (q0 &&& (9223372036854775807 : Int64)))])) rfl (hb hby at_5) _ ?_
    show Steps p.tables e below (s₁.setTop (mkF m 8 #[.val (.long q0), .second, .val (.long q1), .second, .val (.int p2), .unset, .unset, .unset, .unset, .unset, .unset, .unset] [(.long (253402300800000 : Int64)), (.long (q0 &&& (9223372036854775807 : Int64)))])) _
    refine lremM X0.here hx rfl (hb hby at_8) rfl (by decide) ?_
    show Steps p.tables e below (s₁.setTop (mkF m 9 #[.val (.long q0), .second, .val (.long q1), .second, .val (.int p2), .unset, .unset, .unset, .unset, .unset, .unset, .unset] [(.long ((q0 &&& (9223372036854775807 : Int64)) % (253402300800000 : Int64)))])) _
    refine XS.lstore X0.here hx rfl (hb hby at_9) rfl (l' := #[.val (.long q0), .second, .val (.long q1), .second, .val (.int p2), .val (.long (own_in q0)), .second, .unset, .unset, .unset, .unset, .unset]) rfl ?_
    show Steps p.tables e below (s₁.setTop (mkF m 11 #[.val (.long q0), .second, .val (.long q1), .second, .val (.int p2), .val (.long (own_in q0)), .second, .unset, .unset, .unset, .unset, .unset] [])) _
    refine XS.lloadN X0.here hx rfl (hb hby at_11) rfl ?_
    show Steps p.tables e below (s₁.setTop (mkF m 12 #[.val (.long q0), .second, .val (.long q1), .second, .val (.int p2), .val (.long (own_in q0)), .second, .unset, .unset, .unset, .unset, .unset] [(.long q1)])) _
    refine X0.ldc2Long hx hown (mvT hZ (hw _ (List.mem_of_getElem? (i := 0) rfl))) (g := (mkF m 12 #[.val (.long q0), .second, .val (.long q1), .second, .val (.int p2), .val (.long (own_in q0)), .second, .unset, .unset, .unset, .unset, .unset] [(.long q1)])) rfl (hb hby at_12) _ ?_
    show Steps p.tables e below (s₁.setTop (mkF m 15 #[.val (.long q0), .second, .val (.long q1), .second, .val (.int p2), .val (.long (own_in q0)), .second, .unset, .unset, .unset, .unset, .unset] [(.long (9223372036854775807 : Int64)), (.long q1)])) _
    refine XS.land X0.here hx rfl (hb hby at_15) rfl ?_
    show Steps p.tables e below (s₁.setTop (mkF m 16 #[.val (.long q0), .second, .val (.long q1), .second, .val (.int p2), .val (.long (own_in q0)), .second, .unset, .unset, .unset, .unset, .unset] [(.long (q1 &&& (9223372036854775807 : Int64)))])) _
    refine X0.ldc2Long hx hown (mvT hZ (hw _ (List.mem_of_getElem? (i := 1) rfl))) (g := (mkF m 16 #[.val (.long q0), .second, .val (.long q1), .second, .val (.int p2), .val (.long (own_in q0)), .second, .unset, .unset, .unset, .unset, .unset] [(.long (q1 &&& (9223372036854775807 : Int64)))])) rfl (hb hby at_16) _ ?_
    show Steps p.tables e below (s₁.setTop (mkF m 19 #[.val (.long q0), .second, .val (.long q1), .second, .val (.int p2), .val (.long (own_in q0)), .second, .unset, .unset, .unset, .unset, .unset] [(.long (253402300800000 : Int64)), (.long (q1 &&& (9223372036854775807 : Int64)))])) _
    refine lremM X0.here hx rfl (hb hby at_19) rfl (by decide) ?_
    show Steps p.tables e below (s₁.setTop (mkF m 20 #[.val (.long q0), .second, .val (.long q1), .second, .val (.int p2), .val (.long (own_in q0)), .second, .unset, .unset, .unset, .unset, .unset] [(.long ((q1 &&& (9223372036854775807 : Int64)) % (253402300800000 : Int64)))])) _
    refine XS.lstore X0.here hx rfl (hb hby at_20) rfl (l' := #[.val (.long q0), .second, .val (.long q1), .second, .val (.int p2), .val (.long (own_in q0)), .second, .val (.long (own_in q1)), .second, .unset, .unset, .unset]) rfl ?_
    show Steps p.tables e below (s₁.setTop (mkF m 22 #[.val (.long q0), .second, .val (.long q1), .second, .val (.int p2), .val (.long (own_in q0)), .second, .val (.long (own_in q1)), .second, .unset, .unset, .unset] [])) _
    refine XS.iconst X0.here hx rfl (hb hby at_22) ?_
    show Steps p.tables e below (s₁.setTop (mkF m 23 #[.val (.long q0), .second, .val (.long q1), .second, .val (.int p2), .val (.long (own_in q0)), .second, .val (.long (own_in q1)), .second, .unset, .unset, .unset] [(.int (1 : Int32))])) _
    refine XS.iload X0.here hx rfl (hb hby at_23) rfl ?_
    show Steps p.tables e below (s₁.setTop (mkF m 25 #[.val (.long q0), .second, .val (.long q1), .second, .val (.int p2), .val (.long (own_in q0)), .second, .val (.long (own_in q1)), .second, .unset, .unset, .unset] [(.int p2), (.int (1 : Int32))])) _
    refine X0.ldcInt hx hown (mvT hZ (hw _ (List.mem_of_getElem? (i := 2) rfl))) (g := (mkF m 25 #[.val (.long q0), .second, .val (.long q1), .second, .val (.int p2), .val (.long (own_in q0)), .second, .val (.long (own_in q1)), .second, .unset, .unset, .unset] [(.int p2), (.int (1 : Int32))])) rfl (hb hby at_25) _ ?_
    show Steps p.tables e below (s₁.setTop (mkF m 27 #[.val (.long q0), .second, .val (.long q1), .second, .val (.int p2), .val (.long (own_in q0)), .second, .val (.long (own_in q1)), .second, .unset, .unset, .unset] [(.int (2147483647 : Int32)), (.int p2), (.int (1 : Int32))])) _
    refine XS.iand X0.here hx rfl (hb hby at_27) rfl ?_
    exact kz
  refine OG.step s1 ?_
  obtain ⟨_, _, ⟨T2, L2, k2, n2⟩, -, X2, ⟨Lc2, hQ2, l2, y2, z2⟩, st2⟩ := Jvm.LawKit.callS X0 hx (y := (⟨"java/lang/Math", "max", "(II)I"⟩ : MethodName)) hown (mvT hZ (hw _ (List.mem_of_getElem? (i := 3) rfl))) (mvT hZ (hw _ (List.mem_of_getElem? (i := 4) rfl))) (mvT hZ (hw _ (List.mem_of_getElem? (i := 5) rfl))) (mvT hZ (hw _ (List.mem_of_getElem? (i := 6) rfl))) (by decide) (backOf (W := 0) (rm1 l Z a0 hw [] (1 : Int32) (p2 &&& (2147483647 : Int32)) h0 n0 (Nat.le_trans Z0 K0.1)) hZ (hw _ (List.mem_of_getElem? (i := 6) rfl)) (hw _ (List.mem_of_getElem? (i := 5) rfl)) (by decide) (by decide)) (g := (mkF m 28 #[.val (.long q0), .second, .val (.long q1), .second, .val (.int p2), .val (.long (own_in q0)), .second, .val (.long (own_in q1)), .second, .unset, .unset, .unset] [(.int (p2 &&& (2147483647 : Int32))), (.int (1 : Int32))])) rfl (by rw [hml]; rfl) (argsL := [(.int (1 : Int32)), (.int (p2 &&& (2147483647 : Int32)))]) (rest := []) (lenOf pd__II_I rfl) rfl (by show 2 * 0 + _ ≤ _; exact Nat.le_of_eq rfl) (hb hby at_28) (fun _ _ => ⟨rfl, e0, (by decide : 0 + 0 ≤ _), (by decide : 0 + 0 ≤ _)⟩)
  dsimp only [Pt.U, Pt.locs, Pt.cells, Pt.slots] at X2 l2 y2 z2 st2 hQ2
  subst l2 y2 z2
  obtain ⟨rfl, N2q, e2⟩ := hQ2
  have N2 := Fr.app N0 N2q
  refine OG.step st2 ?_
  show OG _ _ _ _ _ _ _ (T2.setTop (mkF m 31 #[.val (.long q0), .second, .val (.long q1), .second, .val (.int p2), .val (.long (own_in q0)), .second, .val (.long (own_in q1)), .second, .unset, .unset, .unset] [(.int (own_maxI (1 : Int32) (p2 &&& (2147483647 : Int32))))]))
  have s3 : ∀ tz, Steps p.tables e below (T2.setTop (mkF m 33 #[.val (.long q0), .second, .val (.long q1), .second, .val (.int p2), .val (.long (own_in q0)), .second, .val (.long (own_in q1)), .second, .val (.int (own_att p2)), .unset, .unset] [])) tz → Steps p.tables e below (T2.setTop (mkF m 31 #[.val (.long q0), .second, .val (.long q1), .second, .val (.int p2), .val (.long (own_in q0)), .second, .val (.long (own_in q1)), .second, .unset, .unset, .unset] [(.int (own_maxI (1 : Int32) (p2 &&& (2147483647 : Int32))))])) tz := by
    intro tz kz
    refine XS.istore X2.here hx rfl (hb hby at_31) rfl (l' := #[.val (.long q0), .second, .val (.long q1), .second, .val (.int p2), .val (.long (own_in q0)), .second, .val (.long (own_in q1)), .second, .val (.int (own_att p2)), .unset, .unset]) rfl ?_
    exact kz
  refine OG.step s3 ?_
  obtain ⟨T4, h4, X4, e4, E4, A4, D4, -, st4⟩ := newO X2 hx hZ hown (hw _ (List.mem_of_getElem? (i := 7) rfl)) (hw _ (List.mem_of_getElem? (i := 8) rfl)) (hw _ (List.mem_of_getElem? (i := 9) rfl)) e2 (g := (mkF m 33 #[.val (.long q0), .second, .val (.long q1), .second, .val (.int p2), .val (.long (own_in q0)), .second, .val (.long (own_in q1)), .second, .val (.int (own_att p2)), .unset, .unset] [])) rfl (hb hby at_33) (by decide) (by decide)
  obtain ⟨b4, g4⟩ : ∃ z, z = h0.size := ⟨_, rfl⟩
  rw [← g4] at A4 D4 st4
  have sz4 : h0.size ≤ b4 := Nat.le_trans K0.1 (Nat.le_of_eq g4.symm)
  have ge4 : n0 ≤ b4 := Nat.le_trans Z0 sz4
  refine OG.step st4 ?_
  have F4_initialMs : Fld Z h4 b4 "com/example/measured_queue/measuredqueue/RetryRule$Backoff$Linear" "initialMs" "J" (.long (0 : Int64)) := D4 (Or.inr (hw _ (List.mem_of_getElem? (i := 22) rfl))) (ty := .long) (by decide)
  have F4_stepMs : Fld Z h4 b4 "com/example/measured_queue/measuredqueue/RetryRule$Backoff$Linear" "stepMs" "J" (.long (0 : Int64)) := D4 (Or.inr (hw _ (List.mem_of_getElem? (i := 24) rfl))) (ty := .long) (by decide)
  have K4 := K0.ext E4
  show OG _ _ _ _ _ _ _ (T4.setTop (mkF m 36 #[.val (.long q0), .second, .val (.long q1), .second, .val (.int p2), .val (.long (own_in q0)), .second, .val (.long (own_in q1)), .second, .val (.int (own_att p2)), .unset, .unset] [(.ref b4)]))
  have s5 : ∀ tz, Steps p.tables e below (T4.setTop (mkF m 41 #[.val (.long q0), .second, .val (.long q1), .second, .val (.int p2), .val (.long (own_in q0)), .second, .val (.long (own_in q1)), .second, .val (.int (own_att p2)), .unset, .unset] [(.long (own_in q1)), (.long (own_in q0)), (.ref b4), (.ref b4)])) tz → Steps p.tables e below (T4.setTop (mkF m 36 #[.val (.long q0), .second, .val (.long q1), .second, .val (.int p2), .val (.long (own_in q0)), .second, .val (.long (own_in q1)), .second, .val (.int (own_att p2)), .unset, .unset] [(.ref b4)])) tz := by
    intro tz kz
    refine XS.dup X4.here hx rfl (hb hby at_36) rfl rfl ?_
    show Steps p.tables e below (T4.setTop (mkF m 37 #[.val (.long q0), .second, .val (.long q1), .second, .val (.int p2), .val (.long (own_in q0)), .second, .val (.long (own_in q1)), .second, .val (.int (own_att p2)), .unset, .unset] [(.ref b4), (.ref b4)])) _
    refine XS.lload X4.here hx rfl (hb hby at_37) rfl ?_
    show Steps p.tables e below (T4.setTop (mkF m 39 #[.val (.long q0), .second, .val (.long q1), .second, .val (.int p2), .val (.long (own_in q0)), .second, .val (.long (own_in q1)), .second, .val (.int (own_att p2)), .unset, .unset] [(.long (own_in q0)), (.ref b4), (.ref b4)])) _
    refine XS.lload X4.here hx rfl (hb hby at_39) rfl ?_
    exact kz
  refine OG.step s5 ?_
  obtain ⟨_, _, ⟨T6, L6, k6, n6⟩, -, X6, ⟨Lc6, hQ6, l6, y6, z6⟩, st6⟩ := X4.specialBack hx (y := (⟨"com/example/measured_queue/measuredqueue/RetryRule$Backoff$Linear", "<init>", "(JJ)V"⟩ : MethodName)) rfl hown (mvT hZ (hw _ (List.mem_of_getElem? (i := 10) rfl))) (mvT hZ (hw _ (List.mem_of_getElem? (i := 11) rfl))) (mvT hZ (hw _ (List.mem_of_getElem? (i := 12) rfl))) (by decide) (backOf (W := 1) (rm2 l Z a0 hw [] b4 (own_in q0) (own_in q1) (.long (0 : Int64)) (.long (0 : Int64)) h4 n0 (Nat.le_trans Z0 K4.1) A4 F4_initialMs F4_stepMs ge4) hZ (hw _ (List.mem_of_getElem? (i := 12) rfl)) (hw _ (List.mem_of_getElem? (i := 9) rfl)) (by decide) (by decide)) (g := (mkF m 41 #[.val (.long q0), .second, .val (.long q1), .second, .val (.int p2), .val (.long (own_in q0)), .second, .val (.long (own_in q1)), .second, .val (.int (own_att p2)), .unset, .unset] [(.long (own_in q1)), (.long (own_in q0)), (.ref b4), (.ref b4)])) rfl (by rw [hml]; rfl) (Steps.refl _) (a := b4) (argsL := [(.long (own_in q0)), (.long (own_in q1))]) (rest := [(.ref b4)]) (lenOf pd__JJ_V rfl) rfl (by show 2 * 0 + _ ≤ _; exact Nat.le_of_eq rfl) (hb hby at_41) (fun _ _ => ⟨rfl, e4, (by decide : 1 + 0 ≤ _), (by decide : 2 + 0 ≤ _)⟩)
  dsimp only [Pt.U, Pt.locs, Pt.cells, Pt.slots] at X6 l6 y6 z6 st6 hQ6
  subst l6 y6 z6
  obtain ⟨rfl, N6q, Kc6, p6_0, p6_1⟩ := hQ6
  have N6 := Fr.app N2 N6q
  refine OG.step (fun tz kz => st6.trans kz) ?_
  have f7 := A4.keep Kc6
  have K6 := K4.trans Kc6 (allS (Or.inr sz4) all0)
  show OG _ _ _ _ _ _ _ (T6.setTop (mkF m 44 #[.val (.long q0), .second, .val (.long q1), .second, .val (.int p2), .val (.long (own_in q0)), .second, .val (.long (own_in q1)), .second, .val (.int (own_att p2)), .unset, .unset] [(.ref b4)]))
  have s10 : ∀ tz, Steps p.tables e below (T6.setTop (mkF m 46 #[.val (.long q0), .second, .val (.long q1), .second, .val (.int p2), .val (.long (own_in q0)), .second, .val (.long (own_in q1)), .second, .val (.int (own_att p2)), .unset, .unset] [(.int (own_att p2)), (.ref b4)])) tz → Steps p.tables e below (T6.setTop (mkF m 44 #[.val (.long q0), .second, .val (.long q1), .second, .val (.int p2), .val (.long (own_in q0)), .second, .val (.long (own_in q1)), .second, .val (.int (own_att p2)), .unset, .unset] [(.ref b4)])) tz := by
    intro tz kz
    refine XS.iload X6.here hx rfl (hb hby at_44) rfl ?_
    exact kz
  refine OG.step s10 ?_
  obtain ⟨cq11, kq11, q11a, q11b, q11c⟩ := isOf hZ rfl f7
  obtain ⟨_, _, ⟨T11, L11, k11, n11⟩, -, X11, ⟨Lc11, hQ11, l11, y11, z11⟩, st11⟩ := X6.virtualBack hx (y := (⟨"com/example/measured_queue/measuredqueue/RetryRule$Backoff$Linear", "waitMs", "(I)J"⟩ : MethodName)) (z := (⟨"com/example/measured_queue/measuredqueue/RetryRule$Backoff$Linear", "waitMs", "(I)J"⟩ : MethodName)) hown (mvT hZ (hw _ (List.mem_of_getElem? (i := 25) rfl))) (mvT hZ (hw _ (List.mem_of_getElem? (i := 26) rfl))) (notFace_of_selects (args := #[]) (mvT hZ (hw _ (List.mem_of_getElem? (i := 28) rfl)))) (mvT hZ (hw _ (List.mem_of_getElem? (i := 28) rfl))) (mvT hZ (hw _ (List.mem_of_getElem? (i := 27) rfl))) (by decide) (backOf (W := 0) (rm5 l Z a0 hw [] b4 (own_att p2) (own_in q0) (own_in q1) T6.heap n0 (Nat.le_trans Z0 K6.1) p6_0 p6_1) hZ (hw _ (List.mem_of_getElem? (i := 29) rfl)) (hw _ (List.mem_of_getElem? (i := 9) rfl)) (by decide) (by decide)) q11a q11c (g := (mkF m 46 #[.val (.long q0), .second, .val (.long q1), .second, .val (.int p2), .val (.long (own_in q0)), .second, .val (.long (own_in q1)), .second, .val (.int (own_att p2)), .unset, .unset] [(.int (own_att p2)), (.ref b4)])) rfl (by rw [hml]; rfl) (Steps.refl _) (argsL := [(.int (own_att p2))]) (rest := []) (lenOf pd__I_J rfl) rfl (by show 2 * 0 + _ ≤ _; exact Nat.le_of_eq rfl) (hb hby at_46) (fun _ _ => ⟨rfl, rfl, (by decide : 1 + 0 ≤ _), (by decide : 2 + 0 ≤ _)⟩)
  dsimp only [Pt.U, Pt.locs, Pt.cells, Pt.slots] at X11 l11 y11 z11 st11 hQ11
  subst l11 y11 z11
  obtain ⟨rfl, N11q, e11⟩ := hQ11
  have N11 := Fr.app N6 N11q
  refine OG.step (fun tz kz => st11.trans kz) ?_
  show OG _ _ _ _ _ _ _ (T11.setTop (mkF m 49 #[.val (.long q0), .second, .val (.long q1), .second, .val (.int p2), .val (.long (own_in q0)), .second, .val (.long (own_in q1)), .second, .val (.int (own_att p2)), .unset, .unset] [(.long (own_wait (own_in q0) (own_in q1) (own_att p2)))]))
  have s12 : ∀ tz, Steps p.tables e below (T11.setTop (mkF m 59 #[.val (.long q0), .second, .val (.long q1), .second, .val (.int p2), .val (.long (own_in q0)), .second, .val (.long (own_in q1)), .second, .val (.int (own_att p2)), .val (.long (own_wait (own_in q0) (own_in q1) (own_att p2))), .second] [(.int (own_att p2)), (.long (own_in q1)), (.long (own_in q0)), (.long (own_wait (own_in q0) (own_in q1) (own_att p2)))])) tz → Steps p.tables e below (T11.setTop (mkF m 49 #[.val (.long q0), .second, .val (.long q1), .second, .val (.int p2), .val (.long (own_in q0)), .second, .val (.long (own_in q1)), .second, .val (.int (own_att p2)), .unset, .unset] [(.long (own_wait (own_in q0) (own_in q1) (own_att p2)))])) tz := by
    intro tz kz
    refine XS.lstore X11.here hx rfl (hb hby at_49) rfl (l' := #[.val (.long q0), .second, .val (.long q1), .second, .val (.int p2), .val (.long (own_in q0)), .second, .val (.long (own_in q1)), .second, .val (.int (own_att p2)), .val (.long (own_wait (own_in q0) (own_in q1) (own_att p2))), .second]) rfl ?_
    show Steps p.tables e below (T11.setTop (mkF m 51 #[.val (.long q0), .second, .val (.long q1), .second, .val (.int p2), .val (.long (own_in q0)), .second, .val (.long (own_in q1)), .second, .val (.int (own_att p2)), .val (.long (own_wait (own_in q0) (own_in q1) (own_att p2))), .second] [])) _
    refine XS.lload X11.here hx rfl (hb hby at_51) rfl ?_
    show Steps p.tables e below (T11.setTop (mkF m 53 #[.val (.long q0), .second, .val (.long q1), .second, .val (.int p2), .val (.long (own_in q0)), .second, .val (.long (own_in q1)), .second, .val (.int (own_att p2)), .val (.long (own_wait (own_in q0) (own_in q1) (own_att p2))), .second] [(.long (own_wait (own_in q0) (own_in q1) (own_att p2)))])) _
    refine XS.lload X11.here hx rfl (hb hby at_53) rfl ?_
    show Steps p.tables e below (T11.setTop (mkF m 55 #[.val (.long q0), .second, .val (.long q1), .second, .val (.int p2), .val (.long (own_in q0)), .second, .val (.long (own_in q1)), .second, .val (.int (own_att p2)), .val (.long (own_wait (own_in q0) (own_in q1) (own_att p2))), .second] [(.long (own_in q0)), (.long (own_wait (own_in q0) (own_in q1) (own_att p2)))])) _
    refine XS.lload X11.here hx rfl (hb hby at_55) rfl ?_
    show Steps p.tables e below (T11.setTop (mkF m 57 #[.val (.long q0), .second, .val (.long q1), .second, .val (.int p2), .val (.long (own_in q0)), .second, .val (.long (own_in q1)), .second, .val (.int (own_att p2)), .val (.long (own_wait (own_in q0) (own_in q1) (own_att p2))), .second] [(.long (own_in q1)), (.long (own_in q0)), (.long (own_wait (own_in q0) (own_in q1) (own_att p2)))])) _
    refine XS.iload X11.here hx rfl (hb hby at_57) rfl ?_
    exact kz
  refine OG.step s12 ?_
  obtain ⟨_, _, ⟨T13, L13, k13, n13⟩, -, X13, ⟨Lc13, hQ13, l13, y13, z13⟩, st13⟩ := Jvm.LawKit.callS X11 hx (y := (⟨"com/example/measured_queue/measuredqueue/LinearWaitMsPinLaw", "expected", "(JJI)J"⟩ : MethodName)) hown (mvT hZ (hw _ (List.mem_of_getElem? (i := 31) rfl))) (mvT hZ (hw _ (List.mem_of_getElem? (i := 32) rfl))) (mvT hZ (hw _ (List.mem_of_getElem? (i := 33) rfl))) (mvT hZ (hw _ (List.mem_of_getElem? (i := 34) rfl))) (by decide) (backOf (W := 2) (rm6 l Z a0 hw [] (own_in q0) (own_in q1) (own_att p2) T6.heap n0 (Nat.le_trans Z0 K6.1)) hZ (hw _ (List.mem_of_getElem? (i := 34) rfl)) (hw _ (List.mem_of_getElem? (i := 33) rfl)) (by decide) (by decide)) (g := (mkF m 59 #[.val (.long q0), .second, .val (.long q1), .second, .val (.int p2), .val (.long (own_in q0)), .second, .val (.long (own_in q1)), .second, .val (.int (own_att p2)), .val (.long (own_wait (own_in q0) (own_in q1) (own_att p2))), .second] [(.int (own_att p2)), (.long (own_in q1)), (.long (own_in q0)), (.long (own_wait (own_in q0) (own_in q1) (own_att p2)))])) rfl (by rw [hml]; rfl) (argsL := [(.long (own_in q0)), (.long (own_in q1)), (.int (own_att p2))]) (rest := [(.long (own_wait (own_in q0) (own_in q1) (own_att p2)))]) (lenOf pd__JJI_J rfl) rfl (by show 2 * 0 + _ ≤ _; exact Nat.le_of_eq rfl) (hb hby at_59) (fun _ _ => ⟨rfl, e11, (by decide : 1 + 0 ≤ _), (by decide : 2 + 0 ≤ _)⟩)
  dsimp only [Pt.U, Pt.locs, Pt.cells, Pt.slots] at X13 l13 y13 z13 st13 hQ13
  subst l13 y13 z13
  obtain ⟨rfl, N13q, e13⟩ := hQ13
  have N13 := Fr.app N11 N13q
  refine OG.step st13 ?_
  show OG _ _ _ _ _ _ _ (T13.setTop (mkF m 62 #[.val (.long q0), .second, .val (.long q1), .second, .val (.int p2), .val (.long (own_in q0)), .second, .val (.long (own_in q1)), .second, .val (.int (own_att p2)), .val (.long (own_wait (own_in q0) (own_in q1) (own_att p2))), .second] [(.long (own_exp (own_in q0) (own_in q1) (own_att p2))), (.long (own_wait (own_in q0) (own_in q1) (own_att p2)))]))
  have s14 : ∀ tz, Steps p.tables e below (T13.setTop (mkF m 71 #[.val (.long q0), .second, .val (.long q1), .second, .val (.int p2), .val (.long (own_in q0)), .second, .val (.long (own_in q1)), .second, .val (.int (own_att p2)), .val (.long (own_wait (own_in q0) (own_in q1) (own_att p2))), .second] [(.int (1 : Int32))])) tz → Steps p.tables e below (T13.setTop (mkF m 62 #[.val (.long q0), .second, .val (.long q1), .second, .val (.int p2), .val (.long (own_in q0)), .second, .val (.long (own_in q1)), .second, .val (.int (own_att p2)), .val (.long (own_wait (own_in q0) (own_in q1) (own_att p2))), .second] [(.long (own_exp (own_in q0) (own_in q1) (own_att p2))), (.long (own_wait (own_in q0) (own_in q1) (own_att p2)))])) tz := by
    intro tz kz
    refine XS.lcmp X13.here hx rfl (hb hby at_62) rfl ?_
    show Steps p.tables e below (T13.setTop (mkF m 63 #[.val (.long q0), .second, .val (.long q1), .second, .val (.int p2), .val (.long (own_in q0)), .second, .val (.long (own_in q1)), .second, .val (.int (own_att p2)), .val (.long (own_wait (own_in q0) (own_in q1) (own_att p2))), .second] [(.int (lcmpW (own_wait (own_in q0) (own_in q1) (own_att p2)) (own_exp (own_in q0) (own_in q1) (own_att p2))))])) _
    refine XS.ifNo X13.here hx rfl (hb hby at_63) rfl ((if0 _ _).trans (teq ((lw_eq (own_wait (own_in q0) (own_in q1) (own_att p2)) (own_exp (own_in q0) (own_in q1) (own_att p2))).mpr (own_key (own_in q0) (own_in q1) (own_att p2) (own_inb q0) (own_inb q1) (own_attb p2)))).2) ?_
    show Steps p.tables e below (T13.setTop (mkF m 66 #[.val (.long q0), .second, .val (.long q1), .second, .val (.int p2), .val (.long (own_in q0)), .second, .val (.long (own_in q1)), .second, .val (.int (own_att p2)), .val (.long (own_wait (own_in q0) (own_in q1) (own_att p2))), .second] [])) _
    refine XS.iconst X13.here hx rfl (hb hby at_66) ?_
    show Steps p.tables e below (T13.setTop (mkF m 67 #[.val (.long q0), .second, .val (.long q1), .second, .val (.int p2), .val (.long (own_in q0)), .second, .val (.long (own_in q1)), .second, .val (.int (own_att p2)), .val (.long (own_wait (own_in q0) (own_in q1) (own_att p2))), .second] [(.int (1 : Int32))])) _
    refine XS.goto X13.here hx rfl (pc0 := 67) (pc' := 71) rfl (hb hby at_67) (by decide) (by decide) ?_
    exact kz
  refine OG.step s14 ?_
  exact OG.retZ X13 hx hlk Bd.returns (hb hby at_71) (nar_1) e13 ⟨rfl, N13⟩ (by decide) (by decide)
set_option maxRecDepth 65536 in
set_option maxHeartbeats 40000000 in
theorem comes_1 {Post : Tables → Env → Array Value → State → Outcome → State → Prop} (hpost : ∀ tb e args s v u, (limb_1_1.after args s (.returned v) u = true ∧ limb_1_2.after args s (.returned v) u = true ∧ True) → FrameEnd s (.returned v) u (Jvm.fieldLocs frame_1_writes args s ++ Jvm.arrayLocs frame_1_arrays args s ++ Jvm.staticLocs frame_1_statics s) 16 128 → Post tb e args s (.returned v) u) :
    ArmFor flags0 classFile x code maxLocals ret World_1 tables_1 room_1 Calls_1 rest_1 Pre_1 Post := by
  intro l hfl _ _ p e ha hc hk s m args below hf hA hF happ hP
  obtain ⟨hcalls, hrest, hpre⟩ := hP
  obtain ⟨-, -, -, hnamed, -, -, -, hat⟩ := (Spec.applies_iff hf).mp happ
  obtain ⟨hg, hn⟩ := and_e (Cond.before_iff.mp (show (Jvm.Cond.and given_1 narrow_1).before args s = true from hpre))
  obtain ⟨hcount, hg0⟩ := and_e hg
  obtain ⟨ha0, hg1⟩ := and_e hg0
  obtain ⟨ha1, hg2⟩ := and_e hg1
  obtain ⟨w0, w1, w2, rfl⟩ : ∃ w0 w1 w2 : Value, args = #[w0, w1, w2] := by
    have hs : args.size = 3 := by simpa [Cond.value, given_1] using hcount
    obtain ⟨L⟩ := args
    match L, hs with
    | [w0, w1, w2], _ => exact ⟨w0, w1, w2, rfl⟩
  have hw := fun d (hd : d ∈ tables_1) => atoms_spec (ws := Jvm.Cond.code x code maxLocals ret :: tables_1) hat d (List.mem_cons_of_mem _ hd)
  obtain ⟨i0, ei0⟩ := isL_v ha0
  obtain rfl : w0 = (.long i0) := Option.some.inj ei0
  obtain ⟨i1, ei1⟩ := isL_v ha1
  obtain rfl : w1 = (.long i1) := Option.some.inj ei1
  obtain ⟨i2, ei2⟩ := is_v hg2
  obtain rfl : w2 = (.int i2) := Option.some.inj ei2
  obtain ⟨n, o, h1, h2, h3, _, L, rfl, ⟨rfl, N⟩, hq⟩ := rm0 l s _ hw tables_1 i0 i1 i2 s.heap s.heap.size (Nat.le_refl _) p e ha hc hk s m _ below hf ((Spec.applies_iff_loose hf).mp happ).1 ⟨rfl, State.Warmed39.refl s, rfl⟩ trivial
  refine ⟨n, _, h1, h2, h3, hpost _ _ _ _ _ _ ⟨Cond.after_iff.mpr rfl, Cond.after_iff.mpr (eq_i res_at (Term.int_eval (1)) rfl), trivial⟩ ⟨hq.1, hq.2.1, (hq.2.2.sift fun y hy => Or.inr (N y hy)).mono (by decide) (by decide)⟩⟩
theorem main_1_1 : Claimed_1_1 := comes_1 fun _ _ _ _ _ _ h hF => ⟨h.1, hF⟩
theorem main_1_2 : Claimed_1_2 := comes_1 fun _ _ _ _ _ _ h hF => ⟨h.2.1, hF⟩
end Jvm.Pilot.@@N@@
namespace Jvm.Pilot.@@N@@
open Jvm Jvm.ClassFile Sem Op Lib Jvm.Free Jvm.Stand Jvm.Pilot.@@N@@.Jvm.D
/-! MADE BY PROGRAM (witnessworld.py) out of the Statement's table words and the real class files: 12 classes; the members and pool entries that the words name. The judged class is class 1, her method 1. -/
namespace start1
open Jvm.ClassFile
def u (s : String) : CpInfo := .utf8 (stringToUtf16 s)
/-- a pool by its gaps: so many unusable entries, then the entry; so many at the end -/
def gap : Nat → List CpInfo → List CpInfo
  | 0, r => r
  | n + 1, r => .unusable :: gap n r
def poolList (es : List (Nat × CpInfo)) (last : Nat) : List CpInfo := es.foldr (fun e r => gap e.1 (e.2 :: r)) (gap last [])
def pool (es : List (Nat × CpInfo)) (last : Nat) : Array CpInfo := ⟨poolList es last⟩
def fileOf (pool : Array CpInfo) (this : Nat) (attrs : Array Attribute := #[]) (ms : Array MethodInfo := #[]) (fl : Nat := 33) (sup : Nat := 0) (ifs : Array Nat := #[]) (fds : Array FieldInfo := #[]) : ClassFile where
  minorVersion := 0
  majorVersion := 65
  constantPool := pool
  accessFlags := fl
  thisClass := this
  superClass := sup
  interfaces := ifs
  fields := fds
  methods := ms
  attributes := attrs
def plain (name : String) (sup : Option ClassId) : Class where
  name := name
  kind := .ordinary
  loader := none
  accessFlags := 33
  super := sup
  interfaces := #[]
  cf := none
  fields := #[]
  methods := #[]
  instanceTypes := #[]
  staticTypes := #[]
  resolved := #[]
  callSites := []
  init := .initialized
  statics := none
  mirror := none

def pool0 : Array CpInfo := pool [(5, u "<init>"), (0, u "()V"), (1, .class_ 10), (1, u "java/lang/Object")] 113

def k0c0 : Code := { maxStack := 0, maxLocals := 1, code := object_method_1_code, exceptionTable := #[], attributes := #[] }
def k0m0 : Method := { name := "<init>", desc := "()V", sig := { parameters := [], returnType := none }, accessFlags := 1, code := some k0c0 }
/-- java/lang/Object -/
def k0 : Class := { plain "java/lang/Object" none with
  accessFlags := 33
  interfaces := #[]
  cf := some (fileOf pool0 8 #[] #[{ accessFlags := 1, nameIndex := 5, descriptorIndex := 6, attributes := #[] }] 33 0 #[] #[])
  fields := #[]
  methods := #[k0m0]
  instanceTypes := #[]
  staticTypes := #[]
  resolved := Array.replicate 124 none
  statics := none }

def pool1 : Array CpInfo := pool [(2, .class_ 4), (1, u "java/lang/Object"), (0, u "<init>"), (0, u "()V"), (2, .long 9223372036854775807), (1, .long 253402300800000), (1, .integer 2147483647), (0, .methodref 15 16), (0, .class_ 17), (0, .nameAndType 18 19), (0, u "java/lang/Math"), (0, u "max"), (0, u "(II)I"), (0, .class_ 21), (0, u "com/example/measured_queue/measuredqueue/RetryRule$Backoff$Linear"), (0, .methodref 20 23), (0, .nameAndType 5 24), (0, u "(JJ)V"), (0, .methodref 20 26), (0, .nameAndType 27 28), (0, u "waitMs"), (0, u "(I)J"), (0, .methodref 30 31), (0, .class_ 32), (0, .nameAndType 33 34), (0, u "com/example/measured_queue/measuredqueue/LinearWaitMsPinLaw"), (0, u "expected"), (0, u "(JJI)J"), (0, .long 16777215), (1, .long 16777216), (1, .long 253402300799999), (1, .methodref 15 42), (0, .nameAndType 43 44), (0, u "min"), (0, u "(JJ)J"), (2, u "law"), (0, u "(JJI)Z")] 10

def k1m0 : Method := { name := "<init>", desc := "()V", sig := { parameters := [], returnType := none }, accessFlags := 1, code := none }
def k1c1 : Code := { maxStack := 7, maxLocals := 12, code := code, exceptionTable := #[], attributes := #[] }
def k1m1 : Method := { name := "law", desc := "(JJI)Z", sig := { parameters := [.long, .long, .int], returnType := some .boolean }, accessFlags := 9, code := some k1c1 }
def k1c2 : Code := { maxStack := 6, maxLocals := 15, code := method_3_code, exceptionTable := #[], attributes := #[] }
def k1m2 : Method := { name := "expected", desc := "(JJI)J", sig := { parameters := [.long, .long, .int], returnType := some .long }, accessFlags := 10, code := some k1c2 }
/-- com/example/measured_queue/measuredqueue/LinearWaitMsPinLaw -/
def k1 : Class := { plain "com/example/measured_queue/measuredqueue/LinearWaitMsPinLaw" (some 0) with
  accessFlags := 49
  interfaces := #[]
  cf := some (fileOf pool1 30 #[] #[{ accessFlags := 1, nameIndex := 5, descriptorIndex := 6, attributes := #[] }, { accessFlags := 9, nameIndex := 47, descriptorIndex := 48, attributes := #[] }, { accessFlags := 10, nameIndex := 33, descriptorIndex := 34, attributes := #[] }] 49 2 #[] #[])
  fields := #[]
  methods := #[k1m0, k1m1, k1m2]
  instanceTypes := #[]
  staticTypes := #[]
  resolved := Array.replicate 59 none
  statics := none }

def pool2 : Array CpInfo := pool [(1, .class_ 2), (0, u "java/lang/Math"), (1, .class_ 6), (1, u "java/lang/Object"), (0, u "<init>"), (0, u "()V"), (89, .class_ 100), (1, u "java/lang/Math$RandomNumberGeneratorHolder"), (20, u "(JJ)J"), (50, u "negativeZeroFloatBits"), (0, u "J"), (2, u "negativeZeroDoubleBits"), (21, u "max"), (2, u "min"), (43, u "$assertionsDisabled"), (0, u "Z"), (88, u "(II)I"), (2, u "twoToTheDoubleScaleDown"), (0, u "D"), (4, u "twoToTheDoubleScaleUp"), (9, u "E"), (3, u "PI"), (2, u "TAU"), (2, u "DEGREES_TO_RADIANS"), (0, u "RADIANS_TO_DEGREES")] 94

def k2m0 : Method := { name := "<init>", desc := "()V", sig := { parameters := [], returnType := none }, accessFlags := 2, code := none }
def k2c1 : Code := { maxStack := 2, maxLocals := 2, code := jdk_29_method_65_code, exceptionTable := #[], attributes := #[] }
def k2m1 : Method := { name := "max", desc := "(II)I", sig := { parameters := [.int, .int], returnType := some .int }, accessFlags := 9, code := some k2c1 }
def k2c2 : Code := { maxStack := 4, maxLocals := 4, code := jdk_29_method_70_code, exceptionTable := #[], attributes := #[] }
def k2m2 : Method := { name := "min", desc := "(JJ)J", sig := { parameters := [.long, .long], returnType := some .long }, accessFlags := 9, code := some k2c2 }
/-- java/lang/Math -/
def k2 : Class := { plain "java/lang/Math" (some 0) with
  accessFlags := 49
  interfaces := #[]
  cf := some (fileOf pool2 1 #[.nestMembers #[98]] #[{ accessFlags := 2, nameIndex := 7, descriptorIndex := 8, attributes := #[] }, { accessFlags := 9, nameIndex := 198, descriptorIndex := 335, attributes := #[] }, { accessFlags := 9, nameIndex := 201, descriptorIndex := 121, attributes := #[] }] 49 4 #[] #[{ accessFlags := 25, nameIndex := 354, descriptorIndex := 339, attributes := #[] }, { accessFlags := 25, nameIndex := 358, descriptorIndex := 339, attributes := #[] }, { accessFlags := 25, nameIndex := 361, descriptorIndex := 339, attributes := #[] }, { accessFlags := 26, nameIndex := 364, descriptorIndex := 339, attributes := #[] }, { accessFlags := 26, nameIndex := 365, descriptorIndex := 339, attributes := #[] }, { accessFlags := 26, nameIndex := 172, descriptorIndex := 173, attributes := #[] }, { accessFlags := 26, nameIndex := 176, descriptorIndex := 173, attributes := #[] }, { accessFlags := 8, nameIndex := 344, descriptorIndex := 339, attributes := #[] }, { accessFlags := 8, nameIndex := 338, descriptorIndex := 339, attributes := #[] }, { accessFlags := 4120, nameIndex := 245, descriptorIndex := 246, attributes := #[] }])
  fields := #[{ name := "E", type := .double, accessFlags := 25, slot := 0, constantValue := 0 }, { name := "PI", type := .double, accessFlags := 25, slot := 1, constantValue := 0 }, { name := "TAU", type := .double, accessFlags := 25, slot := 2, constantValue := 0 }, { name := "DEGREES_TO_RADIANS", type := .double, accessFlags := 26, slot := 3, constantValue := 0 }, { name := "RADIANS_TO_DEGREES", type := .double, accessFlags := 26, slot := 4, constantValue := 0 }, { name := "negativeZeroFloatBits", type := .long, accessFlags := 26, slot := 5, constantValue := 0 }, { name := "negativeZeroDoubleBits", type := .long, accessFlags := 26, slot := 6, constantValue := 0 }, { name := "twoToTheDoubleScaleUp", type := .double, accessFlags := 8, slot := 7, constantValue := 0 }, { name := "twoToTheDoubleScaleDown", type := .double, accessFlags := 8, slot := 8, constantValue := 0 }, { name := "$assertionsDisabled", type := .boolean, accessFlags := 4120, slot := 9, constantValue := 0 }]
  methods := #[k2m0, k2m1, k2m2]
  instanceTypes := #[]
  staticTypes := #[.double, .double, .double, .double, .double, .long, .long, .double, .double, .boolean]
  resolved := Array.replicate 460 none
  statics := none }

def pool3 : Array CpInfo := pool [(1, .methodref 2 3), (0, .class_ 4), (0, .nameAndType 5 6), (0, u "java/lang/Object"), (0, u "<init>"), (0, u "()V"), (0, .class_ 8), (0, u "java/lang/Record")] 13

def k3c0 : Code := { maxStack := 1, maxLocals := 1, code := jdk_30_method_1_code, exceptionTable := #[], attributes := #[] }
def k3m0 : Method := { name := "<init>", desc := "()V", sig := { parameters := [], returnType := none }, accessFlags := 4, code := some k3c0 }
/-- java/lang/Record -/
def k3 : Class := { plain "java/lang/Record" (some 0) with
  accessFlags := 1057
  interfaces := #[]
  cf := some (fileOf pool3 7 #[] #[{ accessFlags := 4, nameIndex := 5, descriptorIndex := 6, attributes := #[] }] 1057 2 #[] #[])
  fields := #[]
  methods := #[k3m0]
  instanceTypes := #[]
  staticTypes := #[]
  resolved := Array.replicate 22 none
  statics := none }

def pool4 : Array CpInfo := pool [(1, .class_ 2), (0, u "com/example/measured_queue/measuredqueue/RetryRule$Backoff"), (0, .class_ 4), (0, u "java/lang/Object"), (5, .class_ 11), (0, u "com/example/measured_queue/measuredqueue/RetryRule")] 9

/-- com/example/measured_queue/measuredqueue/RetryRule$Backoff -/
def k4 : Class := { plain "com/example/measured_queue/measuredqueue/RetryRule$Backoff" (some 0) with
  accessFlags := 1537
  interfaces := #[]
  cf := some (fileOf pool4 1 #[.nestHost 10] #[] 1537 3 #[] #[])
  fields := #[]
  methods := #[]
  instanceTypes := #[]
  staticTypes := #[]
  resolved := Array.replicate 21 none
  statics := none }

def pool5 : Array CpInfo := pool [(1, .methodref 2 3), (0, .class_ 4), (0, .nameAndType 5 6), (0, u "java/lang/Record"), (0, u "<init>"), (0, u "()V"), (0, .fieldref 8 9), (0, .class_ 10), (0, .nameAndType 11 12), (0, u "com/example/measured_queue/measuredqueue/RetryRule$Backoff$Linear"), (0, u "initialMs"), (0, u "J"), (0, .fieldref 8 14), (0, .nameAndType 15 12), (0, u "stepMs"), (2, .long 253402300799999), (13, .class_ 33), (0, u "com/example/measured_queue/measuredqueue/RetryRule$Backoff"), (0, u "(JJ)V"), (3, u "waitMs"), (0, u "(I)J"), (8, .class_ 49), (0, u "com/example/measured_queue/measuredqueue/RetryRule")] 21

def k5c0 : Code := { maxStack := 3, maxLocals := 5, code := prog_15_method_1_code, exceptionTable := #[], attributes := #[] }
def k5m0 : Method := { name := "<init>", desc := "(JJ)V", sig := { parameters := [.long, .long], returnType := none }, accessFlags := 1, code := some k5c0 }
def k5c1 : Code := { maxStack := 6, maxLocals := 4, code := prog_15_method_2_code, exceptionTable := #[], attributes := #[] }
def k5m1 : Method := { name := "waitMs", desc := "(I)J", sig := { parameters := [.int], returnType := some .long }, accessFlags := 1, code := some k5c1 }
/-- com/example/measured_queue/measuredqueue/RetryRule$Backoff$Linear -/
def k5 : Class := { plain "com/example/measured_queue/measuredqueue/RetryRule$Backoff$Linear" (some 3) with
  accessFlags := 49
  interfaces := #[4]
  cf := some (fileOf pool5 8 #[.nestHost 48] #[{ accessFlags := 1, nameIndex := 5, descriptorIndex := 34, attributes := #[] }, { accessFlags := 1, nameIndex := 38, descriptorIndex := 39, attributes := #[] }] 49 2 #[32] #[{ accessFlags := 18, nameIndex := 11, descriptorIndex := 12, attributes := #[] }, { accessFlags := 18, nameIndex := 15, descriptorIndex := 12, attributes := #[] }])
  fields := #[{ name := "initialMs", type := .long, accessFlags := 18, slot := 0, constantValue := 0 }, { name := "stepMs", type := .long, accessFlags := 18, slot := 1, constantValue := 0 }]
  methods := #[k5m0, k5m1]
  instanceTypes := #[.long, .long]
  staticTypes := #[]
  resolved := Array.replicate 71 none
  statics := none }

def pool6 : Array CpInfo := pool [(1, u "java/lang/Cloneable"), (0, .class_ 1), (0, u "java/lang/Object"), (0, .class_ 3)] 3

/-- java/lang/Cloneable -/
def k6 : Class := { plain "java/lang/Cloneable" (some 0) with
  accessFlags := 1537
  interfaces := #[]
  cf := some (fileOf pool6 2 #[] #[] 1537 4 #[] #[])
  fields := #[]
  methods := #[]
  instanceTypes := #[]
  staticTypes := #[]
  resolved := Array.replicate 8 none
  statics := none }

def pool7 : Array CpInfo := pool [(1, u "java/io/Serializable"), (0, .class_ 1), (0, u "java/lang/Object"), (0, .class_ 3)] 3

/-- java/io/Serializable -/
def k7 : Class := { plain "java/io/Serializable" (some 0) with
  accessFlags := 1537
  interfaces := #[]
  cf := some (fileOf pool7 2 #[] #[] 1537 4 #[] #[])
  fields := #[]
  methods := #[]
  instanceTypes := #[]
  staticTypes := #[]
  resolved := Array.replicate 8 none
  statics := none }

/-- the primitive byte -/
def k8 : Class := { plain "byte" none with kind := .primitive 'B', accessFlags := 0x411 }
/-- [B -/
def k9 : Class := { plain "[B" (some 0) with kind := .array 8 .byte, interfaces := #[6, 7], accessFlags := 1041 }

/-- the primitive int -/
def k10 : Class := { plain "int" none with kind := .primitive 'I', accessFlags := 0x411 }
/-- [I -/
def k11 : Class := { plain "[I" (some 0) with kind := .array 10 .int, interfaces := #[6, 7], accessFlags := 1041 }

def heap : Heap := #[]
def classes : Array Class := #[k0, k1, k2, k3, k4, k5, k6, k7, k8, k9, k10, k11]
def interned : List (Array UInt16 × Addr) := []
def slotsUsed : Nat := 0
def theMethod : MethodId := ⟨1, 1⟩
def args0 : Array Value := #[.long 5, .long 9, .int 3]
def aboutOver (below : List Frame) : State where
  vm := { classes := classes, interned := interned.toArray }
  heap := heap
  slotsUsed := slotsUsed
  threads := #[{ frames := .invoking theMethod args0 :: below }]
def below0 : List Frame := [.native { method := ⟨0, 0⟩, args := #[] }]
def about1 : State := aboutOver below0
def p0 : Program := .bare "" "" ""
def e0 : Env := launch0.env 0 0 0
theorem w_frames : about1.frames = Frame.invoking theMethod args0 :: below0 := rfl
set_option maxRecDepth 65536 in
theorem w_args : argsFit about1.vm theMethod args0 = true := by decide +kernel
set_option maxRecDepth 65536 in
theorem w_heap : heapFits about1 = true := by decide +kernel
set_option maxRecDepth 65536 in
theorem w_runnable : about1.curStatus? = some .runnable := by decide +kernel
set_option maxRecDepth 65536 in
theorem w_alone : about1.alone = true := by decide +kernel
set_option maxRecDepth 65536 in
theorem w_named : about1.methodNamed? x = some theMethod := by decide +kernel
set_option maxRecDepth 65536 in
theorem w_hears : about1.hears theMethod below0 = true := by decide +kernel
set_option maxRecDepth 65536 in
theorem w_ripe : about1.ripe theMethod args0 below0 = true := by decide +kernel
theorem w_running : about1.status = .running := rfl
set_option maxRecDepth 65536 in
theorem w_room : about1.hasRoom e0.platform room_1 = true :=
  launch0.hasRoom_least _ room_1 (by decide +kernel) (by decide +kernel) (by decide +kernel) (by decide +kernel) (by decide +kernel) (by decide +kernel)
theorem allAtoms_all (ts : List Jvm.Cond) (a : Array Jvm.Value) (st : Jvm.State) : (allAtoms ts).before a st = ts.all (fun c => c.before a st) := by
  induction ts with
  | nil => rfl
  | cons c t ih =>
    show (Jvm.Cond.and c (allAtoms t)).before a st = _
    rw [Jvm.Cond.before_and, ih, List.all_cons]
def words1 : List Jvm.Cond := Jvm.Cond.code x code maxLocals ret :: tables_1
/-- a 'code' word, met by the world's own term for the bytes: nothing is compared byte by byte -/
theorem code_word {y : MethodName} {bytes : ByteArray} {mx : Nat} {rt : Option FieldType} {a : Array Value} {s : State} {m : MethodId} {meth : Method} {c : Code} (h1 : s.methodNamed? y = some m) (h2 : s.vm.method? m = some meth) (h3 : meth.code = some c) (h4 : c.code = bytes)
    (h5 : (c.maxLocals == mx && c.exceptionTable.isEmpty && decide (c.maxStack ≤ mostOperands) && decide (meth.sig.returnType = rt) && !meth.locks && decide (parseMethodDescriptor y.desc = some meth.sig)) = true) : (Jvm.Cond.code y bytes mx rt).before a s = true := by
  simp only [Bool.and_eq_true, beq_iff_eq, Bool.not_eq_true', decide_eq_true_eq] at h5
  obtain ⟨⟨⟨⟨⟨g1, g2⟩, g3⟩, g4⟩, g5⟩, g6⟩ := h5
  simp [Cond.before, Cond.holds, Cond.value, h1, h2, h3, h4, g1, g2, g3, g4, g5, g6]
def isCode : Jvm.Cond → Bool
  | .code _ _ _ _ => true
  | _ => false
theorem all_split {L : List Jvm.Cond} {P : Jvm.Cond → Bool} (h1 : L.all (fun c => isCode c || P c) = true) (h2 : ∀ c ∈ L.filter isCode, P c = true) : L.all P = true := by
  refine List.all_eq_true.mpr fun c hc => ?_
  have h := List.all_eq_true.mp h1 c hc
  rcases Bool.eq_false_or_eq_true (isCode c) with hi | hi
  · exact h2 c (List.mem_filter.mpr ⟨hc, hi⟩)
  · simpa [hi] using h
set_option maxRecDepth 65536 in
theorem w_c0 : (Jvm.Cond.code x code maxLocals ret).before args0 about1 = true := code_word (m := ⟨1, 1⟩) (meth := k1m1) (c := k1c1) (by decide +kernel) rfl rfl rfl (by decide +kernel)
set_option maxRecDepth 65536 in
theorem w_c1 : (Jvm.Cond.code ({ cls := "java/lang/Math", name := "max", desc := "(II)I" } : Jvm.MethodName) jdk_29_method_65_code (2 : Nat) (Option.some Jvm.ClassFile.FieldType.int)).before args0 about1 = true := code_word (m := ⟨2, 1⟩) (meth := k2m1) (c := k2c1) (by decide +kernel) rfl rfl rfl (by decide +kernel)
set_option maxRecDepth 65536 in
theorem w_c2 : (Jvm.Cond.code ({ cls := "com/example/measured_queue/measuredqueue/RetryRule$Backoff$Linear", name := "<init>", desc := "(JJ)V" } : Jvm.MethodName) prog_15_method_1_code (5 : Nat) (Option.none : Option Jvm.ClassFile.FieldType)).before args0 about1 = true := code_word (m := ⟨5, 0⟩) (meth := k5m0) (c := k5c0) (by decide +kernel) rfl rfl rfl (by decide +kernel)
set_option maxRecDepth 65536 in
theorem w_c3 : (Jvm.Cond.code ({ cls := "java/lang/Record", name := "<init>", desc := "()V" } : Jvm.MethodName) jdk_30_method_1_code (1 : Nat) (Option.none : Option Jvm.ClassFile.FieldType)).before args0 about1 = true := code_word (m := ⟨3, 0⟩) (meth := k3m0) (c := k3c0) (by decide +kernel) rfl rfl rfl (by decide +kernel)
set_option maxRecDepth 65536 in
theorem w_c4 : (Jvm.Cond.code ({ cls := "java/lang/Object", name := "<init>", desc := "()V" } : Jvm.MethodName) object_method_1_code (1 : Nat) (Option.none : Option Jvm.ClassFile.FieldType)).before args0 about1 = true := code_word (m := ⟨0, 0⟩) (meth := k0m0) (c := k0c0) (by decide +kernel) rfl rfl rfl (by decide +kernel)
set_option maxRecDepth 65536 in
theorem w_c5 : (Jvm.Cond.code ({ cls := "com/example/measured_queue/measuredqueue/RetryRule$Backoff$Linear", name := "waitMs", desc := "(I)J" } : Jvm.MethodName) prog_15_method_2_code (4 : Nat) (Option.some Jvm.ClassFile.FieldType.long)).before args0 about1 = true := code_word (m := ⟨5, 1⟩) (meth := k5m1) (c := k5c1) (by decide +kernel) rfl rfl rfl (by decide +kernel)
set_option maxRecDepth 65536 in
theorem w_c6 : (Jvm.Cond.code ({ cls := "com/example/measured_queue/measuredqueue/LinearWaitMsPinLaw", name := "expected", desc := "(JJI)J" } : Jvm.MethodName) method_3_code (15 : Nat) (Option.some Jvm.ClassFile.FieldType.long)).before args0 about1 = true := code_word (m := ⟨1, 2⟩) (meth := k1m2) (c := k1c2) (by decide +kernel) rfl rfl rfl (by decide +kernel)
set_option maxRecDepth 65536 in
theorem w_c7 : (Jvm.Cond.code ({ cls := "java/lang/Math", name := "min", desc := "(JJ)J" } : Jvm.MethodName) jdk_29_method_70_code (4 : Nat) (Option.some Jvm.ClassFile.FieldType.long)).before args0 about1 = true := code_word (m := ⟨2, 2⟩) (meth := k2m2) (c := k2c2) (by decide +kernel) rfl rfl rfl (by decide +kernel)
def codes1 : List Jvm.Cond := [Jvm.Cond.code x code maxLocals ret, Jvm.Cond.code ({ cls := "java/lang/Math", name := "max", desc := "(II)I" } : Jvm.MethodName) jdk_29_method_65_code (2 : Nat) (Option.some Jvm.ClassFile.FieldType.int), Jvm.Cond.code ({ cls := "com/example/measured_queue/measuredqueue/RetryRule$Backoff$Linear", name := "<init>", desc := "(JJ)V" } : Jvm.MethodName) prog_15_method_1_code (5 : Nat) (Option.none : Option Jvm.ClassFile.FieldType), Jvm.Cond.code ({ cls := "java/lang/Record", name := "<init>", desc := "()V" } : Jvm.MethodName) jdk_30_method_1_code (1 : Nat) (Option.none : Option Jvm.ClassFile.FieldType), Jvm.Cond.code ({ cls := "java/lang/Object", name := "<init>", desc := "()V" } : Jvm.MethodName) object_method_1_code (1 : Nat) (Option.none : Option Jvm.ClassFile.FieldType), Jvm.Cond.code ({ cls := "com/example/measured_queue/measuredqueue/RetryRule$Backoff$Linear", name := "waitMs", desc := "(I)J" } : Jvm.MethodName) prog_15_method_2_code (4 : Nat) (Option.some Jvm.ClassFile.FieldType.long), Jvm.Cond.code ({ cls := "com/example/measured_queue/measuredqueue/LinearWaitMsPinLaw", name := "expected", desc := "(JJI)J" } : Jvm.MethodName) method_3_code (15 : Nat) (Option.some Jvm.ClassFile.FieldType.long), Jvm.Cond.code ({ cls := "java/lang/Math", name := "min", desc := "(JJ)J" } : Jvm.MethodName) jdk_29_method_70_code (4 : Nat) (Option.some Jvm.ClassFile.FieldType.long)]
set_option maxRecDepth 65536 in
theorem codes_eq : words1.filter isCode = codes1 := rfl
theorem w_codes : ∀ c ∈ words1.filter isCode, c.before args0 about1 = true := by
  rw [codes_eq]
  intro c hc
  simp only [codes1, List.mem_cons, List.not_mem_nil, or_false] at hc
  rcases hc with rfl | rfl | rfl | rfl | rfl | rfl | rfl | rfl
  · exact w_c0
  · exact w_c1
  · exact w_c2
  · exact w_c3
  · exact w_c4
  · exact w_c5
  · exact w_c6
  · exact w_c7
set_option maxRecDepth 65536 in
theorem w_t1 : (words1.take 24).all (fun c => isCode c || c.before args0 about1) = true := by decide +kernel
set_option maxRecDepth 65536 in
theorem w_t2 : (words1.drop 24).all (fun c => isCode c || c.before args0 about1) = true := by decide +kernel
theorem w_tables : (allAtoms (Jvm.Cond.code x code maxLocals ret :: tables_1)).before args0 about1 = true := by
  rw [allAtoms_all]
  show words1.all (fun c => c.before args0 about1) = true
  refine all_split ?_ w_codes
  rw [← List.take_append_drop 24 words1, List.all_append, w_t1, w_t2]
  rfl
set_option maxRecDepth 65536 in
theorem w_case : (Jvm.Cond.and given_1 narrow_1).before args0 about1 = true := by decide +kernel
theorem w_applies : (headSpec (Jvm.Cond.code x code maxLocals ret :: tables_1) room_1).applies x e0.platform about1 = true :=
  (Spec.applies_iff w_frames).mpr ⟨w_running, w_runnable, w_alone, w_named, w_hears, w_ripe, w_room, w_tables⟩
theorem atStart : AtStart classFile x code maxLocals ret World_1 tables_1 room_1 Calls_1 rest_1 Pre_1 launch0 p0 e0 about1 theMethod args0 below0 :=
  ⟨lists_1, trivial, launch0.admits_env _ _ _, launch0.least_env, fairChoices_fair.cas, fairChoices_fair.clock, w_frames, w_args, w_heap, w_applies, trivial, trivial, w_case⟩
end start1
theorem witness_1 : WitnessClaimed_1 := ⟨start1.p0, start1.e0, start1.about1, start1.theMethod, start1.args0, start1.below0, start1.atStart⟩
end Jvm.Pilot.@@N@@
