import JvmDerived
import JvmDerived.Pilot.@@N@@Statement
import JvmDerived.Pilot.@@N@@Code
set_option linter.unusedVariables false
set_option linter.unusedSimpArgs false
namespace Jvm.RoadKit
open Sem ClassFile Op Lib Jvm.Stand Jvm.Free Jvm.LawKit
section New
variable {p : Program} {l : Launch} {e : Env} {R : Room} {s : State} {m : MethodId} {args : Array Value} {below : List Frame} {meth : Method} {c : Code} {T : State} {locs : List Loc} {cells slots : Nat}
theorem retI (X : Stand p l e R s m args below meth c T locs cells slots) (hx : p.tables.exec = Jvm.exec) {pc : Nat} {Ls : Array Slot} {z : Int32} {rest : List Value} (hret : meth.sig.returnType = some .int) (hd : decode c.code pc = .ok (.ireturn, 1)) {fs : List Frame}
    (hl : ∀ (f : JFrame) (acts : List Action), f.method = m → f.locked = none → f.entered = [] → (doReturn e (T.setTop f) acts (some (.int z))).1 = T.setFrames fs) : Steps p.tables e below (T.setTop (mkF m pc Ls (.int z :: rest))) (T.setFrames fs) := by
  have hm' : T.vm.method? m = some meth := X.method'
  have hn : narrow .int (.int z) = .int z := rfl
  show Steps p.tables e below (T.setTop { method := m, pc := pc, locals := Ls, stack := _ :: rest, locked := none }) _
  jvm_step X.here [X.here.top, hx, hd, hm', hret, hn]
  first | (intro acts; rw [hl _ acts rfl rfl rfl]) | rw [hl _ _ rfl rfl rfl]
  exact Steps.refl _
theorem retJ (X : Stand p l e R s m args below meth c T locs cells slots) (hx : p.tables.exec = Jvm.exec) {pc : Nat} {Ls : Array Slot} {z : Int64} {rest : List Value} (hret : meth.sig.returnType = some .long) (hd : decode c.code pc = .ok (.lreturn, 1)) {fs : List Frame}
    (hl : ∀ (f : JFrame) (acts : List Action), f.method = m → f.locked = none → f.entered = [] → (doReturn e (T.setTop f) acts (some (.long z))).1 = T.setFrames fs) : Steps p.tables e below (T.setTop (mkF m pc Ls (.long z :: rest))) (T.setFrames fs) := by
  have hm' : T.vm.method? m = some meth := X.method'
  have hn : narrow .long (.long z) = .long z := rfl
  show Steps p.tables e below (T.setTop { method := m, pc := pc, locals := Ls, stack := _ :: rest, locked := none }) _
  jvm_step X.here [X.here.top, hx, hd, hm', hret, hn, narrow]
  first | (intro acts; rw [hl _ acts rfl rfl rfl]) | rw [hl _ _ rfl rfl rfl]
  exact Steps.refl _
theorem retR (X : Stand p l e R s m args below meth c T locs cells slots) (hx : p.tables.exec = Jvm.exec) {pc : Nat} {Ls : Array Slot} {z : Addr} {rest : List Value} {ty : FieldType} (hret : meth.sig.returnType = some ty) (hty : ty.isReference = true) (hd : decode c.code pc = .ok (.areturn, 1)) {fs : List Frame}
    (hl : ∀ (f : JFrame) (acts : List Action), f.method = m → f.locked = none → f.entered = [] → (doReturn e (T.setTop f) acts (some (.ref z))).1 = T.setFrames fs) : Steps p.tables e below (T.setTop (mkF m pc Ls (.ref z :: rest))) (T.setFrames fs) := by
  have hm' : T.vm.method? m = some meth := X.method'
  show Steps p.tables e below (T.setTop { method := m, pc := pc, locals := Ls, stack := _ :: rest, locked := none }) _
  jvm_step X.here [X.here.top, hx, hd, hm', hret, hty, Value.isRef]
  first | (intro acts; rw [hl _ acts rfl rfl rfl]) | rw [hl _ _ rfl rfl rfl]
  exact Steps.refl _
theorem lremM {tb : Tables} [Ours tb] {target : State} {g : JFrame} (h : At T m c below) (hx : tb.exec = Jvm.exec) (hg : g.method = m) {x y : Int64} {rest : List Value} (hd : decode c.code g.pc = .ok (.lrem, 1)) (hs : g.stack = .long y :: .long x :: rest) (hy : y ≠ 0)
    (hr : Steps tb e below (T.setTop { g with pc := g.pc + 1, stack := .long (x % y) :: rest }) target) : Steps tb e below (T.setTop g) target := by
  rw [← lrem_mod] at hr
  exact XS.lrem h hx hg hd hs hy hr
end New
end Jvm.RoadKit
namespace Jvm.Pilot.@@N@@
open Jvm Jvm.ClassFile Sem Op Lib Jvm.Free Jvm.Stand Jvm.LawKit Jvm.RoadKit Bundle Jvm.Pilot.@@N@@.Jvm.D
/-- a Java boolean -/
def bI (P : Prop) [Decidable P] : Int32 := if P then 1 else 0
theorem bI_pos {P : Prop} [Decidable P] (h : P) : bI P = (1 : Int32) := if_pos h
theorem bI_neg {P : Prop} [Decidable P] (h : ¬ P) : bI P = (0 : Int32) := if_neg h
theorem bI_0 {P : Prop} [Decidable P] (h : ¬ P) : bI P = 0 := if_neg h
theorem bI_ne0 {P : Prop} [Decidable P] (h : P) : ¬ bI P = 0 := by rw [bI_pos h]; decide
theorem bI_iff {P Q : Prop} [Decidable P] [Decidable Q] : bI P = bI Q ↔ (P ↔ Q) := by
  by_cases p : P <;> by_cases q : Q <;> simp [bI, p, q]
theorem nar_0 : nar .boolean (0 : Int32) = 0 := by decide
theorem nar_1 : nar .boolean (1 : Int32) = 1 := by decide
theorem nar_bI (P : Prop) [Decidable P] : nar .boolean (bI P) = bI P := by by_cases p : P <;> simp [bI, p] <;> decide
/-- the run from st ends, and Q holds of what it returns and leaves -/
def OG (p : Program) (e : Env) (below : List Frame) (s : State) (Q : Option Value → Heap → List Loc → Prop) (cc ss : Nat) (st : State) : Prop :=
  ∃ s₂ o, Steps p.tables e below st s₂ ∧ s₂.status = .running ∧ Ended s₂ below o ∧ ∃ v L, o = .returned v ∧ Q v s₂.heap L ∧ FrameEnd s o s₂ L cc ss
section Out
variable {p : Program} {l : Launch} {e : Env} {R : Room} {s : State} {m : MethodId} {args : Array Value} {below : List Frame} {meth : Method} {c : Code} {T : State} {locs : List Loc} {cells slots : Nat} {Q : Option Value → Heap → List Loc → Prop} {cc ss : Nat} {h : Heap}
theorem OG.step {st st' : State} (h : ∀ t, Steps p.tables e below st' t → Steps p.tables e below st t) (g : OG p e below s Q cc ss st') : OG p e below s Q cc ss st := by
  obtain ⟨s₂, o, h1, r⟩ := g
  exact ⟨s₂, o, h _ h1, r⟩
theorem OG.out (X : Stand p l e R s m args below meth c T locs cells slots) {v : Option Value} (hv : meth.sig.returnType = none → v = none) (hlk : meth.locks = false) {g : JFrame} (eT : T.heap = h)
    (hs : ∀ fs, (∀ (f : JFrame) (acts : List Action), f.method = m → f.locked = none → f.entered = [] → (doReturn e (T.setTop f) acts v).1 = T.setFrames fs) → Steps p.tables e below (T.setTop g) (T.setFrames fs))
    (hQ : Q v h locs) (hc : cells ≤ cc) (hl : slots ≤ ss) : OG p e below s Q cc ss (T.setTop g) := by
  obtain ⟨fs, hr, hrun, hended, hW, hsame⟩ := X.leave (v := v) hv hlk
  exact ⟨_, _, hs fs hr, hrun, hended, _, _, rfl, by show Q v T.heap locs; rw [eT]; exact hQ, ⟨_, rfl⟩, hW, hsame.mono hc hl⟩
theorem OG.retV (X : Stand p l e R s m args below meth c T locs cells slots) (hx : p.tables.exec = Jvm.exec) (hlk : meth.locks = false) (hret : meth.sig.returnType = none) {pc : Nat} {Ls : Array Slot} (hd : decode c.code pc = .ok (.return_, 1)) (eT : T.heap = h) (hQ : Q none h locs) (hc : cells ≤ cc) (hl : slots ≤ ss) : OG p e below s Q cc ss (T.setTop (mkF m pc Ls [])) :=
  OG.out X (fun _ => rfl) hlk eT (fun _ hr => X.returnOut hx hret hd hr) hQ hc hl
theorem OG.retI (X : Stand p l e R s m args below meth c T locs cells slots) (hx : p.tables.exec = Jvm.exec) (hlk : meth.locks = false) (hret : meth.sig.returnType = some .int) {pc : Nat} {Ls : Array Slot} {z : Int32} {rest : List Value} (hd : decode c.code pc = .ok (.ireturn, 1)) (eT : T.heap = h) (hQ : Q (some (.int z)) h locs) (hc : cells ≤ cc) (hl : slots ≤ ss) : OG p e below s Q cc ss (T.setTop (mkF m pc Ls (.int z :: rest))) :=
  OG.out X (fun h => by rw [hret] at h; cases h) hlk eT (fun _ hr => Jvm.RoadKit.retI X hx hret hd hr) hQ hc hl
theorem OG.retJ (X : Stand p l e R s m args below meth c T locs cells slots) (hx : p.tables.exec = Jvm.exec) (hlk : meth.locks = false) (hret : meth.sig.returnType = some .long) {pc : Nat} {Ls : Array Slot} {z : Int64} {rest : List Value} (hd : decode c.code pc = .ok (.lreturn, 1)) (eT : T.heap = h) (hQ : Q (some (.long z)) h locs) (hc : cells ≤ cc) (hl : slots ≤ ss) : OG p e below s Q cc ss (T.setTop (mkF m pc Ls (.long z :: rest))) :=
  OG.out X (fun h => by rw [hret] at h; cases h) hlk eT (fun _ hr => Jvm.RoadKit.retJ X hx hret hd hr) hQ hc hl
theorem OG.retR (X : Stand p l e R s m args below meth c T locs cells slots) (hx : p.tables.exec = Jvm.exec) (hlk : meth.locks = false) {ty : FieldType} (hret : meth.sig.returnType = some ty) (hty : ty.isReference = true) {pc : Nat} {Ls : Array Slot} {z : Addr} {rest : List Value} (hd : decode c.code pc = .ok (.areturn, 1)) (eT : T.heap = h) (hQ : Q (some (.ref z)) h locs) (hc : cells ≤ cc) (hl : slots ≤ ss) : OG p e below s Q cc ss (T.setTop (mkF m pc Ls (.ref z :: rest))) :=
  OG.out X (fun h => by rw [hret] at h; cases h) hlk eT (fun _ hr => Jvm.RoadKit.retR X hx hret hty hd hr) hQ hc hl
theorem OG.retZ (X : Stand p l e R s m args below meth c T locs cells slots) (hx : p.tables.exec = Jvm.exec) (hlk : meth.locks = false) (hret : meth.sig.returnType = some .boolean) {pc : Nat} {Ls : Array Slot} {z z' : Int32} {rest : List Value} (hd : decode c.code pc = .ok (.ireturn, 1)) (hz : nar .boolean z = z') (eT : T.heap = h) (hQ : Q (some (.int z')) h locs) (hc : cells ≤ cc) (hl : slots ≤ ss) : OG p e below s Q cc ss (T.setTop (mkF m pc Ls (.int z :: rest))) := by
  subst hz
  exact OG.out X (fun h => by rw [hret] at h; cases h) hlk eT (fun _ hr => retN X hx (t := .boolean) hret (by simp) hd hr) hQ hc hl
end Out
def own_m1 (z : Int64) : Int64 := (z ^^^ ((z.toUInt64 >>> ((30 : Int32) &&& 0x3f).toInt64.toUInt64).toInt64)) * (-4658895280553007687 : Int64)
def own_m2 (z : Int64) : Int64 := (z ^^^ ((z.toUInt64 >>> ((27 : Int32) &&& 0x3f).toInt64.toUInt64).toInt64)) * (-7723592293110705685 : Int64)
def own_m3 (z : Int64) : Int64 := z ^^^ ((z.toUInt64 >>> ((31 : Int32) &&& 0x3f).toInt64.toUInt64).toInt64)
def own_mix (z : Int64) : Int64 := own_m3 (own_m2 (own_m1 z))
def own_maxJ (a b : Int64) : Int64 := if a < b then b else a
theorem d1_0 : decode jdk_29_method_66_code 0 = .ok (.lload_n 0, 1) := by decide +kernel
theorem d1_1 : decode jdk_29_method_66_code 1 = .ok (.lload_n 2, 1) := by decide +kernel
theorem d1_2 : decode jdk_29_method_66_code 2 = .ok (.lcmp, 1) := by decide +kernel
theorem d1_3 : decode jdk_29_method_66_code 3 = .ok (.ifCond .lt 7, 3) := by decide +kernel
theorem d1_6 : decode jdk_29_method_66_code 6 = .ok (.lload_n 0, 1) := by decide +kernel
theorem d1_7 : decode jdk_29_method_66_code 7 = .ok (.goto 4, 3) := by decide +kernel
theorem d1_10 : decode jdk_29_method_66_code 10 = .ok (.lload_n 2, 1) := by decide +kernel
theorem d1_11 : decode jdk_29_method_66_code 11 = .ok (.lreturn, 1) := by decide +kernel
theorem ef_1 (m : MethodId) (x0 : Int64) (x1 : Int64) : entryFrame m #[(.long x0), (.long x1)] 4 = mkF m 0 #[.val (.long x0), .second, .val (.long x1), .second] [] := by first | (simp [entryFrame, mkF, argsToLocals, Value.category]; done) | rfl
def Q1 (Z : State) (q0 : Int64) (q1 : Int64) (h0 : Heap) (n0 : Nat) (v : Option Value) (h : Heap) (L : List Loc) : Prop := (v = some (.long (own_maxJ q0 q1))) ∧ (Fr n0 L) ∧ (h = h0)
abbrev rom_1 : Room := { frames := 0, cells := 0, slots := 0, locals := 0 }
set_option maxRecDepth 65536 in
set_option maxHeartbeats 40000000 in
theorem rm1 (l : Launch) (Z : State) (a0 : Array Value) (hw : ∀ d ∈ tables_1, d.before a0 Z = true) (ws : List Jvm.Cond) (q0 : Int64) (q1 : Int64) (h0 : Heap) (n0 : Nat) (Z0 : n0 ≤ h0.size) :
    MetFree l (⟨"java/lang/Math", "max", "(JJ)J"⟩ : MethodName) (head1 (Jvm.Cond.code (⟨"java/lang/Math", "max", "(JJ)J"⟩ : MethodName) jdk_29_method_66_code 4 (some .long) :: ws) rom_1) (fun a U => a = #[(.long q0), (.long q1)] ∧ Z.Warmed39 U.vm ∧ U.heap = h0) (fun _ _ _ _ _ => True) (fun _ U o U' => ∃ v L, o = .returned v ∧ Q1 Z q0 q1 h0 n0 v U'.heap L ∧ FrameEnd U o U' L rom_1.cells rom_1.slots) := by
  refine MetFree.of_bodySF (Jvm.Free.JP.mathPlain rfl (by decide +kernel)) hisR ?_
  intro p e s m args below meth c s₁ Bd hml0 hP hK
  obtain ⟨rfl, hZ, hh⟩ := hP
  have hx := Bd.exec
  have hby := Bd.bytes
  have hlk := Bd.notSynchronized
  have hml : c.maxLocals = 4 := hml0
  have hown : s.vm.findClass "java/lang/Math" = some m.cls := findClass_of_methodNamed Bd.named
  have hnm := (name_of_methodNamed Bd.named Bd.method).1
  have X0 : Stand p l e rom_1 s m #[(.long q0), (.long q1)] below meth c s₁ [] 0 0 := Stand.of_body Bd
  have e0 : s₁.heap = h0 := by rw [← hh, Bd.state]; rfl
  have N0 := Fr.nil n0
  have K0 : Keep h0 h0 [] := Keep.refl _ _
  refine (?_ : OG p e below s (Q1 Z q0 q1 h0 n0) rom_1.cells rom_1.slots _)
  rw [ef_1]
  have s1 : ∀ tz, Steps p.tables e below (s₁.setTop (mkF m 3 #[.val (.long q0), .second, .val (.long q1), .second] [(.int (lcmpW q0 q1))])) tz → Steps p.tables e below (s₁.setTop (mkF m 0 #[.val (.long q0), .second, .val (.long q1), .second] [])) tz := by
    intro tz kz
    refine XS.lloadN X0.here hx rfl (hb hby d1_0) rfl ?_
    show Steps p.tables e below (s₁.setTop (mkF m 1 #[.val (.long q0), .second, .val (.long q1), .second] [(.long q0)])) _
    refine XS.lloadN X0.here hx rfl (hb hby d1_1) rfl ?_
    show Steps p.tables e below (s₁.setTop (mkF m 2 #[.val (.long q0), .second, .val (.long q1), .second] [(.long q1), (.long q0)])) _
    refine XS.lcmp X0.here hx rfl (hb hby d1_2) rfl ?_
    exact kz
  refine OG.step s1 ?_
  by_cases hc3 : q0 < q1
  · have s2 : ∀ tz, Steps p.tables e below (s₁.setTop (mkF m 11 #[.val (.long q0), .second, .val (.long q1), .second] [(.long q1)])) tz → Steps p.tables e below (s₁.setTop (mkF m 3 #[.val (.long q0), .second, .val (.long q1), .second] [(.int (lcmpW q0 q1))])) tz := by
      intro tz kz
      refine XS.ifYes X0.here hx rfl (pc0 := 3) (pc' := 10) rfl (hb hby d1_3) rfl ((if0 _ _).trans (tlt ((lw_lt q0 q1).mpr hc3)).1) (by decide) (by decide) ?_
      show Steps p.tables e below (s₁.setTop (mkF m 10 #[.val (.long q0), .second, .val (.long q1), .second] [])) _
      refine XS.lloadN X0.here hx rfl (hb hby d1_10) rfl ?_
      exact kz
    refine OG.step s2 ?_
    exact OG.retJ X0 hx hlk Bd.returns (hb hby d1_11) e0 ⟨(by simp [own_maxJ, hc3]), N0, rfl⟩ (by decide) (by decide)
  · have s3 : ∀ tz, Steps p.tables e below (s₁.setTop (mkF m 11 #[.val (.long q0), .second, .val (.long q1), .second] [(.long q0)])) tz → Steps p.tables e below (s₁.setTop (mkF m 3 #[.val (.long q0), .second, .val (.long q1), .second] [(.int (lcmpW q0 q1))])) tz := by
      intro tz kz
      refine XS.ifNo X0.here hx rfl (hb hby d1_3) rfl ((if0 _ _).trans (flt (mt (lw_lt q0 q1).mp hc3)).1) ?_
      show Steps p.tables e below (s₁.setTop (mkF m 6 #[.val (.long q0), .second, .val (.long q1), .second] [])) _
      refine XS.lloadN X0.here hx rfl (hb hby d1_6) rfl ?_
      show Steps p.tables e below (s₁.setTop (mkF m 7 #[.val (.long q0), .second, .val (.long q1), .second] [(.long q0)])) _
      refine XS.goto X0.here hx rfl (pc0 := 7) (pc' := 11) rfl (hb hby d1_7) (by decide) (by decide) ?_
      exact kz
    refine OG.step s3 ?_
    exact OG.retJ X0 hx hlk Bd.returns (hb hby d1_11) e0 ⟨(by simp [own_maxJ, hc3]), N0, rfl⟩ (by decide) (by decide)
theorem d2_0 : decode prog_63_method_1_code 0 = .ok (.aload_n 0, 1) := by decide +kernel
theorem d2_1 : decode prog_63_method_1_code 1 = .ok (.invokespecial 1, 3) := by decide +kernel
theorem d2_4 : decode prog_63_method_1_code 4 = .ok (.aload_n 0, 1) := by decide +kernel
theorem d2_5 : decode prog_63_method_1_code 5 = .ok (.lload_n 1, 1) := by decide +kernel
theorem d2_6 : decode prog_63_method_1_code 6 = .ok (.putfield 7, 3) := by decide +kernel
theorem d2_9 : decode prog_63_method_1_code 9 = .ok (.return_, 1) := by decide +kernel
theorem pn_com_example_manyflow_manyflow_simulate_SeededRandom : plainName "com/example/manyflow/manyflow/simulate/SeededRandom" = true := by first | (simp [plainName, overriddenIn]; done) | decide +kernel
theorem ef_2 (m : MethodId) (x0 : Addr) (x1 : Int64) : entryFrame m #[(.ref x0), (.long x1)] 3 = mkF m 0 #[.val (.ref x0), .val (.long x1), .second] [] := by first | (simp [entryFrame, mkF, argsToLocals, Value.category]; done) | rfl
def Q2 (Z : State) (a1 : Addr) (q1 : Int64) (u1 : Value) (h0 : Heap) (n0 : Nat) (v : Option Value) (h : Heap) (L : List Loc) : Prop := (v = none) ∧ (Fr n0 L) ∧ (Keep h0 h [a1]) ∧ (Fld Z h a1 "com/example/manyflow/manyflow/simulate/SeededRandom" "state" "J" (.long q1))
abbrev rom_2 : Room := { frames := 1, cells := 0, slots := 0, locals := 12 }
set_option maxRecDepth 65536 in
set_option maxHeartbeats 40000000 in
theorem rm2 (l : Launch) (Z : State) (a0 : Array Value) (hw : ∀ d ∈ tables_1, d.before a0 Z = true) (ws : List Jvm.Cond) (a1 : Addr) (q1 : Int64) (u1 : Value) (h0 : Heap) (n0 : Nat) (Z0 : n0 ≤ h0.size) (F0_a1 : Exa Z h0 a1 "com/example/manyflow/manyflow/simulate/SeededRandom") (F1_a1_state : Fld Z h0 a1 "com/example/manyflow/manyflow/simulate/SeededRandom" "state" "J" u1) (g_a1 : n0 ≤ a1) :
    MetFree l (⟨"com/example/manyflow/manyflow/simulate/SeededRandom", "<init>", "(J)V"⟩ : MethodName) (head1 (Jvm.Cond.code (⟨"com/example/manyflow/manyflow/simulate/SeededRandom", "<init>", "(J)V"⟩ : MethodName) prog_63_method_1_code 3 none :: ws) rom_2) (fun a U => a = #[(.ref a1), (.long q1)] ∧ Z.Warmed39 U.vm ∧ U.heap = h0) (fun _ _ _ _ _ => True) (fun _ U o U' => ∃ v L, o = .returned v ∧ Q2 Z a1 q1 u1 h0 n0 v U'.heap L ∧ FrameEnd U o U' L rom_2.cells rom_2.slots) := by
  refine MetFree.of_bodySF (plainFor_of_name pn_com_example_manyflow_manyflow_simulate_SeededRandom) hisR ?_
  intro p e s m args below meth c s₁ Bd hml0 hP hK
  obtain ⟨rfl, hZ, hh⟩ := hP
  have hx := Bd.exec
  have hby := Bd.bytes
  have hlk := Bd.notSynchronized
  have hml : c.maxLocals = 3 := hml0
  have hown : s.vm.findClass "com/example/manyflow/manyflow/simulate/SeededRandom" = some m.cls := findClass_of_methodNamed Bd.named
  have hnm := (name_of_methodNamed Bd.named Bd.method).1
  have X0 : Stand p l e rom_2 s m #[(.ref a1), (.long q1)] below meth c s₁ [] 0 0 := Stand.of_body Bd
  have e0 : s₁.heap = h0 := by rw [← hh, Bd.state]; rfl
  have N0 := Fr.nil n0
  have K0 : Keep h0 h0 [a1] := Keep.refl _ _
  refine (?_ : OG p e below s (Q2 Z a1 q1 u1 h0 n0) rom_2.cells rom_2.slots _)
  rw [ef_2]
  have s1 : ∀ tz, Steps p.tables e below (s₁.setTop (mkF m 1 #[.val (.ref a1), .val (.long q1), .second] [(.ref a1)])) tz → Steps p.tables e below (s₁.setTop (mkF m 0 #[.val (.ref a1), .val (.long q1), .second] [])) tz := by
    intro tz kz
    refine XS.aloadN X0.here hx rfl (hb hby d2_0) rfl rfl ?_
    exact kz
  refine OG.step s1 ?_
  obtain ⟨T2, X2, e2, st2⟩ := initO X0 hx hZ hown (hw _ (List.mem_of_getElem? (i := 11) rfl)) (hw _ (List.mem_of_getElem? (i := 12) rfl)) (hw _ (List.mem_of_getElem? (i := 13) rfl)) e0 (g := (mkF m 1 #[.val (.ref a1), .val (.long q1), .second] [(.ref a1)])) rfl (by rw [hml]; rfl) rfl (hb hby d2_1) (by decide) (W := 0) (by show 2 * 0 + _ ≤ _; exact Nat.le_of_eq rfl) (by decide)
  refine OG.step st2 ?_
  show OG _ _ _ _ _ _ _ (T2.setTop (mkF m 4 #[.val (.ref a1), .val (.long q1), .second] []))
  have s3 : ∀ tz, Steps p.tables e below (T2.setTop (mkF m 6 #[.val (.ref a1), .val (.long q1), .second] [(.long q1), (.ref a1)])) tz → Steps p.tables e below (T2.setTop (mkF m 4 #[.val (.ref a1), .val (.long q1), .second] [])) tz := by
    intro tz kz
    refine XS.aloadN X2.here hx rfl (hb hby d2_4) rfl rfl ?_
    show Steps p.tables e below (T2.setTop (mkF m 5 #[.val (.ref a1), .val (.long q1), .second] [(.ref a1)])) _
    refine XS.lloadN X2.here hx rfl (hb hby d2_5) rfl ?_
    exact kz
  refine OG.step s3 ?_
  obtain ⟨T4, h4, X4, e4, W4, st4⟩ := putF X2 hx hZ hown (host := "") (Or.inl (hw _ (List.mem_of_getElem? (i := 14) rfl))) Via.refl e2 F1_a1_state F0_a1 (Or.inl (hw _ (List.mem_of_getElem? (i := 15) rfl))) (hw _ (List.mem_of_getElem? (i := 6) rfl)) (ty := .long) (by decide) rfl rfl (g := (mkF m 6 #[.val (.ref a1), .val (.long q1), .second] [(.long q1), (.ref a1)])) rfl rfl (hb hby d2_6)
  refine OG.step st4 ?_
  have fw4 := F1_a1_state.same W4
  have f5 := F0_a1.wr W4
  have K4 := K0.wr W4 (Or.inl (List.mem_of_getElem? (i := 0) rfl))
  have N4 := Fr.snoc X4 N0 g_a1
  show OG _ _ _ _ _ _ _ (T4.setTop (mkF m 9 #[.val (.ref a1), .val (.long q1), .second] []))
  exact OG.retV X4 hx hlk Bd.returns (hb hby d2_9) e4 ⟨rfl, N4, K4, fw4⟩ (by decide) (by decide)
theorem d5_0 : decode prog_63_method_2_code 0 = .ok (.aload_n 0, 1) := by decide +kernel
theorem d5_1 : decode prog_63_method_2_code 1 = .ok (.dup, 1) := by decide +kernel
theorem d5_2 : decode prog_63_method_2_code 2 = .ok (.getfield 7, 3) := by decide +kernel
theorem d5_5 : decode prog_63_method_2_code 5 = .ok (.ldc2_w 13, 3) := by decide +kernel
theorem d5_8 : decode prog_63_method_2_code 8 = .ok (.ladd, 1) := by decide +kernel
theorem d5_9 : decode prog_63_method_2_code 9 = .ok (.putfield 7, 3) := by decide +kernel
theorem d5_12 : decode prog_63_method_2_code 12 = .ok (.aload_n 0, 1) := by decide +kernel
theorem d5_13 : decode prog_63_method_2_code 13 = .ok (.getfield 7, 3) := by decide +kernel
theorem d5_16 : decode prog_63_method_2_code 16 = .ok (.lstore_n 1, 1) := by decide +kernel
theorem d5_17 : decode prog_63_method_2_code 17 = .ok (.lload_n 1, 1) := by decide +kernel
theorem d5_18 : decode prog_63_method_2_code 18 = .ok (.lload_n 1, 1) := by decide +kernel
theorem d5_19 : decode prog_63_method_2_code 19 = .ok (.bipush 30, 2) := by decide +kernel
theorem d5_21 : decode prog_63_method_2_code 21 = .ok (.lushr, 1) := by decide +kernel
theorem d5_22 : decode prog_63_method_2_code 22 = .ok (.lxor, 1) := by decide +kernel
theorem d5_23 : decode prog_63_method_2_code 23 = .ok (.ldc2_w 15, 3) := by decide +kernel
theorem d5_26 : decode prog_63_method_2_code 26 = .ok (.lmul, 1) := by decide +kernel
theorem d5_27 : decode prog_63_method_2_code 27 = .ok (.lstore_n 1, 1) := by decide +kernel
theorem d5_28 : decode prog_63_method_2_code 28 = .ok (.lload_n 1, 1) := by decide +kernel
theorem d5_29 : decode prog_63_method_2_code 29 = .ok (.lload_n 1, 1) := by decide +kernel
theorem d5_30 : decode prog_63_method_2_code 30 = .ok (.bipush 27, 2) := by decide +kernel
theorem d5_32 : decode prog_63_method_2_code 32 = .ok (.lushr, 1) := by decide +kernel
theorem d5_33 : decode prog_63_method_2_code 33 = .ok (.lxor, 1) := by decide +kernel
theorem d5_34 : decode prog_63_method_2_code 34 = .ok (.ldc2_w 17, 3) := by decide +kernel
theorem d5_37 : decode prog_63_method_2_code 37 = .ok (.lmul, 1) := by decide +kernel
theorem d5_38 : decode prog_63_method_2_code 38 = .ok (.lstore_n 1, 1) := by decide +kernel
theorem d5_39 : decode prog_63_method_2_code 39 = .ok (.lload_n 1, 1) := by decide +kernel
theorem d5_40 : decode prog_63_method_2_code 40 = .ok (.lload_n 1, 1) := by decide +kernel
theorem d5_41 : decode prog_63_method_2_code 41 = .ok (.bipush 31, 2) := by decide +kernel
theorem d5_43 : decode prog_63_method_2_code 43 = .ok (.lushr, 1) := by decide +kernel
theorem d5_44 : decode prog_63_method_2_code 44 = .ok (.lxor, 1) := by decide +kernel
theorem d5_45 : decode prog_63_method_2_code 45 = .ok (.lreturn, 1) := by decide +kernel
theorem ef_5 (m : MethodId) (x0 : Addr) : entryFrame m #[(.ref x0)] 3 = mkF m 0 #[.val (.ref x0), .unset, .unset] [] := by first | (simp [entryFrame, mkF, argsToLocals, Value.category]; done) | rfl
def Q5 (Z : State) (a1 : Addr) (w : Int64) (h0 : Heap) (n0 : Nat) (v : Option Value) (h : Heap) (L : List Loc) : Prop := (v = some (.long (own_mix (w + (-7046029254386353131 : Int64))))) ∧ (Fr n0 L) ∧ (Keep h0 h [a1]) ∧ (Fld Z h a1 "com/example/manyflow/manyflow/simulate/SeededRandom" "state" "J" (.long (w + (-7046029254386353131 : Int64))))
abbrev rom_5 : Room := { frames := 0, cells := 0, slots := 0, locals := 0 }
set_option maxRecDepth 65536 in
set_option maxHeartbeats 40000000 in
theorem rm5 (l : Launch) (Z : State) (a0 : Array Value) (hw : ∀ d ∈ tables_1, d.before a0 Z = true) (ws : List Jvm.Cond) (a1 : Addr) (w : Int64) (h0 : Heap) (n0 : Nat) (Z0 : n0 ≤ h0.size) (F0_a1 : Exa Z h0 a1 "com/example/manyflow/manyflow/simulate/SeededRandom") (F1_a1_state : Fld Z h0 a1 "com/example/manyflow/manyflow/simulate/SeededRandom" "state" "J" (.long w)) (g_a1 : n0 ≤ a1) :
    MetFree l (⟨"com/example/manyflow/manyflow/simulate/SeededRandom", "nextLong", "()J"⟩ : MethodName) (head1 (Jvm.Cond.code (⟨"com/example/manyflow/manyflow/simulate/SeededRandom", "nextLong", "()J"⟩ : MethodName) prog_63_method_2_code 3 (some .long) :: ws) rom_5) (fun a U => a = #[(.ref a1)] ∧ Z.Warmed39 U.vm ∧ U.heap = h0) (fun _ _ _ _ _ => True) (fun _ U o U' => ∃ v L, o = .returned v ∧ Q5 Z a1 w h0 n0 v U'.heap L ∧ FrameEnd U o U' L rom_5.cells rom_5.slots) := by
  refine MetFree.of_bodySF (plainFor_of_name pn_com_example_manyflow_manyflow_simulate_SeededRandom) hisR ?_
  intro p e s m args below meth c s₁ Bd hml0 hP hK
  obtain ⟨rfl, hZ, hh⟩ := hP
  have hx := Bd.exec
  have hby := Bd.bytes
  have hlk := Bd.notSynchronized
  have hml : c.maxLocals = 3 := hml0
  have hown : s.vm.findClass "com/example/manyflow/manyflow/simulate/SeededRandom" = some m.cls := findClass_of_methodNamed Bd.named
  have hnm := (name_of_methodNamed Bd.named Bd.method).1
  have X0 : Stand p l e rom_5 s m #[(.ref a1)] below meth c s₁ [] 0 0 := Stand.of_body Bd
  have e0 : s₁.heap = h0 := by rw [← hh, Bd.state]; rfl
  have N0 := Fr.nil n0
  have K0 : Keep h0 h0 [a1] := Keep.refl _ _
  refine (?_ : OG p e below s (Q5 Z a1 w h0 n0) rom_5.cells rom_5.slots _)
  rw [ef_5]
  have s1 : ∀ tz, Steps p.tables e below (s₁.setTop (mkF m 2 #[.val (.ref a1), .unset, .unset] [(.ref a1), (.ref a1)])) tz → Steps p.tables e below (s₁.setTop (mkF m 0 #[.val (.ref a1), .unset, .unset] [])) tz := by
    intro tz kz
    refine XS.aloadN X0.here hx rfl (hb hby d5_0) rfl rfl ?_
    show Steps p.tables e below (s₁.setTop (mkF m 1 #[.val (.ref a1), .unset, .unset] [(.ref a1)])) _
    refine XS.dup X0.here hx rfl (hb hby d5_1) rfl rfl ?_
    exact kz
  refine OG.step s1 ?_
  obtain ⟨T2, X2, e2, st2⟩ := getF X0 hx hZ hown (host := "") (Or.inl (hw _ (List.mem_of_getElem? (i := 14) rfl))) Via.refl e0 F1_a1_state (g := (mkF m 2 #[.val (.ref a1), .unset, .unset] [(.ref a1), (.ref a1)])) rfl rfl (hb hby d5_2)
  refine OG.step st2 ?_
  show OG _ _ _ _ _ _ _ (T2.setTop (mkF m 5 #[.val (.ref a1), .unset, .unset] [(.long w), (.ref a1)]))
  have s3 : ∀ tz, Steps p.tables e below (T2.setTop (mkF m 9 #[.val (.ref a1), .unset, .unset] [(.long (w + (-7046029254386353131 : Int64))), (.ref a1)])) tz → Steps p.tables e below (T2.setTop (mkF m 5 #[.val (.ref a1), .unset, .unset] [(.long w), (.ref a1)])) tz := by
    intro tz kz
    refine X2.ldc2Long hx hown (mvT hZ (hw _ (List.mem_of_getElem? (i := 27) rfl))) (g := (mkF m 5 #[.val (.ref a1), .unset, .unset] [(.long w), (.ref a1)])) rfl (hb hby d5_5) _ ?_
    show Steps p.tables e below (T2.setTop (mkF m 8 #[.val (.ref a1), .unset, .unset] [(.long (-7046029254386353131 : Int64)), (.long w), (.ref a1)])) _
    refine XS.ladd X2.here hx rfl (hb hby d5_8) rfl ?_
    exact kz
  refine OG.step s3 ?_
  obtain ⟨T4, h4, X4, e4, W4, st4⟩ := putF X2 hx hZ hown (host := "") (Or.inl (hw _ (List.mem_of_getElem? (i := 14) rfl))) Via.refl e2 F1_a1_state F0_a1 (Or.inl (hw _ (List.mem_of_getElem? (i := 15) rfl))) (hw _ (List.mem_of_getElem? (i := 6) rfl)) (ty := .long) (by decide) rfl rfl (g := (mkF m 9 #[.val (.ref a1), .unset, .unset] [(.long (w + (-7046029254386353131 : Int64))), (.ref a1)])) rfl rfl (hb hby d5_9)
  refine OG.step st4 ?_
  have fw4 := F1_a1_state.same W4
  have f5 := F0_a1.wr W4
  have K4 := K0.wr W4 (Or.inl (List.mem_of_getElem? (i := 0) rfl))
  have N4 := Fr.snoc X4 N0 g_a1
  show OG _ _ _ _ _ _ _ (T4.setTop (mkF m 12 #[.val (.ref a1), .unset, .unset] []))
  have s6 : ∀ tz, Steps p.tables e below (T4.setTop (mkF m 13 #[.val (.ref a1), .unset, .unset] [(.ref a1)])) tz → Steps p.tables e below (T4.setTop (mkF m 12 #[.val (.ref a1), .unset, .unset] [])) tz := by
    intro tz kz
    refine XS.aloadN X4.here hx rfl (hb hby d5_12) rfl rfl ?_
    exact kz
  refine OG.step s6 ?_
  obtain ⟨T7, X7, e7, st7⟩ := getF X4 hx hZ hown (host := "") (Or.inl (hw _ (List.mem_of_getElem? (i := 14) rfl))) Via.refl e4 fw4 (g := (mkF m 13 #[.val (.ref a1), .unset, .unset] [(.ref a1)])) rfl rfl (hb hby d5_13)
  refine OG.step st7 ?_
  show OG _ _ _ _ _ _ _ (T7.setTop (mkF m 16 #[.val (.ref a1), .unset, .unset] [(.long (w + (-7046029254386353131 : Int64)))]))
  have s8 : ∀ tz, Steps p.tables e below (T7.setTop (mkF m 45 #[.val (.ref a1), .val (.long (own_m2 (own_m1 (w + (-7046029254386353131 : Int64))))), .second] [(.long ((own_m2 (own_m1 (w + (-7046029254386353131 : Int64)))) ^^^ (((own_m2 (own_m1 (w + (-7046029254386353131 : Int64)))).toUInt64 >>> ((31 : Int32) &&& 0x3f).toInt64.toUInt64).toInt64)))])) tz → Steps p.tables e below (T7.setTop (mkF m 16 #[.val (.ref a1), .unset, .unset] [(.long (w + (-7046029254386353131 : Int64)))])) tz := by
    intro tz kz
    refine XS.lstoreN X7.here hx rfl (hb hby d5_16) rfl (l' := #[.val (.ref a1), .val (.long (w + (-7046029254386353131 : Int64))), .second]) rfl ?_
    show Steps p.tables e below (T7.setTop (mkF m 17 #[.val (.ref a1), .val (.long (w + (-7046029254386353131 : Int64))), .second] [])) _
    refine XS.lloadN X7.here hx rfl (hb hby d5_17) rfl ?_
    show Steps p.tables e below (T7.setTop (mkF m 18 #[.val (.ref a1), .val (.long (w + (-7046029254386353131 : Int64))), .second] [(.long (w + (-7046029254386353131 : Int64)))])) _
    refine XS.lloadN X7.here hx rfl (hb hby d5_18) rfl ?_
    show Steps p.tables e below (T7.setTop (mkF m 19 #[.val (.ref a1), .val (.long (w + (-7046029254386353131 : Int64))), .second] [(.long (w + (-7046029254386353131 : Int64))), (.long (w + (-7046029254386353131 : Int64)))])) _
    refine XS.bipush X7.here hx rfl (hb hby d5_19) ?_
    show Steps p.tables e below (T7.setTop (mkF m 21 #[.val (.ref a1), .val (.long (w + (-7046029254386353131 : Int64))), .second] [(.int (30 : Int32)), (.long (w + (-7046029254386353131 : Int64))), (.long (w + (-7046029254386353131 : Int64)))])) _
    refine XS.lushr X7.here hx rfl (hb hby d5_21) rfl ?_
    show Steps p.tables e below (T7.setTop (mkF m 22 #[.val (.ref a1), .val (.long (w + (-7046029254386353131 : Int64))), .second] [(.long (((w + (-7046029254386353131 : Int64)).toUInt64 >>> ((30 : Int32) &&& 0x3f).toInt64.toUInt64).toInt64)), (.long (w + (-7046029254386353131 : Int64)))])) _
    refine XS.lxor X7.here hx rfl (hb hby d5_22) rfl ?_
    show Steps p.tables e below (T7.setTop (mkF m 23 #[.val (.ref a1), .val (.long (w + (-7046029254386353131 : Int64))), .second] [(.long ((w + (-7046029254386353131 : Int64)) ^^^ (((w + (-7046029254386353131 : Int64)).toUInt64 >>> ((30 : Int32) &&& 0x3f).toInt64.toUInt64).toInt64)))])) _
    refine X7.ldc2Long hx hown (mvT hZ (hw _ (List.mem_of_getElem? (i := 28) rfl))) (g := (mkF m 23 #[.val (.ref a1), .val (.long (w + (-7046029254386353131 : Int64))), .second] [(.long ((w + (-7046029254386353131 : Int64)) ^^^ (((w + (-7046029254386353131 : Int64)).toUInt64 >>> ((30 : Int32) &&& 0x3f).toInt64.toUInt64).toInt64)))])) rfl (hb hby d5_23) _ ?_
    show Steps p.tables e below (T7.setTop (mkF m 26 #[.val (.ref a1), .val (.long (w + (-7046029254386353131 : Int64))), .second] [(.long (-4658895280553007687 : Int64)), (.long ((w + (-7046029254386353131 : Int64)) ^^^ (((w + (-7046029254386353131 : Int64)).toUInt64 >>> ((30 : Int32) &&& 0x3f).toInt64.toUInt64).toInt64)))])) _
    refine XS.lmul X7.here hx rfl (hb hby d5_26) rfl ?_
    show Steps p.tables e below (T7.setTop (mkF m 27 #[.val (.ref a1), .val (.long (w + (-7046029254386353131 : Int64))), .second] [(.long (((w + (-7046029254386353131 : Int64)) ^^^ (((w + (-7046029254386353131 : Int64)).toUInt64 >>> ((30 : Int32) &&& 0x3f).toInt64.toUInt64).toInt64)) * (-4658895280553007687 : Int64)))])) _
    refine XS.lstoreN X7.here hx rfl (hb hby d5_27) rfl (l' := #[.val (.ref a1), .val (.long (own_m1 (w + (-7046029254386353131 : Int64)))), .second]) rfl ?_
    show Steps p.tables e below (T7.setTop (mkF m 28 #[.val (.ref a1), .val (.long (own_m1 (w + (-7046029254386353131 : Int64)))), .second] [])) _
    refine XS.lloadN X7.here hx rfl (hb hby d5_28) rfl ?_
    show Steps p.tables e below (T7.setTop (mkF m 29 #[.val (.ref a1), .val (.long (own_m1 (w + (-7046029254386353131 : Int64)))), .second] [(.long (own_m1 (w + (-7046029254386353131 : Int64))))])) _
    refine XS.lloadN X7.here hx rfl (hb hby d5_29) rfl ?_
    show Steps p.tables e below (T7.setTop (mkF m 30 #[.val (.ref a1), .val (.long (own_m1 (w + (-7046029254386353131 : Int64)))), .second] [(.long (own_m1 (w + (-7046029254386353131 : Int64)))), (.long (own_m1 (w + (-7046029254386353131 : Int64))))])) _
    refine XS.bipush X7.here hx rfl (hb hby d5_30) ?_
    show Steps p.tables e below (T7.setTop (mkF m 32 #[.val (.ref a1), .val (.long (own_m1 (w + (-7046029254386353131 : Int64)))), .second] [(.int (27 : Int32)), (.long (own_m1 (w + (-7046029254386353131 : Int64)))), (.long (own_m1 (w + (-7046029254386353131 : Int64))))])) _
    refine XS.lushr X7.here hx rfl (hb hby d5_32) rfl ?_
    show Steps p.tables e below (T7.setTop (mkF m 33 #[.val (.ref a1), .val (.long (own_m1 (w + (-7046029254386353131 : Int64)))), .second] [(.long (((own_m1 (w + (-7046029254386353131 : Int64))).toUInt64 >>> ((27 : Int32) &&& 0x3f).toInt64.toUInt64).toInt64)), (.long (own_m1 (w + (-7046029254386353131 : Int64))))])) _
    refine XS.lxor X7.here hx rfl (hb hby d5_33) rfl ?_
    show Steps p.tables e below (T7.setTop (mkF m 34 #[.val (.ref a1), .val (.long (own_m1 (w + (-7046029254386353131 : Int64)))), .second] [(.long ((own_m1 (w + (-7046029254386353131 : Int64))) ^^^ (((own_m1 (w + (-7046029254386353131 : Int64))).toUInt64 >>> ((27 : Int32) &&& 0x3f).toInt64.toUInt64).toInt64)))])) _
    refine X7.ldc2Long hx hown (mvT hZ (hw _ (List.mem_of_getElem? (i := 29) rfl))) (g := (mkF m 34 #[.val (.ref a1), .val (.long (own_m1 (w + (-7046029254386353131 : Int64)))), .second] [(.long ((own_m1 (w + (-7046029254386353131 : Int64))) ^^^ (((own_m1 (w + (-7046029254386353131 : Int64))).toUInt64 >>> ((27 : Int32) &&& 0x3f).toInt64.toUInt64).toInt64)))])) rfl (hb hby d5_34) _ ?_
    show Steps p.tables e below (T7.setTop (mkF m 37 #[.val (.ref a1), .val (.long (own_m1 (w + (-7046029254386353131 : Int64)))), .second] [(.long (-7723592293110705685 : Int64)), (.long ((own_m1 (w + (-7046029254386353131 : Int64))) ^^^ (((own_m1 (w + (-7046029254386353131 : Int64))).toUInt64 >>> ((27 : Int32) &&& 0x3f).toInt64.toUInt64).toInt64)))])) _
    refine XS.lmul X7.here hx rfl (hb hby d5_37) rfl ?_
    show Steps p.tables e below (T7.setTop (mkF m 38 #[.val (.ref a1), .val (.long (own_m1 (w + (-7046029254386353131 : Int64)))), .second] [(.long (((own_m1 (w + (-7046029254386353131 : Int64))) ^^^ (((own_m1 (w + (-7046029254386353131 : Int64))).toUInt64 >>> ((27 : Int32) &&& 0x3f).toInt64.toUInt64).toInt64)) * (-7723592293110705685 : Int64)))])) _
    refine XS.lstoreN X7.here hx rfl (hb hby d5_38) rfl (l' := #[.val (.ref a1), .val (.long (own_m2 (own_m1 (w + (-7046029254386353131 : Int64))))), .second]) rfl ?_
    show Steps p.tables e below (T7.setTop (mkF m 39 #[.val (.ref a1), .val (.long (own_m2 (own_m1 (w + (-7046029254386353131 : Int64))))), .second] [])) _
    refine XS.lloadN X7.here hx rfl (hb hby d5_39) rfl ?_
    show Steps p.tables e below (T7.setTop (mkF m 40 #[.val (.ref a1), .val (.long (own_m2 (own_m1 (w + (-7046029254386353131 : Int64))))), .second] [(.long (own_m2 (own_m1 (w + (-7046029254386353131 : Int64)))))])) _
    refine XS.lloadN X7.here hx rfl (hb hby d5_40) rfl ?_
    show Steps p.tables e below (T7.setTop (mkF m 41 #[.val (.ref a1), .val (.long (own_m2 (own_m1 (w + (-7046029254386353131 : Int64))))), .second] [(.long (own_m2 (own_m1 (w + (-7046029254386353131 : Int64))))), (.long (own_m2 (own_m1 (w + (-7046029254386353131 : Int64)))))])) _
    refine XS.bipush X7.here hx rfl (hb hby d5_41) ?_
    show Steps p.tables e below (T7.setTop (mkF m 43 #[.val (.ref a1), .val (.long (own_m2 (own_m1 (w + (-7046029254386353131 : Int64))))), .second] [(.int (31 : Int32)), (.long (own_m2 (own_m1 (w + (-7046029254386353131 : Int64))))), (.long (own_m2 (own_m1 (w + (-7046029254386353131 : Int64)))))])) _
    refine XS.lushr X7.here hx rfl (hb hby d5_43) rfl ?_
    show Steps p.tables e below (T7.setTop (mkF m 44 #[.val (.ref a1), .val (.long (own_m2 (own_m1 (w + (-7046029254386353131 : Int64))))), .second] [(.long (((own_m2 (own_m1 (w + (-7046029254386353131 : Int64)))).toUInt64 >>> ((31 : Int32) &&& 0x3f).toInt64.toUInt64).toInt64)), (.long (own_m2 (own_m1 (w + (-7046029254386353131 : Int64)))))])) _
    refine XS.lxor X7.here hx rfl (hb hby d5_44) rfl ?_
    exact kz
  refine OG.step s8 ?_
  exact OG.retJ X7 hx hlk Bd.returns (hb hby d5_45) e7 ⟨rfl, N4, K4, fw4⟩ (by decide) (by decide)
def own_s (w : Int64) : Nat → Int64
  | 0 => w
  | n + 1 => own_s w n + (-7046029254386353131 : Int64)
def own_draw (w : Int64) (i : Nat) : Int64 := (((own_mix (own_s w (i + 1))).toUInt64 >>> ((1 : Int32) &&& 0x3f).toInt64.toUInt64).toInt64)
def own_lim (b : Int64) : Int64 := (9223372036854775807 : Int64) - ((9223372036854775807 : Int64) % b)
def own_bd (b : Int64) : Int64 := own_maxJ (1 : Int64) (b &&& (9223372036854775807 : Int64))
theorem own_o0 : (0 : Int64).toInt = 0 := by decide
theorem own_o1 : (1 : Int64).toInt = 1 := by decide
theorem own_oM : (9223372036854775807 : Int64).toInt = 9223372036854775807 := by decide
theorem own_bpos (b : Int64) : 0 < own_bd b := by
  have := own_o0; have := own_o1
  unfold own_bd own_maxJ; split
  · rename_i h; rw [Int64.lt_iff_toInt_lt] at *; omega
  · decide
theorem own_ne0 {b : Int64} (h : 0 < b) : ¬ b = (0 : Int64) := fun z => by rw [z] at h; exact absurd h (by decide)
theorem own_p {b : Int64} (h : 0 < b) : 0 < b.toInt := by rw [Int64.lt_iff_toInt_lt, own_o0] at h; exact h
theorem own_limv {b : Int64} (h : 0 < b) : (own_lim b).toInt = 9223372036854775807 - 9223372036854775807 % b.toInt := by
  have hp := own_p h
  have m : ((9223372036854775807 : Int64) % b).toInt = 9223372036854775807 % b.toInt := by
    rw [Int64.toInt_mod, own_oM, Int.tmod_eq_emod_of_nonneg (by decide)]
  have e := c_lsub (9223372036854775807 : Int64) ((9223372036854775807 : Int64) % b)
  have r := rng64 (own_lim b)
  have m1 := Int.emod_nonneg 9223372036854775807 (b := b.toInt) (by omega)
  have m2 : (9223372036854775807 : Int) % b.toInt ≤ 9223372036854775807 := by
    have e1 := Int.mul_ediv_add_emod 9223372036854775807 b.toInt
    have e2 : 0 ≤ b.toInt * (9223372036854775807 / b.toInt) := Int.mul_nonneg (by omega) (Int.ediv_nonneg (by decide) (by omega))
    omega
  have := own_oM
  unfold own_lim at *
  omega
theorem own_limpos {b : Int64} (h : 0 < b) : 0 < own_lim b := by
  have hp := own_p h
  have r := rng64 b
  have v := own_limv h
  have d := Int.emod_lt_of_pos 9223372036854775807 hp
  rw [Int64.lt_iff_toInt_lt, own_o0, v]
  by_cases q : b.toInt = 9223372036854775807
  · rw [q]; decide
  · omega
theorem own_dn (w : Int64) (i : Nat) : 0 ≤ (own_draw w i).toInt := by
  have e := c_lushr (own_mix (own_s w (i + 1))) (1 : Int32) 1 (by decide) (by decide)
  unfold own_draw
  rw [e]
  omega
theorem own_nn {d b : Int64} (hd : 0 ≤ d.toInt) (h : 0 < b) : ¬ d % b < (0 : Int64) := by
  have hp := own_p h
  rw [Int64.lt_iff_toInt_lt, own_o0, Int64.toInt_mod, Int.tmod_eq_emod_of_nonneg hd]
  have := Int.emod_nonneg d.toInt (b := b.toInt) (by omega)
  omega
theorem own_lb {d b : Int64} (hd : 0 ≤ d.toInt) (h : 0 < b) : d % b < b := by
  have hp := own_p h
  rw [Int64.lt_iff_toInt_lt, Int64.toInt_mod, Int.tmod_eq_emod_of_nonneg hd]
  exact Int.emod_lt_of_pos _ hp
theorem own_divv {d b : Int64} (hd : 0 ≤ d.toInt) (h : 0 < b) : (d / b).toInt = d.toInt / b.toInt :=
  (c_ldiv d b b.toInt rfl (fun q => by rw [q] at h; exact absurd h (by decide))).1 hd
theorem own_kept {d b : Int64} (hd : 0 ≤ d.toInt) (h : 0 < b) : (d / b) < ((9223372036854775807 : Int64) / b) ↔ d < own_lim b := by
  have hp := own_p h
  rw [Int64.lt_iff_toInt_lt, Int64.lt_iff_toInt_lt, own_divv hd h, own_divv (by rw [own_oM]; decide) h, own_limv h, own_oM]
  have e := Int.mul_ediv_add_emod 9223372036854775807 b.toInt
  have e' : (9223372036854775807 : Int) - 9223372036854775807 % b.toInt = (9223372036854775807 / b.toInt) * b.toInt := by rw [Int.mul_comm]; omega
  rw [e']
  exact Int.ediv_lt_iff_lt_mul hp
theorem own_at0 {w b : Int64} {i : Nat} (h1 : ∀ j, j < i → ¬ own_draw w j < own_lim b) (h2 : own_draw w i < own_lim b) (h : 0 < b) (k0 : (own_draw w 0 / b) < ((9223372036854775807 : Int64) / b)) : i = 0 := by
  have q := (own_kept (own_dn w 0) h).mp k0
  by_cases z : i = 0
  · exact z
  · exact absurd q (h1 0 (by omega))
theorem own_at1 {w b : Int64} {i : Nat} (h1 : ∀ j, j < i → ¬ own_draw w j < own_lim b) (h2 : own_draw w i < own_lim b) (h : 0 < b) (k0 : ¬ (own_draw w 0 / b) < ((9223372036854775807 : Int64) / b)) (k1 : (own_draw w 1 / b) < ((9223372036854775807 : Int64) / b)) : i = 1 := by
  have q0 := mt (own_kept (own_dn w 0) h).mpr k0
  have q := (own_kept (own_dn w 1) h).mp k1
  by_cases z : i = 1
  · exact z
  · by_cases y : i = 0
    · rw [y] at h2; exact absurd h2 q0
    · exact absurd q (h1 1 (by omega))
theorem own_at2 {w b : Int64} {i : Nat} (h1 : ∀ j, j < i → ¬ own_draw w j < own_lim b) (h2 : own_draw w i < own_lim b) (h : 0 < b) (k0 : ¬ (own_draw w 0 / b) < ((9223372036854775807 : Int64) / b)) (k1 : ¬ (own_draw w 1 / b) < ((9223372036854775807 : Int64) / b)) (k2 : (own_draw w 2 / b) < ((9223372036854775807 : Int64) / b)) : i = 2 := by
  have q0 := mt (own_kept (own_dn w 0) h).mpr k0
  have q1 := mt (own_kept (own_dn w 1) h).mpr k1
  have q := (own_kept (own_dn w 2) h).mp k2
  by_cases z : i = 2
  · exact z
  · by_cases y : i = 0
    · rw [y] at h2; exact absurd h2 q0
    · by_cases u : i = 1
      · rw [u] at h2; exact absurd h2 q1
      · exact absurd q (h1 2 (by omega))
theorem own_rem {w b : Int64} {i k : Nat} (h : 0 < b) (e : i = k) : own_draw w i % b = own_draw w k - ((own_draw w k / b) * b) := by
  rw [e]; exact (lrem_mod _ _).symm
theorem own_same0 {w : Int64} {i : Nat} (e : i = 0) : own_mix (own_s w (i + 1) + (-7046029254386353131 : Int64)) = own_mix ((w + (-7046029254386353131 : Int64)) + (-7046029254386353131 : Int64)) := by rw [e]; rfl
theorem own_same1 {w : Int64} {i : Nat} (e : i = 1) : own_mix (own_s w (i + 1) + (-7046029254386353131 : Int64)) = own_mix (((w + (-7046029254386353131 : Int64)) + (-7046029254386353131 : Int64)) + (-7046029254386353131 : Int64)) := by rw [e]; rfl
theorem own_same2 {w : Int64} {i : Nat} (e : i = 2) : own_mix (own_s w (i + 1) + (-7046029254386353131 : Int64)) = own_mix ((((w + (-7046029254386353131 : Int64)) + (-7046029254386353131 : Int64)) + (-7046029254386353131 : Int64)) + (-7046029254386353131 : Int64)) := by rw [e]; rfl
theorem own_sv (w : Int64) (n : Nat) : own_s w n = w + Int64.ofNat n * (-7046029254386353131 : Int64) := by
  induction n with
  | zero => show w = w + 0 * _; rw [Int64.zero_mul, Int64.add_zero]
  | succ n ih =>
    show own_s w n + _ = _
    rw [ih, Int64.ofNat_add, Int64.add_mul, Int64.add_assoc]
    congr 2
theorem own_onat (x : Int64) : Int64.ofNat x.toBitVec.toNat = x := by
  apply Int64.toBitVec_inj.mp
  show BitVec.ofNat 64 x.toBitVec.toNat = x.toBitVec
  simp
theorem own_ex (w L : Int64) (h : 0 < L) : ∃ K, own_draw w K < L := by
  refine ⟨(-w * (-1018231460777725123 : Int64)).toBitVec.toNat + (2 ^ 64 - 1), ?_⟩
  have e : own_s w ((-w * (-1018231460777725123 : Int64)).toBitVec.toNat + (2 ^ 64 - 1) + 1) = 0 := by
    rw [own_sv, Nat.add_assoc]
    have e1 : (2 ^ 64 - 1 + 1 : Nat) = 2 ^ 64 := by decide
    rw [e1, Int64.ofNat_add]
    have e2 : Int64.ofNat (2 ^ 64) = 0 := by decide
    have e3 : Int64.ofNat (-w * (-1018231460777725123 : Int64)).toBitVec.toNat = -w * (-1018231460777725123 : Int64) := own_onat _
    have e4 : (-1018231460777725123 : Int64) * (-7046029254386353131 : Int64) = 1 := by decide
    rw [e2, e3, Int64.add_zero, Int64.mul_assoc, e4, Int64.mul_one, Int64.add_right_neg]
  unfold own_draw
  rw [e]
  have z : ((own_mix 0).toUInt64 >>> ((1 : Int32) &&& 0x3f).toInt64.toUInt64).toInt64 = 0 := by decide
  rw [z]
  exact h
theorem own_less {w L : Int64} {f i K : Nat} (hf : K - i = f) (hi : i ≤ K) (hK : own_draw w K < L) (h : ¬ own_draw w i < L) : K - (i + 1) < f := by
  have : i ≠ K := fun z => by rw [z] at h; exact h hK
  omega
theorem own_nextle {w L : Int64} {i K : Nat} (hi : i ≤ K) (hK : own_draw w K < L) (h : ¬ own_draw w i < L) : i + 1 ≤ K := by
  have : i ≠ K := fun z => by rw [z] at h; exact h hK
  omega
theorem own_nextno {w L : Int64} {i : Nat} (hno : ∀ j, j < i → ¬ own_draw w j < L) (h : ¬ own_draw w i < L) : ∀ j, j < i + 1 → ¬ own_draw w j < L := fun j hj => by
  by_cases z : j = i
  · rw [z]; exact h
  · exact hno j (by omega)

theorem d6_0 : decode method_3_code 0 = .ok (.lload_n 0, 1) := by decide +kernel
theorem d6_1 : decode method_3_code 1 = .ok (.lload_n 2, 1) := by decide +kernel
theorem d6_2 : decode method_3_code 2 = .ok (.ldiv, 1) := by decide +kernel
theorem d6_3 : decode method_3_code 3 = .ok (.lload 4, 2) := by decide +kernel
theorem d6_5 : decode method_3_code 5 = .ok (.lcmp, 1) := by decide +kernel
theorem d6_6 : decode method_3_code 6 = .ok (.ifCond .ge 7, 3) := by decide +kernel
theorem d6_9 : decode method_3_code 9 = .ok (.iconst 1, 1) := by decide +kernel
theorem d6_10 : decode method_3_code 10 = .ok (.goto 4, 3) := by decide +kernel
theorem d6_13 : decode method_3_code 13 = .ok (.iconst 0, 1) := by decide +kernel
theorem d6_14 : decode method_3_code 14 = .ok (.ireturn, 1) := by decide +kernel
theorem pn_com_example_manyflow_manyflow_simulate_SeededRandomBelowPinLaw : plainName "com/example/manyflow/manyflow/simulate/SeededRandomBelowPinLaw" = true := by first | (simp [plainName, overriddenIn]; done) | decide +kernel
theorem ef_6 (m : MethodId) (x0 : Int64) (x1 : Int64) (x2 : Int64) : entryFrame m #[(.long x0), (.long x1), (.long x2)] 6 = mkF m 0 #[.val (.long x0), .second, .val (.long x1), .second, .val (.long x2), .second] [] := by first | (simp [entryFrame, mkF, argsToLocals, Value.category]; done) | rfl
def Q6 (Z : State) (q0 : Int64) (q1 : Int64) (q2 : Int64) (h0 : Heap) (n0 : Nat) (v : Option Value) (h : Heap) (L : List Loc) : Prop := (v = some (.int (bI ((q0 / q1) < q2)))) ∧ (Fr n0 L) ∧ (h = h0)
abbrev rom_6 : Room := { frames := 0, cells := 0, slots := 0, locals := 0 }
set_option maxRecDepth 65536 in
set_option maxHeartbeats 40000000 in
theorem rm6 (l : Launch) (Z : State) (a0 : Array Value) (hw : ∀ d ∈ tables_1, d.before a0 Z = true) (ws : List Jvm.Cond) (q0 : Int64) (q1 : Int64) (q2 : Int64) (h0 : Heap) (n0 : Nat) (Z0 : n0 ≤ h0.size) (hnz : ¬ q1 = (0 : Int64)) :
    MetFree l (⟨"com/example/manyflow/manyflow/simulate/SeededRandomBelowPinLaw", "kept", "(JJJ)Z"⟩ : MethodName) (head1 (Jvm.Cond.code (⟨"com/example/manyflow/manyflow/simulate/SeededRandomBelowPinLaw", "kept", "(JJJ)Z"⟩ : MethodName) method_3_code 6 (some .boolean) :: ws) rom_6) (fun a U => a = #[(.long q0), (.long q1), (.long q2)] ∧ Z.Warmed39 U.vm ∧ U.heap = h0) (fun _ _ _ _ _ => True) (fun _ U o U' => ∃ v L, o = .returned v ∧ Q6 Z q0 q1 q2 h0 n0 v U'.heap L ∧ FrameEnd U o U' L rom_6.cells rom_6.slots) := by
  refine MetFree.of_bodySF (plainFor_of_name pn_com_example_manyflow_manyflow_simulate_SeededRandomBelowPinLaw) hisR ?_
  intro p e s m args below meth c s₁ Bd hml0 hP hK
  obtain ⟨rfl, hZ, hh⟩ := hP
  have hx := Bd.exec
  have hby := Bd.bytes
  have hlk := Bd.notSynchronized
  have hml : c.maxLocals = 6 := hml0
  have hown : s.vm.findClass "com/example/manyflow/manyflow/simulate/SeededRandomBelowPinLaw" = some m.cls := findClass_of_methodNamed Bd.named
  have hnm := (name_of_methodNamed Bd.named Bd.method).1
  have X0 : Stand p l e rom_6 s m #[(.long q0), (.long q1), (.long q2)] below meth c s₁ [] 0 0 := Stand.of_body Bd
  have e0 : s₁.heap = h0 := by rw [← hh, Bd.state]; rfl
  have N0 := Fr.nil n0
  have K0 : Keep h0 h0 [] := Keep.refl _ _
  refine (?_ : OG p e below s (Q6 Z q0 q1 q2 h0 n0) rom_6.cells rom_6.slots _)
  rw [ef_6]
  have s1 : ∀ tz, Steps p.tables e below (s₁.setTop (mkF m 14 #[.val (.long q0), .second, .val (.long q1), .second, .val (.long q2), .second] [(.int (bI ((q0 / q1) < q2)))])) tz → Steps p.tables e below (s₁.setTop (mkF m 0 #[.val (.long q0), .second, .val (.long q1), .second, .val (.long q2), .second] [])) tz := by
    intro tz kz
    refine XS.lloadN X0.here hx rfl (hb hby d6_0) rfl ?_
    show Steps p.tables e below (s₁.setTop (mkF m 1 #[.val (.long q0), .second, .val (.long q1), .second, .val (.long q2), .second] [(.long q0)])) _
    refine XS.lloadN X0.here hx rfl (hb hby d6_1) rfl ?_
    show Steps p.tables e below (s₁.setTop (mkF m 2 #[.val (.long q0), .second, .val (.long q1), .second, .val (.long q2), .second] [(.long q1), (.long q0)])) _
    refine XS.ldiv X0.here hx rfl (hb hby d6_2) rfl hnz ?_
    show Steps p.tables e below (s₁.setTop (mkF m 3 #[.val (.long q0), .second, .val (.long q1), .second, .val (.long q2), .second] [(.long (q0 / q1))])) _
    refine XS.lload X0.here hx rfl (hb hby d6_3) rfl ?_
    show Steps p.tables e below (s₁.setTop (mkF m 5 #[.val (.long q0), .second, .val (.long q1), .second, .val (.long q2), .second] [(.long q2), (.long (q0 / q1))])) _
    refine XS.lcmp X0.here hx rfl (hb hby d6_5) rfl ?_
    show Steps p.tables e below (s₁.setTop (mkF m 6 #[.val (.long q0), .second, .val (.long q1), .second, .val (.long q2), .second] [(.int (lcmpW (q0 / q1) q2))])) _
    by_cases hm6 : (q0 / q1) < q2
    · refine XS.ifNo X0.here hx rfl (hb hby d6_6) rfl ((if0 _ _).trans (tlt ((lw_lt (q0 / q1) q2).mpr hm6)).2.1) ?_
      show Steps p.tables e below (s₁.setTop (mkF m 9 #[.val (.long q0), .second, .val (.long q1), .second, .val (.long q2), .second] [])) _
      refine XS.iconst X0.here hx rfl (hb hby d6_9) ?_
      show Steps p.tables e below (s₁.setTop (mkF m 10 #[.val (.long q0), .second, .val (.long q1), .second, .val (.long q2), .second] [(.int (1 : Int32))])) _
      refine XS.goto X0.here hx rfl (pc0 := 10) (pc' := 14) rfl (hb hby d6_10) (by decide) (by decide) ?_
      show Steps p.tables e below (s₁.setTop (mkF m 14 #[.val (.long q0), .second, .val (.long q1), .second, .val (.long q2), .second] [(.int (1 : Int32))])) _
      rw [show (bI ((q0 / q1) < q2)) = (1 : Int32) from bI_pos (P := (q0 / q1) < q2) hm6] at kz
      exact kz
    · refine XS.ifYes X0.here hx rfl (pc0 := 6) (pc' := 13) rfl (hb hby d6_6) rfl ((if0 _ _).trans (flt (mt (lw_lt (q0 / q1) q2).mp hm6)).2.1) (by decide) (by decide) ?_
      show Steps p.tables e below (s₁.setTop (mkF m 13 #[.val (.long q0), .second, .val (.long q1), .second, .val (.long q2), .second] [])) _
      refine XS.iconst X0.here hx rfl (hb hby d6_13) ?_
      show Steps p.tables e below (s₁.setTop (mkF m 14 #[.val (.long q0), .second, .val (.long q1), .second, .val (.long q2), .second] [(.int (0 : Int32))])) _
      rw [show (bI ((q0 / q1) < q2)) = (0 : Int32) from bI_neg (P := (q0 / q1) < q2) hm6] at kz
      exact kz
  refine OG.step s1 ?_
  exact OG.retZ X0 hx hlk Bd.returns (hb hby d6_14) (nar_bI _) e0 ⟨rfl, N0, rfl⟩ (by decide) (by decide)
theorem d7_0 : decode method_4_code 0 = .ok (.lload_n 0, 1) := by decide +kernel
theorem d7_1 : decode method_4_code 1 = .ok (.lload_n 0, 1) := by decide +kernel
theorem d7_2 : decode method_4_code 2 = .ok (.lload_n 2, 1) := by decide +kernel
theorem d7_3 : decode method_4_code 3 = .ok (.ldiv, 1) := by decide +kernel
theorem d7_4 : decode method_4_code 4 = .ok (.lload_n 2, 1) := by decide +kernel
theorem d7_5 : decode method_4_code 5 = .ok (.lmul, 1) := by decide +kernel
theorem d7_6 : decode method_4_code 6 = .ok (.lsub, 1) := by decide +kernel
theorem d7_7 : decode method_4_code 7 = .ok (.lreturn, 1) := by decide +kernel
theorem ef_7 (m : MethodId) (x0 : Int64) (x1 : Int64) : entryFrame m #[(.long x0), (.long x1)] 4 = mkF m 0 #[.val (.long x0), .second, .val (.long x1), .second] [] := by first | (simp [entryFrame, mkF, argsToLocals, Value.category]; done) | rfl
def Q7 (Z : State) (q0 : Int64) (q1 : Int64) (h0 : Heap) (n0 : Nat) (v : Option Value) (h : Heap) (L : List Loc) : Prop := (v = some (.long (q0 - ((q0 / q1) * q1)))) ∧ (Fr n0 L) ∧ (h = h0)
abbrev rom_7 : Room := { frames := 0, cells := 0, slots := 0, locals := 0 }
set_option maxRecDepth 65536 in
set_option maxHeartbeats 40000000 in
theorem rm7 (l : Launch) (Z : State) (a0 : Array Value) (hw : ∀ d ∈ tables_1, d.before a0 Z = true) (ws : List Jvm.Cond) (q0 : Int64) (q1 : Int64) (h0 : Heap) (n0 : Nat) (Z0 : n0 ≤ h0.size) (hnz : ¬ q1 = (0 : Int64)) :
    MetFree l (⟨"com/example/manyflow/manyflow/simulate/SeededRandomBelowPinLaw", "rem", "(JJ)J"⟩ : MethodName) (head1 (Jvm.Cond.code (⟨"com/example/manyflow/manyflow/simulate/SeededRandomBelowPinLaw", "rem", "(JJ)J"⟩ : MethodName) method_4_code 4 (some .long) :: ws) rom_7) (fun a U => a = #[(.long q0), (.long q1)] ∧ Z.Warmed39 U.vm ∧ U.heap = h0) (fun _ _ _ _ _ => True) (fun _ U o U' => ∃ v L, o = .returned v ∧ Q7 Z q0 q1 h0 n0 v U'.heap L ∧ FrameEnd U o U' L rom_7.cells rom_7.slots) := by
  refine MetFree.of_bodySF (plainFor_of_name pn_com_example_manyflow_manyflow_simulate_SeededRandomBelowPinLaw) hisR ?_
  intro p e s m args below meth c s₁ Bd hml0 hP hK
  obtain ⟨rfl, hZ, hh⟩ := hP
  have hx := Bd.exec
  have hby := Bd.bytes
  have hlk := Bd.notSynchronized
  have hml : c.maxLocals = 4 := hml0
  have hown : s.vm.findClass "com/example/manyflow/manyflow/simulate/SeededRandomBelowPinLaw" = some m.cls := findClass_of_methodNamed Bd.named
  have hnm := (name_of_methodNamed Bd.named Bd.method).1
  have X0 : Stand p l e rom_7 s m #[(.long q0), (.long q1)] below meth c s₁ [] 0 0 := Stand.of_body Bd
  have e0 : s₁.heap = h0 := by rw [← hh, Bd.state]; rfl
  have N0 := Fr.nil n0
  have K0 : Keep h0 h0 [] := Keep.refl _ _
  refine (?_ : OG p e below s (Q7 Z q0 q1 h0 n0) rom_7.cells rom_7.slots _)
  rw [ef_7]
  have s1 : ∀ tz, Steps p.tables e below (s₁.setTop (mkF m 7 #[.val (.long q0), .second, .val (.long q1), .second] [(.long (q0 - ((q0 / q1) * q1)))])) tz → Steps p.tables e below (s₁.setTop (mkF m 0 #[.val (.long q0), .second, .val (.long q1), .second] [])) tz := by
    intro tz kz
    refine XS.lloadN X0.here hx rfl (hb hby d7_0) rfl ?_
    show Steps p.tables e below (s₁.setTop (mkF m 1 #[.val (.long q0), .second, .val (.long q1), .second] [(.long q0)])) _
    refine XS.lloadN X0.here hx rfl (hb hby d7_1) rfl ?_
    show Steps p.tables e below (s₁.setTop (mkF m 2 #[.val (.long q0), .second, .val (.long q1), .second] [(.long q0), (.long q0)])) _
    refine XS.lloadN X0.here hx rfl (hb hby d7_2) rfl ?_
    show Steps p.tables e below (s₁.setTop (mkF m 3 #[.val (.long q0), .second, .val (.long q1), .second] [(.long q1), (.long q0), (.long q0)])) _
    refine XS.ldiv X0.here hx rfl (hb hby d7_3) rfl hnz ?_
    show Steps p.tables e below (s₁.setTop (mkF m 4 #[.val (.long q0), .second, .val (.long q1), .second] [(.long (q0 / q1)), (.long q0)])) _
    refine XS.lloadN X0.here hx rfl (hb hby d7_4) rfl ?_
    show Steps p.tables e below (s₁.setTop (mkF m 5 #[.val (.long q0), .second, .val (.long q1), .second] [(.long q1), (.long (q0 / q1)), (.long q0)])) _
    refine XS.lmul X0.here hx rfl (hb hby d7_5) rfl ?_
    show Steps p.tables e below (s₁.setTop (mkF m 6 #[.val (.long q0), .second, .val (.long q1), .second] [(.long ((q0 / q1) * q1)), (.long q0)])) _
    refine XS.lsub X0.here hx rfl (hb hby d7_6) rfl ?_
    exact kz
  refine OG.step s1 ?_
  exact OG.retJ X0 hx hlk Bd.returns (hb hby d7_7) e0 ⟨rfl, N0, rfl⟩ (by decide) (by decide)
theorem d4_0 : decode prog_63_method_3_code 0 = .ok (.ldc2_w 21, 3) := by decide +kernel
theorem d4_3 : decode prog_63_method_3_code 3 = .ok (.ldc2_w 21, 3) := by decide +kernel
theorem d4_6 : decode prog_63_method_3_code 6 = .ok (.lload_n 1, 1) := by decide +kernel
theorem d4_7 : decode prog_63_method_3_code 7 = .ok (.lrem, 1) := by decide +kernel
theorem d4_8 : decode prog_63_method_3_code 8 = .ok (.lsub, 1) := by decide +kernel
theorem d4_9 : decode prog_63_method_3_code 9 = .ok (.lstore_n 3, 1) := by decide +kernel
theorem d4_10 : decode prog_63_method_3_code 10 = .ok (.aload_n 0, 1) := by decide +kernel
theorem d4_11 : decode prog_63_method_3_code 11 = .ok (.invokevirtual 23, 3) := by decide +kernel
theorem d4_14 : decode prog_63_method_3_code 14 = .ok (.iconst 1, 1) := by decide +kernel
theorem d4_15 : decode prog_63_method_3_code 15 = .ok (.lushr, 1) := by decide +kernel
theorem d4_16 : decode prog_63_method_3_code 16 = .ok (.lstore 5, 2) := by decide +kernel
theorem d4_18 : decode prog_63_method_3_code 18 = .ok (.lload 5, 2) := by decide +kernel
theorem d4_20 : decode prog_63_method_3_code 20 = .ok (.lload_n 3, 1) := by decide +kernel
theorem d4_21 : decode prog_63_method_3_code 21 = .ok (.lcmp, 1) := by decide +kernel
theorem d4_22 : decode prog_63_method_3_code 22 = .ok (.ifCond .lt 14, 3) := by decide +kernel
theorem d4_25 : decode prog_63_method_3_code 25 = .ok (.aload_n 0, 1) := by decide +kernel
theorem d4_26 : decode prog_63_method_3_code 26 = .ok (.invokevirtual 23, 3) := by decide +kernel
theorem d4_29 : decode prog_63_method_3_code 29 = .ok (.iconst 1, 1) := by decide +kernel
theorem d4_30 : decode prog_63_method_3_code 30 = .ok (.lushr, 1) := by decide +kernel
theorem d4_31 : decode prog_63_method_3_code 31 = .ok (.lstore 5, 2) := by decide +kernel
theorem d4_33 : decode prog_63_method_3_code 33 = .ok (.goto (-15), 3) := by decide +kernel
theorem d4_36 : decode prog_63_method_3_code 36 = .ok (.lload 5, 2) := by decide +kernel
theorem d4_38 : decode prog_63_method_3_code 38 = .ok (.lload_n 1, 1) := by decide +kernel
theorem d4_39 : decode prog_63_method_3_code 39 = .ok (.lrem, 1) := by decide +kernel
theorem d4_40 : decode prog_63_method_3_code 40 = .ok (.lreturn, 1) := by decide +kernel
theorem ef_4 (m : MethodId) (x0 : Addr) (x1 : Int64) : entryFrame m #[(.ref x0), (.long x1)] 7 = mkF m 0 #[.val (.ref x0), .val (.long x1), .second, .unset, .unset, .unset, .unset] [] := by first | (simp [entryFrame, mkF, argsToLocals, Value.category]; done) | rfl
def Q4 (Z : State) (a1 : Addr) (q1 : Int64) (w : Int64) (h0 : Heap) (n0 : Nat) (v : Option Value) (h : Heap) (L : List Loc) : Prop := ∃ (i : Nat), (v = some (.long ((own_draw w i) % q1))) ∧ (Fr n0 L) ∧ (Keep h0 h [a1]) ∧ (Fld Z h a1 "com/example/manyflow/manyflow/simulate/SeededRandom" "state" "J" (.long (own_s w (i + 1)))) ∧ (∀ j, j < i → ¬ own_draw w j < (own_lim q1)) ∧ (own_draw w i < (own_lim q1))
theorem pd___J : parseMethodDescriptor "()J" = some ⟨[], some .long⟩ := by decide +kernel
abbrev rom_4 : Room := { frames := 1, cells := 0, slots := 0, locals := 14 }
set_option maxRecDepth 65536 in
set_option maxHeartbeats 40000000 in
theorem rm4 (l : Launch) (Z : State) (a0 : Array Value) (hw : ∀ d ∈ tables_1, d.before a0 Z = true) (ws : List Jvm.Cond) (a1 : Addr) (q1 : Int64) (w : Int64) (h0 : Heap) (n0 : Nat) (Z0 : n0 ≤ h0.size) (F0_a1 : Exa Z h0 a1 "com/example/manyflow/manyflow/simulate/SeededRandom") (F1_a1_state : Fld Z h0 a1 "com/example/manyflow/manyflow/simulate/SeededRandom" "state" "J" (.long w)) (g_a1 : n0 ≤ a1) (hbp : 0 < q1) :
    MetFree l (⟨"com/example/manyflow/manyflow/simulate/SeededRandom", "below", "(J)J"⟩ : MethodName) (head1 (Jvm.Cond.code (⟨"com/example/manyflow/manyflow/simulate/SeededRandom", "below", "(J)J"⟩ : MethodName) prog_63_method_3_code 7 (some .long) :: ws) rom_4) (fun a U => a = #[(.ref a1), (.long q1)] ∧ Z.Warmed39 U.vm ∧ U.heap = h0) (fun _ _ _ _ _ => True) (fun _ U o U' => ∃ v L, o = .returned v ∧ Q4 Z a1 q1 w h0 n0 v U'.heap L ∧ FrameEnd U o U' L rom_4.cells rom_4.slots) := by
  refine MetFree.of_bodySF (plainFor_of_name pn_com_example_manyflow_manyflow_simulate_SeededRandom) hisR ?_
  intro p e s m args below meth c s₁ Bd hml0 hP hK
  obtain ⟨rfl, hZ, hh⟩ := hP
  have hx := Bd.exec
  have hby := Bd.bytes
  have hlk := Bd.notSynchronized
  have hml : c.maxLocals = 7 := hml0
  have hown : s.vm.findClass "com/example/manyflow/manyflow/simulate/SeededRandom" = some m.cls := findClass_of_methodNamed Bd.named
  have hnm := (name_of_methodNamed Bd.named Bd.method).1
  have X0 : Stand p l e rom_4 s m #[(.ref a1), (.long q1)] below meth c s₁ [] 0 0 := Stand.of_body Bd
  have e0 : s₁.heap = h0 := by rw [← hh, Bd.state]; rfl
  have N0 := Fr.nil n0
  have K0 : Keep h0 h0 [a1] := Keep.refl _ _
  refine (?_ : OG p e below s (Q4 Z a1 q1 w h0 n0) rom_4.cells rom_4.slots _)
  rw [ef_4]
  have s1 : ∀ tz, Steps p.tables e below (s₁.setTop (mkF m 11 #[.val (.ref a1), .val (.long q1), .second, .val (.long (own_lim q1)), .second, .unset, .unset] [(.ref a1)])) tz → Steps p.tables e below (s₁.setTop (mkF m 0 #[.val (.ref a1), .val (.long q1), .second, .unset, .unset, .unset, .unset] [])) tz := by
    intro tz kz
    refine X0.ldc2Long hx hown (mvT hZ (hw _ (List.mem_of_getElem? (i := 21) rfl))) (g := (mkF m 0 #[.val (.ref a1), .val (.long q1), .second, .unset, .unset, .unset, .unset] [])) rfl (hb hby d4_0) _ ?_
    show Steps p.tables e below (s₁.setTop (mkF m 3 #[.val (.ref a1), .val (.long q1), .second, .unset, .unset, .unset, .unset] [(.long (9223372036854775807 : Int64))])) _
    refine X0.ldc2Long hx hown (mvT hZ (hw _ (List.mem_of_getElem? (i := 21) rfl))) (g := (mkF m 3 #[.val (.ref a1), .val (.long q1), .second, .unset, .unset, .unset, .unset] [(.long (9223372036854775807 : Int64))])) rfl (hb hby d4_3) _ ?_
    show Steps p.tables e below (s₁.setTop (mkF m 6 #[.val (.ref a1), .val (.long q1), .second, .unset, .unset, .unset, .unset] [(.long (9223372036854775807 : Int64)), (.long (9223372036854775807 : Int64))])) _
    refine XS.lloadN X0.here hx rfl (hb hby d4_6) rfl ?_
    show Steps p.tables e below (s₁.setTop (mkF m 7 #[.val (.ref a1), .val (.long q1), .second, .unset, .unset, .unset, .unset] [(.long q1), (.long (9223372036854775807 : Int64)), (.long (9223372036854775807 : Int64))])) _
    refine lremM X0.here hx rfl (hb hby d4_7) rfl (own_ne0 hbp) ?_
    show Steps p.tables e below (s₁.setTop (mkF m 8 #[.val (.ref a1), .val (.long q1), .second, .unset, .unset, .unset, .unset] [(.long ((9223372036854775807 : Int64) % q1)), (.long (9223372036854775807 : Int64))])) _
    refine XS.lsub X0.here hx rfl (hb hby d4_8) rfl ?_
    show Steps p.tables e below (s₁.setTop (mkF m 9 #[.val (.ref a1), .val (.long q1), .second, .unset, .unset, .unset, .unset] [(.long ((9223372036854775807 : Int64) - ((9223372036854775807 : Int64) % q1)))])) _
    refine XS.lstoreN X0.here hx rfl (hb hby d4_9) rfl (l' := #[.val (.ref a1), .val (.long q1), .second, .val (.long (own_lim q1)), .second, .unset, .unset]) rfl ?_
    show Steps p.tables e below (s₁.setTop (mkF m 10 #[.val (.ref a1), .val (.long q1), .second, .val (.long (own_lim q1)), .second, .unset, .unset] [])) _
    refine XS.aloadN X0.here hx rfl (hb hby d4_10) rfl rfl ?_
    exact kz
  refine OG.step s1 ?_
  obtain ⟨cq2, kq2, q2a, q2b, q2c⟩ := isOf hZ e0 F0_a1
  obtain ⟨_, _, ⟨T2, L2, k2, n2⟩, -, X2, ⟨Lc2, hQ2, l2, y2, z2⟩, st2⟩ := X0.virtualBack hx (y := (⟨"com/example/manyflow/manyflow/simulate/SeededRandom", "nextLong", "()J"⟩ : MethodName)) (z := (⟨"com/example/manyflow/manyflow/simulate/SeededRandom", "nextLong", "()J"⟩ : MethodName)) hown (mvT hZ (hw _ (List.mem_of_getElem? (i := 22) rfl))) (mvT hZ (hw _ (List.mem_of_getElem? (i := 23) rfl))) (notFace_of_selects (args := #[]) (mvT hZ (hw _ (List.mem_of_getElem? (i := 25) rfl)))) (mvT hZ (hw _ (List.mem_of_getElem? (i := 25) rfl))) (mvT hZ (hw _ (List.mem_of_getElem? (i := 24) rfl))) (by decide) (backOf (W := 0) (rm5 l Z a0 hw [] a1 w h0 n0 (Nat.le_trans Z0 K0.1) F0_a1 F1_a1_state g_a1) hZ (hw _ (List.mem_of_getElem? (i := 26) rfl)) (hw _ (List.mem_of_getElem? (i := 7) rfl)) (by decide) (by decide)) q2a q2c (g := (mkF m 11 #[.val (.ref a1), .val (.long q1), .second, .val (.long (own_lim q1)), .second, .unset, .unset] [(.ref a1)])) rfl (by rw [hml]; rfl) (Steps.refl _) (argsL := []) (rest := []) (lenOf pd___J rfl) rfl (by show 2 * 0 + _ ≤ _; exact Nat.le_of_eq rfl) (hb hby d4_11) (fun _ _ => ⟨rfl, e0, (by decide : 0 + 0 ≤ _), (by decide : 0 + 0 ≤ _)⟩)
  dsimp only [Pt.U, Pt.locs, Pt.cells, Pt.slots] at X2 l2 y2 z2 st2 hQ2
  subst l2 y2 z2
  obtain ⟨rfl, N2q, Kc2, p2_0⟩ := hQ2
  have N2 := Fr.app N0 N2q
  refine OG.step (fun tz kz => st2.trans kz) ?_
  have f3 := F0_a1.keep Kc2
  have K2 := K0.trans Kc2 (allS (Or.inl (List.mem_of_getElem? (i := 0) rfl)) all0)
  show OG _ _ _ _ _ _ _ (T2.setTop (mkF m 14 #[.val (.ref a1), .val (.long q1), .second, .val (.long (own_lim q1)), .second, .unset, .unset] [(.long (own_mix (w + (-7046029254386353131 : Int64))))]))
  have s5 : ∀ tz, Steps p.tables e below (T2.setTop (mkF m 18 #[.val (.ref a1), .val (.long q1), .second, .val (.long (own_lim q1)), .second, .val (.long (own_draw w 0)), .second] [])) tz → Steps p.tables e below (T2.setTop (mkF m 14 #[.val (.ref a1), .val (.long q1), .second, .val (.long (own_lim q1)), .second, .unset, .unset] [(.long (own_mix (w + (-7046029254386353131 : Int64))))])) tz := by
    intro tz kz
    refine XS.iconst X2.here hx rfl (hb hby d4_14) ?_
    show Steps p.tables e below (T2.setTop (mkF m 15 #[.val (.ref a1), .val (.long q1), .second, .val (.long (own_lim q1)), .second, .unset, .unset] [(.int (1 : Int32)), (.long (own_mix (w + (-7046029254386353131 : Int64))))])) _
    refine XS.lushr X2.here hx rfl (hb hby d4_15) rfl ?_
    show Steps p.tables e below (T2.setTop (mkF m 16 #[.val (.ref a1), .val (.long q1), .second, .val (.long (own_lim q1)), .second, .unset, .unset] [(.long (((own_mix (w + (-7046029254386353131 : Int64))).toUInt64 >>> ((1 : Int32) &&& 0x3f).toInt64.toUInt64).toInt64))])) _
    refine XS.lstore X2.here hx rfl (hb hby d4_16) rfl (l' := #[.val (.ref a1), .val (.long q1), .second, .val (.long (own_lim q1)), .second, .val (.long (own_draw w 0)), .second]) rfl ?_
    exact kz
  refine OG.step s5 ?_
  obtain ⟨K, hKK⟩ := own_ex w (own_lim q1) (own_limpos hbp)
  have J6 : ∀ (f : Nat) (i : Nat) (Hj6 : Heap) (Tj6 : State) (Lj6 : List Loc), Stand p l e rom_4 s m #[(.ref a1), (.long q1)] below meth c Tj6 Lj6 0 0 → Tj6.heap = Hj6 → Fr n0 Lj6 → (Keep h0 Hj6 [a1]) → (Exa Z Hj6 a1 "com/example/manyflow/manyflow/simulate/SeededRandom") → (Fld Z Hj6 a1 "com/example/manyflow/manyflow/simulate/SeededRandom" "state" "J" (.long (own_s w (i + 1)))) → (K - i = f) → (i ≤ K) → (∀ j, j < i → ¬ own_draw w j < (own_lim q1)) → OG p e below s (Q4 Z a1 q1 w h0 n0) rom_4.cells rom_4.slots (Tj6.setTop (mkF m 18 #[.val (.ref a1), .val (.long q1), .second, .val (.long (own_lim q1)), .second, .val (.long (own_draw w i)), .second] [])) := by
    intro f
    induction f using Nat.strongRecOn with
    | _ f ih =>
      intro i Hj6 Tj6 Lj6 Xj6 ej6 Nj6 Kj6 fj6_0 fj6_1 hf hiK hno
      have s7 : ∀ tz, Steps p.tables e below (Tj6.setTop (mkF m 22 #[.val (.ref a1), .val (.long q1), .second, .val (.long (own_lim q1)), .second, .val (.long (own_draw w i)), .second] [(.int (lcmpW (own_draw w i) (own_lim q1)))])) tz → Steps p.tables e below (Tj6.setTop (mkF m 18 #[.val (.ref a1), .val (.long q1), .second, .val (.long (own_lim q1)), .second, .val (.long (own_draw w i)), .second] [])) tz := by
        intro tz kz
        refine XS.lload Xj6.here hx rfl (hb hby d4_18) rfl ?_
        show Steps p.tables e below (Tj6.setTop (mkF m 20 #[.val (.ref a1), .val (.long q1), .second, .val (.long (own_lim q1)), .second, .val (.long (own_draw w i)), .second] [(.long (own_draw w i))])) _
        refine XS.lloadN Xj6.here hx rfl (hb hby d4_20) rfl ?_
        show Steps p.tables e below (Tj6.setTop (mkF m 21 #[.val (.ref a1), .val (.long q1), .second, .val (.long (own_lim q1)), .second, .val (.long (own_draw w i)), .second] [(.long (own_lim q1)), (.long (own_draw w i))])) _
        refine XS.lcmp Xj6.here hx rfl (hb hby d4_21) rfl ?_
        exact kz
      refine OG.step s7 ?_
      by_cases hc22 : (own_draw w i) < (own_lim q1)
      · have s8 : ∀ tz, Steps p.tables e below (Tj6.setTop (mkF m 40 #[.val (.ref a1), .val (.long q1), .second, .val (.long (own_lim q1)), .second, .val (.long (own_draw w i)), .second] [(.long ((own_draw w i) % q1))])) tz → Steps p.tables e below (Tj6.setTop (mkF m 22 #[.val (.ref a1), .val (.long q1), .second, .val (.long (own_lim q1)), .second, .val (.long (own_draw w i)), .second] [(.int (lcmpW (own_draw w i) (own_lim q1)))])) tz := by
          intro tz kz
          refine XS.ifYes Xj6.here hx rfl (pc0 := 22) (pc' := 36) rfl (hb hby d4_22) rfl ((if0 _ _).trans (tlt ((lw_lt (own_draw w i) (own_lim q1)).mpr hc22)).1) (by decide) (by decide) ?_
          show Steps p.tables e below (Tj6.setTop (mkF m 36 #[.val (.ref a1), .val (.long q1), .second, .val (.long (own_lim q1)), .second, .val (.long (own_draw w i)), .second] [])) _
          refine XS.lload Xj6.here hx rfl (hb hby d4_36) rfl ?_
          show Steps p.tables e below (Tj6.setTop (mkF m 38 #[.val (.ref a1), .val (.long q1), .second, .val (.long (own_lim q1)), .second, .val (.long (own_draw w i)), .second] [(.long (own_draw w i))])) _
          refine XS.lloadN Xj6.here hx rfl (hb hby d4_38) rfl ?_
          show Steps p.tables e below (Tj6.setTop (mkF m 39 #[.val (.ref a1), .val (.long q1), .second, .val (.long (own_lim q1)), .second, .val (.long (own_draw w i)), .second] [(.long q1), (.long (own_draw w i))])) _
          refine lremM Xj6.here hx rfl (hb hby d4_39) rfl (own_ne0 hbp) ?_
          exact kz
        refine OG.step s8 ?_
        exact OG.retJ Xj6 hx hlk Bd.returns (hb hby d4_40) ej6 ⟨i, rfl, Nj6, Kj6, fj6_1, hno, hc22⟩ (by decide) (by decide)
      · have s9 : ∀ tz, Steps p.tables e below (Tj6.setTop (mkF m 26 #[.val (.ref a1), .val (.long q1), .second, .val (.long (own_lim q1)), .second, .val (.long (own_draw w i)), .second] [(.ref a1)])) tz → Steps p.tables e below (Tj6.setTop (mkF m 22 #[.val (.ref a1), .val (.long q1), .second, .val (.long (own_lim q1)), .second, .val (.long (own_draw w i)), .second] [(.int (lcmpW (own_draw w i) (own_lim q1)))])) tz := by
          intro tz kz
          refine XS.ifNo Xj6.here hx rfl (hb hby d4_22) rfl ((if0 _ _).trans (flt (mt (lw_lt (own_draw w i) (own_lim q1)).mp hc22)).1) ?_
          show Steps p.tables e below (Tj6.setTop (mkF m 25 #[.val (.ref a1), .val (.long q1), .second, .val (.long (own_lim q1)), .second, .val (.long (own_draw w i)), .second] [])) _
          refine XS.aloadN Xj6.here hx rfl (hb hby d4_25) rfl rfl ?_
          exact kz
        refine OG.step s9 ?_
        obtain ⟨cq10, kq10, q10a, q10b, q10c⟩ := isOf hZ ej6 fj6_0
        obtain ⟨_, _, ⟨T10, L10, k10, n10⟩, -, X10, ⟨Lc10, hQ10, l10, y10, z10⟩, st10⟩ := Xj6.virtualBack hx (y := (⟨"com/example/manyflow/manyflow/simulate/SeededRandom", "nextLong", "()J"⟩ : MethodName)) (z := (⟨"com/example/manyflow/manyflow/simulate/SeededRandom", "nextLong", "()J"⟩ : MethodName)) hown (mvT hZ (hw _ (List.mem_of_getElem? (i := 22) rfl))) (mvT hZ (hw _ (List.mem_of_getElem? (i := 23) rfl))) (notFace_of_selects (args := #[]) (mvT hZ (hw _ (List.mem_of_getElem? (i := 25) rfl)))) (mvT hZ (hw _ (List.mem_of_getElem? (i := 25) rfl))) (mvT hZ (hw _ (List.mem_of_getElem? (i := 24) rfl))) (by decide) (backOf (W := 0) (rm5 l Z a0 hw [] a1 (own_s w (i + 1)) Hj6 n0 (Nat.le_trans Z0 Kj6.1) fj6_0 fj6_1 g_a1) hZ (hw _ (List.mem_of_getElem? (i := 26) rfl)) (hw _ (List.mem_of_getElem? (i := 7) rfl)) (by decide) (by decide)) q10a q10c (g := (mkF m 26 #[.val (.ref a1), .val (.long q1), .second, .val (.long (own_lim q1)), .second, .val (.long (own_draw w i)), .second] [(.ref a1)])) rfl (by rw [hml]; rfl) (Steps.refl _) (argsL := []) (rest := []) (lenOf pd___J rfl) rfl (by show 2 * 0 + _ ≤ _; exact Nat.le_of_eq rfl) (hb hby d4_26) (fun _ _ => ⟨rfl, ej6, (by decide : 0 + 0 ≤ _), (by decide : 0 + 0 ≤ _)⟩)
        dsimp only [Pt.U, Pt.locs, Pt.cells, Pt.slots] at X10 l10 y10 z10 st10 hQ10
        subst l10 y10 z10
        obtain ⟨rfl, N10q, Kc10, p10_0⟩ := hQ10
        have N10 := Fr.app Nj6 N10q
        refine OG.step (fun tz kz => st10.trans kz) ?_
        have f11 := fj6_0.keep Kc10
        have K10 := Kj6.trans Kc10 (allS (Or.inl (List.mem_of_getElem? (i := 0) rfl)) all0)
        show OG _ _ _ _ _ _ _ (T10.setTop (mkF m 29 #[.val (.ref a1), .val (.long q1), .second, .val (.long (own_lim q1)), .second, .val (.long (own_draw w i)), .second] [(.long (own_mix ((own_s w (i + 1)) + (-7046029254386353131 : Int64))))]))
        have s13 : ∀ tz, Steps p.tables e below (T10.setTop (mkF m 18 #[.val (.ref a1), .val (.long q1), .second, .val (.long (own_lim q1)), .second, .val (.long (own_draw w (i + 1))), .second] [])) tz → Steps p.tables e below (T10.setTop (mkF m 29 #[.val (.ref a1), .val (.long q1), .second, .val (.long (own_lim q1)), .second, .val (.long (own_draw w i)), .second] [(.long (own_mix ((own_s w (i + 1)) + (-7046029254386353131 : Int64))))])) tz := by
          intro tz kz
          refine XS.iconst X10.here hx rfl (hb hby d4_29) ?_
          show Steps p.tables e below (T10.setTop (mkF m 30 #[.val (.ref a1), .val (.long q1), .second, .val (.long (own_lim q1)), .second, .val (.long (own_draw w i)), .second] [(.int (1 : Int32)), (.long (own_mix ((own_s w (i + 1)) + (-7046029254386353131 : Int64))))])) _
          refine XS.lushr X10.here hx rfl (hb hby d4_30) rfl ?_
          show Steps p.tables e below (T10.setTop (mkF m 31 #[.val (.ref a1), .val (.long q1), .second, .val (.long (own_lim q1)), .second, .val (.long (own_draw w i)), .second] [(.long (((own_mix ((own_s w (i + 1)) + (-7046029254386353131 : Int64))).toUInt64 >>> ((1 : Int32) &&& 0x3f).toInt64.toUInt64).toInt64))])) _
          refine XS.lstore X10.here hx rfl (hb hby d4_31) rfl (l' := #[.val (.ref a1), .val (.long q1), .second, .val (.long (own_lim q1)), .second, .val (.long (own_draw w (i + 1))), .second]) rfl ?_
          show Steps p.tables e below (T10.setTop (mkF m 33 #[.val (.ref a1), .val (.long q1), .second, .val (.long (own_lim q1)), .second, .val (.long (own_draw w (i + 1))), .second] [])) _
          refine XS.goto X10.here hx rfl (pc0 := 33) (pc' := 18) rfl (hb hby d4_33) (by decide) (by decide) ?_
          exact kz
        refine OG.step s13 ?_
        exact ih (K - (i + 1)) (own_less hf hiK hKK hc22) (i + 1) _ _ _ X10 rfl N10 K10 f11 p10_0 rfl (own_nextle hiK hKK hc22) (own_nextno hno hc22)
  exact J6 K 0 _ _ _ X2 rfl N2 K2 f3 p2_0 rfl (Nat.zero_le _) (fun j hj => absurd hj (Nat.not_lt_zero _))
theorem ef_0 (m : MethodId) (x0 : Int64) (x1 : Int64) : entryFrame m #[(.long x0), (.long x1)] maxLocals = mkF m 0 #[.val (.long x0), .second, .val (.long x1), .second, .unset, .unset, .unset, .unset, .unset, .unset, .unset, .unset, .unset, .unset, .unset, .unset, .unset, .unset] [] := by first | (simp [entryFrame, mkF, argsToLocals, Value.category, maxLocals]; done) | rfl
def Q0 (Z : State) (q0 : Int64) (q1 : Int64) (h0 : Heap) (n0 : Nat) (v : Option Value) (h : Heap) (L : List Loc) : Prop := (v = some (.int (1 : Int32))) ∧ (Fr n0 L)
theorem pd__JJ_J : parseMethodDescriptor "(JJ)J" = some ⟨[.long, .long], some .long⟩ := by decide +kernel
theorem pd__J_V : parseMethodDescriptor "(J)V" = some ⟨[.long], none⟩ := by decide +kernel
theorem pd__J_J : parseMethodDescriptor "(J)J" = some ⟨[.long], some .long⟩ := by decide +kernel
theorem pd__JJJ_Z : parseMethodDescriptor "(JJJ)Z" = some ⟨[.long, .long, .long], some .boolean⟩ := by decide +kernel
set_option maxRecDepth 65536 in
set_option maxHeartbeats 40000000 in
theorem rm0 (l : Launch) (Z : State) (a0 : Array Value) (hw : ∀ d ∈ tables_1, d.before a0 Z = true) (ws : List Jvm.Cond) (q0 : Int64) (q1 : Int64) (h0 : Heap) (n0 : Nat) (Z0 : n0 ≤ h0.size) :
    MetFree l x (head1 (Jvm.Cond.code x code maxLocals ret :: ws) room_1) (fun a U => a = #[(.long q0), (.long q1)] ∧ Z.Warmed39 U.vm ∧ U.heap = h0) (fun _ _ _ _ _ => True) (fun _ U o U' => ∃ v L, o = .returned v ∧ Q0 Z q0 q1 h0 n0 v U'.heap L ∧ FrameEnd U o U' L room_1.cells room_1.slots) := by
  refine MetFree.of_bodySF (plainFor_of_name pn_com_example_manyflow_manyflow_simulate_SeededRandomBelowPinLaw) hisR ?_
  intro p e s m args below meth c s₁ Bd hml0 hP hK
  obtain ⟨rfl, hZ, hh⟩ := hP
  have hx := Bd.exec
  have hby := Bd.bytes
  have hlk := Bd.notSynchronized
  have hml : c.maxLocals = 18 := hml0
  have hown : s.vm.findClass "com/example/manyflow/manyflow/simulate/SeededRandomBelowPinLaw" = some m.cls := findClass_of_methodNamed Bd.named
  have hnm := (name_of_methodNamed Bd.named Bd.method).1
  have X0 : Stand p l e room_1 s m #[(.long q0), (.long q1)] below meth c s₁ [] 0 0 := Stand.of_body Bd
  have e0 : s₁.heap = h0 := by rw [← hh, Bd.state]; rfl
  have N0 := Fr.nil n0
  have K0 : Keep h0 h0 [] := Keep.refl _ _
  refine (?_ : OG p e below s (Q0 Z q0 q1 h0 n0) room_1.cells room_1.slots _)
  rw [ef_0]
  have s1 : ∀ tz, Steps p.tables e below (s₁.setTop (mkF m 6 #[.val (.long q0), .second, .val (.long q1), .second, .unset, .unset, .unset, .unset, .unset, .unset, .unset, .unset, .unset, .unset, .unset, .unset, .unset, .unset] [(.long (q1 &&& (9223372036854775807 : Int64))), (.long (1 : Int64))])) tz → Steps p.tables e below (s₁.setTop (mkF m 0 #[.val (.long q0), .second, .val (.long q1), .second, .unset, .unset, .unset, .unset, .unset, .unset, .unset, .unset, .unset, .unset, .unset, .unset, .unset, .unset] [])) tz := by
    intro tz kz
    refine XS.lconst X0.here hx rfl (hb hby at_0) ?_
    show Steps p.tables e below (s₁.setTop (mkF m 1 #[.val (.long q0), .second, .val (.long q1), .second, .unset, .unset, .unset, .unset, .unset, .unset, .unset, .unset, .unset, .unset, .unset, .unset, .unset, .unset] [(.long (1 : Int64))])) _
    refine XS.lloadN X0.here hx rfl (hb hby at_1) rfl ?_
    show Steps p.tables e below (s₁.setTop (mkF m 2 #[.val (.long q0), .second, .val (.long q1), .second, .unset, .unset, .unset, .unset, .unset, .unset, .unset, .unset, .unset, .unset, .unset, .unset, .unset, .unset] [(.long q1), (.long (1 : Int64))])) _
    refine X0.ldc2Long hx hown (mvT hZ (hw _ (List.mem_of_getElem? (i := 0) rfl))) (g := (mkF m 2 #[.val (.long q0), .second, .val (.long q1), .second, .unset, .unset, .unset, .unset, .unset, .unset, .unset, .unset, .unset, .unset, .unset, .unset, .unset, .unset] [(.long q1), (.long (1 : Int64))])) rfl (hb hby at_2) _ ?_
    show Steps p.tables e below (s₁.setTop (mkF m 5 #[.val (.long q0), .second, .val (.long q1), .second, .unset, .unset, .unset, .unset, .unset, .unset, .unset, .unset, .unset, .unset, .unset, .unset, .unset, .unset] [(.long (9223372036854775807 : Int64)), (.long q1), (.long (1 : Int64))])) _
    refine XS.land X0.here hx rfl (hb hby at_5) rfl ?_
    exact kz
  refine OG.step s1 ?_
  obtain ⟨_, _, ⟨T2, L2, k2, n2⟩, -, X2, ⟨Lc2, hQ2, l2, y2, z2⟩, st2⟩ := Jvm.LawKit.callS X0 hx (y := (⟨"java/lang/Math", "max", "(JJ)J"⟩ : MethodName)) hown (mvT hZ (hw _ (List.mem_of_getElem? (i := 1) rfl))) (mvT hZ (hw _ (List.mem_of_getElem? (i := 2) rfl))) (mvT hZ (hw _ (List.mem_of_getElem? (i := 3) rfl))) (mvT hZ (hw _ (List.mem_of_getElem? (i := 4) rfl))) (by decide) (backOf (W := 0) (rm1 l Z a0 hw [] (1 : Int64) (q1 &&& (9223372036854775807 : Int64)) h0 n0 (Nat.le_trans Z0 K0.1)) hZ (hw _ (List.mem_of_getElem? (i := 4) rfl)) (hw _ (List.mem_of_getElem? (i := 3) rfl)) (by decide) (by decide)) (g := (mkF m 6 #[.val (.long q0), .second, .val (.long q1), .second, .unset, .unset, .unset, .unset, .unset, .unset, .unset, .unset, .unset, .unset, .unset, .unset, .unset, .unset] [(.long (q1 &&& (9223372036854775807 : Int64))), (.long (1 : Int64))])) rfl (by rw [hml]; rfl) (argsL := [(.long (1 : Int64)), (.long (q1 &&& (9223372036854775807 : Int64)))]) (rest := []) (lenOf pd__JJ_J rfl) rfl (by show 2 * 0 + _ ≤ _; exact Nat.le_of_eq rfl) (hb hby at_6) (fun _ _ => ⟨rfl, e0, (by decide : 0 + 0 ≤ _), (by decide : 0 + 0 ≤ _)⟩)
  dsimp only [Pt.U, Pt.locs, Pt.cells, Pt.slots] at X2 l2 y2 z2 st2 hQ2
  subst l2 y2 z2
  obtain ⟨rfl, N2q, e2⟩ := hQ2
  have N2 := Fr.app N0 N2q
  refine OG.step st2 ?_
  show OG _ _ _ _ _ _ _ (T2.setTop (mkF m 9 #[.val (.long q0), .second, .val (.long q1), .second, .unset, .unset, .unset, .unset, .unset, .unset, .unset, .unset, .unset, .unset, .unset, .unset, .unset, .unset] [(.long (own_maxJ (1 : Int64) (q1 &&& (9223372036854775807 : Int64))))]))
  have s3 : ∀ tz, Steps p.tables e below (T2.setTop (mkF m 11 #[.val (.long q0), .second, .val (.long q1), .second, .val (.long (own_bd q1)), .second, .unset, .unset, .unset, .unset, .unset, .unset, .unset, .unset, .unset, .unset, .unset, .unset] [])) tz → Steps p.tables e below (T2.setTop (mkF m 9 #[.val (.long q0), .second, .val (.long q1), .second, .unset, .unset, .unset, .unset, .unset, .unset, .unset, .unset, .unset, .unset, .unset, .unset, .unset, .unset] [(.long (own_maxJ (1 : Int64) (q1 &&& (9223372036854775807 : Int64))))])) tz := by
    intro tz kz
    refine XS.lstore X2.here hx rfl (hb hby at_9) rfl (l' := #[.val (.long q0), .second, .val (.long q1), .second, .val (.long (own_bd q1)), .second, .unset, .unset, .unset, .unset, .unset, .unset, .unset, .unset, .unset, .unset, .unset, .unset]) rfl ?_
    exact kz
  refine OG.step s3 ?_
  obtain ⟨T4, h4, X4, e4, E4, A4, D4, -, st4⟩ := newO X2 hx hZ hown (hw _ (List.mem_of_getElem? (i := 5) rfl)) (hw _ (List.mem_of_getElem? (i := 6) rfl)) (hw _ (List.mem_of_getElem? (i := 7) rfl)) e2 (g := (mkF m 11 #[.val (.long q0), .second, .val (.long q1), .second, .val (.long (own_bd q1)), .second, .unset, .unset, .unset, .unset, .unset, .unset, .unset, .unset, .unset, .unset, .unset, .unset] [])) rfl (hb hby at_11) (by decide) (by decide)
  obtain ⟨b4, g4⟩ : ∃ z, z = h0.size := ⟨_, rfl⟩
  rw [← g4] at A4 D4 st4
  have sz4 : h0.size ≤ b4 := Nat.le_trans K0.1 (Nat.le_of_eq g4.symm)
  have ge4 : n0 ≤ b4 := Nat.le_trans Z0 sz4
  refine OG.step st4 ?_
  have F4_state : Fld Z h4 b4 "com/example/manyflow/manyflow/simulate/SeededRandom" "state" "J" (.long (0 : Int64)) := D4 (Or.inl (hw _ (List.mem_of_getElem? (i := 15) rfl))) (ty := .long) (by decide)
  have K4 := K0.ext E4
  show OG _ _ _ _ _ _ _ (T4.setTop (mkF m 14 #[.val (.long q0), .second, .val (.long q1), .second, .val (.long (own_bd q1)), .second, .unset, .unset, .unset, .unset, .unset, .unset, .unset, .unset, .unset, .unset, .unset, .unset] [(.ref b4)]))
  have s5 : ∀ tz, Steps p.tables e below (T4.setTop (mkF m 16 #[.val (.long q0), .second, .val (.long q1), .second, .val (.long (own_bd q1)), .second, .unset, .unset, .unset, .unset, .unset, .unset, .unset, .unset, .unset, .unset, .unset, .unset] [(.long q0), (.ref b4), (.ref b4)])) tz → Steps p.tables e below (T4.setTop (mkF m 14 #[.val (.long q0), .second, .val (.long q1), .second, .val (.long (own_bd q1)), .second, .unset, .unset, .unset, .unset, .unset, .unset, .unset, .unset, .unset, .unset, .unset, .unset] [(.ref b4)])) tz := by
    intro tz kz
    refine XS.dup X4.here hx rfl (hb hby at_14) rfl rfl ?_
    show Steps p.tables e below (T4.setTop (mkF m 15 #[.val (.long q0), .second, .val (.long q1), .second, .val (.long (own_bd q1)), .second, .unset, .unset, .unset, .unset, .unset, .unset, .unset, .unset, .unset, .unset, .unset, .unset] [(.ref b4), (.ref b4)])) _
    refine XS.lloadN X4.here hx rfl (hb hby at_15) rfl ?_
    exact kz
  refine OG.step s5 ?_
  obtain ⟨_, _, ⟨T6, L6, k6, n6⟩, -, X6, ⟨Lc6, hQ6, l6, y6, z6⟩, st6⟩ := X4.specialBack hx (y := (⟨"com/example/manyflow/manyflow/simulate/SeededRandom", "<init>", "(J)V"⟩ : MethodName)) rfl hown (mvT hZ (hw _ (List.mem_of_getElem? (i := 8) rfl))) (mvT hZ (hw _ (List.mem_of_getElem? (i := 9) rfl))) (mvT hZ (hw _ (List.mem_of_getElem? (i := 10) rfl))) (by decide) (backOf (W := 1) (rm2 l Z a0 hw [] b4 q0 (.long (0 : Int64)) h4 n0 (Nat.le_trans Z0 K4.1) A4 F4_state ge4) hZ (hw _ (List.mem_of_getElem? (i := 10) rfl)) (hw _ (List.mem_of_getElem? (i := 7) rfl)) (by decide) (by decide)) (g := (mkF m 16 #[.val (.long q0), .second, .val (.long q1), .second, .val (.long (own_bd q1)), .second, .unset, .unset, .unset, .unset, .unset, .unset, .unset, .unset, .unset, .unset, .unset, .unset] [(.long q0), (.ref b4), (.ref b4)])) rfl (by rw [hml]; rfl) (Steps.refl _) (a := b4) (argsL := [(.long q0)]) (rest := [(.ref b4)]) (lenOf pd__J_V rfl) rfl (by show 2 * 0 + _ ≤ _; exact Nat.le_of_eq rfl) (hb hby at_16) (fun _ _ => ⟨rfl, e4, (by decide : 1 + 0 ≤ _), (by decide : 1 + 0 ≤ _)⟩)
  dsimp only [Pt.U, Pt.locs, Pt.cells, Pt.slots] at X6 l6 y6 z6 st6 hQ6
  subst l6 y6 z6
  obtain ⟨rfl, N6q, Kc6, p6_0⟩ := hQ6
  have N6 := Fr.app N2 N6q
  refine OG.step (fun tz kz => st6.trans kz) ?_
  have f7 := A4.keep Kc6
  have K6 := K4.trans Kc6 (allS (Or.inr sz4) all0)
  show OG _ _ _ _ _ _ _ (T6.setTop (mkF m 19 #[.val (.long q0), .second, .val (.long q1), .second, .val (.long (own_bd q1)), .second, .unset, .unset, .unset, .unset, .unset, .unset, .unset, .unset, .unset, .unset, .unset, .unset] [(.ref b4)]))
  have s9 : ∀ tz, Steps p.tables e below (T6.setTop (mkF m 21 #[.val (.long q0), .second, .val (.long q1), .second, .val (.long (own_bd q1)), .second, .val (.ref b4), .unset, .unset, .unset, .unset, .unset, .unset, .unset, .unset, .unset, .unset, .unset] [])) tz → Steps p.tables e below (T6.setTop (mkF m 19 #[.val (.long q0), .second, .val (.long q1), .second, .val (.long (own_bd q1)), .second, .unset, .unset, .unset, .unset, .unset, .unset, .unset, .unset, .unset, .unset, .unset, .unset] [(.ref b4)])) tz := by
    intro tz kz
    refine XS.astore X6.here hx rfl (hb hby at_19) rfl rfl (l' := #[.val (.long q0), .second, .val (.long q1), .second, .val (.long (own_bd q1)), .second, .val (.ref b4), .unset, .unset, .unset, .unset, .unset, .unset, .unset, .unset, .unset, .unset, .unset]) rfl ?_
    exact kz
  refine OG.step s9 ?_
  obtain ⟨T10, h10, X10, e10, E10, A10, D10, -, st10⟩ := newO X6 hx hZ hown (hw _ (List.mem_of_getElem? (i := 5) rfl)) (hw _ (List.mem_of_getElem? (i := 6) rfl)) (hw _ (List.mem_of_getElem? (i := 7) rfl)) rfl (g := (mkF m 21 #[.val (.long q0), .second, .val (.long q1), .second, .val (.long (own_bd q1)), .second, .val (.ref b4), .unset, .unset, .unset, .unset, .unset, .unset, .unset, .unset, .unset, .unset, .unset] [])) rfl (hb hby at_21) (by decide) (by decide)
  obtain ⟨b10, g10⟩ : ∃ z, z = T6.heap.size := ⟨_, rfl⟩
  rw [← g10] at A10 D10 st10
  have sz10 : h0.size ≤ b10 := Nat.le_trans K6.1 (Nat.le_of_eq g10.symm)
  have ge10 : n0 ≤ b10 := Nat.le_trans Z0 sz10
  have ne10_b4 : b4 ≠ b10 := Nat.ne_of_lt (Nat.lt_of_lt_of_le f7.lt (Nat.le_of_eq g10.symm))
  refine OG.step st10 ?_
  have f11 := f7.ext E10
  have f12 := p6_0.ext E10
  have F10_state : Fld Z h10 b10 "com/example/manyflow/manyflow/simulate/SeededRandom" "state" "J" (.long (0 : Int64)) := D10 (Or.inl (hw _ (List.mem_of_getElem? (i := 15) rfl))) (ty := .long) (by decide)
  have K10 := K6.ext E10
  show OG _ _ _ _ _ _ _ (T10.setTop (mkF m 24 #[.val (.long q0), .second, .val (.long q1), .second, .val (.long (own_bd q1)), .second, .val (.ref b4), .unset, .unset, .unset, .unset, .unset, .unset, .unset, .unset, .unset, .unset, .unset] [(.ref b10)]))
  have s13 : ∀ tz, Steps p.tables e below (T10.setTop (mkF m 26 #[.val (.long q0), .second, .val (.long q1), .second, .val (.long (own_bd q1)), .second, .val (.ref b4), .unset, .unset, .unset, .unset, .unset, .unset, .unset, .unset, .unset, .unset, .unset] [(.long q0), (.ref b10), (.ref b10)])) tz → Steps p.tables e below (T10.setTop (mkF m 24 #[.val (.long q0), .second, .val (.long q1), .second, .val (.long (own_bd q1)), .second, .val (.ref b4), .unset, .unset, .unset, .unset, .unset, .unset, .unset, .unset, .unset, .unset, .unset] [(.ref b10)])) tz := by
    intro tz kz
    refine XS.dup X10.here hx rfl (hb hby at_24) rfl rfl ?_
    show Steps p.tables e below (T10.setTop (mkF m 25 #[.val (.long q0), .second, .val (.long q1), .second, .val (.long (own_bd q1)), .second, .val (.ref b4), .unset, .unset, .unset, .unset, .unset, .unset, .unset, .unset, .unset, .unset, .unset] [(.ref b10), (.ref b10)])) _
    refine XS.lloadN X10.here hx rfl (hb hby at_25) rfl ?_
    exact kz
  refine OG.step s13 ?_
  obtain ⟨_, _, ⟨T14, L14, k14, n14⟩, -, X14, ⟨Lc14, hQ14, l14, y14, z14⟩, st14⟩ := X10.specialBack hx (y := (⟨"com/example/manyflow/manyflow/simulate/SeededRandom", "<init>", "(J)V"⟩ : MethodName)) rfl hown (mvT hZ (hw _ (List.mem_of_getElem? (i := 8) rfl))) (mvT hZ (hw _ (List.mem_of_getElem? (i := 9) rfl))) (mvT hZ (hw _ (List.mem_of_getElem? (i := 10) rfl))) (by decide) (backOf (W := 1) (rm2 l Z a0 hw [] b10 q0 (.long (0 : Int64)) h10 n0 (Nat.le_trans Z0 K10.1) A10 F10_state ge10) hZ (hw _ (List.mem_of_getElem? (i := 10) rfl)) (hw _ (List.mem_of_getElem? (i := 7) rfl)) (by decide) (by decide)) (g := (mkF m 26 #[.val (.long q0), .second, .val (.long q1), .second, .val (.long (own_bd q1)), .second, .val (.ref b4), .unset, .unset, .unset, .unset, .unset, .unset, .unset, .unset, .unset, .unset, .unset] [(.long q0), (.ref b10), (.ref b10)])) rfl (by rw [hml]; rfl) (Steps.refl _) (a := b10) (argsL := [(.long q0)]) (rest := [(.ref b10)]) (lenOf pd__J_V rfl) rfl (by show 2 * 0 + _ ≤ _; exact Nat.le_of_eq rfl) (hb hby at_26) (fun _ _ => ⟨rfl, e10, (by decide : 2 + 0 ≤ _), (by decide : 2 + 0 ≤ _)⟩)
  dsimp only [Pt.U, Pt.locs, Pt.cells, Pt.slots] at X14 l14 y14 z14 st14 hQ14
  subst l14 y14 z14
  obtain ⟨rfl, N14q, Kc14, p14_0⟩ := hQ14
  have N14 := Fr.app N6 N14q
  refine OG.step (fun tz kz => st14.trans kz) ?_
  have f15 := f11.keep Kc14
  have f16 := f12.keep Kc14 (ninS ne10_b4 nin0)
  have f17 := A10.keep Kc14
  have K14 := K10.trans Kc14 (allS (Or.inr sz10) all0)
  show OG _ _ _ _ _ _ _ (T14.setTop (mkF m 29 #[.val (.long q0), .second, .val (.long q1), .second, .val (.long (own_bd q1)), .second, .val (.ref b4), .unset, .unset, .unset, .unset, .unset, .unset, .unset, .unset, .unset, .unset, .unset] [(.ref b10)]))
  have s19 : ∀ tz, Steps p.tables e below (T14.setTop (mkF m 35 #[.val (.long q0), .second, .val (.long q1), .second, .val (.long (own_bd q1)), .second, .val (.ref b4), .val (.ref b10), .unset, .unset, .unset, .unset, .unset, .unset, .unset, .unset, .unset, .unset] [(.long (own_bd q1)), (.ref b4)])) tz → Steps p.tables e below (T14.setTop (mkF m 29 #[.val (.long q0), .second, .val (.long q1), .second, .val (.long (own_bd q1)), .second, .val (.ref b4), .unset, .unset, .unset, .unset, .unset, .unset, .unset, .unset, .unset, .unset, .unset] [(.ref b10)])) tz := by
    intro tz kz
    refine XS.astore X14.here hx rfl (hb hby at_29) rfl rfl (l' := #[.val (.long q0), .second, .val (.long q1), .second, .val (.long (own_bd q1)), .second, .val (.ref b4), .val (.ref b10), .unset, .unset, .unset, .unset, .unset, .unset, .unset, .unset, .unset, .unset]) rfl ?_
    show Steps p.tables e below (T14.setTop (mkF m 31 #[.val (.long q0), .second, .val (.long q1), .second, .val (.long (own_bd q1)), .second, .val (.ref b4), .val (.ref b10), .unset, .unset, .unset, .unset, .unset, .unset, .unset, .unset, .unset, .unset] [])) _
    refine XS.aload X14.here hx rfl (hb hby at_31) rfl rfl ?_
    show Steps p.tables e below (T14.setTop (mkF m 33 #[.val (.long q0), .second, .val (.long q1), .second, .val (.long (own_bd q1)), .second, .val (.ref b4), .val (.ref b10), .unset, .unset, .unset, .unset, .unset, .unset, .unset, .unset, .unset, .unset] [(.ref b4)])) _
    refine XS.lload X14.here hx rfl (hb hby at_33) rfl ?_
    exact kz
  refine OG.step s19 ?_
  obtain ⟨cq20, kq20, q20a, q20b, q20c⟩ := isOf hZ rfl f15
  obtain ⟨_, _, ⟨T20, L20, k20, n20⟩, -, X20, ⟨Lc20, hQ20, l20, y20, z20⟩, st20⟩ := X14.virtualBack hx (y := (⟨"com/example/manyflow/manyflow/simulate/SeededRandom", "below", "(J)J"⟩ : MethodName)) (z := (⟨"com/example/manyflow/manyflow/simulate/SeededRandom", "below", "(J)J"⟩ : MethodName)) hown (mvT hZ (hw _ (List.mem_of_getElem? (i := 16) rfl))) (mvT hZ (hw _ (List.mem_of_getElem? (i := 17) rfl))) (notFace_of_selects (args := #[]) (mvT hZ (hw _ (List.mem_of_getElem? (i := 19) rfl)))) (mvT hZ (hw _ (List.mem_of_getElem? (i := 19) rfl))) (mvT hZ (hw _ (List.mem_of_getElem? (i := 18) rfl))) (by decide) (backOf (W := 0) (rm4 l Z a0 hw [] b4 (own_bd q1) q0 T14.heap n0 (Nat.le_trans Z0 K14.1) f15 f16 ge4 (own_bpos q1)) hZ (hw _ (List.mem_of_getElem? (i := 20) rfl)) (hw _ (List.mem_of_getElem? (i := 7) rfl)) (by decide) (by decide)) q20a q20c (g := (mkF m 35 #[.val (.long q0), .second, .val (.long q1), .second, .val (.long (own_bd q1)), .second, .val (.ref b4), .val (.ref b10), .unset, .unset, .unset, .unset, .unset, .unset, .unset, .unset, .unset, .unset] [(.long (own_bd q1)), (.ref b4)])) rfl (by rw [hml]; rfl) (Steps.refl _) (argsL := [(.long (own_bd q1))]) (rest := []) (lenOf pd__J_J rfl) rfl (by show 2 * 0 + _ ≤ _; exact Nat.le_of_eq rfl) (hb hby at_35) (fun _ _ => ⟨rfl, rfl, (by decide : 2 + 0 ≤ _), (by decide : 2 + 0 ≤ _)⟩)
  dsimp only [Pt.U, Pt.locs, Pt.cells, Pt.slots] at X20 l20 y20 z20 st20 hQ20
  subst l20 y20 z20
  obtain ⟨i_20, rfl, N20q, Kc20, p20_0, u20_0, u20_1⟩ := hQ20
  have N20 := Fr.app N14 N20q
  refine OG.step (fun tz kz => st20.trans kz) ?_
  have f21 := f15.keep Kc20
  have f23 := f17.keep Kc20
  have f24 := p14_0.keep Kc20 (ninS (Ne.symm ne10_b4) nin0)
  have K20 := K14.trans Kc20 (allS (Or.inr sz4) all0)
  show OG _ _ _ _ _ _ _ (T20.setTop (mkF m 38 #[.val (.long q0), .second, .val (.long q1), .second, .val (.long (own_bd q1)), .second, .val (.ref b4), .val (.ref b10), .unset, .unset, .unset, .unset, .unset, .unset, .unset, .unset, .unset, .unset] [(.long ((own_draw q0 i_20) % (own_bd q1)))]))
  have s25 : ∀ tz, Steps p.tables e below (T20.setTop (mkF m 50 #[.val (.long q0), .second, .val (.long q1), .second, .val (.long (own_bd q1)), .second, .val (.ref b4), .val (.ref b10), .val (.long ((own_draw q0 i_20) % (own_bd q1))), .second, .val (.long ((9223372036854775807 : Int64) / (own_bd q1))), .second, .unset, .unset, .unset, .unset, .unset, .unset] [(.ref b10)])) tz → Steps p.tables e below (T20.setTop (mkF m 38 #[.val (.long q0), .second, .val (.long q1), .second, .val (.long (own_bd q1)), .second, .val (.ref b4), .val (.ref b10), .unset, .unset, .unset, .unset, .unset, .unset, .unset, .unset, .unset, .unset] [(.long ((own_draw q0 i_20) % (own_bd q1)))])) tz := by
    intro tz kz
    refine XS.lstore X20.here hx rfl (hb hby at_38) rfl (l' := #[.val (.long q0), .second, .val (.long q1), .second, .val (.long (own_bd q1)), .second, .val (.ref b4), .val (.ref b10), .val (.long ((own_draw q0 i_20) % (own_bd q1))), .second, .unset, .unset, .unset, .unset, .unset, .unset, .unset, .unset]) rfl ?_
    show Steps p.tables e below (T20.setTop (mkF m 40 #[.val (.long q0), .second, .val (.long q1), .second, .val (.long (own_bd q1)), .second, .val (.ref b4), .val (.ref b10), .val (.long ((own_draw q0 i_20) % (own_bd q1))), .second, .unset, .unset, .unset, .unset, .unset, .unset, .unset, .unset] [])) _
    refine X20.ldc2Long hx hown (mvT hZ (hw _ (List.mem_of_getElem? (i := 0) rfl))) (g := (mkF m 40 #[.val (.long q0), .second, .val (.long q1), .second, .val (.long (own_bd q1)), .second, .val (.ref b4), .val (.ref b10), .val (.long ((own_draw q0 i_20) % (own_bd q1))), .second, .unset, .unset, .unset, .unset, .unset, .unset, .unset, .unset] [])) rfl (hb hby at_40) _ ?_
    show Steps p.tables e below (T20.setTop (mkF m 43 #[.val (.long q0), .second, .val (.long q1), .second, .val (.long (own_bd q1)), .second, .val (.ref b4), .val (.ref b10), .val (.long ((own_draw q0 i_20) % (own_bd q1))), .second, .unset, .unset, .unset, .unset, .unset, .unset, .unset, .unset] [(.long (9223372036854775807 : Int64))])) _
    refine XS.lload X20.here hx rfl (hb hby at_43) rfl ?_
    show Steps p.tables e below (T20.setTop (mkF m 45 #[.val (.long q0), .second, .val (.long q1), .second, .val (.long (own_bd q1)), .second, .val (.ref b4), .val (.ref b10), .val (.long ((own_draw q0 i_20) % (own_bd q1))), .second, .unset, .unset, .unset, .unset, .unset, .unset, .unset, .unset] [(.long (own_bd q1)), (.long (9223372036854775807 : Int64))])) _
    refine XS.ldiv X20.here hx rfl (hb hby at_45) rfl (own_ne0 (own_bpos q1)) ?_
    show Steps p.tables e below (T20.setTop (mkF m 46 #[.val (.long q0), .second, .val (.long q1), .second, .val (.long (own_bd q1)), .second, .val (.ref b4), .val (.ref b10), .val (.long ((own_draw q0 i_20) % (own_bd q1))), .second, .unset, .unset, .unset, .unset, .unset, .unset, .unset, .unset] [(.long ((9223372036854775807 : Int64) / (own_bd q1)))])) _
    refine XS.lstore X20.here hx rfl (hb hby at_46) rfl (l' := #[.val (.long q0), .second, .val (.long q1), .second, .val (.long (own_bd q1)), .second, .val (.ref b4), .val (.ref b10), .val (.long ((own_draw q0 i_20) % (own_bd q1))), .second, .val (.long ((9223372036854775807 : Int64) / (own_bd q1))), .second, .unset, .unset, .unset, .unset, .unset, .unset]) rfl ?_
    show Steps p.tables e below (T20.setTop (mkF m 48 #[.val (.long q0), .second, .val (.long q1), .second, .val (.long (own_bd q1)), .second, .val (.ref b4), .val (.ref b10), .val (.long ((own_draw q0 i_20) % (own_bd q1))), .second, .val (.long ((9223372036854775807 : Int64) / (own_bd q1))), .second, .unset, .unset, .unset, .unset, .unset, .unset] [])) _
    refine XS.aload X20.here hx rfl (hb hby at_48) rfl rfl ?_
    exact kz
  refine OG.step s25 ?_
  obtain ⟨cq26, kq26, q26a, q26b, q26c⟩ := isOf hZ rfl f23
  obtain ⟨_, _, ⟨T26, L26, k26, n26⟩, -, X26, ⟨Lc26, hQ26, l26, y26, z26⟩, st26⟩ := X20.virtualBack hx (y := (⟨"com/example/manyflow/manyflow/simulate/SeededRandom", "nextLong", "()J"⟩ : MethodName)) (z := (⟨"com/example/manyflow/manyflow/simulate/SeededRandom", "nextLong", "()J"⟩ : MethodName)) hown (mvT hZ (hw _ (List.mem_of_getElem? (i := 30) rfl))) (mvT hZ (hw _ (List.mem_of_getElem? (i := 23) rfl))) (notFace_of_selects (args := #[]) (mvT hZ (hw _ (List.mem_of_getElem? (i := 25) rfl)))) (mvT hZ (hw _ (List.mem_of_getElem? (i := 25) rfl))) (mvT hZ (hw _ (List.mem_of_getElem? (i := 24) rfl))) (by decide) (backOf (W := 0) (rm5 l Z a0 hw [] b10 q0 T20.heap n0 (Nat.le_trans Z0 K20.1) f23 f24 ge10) hZ (hw _ (List.mem_of_getElem? (i := 26) rfl)) (hw _ (List.mem_of_getElem? (i := 7) rfl)) (by decide) (by decide)) q26a q26c (g := (mkF m 50 #[.val (.long q0), .second, .val (.long q1), .second, .val (.long (own_bd q1)), .second, .val (.ref b4), .val (.ref b10), .val (.long ((own_draw q0 i_20) % (own_bd q1))), .second, .val (.long ((9223372036854775807 : Int64) / (own_bd q1))), .second, .unset, .unset, .unset, .unset, .unset, .unset] [(.ref b10)])) rfl (by rw [hml]; rfl) (Steps.refl _) (argsL := []) (rest := []) (lenOf pd___J rfl) rfl (by show 2 * 0 + _ ≤ _; exact Nat.le_of_eq rfl) (hb hby at_50) (fun _ _ => ⟨rfl, rfl, (by decide : 2 + 0 ≤ _), (by decide : 2 + 0 ≤ _)⟩)
  dsimp only [Pt.U, Pt.locs, Pt.cells, Pt.slots] at X26 l26 y26 z26 st26 hQ26
  subst l26 y26 z26
  obtain ⟨rfl, N26q, Kc26, p26_0⟩ := hQ26
  have N26 := Fr.app N20 N26q
  refine OG.step (fun tz kz => st26.trans kz) ?_
  have f27 := f21.keep Kc26
  have f28 := f23.keep Kc26
  have f30 := p20_0.keep Kc26 (ninS ne10_b4 nin0)
  have K26 := K20.trans Kc26 (allS (Or.inr sz10) all0)
  show OG _ _ _ _ _ _ _ (T26.setTop (mkF m 53 #[.val (.long q0), .second, .val (.long q1), .second, .val (.long (own_bd q1)), .second, .val (.ref b4), .val (.ref b10), .val (.long ((own_draw q0 i_20) % (own_bd q1))), .second, .val (.long ((9223372036854775807 : Int64) / (own_bd q1))), .second, .unset, .unset, .unset, .unset, .unset, .unset] [(.long (own_mix (q0 + (-7046029254386353131 : Int64))))]))
  have s31 : ∀ tz, Steps p.tables e below (T26.setTop (mkF m 63 #[.val (.long q0), .second, .val (.long q1), .second, .val (.long (own_bd q1)), .second, .val (.ref b4), .val (.ref b10), .val (.long ((own_draw q0 i_20) % (own_bd q1))), .second, .val (.long ((9223372036854775807 : Int64) / (own_bd q1))), .second, .val (.long (own_draw q0 0)), .second, .unset, .unset, .unset, .unset] [(.long ((9223372036854775807 : Int64) / (own_bd q1))), (.long (own_bd q1)), (.long (own_draw q0 0))])) tz → Steps p.tables e below (T26.setTop (mkF m 53 #[.val (.long q0), .second, .val (.long q1), .second, .val (.long (own_bd q1)), .second, .val (.ref b4), .val (.ref b10), .val (.long ((own_draw q0 i_20) % (own_bd q1))), .second, .val (.long ((9223372036854775807 : Int64) / (own_bd q1))), .second, .unset, .unset, .unset, .unset, .unset, .unset] [(.long (own_mix (q0 + (-7046029254386353131 : Int64))))])) tz := by
    intro tz kz
    refine XS.iconst X26.here hx rfl (hb hby at_53) ?_
    show Steps p.tables e below (T26.setTop (mkF m 54 #[.val (.long q0), .second, .val (.long q1), .second, .val (.long (own_bd q1)), .second, .val (.ref b4), .val (.ref b10), .val (.long ((own_draw q0 i_20) % (own_bd q1))), .second, .val (.long ((9223372036854775807 : Int64) / (own_bd q1))), .second, .unset, .unset, .unset, .unset, .unset, .unset] [(.int (1 : Int32)), (.long (own_mix (q0 + (-7046029254386353131 : Int64))))])) _
    refine XS.lushr X26.here hx rfl (hb hby at_54) rfl ?_
    show Steps p.tables e below (T26.setTop (mkF m 55 #[.val (.long q0), .second, .val (.long q1), .second, .val (.long (own_bd q1)), .second, .val (.ref b4), .val (.ref b10), .val (.long ((own_draw q0 i_20) % (own_bd q1))), .second, .val (.long ((9223372036854775807 : Int64) / (own_bd q1))), .second, .unset, .unset, .unset, .unset, .unset, .unset] [(.long (((own_mix (q0 + (-7046029254386353131 : Int64))).toUInt64 >>> ((1 : Int32) &&& 0x3f).toInt64.toUInt64).toInt64))])) _
    refine XS.lstore X26.here hx rfl (hb hby at_55) rfl (l' := #[.val (.long q0), .second, .val (.long q1), .second, .val (.long (own_bd q1)), .second, .val (.ref b4), .val (.ref b10), .val (.long ((own_draw q0 i_20) % (own_bd q1))), .second, .val (.long ((9223372036854775807 : Int64) / (own_bd q1))), .second, .val (.long (own_draw q0 0)), .second, .unset, .unset, .unset, .unset]) rfl ?_
    show Steps p.tables e below (T26.setTop (mkF m 57 #[.val (.long q0), .second, .val (.long q1), .second, .val (.long (own_bd q1)), .second, .val (.ref b4), .val (.ref b10), .val (.long ((own_draw q0 i_20) % (own_bd q1))), .second, .val (.long ((9223372036854775807 : Int64) / (own_bd q1))), .second, .val (.long (own_draw q0 0)), .second, .unset, .unset, .unset, .unset] [])) _
    refine XS.lload X26.here hx rfl (hb hby at_57) rfl ?_
    show Steps p.tables e below (T26.setTop (mkF m 59 #[.val (.long q0), .second, .val (.long q1), .second, .val (.long (own_bd q1)), .second, .val (.ref b4), .val (.ref b10), .val (.long ((own_draw q0 i_20) % (own_bd q1))), .second, .val (.long ((9223372036854775807 : Int64) / (own_bd q1))), .second, .val (.long (own_draw q0 0)), .second, .unset, .unset, .unset, .unset] [(.long (own_draw q0 0))])) _
    refine XS.lload X26.here hx rfl (hb hby at_59) rfl ?_
    show Steps p.tables e below (T26.setTop (mkF m 61 #[.val (.long q0), .second, .val (.long q1), .second, .val (.long (own_bd q1)), .second, .val (.ref b4), .val (.ref b10), .val (.long ((own_draw q0 i_20) % (own_bd q1))), .second, .val (.long ((9223372036854775807 : Int64) / (own_bd q1))), .second, .val (.long (own_draw q0 0)), .second, .unset, .unset, .unset, .unset] [(.long (own_bd q1)), (.long (own_draw q0 0))])) _
    refine XS.lload X26.here hx rfl (hb hby at_61) rfl ?_
    exact kz
  refine OG.step s31 ?_
  obtain ⟨_, _, ⟨T32, L32, k32, n32⟩, -, X32, ⟨Lc32, hQ32, l32, y32, z32⟩, st32⟩ := Jvm.LawKit.callS X26 hx (y := (⟨"com/example/manyflow/manyflow/simulate/SeededRandomBelowPinLaw", "kept", "(JJJ)Z"⟩ : MethodName)) hown (mvT hZ (hw _ (List.mem_of_getElem? (i := 31) rfl))) (mvT hZ (hw _ (List.mem_of_getElem? (i := 32) rfl))) (mvT hZ (hw _ (List.mem_of_getElem? (i := 33) rfl))) (mvT hZ (hw _ (List.mem_of_getElem? (i := 34) rfl))) (by decide) (backOf (W := 0) (rm6 l Z a0 hw [] (own_draw q0 0) (own_bd q1) ((9223372036854775807 : Int64) / (own_bd q1)) T26.heap n0 (Nat.le_trans Z0 K26.1) (own_ne0 (own_bpos q1))) hZ (hw _ (List.mem_of_getElem? (i := 34) rfl)) (hw _ (List.mem_of_getElem? (i := 33) rfl)) (by decide) (by decide)) (g := (mkF m 63 #[.val (.long q0), .second, .val (.long q1), .second, .val (.long (own_bd q1)), .second, .val (.ref b4), .val (.ref b10), .val (.long ((own_draw q0 i_20) % (own_bd q1))), .second, .val (.long ((9223372036854775807 : Int64) / (own_bd q1))), .second, .val (.long (own_draw q0 0)), .second, .unset, .unset, .unset, .unset] [(.long ((9223372036854775807 : Int64) / (own_bd q1))), (.long (own_bd q1)), (.long (own_draw q0 0))])) rfl (by rw [hml]; rfl) (argsL := [(.long (own_draw q0 0)), (.long (own_bd q1)), (.long ((9223372036854775807 : Int64) / (own_bd q1)))]) (rest := []) (lenOf pd__JJJ_Z rfl) rfl (by show 2 * 0 + _ ≤ _; exact Nat.le_of_eq rfl) (hb hby at_63) (fun _ _ => ⟨rfl, rfl, (by decide : 2 + 0 ≤ _), (by decide : 2 + 0 ≤ _)⟩)
  dsimp only [Pt.U, Pt.locs, Pt.cells, Pt.slots] at X32 l32 y32 z32 st32 hQ32
  subst l32 y32 z32
  obtain ⟨rfl, N32q, e32⟩ := hQ32
  have N32 := Fr.app N26 N32q
  refine OG.step st32 ?_
  show OG _ _ _ _ _ _ _ (T32.setTop (mkF m 66 #[.val (.long q0), .second, .val (.long q1), .second, .val (.long (own_bd q1)), .second, .val (.ref b4), .val (.ref b10), .val (.long ((own_draw q0 i_20) % (own_bd q1))), .second, .val (.long ((9223372036854775807 : Int64) / (own_bd q1))), .second, .val (.long (own_draw q0 0)), .second, .unset, .unset, .unset, .unset] [(.int (bI (((own_draw q0 0) / (own_bd q1)) < ((9223372036854775807 : Int64) / (own_bd q1)))))]))
  by_cases hc66 : ((own_draw q0 0) / (own_bd q1)) < ((9223372036854775807 : Int64) / (own_bd q1))
  · have s33 : ∀ tz, Steps p.tables e below (T32.setTop (mkF m 75 #[.val (.long q0), .second, .val (.long q1), .second, .val (.long (own_bd q1)), .second, .val (.ref b4), .val (.ref b10), .val (.long ((own_draw q0 i_20) % (own_bd q1))), .second, .val (.long ((9223372036854775807 : Int64) / (own_bd q1))), .second, .val (.long (own_draw q0 0)), .second, .unset, .unset, .unset, .unset] [(.long (own_bd q1)), (.long (own_draw q0 0)), (.long ((own_draw q0 i_20) % (own_bd q1)))])) tz → Steps p.tables e below (T32.setTop (mkF m 66 #[.val (.long q0), .second, .val (.long q1), .second, .val (.long (own_bd q1)), .second, .val (.ref b4), .val (.ref b10), .val (.long ((own_draw q0 i_20) % (own_bd q1))), .second, .val (.long ((9223372036854775807 : Int64) / (own_bd q1))), .second, .val (.long (own_draw q0 0)), .second, .unset, .unset, .unset, .unset] [(.int (bI (((own_draw q0 0) / (own_bd q1)) < ((9223372036854775807 : Int64) / (own_bd q1)))))])) tz := by
      intro tz kz
      refine XS.ifNo X32.here hx rfl (hb hby at_66) rfl ((if0 _ _).trans (feq (bI_ne0 hc66)).1) ?_
      show Steps p.tables e below (T32.setTop (mkF m 69 #[.val (.long q0), .second, .val (.long q1), .second, .val (.long (own_bd q1)), .second, .val (.ref b4), .val (.ref b10), .val (.long ((own_draw q0 i_20) % (own_bd q1))), .second, .val (.long ((9223372036854775807 : Int64) / (own_bd q1))), .second, .val (.long (own_draw q0 0)), .second, .unset, .unset, .unset, .unset] [])) _
      refine XS.lload X32.here hx rfl (hb hby at_69) rfl ?_
      show Steps p.tables e below (T32.setTop (mkF m 71 #[.val (.long q0), .second, .val (.long q1), .second, .val (.long (own_bd q1)), .second, .val (.ref b4), .val (.ref b10), .val (.long ((own_draw q0 i_20) % (own_bd q1))), .second, .val (.long ((9223372036854775807 : Int64) / (own_bd q1))), .second, .val (.long (own_draw q0 0)), .second, .unset, .unset, .unset, .unset] [(.long ((own_draw q0 i_20) % (own_bd q1)))])) _
      refine XS.lload X32.here hx rfl (hb hby at_71) rfl ?_
      show Steps p.tables e below (T32.setTop (mkF m 73 #[.val (.long q0), .second, .val (.long q1), .second, .val (.long (own_bd q1)), .second, .val (.ref b4), .val (.ref b10), .val (.long ((own_draw q0 i_20) % (own_bd q1))), .second, .val (.long ((9223372036854775807 : Int64) / (own_bd q1))), .second, .val (.long (own_draw q0 0)), .second, .unset, .unset, .unset, .unset] [(.long (own_draw q0 0)), (.long ((own_draw q0 i_20) % (own_bd q1)))])) _
      refine XS.lload X32.here hx rfl (hb hby at_73) rfl ?_
      exact kz
    refine OG.step s33 ?_
    obtain ⟨_, _, ⟨T34, L34, k34, n34⟩, -, X34, ⟨Lc34, hQ34, l34, y34, z34⟩, st34⟩ := Jvm.LawKit.callS X32 hx (y := (⟨"com/example/manyflow/manyflow/simulate/SeededRandomBelowPinLaw", "rem", "(JJ)J"⟩ : MethodName)) hown (mvT hZ (hw _ (List.mem_of_getElem? (i := 35) rfl))) (mvT hZ (hw _ (List.mem_of_getElem? (i := 36) rfl))) (mvT hZ (hw _ (List.mem_of_getElem? (i := 33) rfl))) (mvT hZ (hw _ (List.mem_of_getElem? (i := 37) rfl))) (by decide) (backOf (W := 2) (rm7 l Z a0 hw [] (own_draw q0 0) (own_bd q1) T26.heap n0 (Nat.le_trans Z0 K26.1) (own_ne0 (own_bpos q1))) hZ (hw _ (List.mem_of_getElem? (i := 37) rfl)) (hw _ (List.mem_of_getElem? (i := 33) rfl)) (by decide) (by decide)) (g := (mkF m 75 #[.val (.long q0), .second, .val (.long q1), .second, .val (.long (own_bd q1)), .second, .val (.ref b4), .val (.ref b10), .val (.long ((own_draw q0 i_20) % (own_bd q1))), .second, .val (.long ((9223372036854775807 : Int64) / (own_bd q1))), .second, .val (.long (own_draw q0 0)), .second, .unset, .unset, .unset, .unset] [(.long (own_bd q1)), (.long (own_draw q0 0)), (.long ((own_draw q0 i_20) % (own_bd q1)))])) rfl (by rw [hml]; rfl) (argsL := [(.long (own_draw q0 0)), (.long (own_bd q1))]) (rest := [(.long ((own_draw q0 i_20) % (own_bd q1)))]) (lenOf pd__JJ_J rfl) rfl (by show 2 * 0 + _ ≤ _; exact Nat.le_of_eq rfl) (hb hby at_75) (fun _ _ => ⟨rfl, e32, (by decide : 2 + 0 ≤ _), (by decide : 2 + 0 ≤ _)⟩)
    dsimp only [Pt.U, Pt.locs, Pt.cells, Pt.slots] at X34 l34 y34 z34 st34 hQ34
    subst l34 y34 z34
    obtain ⟨rfl, N34q, e34⟩ := hQ34
    have N34 := Fr.app N32 N34q
    refine OG.step st34 ?_
    show OG _ _ _ _ _ _ _ (T34.setTop (mkF m 78 #[.val (.long q0), .second, .val (.long q1), .second, .val (.long (own_bd q1)), .second, .val (.ref b4), .val (.ref b10), .val (.long ((own_draw q0 i_20) % (own_bd q1))), .second, .val (.long ((9223372036854775807 : Int64) / (own_bd q1))), .second, .val (.long (own_draw q0 0)), .second, .unset, .unset, .unset, .unset] [(.long ((own_draw q0 0) - (((own_draw q0 0) / (own_bd q1)) * (own_bd q1)))), (.long ((own_draw q0 i_20) % (own_bd q1)))]))
    have s35 : ∀ tz, Steps p.tables e below (T34.setTop (mkF m 84 #[.val (.long q0), .second, .val (.long q1), .second, .val (.long (own_bd q1)), .second, .val (.ref b4), .val (.ref b10), .val (.long ((own_draw q0 i_20) % (own_bd q1))), .second, .val (.long ((9223372036854775807 : Int64) / (own_bd q1))), .second, .val (.long (own_draw q0 0)), .second, .unset, .unset, .unset, .unset] [(.ref b4)])) tz → Steps p.tables e below (T34.setTop (mkF m 78 #[.val (.long q0), .second, .val (.long q1), .second, .val (.long (own_bd q1)), .second, .val (.ref b4), .val (.ref b10), .val (.long ((own_draw q0 i_20) % (own_bd q1))), .second, .val (.long ((9223372036854775807 : Int64) / (own_bd q1))), .second, .val (.long (own_draw q0 0)), .second, .unset, .unset, .unset, .unset] [(.long ((own_draw q0 0) - (((own_draw q0 0) / (own_bd q1)) * (own_bd q1)))), (.long ((own_draw q0 i_20) % (own_bd q1)))])) tz := by
      intro tz kz
      refine XS.lcmp X34.here hx rfl (hb hby at_78) rfl ?_
      show Steps p.tables e below (T34.setTop (mkF m 79 #[.val (.long q0), .second, .val (.long q1), .second, .val (.long (own_bd q1)), .second, .val (.ref b4), .val (.ref b10), .val (.long ((own_draw q0 i_20) % (own_bd q1))), .second, .val (.long ((9223372036854775807 : Int64) / (own_bd q1))), .second, .val (.long (own_draw q0 0)), .second, .unset, .unset, .unset, .unset] [(.int (lcmpW ((own_draw q0 i_20) % (own_bd q1)) ((own_draw q0 0) - (((own_draw q0 0) / (own_bd q1)) * (own_bd q1)))))])) _
      refine XS.ifNo X34.here hx rfl (hb hby at_79) rfl ((if0 _ _).trans (teq ((lw_eq ((own_draw q0 i_20) % (own_bd q1)) ((own_draw q0 0) - (((own_draw q0 0) / (own_bd q1)) * (own_bd q1)))).mpr (own_rem (own_bpos q1) (own_at0 u20_0 u20_1 (own_bpos q1) hc66)))).2) ?_
      show Steps p.tables e below (T34.setTop (mkF m 82 #[.val (.long q0), .second, .val (.long q1), .second, .val (.long (own_bd q1)), .second, .val (.ref b4), .val (.ref b10), .val (.long ((own_draw q0 i_20) % (own_bd q1))), .second, .val (.long ((9223372036854775807 : Int64) / (own_bd q1))), .second, .val (.long (own_draw q0 0)), .second, .unset, .unset, .unset, .unset] [])) _
      refine XS.aload X34.here hx rfl (hb hby at_82) rfl rfl ?_
      exact kz
    refine OG.step s35 ?_
    obtain ⟨cq36, kq36, q36a, q36b, q36c⟩ := isOf hZ e34 f27
    obtain ⟨_, _, ⟨T36, L36, k36, n36⟩, -, X36, ⟨Lc36, hQ36, l36, y36, z36⟩, st36⟩ := X34.virtualBack hx (y := (⟨"com/example/manyflow/manyflow/simulate/SeededRandom", "nextLong", "()J"⟩ : MethodName)) (z := (⟨"com/example/manyflow/manyflow/simulate/SeededRandom", "nextLong", "()J"⟩ : MethodName)) hown (mvT hZ (hw _ (List.mem_of_getElem? (i := 30) rfl))) (mvT hZ (hw _ (List.mem_of_getElem? (i := 23) rfl))) (notFace_of_selects (args := #[]) (mvT hZ (hw _ (List.mem_of_getElem? (i := 25) rfl)))) (mvT hZ (hw _ (List.mem_of_getElem? (i := 25) rfl))) (mvT hZ (hw _ (List.mem_of_getElem? (i := 24) rfl))) (by decide) (backOf (W := 0) (rm5 l Z a0 hw [] b4 (own_s q0 (i_20 + 1)) T26.heap n0 (Nat.le_trans Z0 K26.1) f27 f30 ge4) hZ (hw _ (List.mem_of_getElem? (i := 26) rfl)) (hw _ (List.mem_of_getElem? (i := 7) rfl)) (by decide) (by decide)) q36a q36c (g := (mkF m 84 #[.val (.long q0), .second, .val (.long q1), .second, .val (.long (own_bd q1)), .second, .val (.ref b4), .val (.ref b10), .val (.long ((own_draw q0 i_20) % (own_bd q1))), .second, .val (.long ((9223372036854775807 : Int64) / (own_bd q1))), .second, .val (.long (own_draw q0 0)), .second, .unset, .unset, .unset, .unset] [(.ref b4)])) rfl (by rw [hml]; rfl) (Steps.refl _) (argsL := []) (rest := []) (lenOf pd___J rfl) rfl (by show 2 * 0 + _ ≤ _; exact Nat.le_of_eq rfl) (hb hby at_84) (fun _ _ => ⟨rfl, e34, (by decide : 2 + 0 ≤ _), (by decide : 2 + 0 ≤ _)⟩)
    dsimp only [Pt.U, Pt.locs, Pt.cells, Pt.slots] at X36 l36 y36 z36 st36 hQ36
    subst l36 y36 z36
    obtain ⟨rfl, N36q, Kc36, p36_0⟩ := hQ36
    have N36 := Fr.app N34 N36q
    refine OG.step (fun tz kz => st36.trans kz) ?_
    have f37 := f27.keep Kc36
    have f38 := f28.keep Kc36
    have f40 := p26_0.keep Kc36 (ninS (Ne.symm ne10_b4) nin0)
    have K36 := K26.trans Kc36 (allS (Or.inr sz4) all0)
    show OG _ _ _ _ _ _ _ (T36.setTop (mkF m 87 #[.val (.long q0), .second, .val (.long q1), .second, .val (.long (own_bd q1)), .second, .val (.ref b4), .val (.ref b10), .val (.long ((own_draw q0 i_20) % (own_bd q1))), .second, .val (.long ((9223372036854775807 : Int64) / (own_bd q1))), .second, .val (.long (own_draw q0 0)), .second, .unset, .unset, .unset, .unset] [(.long (own_mix ((own_s q0 (i_20 + 1)) + (-7046029254386353131 : Int64))))]))
    have s41 : ∀ tz, Steps p.tables e below (T36.setTop (mkF m 89 #[.val (.long q0), .second, .val (.long q1), .second, .val (.long (own_bd q1)), .second, .val (.ref b4), .val (.ref b10), .val (.long ((own_draw q0 i_20) % (own_bd q1))), .second, .val (.long ((9223372036854775807 : Int64) / (own_bd q1))), .second, .val (.long (own_draw q0 0)), .second, .unset, .unset, .unset, .unset] [(.ref b10), (.long (own_mix ((own_s q0 (i_20 + 1)) + (-7046029254386353131 : Int64))))])) tz → Steps p.tables e below (T36.setTop (mkF m 87 #[.val (.long q0), .second, .val (.long q1), .second, .val (.long (own_bd q1)), .second, .val (.ref b4), .val (.ref b10), .val (.long ((own_draw q0 i_20) % (own_bd q1))), .second, .val (.long ((9223372036854775807 : Int64) / (own_bd q1))), .second, .val (.long (own_draw q0 0)), .second, .unset, .unset, .unset, .unset] [(.long (own_mix ((own_s q0 (i_20 + 1)) + (-7046029254386353131 : Int64))))])) tz := by
      intro tz kz
      refine XS.aload X36.here hx rfl (hb hby at_87) rfl rfl ?_
      exact kz
    refine OG.step s41 ?_
    obtain ⟨cq42, kq42, q42a, q42b, q42c⟩ := isOf hZ rfl f38
    obtain ⟨_, _, ⟨T42, L42, k42, n42⟩, -, X42, ⟨Lc42, hQ42, l42, y42, z42⟩, st42⟩ := X36.virtualBack hx (y := (⟨"com/example/manyflow/manyflow/simulate/SeededRandom", "nextLong", "()J"⟩ : MethodName)) (z := (⟨"com/example/manyflow/manyflow/simulate/SeededRandom", "nextLong", "()J"⟩ : MethodName)) hown (mvT hZ (hw _ (List.mem_of_getElem? (i := 30) rfl))) (mvT hZ (hw _ (List.mem_of_getElem? (i := 23) rfl))) (notFace_of_selects (args := #[]) (mvT hZ (hw _ (List.mem_of_getElem? (i := 25) rfl)))) (mvT hZ (hw _ (List.mem_of_getElem? (i := 25) rfl))) (mvT hZ (hw _ (List.mem_of_getElem? (i := 24) rfl))) (by decide) (backOf (W := 2) (rm5 l Z a0 hw [] b10 (q0 + (-7046029254386353131 : Int64)) T36.heap n0 (Nat.le_trans Z0 K36.1) f38 f40 ge10) hZ (hw _ (List.mem_of_getElem? (i := 26) rfl)) (hw _ (List.mem_of_getElem? (i := 7) rfl)) (by decide) (by decide)) q42a q42c (g := (mkF m 89 #[.val (.long q0), .second, .val (.long q1), .second, .val (.long (own_bd q1)), .second, .val (.ref b4), .val (.ref b10), .val (.long ((own_draw q0 i_20) % (own_bd q1))), .second, .val (.long ((9223372036854775807 : Int64) / (own_bd q1))), .second, .val (.long (own_draw q0 0)), .second, .unset, .unset, .unset, .unset] [(.ref b10), (.long (own_mix ((own_s q0 (i_20 + 1)) + (-7046029254386353131 : Int64))))])) rfl (by rw [hml]; rfl) (Steps.refl _) (argsL := []) (rest := [(.long (own_mix ((own_s q0 (i_20 + 1)) + (-7046029254386353131 : Int64))))]) (lenOf pd___J rfl) rfl (by show 2 * 0 + _ ≤ _; exact Nat.le_of_eq rfl) (hb hby at_89) (fun _ _ => ⟨rfl, rfl, (by decide : 2 + 0 ≤ _), (by decide : 2 + 0 ≤ _)⟩)
    dsimp only [Pt.U, Pt.locs, Pt.cells, Pt.slots] at X42 l42 y42 z42 st42 hQ42
    subst l42 y42 z42
    obtain ⟨rfl, N42q, Kc42, p42_0⟩ := hQ42
    have N42 := Fr.app N36 N42q
    refine OG.step (fun tz kz => st42.trans kz) ?_
    have f43 := f37.keep Kc42
    have f44 := f38.keep Kc42
    have f46 := p36_0.keep Kc42 (ninS ne10_b4 nin0)
    have K42 := K36.trans Kc42 (allS (Or.inr sz10) all0)
    show OG _ _ _ _ _ _ _ (T42.setTop (mkF m 92 #[.val (.long q0), .second, .val (.long q1), .second, .val (.long (own_bd q1)), .second, .val (.ref b4), .val (.ref b10), .val (.long ((own_draw q0 i_20) % (own_bd q1))), .second, .val (.long ((9223372036854775807 : Int64) / (own_bd q1))), .second, .val (.long (own_draw q0 0)), .second, .unset, .unset, .unset, .unset] [(.long (own_mix ((q0 + (-7046029254386353131 : Int64)) + (-7046029254386353131 : Int64)))), (.long (own_mix ((own_s q0 (i_20 + 1)) + (-7046029254386353131 : Int64))))]))
    have s47 : ∀ tz, Steps p.tables e below (T42.setTop (mkF m 101 #[.val (.long q0), .second, .val (.long q1), .second, .val (.long (own_bd q1)), .second, .val (.ref b4), .val (.ref b10), .val (.long ((own_draw q0 i_20) % (own_bd q1))), .second, .val (.long ((9223372036854775807 : Int64) / (own_bd q1))), .second, .val (.long (own_draw q0 0)), .second, .unset, .unset, .unset, .unset] [(.int (1 : Int32))])) tz → Steps p.tables e below (T42.setTop (mkF m 92 #[.val (.long q0), .second, .val (.long q1), .second, .val (.long (own_bd q1)), .second, .val (.ref b4), .val (.ref b10), .val (.long ((own_draw q0 i_20) % (own_bd q1))), .second, .val (.long ((9223372036854775807 : Int64) / (own_bd q1))), .second, .val (.long (own_draw q0 0)), .second, .unset, .unset, .unset, .unset] [(.long (own_mix ((q0 + (-7046029254386353131 : Int64)) + (-7046029254386353131 : Int64)))), (.long (own_mix ((own_s q0 (i_20 + 1)) + (-7046029254386353131 : Int64))))])) tz := by
      intro tz kz
      refine XS.lcmp X42.here hx rfl (hb hby at_92) rfl ?_
      show Steps p.tables e below (T42.setTop (mkF m 93 #[.val (.long q0), .second, .val (.long q1), .second, .val (.long (own_bd q1)), .second, .val (.ref b4), .val (.ref b10), .val (.long ((own_draw q0 i_20) % (own_bd q1))), .second, .val (.long ((9223372036854775807 : Int64) / (own_bd q1))), .second, .val (.long (own_draw q0 0)), .second, .unset, .unset, .unset, .unset] [(.int (lcmpW (own_mix ((own_s q0 (i_20 + 1)) + (-7046029254386353131 : Int64))) (own_mix ((q0 + (-7046029254386353131 : Int64)) + (-7046029254386353131 : Int64)))))])) _
      refine XS.ifNo X42.here hx rfl (hb hby at_93) rfl ((if0 _ _).trans (teq ((lw_eq (own_mix ((own_s q0 (i_20 + 1)) + (-7046029254386353131 : Int64))) (own_mix ((q0 + (-7046029254386353131 : Int64)) + (-7046029254386353131 : Int64)))).mpr (own_same0 (own_at0 u20_0 u20_1 (own_bpos q1) hc66)))).2) ?_
      show Steps p.tables e below (T42.setTop (mkF m 96 #[.val (.long q0), .second, .val (.long q1), .second, .val (.long (own_bd q1)), .second, .val (.ref b4), .val (.ref b10), .val (.long ((own_draw q0 i_20) % (own_bd q1))), .second, .val (.long ((9223372036854775807 : Int64) / (own_bd q1))), .second, .val (.long (own_draw q0 0)), .second, .unset, .unset, .unset, .unset] [])) _
      refine XS.iconst X42.here hx rfl (hb hby at_96) ?_
      show Steps p.tables e below (T42.setTop (mkF m 97 #[.val (.long q0), .second, .val (.long q1), .second, .val (.long (own_bd q1)), .second, .val (.ref b4), .val (.ref b10), .val (.long ((own_draw q0 i_20) % (own_bd q1))), .second, .val (.long ((9223372036854775807 : Int64) / (own_bd q1))), .second, .val (.long (own_draw q0 0)), .second, .unset, .unset, .unset, .unset] [(.int (1 : Int32))])) _
      refine XS.goto X42.here hx rfl (pc0 := 97) (pc' := 101) rfl (hb hby at_97) (by decide) (by decide) ?_
      exact kz
    refine OG.step s47 ?_
    exact OG.retZ X42 hx hlk Bd.returns (hb hby at_101) (nar_1) rfl ⟨rfl, N42⟩ (by decide) (by decide)
  · have s48 : ∀ tz, Steps p.tables e below (T32.setTop (mkF m 104 #[.val (.long q0), .second, .val (.long q1), .second, .val (.long (own_bd q1)), .second, .val (.ref b4), .val (.ref b10), .val (.long ((own_draw q0 i_20) % (own_bd q1))), .second, .val (.long ((9223372036854775807 : Int64) / (own_bd q1))), .second, .val (.long (own_draw q0 0)), .second, .unset, .unset, .unset, .unset] [(.ref b10)])) tz → Steps p.tables e below (T32.setTop (mkF m 66 #[.val (.long q0), .second, .val (.long q1), .second, .val (.long (own_bd q1)), .second, .val (.ref b4), .val (.ref b10), .val (.long ((own_draw q0 i_20) % (own_bd q1))), .second, .val (.long ((9223372036854775807 : Int64) / (own_bd q1))), .second, .val (.long (own_draw q0 0)), .second, .unset, .unset, .unset, .unset] [(.int (bI (((own_draw q0 0) / (own_bd q1)) < ((9223372036854775807 : Int64) / (own_bd q1)))))])) tz := by
      intro tz kz
      refine XS.ifYes X32.here hx rfl (pc0 := 66) (pc' := 102) rfl (hb hby at_66) rfl ((if0 _ _).trans (teq (bI_0 hc66)).1) (by decide) (by decide) ?_
      show Steps p.tables e below (T32.setTop (mkF m 102 #[.val (.long q0), .second, .val (.long q1), .second, .val (.long (own_bd q1)), .second, .val (.ref b4), .val (.ref b10), .val (.long ((own_draw q0 i_20) % (own_bd q1))), .second, .val (.long ((9223372036854775807 : Int64) / (own_bd q1))), .second, .val (.long (own_draw q0 0)), .second, .unset, .unset, .unset, .unset] [])) _
      refine XS.aload X32.here hx rfl (hb hby at_102) rfl rfl ?_
      exact kz
    refine OG.step s48 ?_
    obtain ⟨cq49, kq49, q49a, q49b, q49c⟩ := isOf hZ e32 f28
    obtain ⟨_, _, ⟨T49, L49, k49, n49⟩, -, X49, ⟨Lc49, hQ49, l49, y49, z49⟩, st49⟩ := X32.virtualBack hx (y := (⟨"com/example/manyflow/manyflow/simulate/SeededRandom", "nextLong", "()J"⟩ : MethodName)) (z := (⟨"com/example/manyflow/manyflow/simulate/SeededRandom", "nextLong", "()J"⟩ : MethodName)) hown (mvT hZ (hw _ (List.mem_of_getElem? (i := 30) rfl))) (mvT hZ (hw _ (List.mem_of_getElem? (i := 23) rfl))) (notFace_of_selects (args := #[]) (mvT hZ (hw _ (List.mem_of_getElem? (i := 25) rfl)))) (mvT hZ (hw _ (List.mem_of_getElem? (i := 25) rfl))) (mvT hZ (hw _ (List.mem_of_getElem? (i := 24) rfl))) (by decide) (backOf (W := 0) (rm5 l Z a0 hw [] b10 (q0 + (-7046029254386353131 : Int64)) T26.heap n0 (Nat.le_trans Z0 K26.1) f28 p26_0 ge10) hZ (hw _ (List.mem_of_getElem? (i := 26) rfl)) (hw _ (List.mem_of_getElem? (i := 7) rfl)) (by decide) (by decide)) q49a q49c (g := (mkF m 104 #[.val (.long q0), .second, .val (.long q1), .second, .val (.long (own_bd q1)), .second, .val (.ref b4), .val (.ref b10), .val (.long ((own_draw q0 i_20) % (own_bd q1))), .second, .val (.long ((9223372036854775807 : Int64) / (own_bd q1))), .second, .val (.long (own_draw q0 0)), .second, .unset, .unset, .unset, .unset] [(.ref b10)])) rfl (by rw [hml]; rfl) (Steps.refl _) (argsL := []) (rest := []) (lenOf pd___J rfl) rfl (by show 2 * 0 + _ ≤ _; exact Nat.le_of_eq rfl) (hb hby at_104) (fun _ _ => ⟨rfl, e32, (by decide : 2 + 0 ≤ _), (by decide : 2 + 0 ≤ _)⟩)
    dsimp only [Pt.U, Pt.locs, Pt.cells, Pt.slots] at X49 l49 y49 z49 st49 hQ49
    subst l49 y49 z49
    obtain ⟨rfl, N49q, Kc49, p49_0⟩ := hQ49
    have N49 := Fr.app N32 N49q
    refine OG.step (fun tz kz => st49.trans kz) ?_
    have f50 := f27.keep Kc49
    have f51 := f28.keep Kc49
    have f52 := f30.keep Kc49 (ninS ne10_b4 nin0)
    have K49 := K26.trans Kc49 (allS (Or.inr sz10) all0)
    show OG _ _ _ _ _ _ _ (T49.setTop (mkF m 107 #[.val (.long q0), .second, .val (.long q1), .second, .val (.long (own_bd q1)), .second, .val (.ref b4), .val (.ref b10), .val (.long ((own_draw q0 i_20) % (own_bd q1))), .second, .val (.long ((9223372036854775807 : Int64) / (own_bd q1))), .second, .val (.long (own_draw q0 0)), .second, .unset, .unset, .unset, .unset] [(.long (own_mix ((q0 + (-7046029254386353131 : Int64)) + (-7046029254386353131 : Int64))))]))
    have s54 : ∀ tz, Steps p.tables e below (T49.setTop (mkF m 117 #[.val (.long q0), .second, .val (.long q1), .second, .val (.long (own_bd q1)), .second, .val (.ref b4), .val (.ref b10), .val (.long ((own_draw q0 i_20) % (own_bd q1))), .second, .val (.long ((9223372036854775807 : Int64) / (own_bd q1))), .second, .val (.long (own_draw q0 0)), .second, .val (.long (own_draw q0 1)), .second, .unset, .unset] [(.long ((9223372036854775807 : Int64) / (own_bd q1))), (.long (own_bd q1)), (.long (own_draw q0 1))])) tz → Steps p.tables e below (T49.setTop (mkF m 107 #[.val (.long q0), .second, .val (.long q1), .second, .val (.long (own_bd q1)), .second, .val (.ref b4), .val (.ref b10), .val (.long ((own_draw q0 i_20) % (own_bd q1))), .second, .val (.long ((9223372036854775807 : Int64) / (own_bd q1))), .second, .val (.long (own_draw q0 0)), .second, .unset, .unset, .unset, .unset] [(.long (own_mix ((q0 + (-7046029254386353131 : Int64)) + (-7046029254386353131 : Int64))))])) tz := by
      intro tz kz
      refine XS.iconst X49.here hx rfl (hb hby at_107) ?_
      show Steps p.tables e below (T49.setTop (mkF m 108 #[.val (.long q0), .second, .val (.long q1), .second, .val (.long (own_bd q1)), .second, .val (.ref b4), .val (.ref b10), .val (.long ((own_draw q0 i_20) % (own_bd q1))), .second, .val (.long ((9223372036854775807 : Int64) / (own_bd q1))), .second, .val (.long (own_draw q0 0)), .second, .unset, .unset, .unset, .unset] [(.int (1 : Int32)), (.long (own_mix ((q0 + (-7046029254386353131 : Int64)) + (-7046029254386353131 : Int64))))])) _
      refine XS.lushr X49.here hx rfl (hb hby at_108) rfl ?_
      show Steps p.tables e below (T49.setTop (mkF m 109 #[.val (.long q0), .second, .val (.long q1), .second, .val (.long (own_bd q1)), .second, .val (.ref b4), .val (.ref b10), .val (.long ((own_draw q0 i_20) % (own_bd q1))), .second, .val (.long ((9223372036854775807 : Int64) / (own_bd q1))), .second, .val (.long (own_draw q0 0)), .second, .unset, .unset, .unset, .unset] [(.long (((own_mix ((q0 + (-7046029254386353131 : Int64)) + (-7046029254386353131 : Int64))).toUInt64 >>> ((1 : Int32) &&& 0x3f).toInt64.toUInt64).toInt64))])) _
      refine XS.lstore X49.here hx rfl (hb hby at_109) rfl (l' := #[.val (.long q0), .second, .val (.long q1), .second, .val (.long (own_bd q1)), .second, .val (.ref b4), .val (.ref b10), .val (.long ((own_draw q0 i_20) % (own_bd q1))), .second, .val (.long ((9223372036854775807 : Int64) / (own_bd q1))), .second, .val (.long (own_draw q0 0)), .second, .val (.long (own_draw q0 1)), .second, .unset, .unset]) rfl ?_
      show Steps p.tables e below (T49.setTop (mkF m 111 #[.val (.long q0), .second, .val (.long q1), .second, .val (.long (own_bd q1)), .second, .val (.ref b4), .val (.ref b10), .val (.long ((own_draw q0 i_20) % (own_bd q1))), .second, .val (.long ((9223372036854775807 : Int64) / (own_bd q1))), .second, .val (.long (own_draw q0 0)), .second, .val (.long (own_draw q0 1)), .second, .unset, .unset] [])) _
      refine XS.lload X49.here hx rfl (hb hby at_111) rfl ?_
      show Steps p.tables e below (T49.setTop (mkF m 113 #[.val (.long q0), .second, .val (.long q1), .second, .val (.long (own_bd q1)), .second, .val (.ref b4), .val (.ref b10), .val (.long ((own_draw q0 i_20) % (own_bd q1))), .second, .val (.long ((9223372036854775807 : Int64) / (own_bd q1))), .second, .val (.long (own_draw q0 0)), .second, .val (.long (own_draw q0 1)), .second, .unset, .unset] [(.long (own_draw q0 1))])) _
      refine XS.lload X49.here hx rfl (hb hby at_113) rfl ?_
      show Steps p.tables e below (T49.setTop (mkF m 115 #[.val (.long q0), .second, .val (.long q1), .second, .val (.long (own_bd q1)), .second, .val (.ref b4), .val (.ref b10), .val (.long ((own_draw q0 i_20) % (own_bd q1))), .second, .val (.long ((9223372036854775807 : Int64) / (own_bd q1))), .second, .val (.long (own_draw q0 0)), .second, .val (.long (own_draw q0 1)), .second, .unset, .unset] [(.long (own_bd q1)), (.long (own_draw q0 1))])) _
      refine XS.lload X49.here hx rfl (hb hby at_115) rfl ?_
      exact kz
    refine OG.step s54 ?_
    obtain ⟨_, _, ⟨T55, L55, k55, n55⟩, -, X55, ⟨Lc55, hQ55, l55, y55, z55⟩, st55⟩ := Jvm.LawKit.callS X49 hx (y := (⟨"com/example/manyflow/manyflow/simulate/SeededRandomBelowPinLaw", "kept", "(JJJ)Z"⟩ : MethodName)) hown (mvT hZ (hw _ (List.mem_of_getElem? (i := 31) rfl))) (mvT hZ (hw _ (List.mem_of_getElem? (i := 32) rfl))) (mvT hZ (hw _ (List.mem_of_getElem? (i := 33) rfl))) (mvT hZ (hw _ (List.mem_of_getElem? (i := 34) rfl))) (by decide) (backOf (W := 0) (rm6 l Z a0 hw [] (own_draw q0 1) (own_bd q1) ((9223372036854775807 : Int64) / (own_bd q1)) T49.heap n0 (Nat.le_trans Z0 K49.1) (own_ne0 (own_bpos q1))) hZ (hw _ (List.mem_of_getElem? (i := 34) rfl)) (hw _ (List.mem_of_getElem? (i := 33) rfl)) (by decide) (by decide)) (g := (mkF m 117 #[.val (.long q0), .second, .val (.long q1), .second, .val (.long (own_bd q1)), .second, .val (.ref b4), .val (.ref b10), .val (.long ((own_draw q0 i_20) % (own_bd q1))), .second, .val (.long ((9223372036854775807 : Int64) / (own_bd q1))), .second, .val (.long (own_draw q0 0)), .second, .val (.long (own_draw q0 1)), .second, .unset, .unset] [(.long ((9223372036854775807 : Int64) / (own_bd q1))), (.long (own_bd q1)), (.long (own_draw q0 1))])) rfl (by rw [hml]; rfl) (argsL := [(.long (own_draw q0 1)), (.long (own_bd q1)), (.long ((9223372036854775807 : Int64) / (own_bd q1)))]) (rest := []) (lenOf pd__JJJ_Z rfl) rfl (by show 2 * 0 + _ ≤ _; exact Nat.le_of_eq rfl) (hb hby at_117) (fun _ _ => ⟨rfl, rfl, (by decide : 2 + 0 ≤ _), (by decide : 2 + 0 ≤ _)⟩)
    dsimp only [Pt.U, Pt.locs, Pt.cells, Pt.slots] at X55 l55 y55 z55 st55 hQ55
    subst l55 y55 z55
    obtain ⟨rfl, N55q, e55⟩ := hQ55
    have N55 := Fr.app N49 N55q
    refine OG.step st55 ?_
    show OG _ _ _ _ _ _ _ (T55.setTop (mkF m 120 #[.val (.long q0), .second, .val (.long q1), .second, .val (.long (own_bd q1)), .second, .val (.ref b4), .val (.ref b10), .val (.long ((own_draw q0 i_20) % (own_bd q1))), .second, .val (.long ((9223372036854775807 : Int64) / (own_bd q1))), .second, .val (.long (own_draw q0 0)), .second, .val (.long (own_draw q0 1)), .second, .unset, .unset] [(.int (bI (((own_draw q0 1) / (own_bd q1)) < ((9223372036854775807 : Int64) / (own_bd q1)))))]))
    by_cases hc120 : ((own_draw q0 1) / (own_bd q1)) < ((9223372036854775807 : Int64) / (own_bd q1))
    · have s56 : ∀ tz, Steps p.tables e below (T55.setTop (mkF m 129 #[.val (.long q0), .second, .val (.long q1), .second, .val (.long (own_bd q1)), .second, .val (.ref b4), .val (.ref b10), .val (.long ((own_draw q0 i_20) % (own_bd q1))), .second, .val (.long ((9223372036854775807 : Int64) / (own_bd q1))), .second, .val (.long (own_draw q0 0)), .second, .val (.long (own_draw q0 1)), .second, .unset, .unset] [(.long (own_bd q1)), (.long (own_draw q0 1)), (.long ((own_draw q0 i_20) % (own_bd q1)))])) tz → Steps p.tables e below (T55.setTop (mkF m 120 #[.val (.long q0), .second, .val (.long q1), .second, .val (.long (own_bd q1)), .second, .val (.ref b4), .val (.ref b10), .val (.long ((own_draw q0 i_20) % (own_bd q1))), .second, .val (.long ((9223372036854775807 : Int64) / (own_bd q1))), .second, .val (.long (own_draw q0 0)), .second, .val (.long (own_draw q0 1)), .second, .unset, .unset] [(.int (bI (((own_draw q0 1) / (own_bd q1)) < ((9223372036854775807 : Int64) / (own_bd q1)))))])) tz := by
        intro tz kz
        refine XS.ifNo X55.here hx rfl (hb hby at_120) rfl ((if0 _ _).trans (feq (bI_ne0 hc120)).1) ?_
        show Steps p.tables e below (T55.setTop (mkF m 123 #[.val (.long q0), .second, .val (.long q1), .second, .val (.long (own_bd q1)), .second, .val (.ref b4), .val (.ref b10), .val (.long ((own_draw q0 i_20) % (own_bd q1))), .second, .val (.long ((9223372036854775807 : Int64) / (own_bd q1))), .second, .val (.long (own_draw q0 0)), .second, .val (.long (own_draw q0 1)), .second, .unset, .unset] [])) _
        refine XS.lload X55.here hx rfl (hb hby at_123) rfl ?_
        show Steps p.tables e below (T55.setTop (mkF m 125 #[.val (.long q0), .second, .val (.long q1), .second, .val (.long (own_bd q1)), .second, .val (.ref b4), .val (.ref b10), .val (.long ((own_draw q0 i_20) % (own_bd q1))), .second, .val (.long ((9223372036854775807 : Int64) / (own_bd q1))), .second, .val (.long (own_draw q0 0)), .second, .val (.long (own_draw q0 1)), .second, .unset, .unset] [(.long ((own_draw q0 i_20) % (own_bd q1)))])) _
        refine XS.lload X55.here hx rfl (hb hby at_125) rfl ?_
        show Steps p.tables e below (T55.setTop (mkF m 127 #[.val (.long q0), .second, .val (.long q1), .second, .val (.long (own_bd q1)), .second, .val (.ref b4), .val (.ref b10), .val (.long ((own_draw q0 i_20) % (own_bd q1))), .second, .val (.long ((9223372036854775807 : Int64) / (own_bd q1))), .second, .val (.long (own_draw q0 0)), .second, .val (.long (own_draw q0 1)), .second, .unset, .unset] [(.long (own_draw q0 1)), (.long ((own_draw q0 i_20) % (own_bd q1)))])) _
        refine XS.lload X55.here hx rfl (hb hby at_127) rfl ?_
        exact kz
      refine OG.step s56 ?_
      obtain ⟨_, _, ⟨T57, L57, k57, n57⟩, -, X57, ⟨Lc57, hQ57, l57, y57, z57⟩, st57⟩ := Jvm.LawKit.callS X55 hx (y := (⟨"com/example/manyflow/manyflow/simulate/SeededRandomBelowPinLaw", "rem", "(JJ)J"⟩ : MethodName)) hown (mvT hZ (hw _ (List.mem_of_getElem? (i := 35) rfl))) (mvT hZ (hw _ (List.mem_of_getElem? (i := 36) rfl))) (mvT hZ (hw _ (List.mem_of_getElem? (i := 33) rfl))) (mvT hZ (hw _ (List.mem_of_getElem? (i := 37) rfl))) (by decide) (backOf (W := 2) (rm7 l Z a0 hw [] (own_draw q0 1) (own_bd q1) T49.heap n0 (Nat.le_trans Z0 K49.1) (own_ne0 (own_bpos q1))) hZ (hw _ (List.mem_of_getElem? (i := 37) rfl)) (hw _ (List.mem_of_getElem? (i := 33) rfl)) (by decide) (by decide)) (g := (mkF m 129 #[.val (.long q0), .second, .val (.long q1), .second, .val (.long (own_bd q1)), .second, .val (.ref b4), .val (.ref b10), .val (.long ((own_draw q0 i_20) % (own_bd q1))), .second, .val (.long ((9223372036854775807 : Int64) / (own_bd q1))), .second, .val (.long (own_draw q0 0)), .second, .val (.long (own_draw q0 1)), .second, .unset, .unset] [(.long (own_bd q1)), (.long (own_draw q0 1)), (.long ((own_draw q0 i_20) % (own_bd q1)))])) rfl (by rw [hml]; rfl) (argsL := [(.long (own_draw q0 1)), (.long (own_bd q1))]) (rest := [(.long ((own_draw q0 i_20) % (own_bd q1)))]) (lenOf pd__JJ_J rfl) rfl (by show 2 * 0 + _ ≤ _; exact Nat.le_of_eq rfl) (hb hby at_129) (fun _ _ => ⟨rfl, e55, (by decide : 2 + 0 ≤ _), (by decide : 2 + 0 ≤ _)⟩)
      dsimp only [Pt.U, Pt.locs, Pt.cells, Pt.slots] at X57 l57 y57 z57 st57 hQ57
      subst l57 y57 z57
      obtain ⟨rfl, N57q, e57⟩ := hQ57
      have N57 := Fr.app N55 N57q
      refine OG.step st57 ?_
      show OG _ _ _ _ _ _ _ (T57.setTop (mkF m 132 #[.val (.long q0), .second, .val (.long q1), .second, .val (.long (own_bd q1)), .second, .val (.ref b4), .val (.ref b10), .val (.long ((own_draw q0 i_20) % (own_bd q1))), .second, .val (.long ((9223372036854775807 : Int64) / (own_bd q1))), .second, .val (.long (own_draw q0 0)), .second, .val (.long (own_draw q0 1)), .second, .unset, .unset] [(.long ((own_draw q0 1) - (((own_draw q0 1) / (own_bd q1)) * (own_bd q1)))), (.long ((own_draw q0 i_20) % (own_bd q1)))]))
      have s58 : ∀ tz, Steps p.tables e below (T57.setTop (mkF m 138 #[.val (.long q0), .second, .val (.long q1), .second, .val (.long (own_bd q1)), .second, .val (.ref b4), .val (.ref b10), .val (.long ((own_draw q0 i_20) % (own_bd q1))), .second, .val (.long ((9223372036854775807 : Int64) / (own_bd q1))), .second, .val (.long (own_draw q0 0)), .second, .val (.long (own_draw q0 1)), .second, .unset, .unset] [(.ref b4)])) tz → Steps p.tables e below (T57.setTop (mkF m 132 #[.val (.long q0), .second, .val (.long q1), .second, .val (.long (own_bd q1)), .second, .val (.ref b4), .val (.ref b10), .val (.long ((own_draw q0 i_20) % (own_bd q1))), .second, .val (.long ((9223372036854775807 : Int64) / (own_bd q1))), .second, .val (.long (own_draw q0 0)), .second, .val (.long (own_draw q0 1)), .second, .unset, .unset] [(.long ((own_draw q0 1) - (((own_draw q0 1) / (own_bd q1)) * (own_bd q1)))), (.long ((own_draw q0 i_20) % (own_bd q1)))])) tz := by
        intro tz kz
        refine XS.lcmp X57.here hx rfl (hb hby at_132) rfl ?_
        show Steps p.tables e below (T57.setTop (mkF m 133 #[.val (.long q0), .second, .val (.long q1), .second, .val (.long (own_bd q1)), .second, .val (.ref b4), .val (.ref b10), .val (.long ((own_draw q0 i_20) % (own_bd q1))), .second, .val (.long ((9223372036854775807 : Int64) / (own_bd q1))), .second, .val (.long (own_draw q0 0)), .second, .val (.long (own_draw q0 1)), .second, .unset, .unset] [(.int (lcmpW ((own_draw q0 i_20) % (own_bd q1)) ((own_draw q0 1) - (((own_draw q0 1) / (own_bd q1)) * (own_bd q1)))))])) _
        refine XS.ifNo X57.here hx rfl (hb hby at_133) rfl ((if0 _ _).trans (teq ((lw_eq ((own_draw q0 i_20) % (own_bd q1)) ((own_draw q0 1) - (((own_draw q0 1) / (own_bd q1)) * (own_bd q1)))).mpr (own_rem (own_bpos q1) (own_at1 u20_0 u20_1 (own_bpos q1) hc66 hc120)))).2) ?_
        show Steps p.tables e below (T57.setTop (mkF m 136 #[.val (.long q0), .second, .val (.long q1), .second, .val (.long (own_bd q1)), .second, .val (.ref b4), .val (.ref b10), .val (.long ((own_draw q0 i_20) % (own_bd q1))), .second, .val (.long ((9223372036854775807 : Int64) / (own_bd q1))), .second, .val (.long (own_draw q0 0)), .second, .val (.long (own_draw q0 1)), .second, .unset, .unset] [])) _
        refine XS.aload X57.here hx rfl (hb hby at_136) rfl rfl ?_
        exact kz
      refine OG.step s58 ?_
      obtain ⟨cq59, kq59, q59a, q59b, q59c⟩ := isOf hZ e57 f50
      obtain ⟨_, _, ⟨T59, L59, k59, n59⟩, -, X59, ⟨Lc59, hQ59, l59, y59, z59⟩, st59⟩ := X57.virtualBack hx (y := (⟨"com/example/manyflow/manyflow/simulate/SeededRandom", "nextLong", "()J"⟩ : MethodName)) (z := (⟨"com/example/manyflow/manyflow/simulate/SeededRandom", "nextLong", "()J"⟩ : MethodName)) hown (mvT hZ (hw _ (List.mem_of_getElem? (i := 30) rfl))) (mvT hZ (hw _ (List.mem_of_getElem? (i := 23) rfl))) (notFace_of_selects (args := #[]) (mvT hZ (hw _ (List.mem_of_getElem? (i := 25) rfl)))) (mvT hZ (hw _ (List.mem_of_getElem? (i := 25) rfl))) (mvT hZ (hw _ (List.mem_of_getElem? (i := 24) rfl))) (by decide) (backOf (W := 0) (rm5 l Z a0 hw [] b4 (own_s q0 (i_20 + 1)) T49.heap n0 (Nat.le_trans Z0 K49.1) f50 f52 ge4) hZ (hw _ (List.mem_of_getElem? (i := 26) rfl)) (hw _ (List.mem_of_getElem? (i := 7) rfl)) (by decide) (by decide)) q59a q59c (g := (mkF m 138 #[.val (.long q0), .second, .val (.long q1), .second, .val (.long (own_bd q1)), .second, .val (.ref b4), .val (.ref b10), .val (.long ((own_draw q0 i_20) % (own_bd q1))), .second, .val (.long ((9223372036854775807 : Int64) / (own_bd q1))), .second, .val (.long (own_draw q0 0)), .second, .val (.long (own_draw q0 1)), .second, .unset, .unset] [(.ref b4)])) rfl (by rw [hml]; rfl) (Steps.refl _) (argsL := []) (rest := []) (lenOf pd___J rfl) rfl (by show 2 * 0 + _ ≤ _; exact Nat.le_of_eq rfl) (hb hby at_138) (fun _ _ => ⟨rfl, e57, (by decide : 2 + 0 ≤ _), (by decide : 2 + 0 ≤ _)⟩)
      dsimp only [Pt.U, Pt.locs, Pt.cells, Pt.slots] at X59 l59 y59 z59 st59 hQ59
      subst l59 y59 z59
      obtain ⟨rfl, N59q, Kc59, p59_0⟩ := hQ59
      have N59 := Fr.app N57 N59q
      refine OG.step (fun tz kz => st59.trans kz) ?_
      have f60 := f50.keep Kc59
      have f61 := f51.keep Kc59
      have f63 := p49_0.keep Kc59 (ninS (Ne.symm ne10_b4) nin0)
      have K59 := K49.trans Kc59 (allS (Or.inr sz4) all0)
      show OG _ _ _ _ _ _ _ (T59.setTop (mkF m 141 #[.val (.long q0), .second, .val (.long q1), .second, .val (.long (own_bd q1)), .second, .val (.ref b4), .val (.ref b10), .val (.long ((own_draw q0 i_20) % (own_bd q1))), .second, .val (.long ((9223372036854775807 : Int64) / (own_bd q1))), .second, .val (.long (own_draw q0 0)), .second, .val (.long (own_draw q0 1)), .second, .unset, .unset] [(.long (own_mix ((own_s q0 (i_20 + 1)) + (-7046029254386353131 : Int64))))]))
      have s64 : ∀ tz, Steps p.tables e below (T59.setTop (mkF m 143 #[.val (.long q0), .second, .val (.long q1), .second, .val (.long (own_bd q1)), .second, .val (.ref b4), .val (.ref b10), .val (.long ((own_draw q0 i_20) % (own_bd q1))), .second, .val (.long ((9223372036854775807 : Int64) / (own_bd q1))), .second, .val (.long (own_draw q0 0)), .second, .val (.long (own_draw q0 1)), .second, .unset, .unset] [(.ref b10), (.long (own_mix ((own_s q0 (i_20 + 1)) + (-7046029254386353131 : Int64))))])) tz → Steps p.tables e below (T59.setTop (mkF m 141 #[.val (.long q0), .second, .val (.long q1), .second, .val (.long (own_bd q1)), .second, .val (.ref b4), .val (.ref b10), .val (.long ((own_draw q0 i_20) % (own_bd q1))), .second, .val (.long ((9223372036854775807 : Int64) / (own_bd q1))), .second, .val (.long (own_draw q0 0)), .second, .val (.long (own_draw q0 1)), .second, .unset, .unset] [(.long (own_mix ((own_s q0 (i_20 + 1)) + (-7046029254386353131 : Int64))))])) tz := by
        intro tz kz
        refine XS.aload X59.here hx rfl (hb hby at_141) rfl rfl ?_
        exact kz
      refine OG.step s64 ?_
      obtain ⟨cq65, kq65, q65a, q65b, q65c⟩ := isOf hZ rfl f61
      obtain ⟨_, _, ⟨T65, L65, k65, n65⟩, -, X65, ⟨Lc65, hQ65, l65, y65, z65⟩, st65⟩ := X59.virtualBack hx (y := (⟨"com/example/manyflow/manyflow/simulate/SeededRandom", "nextLong", "()J"⟩ : MethodName)) (z := (⟨"com/example/manyflow/manyflow/simulate/SeededRandom", "nextLong", "()J"⟩ : MethodName)) hown (mvT hZ (hw _ (List.mem_of_getElem? (i := 30) rfl))) (mvT hZ (hw _ (List.mem_of_getElem? (i := 23) rfl))) (notFace_of_selects (args := #[]) (mvT hZ (hw _ (List.mem_of_getElem? (i := 25) rfl)))) (mvT hZ (hw _ (List.mem_of_getElem? (i := 25) rfl))) (mvT hZ (hw _ (List.mem_of_getElem? (i := 24) rfl))) (by decide) (backOf (W := 2) (rm5 l Z a0 hw [] b10 ((q0 + (-7046029254386353131 : Int64)) + (-7046029254386353131 : Int64)) T59.heap n0 (Nat.le_trans Z0 K59.1) f61 f63 ge10) hZ (hw _ (List.mem_of_getElem? (i := 26) rfl)) (hw _ (List.mem_of_getElem? (i := 7) rfl)) (by decide) (by decide)) q65a q65c (g := (mkF m 143 #[.val (.long q0), .second, .val (.long q1), .second, .val (.long (own_bd q1)), .second, .val (.ref b4), .val (.ref b10), .val (.long ((own_draw q0 i_20) % (own_bd q1))), .second, .val (.long ((9223372036854775807 : Int64) / (own_bd q1))), .second, .val (.long (own_draw q0 0)), .second, .val (.long (own_draw q0 1)), .second, .unset, .unset] [(.ref b10), (.long (own_mix ((own_s q0 (i_20 + 1)) + (-7046029254386353131 : Int64))))])) rfl (by rw [hml]; rfl) (Steps.refl _) (argsL := []) (rest := [(.long (own_mix ((own_s q0 (i_20 + 1)) + (-7046029254386353131 : Int64))))]) (lenOf pd___J rfl) rfl (by show 2 * 0 + _ ≤ _; exact Nat.le_of_eq rfl) (hb hby at_143) (fun _ _ => ⟨rfl, rfl, (by decide : 2 + 0 ≤ _), (by decide : 2 + 0 ≤ _)⟩)
      dsimp only [Pt.U, Pt.locs, Pt.cells, Pt.slots] at X65 l65 y65 z65 st65 hQ65
      subst l65 y65 z65
      obtain ⟨rfl, N65q, Kc65, p65_0⟩ := hQ65
      have N65 := Fr.app N59 N65q
      refine OG.step (fun tz kz => st65.trans kz) ?_
      have f66 := f60.keep Kc65
      have f67 := f61.keep Kc65
      have f69 := p59_0.keep Kc65 (ninS ne10_b4 nin0)
      have K65 := K59.trans Kc65 (allS (Or.inr sz10) all0)
      show OG _ _ _ _ _ _ _ (T65.setTop (mkF m 146 #[.val (.long q0), .second, .val (.long q1), .second, .val (.long (own_bd q1)), .second, .val (.ref b4), .val (.ref b10), .val (.long ((own_draw q0 i_20) % (own_bd q1))), .second, .val (.long ((9223372036854775807 : Int64) / (own_bd q1))), .second, .val (.long (own_draw q0 0)), .second, .val (.long (own_draw q0 1)), .second, .unset, .unset] [(.long (own_mix (((q0 + (-7046029254386353131 : Int64)) + (-7046029254386353131 : Int64)) + (-7046029254386353131 : Int64)))), (.long (own_mix ((own_s q0 (i_20 + 1)) + (-7046029254386353131 : Int64))))]))
      have s70 : ∀ tz, Steps p.tables e below (T65.setTop (mkF m 155 #[.val (.long q0), .second, .val (.long q1), .second, .val (.long (own_bd q1)), .second, .val (.ref b4), .val (.ref b10), .val (.long ((own_draw q0 i_20) % (own_bd q1))), .second, .val (.long ((9223372036854775807 : Int64) / (own_bd q1))), .second, .val (.long (own_draw q0 0)), .second, .val (.long (own_draw q0 1)), .second, .unset, .unset] [(.int (1 : Int32))])) tz → Steps p.tables e below (T65.setTop (mkF m 146 #[.val (.long q0), .second, .val (.long q1), .second, .val (.long (own_bd q1)), .second, .val (.ref b4), .val (.ref b10), .val (.long ((own_draw q0 i_20) % (own_bd q1))), .second, .val (.long ((9223372036854775807 : Int64) / (own_bd q1))), .second, .val (.long (own_draw q0 0)), .second, .val (.long (own_draw q0 1)), .second, .unset, .unset] [(.long (own_mix (((q0 + (-7046029254386353131 : Int64)) + (-7046029254386353131 : Int64)) + (-7046029254386353131 : Int64)))), (.long (own_mix ((own_s q0 (i_20 + 1)) + (-7046029254386353131 : Int64))))])) tz := by
        intro tz kz
        refine XS.lcmp X65.here hx rfl (hb hby at_146) rfl ?_
        show Steps p.tables e below (T65.setTop (mkF m 147 #[.val (.long q0), .second, .val (.long q1), .second, .val (.long (own_bd q1)), .second, .val (.ref b4), .val (.ref b10), .val (.long ((own_draw q0 i_20) % (own_bd q1))), .second, .val (.long ((9223372036854775807 : Int64) / (own_bd q1))), .second, .val (.long (own_draw q0 0)), .second, .val (.long (own_draw q0 1)), .second, .unset, .unset] [(.int (lcmpW (own_mix ((own_s q0 (i_20 + 1)) + (-7046029254386353131 : Int64))) (own_mix (((q0 + (-7046029254386353131 : Int64)) + (-7046029254386353131 : Int64)) + (-7046029254386353131 : Int64)))))])) _
        refine XS.ifNo X65.here hx rfl (hb hby at_147) rfl ((if0 _ _).trans (teq ((lw_eq (own_mix ((own_s q0 (i_20 + 1)) + (-7046029254386353131 : Int64))) (own_mix (((q0 + (-7046029254386353131 : Int64)) + (-7046029254386353131 : Int64)) + (-7046029254386353131 : Int64)))).mpr (own_same1 (own_at1 u20_0 u20_1 (own_bpos q1) hc66 hc120)))).2) ?_
        show Steps p.tables e below (T65.setTop (mkF m 150 #[.val (.long q0), .second, .val (.long q1), .second, .val (.long (own_bd q1)), .second, .val (.ref b4), .val (.ref b10), .val (.long ((own_draw q0 i_20) % (own_bd q1))), .second, .val (.long ((9223372036854775807 : Int64) / (own_bd q1))), .second, .val (.long (own_draw q0 0)), .second, .val (.long (own_draw q0 1)), .second, .unset, .unset] [])) _
        refine XS.iconst X65.here hx rfl (hb hby at_150) ?_
        show Steps p.tables e below (T65.setTop (mkF m 151 #[.val (.long q0), .second, .val (.long q1), .second, .val (.long (own_bd q1)), .second, .val (.ref b4), .val (.ref b10), .val (.long ((own_draw q0 i_20) % (own_bd q1))), .second, .val (.long ((9223372036854775807 : Int64) / (own_bd q1))), .second, .val (.long (own_draw q0 0)), .second, .val (.long (own_draw q0 1)), .second, .unset, .unset] [(.int (1 : Int32))])) _
        refine XS.goto X65.here hx rfl (pc0 := 151) (pc' := 155) rfl (hb hby at_151) (by decide) (by decide) ?_
        exact kz
      refine OG.step s70 ?_
      exact OG.retZ X65 hx hlk Bd.returns (hb hby at_155) (nar_1) rfl ⟨rfl, N65⟩ (by decide) (by decide)
    · have s71 : ∀ tz, Steps p.tables e below (T55.setTop (mkF m 158 #[.val (.long q0), .second, .val (.long q1), .second, .val (.long (own_bd q1)), .second, .val (.ref b4), .val (.ref b10), .val (.long ((own_draw q0 i_20) % (own_bd q1))), .second, .val (.long ((9223372036854775807 : Int64) / (own_bd q1))), .second, .val (.long (own_draw q0 0)), .second, .val (.long (own_draw q0 1)), .second, .unset, .unset] [(.ref b10)])) tz → Steps p.tables e below (T55.setTop (mkF m 120 #[.val (.long q0), .second, .val (.long q1), .second, .val (.long (own_bd q1)), .second, .val (.ref b4), .val (.ref b10), .val (.long ((own_draw q0 i_20) % (own_bd q1))), .second, .val (.long ((9223372036854775807 : Int64) / (own_bd q1))), .second, .val (.long (own_draw q0 0)), .second, .val (.long (own_draw q0 1)), .second, .unset, .unset] [(.int (bI (((own_draw q0 1) / (own_bd q1)) < ((9223372036854775807 : Int64) / (own_bd q1)))))])) tz := by
        intro tz kz
        refine XS.ifYes X55.here hx rfl (pc0 := 120) (pc' := 156) rfl (hb hby at_120) rfl ((if0 _ _).trans (teq (bI_0 hc120)).1) (by decide) (by decide) ?_
        show Steps p.tables e below (T55.setTop (mkF m 156 #[.val (.long q0), .second, .val (.long q1), .second, .val (.long (own_bd q1)), .second, .val (.ref b4), .val (.ref b10), .val (.long ((own_draw q0 i_20) % (own_bd q1))), .second, .val (.long ((9223372036854775807 : Int64) / (own_bd q1))), .second, .val (.long (own_draw q0 0)), .second, .val (.long (own_draw q0 1)), .second, .unset, .unset] [])) _
        refine XS.aload X55.here hx rfl (hb hby at_156) rfl rfl ?_
        exact kz
      refine OG.step s71 ?_
      obtain ⟨cq72, kq72, q72a, q72b, q72c⟩ := isOf hZ e55 f51
      obtain ⟨_, _, ⟨T72, L72, k72, n72⟩, -, X72, ⟨Lc72, hQ72, l72, y72, z72⟩, st72⟩ := X55.virtualBack hx (y := (⟨"com/example/manyflow/manyflow/simulate/SeededRandom", "nextLong", "()J"⟩ : MethodName)) (z := (⟨"com/example/manyflow/manyflow/simulate/SeededRandom", "nextLong", "()J"⟩ : MethodName)) hown (mvT hZ (hw _ (List.mem_of_getElem? (i := 30) rfl))) (mvT hZ (hw _ (List.mem_of_getElem? (i := 23) rfl))) (notFace_of_selects (args := #[]) (mvT hZ (hw _ (List.mem_of_getElem? (i := 25) rfl)))) (mvT hZ (hw _ (List.mem_of_getElem? (i := 25) rfl))) (mvT hZ (hw _ (List.mem_of_getElem? (i := 24) rfl))) (by decide) (backOf (W := 0) (rm5 l Z a0 hw [] b10 ((q0 + (-7046029254386353131 : Int64)) + (-7046029254386353131 : Int64)) T49.heap n0 (Nat.le_trans Z0 K49.1) f51 p49_0 ge10) hZ (hw _ (List.mem_of_getElem? (i := 26) rfl)) (hw _ (List.mem_of_getElem? (i := 7) rfl)) (by decide) (by decide)) q72a q72c (g := (mkF m 158 #[.val (.long q0), .second, .val (.long q1), .second, .val (.long (own_bd q1)), .second, .val (.ref b4), .val (.ref b10), .val (.long ((own_draw q0 i_20) % (own_bd q1))), .second, .val (.long ((9223372036854775807 : Int64) / (own_bd q1))), .second, .val (.long (own_draw q0 0)), .second, .val (.long (own_draw q0 1)), .second, .unset, .unset] [(.ref b10)])) rfl (by rw [hml]; rfl) (Steps.refl _) (argsL := []) (rest := []) (lenOf pd___J rfl) rfl (by show 2 * 0 + _ ≤ _; exact Nat.le_of_eq rfl) (hb hby at_158) (fun _ _ => ⟨rfl, e55, (by decide : 2 + 0 ≤ _), (by decide : 2 + 0 ≤ _)⟩)
      dsimp only [Pt.U, Pt.locs, Pt.cells, Pt.slots] at X72 l72 y72 z72 st72 hQ72
      subst l72 y72 z72
      obtain ⟨rfl, N72q, Kc72, p72_0⟩ := hQ72
      have N72 := Fr.app N55 N72q
      refine OG.step (fun tz kz => st72.trans kz) ?_
      have f73 := f50.keep Kc72
      have f74 := f51.keep Kc72
      have f75 := f52.keep Kc72 (ninS ne10_b4 nin0)
      have K72 := K49.trans Kc72 (allS (Or.inr sz10) all0)
      show OG _ _ _ _ _ _ _ (T72.setTop (mkF m 161 #[.val (.long q0), .second, .val (.long q1), .second, .val (.long (own_bd q1)), .second, .val (.ref b4), .val (.ref b10), .val (.long ((own_draw q0 i_20) % (own_bd q1))), .second, .val (.long ((9223372036854775807 : Int64) / (own_bd q1))), .second, .val (.long (own_draw q0 0)), .second, .val (.long (own_draw q0 1)), .second, .unset, .unset] [(.long (own_mix (((q0 + (-7046029254386353131 : Int64)) + (-7046029254386353131 : Int64)) + (-7046029254386353131 : Int64))))]))
      have s77 : ∀ tz, Steps p.tables e below (T72.setTop (mkF m 171 #[.val (.long q0), .second, .val (.long q1), .second, .val (.long (own_bd q1)), .second, .val (.ref b4), .val (.ref b10), .val (.long ((own_draw q0 i_20) % (own_bd q1))), .second, .val (.long ((9223372036854775807 : Int64) / (own_bd q1))), .second, .val (.long (own_draw q0 0)), .second, .val (.long (own_draw q0 1)), .second, .val (.long (own_draw q0 2)), .second] [(.long ((9223372036854775807 : Int64) / (own_bd q1))), (.long (own_bd q1)), (.long (own_draw q0 2))])) tz → Steps p.tables e below (T72.setTop (mkF m 161 #[.val (.long q0), .second, .val (.long q1), .second, .val (.long (own_bd q1)), .second, .val (.ref b4), .val (.ref b10), .val (.long ((own_draw q0 i_20) % (own_bd q1))), .second, .val (.long ((9223372036854775807 : Int64) / (own_bd q1))), .second, .val (.long (own_draw q0 0)), .second, .val (.long (own_draw q0 1)), .second, .unset, .unset] [(.long (own_mix (((q0 + (-7046029254386353131 : Int64)) + (-7046029254386353131 : Int64)) + (-7046029254386353131 : Int64))))])) tz := by
        intro tz kz
        refine XS.iconst X72.here hx rfl (hb hby at_161) ?_
        show Steps p.tables e below (T72.setTop (mkF m 162 #[.val (.long q0), .second, .val (.long q1), .second, .val (.long (own_bd q1)), .second, .val (.ref b4), .val (.ref b10), .val (.long ((own_draw q0 i_20) % (own_bd q1))), .second, .val (.long ((9223372036854775807 : Int64) / (own_bd q1))), .second, .val (.long (own_draw q0 0)), .second, .val (.long (own_draw q0 1)), .second, .unset, .unset] [(.int (1 : Int32)), (.long (own_mix (((q0 + (-7046029254386353131 : Int64)) + (-7046029254386353131 : Int64)) + (-7046029254386353131 : Int64))))])) _
        refine XS.lushr X72.here hx rfl (hb hby at_162) rfl ?_
        show Steps p.tables e below (T72.setTop (mkF m 163 #[.val (.long q0), .second, .val (.long q1), .second, .val (.long (own_bd q1)), .second, .val (.ref b4), .val (.ref b10), .val (.long ((own_draw q0 i_20) % (own_bd q1))), .second, .val (.long ((9223372036854775807 : Int64) / (own_bd q1))), .second, .val (.long (own_draw q0 0)), .second, .val (.long (own_draw q0 1)), .second, .unset, .unset] [(.long (((own_mix (((q0 + (-7046029254386353131 : Int64)) + (-7046029254386353131 : Int64)) + (-7046029254386353131 : Int64))).toUInt64 >>> ((1 : Int32) &&& 0x3f).toInt64.toUInt64).toInt64))])) _
        refine XS.lstore X72.here hx rfl (hb hby at_163) rfl (l' := #[.val (.long q0), .second, .val (.long q1), .second, .val (.long (own_bd q1)), .second, .val (.ref b4), .val (.ref b10), .val (.long ((own_draw q0 i_20) % (own_bd q1))), .second, .val (.long ((9223372036854775807 : Int64) / (own_bd q1))), .second, .val (.long (own_draw q0 0)), .second, .val (.long (own_draw q0 1)), .second, .val (.long (own_draw q0 2)), .second]) rfl ?_
        show Steps p.tables e below (T72.setTop (mkF m 165 #[.val (.long q0), .second, .val (.long q1), .second, .val (.long (own_bd q1)), .second, .val (.ref b4), .val (.ref b10), .val (.long ((own_draw q0 i_20) % (own_bd q1))), .second, .val (.long ((9223372036854775807 : Int64) / (own_bd q1))), .second, .val (.long (own_draw q0 0)), .second, .val (.long (own_draw q0 1)), .second, .val (.long (own_draw q0 2)), .second] [])) _
        refine XS.lload X72.here hx rfl (hb hby at_165) rfl ?_
        show Steps p.tables e below (T72.setTop (mkF m 167 #[.val (.long q0), .second, .val (.long q1), .second, .val (.long (own_bd q1)), .second, .val (.ref b4), .val (.ref b10), .val (.long ((own_draw q0 i_20) % (own_bd q1))), .second, .val (.long ((9223372036854775807 : Int64) / (own_bd q1))), .second, .val (.long (own_draw q0 0)), .second, .val (.long (own_draw q0 1)), .second, .val (.long (own_draw q0 2)), .second] [(.long (own_draw q0 2))])) _
        refine XS.lload X72.here hx rfl (hb hby at_167) rfl ?_
        show Steps p.tables e below (T72.setTop (mkF m 169 #[.val (.long q0), .second, .val (.long q1), .second, .val (.long (own_bd q1)), .second, .val (.ref b4), .val (.ref b10), .val (.long ((own_draw q0 i_20) % (own_bd q1))), .second, .val (.long ((9223372036854775807 : Int64) / (own_bd q1))), .second, .val (.long (own_draw q0 0)), .second, .val (.long (own_draw q0 1)), .second, .val (.long (own_draw q0 2)), .second] [(.long (own_bd q1)), (.long (own_draw q0 2))])) _
        refine XS.lload X72.here hx rfl (hb hby at_169) rfl ?_
        exact kz
      refine OG.step s77 ?_
      obtain ⟨_, _, ⟨T78, L78, k78, n78⟩, -, X78, ⟨Lc78, hQ78, l78, y78, z78⟩, st78⟩ := Jvm.LawKit.callS X72 hx (y := (⟨"com/example/manyflow/manyflow/simulate/SeededRandomBelowPinLaw", "kept", "(JJJ)Z"⟩ : MethodName)) hown (mvT hZ (hw _ (List.mem_of_getElem? (i := 31) rfl))) (mvT hZ (hw _ (List.mem_of_getElem? (i := 32) rfl))) (mvT hZ (hw _ (List.mem_of_getElem? (i := 33) rfl))) (mvT hZ (hw _ (List.mem_of_getElem? (i := 34) rfl))) (by decide) (backOf (W := 0) (rm6 l Z a0 hw [] (own_draw q0 2) (own_bd q1) ((9223372036854775807 : Int64) / (own_bd q1)) T72.heap n0 (Nat.le_trans Z0 K72.1) (own_ne0 (own_bpos q1))) hZ (hw _ (List.mem_of_getElem? (i := 34) rfl)) (hw _ (List.mem_of_getElem? (i := 33) rfl)) (by decide) (by decide)) (g := (mkF m 171 #[.val (.long q0), .second, .val (.long q1), .second, .val (.long (own_bd q1)), .second, .val (.ref b4), .val (.ref b10), .val (.long ((own_draw q0 i_20) % (own_bd q1))), .second, .val (.long ((9223372036854775807 : Int64) / (own_bd q1))), .second, .val (.long (own_draw q0 0)), .second, .val (.long (own_draw q0 1)), .second, .val (.long (own_draw q0 2)), .second] [(.long ((9223372036854775807 : Int64) / (own_bd q1))), (.long (own_bd q1)), (.long (own_draw q0 2))])) rfl (by rw [hml]; rfl) (argsL := [(.long (own_draw q0 2)), (.long (own_bd q1)), (.long ((9223372036854775807 : Int64) / (own_bd q1)))]) (rest := []) (lenOf pd__JJJ_Z rfl) rfl (by show 2 * 0 + _ ≤ _; exact Nat.le_of_eq rfl) (hb hby at_171) (fun _ _ => ⟨rfl, rfl, (by decide : 2 + 0 ≤ _), (by decide : 2 + 0 ≤ _)⟩)
      dsimp only [Pt.U, Pt.locs, Pt.cells, Pt.slots] at X78 l78 y78 z78 st78 hQ78
      subst l78 y78 z78
      obtain ⟨rfl, N78q, e78⟩ := hQ78
      have N78 := Fr.app N72 N78q
      refine OG.step st78 ?_
      show OG _ _ _ _ _ _ _ (T78.setTop (mkF m 174 #[.val (.long q0), .second, .val (.long q1), .second, .val (.long (own_bd q1)), .second, .val (.ref b4), .val (.ref b10), .val (.long ((own_draw q0 i_20) % (own_bd q1))), .second, .val (.long ((9223372036854775807 : Int64) / (own_bd q1))), .second, .val (.long (own_draw q0 0)), .second, .val (.long (own_draw q0 1)), .second, .val (.long (own_draw q0 2)), .second] [(.int (bI (((own_draw q0 2) / (own_bd q1)) < ((9223372036854775807 : Int64) / (own_bd q1)))))]))
      by_cases hc174 : ((own_draw q0 2) / (own_bd q1)) < ((9223372036854775807 : Int64) / (own_bd q1))
      · have s79 : ∀ tz, Steps p.tables e below (T78.setTop (mkF m 183 #[.val (.long q0), .second, .val (.long q1), .second, .val (.long (own_bd q1)), .second, .val (.ref b4), .val (.ref b10), .val (.long ((own_draw q0 i_20) % (own_bd q1))), .second, .val (.long ((9223372036854775807 : Int64) / (own_bd q1))), .second, .val (.long (own_draw q0 0)), .second, .val (.long (own_draw q0 1)), .second, .val (.long (own_draw q0 2)), .second] [(.long (own_bd q1)), (.long (own_draw q0 2)), (.long ((own_draw q0 i_20) % (own_bd q1)))])) tz → Steps p.tables e below (T78.setTop (mkF m 174 #[.val (.long q0), .second, .val (.long q1), .second, .val (.long (own_bd q1)), .second, .val (.ref b4), .val (.ref b10), .val (.long ((own_draw q0 i_20) % (own_bd q1))), .second, .val (.long ((9223372036854775807 : Int64) / (own_bd q1))), .second, .val (.long (own_draw q0 0)), .second, .val (.long (own_draw q0 1)), .second, .val (.long (own_draw q0 2)), .second] [(.int (bI (((own_draw q0 2) / (own_bd q1)) < ((9223372036854775807 : Int64) / (own_bd q1)))))])) tz := by
          intro tz kz
          refine XS.ifNo X78.here hx rfl (hb hby at_174) rfl ((if0 _ _).trans (feq (bI_ne0 hc174)).1) ?_
          show Steps p.tables e below (T78.setTop (mkF m 177 #[.val (.long q0), .second, .val (.long q1), .second, .val (.long (own_bd q1)), .second, .val (.ref b4), .val (.ref b10), .val (.long ((own_draw q0 i_20) % (own_bd q1))), .second, .val (.long ((9223372036854775807 : Int64) / (own_bd q1))), .second, .val (.long (own_draw q0 0)), .second, .val (.long (own_draw q0 1)), .second, .val (.long (own_draw q0 2)), .second] [])) _
          refine XS.lload X78.here hx rfl (hb hby at_177) rfl ?_
          show Steps p.tables e below (T78.setTop (mkF m 179 #[.val (.long q0), .second, .val (.long q1), .second, .val (.long (own_bd q1)), .second, .val (.ref b4), .val (.ref b10), .val (.long ((own_draw q0 i_20) % (own_bd q1))), .second, .val (.long ((9223372036854775807 : Int64) / (own_bd q1))), .second, .val (.long (own_draw q0 0)), .second, .val (.long (own_draw q0 1)), .second, .val (.long (own_draw q0 2)), .second] [(.long ((own_draw q0 i_20) % (own_bd q1)))])) _
          refine XS.lload X78.here hx rfl (hb hby at_179) rfl ?_
          show Steps p.tables e below (T78.setTop (mkF m 181 #[.val (.long q0), .second, .val (.long q1), .second, .val (.long (own_bd q1)), .second, .val (.ref b4), .val (.ref b10), .val (.long ((own_draw q0 i_20) % (own_bd q1))), .second, .val (.long ((9223372036854775807 : Int64) / (own_bd q1))), .second, .val (.long (own_draw q0 0)), .second, .val (.long (own_draw q0 1)), .second, .val (.long (own_draw q0 2)), .second] [(.long (own_draw q0 2)), (.long ((own_draw q0 i_20) % (own_bd q1)))])) _
          refine XS.lload X78.here hx rfl (hb hby at_181) rfl ?_
          exact kz
        refine OG.step s79 ?_
        obtain ⟨_, _, ⟨T80, L80, k80, n80⟩, -, X80, ⟨Lc80, hQ80, l80, y80, z80⟩, st80⟩ := Jvm.LawKit.callS X78 hx (y := (⟨"com/example/manyflow/manyflow/simulate/SeededRandomBelowPinLaw", "rem", "(JJ)J"⟩ : MethodName)) hown (mvT hZ (hw _ (List.mem_of_getElem? (i := 35) rfl))) (mvT hZ (hw _ (List.mem_of_getElem? (i := 36) rfl))) (mvT hZ (hw _ (List.mem_of_getElem? (i := 33) rfl))) (mvT hZ (hw _ (List.mem_of_getElem? (i := 37) rfl))) (by decide) (backOf (W := 2) (rm7 l Z a0 hw [] (own_draw q0 2) (own_bd q1) T72.heap n0 (Nat.le_trans Z0 K72.1) (own_ne0 (own_bpos q1))) hZ (hw _ (List.mem_of_getElem? (i := 37) rfl)) (hw _ (List.mem_of_getElem? (i := 33) rfl)) (by decide) (by decide)) (g := (mkF m 183 #[.val (.long q0), .second, .val (.long q1), .second, .val (.long (own_bd q1)), .second, .val (.ref b4), .val (.ref b10), .val (.long ((own_draw q0 i_20) % (own_bd q1))), .second, .val (.long ((9223372036854775807 : Int64) / (own_bd q1))), .second, .val (.long (own_draw q0 0)), .second, .val (.long (own_draw q0 1)), .second, .val (.long (own_draw q0 2)), .second] [(.long (own_bd q1)), (.long (own_draw q0 2)), (.long ((own_draw q0 i_20) % (own_bd q1)))])) rfl (by rw [hml]; rfl) (argsL := [(.long (own_draw q0 2)), (.long (own_bd q1))]) (rest := [(.long ((own_draw q0 i_20) % (own_bd q1)))]) (lenOf pd__JJ_J rfl) rfl (by show 2 * 0 + _ ≤ _; exact Nat.le_of_eq rfl) (hb hby at_183) (fun _ _ => ⟨rfl, e78, (by decide : 2 + 0 ≤ _), (by decide : 2 + 0 ≤ _)⟩)
        dsimp only [Pt.U, Pt.locs, Pt.cells, Pt.slots] at X80 l80 y80 z80 st80 hQ80
        subst l80 y80 z80
        obtain ⟨rfl, N80q, e80⟩ := hQ80
        have N80 := Fr.app N78 N80q
        refine OG.step st80 ?_
        show OG _ _ _ _ _ _ _ (T80.setTop (mkF m 186 #[.val (.long q0), .second, .val (.long q1), .second, .val (.long (own_bd q1)), .second, .val (.ref b4), .val (.ref b10), .val (.long ((own_draw q0 i_20) % (own_bd q1))), .second, .val (.long ((9223372036854775807 : Int64) / (own_bd q1))), .second, .val (.long (own_draw q0 0)), .second, .val (.long (own_draw q0 1)), .second, .val (.long (own_draw q0 2)), .second] [(.long ((own_draw q0 2) - (((own_draw q0 2) / (own_bd q1)) * (own_bd q1)))), (.long ((own_draw q0 i_20) % (own_bd q1)))]))
        have s81 : ∀ tz, Steps p.tables e below (T80.setTop (mkF m 192 #[.val (.long q0), .second, .val (.long q1), .second, .val (.long (own_bd q1)), .second, .val (.ref b4), .val (.ref b10), .val (.long ((own_draw q0 i_20) % (own_bd q1))), .second, .val (.long ((9223372036854775807 : Int64) / (own_bd q1))), .second, .val (.long (own_draw q0 0)), .second, .val (.long (own_draw q0 1)), .second, .val (.long (own_draw q0 2)), .second] [(.ref b4)])) tz → Steps p.tables e below (T80.setTop (mkF m 186 #[.val (.long q0), .second, .val (.long q1), .second, .val (.long (own_bd q1)), .second, .val (.ref b4), .val (.ref b10), .val (.long ((own_draw q0 i_20) % (own_bd q1))), .second, .val (.long ((9223372036854775807 : Int64) / (own_bd q1))), .second, .val (.long (own_draw q0 0)), .second, .val (.long (own_draw q0 1)), .second, .val (.long (own_draw q0 2)), .second] [(.long ((own_draw q0 2) - (((own_draw q0 2) / (own_bd q1)) * (own_bd q1)))), (.long ((own_draw q0 i_20) % (own_bd q1)))])) tz := by
          intro tz kz
          refine XS.lcmp X80.here hx rfl (hb hby at_186) rfl ?_
          show Steps p.tables e below (T80.setTop (mkF m 187 #[.val (.long q0), .second, .val (.long q1), .second, .val (.long (own_bd q1)), .second, .val (.ref b4), .val (.ref b10), .val (.long ((own_draw q0 i_20) % (own_bd q1))), .second, .val (.long ((9223372036854775807 : Int64) / (own_bd q1))), .second, .val (.long (own_draw q0 0)), .second, .val (.long (own_draw q0 1)), .second, .val (.long (own_draw q0 2)), .second] [(.int (lcmpW ((own_draw q0 i_20) % (own_bd q1)) ((own_draw q0 2) - (((own_draw q0 2) / (own_bd q1)) * (own_bd q1)))))])) _
          refine XS.ifNo X80.here hx rfl (hb hby at_187) rfl ((if0 _ _).trans (teq ((lw_eq ((own_draw q0 i_20) % (own_bd q1)) ((own_draw q0 2) - (((own_draw q0 2) / (own_bd q1)) * (own_bd q1)))).mpr (own_rem (own_bpos q1) (own_at2 u20_0 u20_1 (own_bpos q1) hc66 hc120 hc174)))).2) ?_
          show Steps p.tables e below (T80.setTop (mkF m 190 #[.val (.long q0), .second, .val (.long q1), .second, .val (.long (own_bd q1)), .second, .val (.ref b4), .val (.ref b10), .val (.long ((own_draw q0 i_20) % (own_bd q1))), .second, .val (.long ((9223372036854775807 : Int64) / (own_bd q1))), .second, .val (.long (own_draw q0 0)), .second, .val (.long (own_draw q0 1)), .second, .val (.long (own_draw q0 2)), .second] [])) _
          refine XS.aload X80.here hx rfl (hb hby at_190) rfl rfl ?_
          exact kz
        refine OG.step s81 ?_
        obtain ⟨cq82, kq82, q82a, q82b, q82c⟩ := isOf hZ e80 f73
        obtain ⟨_, _, ⟨T82, L82, k82, n82⟩, -, X82, ⟨Lc82, hQ82, l82, y82, z82⟩, st82⟩ := X80.virtualBack hx (y := (⟨"com/example/manyflow/manyflow/simulate/SeededRandom", "nextLong", "()J"⟩ : MethodName)) (z := (⟨"com/example/manyflow/manyflow/simulate/SeededRandom", "nextLong", "()J"⟩ : MethodName)) hown (mvT hZ (hw _ (List.mem_of_getElem? (i := 30) rfl))) (mvT hZ (hw _ (List.mem_of_getElem? (i := 23) rfl))) (notFace_of_selects (args := #[]) (mvT hZ (hw _ (List.mem_of_getElem? (i := 25) rfl)))) (mvT hZ (hw _ (List.mem_of_getElem? (i := 25) rfl))) (mvT hZ (hw _ (List.mem_of_getElem? (i := 24) rfl))) (by decide) (backOf (W := 0) (rm5 l Z a0 hw [] b4 (own_s q0 (i_20 + 1)) T72.heap n0 (Nat.le_trans Z0 K72.1) f73 f75 ge4) hZ (hw _ (List.mem_of_getElem? (i := 26) rfl)) (hw _ (List.mem_of_getElem? (i := 7) rfl)) (by decide) (by decide)) q82a q82c (g := (mkF m 192 #[.val (.long q0), .second, .val (.long q1), .second, .val (.long (own_bd q1)), .second, .val (.ref b4), .val (.ref b10), .val (.long ((own_draw q0 i_20) % (own_bd q1))), .second, .val (.long ((9223372036854775807 : Int64) / (own_bd q1))), .second, .val (.long (own_draw q0 0)), .second, .val (.long (own_draw q0 1)), .second, .val (.long (own_draw q0 2)), .second] [(.ref b4)])) rfl (by rw [hml]; rfl) (Steps.refl _) (argsL := []) (rest := []) (lenOf pd___J rfl) rfl (by show 2 * 0 + _ ≤ _; exact Nat.le_of_eq rfl) (hb hby at_192) (fun _ _ => ⟨rfl, e80, (by decide : 2 + 0 ≤ _), (by decide : 2 + 0 ≤ _)⟩)
        dsimp only [Pt.U, Pt.locs, Pt.cells, Pt.slots] at X82 l82 y82 z82 st82 hQ82
        subst l82 y82 z82
        obtain ⟨rfl, N82q, Kc82, p82_0⟩ := hQ82
        have N82 := Fr.app N80 N82q
        refine OG.step (fun tz kz => st82.trans kz) ?_
        have f83 := f73.keep Kc82
        have f84 := f74.keep Kc82
        have f86 := p72_0.keep Kc82 (ninS (Ne.symm ne10_b4) nin0)
        have K82 := K72.trans Kc82 (allS (Or.inr sz4) all0)
        show OG _ _ _ _ _ _ _ (T82.setTop (mkF m 195 #[.val (.long q0), .second, .val (.long q1), .second, .val (.long (own_bd q1)), .second, .val (.ref b4), .val (.ref b10), .val (.long ((own_draw q0 i_20) % (own_bd q1))), .second, .val (.long ((9223372036854775807 : Int64) / (own_bd q1))), .second, .val (.long (own_draw q0 0)), .second, .val (.long (own_draw q0 1)), .second, .val (.long (own_draw q0 2)), .second] [(.long (own_mix ((own_s q0 (i_20 + 1)) + (-7046029254386353131 : Int64))))]))
        have s87 : ∀ tz, Steps p.tables e below (T82.setTop (mkF m 197 #[.val (.long q0), .second, .val (.long q1), .second, .val (.long (own_bd q1)), .second, .val (.ref b4), .val (.ref b10), .val (.long ((own_draw q0 i_20) % (own_bd q1))), .second, .val (.long ((9223372036854775807 : Int64) / (own_bd q1))), .second, .val (.long (own_draw q0 0)), .second, .val (.long (own_draw q0 1)), .second, .val (.long (own_draw q0 2)), .second] [(.ref b10), (.long (own_mix ((own_s q0 (i_20 + 1)) + (-7046029254386353131 : Int64))))])) tz → Steps p.tables e below (T82.setTop (mkF m 195 #[.val (.long q0), .second, .val (.long q1), .second, .val (.long (own_bd q1)), .second, .val (.ref b4), .val (.ref b10), .val (.long ((own_draw q0 i_20) % (own_bd q1))), .second, .val (.long ((9223372036854775807 : Int64) / (own_bd q1))), .second, .val (.long (own_draw q0 0)), .second, .val (.long (own_draw q0 1)), .second, .val (.long (own_draw q0 2)), .second] [(.long (own_mix ((own_s q0 (i_20 + 1)) + (-7046029254386353131 : Int64))))])) tz := by
          intro tz kz
          refine XS.aload X82.here hx rfl (hb hby at_195) rfl rfl ?_
          exact kz
        refine OG.step s87 ?_
        obtain ⟨cq88, kq88, q88a, q88b, q88c⟩ := isOf hZ rfl f84
        obtain ⟨_, _, ⟨T88, L88, k88, n88⟩, -, X88, ⟨Lc88, hQ88, l88, y88, z88⟩, st88⟩ := X82.virtualBack hx (y := (⟨"com/example/manyflow/manyflow/simulate/SeededRandom", "nextLong", "()J"⟩ : MethodName)) (z := (⟨"com/example/manyflow/manyflow/simulate/SeededRandom", "nextLong", "()J"⟩ : MethodName)) hown (mvT hZ (hw _ (List.mem_of_getElem? (i := 30) rfl))) (mvT hZ (hw _ (List.mem_of_getElem? (i := 23) rfl))) (notFace_of_selects (args := #[]) (mvT hZ (hw _ (List.mem_of_getElem? (i := 25) rfl)))) (mvT hZ (hw _ (List.mem_of_getElem? (i := 25) rfl))) (mvT hZ (hw _ (List.mem_of_getElem? (i := 24) rfl))) (by decide) (backOf (W := 2) (rm5 l Z a0 hw [] b10 (((q0 + (-7046029254386353131 : Int64)) + (-7046029254386353131 : Int64)) + (-7046029254386353131 : Int64)) T82.heap n0 (Nat.le_trans Z0 K82.1) f84 f86 ge10) hZ (hw _ (List.mem_of_getElem? (i := 26) rfl)) (hw _ (List.mem_of_getElem? (i := 7) rfl)) (by decide) (by decide)) q88a q88c (g := (mkF m 197 #[.val (.long q0), .second, .val (.long q1), .second, .val (.long (own_bd q1)), .second, .val (.ref b4), .val (.ref b10), .val (.long ((own_draw q0 i_20) % (own_bd q1))), .second, .val (.long ((9223372036854775807 : Int64) / (own_bd q1))), .second, .val (.long (own_draw q0 0)), .second, .val (.long (own_draw q0 1)), .second, .val (.long (own_draw q0 2)), .second] [(.ref b10), (.long (own_mix ((own_s q0 (i_20 + 1)) + (-7046029254386353131 : Int64))))])) rfl (by rw [hml]; rfl) (Steps.refl _) (argsL := []) (rest := [(.long (own_mix ((own_s q0 (i_20 + 1)) + (-7046029254386353131 : Int64))))]) (lenOf pd___J rfl) rfl (by show 2 * 0 + _ ≤ _; exact Nat.le_of_eq rfl) (hb hby at_197) (fun _ _ => ⟨rfl, rfl, (by decide : 2 + 0 ≤ _), (by decide : 2 + 0 ≤ _)⟩)
        dsimp only [Pt.U, Pt.locs, Pt.cells, Pt.slots] at X88 l88 y88 z88 st88 hQ88
        subst l88 y88 z88
        obtain ⟨rfl, N88q, Kc88, p88_0⟩ := hQ88
        have N88 := Fr.app N82 N88q
        refine OG.step (fun tz kz => st88.trans kz) ?_
        have f89 := f83.keep Kc88
        have f90 := f84.keep Kc88
        have f92 := p82_0.keep Kc88 (ninS ne10_b4 nin0)
        have K88 := K82.trans Kc88 (allS (Or.inr sz10) all0)
        show OG _ _ _ _ _ _ _ (T88.setTop (mkF m 200 #[.val (.long q0), .second, .val (.long q1), .second, .val (.long (own_bd q1)), .second, .val (.ref b4), .val (.ref b10), .val (.long ((own_draw q0 i_20) % (own_bd q1))), .second, .val (.long ((9223372036854775807 : Int64) / (own_bd q1))), .second, .val (.long (own_draw q0 0)), .second, .val (.long (own_draw q0 1)), .second, .val (.long (own_draw q0 2)), .second] [(.long (own_mix ((((q0 + (-7046029254386353131 : Int64)) + (-7046029254386353131 : Int64)) + (-7046029254386353131 : Int64)) + (-7046029254386353131 : Int64)))), (.long (own_mix ((own_s q0 (i_20 + 1)) + (-7046029254386353131 : Int64))))]))
        have s93 : ∀ tz, Steps p.tables e below (T88.setTop (mkF m 209 #[.val (.long q0), .second, .val (.long q1), .second, .val (.long (own_bd q1)), .second, .val (.ref b4), .val (.ref b10), .val (.long ((own_draw q0 i_20) % (own_bd q1))), .second, .val (.long ((9223372036854775807 : Int64) / (own_bd q1))), .second, .val (.long (own_draw q0 0)), .second, .val (.long (own_draw q0 1)), .second, .val (.long (own_draw q0 2)), .second] [(.int (1 : Int32))])) tz → Steps p.tables e below (T88.setTop (mkF m 200 #[.val (.long q0), .second, .val (.long q1), .second, .val (.long (own_bd q1)), .second, .val (.ref b4), .val (.ref b10), .val (.long ((own_draw q0 i_20) % (own_bd q1))), .second, .val (.long ((9223372036854775807 : Int64) / (own_bd q1))), .second, .val (.long (own_draw q0 0)), .second, .val (.long (own_draw q0 1)), .second, .val (.long (own_draw q0 2)), .second] [(.long (own_mix ((((q0 + (-7046029254386353131 : Int64)) + (-7046029254386353131 : Int64)) + (-7046029254386353131 : Int64)) + (-7046029254386353131 : Int64)))), (.long (own_mix ((own_s q0 (i_20 + 1)) + (-7046029254386353131 : Int64))))])) tz := by
          intro tz kz
          refine XS.lcmp X88.here hx rfl (hb hby at_200) rfl ?_
          show Steps p.tables e below (T88.setTop (mkF m 201 #[.val (.long q0), .second, .val (.long q1), .second, .val (.long (own_bd q1)), .second, .val (.ref b4), .val (.ref b10), .val (.long ((own_draw q0 i_20) % (own_bd q1))), .second, .val (.long ((9223372036854775807 : Int64) / (own_bd q1))), .second, .val (.long (own_draw q0 0)), .second, .val (.long (own_draw q0 1)), .second, .val (.long (own_draw q0 2)), .second] [(.int (lcmpW (own_mix ((own_s q0 (i_20 + 1)) + (-7046029254386353131 : Int64))) (own_mix ((((q0 + (-7046029254386353131 : Int64)) + (-7046029254386353131 : Int64)) + (-7046029254386353131 : Int64)) + (-7046029254386353131 : Int64)))))])) _
          refine XS.ifNo X88.here hx rfl (hb hby at_201) rfl ((if0 _ _).trans (teq ((lw_eq (own_mix ((own_s q0 (i_20 + 1)) + (-7046029254386353131 : Int64))) (own_mix ((((q0 + (-7046029254386353131 : Int64)) + (-7046029254386353131 : Int64)) + (-7046029254386353131 : Int64)) + (-7046029254386353131 : Int64)))).mpr (own_same2 (own_at2 u20_0 u20_1 (own_bpos q1) hc66 hc120 hc174)))).2) ?_
          show Steps p.tables e below (T88.setTop (mkF m 204 #[.val (.long q0), .second, .val (.long q1), .second, .val (.long (own_bd q1)), .second, .val (.ref b4), .val (.ref b10), .val (.long ((own_draw q0 i_20) % (own_bd q1))), .second, .val (.long ((9223372036854775807 : Int64) / (own_bd q1))), .second, .val (.long (own_draw q0 0)), .second, .val (.long (own_draw q0 1)), .second, .val (.long (own_draw q0 2)), .second] [])) _
          refine XS.iconst X88.here hx rfl (hb hby at_204) ?_
          show Steps p.tables e below (T88.setTop (mkF m 205 #[.val (.long q0), .second, .val (.long q1), .second, .val (.long (own_bd q1)), .second, .val (.ref b4), .val (.ref b10), .val (.long ((own_draw q0 i_20) % (own_bd q1))), .second, .val (.long ((9223372036854775807 : Int64) / (own_bd q1))), .second, .val (.long (own_draw q0 0)), .second, .val (.long (own_draw q0 1)), .second, .val (.long (own_draw q0 2)), .second] [(.int (1 : Int32))])) _
          refine XS.goto X88.here hx rfl (pc0 := 205) (pc' := 209) rfl (hb hby at_205) (by decide) (by decide) ?_
          exact kz
        refine OG.step s93 ?_
        exact OG.retZ X88 hx hlk Bd.returns (hb hby at_209) (nar_1) rfl ⟨rfl, N88⟩ (by decide) (by decide)
      · have s94 : ∀ tz, Steps p.tables e below (T78.setTop (mkF m 230 #[.val (.long q0), .second, .val (.long q1), .second, .val (.long (own_bd q1)), .second, .val (.ref b4), .val (.ref b10), .val (.long ((own_draw q0 i_20) % (own_bd q1))), .second, .val (.long ((9223372036854775807 : Int64) / (own_bd q1))), .second, .val (.long (own_draw q0 0)), .second, .val (.long (own_draw q0 1)), .second, .val (.long (own_draw q0 2)), .second] [(.int (1 : Int32))])) tz → Steps p.tables e below (T78.setTop (mkF m 174 #[.val (.long q0), .second, .val (.long q1), .second, .val (.long (own_bd q1)), .second, .val (.ref b4), .val (.ref b10), .val (.long ((own_draw q0 i_20) % (own_bd q1))), .second, .val (.long ((9223372036854775807 : Int64) / (own_bd q1))), .second, .val (.long (own_draw q0 0)), .second, .val (.long (own_draw q0 1)), .second, .val (.long (own_draw q0 2)), .second] [(.int (bI (((own_draw q0 2) / (own_bd q1)) < ((9223372036854775807 : Int64) / (own_bd q1)))))])) tz := by
          intro tz kz
          refine XS.ifYes X78.here hx rfl (pc0 := 174) (pc' := 210) rfl (hb hby at_174) rfl ((if0 _ _).trans (teq (bI_0 hc174)).1) (by decide) (by decide) ?_
          show Steps p.tables e below (T78.setTop (mkF m 210 #[.val (.long q0), .second, .val (.long q1), .second, .val (.long (own_bd q1)), .second, .val (.ref b4), .val (.ref b10), .val (.long ((own_draw q0 i_20) % (own_bd q1))), .second, .val (.long ((9223372036854775807 : Int64) / (own_bd q1))), .second, .val (.long (own_draw q0 0)), .second, .val (.long (own_draw q0 1)), .second, .val (.long (own_draw q0 2)), .second] [])) _
          refine XS.lconst X78.here hx rfl (hb hby at_210) ?_
          show Steps p.tables e below (T78.setTop (mkF m 211 #[.val (.long q0), .second, .val (.long q1), .second, .val (.long (own_bd q1)), .second, .val (.ref b4), .val (.ref b10), .val (.long ((own_draw q0 i_20) % (own_bd q1))), .second, .val (.long ((9223372036854775807 : Int64) / (own_bd q1))), .second, .val (.long (own_draw q0 0)), .second, .val (.long (own_draw q0 1)), .second, .val (.long (own_draw q0 2)), .second] [(.long (0 : Int64))])) _
          refine XS.lload X78.here hx rfl (hb hby at_211) rfl ?_
          show Steps p.tables e below (T78.setTop (mkF m 213 #[.val (.long q0), .second, .val (.long q1), .second, .val (.long (own_bd q1)), .second, .val (.ref b4), .val (.ref b10), .val (.long ((own_draw q0 i_20) % (own_bd q1))), .second, .val (.long ((9223372036854775807 : Int64) / (own_bd q1))), .second, .val (.long (own_draw q0 0)), .second, .val (.long (own_draw q0 1)), .second, .val (.long (own_draw q0 2)), .second] [(.long ((own_draw q0 i_20) % (own_bd q1))), (.long (0 : Int64))])) _
          refine XS.lcmp X78.here hx rfl (hb hby at_213) rfl ?_
          show Steps p.tables e below (T78.setTop (mkF m 214 #[.val (.long q0), .second, .val (.long q1), .second, .val (.long (own_bd q1)), .second, .val (.ref b4), .val (.ref b10), .val (.long ((own_draw q0 i_20) % (own_bd q1))), .second, .val (.long ((9223372036854775807 : Int64) / (own_bd q1))), .second, .val (.long (own_draw q0 0)), .second, .val (.long (own_draw q0 1)), .second, .val (.long (own_draw q0 2)), .second] [(.int (lcmpW (0 : Int64) ((own_draw q0 i_20) % (own_bd q1))))])) _
          refine XS.ifNo X78.here hx rfl (hb hby at_214) rfl ((if0 _ _).trans (flt (mt (lw_gt (0 : Int64) ((own_draw q0 i_20) % (own_bd q1))).mp (own_nn (own_dn _ _) (own_bpos q1)))).2.2.1) ?_
          show Steps p.tables e below (T78.setTop (mkF m 217 #[.val (.long q0), .second, .val (.long q1), .second, .val (.long (own_bd q1)), .second, .val (.ref b4), .val (.ref b10), .val (.long ((own_draw q0 i_20) % (own_bd q1))), .second, .val (.long ((9223372036854775807 : Int64) / (own_bd q1))), .second, .val (.long (own_draw q0 0)), .second, .val (.long (own_draw q0 1)), .second, .val (.long (own_draw q0 2)), .second] [])) _
          refine XS.lload X78.here hx rfl (hb hby at_217) rfl ?_
          show Steps p.tables e below (T78.setTop (mkF m 219 #[.val (.long q0), .second, .val (.long q1), .second, .val (.long (own_bd q1)), .second, .val (.ref b4), .val (.ref b10), .val (.long ((own_draw q0 i_20) % (own_bd q1))), .second, .val (.long ((9223372036854775807 : Int64) / (own_bd q1))), .second, .val (.long (own_draw q0 0)), .second, .val (.long (own_draw q0 1)), .second, .val (.long (own_draw q0 2)), .second] [(.long ((own_draw q0 i_20) % (own_bd q1)))])) _
          refine XS.lload X78.here hx rfl (hb hby at_219) rfl ?_
          show Steps p.tables e below (T78.setTop (mkF m 221 #[.val (.long q0), .second, .val (.long q1), .second, .val (.long (own_bd q1)), .second, .val (.ref b4), .val (.ref b10), .val (.long ((own_draw q0 i_20) % (own_bd q1))), .second, .val (.long ((9223372036854775807 : Int64) / (own_bd q1))), .second, .val (.long (own_draw q0 0)), .second, .val (.long (own_draw q0 1)), .second, .val (.long (own_draw q0 2)), .second] [(.long (own_bd q1)), (.long ((own_draw q0 i_20) % (own_bd q1)))])) _
          refine XS.lcmp X78.here hx rfl (hb hby at_221) rfl ?_
          show Steps p.tables e below (T78.setTop (mkF m 222 #[.val (.long q0), .second, .val (.long q1), .second, .val (.long (own_bd q1)), .second, .val (.ref b4), .val (.ref b10), .val (.long ((own_draw q0 i_20) % (own_bd q1))), .second, .val (.long ((9223372036854775807 : Int64) / (own_bd q1))), .second, .val (.long (own_draw q0 0)), .second, .val (.long (own_draw q0 1)), .second, .val (.long (own_draw q0 2)), .second] [(.int (lcmpW ((own_draw q0 i_20) % (own_bd q1)) (own_bd q1)))])) _
          refine XS.ifNo X78.here hx rfl (hb hby at_222) rfl ((if0 _ _).trans (tlt ((lw_lt ((own_draw q0 i_20) % (own_bd q1)) (own_bd q1)).mpr (own_lb (own_dn _ _) (own_bpos q1)))).2.1) ?_
          show Steps p.tables e below (T78.setTop (mkF m 225 #[.val (.long q0), .second, .val (.long q1), .second, .val (.long (own_bd q1)), .second, .val (.ref b4), .val (.ref b10), .val (.long ((own_draw q0 i_20) % (own_bd q1))), .second, .val (.long ((9223372036854775807 : Int64) / (own_bd q1))), .second, .val (.long (own_draw q0 0)), .second, .val (.long (own_draw q0 1)), .second, .val (.long (own_draw q0 2)), .second] [])) _
          refine XS.iconst X78.here hx rfl (hb hby at_225) ?_
          show Steps p.tables e below (T78.setTop (mkF m 226 #[.val (.long q0), .second, .val (.long q1), .second, .val (.long (own_bd q1)), .second, .val (.ref b4), .val (.ref b10), .val (.long ((own_draw q0 i_20) % (own_bd q1))), .second, .val (.long ((9223372036854775807 : Int64) / (own_bd q1))), .second, .val (.long (own_draw q0 0)), .second, .val (.long (own_draw q0 1)), .second, .val (.long (own_draw q0 2)), .second] [(.int (1 : Int32))])) _
          refine XS.goto X78.here hx rfl (pc0 := 226) (pc' := 230) rfl (hb hby at_226) (by decide) (by decide) ?_
          exact kz
        refine OG.step s94 ?_
        exact OG.retZ X78 hx hlk Bd.returns (hb hby at_230) (nar_1) e78 ⟨rfl, N78⟩ (by decide) (by decide)
set_option maxRecDepth 65536 in
set_option maxHeartbeats 40000000 in
theorem comes_1 {Post : Tables → Env → Array Value → State → Outcome → State → Prop} (hpost : ∀ tb e args s v u, (limb_1_1.after args s (.returned v) u = true ∧ limb_1_2.after args s (.returned v) u = true ∧ True) → FrameEnd s (.returned v) u (Jvm.fieldLocs frame_1_writes args s ++ Jvm.arrayLocs frame_1_arrays args s ++ Jvm.staticLocs frame_1_statics s) 16 128 → Post tb e args s (.returned v) u) :
    ArmFor flags0 classFile x code maxLocals ret World_1 tables_1 room_1 Calls_1 rest_1 Pre_1 Post := by
  intro l hfl _ _ p e ha hc hk s m args below hf hA hF happ hP
  obtain ⟨hcalls, hrest, hpre⟩ := hP
  obtain ⟨-, -, -, hnamed, -, -, -, hat⟩ := (Spec.applies_iff hf).mp happ
  obtain ⟨hg, hn⟩ := and_e (Cond.before_iff.mp (show (Jvm.Cond.and given_1 narrow_1).before args s = true from hpre))
  obtain ⟨hcount, hg0⟩ := and_e hg
  obtain ⟨ha0, hg1⟩ := and_e hg0
  obtain ⟨w0, w1, rfl⟩ : ∃ w0 w1 : Value, args = #[w0, w1] := by
    have hs : args.size = 2 := by simpa [Cond.value, given_1] using hcount
    obtain ⟨L⟩ := args
    match L, hs with
    | [w0, w1], _ => exact ⟨w0, w1, rfl⟩
  have hw := fun d (hd : d ∈ tables_1) => atoms_spec (ws := Jvm.Cond.code x code maxLocals ret :: tables_1) hat d (List.mem_cons_of_mem _ hd)
  obtain ⟨i0, ei0⟩ := isL_v ha0
  obtain rfl : w0 = (.long i0) := Option.some.inj ei0
  obtain ⟨i1, ei1⟩ := isL_v hg1
  obtain rfl : w1 = (.long i1) := Option.some.inj ei1
  obtain ⟨n, o, h1, h2, h3, _, L, rfl, ⟨rfl, N⟩, hq⟩ := rm0 l s _ hw tables_1 i0 i1 s.heap s.heap.size (Nat.le_refl _) p e ha hc hk s m _ below hf ((Spec.applies_iff_loose hf).mp happ).1 ⟨rfl, State.Warmed39.refl s, rfl⟩ trivial
  refine ⟨n, _, h1, h2, h3, hpost _ _ _ _ _ _ ⟨Cond.after_iff.mpr rfl, Cond.after_iff.mpr (eq_i res_at (Term.int_eval (1)) rfl), trivial⟩ ⟨hq.1, hq.2.1, (hq.2.2.sift fun y hy => Or.inr (N y hy)).mono (by decide) (by decide)⟩⟩
theorem main_1_1 : Claimed_1_1 := comes_1 fun _ _ _ _ _ _ h hF => ⟨h.1, hF⟩
theorem main_1_2 : Claimed_1_2 := comes_1 fun _ _ _ _ _ _ h hF => ⟨h.2.1, hF⟩
end Jvm.Pilot.@@N@@
namespace Jvm.Pilot.@@N@@
open Jvm Jvm.ClassFile Sem Op Lib Jvm.Free Jvm.Stand Jvm.Pilot.@@N@@.Jvm.D
/-! MADE BY PROGRAM (witnessworld.py) out of the Statement's table words and the real class files: 10 classes; the members and pool entries that the words name. The judged class is class 1, her method 1. -/
namespace start1
open Jvm.ClassFile
def u (s : String) : CpInfo := .utf8 (stringToUtf16 s)
/-- a pool by its gaps: so many unusable entries, then the entry; so many at the end -/
def gap : Nat → List CpInfo → List CpInfo
  | 0, r => r
  | n + 1, r => .unusable :: gap n r
def poolList (es : List (Nat × CpInfo)) (last : Nat) : List CpInfo := es.foldr (fun e r => gap e.1 (e.2 :: r)) (gap last [])
def pool (es : List (Nat × CpInfo)) (last : Nat) : Array CpInfo := ⟨poolList es last⟩
def fileOf (pool : Array CpInfo) (this : Nat) (attrs : Array Attribute := #[]) (ms : Array MethodInfo := #[]) (fl : Nat := 33) (sup : Nat := 0) (ifs : Array Nat := #[]) (fds : Array FieldInfo := #[]) : ClassFile where
  minorVersion := 0
  majorVersion := 65
  constantPool := pool
  accessFlags := fl
  thisClass := this
  superClass := sup
  interfaces := ifs
  fields := fds
  methods := ms
  attributes := attrs
def plain (name : String) (sup : Option ClassId) : Class where
  name := name
  kind := .ordinary
  loader := none
  accessFlags := 33
  super := sup
  interfaces := #[]
  cf := none
  fields := #[]
  methods := #[]
  instanceTypes := #[]
  staticTypes := #[]
  resolved := #[]
  callSites := []
  init := .initialized
  statics := none
  mirror := none

def pool0 : Array CpInfo := pool [(5, u "<init>"), (0, u "()V"), (1, .class_ 10), (1, u "java/lang/Object")] 113

def k0c0 : Code := { maxStack := 0, maxLocals := 1, code := object_method_1_code, exceptionTable := #[], attributes := #[] }
def k0m0 : Method := { name := "<init>", desc := "()V", sig := { parameters := [], returnType := none }, accessFlags := 1, code := some k0c0 }
/-- java/lang/Object -/
def k0 : Class := { plain "java/lang/Object" none with
  accessFlags := 33
  interfaces := #[]
  cf := some (fileOf pool0 8 #[] #[{ accessFlags := 1, nameIndex := 5, descriptorIndex := 6, attributes := #[] }] 33 0 #[] #[])
  fields := #[]
  methods := #[k0m0]
  instanceTypes := #[]
  staticTypes := #[]
  resolved := Array.replicate 124 none
  statics := none }

def pool1 : Array CpInfo := pool [(2, .class_ 4), (1, u "java/lang/Object"), (0, u "<init>"), (0, u "()V"), (2, .long 9223372036854775807), (1, .methodref 12 13), (0, .class_ 14), (0, .nameAndType 15 16), (0, u "java/lang/Math"), (0, u "max"), (0, u "(JJ)J"), (0, .class_ 18), (0, u "com/example/manyflow/manyflow/simulate/SeededRandom"), (0, .methodref 17 20), (0, .nameAndType 5 21), (0, u "(J)V"), (0, .methodref 17 23), (0, .nameAndType 24 25), (0, u "below"), (0, u "(J)J"), (0, .methodref 17 27), (0, .nameAndType 28 29), (0, u "nextLong"), (0, u "()J"), (0, .methodref 31 32), (0, .class_ 33), (0, .nameAndType 34 35), (0, u "com/example/manyflow/manyflow/simulate/SeededRandomBelowPinLaw"), (0, u "kept"), (0, u "(JJJ)Z"), (0, .methodref 31 37), (0, .nameAndType 38 16), (0, u "rem"), (2, u "law"), (0, u "(JJ)Z")] 3

def k1m0 : Method := { name := "<init>", desc := "()V", sig := { parameters := [], returnType := none }, accessFlags := 1, code := none }
def k1c1 : Code := { maxStack := 6, maxLocals := 18, code := code, exceptionTable := #[], attributes := #[] }
def k1m1 : Method := { name := "law", desc := "(JJ)Z", sig := { parameters := [.long, .long], returnType := some .boolean }, accessFlags := 9, code := some k1c1 }
def k1c2 : Code := { maxStack := 4, maxLocals := 6, code := method_3_code, exceptionTable := #[], attributes := #[] }
def k1m2 : Method := { name := "kept", desc := "(JJJ)Z", sig := { parameters := [.long, .long, .long], returnType := some .boolean }, accessFlags := 10, code := some k1c2 }
def k1c3 : Code := { maxStack := 6, maxLocals := 4, code := method_4_code, exceptionTable := #[], attributes := #[] }
def k1m3 : Method := { name := "rem", desc := "(JJ)J", sig := { parameters := [.long, .long], returnType := some .long }, accessFlags := 10, code := some k1c3 }
/-- com/example/manyflow/manyflow/simulate/SeededRandomBelowPinLaw -/
def k1 : Class := { plain "com/example/manyflow/manyflow/simulate/SeededRandomBelowPinLaw" (some 0) with
  accessFlags := 49
  interfaces := #[]
  cf := some (fileOf pool1 31 #[] #[{ accessFlags := 1, nameIndex := 5, descriptorIndex := 6, attributes := #[] }, { accessFlags := 9, nameIndex := 41, descriptorIndex := 42, attributes := #[] }, { accessFlags := 10, nameIndex := 34, descriptorIndex := 35, attributes := #[] }, { accessFlags := 10, nameIndex := 38, descriptorIndex := 16, attributes := #[] }] 49 2 #[] #[])
  fields := #[]
  methods := #[k1m0, k1m1, k1m2, k1m3]
  instanceTypes := #[]
  staticTypes := #[]
  resolved := Array.replicate 46 none
  statics := none }

def pool2 : Array CpInfo := pool [(1, .class_ 2), (0, u "java/lang/Math"), (1, .class_ 6), (1, u "java/lang/Object"), (0, u "<init>"), (0, u "()V"), (89, .class_ 100), (1, u "java/lang/Math$RandomNumberGeneratorHolder"), (20, u "(JJ)J"), (50, u "negativeZeroFloatBits"), (0, u "J"), (2, u "negativeZeroDoubleBits"), (21, u "max"), (46, u "$assertionsDisabled"), (0, u "Z"), (91, u "twoToTheDoubleScaleDown"), (0, u "D"), (4, u "twoToTheDoubleScaleUp"), (9, u "E"), (3, u "PI"), (2, u "TAU"), (2, u "DEGREES_TO_RADIANS"), (0, u "RADIANS_TO_DEGREES")] 94

def k2m0 : Method := { name := "<init>", desc := "()V", sig := { parameters := [], returnType := none }, accessFlags := 2, code := none }
def k2c1 : Code := { maxStack := 4, maxLocals := 4, code := jdk_29_method_66_code, exceptionTable := #[], attributes := #[] }
def k2m1 : Method := { name := "max", desc := "(JJ)J", sig := { parameters := [.long, .long], returnType := some .long }, accessFlags := 9, code := some k2c1 }
/-- java/lang/Math -/
def k2 : Class := { plain "java/lang/Math" (some 0) with
  accessFlags := 49
  interfaces := #[]
  cf := some (fileOf pool2 1 #[.nestMembers #[98]] #[{ accessFlags := 2, nameIndex := 7, descriptorIndex := 8, attributes := #[] }, { accessFlags := 9, nameIndex := 198, descriptorIndex := 121, attributes := #[] }] 49 4 #[] #[{ accessFlags := 25, nameIndex := 354, descriptorIndex := 339, attributes := #[] }, { accessFlags := 25, nameIndex := 358, descriptorIndex := 339, attributes := #[] }, { accessFlags := 25, nameIndex := 361, descriptorIndex := 339, attributes := #[] }, { accessFlags := 26, nameIndex := 364, descriptorIndex := 339, attributes := #[] }, { accessFlags := 26, nameIndex := 365, descriptorIndex := 339, attributes := #[] }, { accessFlags := 26, nameIndex := 172, descriptorIndex := 173, attributes := #[] }, { accessFlags := 26, nameIndex := 176, descriptorIndex := 173, attributes := #[] }, { accessFlags := 8, nameIndex := 344, descriptorIndex := 339, attributes := #[] }, { accessFlags := 8, nameIndex := 338, descriptorIndex := 339, attributes := #[] }, { accessFlags := 4120, nameIndex := 245, descriptorIndex := 246, attributes := #[] }])
  fields := #[{ name := "E", type := .double, accessFlags := 25, slot := 0, constantValue := 0 }, { name := "PI", type := .double, accessFlags := 25, slot := 1, constantValue := 0 }, { name := "TAU", type := .double, accessFlags := 25, slot := 2, constantValue := 0 }, { name := "DEGREES_TO_RADIANS", type := .double, accessFlags := 26, slot := 3, constantValue := 0 }, { name := "RADIANS_TO_DEGREES", type := .double, accessFlags := 26, slot := 4, constantValue := 0 }, { name := "negativeZeroFloatBits", type := .long, accessFlags := 26, slot := 5, constantValue := 0 }, { name := "negativeZeroDoubleBits", type := .long, accessFlags := 26, slot := 6, constantValue := 0 }, { name := "twoToTheDoubleScaleUp", type := .double, accessFlags := 8, slot := 7, constantValue := 0 }, { name := "twoToTheDoubleScaleDown", type := .double, accessFlags := 8, slot := 8, constantValue := 0 }, { name := "$assertionsDisabled", type := .boolean, accessFlags := 4120, slot := 9, constantValue := 0 }]
  methods := #[k2m0, k2m1]
  instanceTypes := #[]
  staticTypes := #[.double, .double, .double, .double, .double, .long, .long, .double, .double, .boolean]
  resolved := Array.replicate 460 none
  statics := none }

def pool3 : Array CpInfo := pool [(1, .methodref 2 3), (0, .class_ 4), (0, .nameAndType 5 6), (0, u "java/lang/Object"), (0, u "<init>"), (0, u "()V"), (0, .fieldref 8 9), (0, .class_ 10), (0, .nameAndType 11 12), (0, u "com/example/manyflow/manyflow/simulate/SeededRandom"), (0, u "state"), (0, u "J"), (0, .long 11400714819323198485), (1, .long 13787848793156543929), (1, .long 10723151780598845931), (3, .long 9223372036854775807), (1, .methodref 8 24), (0, .nameAndType 25 26), (0, u "nextLong"), (0, u "()J"), (12, u "below"), (0, u "(J)J"), (22, u "GAMMA"), (1, u "(J)V")] 10

def k3c0 : Code := { maxStack := 3, maxLocals := 3, code := prog_63_method_1_code, exceptionTable := #[], attributes := #[] }
def k3m0 : Method := { name := "<init>", desc := "(J)V", sig := { parameters := [.long], returnType := none }, accessFlags := 0, code := some k3c0 }
def k3c1 : Code := { maxStack := 5, maxLocals := 3, code := prog_63_method_2_code, exceptionTable := #[], attributes := #[] }
def k3m1 : Method := { name := "nextLong", desc := "()J", sig := { parameters := [], returnType := some .long }, accessFlags := 0, code := some k3c1 }
def k3c2 : Code := { maxStack := 6, maxLocals := 7, code := prog_63_method_3_code, exceptionTable := #[], attributes := #[] }
def k3m2 : Method := { name := "below", desc := "(J)J", sig := { parameters := [.long], returnType := some .long }, accessFlags := 0, code := some k3c2 }
/-- com/example/manyflow/manyflow/simulate/SeededRandom -/
def k3 : Class := { plain "com/example/manyflow/manyflow/simulate/SeededRandom" (some 0) with
  accessFlags := 32
  interfaces := #[]
  cf := some (fileOf pool3 8 #[] #[{ accessFlags := 0, nameIndex := 5, descriptorIndex := 65, attributes := #[] }, { accessFlags := 0, nameIndex := 25, descriptorIndex := 26, attributes := #[] }, { accessFlags := 0, nameIndex := 39, descriptorIndex := 40, attributes := #[] }] 32 2 #[] #[{ accessFlags := 26, nameIndex := 63, descriptorIndex := 12, attributes := #[] }, { accessFlags := 2, nameIndex := 11, descriptorIndex := 12, attributes := #[] }])
  fields := #[{ name := "GAMMA", type := .long, accessFlags := 26, slot := 0, constantValue := 0 }, { name := "state", type := .long, accessFlags := 2, slot := 0, constantValue := 0 }]
  methods := #[k3m0, k3m1, k3m2]
  instanceTypes := #[.long]
  staticTypes := #[.long]
  resolved := Array.replicate 76 none
  statics := none }

def pool4 : Array CpInfo := pool [(1, u "java/lang/Cloneable"), (0, .class_ 1), (0, u "java/lang/Object"), (0, .class_ 3)] 3

/-- java/lang/Cloneable -/
def k4 : Class := { plain "java/lang/Cloneable" (some 0) with
  accessFlags := 1537
  interfaces := #[]
  cf := some (fileOf pool4 2 #[] #[] 1537 4 #[] #[])
  fields := #[]
  methods := #[]
  instanceTypes := #[]
  staticTypes := #[]
  resolved := Array.replicate 8 none
  statics := none }

def pool5 : Array CpInfo := pool [(1, u "java/io/Serializable"), (0, .class_ 1), (0, u "java/lang/Object"), (0, .class_ 3)] 3

/-- java/io/Serializable -/
def k5 : Class := { plain "java/io/Serializable" (some 0) with
  accessFlags := 1537
  interfaces := #[]
  cf := some (fileOf pool5 2 #[] #[] 1537 4 #[] #[])
  fields := #[]
  methods := #[]
  instanceTypes := #[]
  staticTypes := #[]
  resolved := Array.replicate 8 none
  statics := none }

/-- the primitive byte -/
def k6 : Class := { plain "byte" none with kind := .primitive 'B', accessFlags := 0x411 }
/-- [B -/
def k7 : Class := { plain "[B" (some 0) with kind := .array 6 .byte, interfaces := #[4, 5], accessFlags := 1041 }

/-- the primitive int -/
def k8 : Class := { plain "int" none with kind := .primitive 'I', accessFlags := 0x411 }
/-- [I -/
def k9 : Class := { plain "[I" (some 0) with kind := .array 8 .int, interfaces := #[4, 5], accessFlags := 1041 }

def heap : Heap := #[]
def classes : Array Class := #[k0, k1, k2, k3, k4, k5, k6, k7, k8, k9]
def interned : List (Array UInt16 × Addr) := []
def slotsUsed : Nat := 0
def theMethod : MethodId := ⟨1, 1⟩
def args0 : Array Value := #[.long 5, .long 7]
def aboutOver (below : List Frame) : State where
  vm := { classes := classes, interned := interned.toArray }
  heap := heap
  slotsUsed := slotsUsed
  threads := #[{ frames := .invoking theMethod args0 :: below }]
def below0 : List Frame := [.native { method := ⟨0, 0⟩, args := #[] }]
def about1 : State := aboutOver below0
def p0 : Program := .bare "" "" ""
def e0 : Env := launch0.env 0 0 0
theorem w_frames : about1.frames = Frame.invoking theMethod args0 :: below0 := rfl
set_option maxRecDepth 65536 in
theorem w_args : argsFit about1.vm theMethod args0 = true := by decide +kernel
set_option maxRecDepth 65536 in
theorem w_heap : heapFits about1 = true := by decide +kernel
set_option maxRecDepth 65536 in
theorem w_runnable : about1.curStatus? = some .runnable := by decide +kernel
set_option maxRecDepth 65536 in
theorem w_alone : about1.alone = true := by decide +kernel
set_option maxRecDepth 65536 in
theorem w_named : about1.methodNamed? x = some theMethod := by decide +kernel
set_option maxRecDepth 65536 in
theorem w_hears : about1.hears theMethod below0 = true := by decide +kernel
set_option maxRecDepth 65536 in
theorem w_ripe : about1.ripe theMethod args0 below0 = true := by decide +kernel
theorem w_running : about1.status = .running := rfl
set_option maxRecDepth 65536 in
theorem w_room : about1.hasRoom e0.platform room_1 = true :=
  launch0.hasRoom_least _ room_1 (by decide +kernel) (by decide +kernel) (by decide +kernel) (by decide +kernel) (by decide +kernel) (by decide +kernel)
theorem allAtoms_all (ts : List Jvm.Cond) (a : Array Jvm.Value) (st : Jvm.State) : (allAtoms ts).before a st = ts.all (fun c => c.before a st) := by
  induction ts with
  | nil => rfl
  | cons c t ih =>
    show (Jvm.Cond.and c (allAtoms t)).before a st = _
    rw [Jvm.Cond.before_and, ih, List.all_cons]
def words1 : List Jvm.Cond := Jvm.Cond.code x code maxLocals ret :: tables_1
/-- a 'code' word, met by the world's own term for the bytes: nothing is compared byte by byte -/
theorem code_word {y : MethodName} {bytes : ByteArray} {mx : Nat} {rt : Option FieldType} {a : Array Value} {s : State} {m : MethodId} {meth : Method} {c : Code} (h1 : s.methodNamed? y = some m) (h2 : s.vm.method? m = some meth) (h3 : meth.code = some c) (h4 : c.code = bytes)
    (h5 : (c.maxLocals == mx && c.exceptionTable.isEmpty && decide (c.maxStack ≤ mostOperands) && decide (meth.sig.returnType = rt) && !meth.locks && decide (parseMethodDescriptor y.desc = some meth.sig)) = true) : (Jvm.Cond.code y bytes mx rt).before a s = true := by
  simp only [Bool.and_eq_true, beq_iff_eq, Bool.not_eq_true', decide_eq_true_eq] at h5
  obtain ⟨⟨⟨⟨⟨g1, g2⟩, g3⟩, g4⟩, g5⟩, g6⟩ := h5
  simp [Cond.before, Cond.holds, Cond.value, h1, h2, h3, h4, g1, g2, g3, g4, g5, g6]
def isCode : Jvm.Cond → Bool
  | .code _ _ _ _ => true
  | _ => false
theorem all_split {L : List Jvm.Cond} {P : Jvm.Cond → Bool} (h1 : L.all (fun c => isCode c || P c) = true) (h2 : ∀ c ∈ L.filter isCode, P c = true) : L.all P = true := by
  refine List.all_eq_true.mpr fun c hc => ?_
  have h := List.all_eq_true.mp h1 c hc
  rcases Bool.eq_false_or_eq_true (isCode c) with hi | hi
  · exact h2 c (List.mem_filter.mpr ⟨hc, hi⟩)
  · simpa [hi] using h
set_option maxRecDepth 65536 in
theorem w_c0 : (Jvm.Cond.code x code maxLocals ret).before args0 about1 = true := code_word (m := ⟨1, 1⟩) (meth := k1m1) (c := k1c1) (by decide +kernel) rfl rfl rfl (by decide +kernel)
set_option maxRecDepth 65536 in
theorem w_c1 : (Jvm.Cond.code ({ cls := "java/lang/Math", name := "max", desc := "(JJ)J" } : Jvm.MethodName) jdk_29_method_66_code (4 : Nat) (Option.some Jvm.ClassFile.FieldType.long)).before args0 about1 = true := code_word (m := ⟨2, 1⟩) (meth := k2m1) (c := k2c1) (by decide +kernel) rfl rfl rfl (by decide +kernel)
set_option maxRecDepth 65536 in
theorem w_c2 : (Jvm.Cond.code ({ cls := "com/example/manyflow/manyflow/simulate/SeededRandom", name := "<init>", desc := "(J)V" } : Jvm.MethodName) prog_63_method_1_code (3 : Nat) (Option.none : Option Jvm.ClassFile.FieldType)).before args0 about1 = true := code_word (m := ⟨3, 0⟩) (meth := k3m0) (c := k3c0) (by decide +kernel) rfl rfl rfl (by decide +kernel)
set_option maxRecDepth 65536 in
theorem w_c3 : (Jvm.Cond.code ({ cls := "java/lang/Object", name := "<init>", desc := "()V" } : Jvm.MethodName) object_method_1_code (1 : Nat) (Option.none : Option Jvm.ClassFile.FieldType)).before args0 about1 = true := code_word (m := ⟨0, 0⟩) (meth := k0m0) (c := k0c0) (by decide +kernel) rfl rfl rfl (by decide +kernel)
set_option maxRecDepth 65536 in
theorem w_c4 : (Jvm.Cond.code ({ cls := "com/example/manyflow/manyflow/simulate/SeededRandom", name := "below", desc := "(J)J" } : Jvm.MethodName) prog_63_method_3_code (7 : Nat) (Option.some Jvm.ClassFile.FieldType.long)).before args0 about1 = true := code_word (m := ⟨3, 2⟩) (meth := k3m2) (c := k3c2) (by decide +kernel) rfl rfl rfl (by decide +kernel)
set_option maxRecDepth 65536 in
theorem w_c5 : (Jvm.Cond.code ({ cls := "com/example/manyflow/manyflow/simulate/SeededRandom", name := "nextLong", desc := "()J" } : Jvm.MethodName) prog_63_method_2_code (3 : Nat) (Option.some Jvm.ClassFile.FieldType.long)).before args0 about1 = true := code_word (m := ⟨3, 1⟩) (meth := k3m1) (c := k3c1) (by decide +kernel) rfl rfl rfl (by decide +kernel)
set_option maxRecDepth 65536 in
theorem w_c6 : (Jvm.Cond.code ({ cls := "com/example/manyflow/manyflow/simulate/SeededRandomBelowPinLaw", name := "kept", desc := "(JJJ)Z" } : Jvm.MethodName) method_3_code (6 : Nat) (Option.some Jvm.ClassFile.FieldType.boolean)).before args0 about1 = true := code_word (m := ⟨1, 2⟩) (meth := k1m2) (c := k1c2) (by decide +kernel) rfl rfl rfl (by decide +kernel)
set_option maxRecDepth 65536 in
theorem w_c7 : (Jvm.Cond.code ({ cls := "com/example/manyflow/manyflow/simulate/SeededRandomBelowPinLaw", name := "rem", desc := "(JJ)J" } : Jvm.MethodName) method_4_code (4 : Nat) (Option.some Jvm.ClassFile.FieldType.long)).before args0 about1 = true := code_word (m := ⟨1, 3⟩) (meth := k1m3) (c := k1c3) (by decide +kernel) rfl rfl rfl (by decide +kernel)
def codes1 : List Jvm.Cond := [Jvm.Cond.code x code maxLocals ret, Jvm.Cond.code ({ cls := "java/lang/Math", name := "max", desc := "(JJ)J" } : Jvm.MethodName) jdk_29_method_66_code (4 : Nat) (Option.some Jvm.ClassFile.FieldType.long), Jvm.Cond.code ({ cls := "com/example/manyflow/manyflow/simulate/SeededRandom", name := "<init>", desc := "(J)V" } : Jvm.MethodName) prog_63_method_1_code (3 : Nat) (Option.none : Option Jvm.ClassFile.FieldType), Jvm.Cond.code ({ cls := "java/lang/Object", name := "<init>", desc := "()V" } : Jvm.MethodName) object_method_1_code (1 : Nat) (Option.none : Option Jvm.ClassFile.FieldType), Jvm.Cond.code ({ cls := "com/example/manyflow/manyflow/simulate/SeededRandom", name := "below", desc := "(J)J" } : Jvm.MethodName) prog_63_method_3_code (7 : Nat) (Option.some Jvm.ClassFile.FieldType.long), Jvm.Cond.code ({ cls := "com/example/manyflow/manyflow/simulate/SeededRandom", name := "nextLong", desc := "()J" } : Jvm.MethodName) prog_63_method_2_code (3 : Nat) (Option.some Jvm.ClassFile.FieldType.long), Jvm.Cond.code ({ cls := "com/example/manyflow/manyflow/simulate/SeededRandomBelowPinLaw", name := "kept", desc := "(JJJ)Z" } : Jvm.MethodName) method_3_code (6 : Nat) (Option.some Jvm.ClassFile.FieldType.boolean), Jvm.Cond.code ({ cls := "com/example/manyflow/manyflow/simulate/SeededRandomBelowPinLaw", name := "rem", desc := "(JJ)J" } : Jvm.MethodName) method_4_code (4 : Nat) (Option.some Jvm.ClassFile.FieldType.long)]
set_option maxRecDepth 65536 in
theorem codes_eq : words1.filter isCode = codes1 := rfl
theorem w_codes : ∀ c ∈ words1.filter isCode, c.before args0 about1 = true := by
  rw [codes_eq]
  intro c hc
  simp only [codes1, List.mem_cons, List.not_mem_nil, or_false] at hc
  rcases hc with rfl | rfl | rfl | rfl | rfl | rfl | rfl | rfl
  · exact w_c0
  · exact w_c1
  · exact w_c2
  · exact w_c3
  · exact w_c4
  · exact w_c5
  · exact w_c6
  · exact w_c7
set_option maxRecDepth 65536 in
theorem w_t1 : (words1.take 24).all (fun c => isCode c || c.before args0 about1) = true := by decide +kernel
set_option maxRecDepth 65536 in
theorem w_t2 : (words1.drop 24).all (fun c => isCode c || c.before args0 about1) = true := by decide +kernel
theorem w_tables : (allAtoms (Jvm.Cond.code x code maxLocals ret :: tables_1)).before args0 about1 = true := by
  rw [allAtoms_all]
  show words1.all (fun c => c.before args0 about1) = true
  refine all_split ?_ w_codes
  rw [← List.take_append_drop 24 words1, List.all_append, w_t1, w_t2]
  rfl
set_option maxRecDepth 65536 in
theorem w_case : (Jvm.Cond.and given_1 narrow_1).before args0 about1 = true := by decide +kernel
theorem w_applies : (headSpec (Jvm.Cond.code x code maxLocals ret :: tables_1) room_1).applies x e0.platform about1 = true :=
  (Spec.applies_iff w_frames).mpr ⟨w_running, w_runnable, w_alone, w_named, w_hears, w_ripe, w_room, w_tables⟩
theorem atStart : AtStart classFile x code maxLocals ret World_1 tables_1 room_1 Calls_1 rest_1 Pre_1 launch0 p0 e0 about1 theMethod args0 below0 :=
  ⟨lists_1, trivial, launch0.admits_env _ _ _, launch0.least_env, fairChoices_fair.cas, fairChoices_fair.clock, w_frames, w_args, w_heap, w_applies, trivial, trivial, w_case⟩
end start1
theorem witness_1 : WitnessClaimed_1 := ⟨start1.p0, start1.e0, start1.about1, start1.theMethod, start1.args0, start1.below0, start1.atStart⟩
end Jvm.Pilot.@@N@@
