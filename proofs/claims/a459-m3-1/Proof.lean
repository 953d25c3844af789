import JvmDerived
import JvmDerived.Pilot.@@N@@Statement
import JvmDerived.Pilot.@@N@@Code
set_option linter.unusedVariables false
set_option linter.unusedSimpArgs false
namespace Jvm.RoadKit
open Sem ClassFile Op Lib Jvm.Stand Jvm.Free Jvm.LawKit
section New
variable {p : Program} {l : Launch} {e : Env} {R : Room} {s : State} {m : MethodId} {args : Array Value} {below : List Frame} {meth : Method} {c : Code} {T : State} {locs : List Loc} {cells slots : Nat}
theorem retI (X : Stand p l e R s m args below meth c T locs cells slots) (hx : p.tables.exec = Jvm.exec) {pc : Nat} {Ls : Array Slot} {z : Int32} {rest : List Value} (hret : meth.sig.returnType = some .int) (hd : decode c.code pc = .ok (.ireturn, 1)) {fs : List Frame}
    (hl : ∀ (f : JFrame) (acts : List Action), f.method = m → f.locked = none → f.entered = [] → (doReturn e (T.setTop f) acts (some (.int z))).1 = T.setFrames fs) : Steps p.tables e below (T.setTop (mkF m pc Ls (.int z :: rest))) (T.setFrames fs) := by
  have hm' : T.vm.method? m = some meth := X.method'
  have hn : narrow .int (.int z) = .int z := rfl
  show Steps p.tables e below (T.setTop { method := m, pc := pc, locals := Ls, stack := _ :: rest, locked := none }) _
  jvm_step X.here [X.here.top, hx, hd, hm', hret, hn]
  first | (intro acts; rw [hl _ acts rfl rfl rfl]) | rw [hl _ _ rfl rfl rfl]
  exact Steps.refl _
theorem retJ (X : Stand p l e R s m args below meth c T locs cells slots) (hx : p.tables.exec = Jvm.exec) {pc : Nat} {Ls : Array Slot} {z : Int64} {rest : List Value} (hret : meth.sig.returnType = some .long) (hd : decode c.code pc = .ok (.lreturn, 1)) {fs : List Frame}
    (hl : ∀ (f : JFrame) (acts : List Action), f.method = m → f.locked = none → f.entered = [] → (doReturn e (T.setTop f) acts (some (.long z))).1 = T.setFrames fs) : Steps p.tables e below (T.setTop (mkF m pc Ls (.long z :: rest))) (T.setFrames fs) := by
  have hm' : T.vm.method? m = some meth := X.method'
  have hn : narrow .long (.long z) = .long z := rfl
  show Steps p.tables e below (T.setTop { method := m, pc := pc, locals := Ls, stack := _ :: rest, locked := none }) _
  jvm_step X.here [X.here.top, hx, hd, hm', hret, hn, narrow]
  first | (intro acts; rw [hl _ acts rfl rfl rfl]) | rw [hl _ _ rfl rfl rfl]
  exact Steps.refl _
theorem retR (X : Stand p l e R s m args below meth c T locs cells slots) (hx : p.tables.exec = Jvm.exec) {pc : Nat} {Ls : Array Slot} {z : Addr} {rest : List Value} {ty : FieldType} (hret : meth.sig.returnType = some ty) (hty : ty.isReference = true) (hd : decode c.code pc = .ok (.areturn, 1)) {fs : List Frame}
    (hl : ∀ (f : JFrame) (acts : List Action), f.method = m → f.locked = none → f.entered = [] → (doReturn e (T.setTop f) acts (some (.ref z))).1 = T.setFrames fs) : Steps p.tables e below (T.setTop (mkF m pc Ls (.ref z :: rest))) (T.setFrames fs) := by
  have hm' : T.vm.method? m = some meth := X.method'
  show Steps p.tables e below (T.setTop { method := m, pc := pc, locals := Ls, stack := _ :: rest, locked := none }) _
  jvm_step X.here [X.here.top, hx, hd, hm', hret, hty, Value.isRef]
  first | (intro acts; rw [hl _ acts rfl rfl rfl]) | rw [hl _ _ rfl rfl rfl]
  exact Steps.refl _
theorem lremM {tb : Tables} [Ours tb] {target : State} {g : JFrame} (h : At T m c below) (hx : tb.exec = Jvm.exec) (hg : g.method = m) {x y : Int64} {rest : List Value} (hd : decode c.code g.pc = .ok (.lrem, 1)) (hs : g.stack = .long y :: .long x :: rest) (hy : y ≠ 0)
    (hr : Steps tb e below (T.setTop { g with pc := g.pc + 1, stack := .long (x % y) :: rest }) target) : Steps tb e below (T.setTop g) target := by
  rw [← lrem_mod] at hr
  exact XS.lrem h hx hg hd hs hy hr
end New
end Jvm.RoadKit
namespace Jvm.Pilot.@@N@@
open Jvm Jvm.ClassFile Sem Op Lib Jvm.Free Jvm.Stand Jvm.LawKit Jvm.RoadKit Bundle Jvm.Pilot.@@N@@.Jvm.D
/-- a Java boolean -/
def bI (P : Prop) [Decidable P] : Int32 := if P then 1 else 0
theorem bI_pos {P : Prop} [Decidable P] (h : P) : bI P = (1 : Int32) := if_pos h
theorem bI_neg {P : Prop} [Decidable P] (h : ¬ P) : bI P = (0 : Int32) := if_neg h
theorem bI_0 {P : Prop} [Decidable P] (h : ¬ P) : bI P = 0 := if_neg h
theorem bI_ne0 {P : Prop} [Decidable P] (h : P) : ¬ bI P = 0 := by rw [bI_pos h]; decide
theorem bI_iff {P Q : Prop} [Decidable P] [Decidable Q] : bI P = bI Q ↔ (P ↔ Q) := by
  by_cases p : P <;> by_cases q : Q <;> simp [bI, p, q]
theorem nar_0 : nar .boolean (0 : Int32) = 0 := by decide
theorem nar_1 : nar .boolean (1 : Int32) = 1 := by decide
theorem nar_bI (P : Prop) [Decidable P] : nar .boolean (bI P) = bI P := by by_cases p : P <;> simp [bI, p] <;> decide
/-- the run from st ends, and Q holds of what it returns and leaves -/
def OG (p : Program) (e : Env) (below : List Frame) (s : State) (Q : Option Value → Heap → List Loc → Prop) (cc ss : Nat) (st : State) : Prop :=
  ∃ s₂ o, Steps p.tables e below st s₂ ∧ s₂.status = .running ∧ Ended s₂ below o ∧ ∃ v L, o = .returned v ∧ Q v s₂.heap L ∧ FrameEnd s o s₂ L cc ss
section Out
variable {p : Program} {l : Launch} {e : Env} {R : Room} {s : State} {m : MethodId} {args : Array Value} {below : List Frame} {meth : Method} {c : Code} {T : State} {locs : List Loc} {cells slots : Nat} {Q : Option Value → Heap → List Loc → Prop} {cc ss : Nat} {h : Heap}
theorem OG.step {st st' : State} (h : ∀ t, Steps p.tables e below st' t → Steps p.tables e below st t) (g : OG p e below s Q cc ss st') : OG p e below s Q cc ss st := by
  obtain ⟨s₂, o, h1, r⟩ := g
  exact ⟨s₂, o, h _ h1, r⟩
theorem OG.out (X : Stand p l e R s m args below meth c T locs cells slots) {v : Option Value} (hv : meth.sig.returnType = none → v = none) (hlk : meth.locks = false) {g : JFrame} (eT : T.heap = h)
    (hs : ∀ fs, (∀ (f : JFrame) (acts : List Action), f.method = m → f.locked = none → f.entered = [] → (doReturn e (T.setTop f) acts v).1 = T.setFrames fs) → Steps p.tables e below (T.setTop g) (T.setFrames fs))
    (hQ : Q v h locs) (hc : cells ≤ cc) (hl : slots ≤ ss) : OG p e below s Q cc ss (T.setTop g) := by
  obtain ⟨fs, hr, hrun, hended, hW, hsame⟩ := X.leave (v := v) hv hlk
  exact ⟨_, _, hs fs hr, hrun, hended, _, _, rfl, by show Q v T.heap locs; rw [eT]; exact hQ, ⟨_, rfl⟩, hW, hsame.mono hc hl⟩
theorem OG.retV (X : Stand p l e R s m args below meth c T locs cells slots) (hx : p.tables.exec = Jvm.exec) (hlk : meth.locks = false) (hret : meth.sig.returnType = none) {pc : Nat} {Ls : Array Slot} (hd : decode c.code pc = .ok (.return_, 1)) (eT : T.heap = h) (hQ : Q none h locs) (hc : cells ≤ cc) (hl : slots ≤ ss) : OG p e below s Q cc ss (T.setTop (mkF m pc Ls [])) :=
  OG.out X (fun _ => rfl) hlk eT (fun _ hr => X.returnOut hx hret hd hr) hQ hc hl
theorem OG.retI (X : Stand p l e R s m args below meth c T locs cells slots) (hx : p.tables.exec = Jvm.exec) (hlk : meth.locks = false) (hret : meth.sig.returnType = some .int) {pc : Nat} {Ls : Array Slot} {z : Int32} {rest : List Value} (hd : decode c.code pc = .ok (.ireturn, 1)) (eT : T.heap = h) (hQ : Q (some (.int z)) h locs) (hc : cells ≤ cc) (hl : slots ≤ ss) : OG p e below s Q cc ss (T.setTop (mkF m pc Ls (.int z :: rest))) :=
  OG.out X (fun h => by rw [hret] at h; cases h) hlk eT (fun _ hr => Jvm.RoadKit.retI X hx hret hd hr) hQ hc hl
theorem OG.retJ (X : Stand p l e R s m args below meth c T locs cells slots) (hx : p.tables.exec = Jvm.exec) (hlk : meth.locks = false) (hret : meth.sig.returnType = some .long) {pc : Nat} {Ls : Array Slot} {z : Int64} {rest : List Value} (hd : decode c.code pc = .ok (.lreturn, 1)) (eT : T.heap = h) (hQ : Q (some (.long z)) h locs) (hc : cells ≤ cc) (hl : slots ≤ ss) : OG p e below s Q cc ss (T.setTop (mkF m pc Ls (.long z :: rest))) :=
  OG.out X (fun h => by rw [hret] at h; cases h) hlk eT (fun _ hr => Jvm.RoadKit.retJ X hx hret hd hr) hQ hc hl
theorem OG.retR (X : Stand p l e R s m args below meth c T locs cells slots) (hx : p.tables.exec = Jvm.exec) (hlk : meth.locks = false) {ty : FieldType} (hret : meth.sig.returnType = some ty) (hty : ty.isReference = true) {pc : Nat} {Ls : Array Slot} {z : Addr} {rest : List Value} (hd : decode c.code pc = .ok (.areturn, 1)) (eT : T.heap = h) (hQ : Q (some (.ref z)) h locs) (hc : cells ≤ cc) (hl : slots ≤ ss) : OG p e below s Q cc ss (T.setTop (mkF m pc Ls (.ref z :: rest))) :=
  OG.out X (fun h => by rw [hret] at h; cases h) hlk eT (fun _ hr => Jvm.RoadKit.retR X hx hret hty hd hr) hQ hc hl
theorem OG.retZ (X : Stand p l e R s m args below meth c T locs cells slots) (hx : p.tables.exec = Jvm.exec) (hlk : meth.locks = false) (hret : meth.sig.returnType = some .boolean) {pc : Nat} {Ls : Array Slot} {z z' : Int32} {rest : List Value} (hd : decode c.code pc = .ok (.ireturn, 1)) (hz : nar .boolean z = z') (eT : T.heap = h) (hQ : Q (some (.int z')) h locs) (hc : cells ≤ cc) (hl : slots ≤ ss) : OG p e below s Q cc ss (T.setTop (mkF m pc Ls (.int z :: rest))) := by
  subst hz
  exact OG.out X (fun h => by rw [hret] at h; cases h) hlk eT (fun _ hr => retN X hx (t := .boolean) hret (by simp) hd hr) hQ hc hl
end Out
def own_maxI (a b : Int32) : Int32 := if a < b then b else a
theorem d2_0 : decode jdk_29_method_65_code 0 = .ok (.iload_n 0, 1) := by decide +kernel
theorem d2_1 : decode jdk_29_method_65_code 1 = .ok (.iload_n 1, 1) := by decide +kernel
theorem d2_2 : decode jdk_29_method_65_code 2 = .ok (.if_icmp .lt 7, 3) := by decide +kernel
theorem d2_5 : decode jdk_29_method_65_code 5 = .ok (.iload_n 0, 1) := by decide +kernel
theorem d2_6 : decode jdk_29_method_65_code 6 = .ok (.goto 4, 3) := by decide +kernel
theorem d2_9 : decode jdk_29_method_65_code 9 = .ok (.iload_n 1, 1) := by decide +kernel
theorem d2_10 : decode jdk_29_method_65_code 10 = .ok (.ireturn, 1) := by decide +kernel
theorem ef_2 (m : MethodId) (x0 : Int32) (x1 : Int32) : entryFrame m #[(.int x0), (.int x1)] 2 = mkF m 0 #[.val (.int x0), .val (.int x1)] [] := by first | (simp [entryFrame, mkF, argsToLocals, Value.category]; done) | rfl
def Q2 (Z : State) (q0 : Int32) (q1 : Int32) (h0 : Heap) (n0 : Nat) (v : Option Value) (h : Heap) (L : List Loc) : Prop := (v = some (.int (own_maxI q0 q1))) ∧ (Fr n0 L) ∧ (h = h0)
abbrev rom_2 : Room := { frames := 0, cells := 0, slots := 0, locals := 0 }
set_option maxRecDepth 65536 in
set_option maxHeartbeats 40000000 in
theorem rm2 (l : Launch) (Z : State) (a0 : Array Value) (hw : ∀ d ∈ tables_1, d.before a0 Z = true) (ws : List Jvm.Cond) (q0 : Int32) (q1 : Int32) (h0 : Heap) (n0 : Nat) (Z0 : n0 ≤ h0.size) :
    MetFree l (⟨"java/lang/Math", "max", "(II)I"⟩ : MethodName) (head1 (Jvm.Cond.code (⟨"java/lang/Math", "max", "(II)I"⟩ : MethodName) jdk_29_method_65_code 2 (some .int) :: ws) rom_2) (fun a U => a = #[(.int q0), (.int q1)] ∧ Z.Warmed39 U.vm ∧ U.heap = h0) (fun _ _ _ _ _ => True) (fun _ U o U' => ∃ v L, o = .returned v ∧ Q2 Z q0 q1 h0 n0 v U'.heap L ∧ FrameEnd U o U' L rom_2.cells rom_2.slots) := by
  refine MetFree.of_bodySF (Jvm.Free.JP.mathPlain rfl (by decide +kernel)) hisR ?_
  intro p e s m args below meth c s₁ Bd hml0 hP hK
  obtain ⟨rfl, hZ, hh⟩ := hP
  have hx := Bd.exec
  have hby := Bd.bytes
  have hlk := Bd.notSynchronized
  have hml : c.maxLocals = 2 := hml0
  have hown : s.vm.findClass "java/lang/Math" = some m.cls := findClass_of_methodNamed Bd.named
  have hnm := (name_of_methodNamed Bd.named Bd.method).1
  have X0 : Stand p l e rom_2 s m #[(.int q0), (.int q1)] below meth c s₁ [] 0 0 := Stand.of_body Bd
  have e0 : s₁.heap = h0 := by rw [← hh, Bd.state]; rfl
  have N0 := Fr.nil n0
  have K0 : Keep h0 h0 [] := Keep.refl _ _
  refine (?_ : OG p e below s (Q2 Z q0 q1 h0 n0) rom_2.cells rom_2.slots _)
  rw [ef_2]
  have s1 : ∀ tz, Steps p.tables e below (s₁.setTop (mkF m 2 #[.val (.int q0), .val (.int q1)] [(.int q1), (.int q0)])) tz → Steps p.tables e below (s₁.setTop (mkF m 0 #[.val (.int q0), .val (.int q1)] [])) tz := by
    intro tz kz
    refine XS.iloadN X0.here hx rfl (hb hby d2_0) rfl ?_
    show Steps p.tables e below (s₁.setTop (mkF m 1 #[.val (.int q0), .val (.int q1)] [(.int q0)])) _
    refine XS.iloadN X0.here hx rfl (hb hby d2_1) rfl ?_
    exact kz
  refine OG.step s1 ?_
  by_cases hc2 : q0 < q1
  · have s2 : ∀ tz, Steps p.tables e below (s₁.setTop (mkF m 10 #[.val (.int q0), .val (.int q1)] [(.int q1)])) tz → Steps p.tables e below (s₁.setTop (mkF m 2 #[.val (.int q0), .val (.int q1)] [(.int q1), (.int q0)])) tz := by
      intro tz kz
      refine XS.icmpYes X0.here hx rfl (pc0 := 2) (pc' := 9) rfl (hb hby d2_2) rfl (tlt hc2).1 (by decide) (by decide) ?_
      show Steps p.tables e below (s₁.setTop (mkF m 9 #[.val (.int q0), .val (.int q1)] [])) _
      refine XS.iloadN X0.here hx rfl (hb hby d2_9) rfl ?_
      exact kz
    refine OG.step s2 ?_
    exact OG.retI X0 hx hlk Bd.returns (hb hby d2_10) e0 ⟨(by simp [own_maxI, hc2]), N0, rfl⟩ (by decide) (by decide)
  · have s3 : ∀ tz, Steps p.tables e below (s₁.setTop (mkF m 10 #[.val (.int q0), .val (.int q1)] [(.int q0)])) tz → Steps p.tables e below (s₁.setTop (mkF m 2 #[.val (.int q0), .val (.int q1)] [(.int q1), (.int q0)])) tz := by
      intro tz kz
      refine XS.icmpNo X0.here hx rfl (hb hby d2_2) rfl (flt hc2).1 ?_
      show Steps p.tables e below (s₁.setTop (mkF m 5 #[.val (.int q0), .val (.int q1)] [])) _
      refine XS.iloadN X0.here hx rfl (hb hby d2_5) rfl ?_
      show Steps p.tables e below (s₁.setTop (mkF m 6 #[.val (.int q0), .val (.int q1)] [(.int q0)])) _
      refine XS.goto X0.here hx rfl (pc0 := 6) (pc' := 10) rfl (hb hby d2_6) (by decide) (by decide) ?_
      exact kz
    refine OG.step s3 ?_
    exact OG.retI X0 hx hlk Bd.returns (hb hby d2_10) e0 ⟨(by simp [own_maxI, hc2]), N0, rfl⟩ (by decide) (by decide)
def own_maxJ (a b : Int64) : Int64 := if a < b then b else a
theorem d3_0 : decode jdk_29_method_66_code 0 = .ok (.lload_n 0, 1) := by decide +kernel
theorem d3_1 : decode jdk_29_method_66_code 1 = .ok (.lload_n 2, 1) := by decide +kernel
theorem d3_2 : decode jdk_29_method_66_code 2 = .ok (.lcmp, 1) := by decide +kernel
theorem d3_3 : decode jdk_29_method_66_code 3 = .ok (.ifCond .lt 7, 3) := by decide +kernel
theorem d3_6 : decode jdk_29_method_66_code 6 = .ok (.lload_n 0, 1) := by decide +kernel
theorem d3_7 : decode jdk_29_method_66_code 7 = .ok (.goto 4, 3) := by decide +kernel
theorem d3_10 : decode jdk_29_method_66_code 10 = .ok (.lload_n 2, 1) := by decide +kernel
theorem d3_11 : decode jdk_29_method_66_code 11 = .ok (.lreturn, 1) := by decide +kernel
theorem ef_3 (m : MethodId) (x0 : Int64) (x1 : Int64) : entryFrame m #[(.long x0), (.long x1)] 4 = mkF m 0 #[.val (.long x0), .second, .val (.long x1), .second] [] := by first | (simp [entryFrame, mkF, argsToLocals, Value.category]; done) | rfl
def Q3 (Z : State) (q0 : Int64) (q1 : Int64) (h0 : Heap) (n0 : Nat) (v : Option Value) (h : Heap) (L : List Loc) : Prop := (v = some (.long (own_maxJ q0 q1))) ∧ (Fr n0 L) ∧ (h = h0)
abbrev rom_3 : Room := { frames := 0, cells := 0, slots := 0, locals := 0 }
set_option maxRecDepth 65536 in
set_option maxHeartbeats 40000000 in
theorem rm3 (l : Launch) (Z : State) (a0 : Array Value) (hw : ∀ d ∈ tables_1, d.before a0 Z = true) (ws : List Jvm.Cond) (q0 : Int64) (q1 : Int64) (h0 : Heap) (n0 : Nat) (Z0 : n0 ≤ h0.size) :
    MetFree l (⟨"java/lang/Math", "max", "(JJ)J"⟩ : MethodName) (head1 (Jvm.Cond.code (⟨"java/lang/Math", "max", "(JJ)J"⟩ : MethodName) jdk_29_method_66_code 4 (some .long) :: ws) rom_3) (fun a U => a = #[(.long q0), (.long q1)] ∧ Z.Warmed39 U.vm ∧ U.heap = h0) (fun _ _ _ _ _ => True) (fun _ U o U' => ∃ v L, o = .returned v ∧ Q3 Z q0 q1 h0 n0 v U'.heap L ∧ FrameEnd U o U' L rom_3.cells rom_3.slots) := by
  refine MetFree.of_bodySF (Jvm.Free.JP.mathPlain rfl (by decide +kernel)) hisR ?_
  intro p e s m args below meth c s₁ Bd hml0 hP hK
  obtain ⟨rfl, hZ, hh⟩ := hP
  have hx := Bd.exec
  have hby := Bd.bytes
  have hlk := Bd.notSynchronized
  have hml : c.maxLocals = 4 := hml0
  have hown : s.vm.findClass "java/lang/Math" = some m.cls := findClass_of_methodNamed Bd.named
  have hnm := (name_of_methodNamed Bd.named Bd.method).1
  have X0 : Stand p l e rom_3 s m #[(.long q0), (.long q1)] below meth c s₁ [] 0 0 := Stand.of_body Bd
  have e0 : s₁.heap = h0 := by rw [← hh, Bd.state]; rfl
  have N0 := Fr.nil n0
  have K0 : Keep h0 h0 [] := Keep.refl _ _
  refine (?_ : OG p e below s (Q3 Z q0 q1 h0 n0) rom_3.cells rom_3.slots _)
  rw [ef_3]
  have s1 : ∀ tz, Steps p.tables e below (s₁.setTop (mkF m 3 #[.val (.long q0), .second, .val (.long q1), .second] [(.int (lcmpW q0 q1))])) tz → Steps p.tables e below (s₁.setTop (mkF m 0 #[.val (.long q0), .second, .val (.long q1), .second] [])) tz := by
    intro tz kz
    refine XS.lloadN X0.here hx rfl (hb hby d3_0) rfl ?_
    show Steps p.tables e below (s₁.setTop (mkF m 1 #[.val (.long q0), .second, .val (.long q1), .second] [(.long q0)])) _
    refine XS.lloadN X0.here hx rfl (hb hby d3_1) rfl ?_
    show Steps p.tables e below (s₁.setTop (mkF m 2 #[.val (.long q0), .second, .val (.long q1), .second] [(.long q1), (.long q0)])) _
    refine XS.lcmp X0.here hx rfl (hb hby d3_2) rfl ?_
    exact kz
  refine OG.step s1 ?_
  by_cases hc3 : q0 < q1
  · have s2 : ∀ tz, Steps p.tables e below (s₁.setTop (mkF m 11 #[.val (.long q0), .second, .val (.long q1), .second] [(.long q1)])) tz → Steps p.tables e below (s₁.setTop (mkF m 3 #[.val (.long q0), .second, .val (.long q1), .second] [(.int (lcmpW q0 q1))])) tz := by
      intro tz kz
      refine XS.ifYes X0.here hx rfl (pc0 := 3) (pc' := 10) rfl (hb hby d3_3) rfl ((if0 _ _).trans (tlt ((lw_lt q0 q1).mpr hc3)).1) (by decide) (by decide) ?_
      show Steps p.tables e below (s₁.setTop (mkF m 10 #[.val (.long q0), .second, .val (.long q1), .second] [])) _
      refine XS.lloadN X0.here hx rfl (hb hby d3_10) rfl ?_
      exact kz
    refine OG.step s2 ?_
    exact OG.retJ X0 hx hlk Bd.returns (hb hby d3_11) e0 ⟨(by simp [own_maxJ, hc3]), N0, rfl⟩ (by decide) (by decide)
  · have s3 : ∀ tz, Steps p.tables e below (s₁.setTop (mkF m 11 #[.val (.long q0), .second, .val (.long q1), .second] [(.long q0)])) tz → Steps p.tables e below (s₁.setTop (mkF m 3 #[.val (.long q0), .second, .val (.long q1), .second] [(.int (lcmpW q0 q1))])) tz := by
      intro tz kz
      refine XS.ifNo X0.here hx rfl (hb hby d3_3) rfl ((if0 _ _).trans (flt (mt (lw_lt q0 q1).mp hc3)).1) ?_
      show Steps p.tables e below (s₁.setTop (mkF m 6 #[.val (.long q0), .second, .val (.long q1), .second] [])) _
      refine XS.lloadN X0.here hx rfl (hb hby d3_6) rfl ?_
      show Steps p.tables e below (s₁.setTop (mkF m 7 #[.val (.long q0), .second, .val (.long q1), .second] [(.long q0)])) _
      refine XS.goto X0.here hx rfl (pc0 := 7) (pc' := 11) rfl (hb hby d3_7) (by decide) (by decide) ?_
      exact kz
    refine OG.step s3 ?_
    exact OG.retJ X0 hx hlk Bd.returns (hb hby d3_11) e0 ⟨(by simp [own_maxJ, hc3]), N0, rfl⟩ (by decide) (by decide)
def own_w (n d : Int32) (t : Int64) (g : Int32) : Int32 := if t = (g.toInt64 * n.toInt64) ∧ (d = n ∨ d = (0 : Int32)) then 0 else if (255 : Int32) < g then (if (65535 : Int32) < g then 4 else 2) else 1
theorem d1_0 : decode prog_20_method_2_code 0 = .ok (.lload_n 2, 1) := by decide +kernel
theorem d1_1 : decode prog_20_method_2_code 1 = .ok (.iload 4, 2) := by decide +kernel
theorem d1_3 : decode prog_20_method_2_code 3 = .ok (.i2l, 1) := by decide +kernel
theorem d1_4 : decode prog_20_method_2_code 4 = .ok (.iload_n 0, 1) := by decide +kernel
theorem d1_5 : decode prog_20_method_2_code 5 = .ok (.i2l, 1) := by decide +kernel
theorem d1_6 : decode prog_20_method_2_code 6 = .ok (.lmul, 1) := by decide +kernel
theorem d1_7 : decode prog_20_method_2_code 7 = .ok (.lcmp, 1) := by decide +kernel
theorem d1_8 : decode prog_20_method_2_code 8 = .ok (.ifCond .ne 18, 3) := by decide +kernel
theorem d1_11 : decode prog_20_method_2_code 11 = .ok (.iload_n 1, 1) := by decide +kernel
theorem d1_12 : decode prog_20_method_2_code 12 = .ok (.iload_n 0, 1) := by decide +kernel
theorem d1_13 : decode prog_20_method_2_code 13 = .ok (.if_icmp .eq 7, 3) := by decide +kernel
theorem d1_16 : decode prog_20_method_2_code 16 = .ok (.iload_n 1, 1) := by decide +kernel
theorem d1_17 : decode prog_20_method_2_code 17 = .ok (.ifCond .ne 9, 3) := by decide +kernel
theorem d1_20 : decode prog_20_method_2_code 20 = .ok (.iconst 0, 1) := by decide +kernel
theorem d1_21 : decode prog_20_method_2_code 21 = .ok (.istore 5, 2) := by decide +kernel
theorem d1_23 : decode prog_20_method_2_code 23 = .ok (.goto 33, 3) := by decide +kernel
theorem d1_26 : decode prog_20_method_2_code 26 = .ok (.iload 4, 2) := by decide +kernel
theorem d1_28 : decode prog_20_method_2_code 28 = .ok (.sipush 255, 3) := by decide +kernel
theorem d1_31 : decode prog_20_method_2_code 31 = .ok (.if_icmp .gt 9, 3) := by decide +kernel
theorem d1_34 : decode prog_20_method_2_code 34 = .ok (.iconst 1, 1) := by decide +kernel
theorem d1_35 : decode prog_20_method_2_code 35 = .ok (.istore 5, 2) := by decide +kernel
theorem d1_37 : decode prog_20_method_2_code 37 = .ok (.goto 19, 3) := by decide +kernel
theorem d1_40 : decode prog_20_method_2_code 40 = .ok (.iload 4, 2) := by decide +kernel
theorem d1_42 : decode prog_20_method_2_code 42 = .ok (.ldc 32, 2) := by decide +kernel
theorem d1_44 : decode prog_20_method_2_code 44 = .ok (.if_icmp .gt 9, 3) := by decide +kernel
theorem d1_47 : decode prog_20_method_2_code 47 = .ok (.iconst 2, 1) := by decide +kernel
theorem d1_48 : decode prog_20_method_2_code 48 = .ok (.istore 5, 2) := by decide +kernel
theorem d1_50 : decode prog_20_method_2_code 50 = .ok (.goto 6, 3) := by decide +kernel
theorem d1_53 : decode prog_20_method_2_code 53 = .ok (.iconst 4, 1) := by decide +kernel
theorem d1_54 : decode prog_20_method_2_code 54 = .ok (.istore 5, 2) := by decide +kernel
theorem d1_56 : decode prog_20_method_2_code 56 = .ok (.iload 5, 2) := by decide +kernel
theorem d1_58 : decode prog_20_method_2_code 58 = .ok (.ireturn, 1) := by decide +kernel
theorem pn_com_example_strata_strata_FieldEntry : plainName "com/example/strata/strata/FieldEntry" = true := by first | (simp [plainName, overriddenIn]; done) | decide +kernel
theorem ef_1 (m : MethodId) (x0 : Int32) (x1 : Int32) (x2 : Int64) (x3 : Int32) : entryFrame m #[(.int x0), (.int x1), (.long x2), (.int x3)] 6 = mkF m 0 #[.val (.int x0), .val (.int x1), .val (.long x2), .second, .val (.int x3), .unset] [] := by first | (simp [entryFrame, mkF, argsToLocals, Value.category]; done) | rfl
def Q1 (Z : State) (p0 : Int32) (p1 : Int32) (q2 : Int64) (p3 : Int32) (h0 : Heap) (n0 : Nat) (v : Option Value) (h : Heap) (L : List Loc) : Prop := (v = some (.int (own_w p0 p1 q2 p3))) ∧ (Fr n0 L) ∧ (h = h0)
abbrev rom_1 : Room := { frames := 0, cells := 0, slots := 0, locals := 0 }
set_option maxRecDepth 65536 in
set_option maxHeartbeats 40000000 in
theorem rm1 (l : Launch) (Z : State) (a0 : Array Value) (hw : ∀ d ∈ tables_1, d.before a0 Z = true) (ws : List Jvm.Cond) (p0 : Int32) (p1 : Int32) (q2 : Int64) (p3 : Int32) (h0 : Heap) (n0 : Nat) (Z0 : n0 ≤ h0.size) :
    MetFree l (⟨"com/example/strata/strata/FieldEntry", "width", "(IIJI)I"⟩ : MethodName) (head1 (Jvm.Cond.code (⟨"com/example/strata/strata/FieldEntry", "width", "(IIJI)I"⟩ : MethodName) prog_20_method_2_code 6 (some .int) :: ws) rom_1) (fun a U => a = #[(.int p0), (.int p1), (.long q2), (.int p3)] ∧ Z.Warmed39 U.vm ∧ U.heap = h0) (fun _ _ _ _ _ => True) (fun _ U o U' => ∃ v L, o = .returned v ∧ Q1 Z p0 p1 q2 p3 h0 n0 v U'.heap L ∧ FrameEnd U o U' L rom_1.cells rom_1.slots) := by
  refine MetFree.of_bodySF (plainFor_of_name pn_com_example_strata_strata_FieldEntry) hisR ?_
  intro p e s m args below meth c s₁ Bd hml0 hP hK
  obtain ⟨rfl, hZ, hh⟩ := hP
  have hx := Bd.exec
  have hby := Bd.bytes
  have hlk := Bd.notSynchronized
  have hml : c.maxLocals = 6 := hml0
  have hown : s.vm.findClass "com/example/strata/strata/FieldEntry" = some m.cls := findClass_of_methodNamed Bd.named
  have hnm := (name_of_methodNamed Bd.named Bd.method).1
  have X0 : Stand p l e rom_1 s m #[(.int p0), (.int p1), (.long q2), (.int p3)] below meth c s₁ [] 0 0 := Stand.of_body Bd
  have e0 : s₁.heap = h0 := by rw [← hh, Bd.state]; rfl
  have N0 := Fr.nil n0
  have K0 : Keep h0 h0 [] := Keep.refl _ _
  refine (?_ : OG p e below s (Q1 Z p0 p1 q2 p3 h0 n0) rom_1.cells rom_1.slots _)
  rw [ef_1]
  have s1 : ∀ tz, Steps p.tables e below (s₁.setTop (mkF m 8 #[.val (.int p0), .val (.int p1), .val (.long q2), .second, .val (.int p3), .unset] [(.int (lcmpW q2 ((p3.toInt64) * (p0.toInt64))))])) tz → Steps p.tables e below (s₁.setTop (mkF m 0 #[.val (.int p0), .val (.int p1), .val (.long q2), .second, .val (.int p3), .unset] [])) tz := by
    intro tz kz
    refine XS.lloadN X0.here hx rfl (hb hby d1_0) rfl ?_
    show Steps p.tables e below (s₁.setTop (mkF m 1 #[.val (.int p0), .val (.int p1), .val (.long q2), .second, .val (.int p3), .unset] [(.long q2)])) _
    refine XS.iload X0.here hx rfl (hb hby d1_1) rfl ?_
    show Steps p.tables e below (s₁.setTop (mkF m 3 #[.val (.int p0), .val (.int p1), .val (.long q2), .second, .val (.int p3), .unset] [(.int p3), (.long q2)])) _
    refine XS.i2l X0.here hx rfl (hb hby d1_3) rfl ?_
    show Steps p.tables e below (s₁.setTop (mkF m 4 #[.val (.int p0), .val (.int p1), .val (.long q2), .second, .val (.int p3), .unset] [(.long (p3.toInt64)), (.long q2)])) _
    refine XS.iloadN X0.here hx rfl (hb hby d1_4) rfl ?_
    show Steps p.tables e below (s₁.setTop (mkF m 5 #[.val (.int p0), .val (.int p1), .val (.long q2), .second, .val (.int p3), .unset] [(.int p0), (.long (p3.toInt64)), (.long q2)])) _
    refine XS.i2l X0.here hx rfl (hb hby d1_5) rfl ?_
    show Steps p.tables e below (s₁.setTop (mkF m 6 #[.val (.int p0), .val (.int p1), .val (.long q2), .second, .val (.int p3), .unset] [(.long (p0.toInt64)), (.long (p3.toInt64)), (.long q2)])) _
    refine XS.lmul X0.here hx rfl (hb hby d1_6) rfl ?_
    show Steps p.tables e below (s₁.setTop (mkF m 7 #[.val (.int p0), .val (.int p1), .val (.long q2), .second, .val (.int p3), .unset] [(.long ((p3.toInt64) * (p0.toInt64))), (.long q2)])) _
    refine XS.lcmp X0.here hx rfl (hb hby d1_7) rfl ?_
    exact kz
  refine OG.step s1 ?_
  by_cases hc8 : q2 = ((p3.toInt64) * (p0.toInt64))
  · have s2 : ∀ tz, Steps p.tables e below (s₁.setTop (mkF m 13 #[.val (.int p0), .val (.int p1), .val (.long q2), .second, .val (.int p3), .unset] [(.int p0), (.int p1)])) tz → Steps p.tables e below (s₁.setTop (mkF m 8 #[.val (.int p0), .val (.int p1), .val (.long q2), .second, .val (.int p3), .unset] [(.int (lcmpW q2 ((p3.toInt64) * (p0.toInt64))))])) tz := by
      intro tz kz
      refine XS.ifNo X0.here hx rfl (hb hby d1_8) rfl ((if0 _ _).trans (teq ((lw_eq q2 ((p3.toInt64) * (p0.toInt64))).mpr hc8)).2) ?_
      show Steps p.tables e below (s₁.setTop (mkF m 11 #[.val (.int p0), .val (.int p1), .val (.long q2), .second, .val (.int p3), .unset] [])) _
      refine XS.iloadN X0.here hx rfl (hb hby d1_11) rfl ?_
      show Steps p.tables e below (s₁.setTop (mkF m 12 #[.val (.int p0), .val (.int p1), .val (.long q2), .second, .val (.int p3), .unset] [(.int p1)])) _
      refine XS.iloadN X0.here hx rfl (hb hby d1_12) rfl ?_
      exact kz
    refine OG.step s2 ?_
    by_cases hc13 : p1 = p0
    · have s3 : ∀ tz, Steps p.tables e below (s₁.setTop (mkF m 58 #[.val (.int p0), .val (.int p1), .val (.long q2), .second, .val (.int p3), .val (.int (0 : Int32))] [(.int (0 : Int32))])) tz → Steps p.tables e below (s₁.setTop (mkF m 13 #[.val (.int p0), .val (.int p1), .val (.long q2), .second, .val (.int p3), .unset] [(.int p0), (.int p1)])) tz := by
        intro tz kz
        refine XS.icmpYes X0.here hx rfl (pc0 := 13) (pc' := 20) rfl (hb hby d1_13) rfl (teq hc13).1 (by decide) (by decide) ?_
        show Steps p.tables e below (s₁.setTop (mkF m 20 #[.val (.int p0), .val (.int p1), .val (.long q2), .second, .val (.int p3), .unset] [])) _
        refine XS.iconst X0.here hx rfl (hb hby d1_20) ?_
        show Steps p.tables e below (s₁.setTop (mkF m 21 #[.val (.int p0), .val (.int p1), .val (.long q2), .second, .val (.int p3), .unset] [(.int (0 : Int32))])) _
        refine XS.istore X0.here hx rfl (hb hby d1_21) rfl (l' := #[.val (.int p0), .val (.int p1), .val (.long q2), .second, .val (.int p3), .val (.int (0 : Int32))]) rfl ?_
        show Steps p.tables e below (s₁.setTop (mkF m 23 #[.val (.int p0), .val (.int p1), .val (.long q2), .second, .val (.int p3), .val (.int (0 : Int32))] [])) _
        refine XS.goto X0.here hx rfl (pc0 := 23) (pc' := 56) rfl (hb hby d1_23) (by decide) (by decide) ?_
        show Steps p.tables e below (s₁.setTop (mkF m 56 #[.val (.int p0), .val (.int p1), .val (.long q2), .second, .val (.int p3), .val (.int (0 : Int32))] [])) _
        refine XS.iload X0.here hx rfl (hb hby d1_56) rfl ?_
        exact kz
      refine OG.step s3 ?_
      exact OG.retI X0 hx hlk Bd.returns (hb hby d1_58) e0 ⟨(by simp [own_w, hc8, hc13]), N0, rfl⟩ (by decide) (by decide)
    · have s4 : ∀ tz, Steps p.tables e below (s₁.setTop (mkF m 17 #[.val (.int p0), .val (.int p1), .val (.long q2), .second, .val (.int p3), .unset] [(.int p1)])) tz → Steps p.tables e below (s₁.setTop (mkF m 13 #[.val (.int p0), .val (.int p1), .val (.long q2), .second, .val (.int p3), .unset] [(.int p0), (.int p1)])) tz := by
        intro tz kz
        refine XS.icmpNo X0.here hx rfl (hb hby d1_13) rfl (feq hc13).1 ?_
        show Steps p.tables e below (s₁.setTop (mkF m 16 #[.val (.int p0), .val (.int p1), .val (.long q2), .second, .val (.int p3), .unset] [])) _
        refine XS.iloadN X0.here hx rfl (hb hby d1_16) rfl ?_
        exact kz
      refine OG.step s4 ?_
      by_cases hc17 : p1 = (0 : Int32)
      · have s5 : ∀ tz, Steps p.tables e below (s₁.setTop (mkF m 58 #[.val (.int p0), .val (.int p1), .val (.long q2), .second, .val (.int p3), .val (.int (0 : Int32))] [(.int (0 : Int32))])) tz → Steps p.tables e below (s₁.setTop (mkF m 17 #[.val (.int p0), .val (.int p1), .val (.long q2), .second, .val (.int p3), .unset] [(.int p1)])) tz := by
          intro tz kz
          refine XS.ifNo X0.here hx rfl (hb hby d1_17) rfl ((if0 _ _).trans (teq hc17).2) ?_
          show Steps p.tables e below (s₁.setTop (mkF m 20 #[.val (.int p0), .val (.int p1), .val (.long q2), .second, .val (.int p3), .unset] [])) _
          refine XS.iconst X0.here hx rfl (hb hby d1_20) ?_
          show Steps p.tables e below (s₁.setTop (mkF m 21 #[.val (.int p0), .val (.int p1), .val (.long q2), .second, .val (.int p3), .unset] [(.int (0 : Int32))])) _
          refine XS.istore X0.here hx rfl (hb hby d1_21) rfl (l' := #[.val (.int p0), .val (.int p1), .val (.long q2), .second, .val (.int p3), .val (.int (0 : Int32))]) rfl ?_
          show Steps p.tables e below (s₁.setTop (mkF m 23 #[.val (.int p0), .val (.int p1), .val (.long q2), .second, .val (.int p3), .val (.int (0 : Int32))] [])) _
          refine XS.goto X0.here hx rfl (pc0 := 23) (pc' := 56) rfl (hb hby d1_23) (by decide) (by decide) ?_
          show Steps p.tables e below (s₁.setTop (mkF m 56 #[.val (.int p0), .val (.int p1), .val (.long q2), .second, .val (.int p3), .val (.int (0 : Int32))] [])) _
          refine XS.iload X0.here hx rfl (hb hby d1_56) rfl ?_
          exact kz
        refine OG.step s5 ?_
        exact OG.retI X0 hx hlk Bd.returns (hb hby d1_58) e0 ⟨(by simp [own_w, hc8, hc13, hc17]), N0, rfl⟩ (by decide) (by decide)
      · have s6 : ∀ tz, Steps p.tables e below (s₁.setTop (mkF m 31 #[.val (.int p0), .val (.int p1), .val (.long q2), .second, .val (.int p3), .unset] [(.int (255 : Int32)), (.int p3)])) tz → Steps p.tables e below (s₁.setTop (mkF m 17 #[.val (.int p0), .val (.int p1), .val (.long q2), .second, .val (.int p3), .unset] [(.int p1)])) tz := by
          intro tz kz
          refine XS.ifYes X0.here hx rfl (pc0 := 17) (pc' := 26) rfl (hb hby d1_17) rfl ((if0 _ _).trans (feq hc17).2) (by decide) (by decide) ?_
          show Steps p.tables e below (s₁.setTop (mkF m 26 #[.val (.int p0), .val (.int p1), .val (.long q2), .second, .val (.int p3), .unset] [])) _
          refine XS.iload X0.here hx rfl (hb hby d1_26) rfl ?_
          show Steps p.tables e below (s₁.setTop (mkF m 28 #[.val (.int p0), .val (.int p1), .val (.long q2), .second, .val (.int p3), .unset] [(.int p3)])) _
          refine XS.sipush X0.here hx rfl (hb hby d1_28) ?_
          exact kz
        refine OG.step s6 ?_
        by_cases hc31 : (255 : Int32) < p3
        · have s7 : ∀ tz, Steps p.tables e below (s₁.setTop (mkF m 44 #[.val (.int p0), .val (.int p1), .val (.long q2), .second, .val (.int p3), .unset] [(.int (65535 : Int32)), (.int p3)])) tz → Steps p.tables e below (s₁.setTop (mkF m 31 #[.val (.int p0), .val (.int p1), .val (.long q2), .second, .val (.int p3), .unset] [(.int (255 : Int32)), (.int p3)])) tz := by
            intro tz kz
            refine XS.icmpYes X0.here hx rfl (pc0 := 31) (pc' := 40) rfl (hb hby d1_31) rfl (tlt hc31).2.2.1 (by decide) (by decide) ?_
            show Steps p.tables e below (s₁.setTop (mkF m 40 #[.val (.int p0), .val (.int p1), .val (.long q2), .second, .val (.int p3), .unset] [])) _
            refine XS.iload X0.here hx rfl (hb hby d1_40) rfl ?_
            show Steps p.tables e below (s₁.setTop (mkF m 42 #[.val (.int p0), .val (.int p1), .val (.long q2), .second, .val (.int p3), .unset] [(.int p3)])) _
            refine X0.ldcInt hx hown (mvT hZ (hw _ (List.mem_of_getElem? (i := 13) rfl))) (g := (mkF m 42 #[.val (.int p0), .val (.int p1), .val (.long q2), .second, .val (.int p3), .unset] [(.int p3)])) rfl (hb hby d1_42) _ ?_
            exact kz
          refine OG.step s7 ?_
          by_cases hc44 : (65535 : Int32) < p3
          · have s8 : ∀ tz, Steps p.tables e below (s₁.setTop (mkF m 58 #[.val (.int p0), .val (.int p1), .val (.long q2), .second, .val (.int p3), .val (.int (4 : Int32))] [(.int (4 : Int32))])) tz → Steps p.tables e below (s₁.setTop (mkF m 44 #[.val (.int p0), .val (.int p1), .val (.long q2), .second, .val (.int p3), .unset] [(.int (65535 : Int32)), (.int p3)])) tz := by
              intro tz kz
              refine XS.icmpYes X0.here hx rfl (pc0 := 44) (pc' := 53) rfl (hb hby d1_44) rfl (tlt hc44).2.2.1 (by decide) (by decide) ?_
              show Steps p.tables e below (s₁.setTop (mkF m 53 #[.val (.int p0), .val (.int p1), .val (.long q2), .second, .val (.int p3), .unset] [])) _
              refine XS.iconst X0.here hx rfl (hb hby d1_53) ?_
              show Steps p.tables e below (s₁.setTop (mkF m 54 #[.val (.int p0), .val (.int p1), .val (.long q2), .second, .val (.int p3), .unset] [(.int (4 : Int32))])) _
              refine XS.istore X0.here hx rfl (hb hby d1_54) rfl (l' := #[.val (.int p0), .val (.int p1), .val (.long q2), .second, .val (.int p3), .val (.int (4 : Int32))]) rfl ?_
              show Steps p.tables e below (s₁.setTop (mkF m 56 #[.val (.int p0), .val (.int p1), .val (.long q2), .second, .val (.int p3), .val (.int (4 : Int32))] [])) _
              refine XS.iload X0.here hx rfl (hb hby d1_56) rfl ?_
              exact kz
            refine OG.step s8 ?_
            exact OG.retI X0 hx hlk Bd.returns (hb hby d1_58) e0 ⟨(by simp [own_w, hc8, hc13, hc17, hc31, hc44]), N0, rfl⟩ (by decide) (by decide)
          · have s9 : ∀ tz, Steps p.tables e below (s₁.setTop (mkF m 58 #[.val (.int p0), .val (.int p1), .val (.long q2), .second, .val (.int p3), .val (.int (2 : Int32))] [(.int (2 : Int32))])) tz → Steps p.tables e below (s₁.setTop (mkF m 44 #[.val (.int p0), .val (.int p1), .val (.long q2), .second, .val (.int p3), .unset] [(.int (65535 : Int32)), (.int p3)])) tz := by
              intro tz kz
              refine XS.icmpNo X0.here hx rfl (hb hby d1_44) rfl (flt hc44).2.2.1 ?_
              show Steps p.tables e below (s₁.setTop (mkF m 47 #[.val (.int p0), .val (.int p1), .val (.long q2), .second, .val (.int p3), .unset] [])) _
              refine XS.iconst X0.here hx rfl (hb hby d1_47) ?_
              show Steps p.tables e below (s₁.setTop (mkF m 48 #[.val (.int p0), .val (.int p1), .val (.long q2), .second, .val (.int p3), .unset] [(.int (2 : Int32))])) _
              refine XS.istore X0.here hx rfl (hb hby d1_48) rfl (l' := #[.val (.int p0), .val (.int p1), .val (.long q2), .second, .val (.int p3), .val (.int (2 : Int32))]) rfl ?_
              show Steps p.tables e below (s₁.setTop (mkF m 50 #[.val (.int p0), .val (.int p1), .val (.long q2), .second, .val (.int p3), .val (.int (2 : Int32))] [])) _
              refine XS.goto X0.here hx rfl (pc0 := 50) (pc' := 56) rfl (hb hby d1_50) (by decide) (by decide) ?_
              show Steps p.tables e below (s₁.setTop (mkF m 56 #[.val (.int p0), .val (.int p1), .val (.long q2), .second, .val (.int p3), .val (.int (2 : Int32))] [])) _
              refine XS.iload X0.here hx rfl (hb hby d1_56) rfl ?_
              exact kz
            refine OG.step s9 ?_
            exact OG.retI X0 hx hlk Bd.returns (hb hby d1_58) e0 ⟨(by simp [own_w, hc8, hc13, hc17, hc31, hc44]), N0, rfl⟩ (by decide) (by decide)
        · have s10 : ∀ tz, Steps p.tables e below (s₁.setTop (mkF m 58 #[.val (.int p0), .val (.int p1), .val (.long q2), .second, .val (.int p3), .val (.int (1 : Int32))] [(.int (1 : Int32))])) tz → Steps p.tables e below (s₁.setTop (mkF m 31 #[.val (.int p0), .val (.int p1), .val (.long q2), .second, .val (.int p3), .unset] [(.int (255 : Int32)), (.int p3)])) tz := by
            intro tz kz
            refine XS.icmpNo X0.here hx rfl (hb hby d1_31) rfl (flt hc31).2.2.1 ?_
            show Steps p.tables e below (s₁.setTop (mkF m 34 #[.val (.int p0), .val (.int p1), .val (.long q2), .second, .val (.int p3), .unset] [])) _
            refine XS.iconst X0.here hx rfl (hb hby d1_34) ?_
            show Steps p.tables e below (s₁.setTop (mkF m 35 #[.val (.int p0), .val (.int p1), .val (.long q2), .second, .val (.int p3), .unset] [(.int (1 : Int32))])) _
            refine XS.istore X0.here hx rfl (hb hby d1_35) rfl (l' := #[.val (.int p0), .val (.int p1), .val (.long q2), .second, .val (.int p3), .val (.int (1 : Int32))]) rfl ?_
            show Steps p.tables e below (s₁.setTop (mkF m 37 #[.val (.int p0), .val (.int p1), .val (.long q2), .second, .val (.int p3), .val (.int (1 : Int32))] [])) _
            refine XS.goto X0.here hx rfl (pc0 := 37) (pc' := 56) rfl (hb hby d1_37) (by decide) (by decide) ?_
            show Steps p.tables e below (s₁.setTop (mkF m 56 #[.val (.int p0), .val (.int p1), .val (.long q2), .second, .val (.int p3), .val (.int (1 : Int32))] [])) _
            refine XS.iload X0.here hx rfl (hb hby d1_56) rfl ?_
            exact kz
          refine OG.step s10 ?_
          exact OG.retI X0 hx hlk Bd.returns (hb hby d1_58) e0 ⟨(by simp [own_w, hc8, hc13, hc17, hc31]), N0, rfl⟩ (by decide) (by decide)
  · have s11 : ∀ tz, Steps p.tables e below (s₁.setTop (mkF m 31 #[.val (.int p0), .val (.int p1), .val (.long q2), .second, .val (.int p3), .unset] [(.int (255 : Int32)), (.int p3)])) tz → Steps p.tables e below (s₁.setTop (mkF m 8 #[.val (.int p0), .val (.int p1), .val (.long q2), .second, .val (.int p3), .unset] [(.int (lcmpW q2 ((p3.toInt64) * (p0.toInt64))))])) tz := by
      intro tz kz
      refine XS.ifYes X0.here hx rfl (pc0 := 8) (pc' := 26) rfl (hb hby d1_8) rfl ((if0 _ _).trans (feq (mt (lw_eq q2 ((p3.toInt64) * (p0.toInt64))).mp hc8)).2) (by decide) (by decide) ?_
      show Steps p.tables e below (s₁.setTop (mkF m 26 #[.val (.int p0), .val (.int p1), .val (.long q2), .second, .val (.int p3), .unset] [])) _
      refine XS.iload X0.here hx rfl (hb hby d1_26) rfl ?_
      show Steps p.tables e below (s₁.setTop (mkF m 28 #[.val (.int p0), .val (.int p1), .val (.long q2), .second, .val (.int p3), .unset] [(.int p3)])) _
      refine XS.sipush X0.here hx rfl (hb hby d1_28) ?_
      exact kz
    refine OG.step s11 ?_
    by_cases hc31 : (255 : Int32) < p3
    · have s12 : ∀ tz, Steps p.tables e below (s₁.setTop (mkF m 44 #[.val (.int p0), .val (.int p1), .val (.long q2), .second, .val (.int p3), .unset] [(.int (65535 : Int32)), (.int p3)])) tz → Steps p.tables e below (s₁.setTop (mkF m 31 #[.val (.int p0), .val (.int p1), .val (.long q2), .second, .val (.int p3), .unset] [(.int (255 : Int32)), (.int p3)])) tz := by
        intro tz kz
        refine XS.icmpYes X0.here hx rfl (pc0 := 31) (pc' := 40) rfl (hb hby d1_31) rfl (tlt hc31).2.2.1 (by decide) (by decide) ?_
        show Steps p.tables e below (s₁.setTop (mkF m 40 #[.val (.int p0), .val (.int p1), .val (.long q2), .second, .val (.int p3), .unset] [])) _
        refine XS.iload X0.here hx rfl (hb hby d1_40) rfl ?_
        show Steps p.tables e below (s₁.setTop (mkF m 42 #[.val (.int p0), .val (.int p1), .val (.long q2), .second, .val (.int p3), .unset] [(.int p3)])) _
        refine X0.ldcInt hx hown (mvT hZ (hw _ (List.mem_of_getElem? (i := 13) rfl))) (g := (mkF m 42 #[.val (.int p0), .val (.int p1), .val (.long q2), .second, .val (.int p3), .unset] [(.int p3)])) rfl (hb hby d1_42) _ ?_
        exact kz
      refine OG.step s12 ?_
      by_cases hc44 : (65535 : Int32) < p3
      · have s13 : ∀ tz, Steps p.tables e below (s₁.setTop (mkF m 58 #[.val (.int p0), .val (.int p1), .val (.long q2), .second, .val (.int p3), .val (.int (4 : Int32))] [(.int (4 : Int32))])) tz → Steps p.tables e below (s₁.setTop (mkF m 44 #[.val (.int p0), .val (.int p1), .val (.long q2), .second, .val (.int p3), .unset] [(.int (65535 : Int32)), (.int p3)])) tz := by
          intro tz kz
          refine XS.icmpYes X0.here hx rfl (pc0 := 44) (pc' := 53) rfl (hb hby d1_44) rfl (tlt hc44).2.2.1 (by decide) (by decide) ?_
          show Steps p.tables e below (s₁.setTop (mkF m 53 #[.val (.int p0), .val (.int p1), .val (.long q2), .second, .val (.int p3), .unset] [])) _
          refine XS.iconst X0.here hx rfl (hb hby d1_53) ?_
          show Steps p.tables e below (s₁.setTop (mkF m 54 #[.val (.int p0), .val (.int p1), .val (.long q2), .second, .val (.int p3), .unset] [(.int (4 : Int32))])) _
          refine XS.istore X0.here hx rfl (hb hby d1_54) rfl (l' := #[.val (.int p0), .val (.int p1), .val (.long q2), .second, .val (.int p3), .val (.int (4 : Int32))]) rfl ?_
          show Steps p.tables e below (s₁.setTop (mkF m 56 #[.val (.int p0), .val (.int p1), .val (.long q2), .second, .val (.int p3), .val (.int (4 : Int32))] [])) _
          refine XS.iload X0.here hx rfl (hb hby d1_56) rfl ?_
          exact kz
        refine OG.step s13 ?_
        exact OG.retI X0 hx hlk Bd.returns (hb hby d1_58) e0 ⟨(by simp [own_w, hc8, hc31, hc44]), N0, rfl⟩ (by decide) (by decide)
      · have s14 : ∀ tz, Steps p.tables e below (s₁.setTop (mkF m 58 #[.val (.int p0), .val (.int p1), .val (.long q2), .second, .val (.int p3), .val (.int (2 : Int32))] [(.int (2 : Int32))])) tz → Steps p.tables e below (s₁.setTop (mkF m 44 #[.val (.int p0), .val (.int p1), .val (.long q2), .second, .val (.int p3), .unset] [(.int (65535 : Int32)), (.int p3)])) tz := by
          intro tz kz
          refine XS.icmpNo X0.here hx rfl (hb hby d1_44) rfl (flt hc44).2.2.1 ?_
          show Steps p.tables e below (s₁.setTop (mkF m 47 #[.val (.int p0), .val (.int p1), .val (.long q2), .second, .val (.int p3), .unset] [])) _
          refine XS.iconst X0.here hx rfl (hb hby d1_47) ?_
          show Steps p.tables e below (s₁.setTop (mkF m 48 #[.val (.int p0), .val (.int p1), .val (.long q2), .second, .val (.int p3), .unset] [(.int (2 : Int32))])) _
          refine XS.istore X0.here hx rfl (hb hby d1_48) rfl (l' := #[.val (.int p0), .val (.int p1), .val (.long q2), .second, .val (.int p3), .val (.int (2 : Int32))]) rfl ?_
          show Steps p.tables e below (s₁.setTop (mkF m 50 #[.val (.int p0), .val (.int p1), .val (.long q2), .second, .val (.int p3), .val (.int (2 : Int32))] [])) _
          refine XS.goto X0.here hx rfl (pc0 := 50) (pc' := 56) rfl (hb hby d1_50) (by decide) (by decide) ?_
          show Steps p.tables e below (s₁.setTop (mkF m 56 #[.val (.int p0), .val (.int p1), .val (.long q2), .second, .val (.int p3), .val (.int (2 : Int32))] [])) _
          refine XS.iload X0.here hx rfl (hb hby d1_56) rfl ?_
          exact kz
        refine OG.step s14 ?_
        exact OG.retI X0 hx hlk Bd.returns (hb hby d1_58) e0 ⟨(by simp [own_w, hc8, hc31, hc44]), N0, rfl⟩ (by decide) (by decide)
    · have s15 : ∀ tz, Steps p.tables e below (s₁.setTop (mkF m 58 #[.val (.int p0), .val (.int p1), .val (.long q2), .second, .val (.int p3), .val (.int (1 : Int32))] [(.int (1 : Int32))])) tz → Steps p.tables e below (s₁.setTop (mkF m 31 #[.val (.int p0), .val (.int p1), .val (.long q2), .second, .val (.int p3), .unset] [(.int (255 : Int32)), (.int p3)])) tz := by
        intro tz kz
        refine XS.icmpNo X0.here hx rfl (hb hby d1_31) rfl (flt hc31).2.2.1 ?_
        show Steps p.tables e below (s₁.setTop (mkF m 34 #[.val (.int p0), .val (.int p1), .val (.long q2), .second, .val (.int p3), .unset] [])) _
        refine XS.iconst X0.here hx rfl (hb hby d1_34) ?_
        show Steps p.tables e below (s₁.setTop (mkF m 35 #[.val (.int p0), .val (.int p1), .val (.long q2), .second, .val (.int p3), .unset] [(.int (1 : Int32))])) _
        refine XS.istore X0.here hx rfl (hb hby d1_35) rfl (l' := #[.val (.int p0), .val (.int p1), .val (.long q2), .second, .val (.int p3), .val (.int (1 : Int32))]) rfl ?_
        show Steps p.tables e below (s₁.setTop (mkF m 37 #[.val (.int p0), .val (.int p1), .val (.long q2), .second, .val (.int p3), .val (.int (1 : Int32))] [])) _
        refine XS.goto X0.here hx rfl (pc0 := 37) (pc' := 56) rfl (hb hby d1_37) (by decide) (by decide) ?_
        show Steps p.tables e below (s₁.setTop (mkF m 56 #[.val (.int p0), .val (.int p1), .val (.long q2), .second, .val (.int p3), .val (.int (1 : Int32))] [])) _
        refine XS.iload X0.here hx rfl (hb hby d1_56) rfl ?_
        exact kz
      refine OG.step s15 ?_
      exact OG.retI X0 hx hlk Bd.returns (hb hby d1_58) e0 ⟨(by simp [own_w, hc8, hc31]), N0, rfl⟩ (by decide) (by decide)
def own_n (a : Int32) : Int32 := a &&& (2147483647 : Int32)
def own_d (a b f : Int32) : Int32 := if ¬ ((f &&& (1 : Int32)) = (0 : Int32)) then own_n a else ((((b &&& (2147483647 : Int32)).toInt64) % (((own_n a).toInt64) + (1 : Int64))).toInt32)
def own_lg (c f : Int32) : Int32 := own_maxI (1 : Int32) (((c &&& (2147483647 : Int32)).toUInt32 >>> ((((f.toUInt32 >>> ((1 : Int32) &&& 31).toUInt32).toInt32) &&& (31 : Int32)) &&& 31).toUInt32).toInt32)
def own_e (d g f : Int32) (x : Int64) : Int64 := if ¬ ((f &&& (1 : Int32)) = (0 : Int32)) then (0 : Int64) else ((x &&& (9223372036854775807 : Int64)) % ((((g.toInt64) * (d.toInt64)) - (own_maxJ (g.toInt64) (d.toInt64))) + (1 : Int64)))
def own_t (d g f : Int32) (x : Int64) : Int64 := ((g.toInt64) * (d.toInt64)) - own_e d g f x
theorem own_nb (a : Int32) : 0 ≤ (own_n a).toInt := by
  have e := c_mask a (2147483647 : Int32) 31 (by decide) (by decide)
  unfold own_n; omega
theorem own_n1 (a : Int32) : ((own_n a).toInt64 + (1 : Int64)).toInt = (own_n a).toInt + 1 := by
  have e := c_ladd (own_n a).toInt64 1
  have r := rng64 ((own_n a).toInt64 + 1)
  have e2 := c_i2l (own_n a)
  have r2 := rng32 (own_n a)
  have o1 : (1 : Int64).toInt = 1 := by decide
  omega
theorem own_nz1 (a : Int32) : (own_n a).toInt64 + (1 : Int64) ≠ 0 := fun z => by
  have h := own_n1 a
  have h2 := own_nb a
  have o1 : (0 : Int64).toInt = 0 := by decide
  rw [z] at h; omega
theorem own_db (a b f : Int32) : 0 ≤ (own_d a b f).toInt ∧ (own_d a b f).toInt ≤ (own_n a).toInt := by
  have h := own_n1 a
  have h2 := own_nb a
  unfold own_d; split
  · omega
  · have e := c_mask b (2147483647 : Int32) 31 (by decide) (by decide)
    have e2 := c_i2l (b &&& (2147483647 : Int32))
    have m : (((b &&& (2147483647 : Int32)).toInt64) % (((own_n a).toInt64) + (1 : Int64))).toInt = (b &&& (2147483647 : Int32)).toInt % ((own_n a).toInt + 1) := by
      rw [Int64.toInt_mod, e2, h, Int.tmod_eq_emod_of_nonneg (by omega)]
    have e3 := c_l2i (((b &&& (2147483647 : Int32)).toInt64) % (((own_n a).toInt64) + (1 : Int64)))
    have m1 := Int.emod_nonneg (b &&& (2147483647 : Int32)).toInt (b := (own_n a).toInt + 1) (by omega)
    have m2 := Int.emod_lt_of_pos (b &&& (2147483647 : Int32)).toInt (b := (own_n a).toInt + 1) (by omega)
    have r := rng32 (((b &&& (2147483647 : Int32)).toInt64) % (((own_n a).toInt64) + (1 : Int64))).toInt32
    have r2 := rng32 (own_n a)
    omega
theorem own_dpos (a b f : Int32) (h : ¬ own_d a b f = (0 : Int32)) : 1 ≤ (own_d a b f).toInt := by
  have q := (own_db a b f).1
  have z : (own_d a b f).toInt ≠ 0 := fun z => h (Int32.toInt_inj.mp (z.trans (by decide)))
  omega
theorem own_lgb (c f : Int32) : 1 ≤ (own_lg c f).toInt := by
  have o : (1 : Int32).toInt = 1 := by decide
  unfold own_lg own_maxI; split
  · rename_i h; rw [Int32.lt_iff_toInt_lt] at h; omega
  · omega
theorem own_nz2 (d g : Int32) (h1 : 1 ≤ d.toInt) (h2 : 1 ≤ g.toInt) : ((((g.toInt64) * (d.toInt64)) - (own_maxJ (g.toInt64) (d.toInt64))) + (1 : Int64)) ≠ 0 := fun z => by
  have r1 := rng32 d
  have r2 := rng32 g
  have e1 := c_i2l d
  have e2 := c_i2l g
  have p1 : g.toInt * 1 ≤ g.toInt * d.toInt := Int.mul_le_mul_of_nonneg_left h1 (by omega)
  have p2 : 1 * d.toInt ≤ g.toInt * d.toInt := Int.mul_le_mul_of_nonneg_right h2 (by omega)
  have p3 : g.toInt * d.toInt ≤ 2147483647 * 2147483647 := Int.mul_le_mul (by omega) (by omega) (by omega) (by decide)
  have em := c_lmul g.toInt64 d.toInt64
  rw [e1, e2] at em
  have rm := rng64 (g.toInt64 * d.toInt64)
  have mb : 1 ≤ (own_maxJ g.toInt64 d.toInt64).toInt ∧ (own_maxJ g.toInt64 d.toInt64).toInt ≤ g.toInt * d.toInt := by
    unfold own_maxJ; split
    · rw [e1]; omega
    · rw [e2]; omega
  have es := c_lsub (g.toInt64 * d.toInt64) (own_maxJ g.toInt64 d.toInt64)
  have rs := rng64 (g.toInt64 * d.toInt64 - own_maxJ g.toInt64 d.toInt64)
  have ea := c_ladd (g.toInt64 * d.toInt64 - own_maxJ g.toInt64 d.toInt64) 1
  rw [z] at ea
  have o1 : (1 : Int64).toInt = 1 := by decide
  have o0 : (0 : Int64).toInt = 0 := by decide
  omega
theorem own_A {n d : Int32} (h : d = (0 : Int32)) : own_w n d (0 : Int64) (0 : Int32) = (0 : Int32) := by
  unfold own_w
  rw [if_pos]
  refine ⟨?_, Or.inr h⟩
  have : (0 : Int32).toInt64 = 0 := by decide
  rw [this, Int64.zero_mul]
theorem own_B {n d g f : Int32} {x : Int64} (h : d = n ∧ own_e d g f x = (0 : Int64)) : own_w n d (own_t d g f x) g = (0 : Int32) := by
  unfold own_w
  rw [if_pos]
  refine ⟨?_, Or.inl h.1⟩
  unfold own_t
  rw [h.2, ← h.1, Int64.sub_zero]
theorem own_C {n d g f : Int32} {x : Int64} (h0 : ¬ d = (0 : Int32)) (h : ¬ (d = n ∧ own_e d g f x = (0 : Int64))) : own_w n d (own_t d g f x) g = if (255 : Int32) < g then (if (65535 : Int32) < g then 4 else 2) else 1 := by
  unfold own_w
  rw [if_neg]
  rintro ⟨q1, q2⟩
  rcases q2 with q2 | q2
  · refine h ⟨q2, ?_⟩
    rw [← q2] at q1
    unfold own_t at q1
    have e := c_lsub (g.toInt64 * d.toInt64) (own_e d g f x)
    rw [q1] at e
    have r := rng64 (own_e d g f x)
    have o0 : (0 : Int64).toInt = 0 := by decide
    exact Int64.toInt_inj.mp (by omega)
  · exact h0 q2
theorem own_C4 {n d g f : Int32} {x : Int64} (h0 : ¬ d = (0 : Int32)) (h : ¬ (d = n ∧ own_e d g f x = (0 : Int64))) (h1 : ¬ own_w n d (own_t d g f x) g = (1 : Int32)) (h2 : ¬ own_w n d (own_t d g f x) g = (2 : Int32)) : own_w n d (own_t d g f x) g = (4 : Int32) := by
  have q := own_C h0 h
  rw [q] at h1 h2 ⊢
  by_cases a : (255 : Int32) < g
  · rw [if_pos a] at h1 h2 ⊢
    by_cases b : (65535 : Int32) < g
    · rw [if_pos b]
    · rw [if_neg b] at h2; exact absurd rfl h2
  · rw [if_neg a] at h1; exact absurd rfl h1
theorem own_wg {n d g : Int32} {t : Int64} {k : Int32} (h : own_w n d t g = k) : (k = 1 → ¬ (255 : Int32) < g) ∧ (k = 2 → (255 : Int32) < g ∧ ¬ (65535 : Int32) < g) ∧ (k = 4 → (65535 : Int32) < g) := by
  unfold own_w at h
  split at h
  · subst h; exact ⟨fun z => absurd z (by decide), fun z => absurd z (by decide), fun z => absurd z (by decide)⟩
  · split at h
    · rename_i a
      split at h
      · rename_i c; subst h; exact ⟨fun z => absurd z (by decide), fun z => absurd z (by decide), fun _ => c⟩
      · rename_i c; subst h; exact ⟨fun z => absurd z (by decide), fun _ => ⟨a, c⟩, fun z => absurd z (by decide)⟩
    · rename_i a; subst h; exact ⟨fun _ => a, fun z => absurd z (by decide), fun z => absurd z (by decide)⟩
theorem own_shr0 {g q : Int32} (k : Nat) (hk : q.toBitVec.toNat % 32 = k) (h0 : 0 < k) (h1 : 0 ≤ g.toInt) (h2 : g.toInt < (2 ^ k : Nat)) : ((g.toUInt32 >>> (q &&& 31).toUInt32).toInt32) = (0 : Int32) := by
  have e := c_iushr g q k hk h0
  have r := rng32 g
  have o : (0 : Int32).toInt = 0 := by decide
  apply Int32.toInt_inj.mp
  rw [e, o, Int.emod_eq_of_lt h1 (by omega), Int.ediv_eq_zero_of_lt h1 h2]
theorem own_shrn {g q : Int32} (k : Nat) (hk : q.toBitVec.toNat % 32 = k) (h0 : 0 < k) (h1 : ((2 ^ k : Nat) : Int) ≤ g.toInt) : ¬ ((g.toUInt32 >>> (q &&& 31).toUInt32).toInt32) = (0 : Int32) := fun z => by
  have e := c_iushr g q k hk h0
  have r := rng32 g
  have p0 : (0 : Int) < ((2 ^ k : Nat) : Int) := by have := Nat.two_pow_pos k; omega
  have o : (0 : Int32).toInt = 0 := by decide
  rw [z, o, Int.emod_eq_of_lt (by omega) (by omega)] at e
  have := Int.ediv_le_ediv p0 h1
  rw [Int.ediv_self (by omega)] at this
  omega
theorem own_f1 {g : Int32} (h : ((1 : Int32) = 1 → ¬ (255 : Int32) < g) ∧ ((1 : Int32) = 2 → (255 : Int32) < g ∧ ¬ (65535 : Int32) < g) ∧ ((1 : Int32) = 4 → (65535 : Int32) < g)) (hg : 1 ≤ g.toInt) : ((g.toUInt32 >>> (((8 : Int32) * (1 : Int32)) &&& 31).toUInt32).toInt32) = (0 : Int32) := by
  have q := h.1 rfl
  rw [Int32.lt_iff_toInt_lt] at q
  have o : (255 : Int32).toInt = 255 := by decide
  exact own_shr0 8 (by decide) (by decide) (by omega) (by show g.toInt < 256; omega)
theorem own_f2 {g : Int32} (h : ((2 : Int32) = 1 → ¬ (255 : Int32) < g) ∧ ((2 : Int32) = 2 → (255 : Int32) < g ∧ ¬ (65535 : Int32) < g) ∧ ((2 : Int32) = 4 → (65535 : Int32) < g)) (hg : 1 ≤ g.toInt) : ((g.toUInt32 >>> (((8 : Int32) * (2 : Int32)) &&& 31).toUInt32).toInt32) = (0 : Int32) := by
  have q := (h.2.1 rfl).2
  rw [Int32.lt_iff_toInt_lt] at q
  have o : (65535 : Int32).toInt = 65535 := by decide
  exact own_shr0 16 (by decide) (by decide) (by omega) (by show g.toInt < 65536; omega)
theorem own_h2 {g : Int32} (h : ((2 : Int32) = 1 → ¬ (255 : Int32) < g) ∧ ((2 : Int32) = 2 → (255 : Int32) < g ∧ ¬ (65535 : Int32) < g) ∧ ((2 : Int32) = 4 → (65535 : Int32) < g)) : ¬ ((g.toUInt32 >>> ((8 : Int32) &&& 31).toUInt32).toInt32) = (0 : Int32) := by
  have q := (h.2.1 rfl).1
  rw [Int32.lt_iff_toInt_lt] at q
  have o : (255 : Int32).toInt = 255 := by decide
  exact own_shrn 8 (by decide) (by decide) (by show (256 : Int) ≤ g.toInt; omega)
theorem own_h4 {g : Int32} (h : ((4 : Int32) = 1 → ¬ (255 : Int32) < g) ∧ ((4 : Int32) = 2 → (255 : Int32) < g ∧ ¬ (65535 : Int32) < g) ∧ ((4 : Int32) = 4 → (65535 : Int32) < g)) : ¬ ((g.toUInt32 >>> ((16 : Int32) &&& 31).toUInt32).toInt32) = (0 : Int32) := by
  have q := h.2.2 rfl
  rw [Int32.lt_iff_toInt_lt] at q
  have o : (65535 : Int32).toInt = 65535 := by decide
  exact own_shrn 16 (by decide) (by decide) (by show (65536 : Int) ≤ g.toInt; omega)

theorem pn_com_example_strata_strata_FieldEntryWidthPinLaw : plainName "com/example/strata/strata/FieldEntryWidthPinLaw" = true := by first | (simp [plainName, overriddenIn]; done) | decide +kernel
theorem ef_0 (m : MethodId) (x0 : Int32) (x1 : Int32) (x2 : Int32) (x3 : Int32) (x4 : Int64) : entryFrame m #[(.int x0), (.int x1), (.int x2), (.int x3), (.long x4)] maxLocals = mkF m 0 #[.val (.int x0), .val (.int x1), .val (.int x2), .val (.int x3), .val (.long x4), .second, .unset, .unset, .unset, .unset, .unset, .unset, .unset, .unset, .unset, .unset, .unset, .unset, .unset] [] := by first | (simp [entryFrame, mkF, argsToLocals, Value.category, maxLocals]; done) | rfl
def Q0 (Z : State) (p0 : Int32) (p1 : Int32) (p2 : Int32) (p3 : Int32) (q4 : Int64) (h0 : Heap) (n0 : Nat) (v : Option Value) (h : Heap) (L : List Loc) : Prop := (v = some (.int (1 : Int32))) ∧ (Fr n0 L)
theorem pd__IIJI_I : parseMethodDescriptor "(IIJI)I" = some ⟨[.int, .int, .long, .int], some .int⟩ := by decide +kernel
theorem pd__II_I : parseMethodDescriptor "(II)I" = some ⟨[.int, .int], some .int⟩ := by decide +kernel
theorem pd__JJ_J : parseMethodDescriptor "(JJ)J" = some ⟨[.long, .long], some .long⟩ := by decide +kernel
set_option maxRecDepth 65536 in
set_option maxHeartbeats 40000000 in
theorem rm0 (l : Launch) (Z : State) (a0 : Array Value) (hw : ∀ d ∈ tables_1, d.before a0 Z = true) (ws : List Jvm.Cond) (p0 : Int32) (p1 : Int32) (p2 : Int32) (p3 : Int32) (q4 : Int64) (h0 : Heap) (n0 : Nat) (Z0 : n0 ≤ h0.size) :
    MetFree l x (head1 (Jvm.Cond.code x code maxLocals ret :: ws) room_1) (fun a U => a = #[(.int p0), (.int p1), (.int p2), (.int p3), (.long q4)] ∧ Z.Warmed39 U.vm ∧ U.heap = h0) (fun _ _ _ _ _ => True) (fun _ U o U' => ∃ v L, o = .returned v ∧ Q0 Z p0 p1 p2 p3 q4 h0 n0 v U'.heap L ∧ FrameEnd U o U' L room_1.cells room_1.slots) := by
  refine MetFree.of_bodySF (plainFor_of_name pn_com_example_strata_strata_FieldEntryWidthPinLaw) hisR ?_
  intro p e s m args below meth c s₁ Bd hml0 hP hK
  obtain ⟨rfl, hZ, hh⟩ := hP
  have hx := Bd.exec
  have hby := Bd.bytes
  have hlk := Bd.notSynchronized
  have hml : c.maxLocals = 19 := hml0
  have hown : s.vm.findClass "com/example/strata/strata/FieldEntryWidthPinLaw" = some m.cls := findClass_of_methodNamed Bd.named
  have hnm := (name_of_methodNamed Bd.named Bd.method).1
  have X0 : Stand p l e room_1 s m #[(.int p0), (.int p1), (.int p2), (.int p3), (.long q4)] below meth c s₁ [] 0 0 := Stand.of_body Bd
  have e0 : s₁.heap = h0 := by rw [← hh, Bd.state]; rfl
  have N0 := Fr.nil n0
  have K0 : Keep h0 h0 [] := Keep.refl _ _
  refine (?_ : OG p e below s (Q0 Z p0 p1 p2 p3 q4 h0 n0) room_1.cells room_1.slots _)
  rw [ef_0]
  have s1 : ∀ tz, Steps p.tables e below (s₁.setTop (mkF m 6 #[.val (.int p0), .val (.int p1), .val (.int p2), .val (.int p3), .val (.long q4), .second, .val (.int (own_n p0)), .unset, .unset, .unset, .unset, .unset, .unset, .unset, .unset, .unset, .unset, .unset, .unset] [])) tz → Steps p.tables e below (s₁.setTop (mkF m 0 #[.val (.int p0), .val (.int p1), .val (.int p2), .val (.int p3), .val (.long q4), .second, .unset, .unset, .unset, .unset, .unset, .unset, .unset, .unset, .unset, .unset, .unset, .unset, .unset] [])) tz := by
    intro tz kz
    refine XS.iloadN X0.here hx rfl (hb hby at_0) rfl ?_
    show Steps p.tables e below (s₁.setTop (mkF m 1 #[.val (.int p0), .val (.int p1), .val (.int p2), .val (.int p3), .val (.long q4), .second, .unset, .unset, .unset, .unset, .unset, .unset, .unset, .unset, .unset, .unset, .unset, .unset, .unset] [(.int p0)])) _
    refine X0.ldcInt hx hown (mvT hZ (hw _ (List.mem_of_getElem? (i := 0) rfl))) (g := (mkF m 1 #[.val (.int p0), .val (.int p1), .val (.int p2), .val (.int p3), .val (.long q4), .second, .unset, .unset, .unset, .unset, .unset, .unset, .unset, .unset, .unset, .unset, .unset, .unset, .unset] [(.int p0)])) rfl (hb hby at_1) _ ?_
    show Steps p.tables e below (s₁.setTop (mkF m 3 #[.val (.int p0), .val (.int p1), .val (.int p2), .val (.int p3), .val (.long q4), .second, .unset, .unset, .unset, .unset, .unset, .unset, .unset, .unset, .unset, .unset, .unset, .unset, .unset] [(.int (2147483647 : Int32)), (.int p0)])) _
    refine XS.iand X0.here hx rfl (hb hby at_3) rfl ?_
    show Steps p.tables e below (s₁.setTop (mkF m 4 #[.val (.int p0), .val (.int p1), .val (.int p2), .val (.int p3), .val (.long q4), .second, .unset, .unset, .unset, .unset, .unset, .unset, .unset, .unset, .unset, .unset, .unset, .unset, .unset] [(.int (p0 &&& (2147483647 : Int32)))])) _
    refine XS.istore X0.here hx rfl (hb hby at_4) rfl (l' := #[.val (.int p0), .val (.int p1), .val (.int p2), .val (.int p3), .val (.long q4), .second, .val (.int (own_n p0)), .unset, .unset, .unset, .unset, .unset, .unset, .unset, .unset, .unset, .unset, .unset, .unset]) rfl ?_
    exact kz
  refine OG.step s1 ?_
  have s2 : ∀ tz, Steps p.tables e below (s₁.setTop (mkF m 17 #[.val (.int p0), .val (.int p1), .val (.int p2), .val (.int p3), .val (.long q4), .second, .val (.int (own_n p0)), .unset, .unset, .unset, .unset, .unset, .unset, .unset, .unset, .unset, .unset, .unset, .unset] [(.int (bI (¬ ((p3 &&& (1 : Int32)) = (0 : Int32)))))])) tz → Steps p.tables e below (s₁.setTop (mkF m 6 #[.val (.int p0), .val (.int p1), .val (.int p2), .val (.int p3), .val (.long q4), .second, .val (.int (own_n p0)), .unset, .unset, .unset, .unset, .unset, .unset, .unset, .unset, .unset, .unset, .unset, .unset] [])) tz := by
    intro tz kz
    refine XS.iloadN X0.here hx rfl (hb hby at_6) rfl ?_
    show Steps p.tables e below (s₁.setTop (mkF m 7 #[.val (.int p0), .val (.int p1), .val (.int p2), .val (.int p3), .val (.long q4), .second, .val (.int (own_n p0)), .unset, .unset, .unset, .unset, .unset, .unset, .unset, .unset, .unset, .unset, .unset, .unset] [(.int p3)])) _
    refine XS.iconst X0.here hx rfl (hb hby at_7) ?_
    show Steps p.tables e below (s₁.setTop (mkF m 8 #[.val (.int p0), .val (.int p1), .val (.int p2), .val (.int p3), .val (.long q4), .second, .val (.int (own_n p0)), .unset, .unset, .unset, .unset, .unset, .unset, .unset, .unset, .unset, .unset, .unset, .unset] [(.int (1 : Int32)), (.int p3)])) _
    refine XS.iand X0.here hx rfl (hb hby at_8) rfl ?_
    show Steps p.tables e below (s₁.setTop (mkF m 9 #[.val (.int p0), .val (.int p1), .val (.int p2), .val (.int p3), .val (.long q4), .second, .val (.int (own_n p0)), .unset, .unset, .unset, .unset, .unset, .unset, .unset, .unset, .unset, .unset, .unset, .unset] [(.int (p3 &&& (1 : Int32)))])) _
    by_cases hm9 : (p3 &&& (1 : Int32)) = (0 : Int32)
    · refine XS.ifYes X0.here hx rfl (pc0 := 9) (pc' := 16) rfl (hb hby at_9) rfl ((if0 _ _).trans (teq hm9).1) (by decide) (by decide) ?_
      show Steps p.tables e below (s₁.setTop (mkF m 16 #[.val (.int p0), .val (.int p1), .val (.int p2), .val (.int p3), .val (.long q4), .second, .val (.int (own_n p0)), .unset, .unset, .unset, .unset, .unset, .unset, .unset, .unset, .unset, .unset, .unset, .unset] [])) _
      refine XS.iconst X0.here hx rfl (hb hby at_16) ?_
      show Steps p.tables e below (s₁.setTop (mkF m 17 #[.val (.int p0), .val (.int p1), .val (.int p2), .val (.int p3), .val (.long q4), .second, .val (.int (own_n p0)), .unset, .unset, .unset, .unset, .unset, .unset, .unset, .unset, .unset, .unset, .unset, .unset] [(.int (0 : Int32))])) _
      rw [show (bI (¬ ((p3 &&& (1 : Int32)) = (0 : Int32)))) = (0 : Int32) from bI_neg (P := ¬ ((p3 &&& (1 : Int32)) = (0 : Int32))) (fun z => z hm9)] at kz
      exact kz
    · refine XS.ifNo X0.here hx rfl (hb hby at_9) rfl ((if0 _ _).trans (feq hm9).1) ?_
      show Steps p.tables e below (s₁.setTop (mkF m 12 #[.val (.int p0), .val (.int p1), .val (.int p2), .val (.int p3), .val (.long q4), .second, .val (.int (own_n p0)), .unset, .unset, .unset, .unset, .unset, .unset, .unset, .unset, .unset, .unset, .unset, .unset] [])) _
      refine XS.iconst X0.here hx rfl (hb hby at_12) ?_
      show Steps p.tables e below (s₁.setTop (mkF m 13 #[.val (.int p0), .val (.int p1), .val (.int p2), .val (.int p3), .val (.long q4), .second, .val (.int (own_n p0)), .unset, .unset, .unset, .unset, .unset, .unset, .unset, .unset, .unset, .unset, .unset, .unset] [(.int (1 : Int32))])) _
      refine XS.goto X0.here hx rfl (pc0 := 13) (pc' := 17) rfl (hb hby at_13) (by decide) (by decide) ?_
      show Steps p.tables e below (s₁.setTop (mkF m 17 #[.val (.int p0), .val (.int p1), .val (.int p2), .val (.int p3), .val (.long q4), .second, .val (.int (own_n p0)), .unset, .unset, .unset, .unset, .unset, .unset, .unset, .unset, .unset, .unset, .unset, .unset] [(.int (1 : Int32))])) _
      rw [show (bI (¬ ((p3 &&& (1 : Int32)) = (0 : Int32)))) = (1 : Int32) from bI_pos (P := ¬ ((p3 &&& (1 : Int32)) = (0 : Int32))) hm9] at kz
      exact kz
  refine OG.step s2 ?_
  have s3 : ∀ tz, Steps p.tables e below (s₁.setTop (mkF m 19 #[.val (.int p0), .val (.int p1), .val (.int p2), .val (.int p3), .val (.long q4), .second, .val (.int (own_n p0)), .val (.int (bI (¬ ((p3 &&& (1 : Int32)) = (0 : Int32))))), .unset, .unset, .unset, .unset, .unset, .unset, .unset, .unset, .unset, .unset, .unset] [])) tz → Steps p.tables e below (s₁.setTop (mkF m 17 #[.val (.int p0), .val (.int p1), .val (.int p2), .val (.int p3), .val (.long q4), .second, .val (.int (own_n p0)), .unset, .unset, .unset, .unset, .unset, .unset, .unset, .unset, .unset, .unset, .unset, .unset] [(.int (bI (¬ ((p3 &&& (1 : Int32)) = (0 : Int32)))))])) tz := by
    intro tz kz
    refine XS.istore X0.here hx rfl (hb hby at_17) rfl (l' := #[.val (.int p0), .val (.int p1), .val (.int p2), .val (.int p3), .val (.long q4), .second, .val (.int (own_n p0)), .val (.int (bI (¬ ((p3 &&& (1 : Int32)) = (0 : Int32))))), .unset, .unset, .unset, .unset, .unset, .unset, .unset, .unset, .unset, .unset, .unset]) rfl ?_
    exact kz
  refine OG.step s3 ?_
  have s4 : ∀ tz, Steps p.tables e below (s₁.setTop (mkF m 41 #[.val (.int p0), .val (.int p1), .val (.int p2), .val (.int p3), .val (.long q4), .second, .val (.int (own_n p0)), .val (.int (bI (¬ ((p3 &&& (1 : Int32)) = (0 : Int32))))), .unset, .unset, .unset, .unset, .unset, .unset, .unset, .unset, .unset, .unset, .unset] [(.int (own_d p0 p1 p3))])) tz → Steps p.tables e below (s₁.setTop (mkF m 19 #[.val (.int p0), .val (.int p1), .val (.int p2), .val (.int p3), .val (.long q4), .second, .val (.int (own_n p0)), .val (.int (bI (¬ ((p3 &&& (1 : Int32)) = (0 : Int32))))), .unset, .unset, .unset, .unset, .unset, .unset, .unset, .unset, .unset, .unset, .unset] [])) tz := by
    intro tz kz
    refine XS.iload X0.here hx rfl (hb hby at_19) rfl ?_
    show Steps p.tables e below (s₁.setTop (mkF m 21 #[.val (.int p0), .val (.int p1), .val (.int p2), .val (.int p3), .val (.long q4), .second, .val (.int (own_n p0)), .val (.int (bI (¬ ((p3 &&& (1 : Int32)) = (0 : Int32))))), .unset, .unset, .unset, .unset, .unset, .unset, .unset, .unset, .unset, .unset, .unset] [(.int (bI (¬ ((p3 &&& (1 : Int32)) = (0 : Int32)))))])) _
    by_cases hm21 : ¬ ((p3 &&& (1 : Int32)) = (0 : Int32))
    · refine XS.ifNo X0.here hx rfl (hb hby at_21) rfl ((if0 _ _).trans (feq (bI_ne0 hm21)).1) ?_
      show Steps p.tables e below (s₁.setTop (mkF m 24 #[.val (.int p0), .val (.int p1), .val (.int p2), .val (.int p3), .val (.long q4), .second, .val (.int (own_n p0)), .val (.int (bI (¬ ((p3 &&& (1 : Int32)) = (0 : Int32))))), .unset, .unset, .unset, .unset, .unset, .unset, .unset, .unset, .unset, .unset, .unset] [])) _
      refine XS.iload X0.here hx rfl (hb hby at_24) rfl ?_
      show Steps p.tables e below (s₁.setTop (mkF m 26 #[.val (.int p0), .val (.int p1), .val (.int p2), .val (.int p3), .val (.long q4), .second, .val (.int (own_n p0)), .val (.int (bI (¬ ((p3 &&& (1 : Int32)) = (0 : Int32))))), .unset, .unset, .unset, .unset, .unset, .unset, .unset, .unset, .unset, .unset, .unset] [(.int (own_n p0))])) _
      refine XS.goto X0.here hx rfl (pc0 := 26) (pc' := 41) rfl (hb hby at_26) (by decide) (by decide) ?_
      show Steps p.tables e below (s₁.setTop (mkF m 41 #[.val (.int p0), .val (.int p1), .val (.int p2), .val (.int p3), .val (.long q4), .second, .val (.int (own_n p0)), .val (.int (bI (¬ ((p3 &&& (1 : Int32)) = (0 : Int32))))), .unset, .unset, .unset, .unset, .unset, .unset, .unset, .unset, .unset, .unset, .unset] [(.int (own_n p0))])) _
      rw [show (own_d p0 p1 p3) = (own_n p0) from (if_pos hm21)] at kz
      exact kz
    · refine XS.ifYes X0.here hx rfl (pc0 := 21) (pc' := 29) rfl (hb hby at_21) rfl ((if0 _ _).trans (teq (bI_0 hm21)).1) (by decide) (by decide) ?_
      show Steps p.tables e below (s₁.setTop (mkF m 29 #[.val (.int p0), .val (.int p1), .val (.int p2), .val (.int p3), .val (.long q4), .second, .val (.int (own_n p0)), .val (.int (bI (¬ ((p3 &&& (1 : Int32)) = (0 : Int32))))), .unset, .unset, .unset, .unset, .unset, .unset, .unset, .unset, .unset, .unset, .unset] [])) _
      refine XS.iloadN X0.here hx rfl (hb hby at_29) rfl ?_
      show Steps p.tables e below (s₁.setTop (mkF m 30 #[.val (.int p0), .val (.int p1), .val (.int p2), .val (.int p3), .val (.long q4), .second, .val (.int (own_n p0)), .val (.int (bI (¬ ((p3 &&& (1 : Int32)) = (0 : Int32))))), .unset, .unset, .unset, .unset, .unset, .unset, .unset, .unset, .unset, .unset, .unset] [(.int p1)])) _
      refine X0.ldcInt hx hown (mvT hZ (hw _ (List.mem_of_getElem? (i := 0) rfl))) (g := (mkF m 30 #[.val (.int p0), .val (.int p1), .val (.int p2), .val (.int p3), .val (.long q4), .second, .val (.int (own_n p0)), .val (.int (bI (¬ ((p3 &&& (1 : Int32)) = (0 : Int32))))), .unset, .unset, .unset, .unset, .unset, .unset, .unset, .unset, .unset, .unset, .unset] [(.int p1)])) rfl (hb hby at_30) _ ?_
      show Steps p.tables e below (s₁.setTop (mkF m 32 #[.val (.int p0), .val (.int p1), .val (.int p2), .val (.int p3), .val (.long q4), .second, .val (.int (own_n p0)), .val (.int (bI (¬ ((p3 &&& (1 : Int32)) = (0 : Int32))))), .unset, .unset, .unset, .unset, .unset, .unset, .unset, .unset, .unset, .unset, .unset] [(.int (2147483647 : Int32)), (.int p1)])) _
      refine XS.iand X0.here hx rfl (hb hby at_32) rfl ?_
      show Steps p.tables e below (s₁.setTop (mkF m 33 #[.val (.int p0), .val (.int p1), .val (.int p2), .val (.int p3), .val (.long q4), .second, .val (.int (own_n p0)), .val (.int (bI (¬ ((p3 &&& (1 : Int32)) = (0 : Int32))))), .unset, .unset, .unset, .unset, .unset, .unset, .unset, .unset, .unset, .unset, .unset] [(.int (p1 &&& (2147483647 : Int32)))])) _
      refine XS.i2l X0.here hx rfl (hb hby at_33) rfl ?_
      show Steps p.tables e below (s₁.setTop (mkF m 34 #[.val (.int p0), .val (.int p1), .val (.int p2), .val (.int p3), .val (.long q4), .second, .val (.int (own_n p0)), .val (.int (bI (¬ ((p3 &&& (1 : Int32)) = (0 : Int32))))), .unset, .unset, .unset, .unset, .unset, .unset, .unset, .unset, .unset, .unset, .unset] [(.long ((p1 &&& (2147483647 : Int32)).toInt64))])) _
      refine XS.iload X0.here hx rfl (hb hby at_34) rfl ?_
      show Steps p.tables e below (s₁.setTop (mkF m 36 #[.val (.int p0), .val (.int p1), .val (.int p2), .val (.int p3), .val (.long q4), .second, .val (.int (own_n p0)), .val (.int (bI (¬ ((p3 &&& (1 : Int32)) = (0 : Int32))))), .unset, .unset, .unset, .unset, .unset, .unset, .unset, .unset, .unset, .unset, .unset] [(.int (own_n p0)), (.long ((p1 &&& (2147483647 : Int32)).toInt64))])) _
      refine XS.i2l X0.here hx rfl (hb hby at_36) rfl ?_
      show Steps p.tables e below (s₁.setTop (mkF m 37 #[.val (.int p0), .val (.int p1), .val (.int p2), .val (.int p3), .val (.long q4), .second, .val (.int (own_n p0)), .val (.int (bI (¬ ((p3 &&& (1 : Int32)) = (0 : Int32))))), .unset, .unset, .unset, .unset, .unset, .unset, .unset, .unset, .unset, .unset, .unset] [(.long ((own_n p0).toInt64)), (.long ((p1 &&& (2147483647 : Int32)).toInt64))])) _
      refine XS.lconst X0.here hx rfl (hb hby at_37) ?_
      show Steps p.tables e below (s₁.setTop (mkF m 38 #[.val (.int p0), .val (.int p1), .val (.int p2), .val (.int p3), .val (.long q4), .second, .val (.int (own_n p0)), .val (.int (bI (¬ ((p3 &&& (1 : Int32)) = (0 : Int32))))), .unset, .unset, .unset, .unset, .unset, .unset, .unset, .unset, .unset, .unset, .unset] [(.long (1 : Int64)), (.long ((own_n p0).toInt64)), (.long ((p1 &&& (2147483647 : Int32)).toInt64))])) _
      refine XS.ladd X0.here hx rfl (hb hby at_38) rfl ?_
      show Steps p.tables e below (s₁.setTop (mkF m 39 #[.val (.int p0), .val (.int p1), .val (.int p2), .val (.int p3), .val (.long q4), .second, .val (.int (own_n p0)), .val (.int (bI (¬ ((p3 &&& (1 : Int32)) = (0 : Int32))))), .unset, .unset, .unset, .unset, .unset, .unset, .unset, .unset, .unset, .unset, .unset] [(.long (((own_n p0).toInt64) + (1 : Int64))), (.long ((p1 &&& (2147483647 : Int32)).toInt64))])) _
      refine lremM X0.here hx rfl (hb hby at_39) rfl (own_nz1 p0) ?_
      show Steps p.tables e below (s₁.setTop (mkF m 40 #[.val (.int p0), .val (.int p1), .val (.int p2), .val (.int p3), .val (.long q4), .second, .val (.int (own_n p0)), .val (.int (bI (¬ ((p3 &&& (1 : Int32)) = (0 : Int32))))), .unset, .unset, .unset, .unset, .unset, .unset, .unset, .unset, .unset, .unset, .unset] [(.long (((p1 &&& (2147483647 : Int32)).toInt64) % (((own_n p0).toInt64) + (1 : Int64))))])) _
      refine XS.l2i X0.here hx rfl (hb hby at_40) rfl ?_
      show Steps p.tables e below (s₁.setTop (mkF m 41 #[.val (.int p0), .val (.int p1), .val (.int p2), .val (.int p3), .val (.long q4), .second, .val (.int (own_n p0)), .val (.int (bI (¬ ((p3 &&& (1 : Int32)) = (0 : Int32))))), .unset, .unset, .unset, .unset, .unset, .unset, .unset, .unset, .unset, .unset, .unset] [(.int ((((p1 &&& (2147483647 : Int32)).toInt64) % (((own_n p0).toInt64) + (1 : Int64))).toInt32))])) _
      rw [show (own_d p0 p1 p3) = ((((p1 &&& (2147483647 : Int32)).toInt64) % (((own_n p0).toInt64) + (1 : Int64))).toInt32) from (if_neg hm21)] at kz
      exact kz
  refine OG.step s4 ?_
  have s5 : ∀ tz, Steps p.tables e below (s₁.setTop (mkF m 45 #[.val (.int p0), .val (.int p1), .val (.int p2), .val (.int p3), .val (.long q4), .second, .val (.int (own_n p0)), .val (.int (bI (¬ ((p3 &&& (1 : Int32)) = (0 : Int32))))), .val (.int (own_d p0 p1 p3)), .unset, .unset, .unset, .unset, .unset, .unset, .unset, .unset, .unset, .unset] [(.int (own_d p0 p1 p3))])) tz → Steps p.tables e below (s₁.setTop (mkF m 41 #[.val (.int p0), .val (.int p1), .val (.int p2), .val (.int p3), .val (.long q4), .second, .val (.int (own_n p0)), .val (.int (bI (¬ ((p3 &&& (1 : Int32)) = (0 : Int32))))), .unset, .unset, .unset, .unset, .unset, .unset, .unset, .unset, .unset, .unset, .unset] [(.int (own_d p0 p1 p3))])) tz := by
    intro tz kz
    refine XS.istore X0.here hx rfl (hb hby at_41) rfl (l' := #[.val (.int p0), .val (.int p1), .val (.int p2), .val (.int p3), .val (.long q4), .second, .val (.int (own_n p0)), .val (.int (bI (¬ ((p3 &&& (1 : Int32)) = (0 : Int32))))), .val (.int (own_d p0 p1 p3)), .unset, .unset, .unset, .unset, .unset, .unset, .unset, .unset, .unset, .unset]) rfl ?_
    show Steps p.tables e below (s₁.setTop (mkF m 43 #[.val (.int p0), .val (.int p1), .val (.int p2), .val (.int p3), .val (.long q4), .second, .val (.int (own_n p0)), .val (.int (bI (¬ ((p3 &&& (1 : Int32)) = (0 : Int32))))), .val (.int (own_d p0 p1 p3)), .unset, .unset, .unset, .unset, .unset, .unset, .unset, .unset, .unset, .unset] [])) _
    refine XS.iload X0.here hx rfl (hb hby at_43) rfl ?_
    exact kz
  refine OG.step s5 ?_
  by_cases hc45 : (own_d p0 p1 p3) = (0 : Int32)
  · have s6 : ∀ tz, Steps p.tables e below (s₁.setTop (mkF m 158 #[.val (.int p0), .val (.int p1), .val (.int p2), .val (.int p3), .val (.long q4), .second, .val (.int (own_n p0)), .val (.int (bI (¬ ((p3 &&& (1 : Int32)) = (0 : Int32))))), .val (.int (own_d p0 p1 p3)), .val (.int (0 : Int32)), .val (.long (0 : Int64)), .second, .val (.int (1 : Int32)), .unset, .unset, .unset, .unset, .unset, .unset] [(.int (0 : Int32)), (.long (0 : Int64)), (.int (own_d p0 p1 p3)), (.int (own_n p0))])) tz → Steps p.tables e below (s₁.setTop (mkF m 45 #[.val (.int p0), .val (.int p1), .val (.int p2), .val (.int p3), .val (.long q4), .second, .val (.int (own_n p0)), .val (.int (bI (¬ ((p3 &&& (1 : Int32)) = (0 : Int32))))), .val (.int (own_d p0 p1 p3)), .unset, .unset, .unset, .unset, .unset, .unset, .unset, .unset, .unset, .unset] [(.int (own_d p0 p1 p3))])) tz := by
      intro tz kz
      refine XS.ifNo X0.here hx rfl (hb hby at_45) rfl ((if0 _ _).trans (teq hc45).2) ?_
      show Steps p.tables e below (s₁.setTop (mkF m 48 #[.val (.int p0), .val (.int p1), .val (.int p2), .val (.int p3), .val (.long q4), .second, .val (.int (own_n p0)), .val (.int (bI (¬ ((p3 &&& (1 : Int32)) = (0 : Int32))))), .val (.int (own_d p0 p1 p3)), .unset, .unset, .unset, .unset, .unset, .unset, .unset, .unset, .unset, .unset] [])) _
      refine XS.iconst X0.here hx rfl (hb hby at_48) ?_
      show Steps p.tables e below (s₁.setTop (mkF m 49 #[.val (.int p0), .val (.int p1), .val (.int p2), .val (.int p3), .val (.long q4), .second, .val (.int (own_n p0)), .val (.int (bI (¬ ((p3 &&& (1 : Int32)) = (0 : Int32))))), .val (.int (own_d p0 p1 p3)), .unset, .unset, .unset, .unset, .unset, .unset, .unset, .unset, .unset, .unset] [(.int (0 : Int32))])) _
      refine XS.istore X0.here hx rfl (hb hby at_49) rfl (l' := #[.val (.int p0), .val (.int p1), .val (.int p2), .val (.int p3), .val (.long q4), .second, .val (.int (own_n p0)), .val (.int (bI (¬ ((p3 &&& (1 : Int32)) = (0 : Int32))))), .val (.int (own_d p0 p1 p3)), .val (.int (0 : Int32)), .unset, .unset, .unset, .unset, .unset, .unset, .unset, .unset, .unset]) rfl ?_
      show Steps p.tables e below (s₁.setTop (mkF m 51 #[.val (.int p0), .val (.int p1), .val (.int p2), .val (.int p3), .val (.long q4), .second, .val (.int (own_n p0)), .val (.int (bI (¬ ((p3 &&& (1 : Int32)) = (0 : Int32))))), .val (.int (own_d p0 p1 p3)), .val (.int (0 : Int32)), .unset, .unset, .unset, .unset, .unset, .unset, .unset, .unset, .unset] [])) _
      refine XS.lconst X0.here hx rfl (hb hby at_51) ?_
      show Steps p.tables e below (s₁.setTop (mkF m 52 #[.val (.int p0), .val (.int p1), .val (.int p2), .val (.int p3), .val (.long q4), .second, .val (.int (own_n p0)), .val (.int (bI (¬ ((p3 &&& (1 : Int32)) = (0 : Int32))))), .val (.int (own_d p0 p1 p3)), .val (.int (0 : Int32)), .unset, .unset, .unset, .unset, .unset, .unset, .unset, .unset, .unset] [(.long (0 : Int64))])) _
      refine XS.lstore X0.here hx rfl (hb hby at_52) rfl (l' := #[.val (.int p0), .val (.int p1), .val (.int p2), .val (.int p3), .val (.long q4), .second, .val (.int (own_n p0)), .val (.int (bI (¬ ((p3 &&& (1 : Int32)) = (0 : Int32))))), .val (.int (own_d p0 p1 p3)), .val (.int (0 : Int32)), .val (.long (0 : Int64)), .second, .unset, .unset, .unset, .unset, .unset, .unset, .unset]) rfl ?_
      show Steps p.tables e below (s₁.setTop (mkF m 54 #[.val (.int p0), .val (.int p1), .val (.int p2), .val (.int p3), .val (.long q4), .second, .val (.int (own_n p0)), .val (.int (bI (¬ ((p3 &&& (1 : Int32)) = (0 : Int32))))), .val (.int (own_d p0 p1 p3)), .val (.int (0 : Int32)), .val (.long (0 : Int64)), .second, .unset, .unset, .unset, .unset, .unset, .unset, .unset] [])) _
      refine XS.iconst X0.here hx rfl (hb hby at_54) ?_
      show Steps p.tables e below (s₁.setTop (mkF m 55 #[.val (.int p0), .val (.int p1), .val (.int p2), .val (.int p3), .val (.long q4), .second, .val (.int (own_n p0)), .val (.int (bI (¬ ((p3 &&& (1 : Int32)) = (0 : Int32))))), .val (.int (own_d p0 p1 p3)), .val (.int (0 : Int32)), .val (.long (0 : Int64)), .second, .unset, .unset, .unset, .unset, .unset, .unset, .unset] [(.int (1 : Int32))])) _
      refine XS.istore X0.here hx rfl (hb hby at_55) rfl (l' := #[.val (.int p0), .val (.int p1), .val (.int p2), .val (.int p3), .val (.long q4), .second, .val (.int (own_n p0)), .val (.int (bI (¬ ((p3 &&& (1 : Int32)) = (0 : Int32))))), .val (.int (own_d p0 p1 p3)), .val (.int (0 : Int32)), .val (.long (0 : Int64)), .second, .val (.int (1 : Int32)), .unset, .unset, .unset, .unset, .unset, .unset]) rfl ?_
      show Steps p.tables e below (s₁.setTop (mkF m 57 #[.val (.int p0), .val (.int p1), .val (.int p2), .val (.int p3), .val (.long q4), .second, .val (.int (own_n p0)), .val (.int (bI (¬ ((p3 &&& (1 : Int32)) = (0 : Int32))))), .val (.int (own_d p0 p1 p3)), .val (.int (0 : Int32)), .val (.long (0 : Int64)), .second, .val (.int (1 : Int32)), .unset, .unset, .unset, .unset, .unset, .unset] [])) _
      refine XS.goto X0.here hx rfl (pc0 := 57) (pc' := 150) rfl (hb hby at_57) (by decide) (by decide) ?_
      show Steps p.tables e below (s₁.setTop (mkF m 150 #[.val (.int p0), .val (.int p1), .val (.int p2), .val (.int p3), .val (.long q4), .second, .val (.int (own_n p0)), .val (.int (bI (¬ ((p3 &&& (1 : Int32)) = (0 : Int32))))), .val (.int (own_d p0 p1 p3)), .val (.int (0 : Int32)), .val (.long (0 : Int64)), .second, .val (.int (1 : Int32)), .unset, .unset, .unset, .unset, .unset, .unset] [])) _
      refine XS.iload X0.here hx rfl (hb hby at_150) rfl ?_
      show Steps p.tables e below (s₁.setTop (mkF m 152 #[.val (.int p0), .val (.int p1), .val (.int p2), .val (.int p3), .val (.long q4), .second, .val (.int (own_n p0)), .val (.int (bI (¬ ((p3 &&& (1 : Int32)) = (0 : Int32))))), .val (.int (own_d p0 p1 p3)), .val (.int (0 : Int32)), .val (.long (0 : Int64)), .second, .val (.int (1 : Int32)), .unset, .unset, .unset, .unset, .unset, .unset] [(.int (own_n p0))])) _
      refine XS.iload X0.here hx rfl (hb hby at_152) rfl ?_
      show Steps p.tables e below (s₁.setTop (mkF m 154 #[.val (.int p0), .val (.int p1), .val (.int p2), .val (.int p3), .val (.long q4), .second, .val (.int (own_n p0)), .val (.int (bI (¬ ((p3 &&& (1 : Int32)) = (0 : Int32))))), .val (.int (own_d p0 p1 p3)), .val (.int (0 : Int32)), .val (.long (0 : Int64)), .second, .val (.int (1 : Int32)), .unset, .unset, .unset, .unset, .unset, .unset] [(.int (own_d p0 p1 p3)), (.int (own_n p0))])) _
      refine XS.lload X0.here hx rfl (hb hby at_154) rfl ?_
      show Steps p.tables e below (s₁.setTop (mkF m 156 #[.val (.int p0), .val (.int p1), .val (.int p2), .val (.int p3), .val (.long q4), .second, .val (.int (own_n p0)), .val (.int (bI (¬ ((p3 &&& (1 : Int32)) = (0 : Int32))))), .val (.int (own_d p0 p1 p3)), .val (.int (0 : Int32)), .val (.long (0 : Int64)), .second, .val (.int (1 : Int32)), .unset, .unset, .unset, .unset, .unset, .unset] [(.long (0 : Int64)), (.int (own_d p0 p1 p3)), (.int (own_n p0))])) _
      refine XS.iload X0.here hx rfl (hb hby at_156) rfl ?_
      exact kz
    refine OG.step s6 ?_
    obtain ⟨_, _, ⟨T7, L7, k7, n7⟩, -, X7, ⟨Lc7, hQ7, l7, y7, z7⟩, st7⟩ := Jvm.LawKit.callS X0 hx (y := (⟨"com/example/strata/strata/FieldEntry", "width", "(IIJI)I"⟩ : MethodName)) hown (mvT hZ (hw _ (List.mem_of_getElem? (i := 1) rfl))) (mvT hZ (hw _ (List.mem_of_getElem? (i := 2) rfl))) (mvT hZ (hw _ (List.mem_of_getElem? (i := 3) rfl))) (mvT hZ (hw _ (List.mem_of_getElem? (i := 4) rfl))) (by decide) (backOf (W := 0) (rm1 l Z a0 hw [] (own_n p0) (own_d p0 p1 p3) (0 : Int64) (0 : Int32) h0 n0 (Nat.le_trans Z0 K0.1)) hZ (hw _ (List.mem_of_getElem? (i := 4) rfl)) (hw _ (List.mem_of_getElem? (i := 3) rfl)) (by decide) (by decide)) (g := (mkF m 158 #[.val (.int p0), .val (.int p1), .val (.int p2), .val (.int p3), .val (.long q4), .second, .val (.int (own_n p0)), .val (.int (bI (¬ ((p3 &&& (1 : Int32)) = (0 : Int32))))), .val (.int (own_d p0 p1 p3)), .val (.int (0 : Int32)), .val (.long (0 : Int64)), .second, .val (.int (1 : Int32)), .unset, .unset, .unset, .unset, .unset, .unset] [(.int (0 : Int32)), (.long (0 : Int64)), (.int (own_d p0 p1 p3)), (.int (own_n p0))])) rfl (by rw [hml]; rfl) (argsL := [(.int (own_n p0)), (.int (own_d p0 p1 p3)), (.long (0 : Int64)), (.int (0 : Int32))]) (rest := []) (lenOf pd__IIJI_I rfl) rfl (by show 2 * 0 + _ ≤ _; exact Nat.le_of_eq rfl) (hb hby at_158) (fun _ _ => ⟨rfl, e0, (by decide : 0 + 0 ≤ _), (by decide : 0 + 0 ≤ _)⟩)
    dsimp only [Pt.U, Pt.locs, Pt.cells, Pt.slots] at X7 l7 y7 z7 st7 hQ7
    subst l7 y7 z7
    obtain ⟨rfl, N7q, e7⟩ := hQ7
    have N7 := Fr.app N0 N7q
    refine OG.step st7 ?_
    show OG _ _ _ _ _ _ _ (T7.setTop (mkF m 161 #[.val (.int p0), .val (.int p1), .val (.int p2), .val (.int p3), .val (.long q4), .second, .val (.int (own_n p0)), .val (.int (bI (¬ ((p3 &&& (1 : Int32)) = (0 : Int32))))), .val (.int (own_d p0 p1 p3)), .val (.int (0 : Int32)), .val (.long (0 : Int64)), .second, .val (.int (1 : Int32)), .unset, .unset, .unset, .unset, .unset, .unset] [(.int (own_w (own_n p0) (own_d p0 p1 p3) (0 : Int64) (0 : Int32)))]))
    have s8 : ∀ tz, Steps p.tables e below (T7.setTop (mkF m 178 #[.val (.int p0), .val (.int p1), .val (.int p2), .val (.int p3), .val (.long q4), .second, .val (.int (own_n p0)), .val (.int (bI (¬ ((p3 &&& (1 : Int32)) = (0 : Int32))))), .val (.int (own_d p0 p1 p3)), .val (.int (0 : Int32)), .val (.long (0 : Int64)), .second, .val (.int (1 : Int32)), .val (.int (own_w (own_n p0) (own_d p0 p1 p3) (0 : Int64) (0 : Int32))), .unset, .unset, .unset, .unset, .unset] [(.int (1 : Int32))])) tz → Steps p.tables e below (T7.setTop (mkF m 161 #[.val (.int p0), .val (.int p1), .val (.int p2), .val (.int p3), .val (.long q4), .second, .val (.int (own_n p0)), .val (.int (bI (¬ ((p3 &&& (1 : Int32)) = (0 : Int32))))), .val (.int (own_d p0 p1 p3)), .val (.int (0 : Int32)), .val (.long (0 : Int64)), .second, .val (.int (1 : Int32)), .unset, .unset, .unset, .unset, .unset, .unset] [(.int (own_w (own_n p0) (own_d p0 p1 p3) (0 : Int64) (0 : Int32)))])) tz := by
      intro tz kz
      refine XS.istore X7.here hx rfl (hb hby at_161) rfl (l' := #[.val (.int p0), .val (.int p1), .val (.int p2), .val (.int p3), .val (.long q4), .second, .val (.int (own_n p0)), .val (.int (bI (¬ ((p3 &&& (1 : Int32)) = (0 : Int32))))), .val (.int (own_d p0 p1 p3)), .val (.int (0 : Int32)), .val (.long (0 : Int64)), .second, .val (.int (1 : Int32)), .val (.int (own_w (own_n p0) (own_d p0 p1 p3) (0 : Int64) (0 : Int32))), .unset, .unset, .unset, .unset, .unset]) rfl ?_
      show Steps p.tables e below (T7.setTop (mkF m 163 #[.val (.int p0), .val (.int p1), .val (.int p2), .val (.int p3), .val (.long q4), .second, .val (.int (own_n p0)), .val (.int (bI (¬ ((p3 &&& (1 : Int32)) = (0 : Int32))))), .val (.int (own_d p0 p1 p3)), .val (.int (0 : Int32)), .val (.long (0 : Int64)), .second, .val (.int (1 : Int32)), .val (.int (own_w (own_n p0) (own_d p0 p1 p3) (0 : Int64) (0 : Int32))), .unset, .unset, .unset, .unset, .unset] [])) _
      refine XS.iload X7.here hx rfl (hb hby at_163) rfl ?_
      show Steps p.tables e below (T7.setTop (mkF m 165 #[.val (.int p0), .val (.int p1), .val (.int p2), .val (.int p3), .val (.long q4), .second, .val (.int (own_n p0)), .val (.int (bI (¬ ((p3 &&& (1 : Int32)) = (0 : Int32))))), .val (.int (own_d p0 p1 p3)), .val (.int (0 : Int32)), .val (.long (0 : Int64)), .second, .val (.int (1 : Int32)), .val (.int (own_w (own_n p0) (own_d p0 p1 p3) (0 : Int64) (0 : Int32))), .unset, .unset, .unset, .unset, .unset] [(.int (1 : Int32))])) _
      refine XS.ifNo X7.here hx rfl (hb hby at_165) rfl ((if0 _ _).trans (feq (by decide)).1) ?_
      show Steps p.tables e below (T7.setTop (mkF m 168 #[.val (.int p0), .val (.int p1), .val (.int p2), .val (.int p3), .val (.long q4), .second, .val (.int (own_n p0)), .val (.int (bI (¬ ((p3 &&& (1 : Int32)) = (0 : Int32))))), .val (.int (own_d p0 p1 p3)), .val (.int (0 : Int32)), .val (.long (0 : Int64)), .second, .val (.int (1 : Int32)), .val (.int (own_w (own_n p0) (own_d p0 p1 p3) (0 : Int64) (0 : Int32))), .unset, .unset, .unset, .unset, .unset] [])) _
      refine XS.iload X7.here hx rfl (hb hby at_168) rfl ?_
      show Steps p.tables e below (T7.setTop (mkF m 170 #[.val (.int p0), .val (.int p1), .val (.int p2), .val (.int p3), .val (.long q4), .second, .val (.int (own_n p0)), .val (.int (bI (¬ ((p3 &&& (1 : Int32)) = (0 : Int32))))), .val (.int (own_d p0 p1 p3)), .val (.int (0 : Int32)), .val (.long (0 : Int64)), .second, .val (.int (1 : Int32)), .val (.int (own_w (own_n p0) (own_d p0 p1 p3) (0 : Int64) (0 : Int32))), .unset, .unset, .unset, .unset, .unset] [(.int (own_w (own_n p0) (own_d p0 p1 p3) (0 : Int64) (0 : Int32)))])) _
      refine XS.ifNo X7.here hx rfl (hb hby at_170) rfl ((if0 _ _).trans (teq (own_A hc45)).2) ?_
      show Steps p.tables e below (T7.setTop (mkF m 173 #[.val (.int p0), .val (.int p1), .val (.int p2), .val (.int p3), .val (.long q4), .second, .val (.int (own_n p0)), .val (.int (bI (¬ ((p3 &&& (1 : Int32)) = (0 : Int32))))), .val (.int (own_d p0 p1 p3)), .val (.int (0 : Int32)), .val (.long (0 : Int64)), .second, .val (.int (1 : Int32)), .val (.int (own_w (own_n p0) (own_d p0 p1 p3) (0 : Int64) (0 : Int32))), .unset, .unset, .unset, .unset, .unset] [])) _
      refine XS.iconst X7.here hx rfl (hb hby at_173) ?_
      show Steps p.tables e below (T7.setTop (mkF m 174 #[.val (.int p0), .val (.int p1), .val (.int p2), .val (.int p3), .val (.long q4), .second, .val (.int (own_n p0)), .val (.int (bI (¬ ((p3 &&& (1 : Int32)) = (0 : Int32))))), .val (.int (own_d p0 p1 p3)), .val (.int (0 : Int32)), .val (.long (0 : Int64)), .second, .val (.int (1 : Int32)), .val (.int (own_w (own_n p0) (own_d p0 p1 p3) (0 : Int64) (0 : Int32))), .unset, .unset, .unset, .unset, .unset] [(.int (1 : Int32))])) _
      refine XS.goto X7.here hx rfl (pc0 := 174) (pc' := 178) rfl (hb hby at_174) (by decide) (by decide) ?_
      exact kz
    refine OG.step s8 ?_
    exact OG.retZ X7 hx hlk Bd.returns (hb hby at_178) (nar_1) e7 ⟨rfl, N7⟩ (by decide) (by decide)
  · have s9 : ∀ tz, Steps p.tables e below (s₁.setTop (mkF m 72 #[.val (.int p0), .val (.int p1), .val (.int p2), .val (.int p3), .val (.long q4), .second, .val (.int (own_n p0)), .val (.int (bI (¬ ((p3 &&& (1 : Int32)) = (0 : Int32))))), .val (.int (own_d p0 p1 p3)), .unset, .unset, .unset, .unset, .unset, .unset, .unset, .unset, .unset, .unset] [(.int (((p2 &&& (2147483647 : Int32)).toUInt32 >>> ((((p3.toUInt32 >>> ((1 : Int32) &&& 31).toUInt32).toInt32) &&& (31 : Int32)) &&& 31).toUInt32).toInt32)), (.int (1 : Int32))])) tz → Steps p.tables e below (s₁.setTop (mkF m 45 #[.val (.int p0), .val (.int p1), .val (.int p2), .val (.int p3), .val (.long q4), .second, .val (.int (own_n p0)), .val (.int (bI (¬ ((p3 &&& (1 : Int32)) = (0 : Int32))))), .val (.int (own_d p0 p1 p3)), .unset, .unset, .unset, .unset, .unset, .unset, .unset, .unset, .unset, .unset] [(.int (own_d p0 p1 p3))])) tz := by
      intro tz kz
      refine XS.ifYes X0.here hx rfl (pc0 := 45) (pc' := 60) rfl (hb hby at_45) rfl ((if0 _ _).trans (feq hc45).2) (by decide) (by decide) ?_
      show Steps p.tables e below (s₁.setTop (mkF m 60 #[.val (.int p0), .val (.int p1), .val (.int p2), .val (.int p3), .val (.long q4), .second, .val (.int (own_n p0)), .val (.int (bI (¬ ((p3 &&& (1 : Int32)) = (0 : Int32))))), .val (.int (own_d p0 p1 p3)), .unset, .unset, .unset, .unset, .unset, .unset, .unset, .unset, .unset, .unset] [])) _
      refine XS.iconst X0.here hx rfl (hb hby at_60) ?_
      show Steps p.tables e below (s₁.setTop (mkF m 61 #[.val (.int p0), .val (.int p1), .val (.int p2), .val (.int p3), .val (.long q4), .second, .val (.int (own_n p0)), .val (.int (bI (¬ ((p3 &&& (1 : Int32)) = (0 : Int32))))), .val (.int (own_d p0 p1 p3)), .unset, .unset, .unset, .unset, .unset, .unset, .unset, .unset, .unset, .unset] [(.int (1 : Int32))])) _
      refine XS.iloadN X0.here hx rfl (hb hby at_61) rfl ?_
      show Steps p.tables e below (s₁.setTop (mkF m 62 #[.val (.int p0), .val (.int p1), .val (.int p2), .val (.int p3), .val (.long q4), .second, .val (.int (own_n p0)), .val (.int (bI (¬ ((p3 &&& (1 : Int32)) = (0 : Int32))))), .val (.int (own_d p0 p1 p3)), .unset, .unset, .unset, .unset, .unset, .unset, .unset, .unset, .unset, .unset] [(.int p2), (.int (1 : Int32))])) _
      refine X0.ldcInt hx hown (mvT hZ (hw _ (List.mem_of_getElem? (i := 0) rfl))) (g := (mkF m 62 #[.val (.int p0), .val (.int p1), .val (.int p2), .val (.int p3), .val (.long q4), .second, .val (.int (own_n p0)), .val (.int (bI (¬ ((p3 &&& (1 : Int32)) = (0 : Int32))))), .val (.int (own_d p0 p1 p3)), .unset, .unset, .unset, .unset, .unset, .unset, .unset, .unset, .unset, .unset] [(.int p2), (.int (1 : Int32))])) rfl (hb hby at_62) _ ?_
      show Steps p.tables e below (s₁.setTop (mkF m 64 #[.val (.int p0), .val (.int p1), .val (.int p2), .val (.int p3), .val (.long q4), .second, .val (.int (own_n p0)), .val (.int (bI (¬ ((p3 &&& (1 : Int32)) = (0 : Int32))))), .val (.int (own_d p0 p1 p3)), .unset, .unset, .unset, .unset, .unset, .unset, .unset, .unset, .unset, .unset] [(.int (2147483647 : Int32)), (.int p2), (.int (1 : Int32))])) _
      refine XS.iand X0.here hx rfl (hb hby at_64) rfl ?_
      show Steps p.tables e below (s₁.setTop (mkF m 65 #[.val (.int p0), .val (.int p1), .val (.int p2), .val (.int p3), .val (.long q4), .second, .val (.int (own_n p0)), .val (.int (bI (¬ ((p3 &&& (1 : Int32)) = (0 : Int32))))), .val (.int (own_d p0 p1 p3)), .unset, .unset, .unset, .unset, .unset, .unset, .unset, .unset, .unset, .unset] [(.int (p2 &&& (2147483647 : Int32))), (.int (1 : Int32))])) _
      refine XS.iloadN X0.here hx rfl (hb hby at_65) rfl ?_
      show Steps p.tables e below (s₁.setTop (mkF m 66 #[.val (.int p0), .val (.int p1), .val (.int p2), .val (.int p3), .val (.long q4), .second, .val (.int (own_n p0)), .val (.int (bI (¬ ((p3 &&& (1 : Int32)) = (0 : Int32))))), .val (.int (own_d p0 p1 p3)), .unset, .unset, .unset, .unset, .unset, .unset, .unset, .unset, .unset, .unset] [(.int p3), (.int (p2 &&& (2147483647 : Int32))), (.int (1 : Int32))])) _
      refine XS.iconst X0.here hx rfl (hb hby at_66) ?_
      show Steps p.tables e below (s₁.setTop (mkF m 67 #[.val (.int p0), .val (.int p1), .val (.int p2), .val (.int p3), .val (.long q4), .second, .val (.int (own_n p0)), .val (.int (bI (¬ ((p3 &&& (1 : Int32)) = (0 : Int32))))), .val (.int (own_d p0 p1 p3)), .unset, .unset, .unset, .unset, .unset, .unset, .unset, .unset, .unset, .unset] [(.int (1 : Int32)), (.int p3), (.int (p2 &&& (2147483647 : Int32))), (.int (1 : Int32))])) _
      refine XS.iushr X0.here hx rfl (hb hby at_67) rfl ?_
      show Steps p.tables e below (s₁.setTop (mkF m 68 #[.val (.int p0), .val (.int p1), .val (.int p2), .val (.int p3), .val (.long q4), .second, .val (.int (own_n p0)), .val (.int (bI (¬ ((p3 &&& (1 : Int32)) = (0 : Int32))))), .val (.int (own_d p0 p1 p3)), .unset, .unset, .unset, .unset, .unset, .unset, .unset, .unset, .unset, .unset] [(.int ((p3.toUInt32 >>> ((1 : Int32) &&& 31).toUInt32).toInt32)), (.int (p2 &&& (2147483647 : Int32))), (.int (1 : Int32))])) _
      refine XS.bipush X0.here hx rfl (hb hby at_68) ?_
      show Steps p.tables e below (s₁.setTop (mkF m 70 #[.val (.int p0), .val (.int p1), .val (.int p2), .val (.int p3), .val (.long q4), .second, .val (.int (own_n p0)), .val (.int (bI (¬ ((p3 &&& (1 : Int32)) = (0 : Int32))))), .val (.int (own_d p0 p1 p3)), .unset, .unset, .unset, .unset, .unset, .unset, .unset, .unset, .unset, .unset] [(.int (31 : Int32)), (.int ((p3.toUInt32 >>> ((1 : Int32) &&& 31).toUInt32).toInt32)), (.int (p2 &&& (2147483647 : Int32))), (.int (1 : Int32))])) _
      refine XS.iand X0.here hx rfl (hb hby at_70) rfl ?_
      show Steps p.tables e below (s₁.setTop (mkF m 71 #[.val (.int p0), .val (.int p1), .val (.int p2), .val (.int p3), .val (.long q4), .second, .val (.int (own_n p0)), .val (.int (bI (¬ ((p3 &&& (1 : Int32)) = (0 : Int32))))), .val (.int (own_d p0 p1 p3)), .unset, .unset, .unset, .unset, .unset, .unset, .unset, .unset, .unset, .unset] [(.int (((p3.toUInt32 >>> ((1 : Int32) &&& 31).toUInt32).toInt32) &&& (31 : Int32))), (.int (p2 &&& (2147483647 : Int32))), (.int (1 : Int32))])) _
      refine XS.iushr X0.here hx rfl (hb hby at_71) rfl ?_
      exact kz
    refine OG.step s9 ?_
    obtain ⟨_, _, ⟨T10, L10, k10, n10⟩, -, X10, ⟨Lc10, hQ10, l10, y10, z10⟩, st10⟩ := Jvm.LawKit.callS X0 hx (y := (⟨"java/lang/Math", "max", "(II)I"⟩ : MethodName)) hown (mvT hZ (hw _ (List.mem_of_getElem? (i := 5) rfl))) (mvT hZ (hw _ (List.mem_of_getElem? (i := 6) rfl))) (mvT hZ (hw _ (List.mem_of_getElem? (i := 7) rfl))) (mvT hZ (hw _ (List.mem_of_getElem? (i := 8) rfl))) (by decide) (backOf (W := 0) (rm2 l Z a0 hw [] (1 : Int32) (((p2 &&& (2147483647 : Int32)).toUInt32 >>> ((((p3.toUInt32 >>> ((1 : Int32) &&& 31).toUInt32).toInt32) &&& (31 : Int32)) &&& 31).toUInt32).toInt32) h0 n0 (Nat.le_trans Z0 K0.1)) hZ (hw _ (List.mem_of_getElem? (i := 8) rfl)) (hw _ (List.mem_of_getElem? (i := 7) rfl)) (by decide) (by decide)) (g := (mkF m 72 #[.val (.int p0), .val (.int p1), .val (.int p2), .val (.int p3), .val (.long q4), .second, .val (.int (own_n p0)), .val (.int (bI (¬ ((p3 &&& (1 : Int32)) = (0 : Int32))))), .val (.int (own_d p0 p1 p3)), .unset, .unset, .unset, .unset, .unset, .unset, .unset, .unset, .unset, .unset] [(.int (((p2 &&& (2147483647 : Int32)).toUInt32 >>> ((((p3.toUInt32 >>> ((1 : Int32) &&& 31).toUInt32).toInt32) &&& (31 : Int32)) &&& 31).toUInt32).toInt32)), (.int (1 : Int32))])) rfl (by rw [hml]; rfl) (argsL := [(.int (1 : Int32)), (.int (((p2 &&& (2147483647 : Int32)).toUInt32 >>> ((((p3.toUInt32 >>> ((1 : Int32) &&& 31).toUInt32).toInt32) &&& (31 : Int32)) &&& 31).toUInt32).toInt32))]) (rest := []) (lenOf pd__II_I rfl) rfl (by show 2 * 0 + _ ≤ _; exact Nat.le_of_eq rfl) (hb hby at_72) (fun _ _ => ⟨rfl, e0, (by decide : 0 + 0 ≤ _), (by decide : 0 + 0 ≤ _)⟩)
    dsimp only [Pt.U, Pt.locs, Pt.cells, Pt.slots] at X10 l10 y10 z10 st10 hQ10
    subst l10 y10 z10
    obtain ⟨rfl, N10q, e10⟩ := hQ10
    have N10 := Fr.app N0 N10q
    refine OG.step st10 ?_
    show OG _ _ _ _ _ _ _ (T10.setTop (mkF m 75 #[.val (.int p0), .val (.int p1), .val (.int p2), .val (.int p3), .val (.long q4), .second, .val (.int (own_n p0)), .val (.int (bI (¬ ((p3 &&& (1 : Int32)) = (0 : Int32))))), .val (.int (own_d p0 p1 p3)), .unset, .unset, .unset, .unset, .unset, .unset, .unset, .unset, .unset, .unset] [(.int (own_maxI (1 : Int32) (((p2 &&& (2147483647 : Int32)).toUInt32 >>> ((((p3.toUInt32 >>> ((1 : Int32) &&& 31).toUInt32).toInt32) &&& (31 : Int32)) &&& 31).toUInt32).toInt32)))]))
    have s11 : ∀ tz, Steps p.tables e below (T10.setTop (mkF m 92 #[.val (.int p0), .val (.int p1), .val (.int p2), .val (.int p3), .val (.long q4), .second, .val (.int (own_n p0)), .val (.int (bI (¬ ((p3 &&& (1 : Int32)) = (0 : Int32))))), .val (.int (own_d p0 p1 p3)), .val (.int (own_lg p2 p3)), .unset, .unset, .unset, .val (.long (((own_lg p2 p3).toInt64) * ((own_d p0 p1 p3).toInt64))), .second, .unset, .unset, .unset, .unset] [(.long ((own_d p0 p1 p3).toInt64)), (.long ((own_lg p2 p3).toInt64))])) tz → Steps p.tables e below (T10.setTop (mkF m 75 #[.val (.int p0), .val (.int p1), .val (.int p2), .val (.int p3), .val (.long q4), .second, .val (.int (own_n p0)), .val (.int (bI (¬ ((p3 &&& (1 : Int32)) = (0 : Int32))))), .val (.int (own_d p0 p1 p3)), .unset, .unset, .unset, .unset, .unset, .unset, .unset, .unset, .unset, .unset] [(.int (own_maxI (1 : Int32) (((p2 &&& (2147483647 : Int32)).toUInt32 >>> ((((p3.toUInt32 >>> ((1 : Int32) &&& 31).toUInt32).toInt32) &&& (31 : Int32)) &&& 31).toUInt32).toInt32)))])) tz := by
      intro tz kz
      refine XS.istore X10.here hx rfl (hb hby at_75) rfl (l' := #[.val (.int p0), .val (.int p1), .val (.int p2), .val (.int p3), .val (.long q4), .second, .val (.int (own_n p0)), .val (.int (bI (¬ ((p3 &&& (1 : Int32)) = (0 : Int32))))), .val (.int (own_d p0 p1 p3)), .val (.int (own_lg p2 p3)), .unset, .unset, .unset, .unset, .unset, .unset, .unset, .unset, .unset]) rfl ?_
      show Steps p.tables e below (T10.setTop (mkF m 77 #[.val (.int p0), .val (.int p1), .val (.int p2), .val (.int p3), .val (.long q4), .second, .val (.int (own_n p0)), .val (.int (bI (¬ ((p3 &&& (1 : Int32)) = (0 : Int32))))), .val (.int (own_d p0 p1 p3)), .val (.int (own_lg p2 p3)), .unset, .unset, .unset, .unset, .unset, .unset, .unset, .unset, .unset] [])) _
      refine XS.iload X10.here hx rfl (hb hby at_77) rfl ?_
      show Steps p.tables e below (T10.setTop (mkF m 79 #[.val (.int p0), .val (.int p1), .val (.int p2), .val (.int p3), .val (.long q4), .second, .val (.int (own_n p0)), .val (.int (bI (¬ ((p3 &&& (1 : Int32)) = (0 : Int32))))), .val (.int (own_d p0 p1 p3)), .val (.int (own_lg p2 p3)), .unset, .unset, .unset, .unset, .unset, .unset, .unset, .unset, .unset] [(.int (own_lg p2 p3))])) _
      refine XS.i2l X10.here hx rfl (hb hby at_79) rfl ?_
      show Steps p.tables e below (T10.setTop (mkF m 80 #[.val (.int p0), .val (.int p1), .val (.int p2), .val (.int p3), .val (.long q4), .second, .val (.int (own_n p0)), .val (.int (bI (¬ ((p3 &&& (1 : Int32)) = (0 : Int32))))), .val (.int (own_d p0 p1 p3)), .val (.int (own_lg p2 p3)), .unset, .unset, .unset, .unset, .unset, .unset, .unset, .unset, .unset] [(.long ((own_lg p2 p3).toInt64))])) _
      refine XS.iload X10.here hx rfl (hb hby at_80) rfl ?_
      show Steps p.tables e below (T10.setTop (mkF m 82 #[.val (.int p0), .val (.int p1), .val (.int p2), .val (.int p3), .val (.long q4), .second, .val (.int (own_n p0)), .val (.int (bI (¬ ((p3 &&& (1 : Int32)) = (0 : Int32))))), .val (.int (own_d p0 p1 p3)), .val (.int (own_lg p2 p3)), .unset, .unset, .unset, .unset, .unset, .unset, .unset, .unset, .unset] [(.int (own_d p0 p1 p3)), (.long ((own_lg p2 p3).toInt64))])) _
      refine XS.i2l X10.here hx rfl (hb hby at_82) rfl ?_
      show Steps p.tables e below (T10.setTop (mkF m 83 #[.val (.int p0), .val (.int p1), .val (.int p2), .val (.int p3), .val (.long q4), .second, .val (.int (own_n p0)), .val (.int (bI (¬ ((p3 &&& (1 : Int32)) = (0 : Int32))))), .val (.int (own_d p0 p1 p3)), .val (.int (own_lg p2 p3)), .unset, .unset, .unset, .unset, .unset, .unset, .unset, .unset, .unset] [(.long ((own_d p0 p1 p3).toInt64)), (.long ((own_lg p2 p3).toInt64))])) _
      refine XS.lmul X10.here hx rfl (hb hby at_83) rfl ?_
      show Steps p.tables e below (T10.setTop (mkF m 84 #[.val (.int p0), .val (.int p1), .val (.int p2), .val (.int p3), .val (.long q4), .second, .val (.int (own_n p0)), .val (.int (bI (¬ ((p3 &&& (1 : Int32)) = (0 : Int32))))), .val (.int (own_d p0 p1 p3)), .val (.int (own_lg p2 p3)), .unset, .unset, .unset, .unset, .unset, .unset, .unset, .unset, .unset] [(.long (((own_lg p2 p3).toInt64) * ((own_d p0 p1 p3).toInt64)))])) _
      refine XS.lstore X10.here hx rfl (hb hby at_84) rfl (l' := #[.val (.int p0), .val (.int p1), .val (.int p2), .val (.int p3), .val (.long q4), .second, .val (.int (own_n p0)), .val (.int (bI (¬ ((p3 &&& (1 : Int32)) = (0 : Int32))))), .val (.int (own_d p0 p1 p3)), .val (.int (own_lg p2 p3)), .unset, .unset, .unset, .val (.long (((own_lg p2 p3).toInt64) * ((own_d p0 p1 p3).toInt64))), .second, .unset, .unset, .unset, .unset]) rfl ?_
      show Steps p.tables e below (T10.setTop (mkF m 86 #[.val (.int p0), .val (.int p1), .val (.int p2), .val (.int p3), .val (.long q4), .second, .val (.int (own_n p0)), .val (.int (bI (¬ ((p3 &&& (1 : Int32)) = (0 : Int32))))), .val (.int (own_d p0 p1 p3)), .val (.int (own_lg p2 p3)), .unset, .unset, .unset, .val (.long (((own_lg p2 p3).toInt64) * ((own_d p0 p1 p3).toInt64))), .second, .unset, .unset, .unset, .unset] [])) _
      refine XS.iload X10.here hx rfl (hb hby at_86) rfl ?_
      show Steps p.tables e below (T10.setTop (mkF m 88 #[.val (.int p0), .val (.int p1), .val (.int p2), .val (.int p3), .val (.long q4), .second, .val (.int (own_n p0)), .val (.int (bI (¬ ((p3 &&& (1 : Int32)) = (0 : Int32))))), .val (.int (own_d p0 p1 p3)), .val (.int (own_lg p2 p3)), .unset, .unset, .unset, .val (.long (((own_lg p2 p3).toInt64) * ((own_d p0 p1 p3).toInt64))), .second, .unset, .unset, .unset, .unset] [(.int (own_lg p2 p3))])) _
      refine XS.i2l X10.here hx rfl (hb hby at_88) rfl ?_
      show Steps p.tables e below (T10.setTop (mkF m 89 #[.val (.int p0), .val (.int p1), .val (.int p2), .val (.int p3), .val (.long q4), .second, .val (.int (own_n p0)), .val (.int (bI (¬ ((p3 &&& (1 : Int32)) = (0 : Int32))))), .val (.int (own_d p0 p1 p3)), .val (.int (own_lg p2 p3)), .unset, .unset, .unset, .val (.long (((own_lg p2 p3).toInt64) * ((own_d p0 p1 p3).toInt64))), .second, .unset, .unset, .unset, .unset] [(.long ((own_lg p2 p3).toInt64))])) _
      refine XS.iload X10.here hx rfl (hb hby at_89) rfl ?_
      show Steps p.tables e below (T10.setTop (mkF m 91 #[.val (.int p0), .val (.int p1), .val (.int p2), .val (.int p3), .val (.long q4), .second, .val (.int (own_n p0)), .val (.int (bI (¬ ((p3 &&& (1 : Int32)) = (0 : Int32))))), .val (.int (own_d p0 p1 p3)), .val (.int (own_lg p2 p3)), .unset, .unset, .unset, .val (.long (((own_lg p2 p3).toInt64) * ((own_d p0 p1 p3).toInt64))), .second, .unset, .unset, .unset, .unset] [(.int (own_d p0 p1 p3)), (.long ((own_lg p2 p3).toInt64))])) _
      refine XS.i2l X10.here hx rfl (hb hby at_91) rfl ?_
      exact kz
    refine OG.step s11 ?_
    obtain ⟨_, _, ⟨T12, L12, k12, n12⟩, -, X12, ⟨Lc12, hQ12, l12, y12, z12⟩, st12⟩ := Jvm.LawKit.callS X10 hx (y := (⟨"java/lang/Math", "max", "(JJ)J"⟩ : MethodName)) hown (mvT hZ (hw _ (List.mem_of_getElem? (i := 9) rfl))) (mvT hZ (hw _ (List.mem_of_getElem? (i := 10) rfl))) (mvT hZ (hw _ (List.mem_of_getElem? (i := 7) rfl))) (mvT hZ (hw _ (List.mem_of_getElem? (i := 11) rfl))) (by decide) (backOf (W := 0) (rm3 l Z a0 hw [] ((own_lg p2 p3).toInt64) ((own_d p0 p1 p3).toInt64) h0 n0 (Nat.le_trans Z0 K0.1)) hZ (hw _ (List.mem_of_getElem? (i := 11) rfl)) (hw _ (List.mem_of_getElem? (i := 7) rfl)) (by decide) (by decide)) (g := (mkF m 92 #[.val (.int p0), .val (.int p1), .val (.int p2), .val (.int p3), .val (.long q4), .second, .val (.int (own_n p0)), .val (.int (bI (¬ ((p3 &&& (1 : Int32)) = (0 : Int32))))), .val (.int (own_d p0 p1 p3)), .val (.int (own_lg p2 p3)), .unset, .unset, .unset, .val (.long (((own_lg p2 p3).toInt64) * ((own_d p0 p1 p3).toInt64))), .second, .unset, .unset, .unset, .unset] [(.long ((own_d p0 p1 p3).toInt64)), (.long ((own_lg p2 p3).toInt64))])) rfl (by rw [hml]; rfl) (argsL := [(.long ((own_lg p2 p3).toInt64)), (.long ((own_d p0 p1 p3).toInt64))]) (rest := []) (lenOf pd__JJ_J rfl) rfl (by show 2 * 0 + _ ≤ _; exact Nat.le_of_eq rfl) (hb hby at_92) (fun _ _ => ⟨rfl, e10, (by decide : 0 + 0 ≤ _), (by decide : 0 + 0 ≤ _)⟩)
    dsimp only [Pt.U, Pt.locs, Pt.cells, Pt.slots] at X12 l12 y12 z12 st12 hQ12
    subst l12 y12 z12
    obtain ⟨rfl, N12q, e12⟩ := hQ12
    have N12 := Fr.app N10 N12q
    refine OG.step st12 ?_
    show OG _ _ _ _ _ _ _ (T12.setTop (mkF m 95 #[.val (.int p0), .val (.int p1), .val (.int p2), .val (.int p3), .val (.long q4), .second, .val (.int (own_n p0)), .val (.int (bI (¬ ((p3 &&& (1 : Int32)) = (0 : Int32))))), .val (.int (own_d p0 p1 p3)), .val (.int (own_lg p2 p3)), .unset, .unset, .unset, .val (.long (((own_lg p2 p3).toInt64) * ((own_d p0 p1 p3).toInt64))), .second, .unset, .unset, .unset, .unset] [(.long (own_maxJ ((own_lg p2 p3).toInt64) ((own_d p0 p1 p3).toInt64)))]))
    have s13 : ∀ tz, Steps p.tables e below (T12.setTop (mkF m 97 #[.val (.int p0), .val (.int p1), .val (.int p2), .val (.int p3), .val (.long q4), .second, .val (.int (own_n p0)), .val (.int (bI (¬ ((p3 &&& (1 : Int32)) = (0 : Int32))))), .val (.int (own_d p0 p1 p3)), .val (.int (own_lg p2 p3)), .unset, .unset, .unset, .val (.long (((own_lg p2 p3).toInt64) * ((own_d p0 p1 p3).toInt64))), .second, .val (.long (own_maxJ ((own_lg p2 p3).toInt64) ((own_d p0 p1 p3).toInt64))), .second, .unset, .unset] [])) tz → Steps p.tables e below (T12.setTop (mkF m 95 #[.val (.int p0), .val (.int p1), .val (.int p2), .val (.int p3), .val (.long q4), .second, .val (.int (own_n p0)), .val (.int (bI (¬ ((p3 &&& (1 : Int32)) = (0 : Int32))))), .val (.int (own_d p0 p1 p3)), .val (.int (own_lg p2 p3)), .unset, .unset, .unset, .val (.long (((own_lg p2 p3).toInt64) * ((own_d p0 p1 p3).toInt64))), .second, .unset, .unset, .unset, .unset] [(.long (own_maxJ ((own_lg p2 p3).toInt64) ((own_d p0 p1 p3).toInt64)))])) tz := by
      intro tz kz
      refine XS.lstore X12.here hx rfl (hb hby at_95) rfl (l' := #[.val (.int p0), .val (.int p1), .val (.int p2), .val (.int p3), .val (.long q4), .second, .val (.int (own_n p0)), .val (.int (bI (¬ ((p3 &&& (1 : Int32)) = (0 : Int32))))), .val (.int (own_d p0 p1 p3)), .val (.int (own_lg p2 p3)), .unset, .unset, .unset, .val (.long (((own_lg p2 p3).toInt64) * ((own_d p0 p1 p3).toInt64))), .second, .val (.long (own_maxJ ((own_lg p2 p3).toInt64) ((own_d p0 p1 p3).toInt64))), .second, .unset, .unset]) rfl ?_
      exact kz
    refine OG.step s13 ?_
    have s14 : ∀ tz, Steps p.tables e below (T12.setTop (mkF m 120 #[.val (.int p0), .val (.int p1), .val (.int p2), .val (.int p3), .val (.long q4), .second, .val (.int (own_n p0)), .val (.int (bI (¬ ((p3 &&& (1 : Int32)) = (0 : Int32))))), .val (.int (own_d p0 p1 p3)), .val (.int (own_lg p2 p3)), .unset, .unset, .unset, .val (.long (((own_lg p2 p3).toInt64) * ((own_d p0 p1 p3).toInt64))), .second, .val (.long (own_maxJ ((own_lg p2 p3).toInt64) ((own_d p0 p1 p3).toInt64))), .second, .unset, .unset] [(.long (own_e (own_d p0 p1 p3) (own_lg p2 p3) p3 q4))])) tz → Steps p.tables e below (T12.setTop (mkF m 97 #[.val (.int p0), .val (.int p1), .val (.int p2), .val (.int p3), .val (.long q4), .second, .val (.int (own_n p0)), .val (.int (bI (¬ ((p3 &&& (1 : Int32)) = (0 : Int32))))), .val (.int (own_d p0 p1 p3)), .val (.int (own_lg p2 p3)), .unset, .unset, .unset, .val (.long (((own_lg p2 p3).toInt64) * ((own_d p0 p1 p3).toInt64))), .second, .val (.long (own_maxJ ((own_lg p2 p3).toInt64) ((own_d p0 p1 p3).toInt64))), .second, .unset, .unset] [])) tz := by
      intro tz kz
      refine XS.iload X12.here hx rfl (hb hby at_97) rfl ?_
      show Steps p.tables e below (T12.setTop (mkF m 99 #[.val (.int p0), .val (.int p1), .val (.int p2), .val (.int p3), .val (.long q4), .second, .val (.int (own_n p0)), .val (.int (bI (¬ ((p3 &&& (1 : Int32)) = (0 : Int32))))), .val (.int (own_d p0 p1 p3)), .val (.int (own_lg p2 p3)), .unset, .unset, .unset, .val (.long (((own_lg p2 p3).toInt64) * ((own_d p0 p1 p3).toInt64))), .second, .val (.long (own_maxJ ((own_lg p2 p3).toInt64) ((own_d p0 p1 p3).toInt64))), .second, .unset, .unset] [(.int (bI (¬ ((p3 &&& (1 : Int32)) = (0 : Int32)))))])) _
      by_cases hm99 : ¬ ((p3 &&& (1 : Int32)) = (0 : Int32))
      · refine XS.ifNo X12.here hx rfl (hb hby at_99) rfl ((if0 _ _).trans (feq (bI_ne0 hm99)).1) ?_
        show Steps p.tables e below (T12.setTop (mkF m 102 #[.val (.int p0), .val (.int p1), .val (.int p2), .val (.int p3), .val (.long q4), .second, .val (.int (own_n p0)), .val (.int (bI (¬ ((p3 &&& (1 : Int32)) = (0 : Int32))))), .val (.int (own_d p0 p1 p3)), .val (.int (own_lg p2 p3)), .unset, .unset, .unset, .val (.long (((own_lg p2 p3).toInt64) * ((own_d p0 p1 p3).toInt64))), .second, .val (.long (own_maxJ ((own_lg p2 p3).toInt64) ((own_d p0 p1 p3).toInt64))), .second, .unset, .unset] [])) _
        refine XS.lconst X12.here hx rfl (hb hby at_102) ?_
        show Steps p.tables e below (T12.setTop (mkF m 103 #[.val (.int p0), .val (.int p1), .val (.int p2), .val (.int p3), .val (.long q4), .second, .val (.int (own_n p0)), .val (.int (bI (¬ ((p3 &&& (1 : Int32)) = (0 : Int32))))), .val (.int (own_d p0 p1 p3)), .val (.int (own_lg p2 p3)), .unset, .unset, .unset, .val (.long (((own_lg p2 p3).toInt64) * ((own_d p0 p1 p3).toInt64))), .second, .val (.long (own_maxJ ((own_lg p2 p3).toInt64) ((own_d p0 p1 p3).toInt64))), .second, .unset, .unset] [(.long (0 : Int64))])) _
        refine XS.goto X12.here hx rfl (pc0 := 103) (pc' := 120) rfl (hb hby at_103) (by decide) (by decide) ?_
        show Steps p.tables e below (T12.setTop (mkF m 120 #[.val (.int p0), .val (.int p1), .val (.int p2), .val (.int p3), .val (.long q4), .second, .val (.int (own_n p0)), .val (.int (bI (¬ ((p3 &&& (1 : Int32)) = (0 : Int32))))), .val (.int (own_d p0 p1 p3)), .val (.int (own_lg p2 p3)), .unset, .unset, .unset, .val (.long (((own_lg p2 p3).toInt64) * ((own_d p0 p1 p3).toInt64))), .second, .val (.long (own_maxJ ((own_lg p2 p3).toInt64) ((own_d p0 p1 p3).toInt64))), .second, .unset, .unset] [(.long (0 : Int64))])) _
        rw [show (own_e (own_d p0 p1 p3) (own_lg p2 p3) p3 q4) = (0 : Int64) from (if_pos hm99)] at kz
        exact kz
      · refine XS.ifYes X12.here hx rfl (pc0 := 99) (pc' := 106) rfl (hb hby at_99) rfl ((if0 _ _).trans (teq (bI_0 hm99)).1) (by decide) (by decide) ?_
        show Steps p.tables e below (T12.setTop (mkF m 106 #[.val (.int p0), .val (.int p1), .val (.int p2), .val (.int p3), .val (.long q4), .second, .val (.int (own_n p0)), .val (.int (bI (¬ ((p3 &&& (1 : Int32)) = (0 : Int32))))), .val (.int (own_d p0 p1 p3)), .val (.int (own_lg p2 p3)), .unset, .unset, .unset, .val (.long (((own_lg p2 p3).toInt64) * ((own_d p0 p1 p3).toInt64))), .second, .val (.long (own_maxJ ((own_lg p2 p3).toInt64) ((own_d p0 p1 p3).toInt64))), .second, .unset, .unset] [])) _
        refine XS.lload X12.here hx rfl (hb hby at_106) rfl ?_
        show Steps p.tables e below (T12.setTop (mkF m 108 #[.val (.int p0), .val (.int p1), .val (.int p2), .val (.int p3), .val (.long q4), .second, .val (.int (own_n p0)), .val (.int (bI (¬ ((p3 &&& (1 : Int32)) = (0 : Int32))))), .val (.int (own_d p0 p1 p3)), .val (.int (own_lg p2 p3)), .unset, .unset, .unset, .val (.long (((own_lg p2 p3).toInt64) * ((own_d p0 p1 p3).toInt64))), .second, .val (.long (own_maxJ ((own_lg p2 p3).toInt64) ((own_d p0 p1 p3).toInt64))), .second, .unset, .unset] [(.long q4)])) _
        refine X12.ldc2Long hx hown (mvT hZ (hw _ (List.mem_of_getElem? (i := 12) rfl))) (g := (mkF m 108 #[.val (.int p0), .val (.int p1), .val (.int p2), .val (.int p3), .val (.long q4), .second, .val (.int (own_n p0)), .val (.int (bI (¬ ((p3 &&& (1 : Int32)) = (0 : Int32))))), .val (.int (own_d p0 p1 p3)), .val (.int (own_lg p2 p3)), .unset, .unset, .unset, .val (.long (((own_lg p2 p3).toInt64) * ((own_d p0 p1 p3).toInt64))), .second, .val (.long (own_maxJ ((own_lg p2 p3).toInt64) ((own_d p0 p1 p3).toInt64))), .second, .unset, .unset] [(.long q4)])) rfl (hb hby at_108) _ ?_
        show Steps p.tables e below (T12.setTop (mkF m 111 #[.val (.int p0), .val (.int p1), .val (.int p2), .val (.int p3), .val (.long q4), .second, .val (.int (own_n p0)), .val (.int (bI (¬ ((p3 &&& (1 : Int32)) = (0 : Int32))))), .val (.int (own_d p0 p1 p3)), .val (.int (own_lg p2 p3)), .unset, .unset, .unset, .val (.long (((own_lg p2 p3).toInt64) * ((own_d p0 p1 p3).toInt64))), .second, .val (.long (own_maxJ ((own_lg p2 p3).toInt64) ((own_d p0 p1 p3).toInt64))), .second, .unset, .unset] [(.long (9223372036854775807 : Int64)), (.long q4)])) _
        refine XS.land X12.here hx rfl (hb hby at_111) rfl ?_
        show Steps p.tables e below (T12.setTop (mkF m 112 #[.val (.int p0), .val (.int p1), .val (.int p2), .val (.int p3), .val (.long q4), .second, .val (.int (own_n p0)), .val (.int (bI (¬ ((p3 &&& (1 : Int32)) = (0 : Int32))))), .val (.int (own_d p0 p1 p3)), .val (.int (own_lg p2 p3)), .unset, .unset, .unset, .val (.long (((own_lg p2 p3).toInt64) * ((own_d p0 p1 p3).toInt64))), .second, .val (.long (own_maxJ ((own_lg p2 p3).toInt64) ((own_d p0 p1 p3).toInt64))), .second, .unset, .unset] [(.long (q4 &&& (9223372036854775807 : Int64)))])) _
        refine XS.lload X12.here hx rfl (hb hby at_112) rfl ?_
        show Steps p.tables e below (T12.setTop (mkF m 114 #[.val (.int p0), .val (.int p1), .val (.int p2), .val (.int p3), .val (.long q4), .second, .val (.int (own_n p0)), .val (.int (bI (¬ ((p3 &&& (1 : Int32)) = (0 : Int32))))), .val (.int (own_d p0 p1 p3)), .val (.int (own_lg p2 p3)), .unset, .unset, .unset, .val (.long (((own_lg p2 p3).toInt64) * ((own_d p0 p1 p3).toInt64))), .second, .val (.long (own_maxJ ((own_lg p2 p3).toInt64) ((own_d p0 p1 p3).toInt64))), .second, .unset, .unset] [(.long (((own_lg p2 p3).toInt64) * ((own_d p0 p1 p3).toInt64))), (.long (q4 &&& (9223372036854775807 : Int64)))])) _
        refine XS.lload X12.here hx rfl (hb hby at_114) rfl ?_
        show Steps p.tables e below (T12.setTop (mkF m 116 #[.val (.int p0), .val (.int p1), .val (.int p2), .val (.int p3), .val (.long q4), .second, .val (.int (own_n p0)), .val (.int (bI (¬ ((p3 &&& (1 : Int32)) = (0 : Int32))))), .val (.int (own_d p0 p1 p3)), .val (.int (own_lg p2 p3)), .unset, .unset, .unset, .val (.long (((own_lg p2 p3).toInt64) * ((own_d p0 p1 p3).toInt64))), .second, .val (.long (own_maxJ ((own_lg p2 p3).toInt64) ((own_d p0 p1 p3).toInt64))), .second, .unset, .unset] [(.long (own_maxJ ((own_lg p2 p3).toInt64) ((own_d p0 p1 p3).toInt64))), (.long (((own_lg p2 p3).toInt64) * ((own_d p0 p1 p3).toInt64))), (.long (q4 &&& (9223372036854775807 : Int64)))])) _
        refine XS.lsub X12.here hx rfl (hb hby at_116) rfl ?_
        show Steps p.tables e below (T12.setTop (mkF m 117 #[.val (.int p0), .val (.int p1), .val (.int p2), .val (.int p3), .val (.long q4), .second, .val (.int (own_n p0)), .val (.int (bI (¬ ((p3 &&& (1 : Int32)) = (0 : Int32))))), .val (.int (own_d p0 p1 p3)), .val (.int (own_lg p2 p3)), .unset, .unset, .unset, .val (.long (((own_lg p2 p3).toInt64) * ((own_d p0 p1 p3).toInt64))), .second, .val (.long (own_maxJ ((own_lg p2 p3).toInt64) ((own_d p0 p1 p3).toInt64))), .second, .unset, .unset] [(.long ((((own_lg p2 p3).toInt64) * ((own_d p0 p1 p3).toInt64)) - (own_maxJ ((own_lg p2 p3).toInt64) ((own_d p0 p1 p3).toInt64)))), (.long (q4 &&& (9223372036854775807 : Int64)))])) _
        refine XS.lconst X12.here hx rfl (hb hby at_117) ?_
        show Steps p.tables e below (T12.setTop (mkF m 118 #[.val (.int p0), .val (.int p1), .val (.int p2), .val (.int p3), .val (.long q4), .second, .val (.int (own_n p0)), .val (.int (bI (¬ ((p3 &&& (1 : Int32)) = (0 : Int32))))), .val (.int (own_d p0 p1 p3)), .val (.int (own_lg p2 p3)), .unset, .unset, .unset, .val (.long (((own_lg p2 p3).toInt64) * ((own_d p0 p1 p3).toInt64))), .second, .val (.long (own_maxJ ((own_lg p2 p3).toInt64) ((own_d p0 p1 p3).toInt64))), .second, .unset, .unset] [(.long (1 : Int64)), (.long ((((own_lg p2 p3).toInt64) * ((own_d p0 p1 p3).toInt64)) - (own_maxJ ((own_lg p2 p3).toInt64) ((own_d p0 p1 p3).toInt64)))), (.long (q4 &&& (9223372036854775807 : Int64)))])) _
        refine XS.ladd X12.here hx rfl (hb hby at_118) rfl ?_
        show Steps p.tables e below (T12.setTop (mkF m 119 #[.val (.int p0), .val (.int p1), .val (.int p2), .val (.int p3), .val (.long q4), .second, .val (.int (own_n p0)), .val (.int (bI (¬ ((p3 &&& (1 : Int32)) = (0 : Int32))))), .val (.int (own_d p0 p1 p3)), .val (.int (own_lg p2 p3)), .unset, .unset, .unset, .val (.long (((own_lg p2 p3).toInt64) * ((own_d p0 p1 p3).toInt64))), .second, .val (.long (own_maxJ ((own_lg p2 p3).toInt64) ((own_d p0 p1 p3).toInt64))), .second, .unset, .unset] [(.long (((((own_lg p2 p3).toInt64) * ((own_d p0 p1 p3).toInt64)) - (own_maxJ ((own_lg p2 p3).toInt64) ((own_d p0 p1 p3).toInt64))) + (1 : Int64))), (.long (q4 &&& (9223372036854775807 : Int64)))])) _
        refine lremM X12.here hx rfl (hb hby at_119) rfl (own_nz2 (own_d p0 p1 p3) (own_lg p2 p3) (own_dpos p0 p1 p3 hc45) (own_lgb p2 p3)) ?_
        show Steps p.tables e below (T12.setTop (mkF m 120 #[.val (.int p0), .val (.int p1), .val (.int p2), .val (.int p3), .val (.long q4), .second, .val (.int (own_n p0)), .val (.int (bI (¬ ((p3 &&& (1 : Int32)) = (0 : Int32))))), .val (.int (own_d p0 p1 p3)), .val (.int (own_lg p2 p3)), .unset, .unset, .unset, .val (.long (((own_lg p2 p3).toInt64) * ((own_d p0 p1 p3).toInt64))), .second, .val (.long (own_maxJ ((own_lg p2 p3).toInt64) ((own_d p0 p1 p3).toInt64))), .second, .unset, .unset] [(.long ((q4 &&& (9223372036854775807 : Int64)) % (((((own_lg p2 p3).toInt64) * ((own_d p0 p1 p3).toInt64)) - (own_maxJ ((own_lg p2 p3).toInt64) ((own_d p0 p1 p3).toInt64))) + (1 : Int64))))])) _
        rw [show (own_e (own_d p0 p1 p3) (own_lg p2 p3) p3 q4) = ((q4 &&& (9223372036854775807 : Int64)) % (((((own_lg p2 p3).toInt64) * ((own_d p0 p1 p3).toInt64)) - (own_maxJ ((own_lg p2 p3).toInt64) ((own_d p0 p1 p3).toInt64))) + (1 : Int64))) from (if_neg hm99)] at kz
        exact kz
    refine OG.step s14 ?_
    have s15 : ∀ tz, Steps p.tables e below (T12.setTop (mkF m 129 #[.val (.int p0), .val (.int p1), .val (.int p2), .val (.int p3), .val (.long q4), .second, .val (.int (own_n p0)), .val (.int (bI (¬ ((p3 &&& (1 : Int32)) = (0 : Int32))))), .val (.int (own_d p0 p1 p3)), .val (.int (own_lg p2 p3)), .val (.long (own_t (own_d p0 p1 p3) (own_lg p2 p3) p3 q4)), .second, .unset, .val (.long (((own_lg p2 p3).toInt64) * ((own_d p0 p1 p3).toInt64))), .second, .val (.long (own_maxJ ((own_lg p2 p3).toInt64) ((own_d p0 p1 p3).toInt64))), .second, .val (.long (own_e (own_d p0 p1 p3) (own_lg p2 p3) p3 q4)), .second] [])) tz → Steps p.tables e below (T12.setTop (mkF m 120 #[.val (.int p0), .val (.int p1), .val (.int p2), .val (.int p3), .val (.long q4), .second, .val (.int (own_n p0)), .val (.int (bI (¬ ((p3 &&& (1 : Int32)) = (0 : Int32))))), .val (.int (own_d p0 p1 p3)), .val (.int (own_lg p2 p3)), .unset, .unset, .unset, .val (.long (((own_lg p2 p3).toInt64) * ((own_d p0 p1 p3).toInt64))), .second, .val (.long (own_maxJ ((own_lg p2 p3).toInt64) ((own_d p0 p1 p3).toInt64))), .second, .unset, .unset] [(.long (own_e (own_d p0 p1 p3) (own_lg p2 p3) p3 q4))])) tz := by
      intro tz kz
      refine XS.lstore X12.here hx rfl (hb hby at_120) rfl (l' := #[.val (.int p0), .val (.int p1), .val (.int p2), .val (.int p3), .val (.long q4), .second, .val (.int (own_n p0)), .val (.int (bI (¬ ((p3 &&& (1 : Int32)) = (0 : Int32))))), .val (.int (own_d p0 p1 p3)), .val (.int (own_lg p2 p3)), .unset, .unset, .unset, .val (.long (((own_lg p2 p3).toInt64) * ((own_d p0 p1 p3).toInt64))), .second, .val (.long (own_maxJ ((own_lg p2 p3).toInt64) ((own_d p0 p1 p3).toInt64))), .second, .val (.long (own_e (own_d p0 p1 p3) (own_lg p2 p3) p3 q4)), .second]) rfl ?_
      show Steps p.tables e below (T12.setTop (mkF m 122 #[.val (.int p0), .val (.int p1), .val (.int p2), .val (.int p3), .val (.long q4), .second, .val (.int (own_n p0)), .val (.int (bI (¬ ((p3 &&& (1 : Int32)) = (0 : Int32))))), .val (.int (own_d p0 p1 p3)), .val (.int (own_lg p2 p3)), .unset, .unset, .unset, .val (.long (((own_lg p2 p3).toInt64) * ((own_d p0 p1 p3).toInt64))), .second, .val (.long (own_maxJ ((own_lg p2 p3).toInt64) ((own_d p0 p1 p3).toInt64))), .second, .val (.long (own_e (own_d p0 p1 p3) (own_lg p2 p3) p3 q4)), .second] [])) _
      refine XS.lload X12.here hx rfl (hb hby at_122) rfl ?_
      show Steps p.tables e below (T12.setTop (mkF m 124 #[.val (.int p0), .val (.int p1), .val (.int p2), .val (.int p3), .val (.long q4), .second, .val (.int (own_n p0)), .val (.int (bI (¬ ((p3 &&& (1 : Int32)) = (0 : Int32))))), .val (.int (own_d p0 p1 p3)), .val (.int (own_lg p2 p3)), .unset, .unset, .unset, .val (.long (((own_lg p2 p3).toInt64) * ((own_d p0 p1 p3).toInt64))), .second, .val (.long (own_maxJ ((own_lg p2 p3).toInt64) ((own_d p0 p1 p3).toInt64))), .second, .val (.long (own_e (own_d p0 p1 p3) (own_lg p2 p3) p3 q4)), .second] [(.long (((own_lg p2 p3).toInt64) * ((own_d p0 p1 p3).toInt64)))])) _
      refine XS.lload X12.here hx rfl (hb hby at_124) rfl ?_
      show Steps p.tables e below (T12.setTop (mkF m 126 #[.val (.int p0), .val (.int p1), .val (.int p2), .val (.int p3), .val (.long q4), .second, .val (.int (own_n p0)), .val (.int (bI (¬ ((p3 &&& (1 : Int32)) = (0 : Int32))))), .val (.int (own_d p0 p1 p3)), .val (.int (own_lg p2 p3)), .unset, .unset, .unset, .val (.long (((own_lg p2 p3).toInt64) * ((own_d p0 p1 p3).toInt64))), .second, .val (.long (own_maxJ ((own_lg p2 p3).toInt64) ((own_d p0 p1 p3).toInt64))), .second, .val (.long (own_e (own_d p0 p1 p3) (own_lg p2 p3) p3 q4)), .second] [(.long (own_e (own_d p0 p1 p3) (own_lg p2 p3) p3 q4)), (.long (((own_lg p2 p3).toInt64) * ((own_d p0 p1 p3).toInt64)))])) _
      refine XS.lsub X12.here hx rfl (hb hby at_126) rfl ?_
      show Steps p.tables e below (T12.setTop (mkF m 127 #[.val (.int p0), .val (.int p1), .val (.int p2), .val (.int p3), .val (.long q4), .second, .val (.int (own_n p0)), .val (.int (bI (¬ ((p3 &&& (1 : Int32)) = (0 : Int32))))), .val (.int (own_d p0 p1 p3)), .val (.int (own_lg p2 p3)), .unset, .unset, .unset, .val (.long (((own_lg p2 p3).toInt64) * ((own_d p0 p1 p3).toInt64))), .second, .val (.long (own_maxJ ((own_lg p2 p3).toInt64) ((own_d p0 p1 p3).toInt64))), .second, .val (.long (own_e (own_d p0 p1 p3) (own_lg p2 p3) p3 q4)), .second] [(.long ((((own_lg p2 p3).toInt64) * ((own_d p0 p1 p3).toInt64)) - (own_e (own_d p0 p1 p3) (own_lg p2 p3) p3 q4)))])) _
      refine XS.lstore X12.here hx rfl (hb hby at_127) rfl (l' := #[.val (.int p0), .val (.int p1), .val (.int p2), .val (.int p3), .val (.long q4), .second, .val (.int (own_n p0)), .val (.int (bI (¬ ((p3 &&& (1 : Int32)) = (0 : Int32))))), .val (.int (own_d p0 p1 p3)), .val (.int (own_lg p2 p3)), .val (.long (own_t (own_d p0 p1 p3) (own_lg p2 p3) p3 q4)), .second, .unset, .val (.long (((own_lg p2 p3).toInt64) * ((own_d p0 p1 p3).toInt64))), .second, .val (.long (own_maxJ ((own_lg p2 p3).toInt64) ((own_d p0 p1 p3).toInt64))), .second, .val (.long (own_e (own_d p0 p1 p3) (own_lg p2 p3) p3 q4)), .second]) rfl ?_
      exact kz
    refine OG.step s15 ?_
    have s16 : ∀ tz, Steps p.tables e below (T12.setTop (mkF m 148 #[.val (.int p0), .val (.int p1), .val (.int p2), .val (.int p3), .val (.long q4), .second, .val (.int (own_n p0)), .val (.int (bI (¬ ((p3 &&& (1 : Int32)) = (0 : Int32))))), .val (.int (own_d p0 p1 p3)), .val (.int (own_lg p2 p3)), .val (.long (own_t (own_d p0 p1 p3) (own_lg p2 p3) p3 q4)), .second, .unset, .val (.long (((own_lg p2 p3).toInt64) * ((own_d p0 p1 p3).toInt64))), .second, .val (.long (own_maxJ ((own_lg p2 p3).toInt64) ((own_d p0 p1 p3).toInt64))), .second, .val (.long (own_e (own_d p0 p1 p3) (own_lg p2 p3) p3 q4)), .second] [(.int (bI (((own_d p0 p1 p3) = (own_n p0)) ∧ ((own_e (own_d p0 p1 p3) (own_lg p2 p3) p3 q4) = (0 : Int64)))))])) tz → Steps p.tables e below (T12.setTop (mkF m 129 #[.val (.int p0), .val (.int p1), .val (.int p2), .val (.int p3), .val (.long q4), .second, .val (.int (own_n p0)), .val (.int (bI (¬ ((p3 &&& (1 : Int32)) = (0 : Int32))))), .val (.int (own_d p0 p1 p3)), .val (.int (own_lg p2 p3)), .val (.long (own_t (own_d p0 p1 p3) (own_lg p2 p3) p3 q4)), .second, .unset, .val (.long (((own_lg p2 p3).toInt64) * ((own_d p0 p1 p3).toInt64))), .second, .val (.long (own_maxJ ((own_lg p2 p3).toInt64) ((own_d p0 p1 p3).toInt64))), .second, .val (.long (own_e (own_d p0 p1 p3) (own_lg p2 p3) p3 q4)), .second] [])) tz := by
      intro tz kz
      refine XS.iload X12.here hx rfl (hb hby at_129) rfl ?_
      show Steps p.tables e below (T12.setTop (mkF m 131 #[.val (.int p0), .val (.int p1), .val (.int p2), .val (.int p3), .val (.long q4), .second, .val (.int (own_n p0)), .val (.int (bI (¬ ((p3 &&& (1 : Int32)) = (0 : Int32))))), .val (.int (own_d p0 p1 p3)), .val (.int (own_lg p2 p3)), .val (.long (own_t (own_d p0 p1 p3) (own_lg p2 p3) p3 q4)), .second, .unset, .val (.long (((own_lg p2 p3).toInt64) * ((own_d p0 p1 p3).toInt64))), .second, .val (.long (own_maxJ ((own_lg p2 p3).toInt64) ((own_d p0 p1 p3).toInt64))), .second, .val (.long (own_e (own_d p0 p1 p3) (own_lg p2 p3) p3 q4)), .second] [(.int (own_d p0 p1 p3))])) _
      refine XS.iload X12.here hx rfl (hb hby at_131) rfl ?_
      show Steps p.tables e below (T12.setTop (mkF m 133 #[.val (.int p0), .val (.int p1), .val (.int p2), .val (.int p3), .val (.long q4), .second, .val (.int (own_n p0)), .val (.int (bI (¬ ((p3 &&& (1 : Int32)) = (0 : Int32))))), .val (.int (own_d p0 p1 p3)), .val (.int (own_lg p2 p3)), .val (.long (own_t (own_d p0 p1 p3) (own_lg p2 p3) p3 q4)), .second, .unset, .val (.long (((own_lg p2 p3).toInt64) * ((own_d p0 p1 p3).toInt64))), .second, .val (.long (own_maxJ ((own_lg p2 p3).toInt64) ((own_d p0 p1 p3).toInt64))), .second, .val (.long (own_e (own_d p0 p1 p3) (own_lg p2 p3) p3 q4)), .second] [(.int (own_n p0)), (.int (own_d p0 p1 p3))])) _
      by_cases hm133 : (own_d p0 p1 p3) = (own_n p0)
      · refine XS.icmpNo X12.here hx rfl (hb hby at_133) rfl (teq hm133).2 ?_
        show Steps p.tables e below (T12.setTop (mkF m 136 #[.val (.int p0), .val (.int p1), .val (.int p2), .val (.int p3), .val (.long q4), .second, .val (.int (own_n p0)), .val (.int (bI (¬ ((p3 &&& (1 : Int32)) = (0 : Int32))))), .val (.int (own_d p0 p1 p3)), .val (.int (own_lg p2 p3)), .val (.long (own_t (own_d p0 p1 p3) (own_lg p2 p3) p3 q4)), .second, .unset, .val (.long (((own_lg p2 p3).toInt64) * ((own_d p0 p1 p3).toInt64))), .second, .val (.long (own_maxJ ((own_lg p2 p3).toInt64) ((own_d p0 p1 p3).toInt64))), .second, .val (.long (own_e (own_d p0 p1 p3) (own_lg p2 p3) p3 q4)), .second] [])) _
        refine XS.lload X12.here hx rfl (hb hby at_136) rfl ?_
        show Steps p.tables e below (T12.setTop (mkF m 138 #[.val (.int p0), .val (.int p1), .val (.int p2), .val (.int p3), .val (.long q4), .second, .val (.int (own_n p0)), .val (.int (bI (¬ ((p3 &&& (1 : Int32)) = (0 : Int32))))), .val (.int (own_d p0 p1 p3)), .val (.int (own_lg p2 p3)), .val (.long (own_t (own_d p0 p1 p3) (own_lg p2 p3) p3 q4)), .second, .unset, .val (.long (((own_lg p2 p3).toInt64) * ((own_d p0 p1 p3).toInt64))), .second, .val (.long (own_maxJ ((own_lg p2 p3).toInt64) ((own_d p0 p1 p3).toInt64))), .second, .val (.long (own_e (own_d p0 p1 p3) (own_lg p2 p3) p3 q4)), .second] [(.long (own_e (own_d p0 p1 p3) (own_lg p2 p3) p3 q4))])) _
        refine XS.lconst X12.here hx rfl (hb hby at_138) ?_
        show Steps p.tables e below (T12.setTop (mkF m 139 #[.val (.int p0), .val (.int p1), .val (.int p2), .val (.int p3), .val (.long q4), .second, .val (.int (own_n p0)), .val (.int (bI (¬ ((p3 &&& (1 : Int32)) = (0 : Int32))))), .val (.int (own_d p0 p1 p3)), .val (.int (own_lg p2 p3)), .val (.long (own_t (own_d p0 p1 p3) (own_lg p2 p3) p3 q4)), .second, .unset, .val (.long (((own_lg p2 p3).toInt64) * ((own_d p0 p1 p3).toInt64))), .second, .val (.long (own_maxJ ((own_lg p2 p3).toInt64) ((own_d p0 p1 p3).toInt64))), .second, .val (.long (own_e (own_d p0 p1 p3) (own_lg p2 p3) p3 q4)), .second] [(.long (0 : Int64)), (.long (own_e (own_d p0 p1 p3) (own_lg p2 p3) p3 q4))])) _
        refine XS.lcmp X12.here hx rfl (hb hby at_139) rfl ?_
        show Steps p.tables e below (T12.setTop (mkF m 140 #[.val (.int p0), .val (.int p1), .val (.int p2), .val (.int p3), .val (.long q4), .second, .val (.int (own_n p0)), .val (.int (bI (¬ ((p3 &&& (1 : Int32)) = (0 : Int32))))), .val (.int (own_d p0 p1 p3)), .val (.int (own_lg p2 p3)), .val (.long (own_t (own_d p0 p1 p3) (own_lg p2 p3) p3 q4)), .second, .unset, .val (.long (((own_lg p2 p3).toInt64) * ((own_d p0 p1 p3).toInt64))), .second, .val (.long (own_maxJ ((own_lg p2 p3).toInt64) ((own_d p0 p1 p3).toInt64))), .second, .val (.long (own_e (own_d p0 p1 p3) (own_lg p2 p3) p3 q4)), .second] [(.int (lcmpW (own_e (own_d p0 p1 p3) (own_lg p2 p3) p3 q4) (0 : Int64)))])) _
        by_cases hm140 : (own_e (own_d p0 p1 p3) (own_lg p2 p3) p3 q4) = (0 : Int64)
        · refine XS.ifNo X12.here hx rfl (hb hby at_140) rfl ((if0 _ _).trans (teq ((lw_eq (own_e (own_d p0 p1 p3) (own_lg p2 p3) p3 q4) (0 : Int64)).mpr hm140)).2) ?_
          show Steps p.tables e below (T12.setTop (mkF m 143 #[.val (.int p0), .val (.int p1), .val (.int p2), .val (.int p3), .val (.long q4), .second, .val (.int (own_n p0)), .val (.int (bI (¬ ((p3 &&& (1 : Int32)) = (0 : Int32))))), .val (.int (own_d p0 p1 p3)), .val (.int (own_lg p2 p3)), .val (.long (own_t (own_d p0 p1 p3) (own_lg p2 p3) p3 q4)), .second, .unset, .val (.long (((own_lg p2 p3).toInt64) * ((own_d p0 p1 p3).toInt64))), .second, .val (.long (own_maxJ ((own_lg p2 p3).toInt64) ((own_d p0 p1 p3).toInt64))), .second, .val (.long (own_e (own_d p0 p1 p3) (own_lg p2 p3) p3 q4)), .second] [])) _
          refine XS.iconst X12.here hx rfl (hb hby at_143) ?_
          show Steps p.tables e below (T12.setTop (mkF m 144 #[.val (.int p0), .val (.int p1), .val (.int p2), .val (.int p3), .val (.long q4), .second, .val (.int (own_n p0)), .val (.int (bI (¬ ((p3 &&& (1 : Int32)) = (0 : Int32))))), .val (.int (own_d p0 p1 p3)), .val (.int (own_lg p2 p3)), .val (.long (own_t (own_d p0 p1 p3) (own_lg p2 p3) p3 q4)), .second, .unset, .val (.long (((own_lg p2 p3).toInt64) * ((own_d p0 p1 p3).toInt64))), .second, .val (.long (own_maxJ ((own_lg p2 p3).toInt64) ((own_d p0 p1 p3).toInt64))), .second, .val (.long (own_e (own_d p0 p1 p3) (own_lg p2 p3) p3 q4)), .second] [(.int (1 : Int32))])) _
          refine XS.goto X12.here hx rfl (pc0 := 144) (pc' := 148) rfl (hb hby at_144) (by decide) (by decide) ?_
          show Steps p.tables e below (T12.setTop (mkF m 148 #[.val (.int p0), .val (.int p1), .val (.int p2), .val (.int p3), .val (.long q4), .second, .val (.int (own_n p0)), .val (.int (bI (¬ ((p3 &&& (1 : Int32)) = (0 : Int32))))), .val (.int (own_d p0 p1 p3)), .val (.int (own_lg p2 p3)), .val (.long (own_t (own_d p0 p1 p3) (own_lg p2 p3) p3 q4)), .second, .unset, .val (.long (((own_lg p2 p3).toInt64) * ((own_d p0 p1 p3).toInt64))), .second, .val (.long (own_maxJ ((own_lg p2 p3).toInt64) ((own_d p0 p1 p3).toInt64))), .second, .val (.long (own_e (own_d p0 p1 p3) (own_lg p2 p3) p3 q4)), .second] [(.int (1 : Int32))])) _
          rw [show (bI (((own_d p0 p1 p3) = (own_n p0)) ∧ ((own_e (own_d p0 p1 p3) (own_lg p2 p3) p3 q4) = (0 : Int64)))) = (1 : Int32) from bI_pos (P := ((own_d p0 p1 p3) = (own_n p0)) ∧ ((own_e (own_d p0 p1 p3) (own_lg p2 p3) p3 q4) = (0 : Int64))) ⟨hm133, hm140⟩] at kz
          exact kz
        · refine XS.ifYes X12.here hx rfl (pc0 := 140) (pc' := 147) rfl (hb hby at_140) rfl ((if0 _ _).trans (feq (mt (lw_eq (own_e (own_d p0 p1 p3) (own_lg p2 p3) p3 q4) (0 : Int64)).mp hm140)).2) (by decide) (by decide) ?_
          show Steps p.tables e below (T12.setTop (mkF m 147 #[.val (.int p0), .val (.int p1), .val (.int p2), .val (.int p3), .val (.long q4), .second, .val (.int (own_n p0)), .val (.int (bI (¬ ((p3 &&& (1 : Int32)) = (0 : Int32))))), .val (.int (own_d p0 p1 p3)), .val (.int (own_lg p2 p3)), .val (.long (own_t (own_d p0 p1 p3) (own_lg p2 p3) p3 q4)), .second, .unset, .val (.long (((own_lg p2 p3).toInt64) * ((own_d p0 p1 p3).toInt64))), .second, .val (.long (own_maxJ ((own_lg p2 p3).toInt64) ((own_d p0 p1 p3).toInt64))), .second, .val (.long (own_e (own_d p0 p1 p3) (own_lg p2 p3) p3 q4)), .second] [])) _
          refine XS.iconst X12.here hx rfl (hb hby at_147) ?_
          show Steps p.tables e below (T12.setTop (mkF m 148 #[.val (.int p0), .val (.int p1), .val (.int p2), .val (.int p3), .val (.long q4), .second, .val (.int (own_n p0)), .val (.int (bI (¬ ((p3 &&& (1 : Int32)) = (0 : Int32))))), .val (.int (own_d p0 p1 p3)), .val (.int (own_lg p2 p3)), .val (.long (own_t (own_d p0 p1 p3) (own_lg p2 p3) p3 q4)), .second, .unset, .val (.long (((own_lg p2 p3).toInt64) * ((own_d p0 p1 p3).toInt64))), .second, .val (.long (own_maxJ ((own_lg p2 p3).toInt64) ((own_d p0 p1 p3).toInt64))), .second, .val (.long (own_e (own_d p0 p1 p3) (own_lg p2 p3) p3 q4)), .second] [(.int (0 : Int32))])) _
          rw [show (bI (((own_d p0 p1 p3) = (own_n p0)) ∧ ((own_e (own_d p0 p1 p3) (own_lg p2 p3) p3 q4) = (0 : Int64)))) = (0 : Int32) from bI_neg (P := ((own_d p0 p1 p3) = (own_n p0)) ∧ ((own_e (own_d p0 p1 p3) (own_lg p2 p3) p3 q4) = (0 : Int64))) (fun z => hm140 z.2)] at kz
          exact kz
      · refine XS.icmpYes X12.here hx rfl (pc0 := 133) (pc' := 147) rfl (hb hby at_133) rfl (feq hm133).2 (by decide) (by decide) ?_
        show Steps p.tables e below (T12.setTop (mkF m 147 #[.val (.int p0), .val (.int p1), .val (.int p2), .val (.int p3), .val (.long q4), .second, .val (.int (own_n p0)), .val (.int (bI (¬ ((p3 &&& (1 : Int32)) = (0 : Int32))))), .val (.int (own_d p0 p1 p3)), .val (.int (own_lg p2 p3)), .val (.long (own_t (own_d p0 p1 p3) (own_lg p2 p3) p3 q4)), .second, .unset, .val (.long (((own_lg p2 p3).toInt64) * ((own_d p0 p1 p3).toInt64))), .second, .val (.long (own_maxJ ((own_lg p2 p3).toInt64) ((own_d p0 p1 p3).toInt64))), .second, .val (.long (own_e (own_d p0 p1 p3) (own_lg p2 p3) p3 q4)), .second] [])) _
        refine XS.iconst X12.here hx rfl (hb hby at_147) ?_
        show Steps p.tables e below (T12.setTop (mkF m 148 #[.val (.int p0), .val (.int p1), .val (.int p2), .val (.int p3), .val (.long q4), .second, .val (.int (own_n p0)), .val (.int (bI (¬ ((p3 &&& (1 : Int32)) = (0 : Int32))))), .val (.int (own_d p0 p1 p3)), .val (.int (own_lg p2 p3)), .val (.long (own_t (own_d p0 p1 p3) (own_lg p2 p3) p3 q4)), .second, .unset, .val (.long (((own_lg p2 p3).toInt64) * ((own_d p0 p1 p3).toInt64))), .second, .val (.long (own_maxJ ((own_lg p2 p3).toInt64) ((own_d p0 p1 p3).toInt64))), .second, .val (.long (own_e (own_d p0 p1 p3) (own_lg p2 p3) p3 q4)), .second] [(.int (0 : Int32))])) _
        rw [show (bI (((own_d p0 p1 p3) = (own_n p0)) ∧ ((own_e (own_d p0 p1 p3) (own_lg p2 p3) p3 q4) = (0 : Int64)))) = (0 : Int32) from bI_neg (P := ((own_d p0 p1 p3) = (own_n p0)) ∧ ((own_e (own_d p0 p1 p3) (own_lg p2 p3) p3 q4) = (0 : Int64))) (fun z => hm133 z.1)] at kz
        exact kz
    refine OG.step s16 ?_
    have s17 : ∀ tz, Steps p.tables e below (T12.setTop (mkF m 158 #[.val (.int p0), .val (.int p1), .val (.int p2), .val (.int p3), .val (.long q4), .second, .val (.int (own_n p0)), .val (.int (bI (¬ ((p3 &&& (1 : Int32)) = (0 : Int32))))), .val (.int (own_d p0 p1 p3)), .val (.int (own_lg p2 p3)), .val (.long (own_t (own_d p0 p1 p3) (own_lg p2 p3) p3 q4)), .second, .val (.int (bI (((own_d p0 p1 p3) = (own_n p0)) ∧ ((own_e (own_d p0 p1 p3) (own_lg p2 p3) p3 q4) = (0 : Int64))))), .val (.long (((own_lg p2 p3).toInt64) * ((own_d p0 p1 p3).toInt64))), .second, .val (.long (own_maxJ ((own_lg p2 p3).toInt64) ((own_d p0 p1 p3).toInt64))), .second, .val (.long (own_e (own_d p0 p1 p3) (own_lg p2 p3) p3 q4)), .second] [(.int (own_lg p2 p3)), (.long (own_t (own_d p0 p1 p3) (own_lg p2 p3) p3 q4)), (.int (own_d p0 p1 p3)), (.int (own_n p0))])) tz → Steps p.tables e below (T12.setTop (mkF m 148 #[.val (.int p0), .val (.int p1), .val (.int p2), .val (.int p3), .val (.long q4), .second, .val (.int (own_n p0)), .val (.int (bI (¬ ((p3 &&& (1 : Int32)) = (0 : Int32))))), .val (.int (own_d p0 p1 p3)), .val (.int (own_lg p2 p3)), .val (.long (own_t (own_d p0 p1 p3) (own_lg p2 p3) p3 q4)), .second, .unset, .val (.long (((own_lg p2 p3).toInt64) * ((own_d p0 p1 p3).toInt64))), .second, .val (.long (own_maxJ ((own_lg p2 p3).toInt64) ((own_d p0 p1 p3).toInt64))), .second, .val (.long (own_e (own_d p0 p1 p3) (own_lg p2 p3) p3 q4)), .second] [(.int (bI (((own_d p0 p1 p3) = (own_n p0)) ∧ ((own_e (own_d p0 p1 p3) (own_lg p2 p3) p3 q4) = (0 : Int64)))))])) tz := by
      intro tz kz
      refine XS.istore X12.here hx rfl (hb hby at_148) rfl (l' := #[.val (.int p0), .val (.int p1), .val (.int p2), .val (.int p3), .val (.long q4), .second, .val (.int (own_n p0)), .val (.int (bI (¬ ((p3 &&& (1 : Int32)) = (0 : Int32))))), .val (.int (own_d p0 p1 p3)), .val (.int (own_lg p2 p3)), .val (.long (own_t (own_d p0 p1 p3) (own_lg p2 p3) p3 q4)), .second, .val (.int (bI (((own_d p0 p1 p3) = (own_n p0)) ∧ ((own_e (own_d p0 p1 p3) (own_lg p2 p3) p3 q4) = (0 : Int64))))), .val (.long (((own_lg p2 p3).toInt64) * ((own_d p0 p1 p3).toInt64))), .second, .val (.long (own_maxJ ((own_lg p2 p3).toInt64) ((own_d p0 p1 p3).toInt64))), .second, .val (.long (own_e (own_d p0 p1 p3) (own_lg p2 p3) p3 q4)), .second]) rfl ?_
      show Steps p.tables e below (T12.setTop (mkF m 150 #[.val (.int p0), .val (.int p1), .val (.int p2), .val (.int p3), .val (.long q4), .second, .val (.int (own_n p0)), .val (.int (bI (¬ ((p3 &&& (1 : Int32)) = (0 : Int32))))), .val (.int (own_d p0 p1 p3)), .val (.int (own_lg p2 p3)), .val (.long (own_t (own_d p0 p1 p3) (own_lg p2 p3) p3 q4)), .second, .val (.int (bI (((own_d p0 p1 p3) = (own_n p0)) ∧ ((own_e (own_d p0 p1 p3) (own_lg p2 p3) p3 q4) = (0 : Int64))))), .val (.long (((own_lg p2 p3).toInt64) * ((own_d p0 p1 p3).toInt64))), .second, .val (.long (own_maxJ ((own_lg p2 p3).toInt64) ((own_d p0 p1 p3).toInt64))), .second, .val (.long (own_e (own_d p0 p1 p3) (own_lg p2 p3) p3 q4)), .second] [])) _
      refine XS.iload X12.here hx rfl (hb hby at_150) rfl ?_
      show Steps p.tables e below (T12.setTop (mkF m 152 #[.val (.int p0), .val (.int p1), .val (.int p2), .val (.int p3), .val (.long q4), .second, .val (.int (own_n p0)), .val (.int (bI (¬ ((p3 &&& (1 : Int32)) = (0 : Int32))))), .val (.int (own_d p0 p1 p3)), .val (.int (own_lg p2 p3)), .val (.long (own_t (own_d p0 p1 p3) (own_lg p2 p3) p3 q4)), .second, .val (.int (bI (((own_d p0 p1 p3) = (own_n p0)) ∧ ((own_e (own_d p0 p1 p3) (own_lg p2 p3) p3 q4) = (0 : Int64))))), .val (.long (((own_lg p2 p3).toInt64) * ((own_d p0 p1 p3).toInt64))), .second, .val (.long (own_maxJ ((own_lg p2 p3).toInt64) ((own_d p0 p1 p3).toInt64))), .second, .val (.long (own_e (own_d p0 p1 p3) (own_lg p2 p3) p3 q4)), .second] [(.int (own_n p0))])) _
      refine XS.iload X12.here hx rfl (hb hby at_152) rfl ?_
      show Steps p.tables e below (T12.setTop (mkF m 154 #[.val (.int p0), .val (.int p1), .val (.int p2), .val (.int p3), .val (.long q4), .second, .val (.int (own_n p0)), .val (.int (bI (¬ ((p3 &&& (1 : Int32)) = (0 : Int32))))), .val (.int (own_d p0 p1 p3)), .val (.int (own_lg p2 p3)), .val (.long (own_t (own_d p0 p1 p3) (own_lg p2 p3) p3 q4)), .second, .val (.int (bI (((own_d p0 p1 p3) = (own_n p0)) ∧ ((own_e (own_d p0 p1 p3) (own_lg p2 p3) p3 q4) = (0 : Int64))))), .val (.long (((own_lg p2 p3).toInt64) * ((own_d p0 p1 p3).toInt64))), .second, .val (.long (own_maxJ ((own_lg p2 p3).toInt64) ((own_d p0 p1 p3).toInt64))), .second, .val (.long (own_e (own_d p0 p1 p3) (own_lg p2 p3) p3 q4)), .second] [(.int (own_d p0 p1 p3)), (.int (own_n p0))])) _
      refine XS.lload X12.here hx rfl (hb hby at_154) rfl ?_
      show Steps p.tables e below (T12.setTop (mkF m 156 #[.val (.int p0), .val (.int p1), .val (.int p2), .val (.int p3), .val (.long q4), .second, .val (.int (own_n p0)), .val (.int (bI (¬ ((p3 &&& (1 : Int32)) = (0 : Int32))))), .val (.int (own_d p0 p1 p3)), .val (.int (own_lg p2 p3)), .val (.long (own_t (own_d p0 p1 p3) (own_lg p2 p3) p3 q4)), .second, .val (.int (bI (((own_d p0 p1 p3) = (own_n p0)) ∧ ((own_e (own_d p0 p1 p3) (own_lg p2 p3) p3 q4) = (0 : Int64))))), .val (.long (((own_lg p2 p3).toInt64) * ((own_d p0 p1 p3).toInt64))), .second, .val (.long (own_maxJ ((own_lg p2 p3).toInt64) ((own_d p0 p1 p3).toInt64))), .second, .val (.long (own_e (own_d p0 p1 p3) (own_lg p2 p3) p3 q4)), .second] [(.long (own_t (own_d p0 p1 p3) (own_lg p2 p3) p3 q4)), (.int (own_d p0 p1 p3)), (.int (own_n p0))])) _
      refine XS.iload X12.here hx rfl (hb hby at_156) rfl ?_
      exact kz
    refine OG.step s17 ?_
    obtain ⟨_, _, ⟨T18, L18, k18, n18⟩, -, X18, ⟨Lc18, hQ18, l18, y18, z18⟩, st18⟩ := Jvm.LawKit.callS X12 hx (y := (⟨"com/example/strata/strata/FieldEntry", "width", "(IIJI)I"⟩ : MethodName)) hown (mvT hZ (hw _ (List.mem_of_getElem? (i := 1) rfl))) (mvT hZ (hw _ (List.mem_of_getElem? (i := 2) rfl))) (mvT hZ (hw _ (List.mem_of_getElem? (i := 3) rfl))) (mvT hZ (hw _ (List.mem_of_getElem? (i := 4) rfl))) (by decide) (backOf (W := 0) (rm1 l Z a0 hw [] (own_n p0) (own_d p0 p1 p3) (own_t (own_d p0 p1 p3) (own_lg p2 p3) p3 q4) (own_lg p2 p3) h0 n0 (Nat.le_trans Z0 K0.1)) hZ (hw _ (List.mem_of_getElem? (i := 4) rfl)) (hw _ (List.mem_of_getElem? (i := 3) rfl)) (by decide) (by decide)) (g := (mkF m 158 #[.val (.int p0), .val (.int p1), .val (.int p2), .val (.int p3), .val (.long q4), .second, .val (.int (own_n p0)), .val (.int (bI (¬ ((p3 &&& (1 : Int32)) = (0 : Int32))))), .val (.int (own_d p0 p1 p3)), .val (.int (own_lg p2 p3)), .val (.long (own_t (own_d p0 p1 p3) (own_lg p2 p3) p3 q4)), .second, .val (.int (bI (((own_d p0 p1 p3) = (own_n p0)) ∧ ((own_e (own_d p0 p1 p3) (own_lg p2 p3) p3 q4) = (0 : Int64))))), .val (.long (((own_lg p2 p3).toInt64) * ((own_d p0 p1 p3).toInt64))), .second, .val (.long (own_maxJ ((own_lg p2 p3).toInt64) ((own_d p0 p1 p3).toInt64))), .second, .val (.long (own_e (own_d p0 p1 p3) (own_lg p2 p3) p3 q4)), .second] [(.int (own_lg p2 p3)), (.long (own_t (own_d p0 p1 p3) (own_lg p2 p3) p3 q4)), (.int (own_d p0 p1 p3)), (.int (own_n p0))])) rfl (by rw [hml]; rfl) (argsL := [(.int (own_n p0)), (.int (own_d p0 p1 p3)), (.long (own_t (own_d p0 p1 p3) (own_lg p2 p3) p3 q4)), (.int (own_lg p2 p3))]) (rest := []) (lenOf pd__IIJI_I rfl) rfl (by show 2 * 0 + _ ≤ _; exact Nat.le_of_eq rfl) (hb hby at_158) (fun _ _ => ⟨rfl, e12, (by decide : 0 + 0 ≤ _), (by decide : 0 + 0 ≤ _)⟩)
    dsimp only [Pt.U, Pt.locs, Pt.cells, Pt.slots] at X18 l18 y18 z18 st18 hQ18
    subst l18 y18 z18
    obtain ⟨rfl, N18q, e18⟩ := hQ18
    have N18 := Fr.app N12 N18q
    refine OG.step st18 ?_
    show OG _ _ _ _ _ _ _ (T18.setTop (mkF m 161 #[.val (.int p0), .val (.int p1), .val (.int p2), .val (.int p3), .val (.long q4), .second, .val (.int (own_n p0)), .val (.int (bI (¬ ((p3 &&& (1 : Int32)) = (0 : Int32))))), .val (.int (own_d p0 p1 p3)), .val (.int (own_lg p2 p3)), .val (.long (own_t (own_d p0 p1 p3) (own_lg p2 p3) p3 q4)), .second, .val (.int (bI (((own_d p0 p1 p3) = (own_n p0)) ∧ ((own_e (own_d p0 p1 p3) (own_lg p2 p3) p3 q4) = (0 : Int64))))), .val (.long (((own_lg p2 p3).toInt64) * ((own_d p0 p1 p3).toInt64))), .second, .val (.long (own_maxJ ((own_lg p2 p3).toInt64) ((own_d p0 p1 p3).toInt64))), .second, .val (.long (own_e (own_d p0 p1 p3) (own_lg p2 p3) p3 q4)), .second] [(.int (own_w (own_n p0) (own_d p0 p1 p3) (own_t (own_d p0 p1 p3) (own_lg p2 p3) p3 q4) (own_lg p2 p3)))]))
    have s19 : ∀ tz, Steps p.tables e below (T18.setTop (mkF m 165 #[.val (.int p0), .val (.int p1), .val (.int p2), .val (.int p3), .val (.long q4), .second, .val (.int (own_n p0)), .val (.int (bI (¬ ((p3 &&& (1 : Int32)) = (0 : Int32))))), .val (.int (own_d p0 p1 p3)), .val (.int (own_lg p2 p3)), .val (.long (own_t (own_d p0 p1 p3) (own_lg p2 p3) p3 q4)), .second, .val (.int (bI (((own_d p0 p1 p3) = (own_n p0)) ∧ ((own_e (own_d p0 p1 p3) (own_lg p2 p3) p3 q4) = (0 : Int64))))), .val (.int (own_w (own_n p0) (own_d p0 p1 p3) (own_t (own_d p0 p1 p3) (own_lg p2 p3) p3 q4) (own_lg p2 p3))), .unset, .val (.long (own_maxJ ((own_lg p2 p3).toInt64) ((own_d p0 p1 p3).toInt64))), .second, .val (.long (own_e (own_d p0 p1 p3) (own_lg p2 p3) p3 q4)), .second] [(.int (bI (((own_d p0 p1 p3) = (own_n p0)) ∧ ((own_e (own_d p0 p1 p3) (own_lg p2 p3) p3 q4) = (0 : Int64)))))])) tz → Steps p.tables e below (T18.setTop (mkF m 161 #[.val (.int p0), .val (.int p1), .val (.int p2), .val (.int p3), .val (.long q4), .second, .val (.int (own_n p0)), .val (.int (bI (¬ ((p3 &&& (1 : Int32)) = (0 : Int32))))), .val (.int (own_d p0 p1 p3)), .val (.int (own_lg p2 p3)), .val (.long (own_t (own_d p0 p1 p3) (own_lg p2 p3) p3 q4)), .second, .val (.int (bI (((own_d p0 p1 p3) = (own_n p0)) ∧ ((own_e (own_d p0 p1 p3) (own_lg p2 p3) p3 q4) = (0 : Int64))))), .val (.long (((own_lg p2 p3).toInt64) * ((own_d p0 p1 p3).toInt64))), .second, .val (.long (own_maxJ ((own_lg p2 p3).toInt64) ((own_d p0 p1 p3).toInt64))), .second, .val (.long (own_e (own_d p0 p1 p3) (own_lg p2 p3) p3 q4)), .second] [(.int (own_w (own_n p0) (own_d p0 p1 p3) (own_t (own_d p0 p1 p3) (own_lg p2 p3) p3 q4) (own_lg p2 p3)))])) tz := by
      intro tz kz
      refine XS.istore X18.here hx rfl (hb hby at_161) rfl (l' := #[.val (.int p0), .val (.int p1), .val (.int p2), .val (.int p3), .val (.long q4), .second, .val (.int (own_n p0)), .val (.int (bI (¬ ((p3 &&& (1 : Int32)) = (0 : Int32))))), .val (.int (own_d p0 p1 p3)), .val (.int (own_lg p2 p3)), .val (.long (own_t (own_d p0 p1 p3) (own_lg p2 p3) p3 q4)), .second, .val (.int (bI (((own_d p0 p1 p3) = (own_n p0)) ∧ ((own_e (own_d p0 p1 p3) (own_lg p2 p3) p3 q4) = (0 : Int64))))), .val (.int (own_w (own_n p0) (own_d p0 p1 p3) (own_t (own_d p0 p1 p3) (own_lg p2 p3) p3 q4) (own_lg p2 p3))), .unset, .val (.long (own_maxJ ((own_lg p2 p3).toInt64) ((own_d p0 p1 p3).toInt64))), .second, .val (.long (own_e (own_d p0 p1 p3) (own_lg p2 p3) p3 q4)), .second]) rfl ?_
      show Steps p.tables e below (T18.setTop (mkF m 163 #[.val (.int p0), .val (.int p1), .val (.int p2), .val (.int p3), .val (.long q4), .second, .val (.int (own_n p0)), .val (.int (bI (¬ ((p3 &&& (1 : Int32)) = (0 : Int32))))), .val (.int (own_d p0 p1 p3)), .val (.int (own_lg p2 p3)), .val (.long (own_t (own_d p0 p1 p3) (own_lg p2 p3) p3 q4)), .second, .val (.int (bI (((own_d p0 p1 p3) = (own_n p0)) ∧ ((own_e (own_d p0 p1 p3) (own_lg p2 p3) p3 q4) = (0 : Int64))))), .val (.int (own_w (own_n p0) (own_d p0 p1 p3) (own_t (own_d p0 p1 p3) (own_lg p2 p3) p3 q4) (own_lg p2 p3))), .unset, .val (.long (own_maxJ ((own_lg p2 p3).toInt64) ((own_d p0 p1 p3).toInt64))), .second, .val (.long (own_e (own_d p0 p1 p3) (own_lg p2 p3) p3 q4)), .second] [])) _
      refine XS.iload X18.here hx rfl (hb hby at_163) rfl ?_
      exact kz
    refine OG.step s19 ?_
    by_cases hc165 : ((own_d p0 p1 p3) = (own_n p0)) ∧ ((own_e (own_d p0 p1 p3) (own_lg p2 p3) p3 q4) = (0 : Int64))
    · have s20 : ∀ tz, Steps p.tables e below (T18.setTop (mkF m 178 #[.val (.int p0), .val (.int p1), .val (.int p2), .val (.int p3), .val (.long q4), .second, .val (.int (own_n p0)), .val (.int (bI (¬ ((p3 &&& (1 : Int32)) = (0 : Int32))))), .val (.int (own_d p0 p1 p3)), .val (.int (own_lg p2 p3)), .val (.long (own_t (own_d p0 p1 p3) (own_lg p2 p3) p3 q4)), .second, .val (.int (bI (((own_d p0 p1 p3) = (own_n p0)) ∧ ((own_e (own_d p0 p1 p3) (own_lg p2 p3) p3 q4) = (0 : Int64))))), .val (.int (own_w (own_n p0) (own_d p0 p1 p3) (own_t (own_d p0 p1 p3) (own_lg p2 p3) p3 q4) (own_lg p2 p3))), .unset, .val (.long (own_maxJ ((own_lg p2 p3).toInt64) ((own_d p0 p1 p3).toInt64))), .second, .val (.long (own_e (own_d p0 p1 p3) (own_lg p2 p3) p3 q4)), .second] [(.int (1 : Int32))])) tz → Steps p.tables e below (T18.setTop (mkF m 165 #[.val (.int p0), .val (.int p1), .val (.int p2), .val (.int p3), .val (.long q4), .second, .val (.int (own_n p0)), .val (.int (bI (¬ ((p3 &&& (1 : Int32)) = (0 : Int32))))), .val (.int (own_d p0 p1 p3)), .val (.int (own_lg p2 p3)), .val (.long (own_t (own_d p0 p1 p3) (own_lg p2 p3) p3 q4)), .second, .val (.int (bI (((own_d p0 p1 p3) = (own_n p0)) ∧ ((own_e (own_d p0 p1 p3) (own_lg p2 p3) p3 q4) = (0 : Int64))))), .val (.int (own_w (own_n p0) (own_d p0 p1 p3) (own_t (own_d p0 p1 p3) (own_lg p2 p3) p3 q4) (own_lg p2 p3))), .unset, .val (.long (own_maxJ ((own_lg p2 p3).toInt64) ((own_d p0 p1 p3).toInt64))), .second, .val (.long (own_e (own_d p0 p1 p3) (own_lg p2 p3) p3 q4)), .second] [(.int (bI (((own_d p0 p1 p3) = (own_n p0)) ∧ ((own_e (own_d p0 p1 p3) (own_lg p2 p3) p3 q4) = (0 : Int64)))))])) tz := by
        intro tz kz
        refine XS.ifNo X18.here hx rfl (hb hby at_165) rfl ((if0 _ _).trans (feq (bI_ne0 hc165)).1) ?_
        show Steps p.tables e below (T18.setTop (mkF m 168 #[.val (.int p0), .val (.int p1), .val (.int p2), .val (.int p3), .val (.long q4), .second, .val (.int (own_n p0)), .val (.int (bI (¬ ((p3 &&& (1 : Int32)) = (0 : Int32))))), .val (.int (own_d p0 p1 p3)), .val (.int (own_lg p2 p3)), .val (.long (own_t (own_d p0 p1 p3) (own_lg p2 p3) p3 q4)), .second, .val (.int (bI (((own_d p0 p1 p3) = (own_n p0)) ∧ ((own_e (own_d p0 p1 p3) (own_lg p2 p3) p3 q4) = (0 : Int64))))), .val (.int (own_w (own_n p0) (own_d p0 p1 p3) (own_t (own_d p0 p1 p3) (own_lg p2 p3) p3 q4) (own_lg p2 p3))), .unset, .val (.long (own_maxJ ((own_lg p2 p3).toInt64) ((own_d p0 p1 p3).toInt64))), .second, .val (.long (own_e (own_d p0 p1 p3) (own_lg p2 p3) p3 q4)), .second] [])) _
        refine XS.iload X18.here hx rfl (hb hby at_168) rfl ?_
        show Steps p.tables e below (T18.setTop (mkF m 170 #[.val (.int p0), .val (.int p1), .val (.int p2), .val (.int p3), .val (.long q4), .second, .val (.int (own_n p0)), .val (.int (bI (¬ ((p3 &&& (1 : Int32)) = (0 : Int32))))), .val (.int (own_d p0 p1 p3)), .val (.int (own_lg p2 p3)), .val (.long (own_t (own_d p0 p1 p3) (own_lg p2 p3) p3 q4)), .second, .val (.int (bI (((own_d p0 p1 p3) = (own_n p0)) ∧ ((own_e (own_d p0 p1 p3) (own_lg p2 p3) p3 q4) = (0 : Int64))))), .val (.int (own_w (own_n p0) (own_d p0 p1 p3) (own_t (own_d p0 p1 p3) (own_lg p2 p3) p3 q4) (own_lg p2 p3))), .unset, .val (.long (own_maxJ ((own_lg p2 p3).toInt64) ((own_d p0 p1 p3).toInt64))), .second, .val (.long (own_e (own_d p0 p1 p3) (own_lg p2 p3) p3 q4)), .second] [(.int (own_w (own_n p0) (own_d p0 p1 p3) (own_t (own_d p0 p1 p3) (own_lg p2 p3) p3 q4) (own_lg p2 p3)))])) _
        refine XS.ifNo X18.here hx rfl (hb hby at_170) rfl ((if0 _ _).trans (teq (own_B hc165)).2) ?_
        show Steps p.tables e below (T18.setTop (mkF m 173 #[.val (.int p0), .val (.int p1), .val (.int p2), .val (.int p3), .val (.long q4), .second, .val (.int (own_n p0)), .val (.int (bI (¬ ((p3 &&& (1 : Int32)) = (0 : Int32))))), .val (.int (own_d p0 p1 p3)), .val (.int (own_lg p2 p3)), .val (.long (own_t (own_d p0 p1 p3) (own_lg p2 p3) p3 q4)), .second, .val (.int (bI (((own_d p0 p1 p3) = (own_n p0)) ∧ ((own_e (own_d p0 p1 p3) (own_lg p2 p3) p3 q4) = (0 : Int64))))), .val (.int (own_w (own_n p0) (own_d p0 p1 p3) (own_t (own_d p0 p1 p3) (own_lg p2 p3) p3 q4) (own_lg p2 p3))), .unset, .val (.long (own_maxJ ((own_lg p2 p3).toInt64) ((own_d p0 p1 p3).toInt64))), .second, .val (.long (own_e (own_d p0 p1 p3) (own_lg p2 p3) p3 q4)), .second] [])) _
        refine XS.iconst X18.here hx rfl (hb hby at_173) ?_
        show Steps p.tables e below (T18.setTop (mkF m 174 #[.val (.int p0), .val (.int p1), .val (.int p2), .val (.int p3), .val (.long q4), .second, .val (.int (own_n p0)), .val (.int (bI (¬ ((p3 &&& (1 : Int32)) = (0 : Int32))))), .val (.int (own_d p0 p1 p3)), .val (.int (own_lg p2 p3)), .val (.long (own_t (own_d p0 p1 p3) (own_lg p2 p3) p3 q4)), .second, .val (.int (bI (((own_d p0 p1 p3) = (own_n p0)) ∧ ((own_e (own_d p0 p1 p3) (own_lg p2 p3) p3 q4) = (0 : Int64))))), .val (.int (own_w (own_n p0) (own_d p0 p1 p3) (own_t (own_d p0 p1 p3) (own_lg p2 p3) p3 q4) (own_lg p2 p3))), .unset, .val (.long (own_maxJ ((own_lg p2 p3).toInt64) ((own_d p0 p1 p3).toInt64))), .second, .val (.long (own_e (own_d p0 p1 p3) (own_lg p2 p3) p3 q4)), .second] [(.int (1 : Int32))])) _
        refine XS.goto X18.here hx rfl (pc0 := 174) (pc' := 178) rfl (hb hby at_174) (by decide) (by decide) ?_
        exact kz
      refine OG.step s20 ?_
      exact OG.retZ X18 hx hlk Bd.returns (hb hby at_178) (nar_1) e18 ⟨rfl, N18⟩ (by decide) (by decide)
    · have s21 : ∀ tz, Steps p.tables e below (T18.setTop (mkF m 182 #[.val (.int p0), .val (.int p1), .val (.int p2), .val (.int p3), .val (.long q4), .second, .val (.int (own_n p0)), .val (.int (bI (¬ ((p3 &&& (1 : Int32)) = (0 : Int32))))), .val (.int (own_d p0 p1 p3)), .val (.int (own_lg p2 p3)), .val (.long (own_t (own_d p0 p1 p3) (own_lg p2 p3) p3 q4)), .second, .val (.int (bI (((own_d p0 p1 p3) = (own_n p0)) ∧ ((own_e (own_d p0 p1 p3) (own_lg p2 p3) p3 q4) = (0 : Int64))))), .val (.int (own_w (own_n p0) (own_d p0 p1 p3) (own_t (own_d p0 p1 p3) (own_lg p2 p3) p3 q4) (own_lg p2 p3))), .unset, .val (.long (own_maxJ ((own_lg p2 p3).toInt64) ((own_d p0 p1 p3).toInt64))), .second, .val (.long (own_e (own_d p0 p1 p3) (own_lg p2 p3) p3 q4)), .second] [(.int (1 : Int32)), (.int (own_w (own_n p0) (own_d p0 p1 p3) (own_t (own_d p0 p1 p3) (own_lg p2 p3) p3 q4) (own_lg p2 p3)))])) tz → Steps p.tables e below (T18.setTop (mkF m 165 #[.val (.int p0), .val (.int p1), .val (.int p2), .val (.int p3), .val (.long q4), .second, .val (.int (own_n p0)), .val (.int (bI (¬ ((p3 &&& (1 : Int32)) = (0 : Int32))))), .val (.int (own_d p0 p1 p3)), .val (.int (own_lg p2 p3)), .val (.long (own_t (own_d p0 p1 p3) (own_lg p2 p3) p3 q4)), .second, .val (.int (bI (((own_d p0 p1 p3) = (own_n p0)) ∧ ((own_e (own_d p0 p1 p3) (own_lg p2 p3) p3 q4) = (0 : Int64))))), .val (.int (own_w (own_n p0) (own_d p0 p1 p3) (own_t (own_d p0 p1 p3) (own_lg p2 p3) p3 q4) (own_lg p2 p3))), .unset, .val (.long (own_maxJ ((own_lg p2 p3).toInt64) ((own_d p0 p1 p3).toInt64))), .second, .val (.long (own_e (own_d p0 p1 p3) (own_lg p2 p3) p3 q4)), .second] [(.int (bI (((own_d p0 p1 p3) = (own_n p0)) ∧ ((own_e (own_d p0 p1 p3) (own_lg p2 p3) p3 q4) = (0 : Int64)))))])) tz := by
        intro tz kz
        refine XS.ifYes X18.here hx rfl (pc0 := 165) (pc' := 179) rfl (hb hby at_165) rfl ((if0 _ _).trans (teq (bI_0 hc165)).1) (by decide) (by decide) ?_
        show Steps p.tables e below (T18.setTop (mkF m 179 #[.val (.int p0), .val (.int p1), .val (.int p2), .val (.int p3), .val (.long q4), .second, .val (.int (own_n p0)), .val (.int (bI (¬ ((p3 &&& (1 : Int32)) = (0 : Int32))))), .val (.int (own_d p0 p1 p3)), .val (.int (own_lg p2 p3)), .val (.long (own_t (own_d p0 p1 p3) (own_lg p2 p3) p3 q4)), .second, .val (.int (bI (((own_d p0 p1 p3) = (own_n p0)) ∧ ((own_e (own_d p0 p1 p3) (own_lg p2 p3) p3 q4) = (0 : Int64))))), .val (.int (own_w (own_n p0) (own_d p0 p1 p3) (own_t (own_d p0 p1 p3) (own_lg p2 p3) p3 q4) (own_lg p2 p3))), .unset, .val (.long (own_maxJ ((own_lg p2 p3).toInt64) ((own_d p0 p1 p3).toInt64))), .second, .val (.long (own_e (own_d p0 p1 p3) (own_lg p2 p3) p3 q4)), .second] [])) _
        refine XS.iload X18.here hx rfl (hb hby at_179) rfl ?_
        show Steps p.tables e below (T18.setTop (mkF m 181 #[.val (.int p0), .val (.int p1), .val (.int p2), .val (.int p3), .val (.long q4), .second, .val (.int (own_n p0)), .val (.int (bI (¬ ((p3 &&& (1 : Int32)) = (0 : Int32))))), .val (.int (own_d p0 p1 p3)), .val (.int (own_lg p2 p3)), .val (.long (own_t (own_d p0 p1 p3) (own_lg p2 p3) p3 q4)), .second, .val (.int (bI (((own_d p0 p1 p3) = (own_n p0)) ∧ ((own_e (own_d p0 p1 p3) (own_lg p2 p3) p3 q4) = (0 : Int64))))), .val (.int (own_w (own_n p0) (own_d p0 p1 p3) (own_t (own_d p0 p1 p3) (own_lg p2 p3) p3 q4) (own_lg p2 p3))), .unset, .val (.long (own_maxJ ((own_lg p2 p3).toInt64) ((own_d p0 p1 p3).toInt64))), .second, .val (.long (own_e (own_d p0 p1 p3) (own_lg p2 p3) p3 q4)), .second] [(.int (own_w (own_n p0) (own_d p0 p1 p3) (own_t (own_d p0 p1 p3) (own_lg p2 p3) p3 q4) (own_lg p2 p3)))])) _
        refine XS.iconst X18.here hx rfl (hb hby at_181) ?_
        exact kz
      refine OG.step s21 ?_
      by_cases hc182 : (own_w (own_n p0) (own_d p0 p1 p3) (own_t (own_d p0 p1 p3) (own_lg p2 p3) p3 q4) (own_lg p2 p3)) = (1 : Int32)
      · have s22 : ∀ tz, Steps p.tables e below (T18.setTop (mkF m 199 #[.val (.int p0), .val (.int p1), .val (.int p2), .val (.int p3), .val (.long q4), .second, .val (.int (own_n p0)), .val (.int (bI (¬ ((p3 &&& (1 : Int32)) = (0 : Int32))))), .val (.int (own_d p0 p1 p3)), .val (.int (own_lg p2 p3)), .val (.long (own_t (own_d p0 p1 p3) (own_lg p2 p3) p3 q4)), .second, .val (.int (bI (((own_d p0 p1 p3) = (own_n p0)) ∧ ((own_e (own_d p0 p1 p3) (own_lg p2 p3) p3 q4) = (0 : Int64))))), .val (.int (own_w (own_n p0) (own_d p0 p1 p3) (own_t (own_d p0 p1 p3) (own_lg p2 p3) p3 q4) (own_lg p2 p3))), .unset, .val (.long (own_maxJ ((own_lg p2 p3).toInt64) ((own_d p0 p1 p3).toInt64))), .second, .val (.long (own_e (own_d p0 p1 p3) (own_lg p2 p3) p3 q4)), .second] [])) tz → Steps p.tables e below (T18.setTop (mkF m 182 #[.val (.int p0), .val (.int p1), .val (.int p2), .val (.int p3), .val (.long q4), .second, .val (.int (own_n p0)), .val (.int (bI (¬ ((p3 &&& (1 : Int32)) = (0 : Int32))))), .val (.int (own_d p0 p1 p3)), .val (.int (own_lg p2 p3)), .val (.long (own_t (own_d p0 p1 p3) (own_lg p2 p3) p3 q4)), .second, .val (.int (bI (((own_d p0 p1 p3) = (own_n p0)) ∧ ((own_e (own_d p0 p1 p3) (own_lg p2 p3) p3 q4) = (0 : Int64))))), .val (.int (own_w (own_n p0) (own_d p0 p1 p3) (own_t (own_d p0 p1 p3) (own_lg p2 p3) p3 q4) (own_lg p2 p3))), .unset, .val (.long (own_maxJ ((own_lg p2 p3).toInt64) ((own_d p0 p1 p3).toInt64))), .second, .val (.long (own_e (own_d p0 p1 p3) (own_lg p2 p3) p3 q4)), .second] [(.int (1 : Int32)), (.int (own_w (own_n p0) (own_d p0 p1 p3) (own_t (own_d p0 p1 p3) (own_lg p2 p3) p3 q4) (own_lg p2 p3)))])) tz := by
          intro tz kz
          refine XS.icmpYes X18.here hx rfl (pc0 := 182) (pc' := 199) rfl (hb hby at_182) rfl (teq hc182).1 (by decide) (by decide) ?_
          exact kz
        refine OG.step s22 ?_
        have hwg := own_wg hc182
        rw [hc182]
        have s23 : ∀ tz, Steps p.tables e below (T18.setTop (mkF m 270 #[.val (.int p0), .val (.int p1), .val (.int p2), .val (.int p3), .val (.long q4), .second, .val (.int (own_n p0)), .val (.int (bI (¬ ((p3 &&& (1 : Int32)) = (0 : Int32))))), .val (.int (own_d p0 p1 p3)), .val (.int (own_lg p2 p3)), .val (.long (own_t (own_d p0 p1 p3) (own_lg p2 p3) p3 q4)), .second, .val (.int (bI (((own_d p0 p1 p3) = (own_n p0)) ∧ ((own_e (own_d p0 p1 p3) (own_lg p2 p3) p3 q4) = (0 : Int64))))), .val (.int (1 : Int32)), .val (.int (1 : Int32)), .val (.int (1 : Int32)), .unset, .val (.long (own_e (own_d p0 p1 p3) (own_lg p2 p3) p3 q4)), .second] [(.int (1 : Int32))])) tz → Steps p.tables e below (T18.setTop (mkF m 199 #[.val (.int p0), .val (.int p1), .val (.int p2), .val (.int p3), .val (.long q4), .second, .val (.int (own_n p0)), .val (.int (bI (¬ ((p3 &&& (1 : Int32)) = (0 : Int32))))), .val (.int (own_d p0 p1 p3)), .val (.int (own_lg p2 p3)), .val (.long (own_t (own_d p0 p1 p3) (own_lg p2 p3) p3 q4)), .second, .val (.int (bI (((own_d p0 p1 p3) = (own_n p0)) ∧ ((own_e (own_d p0 p1 p3) (own_lg p2 p3) p3 q4) = (0 : Int64))))), .val (.int (1 : Int32)), .unset, .val (.long (own_maxJ ((own_lg p2 p3).toInt64) ((own_d p0 p1 p3).toInt64))), .second, .val (.long (own_e (own_d p0 p1 p3) (own_lg p2 p3) p3 q4)), .second] [])) tz := by
          intro tz kz
          refine XS.iload X18.here hx rfl (hb hby at_199) rfl ?_
          show Steps p.tables e below (T18.setTop (mkF m 201 #[.val (.int p0), .val (.int p1), .val (.int p2), .val (.int p3), .val (.long q4), .second, .val (.int (own_n p0)), .val (.int (bI (¬ ((p3 &&& (1 : Int32)) = (0 : Int32))))), .val (.int (own_d p0 p1 p3)), .val (.int (own_lg p2 p3)), .val (.long (own_t (own_d p0 p1 p3) (own_lg p2 p3) p3 q4)), .second, .val (.int (bI (((own_d p0 p1 p3) = (own_n p0)) ∧ ((own_e (own_d p0 p1 p3) (own_lg p2 p3) p3 q4) = (0 : Int64))))), .val (.int (1 : Int32)), .unset, .val (.long (own_maxJ ((own_lg p2 p3).toInt64) ((own_d p0 p1 p3).toInt64))), .second, .val (.long (own_e (own_d p0 p1 p3) (own_lg p2 p3) p3 q4)), .second] [(.int (1 : Int32))])) _
          refine XS.iconst X18.here hx rfl (hb hby at_201) ?_
          show Steps p.tables e below (T18.setTop (mkF m 202 #[.val (.int p0), .val (.int p1), .val (.int p2), .val (.int p3), .val (.long q4), .second, .val (.int (own_n p0)), .val (.int (bI (¬ ((p3 &&& (1 : Int32)) = (0 : Int32))))), .val (.int (own_d p0 p1 p3)), .val (.int (own_lg p2 p3)), .val (.long (own_t (own_d p0 p1 p3) (own_lg p2 p3) p3 q4)), .second, .val (.int (bI (((own_d p0 p1 p3) = (own_n p0)) ∧ ((own_e (own_d p0 p1 p3) (own_lg p2 p3) p3 q4) = (0 : Int64))))), .val (.int (1 : Int32)), .unset, .val (.long (own_maxJ ((own_lg p2 p3).toInt64) ((own_d p0 p1 p3).toInt64))), .second, .val (.long (own_e (own_d p0 p1 p3) (own_lg p2 p3) p3 q4)), .second] [(.int (4 : Int32)), (.int (1 : Int32))])) _
          refine XS.icmpNo X18.here hx rfl (hb hby at_202) rfl (feq (by decide)).1 ?_
          show Steps p.tables e below (T18.setTop (mkF m 205 #[.val (.int p0), .val (.int p1), .val (.int p2), .val (.int p3), .val (.long q4), .second, .val (.int (own_n p0)), .val (.int (bI (¬ ((p3 &&& (1 : Int32)) = (0 : Int32))))), .val (.int (own_d p0 p1 p3)), .val (.int (own_lg p2 p3)), .val (.long (own_t (own_d p0 p1 p3) (own_lg p2 p3) p3 q4)), .second, .val (.int (bI (((own_d p0 p1 p3) = (own_n p0)) ∧ ((own_e (own_d p0 p1 p3) (own_lg p2 p3) p3 q4) = (0 : Int64))))), .val (.int (1 : Int32)), .unset, .val (.long (own_maxJ ((own_lg p2 p3).toInt64) ((own_d p0 p1 p3).toInt64))), .second, .val (.long (own_e (own_d p0 p1 p3) (own_lg p2 p3) p3 q4)), .second] [])) _
          refine XS.iload X18.here hx rfl (hb hby at_205) rfl ?_
          show Steps p.tables e below (T18.setTop (mkF m 207 #[.val (.int p0), .val (.int p1), .val (.int p2), .val (.int p3), .val (.long q4), .second, .val (.int (own_n p0)), .val (.int (bI (¬ ((p3 &&& (1 : Int32)) = (0 : Int32))))), .val (.int (own_d p0 p1 p3)), .val (.int (own_lg p2 p3)), .val (.long (own_t (own_d p0 p1 p3) (own_lg p2 p3) p3 q4)), .second, .val (.int (bI (((own_d p0 p1 p3) = (own_n p0)) ∧ ((own_e (own_d p0 p1 p3) (own_lg p2 p3) p3 q4) = (0 : Int64))))), .val (.int (1 : Int32)), .unset, .val (.long (own_maxJ ((own_lg p2 p3).toInt64) ((own_d p0 p1 p3).toInt64))), .second, .val (.long (own_e (own_d p0 p1 p3) (own_lg p2 p3) p3 q4)), .second] [(.int (own_lg p2 p3))])) _
          refine XS.bipush X18.here hx rfl (hb hby at_207) ?_
          show Steps p.tables e below (T18.setTop (mkF m 209 #[.val (.int p0), .val (.int p1), .val (.int p2), .val (.int p3), .val (.long q4), .second, .val (.int (own_n p0)), .val (.int (bI (¬ ((p3 &&& (1 : Int32)) = (0 : Int32))))), .val (.int (own_d p0 p1 p3)), .val (.int (own_lg p2 p3)), .val (.long (own_t (own_d p0 p1 p3) (own_lg p2 p3) p3 q4)), .second, .val (.int (bI (((own_d p0 p1 p3) = (own_n p0)) ∧ ((own_e (own_d p0 p1 p3) (own_lg p2 p3) p3 q4) = (0 : Int64))))), .val (.int (1 : Int32)), .unset, .val (.long (own_maxJ ((own_lg p2 p3).toInt64) ((own_d p0 p1 p3).toInt64))), .second, .val (.long (own_e (own_d p0 p1 p3) (own_lg p2 p3) p3 q4)), .second] [(.int (8 : Int32)), (.int (own_lg p2 p3))])) _
          refine XS.iload X18.here hx rfl (hb hby at_209) rfl ?_
          show Steps p.tables e below (T18.setTop (mkF m 211 #[.val (.int p0), .val (.int p1), .val (.int p2), .val (.int p3), .val (.long q4), .second, .val (.int (own_n p0)), .val (.int (bI (¬ ((p3 &&& (1 : Int32)) = (0 : Int32))))), .val (.int (own_d p0 p1 p3)), .val (.int (own_lg p2 p3)), .val (.long (own_t (own_d p0 p1 p3) (own_lg p2 p3) p3 q4)), .second, .val (.int (bI (((own_d p0 p1 p3) = (own_n p0)) ∧ ((own_e (own_d p0 p1 p3) (own_lg p2 p3) p3 q4) = (0 : Int64))))), .val (.int (1 : Int32)), .unset, .val (.long (own_maxJ ((own_lg p2 p3).toInt64) ((own_d p0 p1 p3).toInt64))), .second, .val (.long (own_e (own_d p0 p1 p3) (own_lg p2 p3) p3 q4)), .second] [(.int (1 : Int32)), (.int (8 : Int32)), (.int (own_lg p2 p3))])) _
          refine XS.imul X18.here hx rfl (hb hby at_211) rfl ?_
          show Steps p.tables e below (T18.setTop (mkF m 212 #[.val (.int p0), .val (.int p1), .val (.int p2), .val (.int p3), .val (.long q4), .second, .val (.int (own_n p0)), .val (.int (bI (¬ ((p3 &&& (1 : Int32)) = (0 : Int32))))), .val (.int (own_d p0 p1 p3)), .val (.int (own_lg p2 p3)), .val (.long (own_t (own_d p0 p1 p3) (own_lg p2 p3) p3 q4)), .second, .val (.int (bI (((own_d p0 p1 p3) = (own_n p0)) ∧ ((own_e (own_d p0 p1 p3) (own_lg p2 p3) p3 q4) = (0 : Int64))))), .val (.int (1 : Int32)), .unset, .val (.long (own_maxJ ((own_lg p2 p3).toInt64) ((own_d p0 p1 p3).toInt64))), .second, .val (.long (own_e (own_d p0 p1 p3) (own_lg p2 p3) p3 q4)), .second] [(.int ((8 : Int32) * (1 : Int32))), (.int (own_lg p2 p3))])) _
          refine XS.iushr X18.here hx rfl (hb hby at_212) rfl ?_
          show Steps p.tables e below (T18.setTop (mkF m 213 #[.val (.int p0), .val (.int p1), .val (.int p2), .val (.int p3), .val (.long q4), .second, .val (.int (own_n p0)), .val (.int (bI (¬ ((p3 &&& (1 : Int32)) = (0 : Int32))))), .val (.int (own_d p0 p1 p3)), .val (.int (own_lg p2 p3)), .val (.long (own_t (own_d p0 p1 p3) (own_lg p2 p3) p3 q4)), .second, .val (.int (bI (((own_d p0 p1 p3) = (own_n p0)) ∧ ((own_e (own_d p0 p1 p3) (own_lg p2 p3) p3 q4) = (0 : Int64))))), .val (.int (1 : Int32)), .unset, .val (.long (own_maxJ ((own_lg p2 p3).toInt64) ((own_d p0 p1 p3).toInt64))), .second, .val (.long (own_e (own_d p0 p1 p3) (own_lg p2 p3) p3 q4)), .second] [(.int (((own_lg p2 p3).toUInt32 >>> (((8 : Int32) * (1 : Int32)) &&& 31).toUInt32).toInt32))])) _
          refine XS.ifNo X18.here hx rfl (hb hby at_213) rfl ((if0 _ _).trans (teq (own_f1 hwg (own_lgb p2 p3))).2) ?_
          show Steps p.tables e below (T18.setTop (mkF m 216 #[.val (.int p0), .val (.int p1), .val (.int p2), .val (.int p3), .val (.long q4), .second, .val (.int (own_n p0)), .val (.int (bI (¬ ((p3 &&& (1 : Int32)) = (0 : Int32))))), .val (.int (own_d p0 p1 p3)), .val (.int (own_lg p2 p3)), .val (.long (own_t (own_d p0 p1 p3) (own_lg p2 p3) p3 q4)), .second, .val (.int (bI (((own_d p0 p1 p3) = (own_n p0)) ∧ ((own_e (own_d p0 p1 p3) (own_lg p2 p3) p3 q4) = (0 : Int64))))), .val (.int (1 : Int32)), .unset, .val (.long (own_maxJ ((own_lg p2 p3).toInt64) ((own_d p0 p1 p3).toInt64))), .second, .val (.long (own_e (own_d p0 p1 p3) (own_lg p2 p3) p3 q4)), .second] [])) _
          refine XS.iconst X18.here hx rfl (hb hby at_216) ?_
          show Steps p.tables e below (T18.setTop (mkF m 217 #[.val (.int p0), .val (.int p1), .val (.int p2), .val (.int p3), .val (.long q4), .second, .val (.int (own_n p0)), .val (.int (bI (¬ ((p3 &&& (1 : Int32)) = (0 : Int32))))), .val (.int (own_d p0 p1 p3)), .val (.int (own_lg p2 p3)), .val (.long (own_t (own_d p0 p1 p3) (own_lg p2 p3) p3 q4)), .second, .val (.int (bI (((own_d p0 p1 p3) = (own_n p0)) ∧ ((own_e (own_d p0 p1 p3) (own_lg p2 p3) p3 q4) = (0 : Int64))))), .val (.int (1 : Int32)), .unset, .val (.long (own_maxJ ((own_lg p2 p3).toInt64) ((own_d p0 p1 p3).toInt64))), .second, .val (.long (own_e (own_d p0 p1 p3) (own_lg p2 p3) p3 q4)), .second] [(.int (1 : Int32))])) _
          refine XS.goto X18.here hx rfl (pc0 := 217) (pc' := 221) rfl (hb hby at_217) (by decide) (by decide) ?_
          show Steps p.tables e below (T18.setTop (mkF m 221 #[.val (.int p0), .val (.int p1), .val (.int p2), .val (.int p3), .val (.long q4), .second, .val (.int (own_n p0)), .val (.int (bI (¬ ((p3 &&& (1 : Int32)) = (0 : Int32))))), .val (.int (own_d p0 p1 p3)), .val (.int (own_lg p2 p3)), .val (.long (own_t (own_d p0 p1 p3) (own_lg p2 p3) p3 q4)), .second, .val (.int (bI (((own_d p0 p1 p3) = (own_n p0)) ∧ ((own_e (own_d p0 p1 p3) (own_lg p2 p3) p3 q4) = (0 : Int64))))), .val (.int (1 : Int32)), .unset, .val (.long (own_maxJ ((own_lg p2 p3).toInt64) ((own_d p0 p1 p3).toInt64))), .second, .val (.long (own_e (own_d p0 p1 p3) (own_lg p2 p3) p3 q4)), .second] [(.int (1 : Int32))])) _
          refine XS.istore X18.here hx rfl (hb hby at_221) rfl (l' := #[.val (.int p0), .val (.int p1), .val (.int p2), .val (.int p3), .val (.long q4), .second, .val (.int (own_n p0)), .val (.int (bI (¬ ((p3 &&& (1 : Int32)) = (0 : Int32))))), .val (.int (own_d p0 p1 p3)), .val (.int (own_lg p2 p3)), .val (.long (own_t (own_d p0 p1 p3) (own_lg p2 p3) p3 q4)), .second, .val (.int (bI (((own_d p0 p1 p3) = (own_n p0)) ∧ ((own_e (own_d p0 p1 p3) (own_lg p2 p3) p3 q4) = (0 : Int64))))), .val (.int (1 : Int32)), .val (.int (1 : Int32)), .val (.long (own_maxJ ((own_lg p2 p3).toInt64) ((own_d p0 p1 p3).toInt64))), .second, .val (.long (own_e (own_d p0 p1 p3) (own_lg p2 p3) p3 q4)), .second]) rfl ?_
          show Steps p.tables e below (T18.setTop (mkF m 223 #[.val (.int p0), .val (.int p1), .val (.int p2), .val (.int p3), .val (.long q4), .second, .val (.int (own_n p0)), .val (.int (bI (¬ ((p3 &&& (1 : Int32)) = (0 : Int32))))), .val (.int (own_d p0 p1 p3)), .val (.int (own_lg p2 p3)), .val (.long (own_t (own_d p0 p1 p3) (own_lg p2 p3) p3 q4)), .second, .val (.int (bI (((own_d p0 p1 p3) = (own_n p0)) ∧ ((own_e (own_d p0 p1 p3) (own_lg p2 p3) p3 q4) = (0 : Int64))))), .val (.int (1 : Int32)), .val (.int (1 : Int32)), .val (.long (own_maxJ ((own_lg p2 p3).toInt64) ((own_d p0 p1 p3).toInt64))), .second, .val (.long (own_e (own_d p0 p1 p3) (own_lg p2 p3) p3 q4)), .second] [])) _
          refine XS.iload X18.here hx rfl (hb hby at_223) rfl ?_
          show Steps p.tables e below (T18.setTop (mkF m 225 #[.val (.int p0), .val (.int p1), .val (.int p2), .val (.int p3), .val (.long q4), .second, .val (.int (own_n p0)), .val (.int (bI (¬ ((p3 &&& (1 : Int32)) = (0 : Int32))))), .val (.int (own_d p0 p1 p3)), .val (.int (own_lg p2 p3)), .val (.long (own_t (own_d p0 p1 p3) (own_lg p2 p3) p3 q4)), .second, .val (.int (bI (((own_d p0 p1 p3) = (own_n p0)) ∧ ((own_e (own_d p0 p1 p3) (own_lg p2 p3) p3 q4) = (0 : Int64))))), .val (.int (1 : Int32)), .val (.int (1 : Int32)), .val (.long (own_maxJ ((own_lg p2 p3).toInt64) ((own_d p0 p1 p3).toInt64))), .second, .val (.long (own_e (own_d p0 p1 p3) (own_lg p2 p3) p3 q4)), .second] [(.int (1 : Int32))])) _
          refine XS.iconst X18.here hx rfl (hb hby at_225) ?_
          show Steps p.tables e below (T18.setTop (mkF m 226 #[.val (.int p0), .val (.int p1), .val (.int p2), .val (.int p3), .val (.long q4), .second, .val (.int (own_n p0)), .val (.int (bI (¬ ((p3 &&& (1 : Int32)) = (0 : Int32))))), .val (.int (own_d p0 p1 p3)), .val (.int (own_lg p2 p3)), .val (.long (own_t (own_d p0 p1 p3) (own_lg p2 p3) p3 q4)), .second, .val (.int (bI (((own_d p0 p1 p3) = (own_n p0)) ∧ ((own_e (own_d p0 p1 p3) (own_lg p2 p3) p3 q4) = (0 : Int64))))), .val (.int (1 : Int32)), .val (.int (1 : Int32)), .val (.long (own_maxJ ((own_lg p2 p3).toInt64) ((own_d p0 p1 p3).toInt64))), .second, .val (.long (own_e (own_d p0 p1 p3) (own_lg p2 p3) p3 q4)), .second] [(.int (1 : Int32)), (.int (1 : Int32))])) _
          refine XS.icmpYes X18.here hx rfl (pc0 := 226) (pc' := 248) rfl (hb hby at_226) rfl (teq (by decide)).1 (by decide) (by decide) ?_
          show Steps p.tables e below (T18.setTop (mkF m 248 #[.val (.int p0), .val (.int p1), .val (.int p2), .val (.int p3), .val (.long q4), .second, .val (.int (own_n p0)), .val (.int (bI (¬ ((p3 &&& (1 : Int32)) = (0 : Int32))))), .val (.int (own_d p0 p1 p3)), .val (.int (own_lg p2 p3)), .val (.long (own_t (own_d p0 p1 p3) (own_lg p2 p3) p3 q4)), .second, .val (.int (bI (((own_d p0 p1 p3) = (own_n p0)) ∧ ((own_e (own_d p0 p1 p3) (own_lg p2 p3) p3 q4) = (0 : Int64))))), .val (.int (1 : Int32)), .val (.int (1 : Int32)), .val (.long (own_maxJ ((own_lg p2 p3).toInt64) ((own_d p0 p1 p3).toInt64))), .second, .val (.long (own_e (own_d p0 p1 p3) (own_lg p2 p3) p3 q4)), .second] [])) _
          refine XS.iconst X18.here hx rfl (hb hby at_248) ?_
          show Steps p.tables e below (T18.setTop (mkF m 249 #[.val (.int p0), .val (.int p1), .val (.int p2), .val (.int p3), .val (.long q4), .second, .val (.int (own_n p0)), .val (.int (bI (¬ ((p3 &&& (1 : Int32)) = (0 : Int32))))), .val (.int (own_d p0 p1 p3)), .val (.int (own_lg p2 p3)), .val (.long (own_t (own_d p0 p1 p3) (own_lg p2 p3) p3 q4)), .second, .val (.int (bI (((own_d p0 p1 p3) = (own_n p0)) ∧ ((own_e (own_d p0 p1 p3) (own_lg p2 p3) p3 q4) = (0 : Int64))))), .val (.int (1 : Int32)), .val (.int (1 : Int32)), .val (.long (own_maxJ ((own_lg p2 p3).toInt64) ((own_d p0 p1 p3).toInt64))), .second, .val (.long (own_e (own_d p0 p1 p3) (own_lg p2 p3) p3 q4)), .second] [(.int (1 : Int32))])) _
          refine XS.goto X18.here hx rfl (pc0 := 249) (pc' := 253) rfl (hb hby at_249) (by decide) (by decide) ?_
          show Steps p.tables e below (T18.setTop (mkF m 253 #[.val (.int p0), .val (.int p1), .val (.int p2), .val (.int p3), .val (.long q4), .second, .val (.int (own_n p0)), .val (.int (bI (¬ ((p3 &&& (1 : Int32)) = (0 : Int32))))), .val (.int (own_d p0 p1 p3)), .val (.int (own_lg p2 p3)), .val (.long (own_t (own_d p0 p1 p3) (own_lg p2 p3) p3 q4)), .second, .val (.int (bI (((own_d p0 p1 p3) = (own_n p0)) ∧ ((own_e (own_d p0 p1 p3) (own_lg p2 p3) p3 q4) = (0 : Int64))))), .val (.int (1 : Int32)), .val (.int (1 : Int32)), .val (.long (own_maxJ ((own_lg p2 p3).toInt64) ((own_d p0 p1 p3).toInt64))), .second, .val (.long (own_e (own_d p0 p1 p3) (own_lg p2 p3) p3 q4)), .second] [(.int (1 : Int32))])) _
          refine XS.istore X18.here hx rfl (hb hby at_253) rfl (l' := #[.val (.int p0), .val (.int p1), .val (.int p2), .val (.int p3), .val (.long q4), .second, .val (.int (own_n p0)), .val (.int (bI (¬ ((p3 &&& (1 : Int32)) = (0 : Int32))))), .val (.int (own_d p0 p1 p3)), .val (.int (own_lg p2 p3)), .val (.long (own_t (own_d p0 p1 p3) (own_lg p2 p3) p3 q4)), .second, .val (.int (bI (((own_d p0 p1 p3) = (own_n p0)) ∧ ((own_e (own_d p0 p1 p3) (own_lg p2 p3) p3 q4) = (0 : Int64))))), .val (.int (1 : Int32)), .val (.int (1 : Int32)), .val (.int (1 : Int32)), .unset, .val (.long (own_e (own_d p0 p1 p3) (own_lg p2 p3) p3 q4)), .second]) rfl ?_
          show Steps p.tables e below (T18.setTop (mkF m 255 #[.val (.int p0), .val (.int p1), .val (.int p2), .val (.int p3), .val (.long q4), .second, .val (.int (own_n p0)), .val (.int (bI (¬ ((p3 &&& (1 : Int32)) = (0 : Int32))))), .val (.int (own_d p0 p1 p3)), .val (.int (own_lg p2 p3)), .val (.long (own_t (own_d p0 p1 p3) (own_lg p2 p3) p3 q4)), .second, .val (.int (bI (((own_d p0 p1 p3) = (own_n p0)) ∧ ((own_e (own_d p0 p1 p3) (own_lg p2 p3) p3 q4) = (0 : Int64))))), .val (.int (1 : Int32)), .val (.int (1 : Int32)), .val (.int (1 : Int32)), .unset, .val (.long (own_e (own_d p0 p1 p3) (own_lg p2 p3) p3 q4)), .second] [])) _
          refine XS.iload X18.here hx rfl (hb hby at_255) rfl ?_
          show Steps p.tables e below (T18.setTop (mkF m 257 #[.val (.int p0), .val (.int p1), .val (.int p2), .val (.int p3), .val (.long q4), .second, .val (.int (own_n p0)), .val (.int (bI (¬ ((p3 &&& (1 : Int32)) = (0 : Int32))))), .val (.int (own_d p0 p1 p3)), .val (.int (own_lg p2 p3)), .val (.long (own_t (own_d p0 p1 p3) (own_lg p2 p3) p3 q4)), .second, .val (.int (bI (((own_d p0 p1 p3) = (own_n p0)) ∧ ((own_e (own_d p0 p1 p3) (own_lg p2 p3) p3 q4) = (0 : Int64))))), .val (.int (1 : Int32)), .val (.int (1 : Int32)), .val (.int (1 : Int32)), .unset, .val (.long (own_e (own_d p0 p1 p3) (own_lg p2 p3) p3 q4)), .second] [(.int (1 : Int32))])) _
          refine XS.ifNo X18.here hx rfl (hb hby at_257) rfl ((if0 _ _).trans (feq (by decide)).1) ?_
          show Steps p.tables e below (T18.setTop (mkF m 260 #[.val (.int p0), .val (.int p1), .val (.int p2), .val (.int p3), .val (.long q4), .second, .val (.int (own_n p0)), .val (.int (bI (¬ ((p3 &&& (1 : Int32)) = (0 : Int32))))), .val (.int (own_d p0 p1 p3)), .val (.int (own_lg p2 p3)), .val (.long (own_t (own_d p0 p1 p3) (own_lg p2 p3) p3 q4)), .second, .val (.int (bI (((own_d p0 p1 p3) = (own_n p0)) ∧ ((own_e (own_d p0 p1 p3) (own_lg p2 p3) p3 q4) = (0 : Int64))))), .val (.int (1 : Int32)), .val (.int (1 : Int32)), .val (.int (1 : Int32)), .unset, .val (.long (own_e (own_d p0 p1 p3) (own_lg p2 p3) p3 q4)), .second] [])) _
          refine XS.iload X18.here hx rfl (hb hby at_260) rfl ?_
          show Steps p.tables e below (T18.setTop (mkF m 262 #[.val (.int p0), .val (.int p1), .val (.int p2), .val (.int p3), .val (.long q4), .second, .val (.int (own_n p0)), .val (.int (bI (¬ ((p3 &&& (1 : Int32)) = (0 : Int32))))), .val (.int (own_d p0 p1 p3)), .val (.int (own_lg p2 p3)), .val (.long (own_t (own_d p0 p1 p3) (own_lg p2 p3) p3 q4)), .second, .val (.int (bI (((own_d p0 p1 p3) = (own_n p0)) ∧ ((own_e (own_d p0 p1 p3) (own_lg p2 p3) p3 q4) = (0 : Int64))))), .val (.int (1 : Int32)), .val (.int (1 : Int32)), .val (.int (1 : Int32)), .unset, .val (.long (own_e (own_d p0 p1 p3) (own_lg p2 p3) p3 q4)), .second] [(.int (1 : Int32))])) _
          refine XS.ifNo X18.here hx rfl (hb hby at_262) rfl ((if0 _ _).trans (feq (by decide)).1) ?_
          show Steps p.tables e below (T18.setTop (mkF m 265 #[.val (.int p0), .val (.int p1), .val (.int p2), .val (.int p3), .val (.long q4), .second, .val (.int (own_n p0)), .val (.int (bI (¬ ((p3 &&& (1 : Int32)) = (0 : Int32))))), .val (.int (own_d p0 p1 p3)), .val (.int (own_lg p2 p3)), .val (.long (own_t (own_d p0 p1 p3) (own_lg p2 p3) p3 q4)), .second, .val (.int (bI (((own_d p0 p1 p3) = (own_n p0)) ∧ ((own_e (own_d p0 p1 p3) (own_lg p2 p3) p3 q4) = (0 : Int64))))), .val (.int (1 : Int32)), .val (.int (1 : Int32)), .val (.int (1 : Int32)), .unset, .val (.long (own_e (own_d p0 p1 p3) (own_lg p2 p3) p3 q4)), .second] [])) _
          refine XS.iconst X18.here hx rfl (hb hby at_265) ?_
          show Steps p.tables e below (T18.setTop (mkF m 266 #[.val (.int p0), .val (.int p1), .val (.int p2), .val (.int p3), .val (.long q4), .second, .val (.int (own_n p0)), .val (.int (bI (¬ ((p3 &&& (1 : Int32)) = (0 : Int32))))), .val (.int (own_d p0 p1 p3)), .val (.int (own_lg p2 p3)), .val (.long (own_t (own_d p0 p1 p3) (own_lg p2 p3) p3 q4)), .second, .val (.int (bI (((own_d p0 p1 p3) = (own_n p0)) ∧ ((own_e (own_d p0 p1 p3) (own_lg p2 p3) p3 q4) = (0 : Int64))))), .val (.int (1 : Int32)), .val (.int (1 : Int32)), .val (.int (1 : Int32)), .unset, .val (.long (own_e (own_d p0 p1 p3) (own_lg p2 p3) p3 q4)), .second] [(.int (1 : Int32))])) _
          refine XS.goto X18.here hx rfl (pc0 := 266) (pc' := 270) rfl (hb hby at_266) (by decide) (by decide) ?_
          exact kz
        refine OG.step s23 ?_
        exact OG.retZ X18 hx hlk Bd.returns (hb hby at_270) (nar_1) e18 ⟨rfl, N18⟩ (by decide) (by decide)
      · have s24 : ∀ tz, Steps p.tables e below (T18.setTop (mkF m 188 #[.val (.int p0), .val (.int p1), .val (.int p2), .val (.int p3), .val (.long q4), .second, .val (.int (own_n p0)), .val (.int (bI (¬ ((p3 &&& (1 : Int32)) = (0 : Int32))))), .val (.int (own_d p0 p1 p3)), .val (.int (own_lg p2 p3)), .val (.long (own_t (own_d p0 p1 p3) (own_lg p2 p3) p3 q4)), .second, .val (.int (bI (((own_d p0 p1 p3) = (own_n p0)) ∧ ((own_e (own_d p0 p1 p3) (own_lg p2 p3) p3 q4) = (0 : Int64))))), .val (.int (own_w (own_n p0) (own_d p0 p1 p3) (own_t (own_d p0 p1 p3) (own_lg p2 p3) p3 q4) (own_lg p2 p3))), .unset, .val (.long (own_maxJ ((own_lg p2 p3).toInt64) ((own_d p0 p1 p3).toInt64))), .second, .val (.long (own_e (own_d p0 p1 p3) (own_lg p2 p3) p3 q4)), .second] [(.int (2 : Int32)), (.int (own_w (own_n p0) (own_d p0 p1 p3) (own_t (own_d p0 p1 p3) (own_lg p2 p3) p3 q4) (own_lg p2 p3)))])) tz → Steps p.tables e below (T18.setTop (mkF m 182 #[.val (.int p0), .val (.int p1), .val (.int p2), .val (.int p3), .val (.long q4), .second, .val (.int (own_n p0)), .val (.int (bI (¬ ((p3 &&& (1 : Int32)) = (0 : Int32))))), .val (.int (own_d p0 p1 p3)), .val (.int (own_lg p2 p3)), .val (.long (own_t (own_d p0 p1 p3) (own_lg p2 p3) p3 q4)), .second, .val (.int (bI (((own_d p0 p1 p3) = (own_n p0)) ∧ ((own_e (own_d p0 p1 p3) (own_lg p2 p3) p3 q4) = (0 : Int64))))), .val (.int (own_w (own_n p0) (own_d p0 p1 p3) (own_t (own_d p0 p1 p3) (own_lg p2 p3) p3 q4) (own_lg p2 p3))), .unset, .val (.long (own_maxJ ((own_lg p2 p3).toInt64) ((own_d p0 p1 p3).toInt64))), .second, .val (.long (own_e (own_d p0 p1 p3) (own_lg p2 p3) p3 q4)), .second] [(.int (1 : Int32)), (.int (own_w (own_n p0) (own_d p0 p1 p3) (own_t (own_d p0 p1 p3) (own_lg p2 p3) p3 q4) (own_lg p2 p3)))])) tz := by
          intro tz kz
          refine XS.icmpNo X18.here hx rfl (hb hby at_182) rfl (feq hc182).1 ?_
          show Steps p.tables e below (T18.setTop (mkF m 185 #[.val (.int p0), .val (.int p1), .val (.int p2), .val (.int p3), .val (.long q4), .second, .val (.int (own_n p0)), .val (.int (bI (¬ ((p3 &&& (1 : Int32)) = (0 : Int32))))), .val (.int (own_d p0 p1 p3)), .val (.int (own_lg p2 p3)), .val (.long (own_t (own_d p0 p1 p3) (own_lg p2 p3) p3 q4)), .second, .val (.int (bI (((own_d p0 p1 p3) = (own_n p0)) ∧ ((own_e (own_d p0 p1 p3) (own_lg p2 p3) p3 q4) = (0 : Int64))))), .val (.int (own_w (own_n p0) (own_d p0 p1 p3) (own_t (own_d p0 p1 p3) (own_lg p2 p3) p3 q4) (own_lg p2 p3))), .unset, .val (.long (own_maxJ ((own_lg p2 p3).toInt64) ((own_d p0 p1 p3).toInt64))), .second, .val (.long (own_e (own_d p0 p1 p3) (own_lg p2 p3) p3 q4)), .second] [])) _
          refine XS.iload X18.here hx rfl (hb hby at_185) rfl ?_
          show Steps p.tables e below (T18.setTop (mkF m 187 #[.val (.int p0), .val (.int p1), .val (.int p2), .val (.int p3), .val (.long q4), .second, .val (.int (own_n p0)), .val (.int (bI (¬ ((p3 &&& (1 : Int32)) = (0 : Int32))))), .val (.int (own_d p0 p1 p3)), .val (.int (own_lg p2 p3)), .val (.long (own_t (own_d p0 p1 p3) (own_lg p2 p3) p3 q4)), .second, .val (.int (bI (((own_d p0 p1 p3) = (own_n p0)) ∧ ((own_e (own_d p0 p1 p3) (own_lg p2 p3) p3 q4) = (0 : Int64))))), .val (.int (own_w (own_n p0) (own_d p0 p1 p3) (own_t (own_d p0 p1 p3) (own_lg p2 p3) p3 q4) (own_lg p2 p3))), .unset, .val (.long (own_maxJ ((own_lg p2 p3).toInt64) ((own_d p0 p1 p3).toInt64))), .second, .val (.long (own_e (own_d p0 p1 p3) (own_lg p2 p3) p3 q4)), .second] [(.int (own_w (own_n p0) (own_d p0 p1 p3) (own_t (own_d p0 p1 p3) (own_lg p2 p3) p3 q4) (own_lg p2 p3)))])) _
          refine XS.iconst X18.here hx rfl (hb hby at_187) ?_
          exact kz
        refine OG.step s24 ?_
        by_cases hc188 : (own_w (own_n p0) (own_d p0 p1 p3) (own_t (own_d p0 p1 p3) (own_lg p2 p3) p3 q4) (own_lg p2 p3)) = (2 : Int32)
        · have s25 : ∀ tz, Steps p.tables e below (T18.setTop (mkF m 199 #[.val (.int p0), .val (.int p1), .val (.int p2), .val (.int p3), .val (.long q4), .second, .val (.int (own_n p0)), .val (.int (bI (¬ ((p3 &&& (1 : Int32)) = (0 : Int32))))), .val (.int (own_d p0 p1 p3)), .val (.int (own_lg p2 p3)), .val (.long (own_t (own_d p0 p1 p3) (own_lg p2 p3) p3 q4)), .second, .val (.int (bI (((own_d p0 p1 p3) = (own_n p0)) ∧ ((own_e (own_d p0 p1 p3) (own_lg p2 p3) p3 q4) = (0 : Int64))))), .val (.int (own_w (own_n p0) (own_d p0 p1 p3) (own_t (own_d p0 p1 p3) (own_lg p2 p3) p3 q4) (own_lg p2 p3))), .unset, .val (.long (own_maxJ ((own_lg p2 p3).toInt64) ((own_d p0 p1 p3).toInt64))), .second, .val (.long (own_e (own_d p0 p1 p3) (own_lg p2 p3) p3 q4)), .second] [])) tz → Steps p.tables e below (T18.setTop (mkF m 188 #[.val (.int p0), .val (.int p1), .val (.int p2), .val (.int p3), .val (.long q4), .second, .val (.int (own_n p0)), .val (.int (bI (¬ ((p3 &&& (1 : Int32)) = (0 : Int32))))), .val (.int (own_d p0 p1 p3)), .val (.int (own_lg p2 p3)), .val (.long (own_t (own_d p0 p1 p3) (own_lg p2 p3) p3 q4)), .second, .val (.int (bI (((own_d p0 p1 p3) = (own_n p0)) ∧ ((own_e (own_d p0 p1 p3) (own_lg p2 p3) p3 q4) = (0 : Int64))))), .val (.int (own_w (own_n p0) (own_d p0 p1 p3) (own_t (own_d p0 p1 p3) (own_lg p2 p3) p3 q4) (own_lg p2 p3))), .unset, .val (.long (own_maxJ ((own_lg p2 p3).toInt64) ((own_d p0 p1 p3).toInt64))), .second, .val (.long (own_e (own_d p0 p1 p3) (own_lg p2 p3) p3 q4)), .second] [(.int (2 : Int32)), (.int (own_w (own_n p0) (own_d p0 p1 p3) (own_t (own_d p0 p1 p3) (own_lg p2 p3) p3 q4) (own_lg p2 p3)))])) tz := by
            intro tz kz
            refine XS.icmpYes X18.here hx rfl (pc0 := 188) (pc' := 199) rfl (hb hby at_188) rfl (teq hc188).1 (by decide) (by decide) ?_
            exact kz
          refine OG.step s25 ?_
          have hwg := own_wg hc188
          rw [hc188]
          have s26 : ∀ tz, Steps p.tables e below (T18.setTop (mkF m 270 #[.val (.int p0), .val (.int p1), .val (.int p2), .val (.int p3), .val (.long q4), .second, .val (.int (own_n p0)), .val (.int (bI (¬ ((p3 &&& (1 : Int32)) = (0 : Int32))))), .val (.int (own_d p0 p1 p3)), .val (.int (own_lg p2 p3)), .val (.long (own_t (own_d p0 p1 p3) (own_lg p2 p3) p3 q4)), .second, .val (.int (bI (((own_d p0 p1 p3) = (own_n p0)) ∧ ((own_e (own_d p0 p1 p3) (own_lg p2 p3) p3 q4) = (0 : Int64))))), .val (.int (2 : Int32)), .val (.int (1 : Int32)), .val (.int (1 : Int32)), .unset, .val (.long (own_e (own_d p0 p1 p3) (own_lg p2 p3) p3 q4)), .second] [(.int (1 : Int32))])) tz → Steps p.tables e below (T18.setTop (mkF m 199 #[.val (.int p0), .val (.int p1), .val (.int p2), .val (.int p3), .val (.long q4), .second, .val (.int (own_n p0)), .val (.int (bI (¬ ((p3 &&& (1 : Int32)) = (0 : Int32))))), .val (.int (own_d p0 p1 p3)), .val (.int (own_lg p2 p3)), .val (.long (own_t (own_d p0 p1 p3) (own_lg p2 p3) p3 q4)), .second, .val (.int (bI (((own_d p0 p1 p3) = (own_n p0)) ∧ ((own_e (own_d p0 p1 p3) (own_lg p2 p3) p3 q4) = (0 : Int64))))), .val (.int (2 : Int32)), .unset, .val (.long (own_maxJ ((own_lg p2 p3).toInt64) ((own_d p0 p1 p3).toInt64))), .second, .val (.long (own_e (own_d p0 p1 p3) (own_lg p2 p3) p3 q4)), .second] [])) tz := by
            intro tz kz
            refine XS.iload X18.here hx rfl (hb hby at_199) rfl ?_
            show Steps p.tables e below (T18.setTop (mkF m 201 #[.val (.int p0), .val (.int p1), .val (.int p2), .val (.int p3), .val (.long q4), .second, .val (.int (own_n p0)), .val (.int (bI (¬ ((p3 &&& (1 : Int32)) = (0 : Int32))))), .val (.int (own_d p0 p1 p3)), .val (.int (own_lg p2 p3)), .val (.long (own_t (own_d p0 p1 p3) (own_lg p2 p3) p3 q4)), .second, .val (.int (bI (((own_d p0 p1 p3) = (own_n p0)) ∧ ((own_e (own_d p0 p1 p3) (own_lg p2 p3) p3 q4) = (0 : Int64))))), .val (.int (2 : Int32)), .unset, .val (.long (own_maxJ ((own_lg p2 p3).toInt64) ((own_d p0 p1 p3).toInt64))), .second, .val (.long (own_e (own_d p0 p1 p3) (own_lg p2 p3) p3 q4)), .second] [(.int (2 : Int32))])) _
            refine XS.iconst X18.here hx rfl (hb hby at_201) ?_
            show Steps p.tables e below (T18.setTop (mkF m 202 #[.val (.int p0), .val (.int p1), .val (.int p2), .val (.int p3), .val (.long q4), .second, .val (.int (own_n p0)), .val (.int (bI (¬ ((p3 &&& (1 : Int32)) = (0 : Int32))))), .val (.int (own_d p0 p1 p3)), .val (.int (own_lg p2 p3)), .val (.long (own_t (own_d p0 p1 p3) (own_lg p2 p3) p3 q4)), .second, .val (.int (bI (((own_d p0 p1 p3) = (own_n p0)) ∧ ((own_e (own_d p0 p1 p3) (own_lg p2 p3) p3 q4) = (0 : Int64))))), .val (.int (2 : Int32)), .unset, .val (.long (own_maxJ ((own_lg p2 p3).toInt64) ((own_d p0 p1 p3).toInt64))), .second, .val (.long (own_e (own_d p0 p1 p3) (own_lg p2 p3) p3 q4)), .second] [(.int (4 : Int32)), (.int (2 : Int32))])) _
            refine XS.icmpNo X18.here hx rfl (hb hby at_202) rfl (feq (by decide)).1 ?_
            show Steps p.tables e below (T18.setTop (mkF m 205 #[.val (.int p0), .val (.int p1), .val (.int p2), .val (.int p3), .val (.long q4), .second, .val (.int (own_n p0)), .val (.int (bI (¬ ((p3 &&& (1 : Int32)) = (0 : Int32))))), .val (.int (own_d p0 p1 p3)), .val (.int (own_lg p2 p3)), .val (.long (own_t (own_d p0 p1 p3) (own_lg p2 p3) p3 q4)), .second, .val (.int (bI (((own_d p0 p1 p3) = (own_n p0)) ∧ ((own_e (own_d p0 p1 p3) (own_lg p2 p3) p3 q4) = (0 : Int64))))), .val (.int (2 : Int32)), .unset, .val (.long (own_maxJ ((own_lg p2 p3).toInt64) ((own_d p0 p1 p3).toInt64))), .second, .val (.long (own_e (own_d p0 p1 p3) (own_lg p2 p3) p3 q4)), .second] [])) _
            refine XS.iload X18.here hx rfl (hb hby at_205) rfl ?_
            show Steps p.tables e below (T18.setTop (mkF m 207 #[.val (.int p0), .val (.int p1), .val (.int p2), .val (.int p3), .val (.long q4), .second, .val (.int (own_n p0)), .val (.int (bI (¬ ((p3 &&& (1 : Int32)) = (0 : Int32))))), .val (.int (own_d p0 p1 p3)), .val (.int (own_lg p2 p3)), .val (.long (own_t (own_d p0 p1 p3) (own_lg p2 p3) p3 q4)), .second, .val (.int (bI (((own_d p0 p1 p3) = (own_n p0)) ∧ ((own_e (own_d p0 p1 p3) (own_lg p2 p3) p3 q4) = (0 : Int64))))), .val (.int (2 : Int32)), .unset, .val (.long (own_maxJ ((own_lg p2 p3).toInt64) ((own_d p0 p1 p3).toInt64))), .second, .val (.long (own_e (own_d p0 p1 p3) (own_lg p2 p3) p3 q4)), .second] [(.int (own_lg p2 p3))])) _
            refine XS.bipush X18.here hx rfl (hb hby at_207) ?_
            show Steps p.tables e below (T18.setTop (mkF m 209 #[.val (.int p0), .val (.int p1), .val (.int p2), .val (.int p3), .val (.long q4), .second, .val (.int (own_n p0)), .val (.int (bI (¬ ((p3 &&& (1 : Int32)) = (0 : Int32))))), .val (.int (own_d p0 p1 p3)), .val (.int (own_lg p2 p3)), .val (.long (own_t (own_d p0 p1 p3) (own_lg p2 p3) p3 q4)), .second, .val (.int (bI (((own_d p0 p1 p3) = (own_n p0)) ∧ ((own_e (own_d p0 p1 p3) (own_lg p2 p3) p3 q4) = (0 : Int64))))), .val (.int (2 : Int32)), .unset, .val (.long (own_maxJ ((own_lg p2 p3).toInt64) ((own_d p0 p1 p3).toInt64))), .second, .val (.long (own_e (own_d p0 p1 p3) (own_lg p2 p3) p3 q4)), .second] [(.int (8 : Int32)), (.int (own_lg p2 p3))])) _
            refine XS.iload X18.here hx rfl (hb hby at_209) rfl ?_
            show Steps p.tables e below (T18.setTop (mkF m 211 #[.val (.int p0), .val (.int p1), .val (.int p2), .val (.int p3), .val (.long q4), .second, .val (.int (own_n p0)), .val (.int (bI (¬ ((p3 &&& (1 : Int32)) = (0 : Int32))))), .val (.int (own_d p0 p1 p3)), .val (.int (own_lg p2 p3)), .val (.long (own_t (own_d p0 p1 p3) (own_lg p2 p3) p3 q4)), .second, .val (.int (bI (((own_d p0 p1 p3) = (own_n p0)) ∧ ((own_e (own_d p0 p1 p3) (own_lg p2 p3) p3 q4) = (0 : Int64))))), .val (.int (2 : Int32)), .unset, .val (.long (own_maxJ ((own_lg p2 p3).toInt64) ((own_d p0 p1 p3).toInt64))), .second, .val (.long (own_e (own_d p0 p1 p3) (own_lg p2 p3) p3 q4)), .second] [(.int (2 : Int32)), (.int (8 : Int32)), (.int (own_lg p2 p3))])) _
            refine XS.imul X18.here hx rfl (hb hby at_211) rfl ?_
            show Steps p.tables e below (T18.setTop (mkF m 212 #[.val (.int p0), .val (.int p1), .val (.int p2), .val (.int p3), .val (.long q4), .second, .val (.int (own_n p0)), .val (.int (bI (¬ ((p3 &&& (1 : Int32)) = (0 : Int32))))), .val (.int (own_d p0 p1 p3)), .val (.int (own_lg p2 p3)), .val (.long (own_t (own_d p0 p1 p3) (own_lg p2 p3) p3 q4)), .second, .val (.int (bI (((own_d p0 p1 p3) = (own_n p0)) ∧ ((own_e (own_d p0 p1 p3) (own_lg p2 p3) p3 q4) = (0 : Int64))))), .val (.int (2 : Int32)), .unset, .val (.long (own_maxJ ((own_lg p2 p3).toInt64) ((own_d p0 p1 p3).toInt64))), .second, .val (.long (own_e (own_d p0 p1 p3) (own_lg p2 p3) p3 q4)), .second] [(.int ((8 : Int32) * (2 : Int32))), (.int (own_lg p2 p3))])) _
            refine XS.iushr X18.here hx rfl (hb hby at_212) rfl ?_
            show Steps p.tables e below (T18.setTop (mkF m 213 #[.val (.int p0), .val (.int p1), .val (.int p2), .val (.int p3), .val (.long q4), .second, .val (.int (own_n p0)), .val (.int (bI (¬ ((p3 &&& (1 : Int32)) = (0 : Int32))))), .val (.int (own_d p0 p1 p3)), .val (.int (own_lg p2 p3)), .val (.long (own_t (own_d p0 p1 p3) (own_lg p2 p3) p3 q4)), .second, .val (.int (bI (((own_d p0 p1 p3) = (own_n p0)) ∧ ((own_e (own_d p0 p1 p3) (own_lg p2 p3) p3 q4) = (0 : Int64))))), .val (.int (2 : Int32)), .unset, .val (.long (own_maxJ ((own_lg p2 p3).toInt64) ((own_d p0 p1 p3).toInt64))), .second, .val (.long (own_e (own_d p0 p1 p3) (own_lg p2 p3) p3 q4)), .second] [(.int (((own_lg p2 p3).toUInt32 >>> (((8 : Int32) * (2 : Int32)) &&& 31).toUInt32).toInt32))])) _
            refine XS.ifNo X18.here hx rfl (hb hby at_213) rfl ((if0 _ _).trans (teq (own_f2 hwg (own_lgb p2 p3))).2) ?_
            show Steps p.tables e below (T18.setTop (mkF m 216 #[.val (.int p0), .val (.int p1), .val (.int p2), .val (.int p3), .val (.long q4), .second, .val (.int (own_n p0)), .val (.int (bI (¬ ((p3 &&& (1 : Int32)) = (0 : Int32))))), .val (.int (own_d p0 p1 p3)), .val (.int (own_lg p2 p3)), .val (.long (own_t (own_d p0 p1 p3) (own_lg p2 p3) p3 q4)), .second, .val (.int (bI (((own_d p0 p1 p3) = (own_n p0)) ∧ ((own_e (own_d p0 p1 p3) (own_lg p2 p3) p3 q4) = (0 : Int64))))), .val (.int (2 : Int32)), .unset, .val (.long (own_maxJ ((own_lg p2 p3).toInt64) ((own_d p0 p1 p3).toInt64))), .second, .val (.long (own_e (own_d p0 p1 p3) (own_lg p2 p3) p3 q4)), .second] [])) _
            refine XS.iconst X18.here hx rfl (hb hby at_216) ?_
            show Steps p.tables e below (T18.setTop (mkF m 217 #[.val (.int p0), .val (.int p1), .val (.int p2), .val (.int p3), .val (.long q4), .second, .val (.int (own_n p0)), .val (.int (bI (¬ ((p3 &&& (1 : Int32)) = (0 : Int32))))), .val (.int (own_d p0 p1 p3)), .val (.int (own_lg p2 p3)), .val (.long (own_t (own_d p0 p1 p3) (own_lg p2 p3) p3 q4)), .second, .val (.int (bI (((own_d p0 p1 p3) = (own_n p0)) ∧ ((own_e (own_d p0 p1 p3) (own_lg p2 p3) p3 q4) = (0 : Int64))))), .val (.int (2 : Int32)), .unset, .val (.long (own_maxJ ((own_lg p2 p3).toInt64) ((own_d p0 p1 p3).toInt64))), .second, .val (.long (own_e (own_d p0 p1 p3) (own_lg p2 p3) p3 q4)), .second] [(.int (1 : Int32))])) _
            refine XS.goto X18.here hx rfl (pc0 := 217) (pc' := 221) rfl (hb hby at_217) (by decide) (by decide) ?_
            show Steps p.tables e below (T18.setTop (mkF m 221 #[.val (.int p0), .val (.int p1), .val (.int p2), .val (.int p3), .val (.long q4), .second, .val (.int (own_n p0)), .val (.int (bI (¬ ((p3 &&& (1 : Int32)) = (0 : Int32))))), .val (.int (own_d p0 p1 p3)), .val (.int (own_lg p2 p3)), .val (.long (own_t (own_d p0 p1 p3) (own_lg p2 p3) p3 q4)), .second, .val (.int (bI (((own_d p0 p1 p3) = (own_n p0)) ∧ ((own_e (own_d p0 p1 p3) (own_lg p2 p3) p3 q4) = (0 : Int64))))), .val (.int (2 : Int32)), .unset, .val (.long (own_maxJ ((own_lg p2 p3).toInt64) ((own_d p0 p1 p3).toInt64))), .second, .val (.long (own_e (own_d p0 p1 p3) (own_lg p2 p3) p3 q4)), .second] [(.int (1 : Int32))])) _
            refine XS.istore X18.here hx rfl (hb hby at_221) rfl (l' := #[.val (.int p0), .val (.int p1), .val (.int p2), .val (.int p3), .val (.long q4), .second, .val (.int (own_n p0)), .val (.int (bI (¬ ((p3 &&& (1 : Int32)) = (0 : Int32))))), .val (.int (own_d p0 p1 p3)), .val (.int (own_lg p2 p3)), .val (.long (own_t (own_d p0 p1 p3) (own_lg p2 p3) p3 q4)), .second, .val (.int (bI (((own_d p0 p1 p3) = (own_n p0)) ∧ ((own_e (own_d p0 p1 p3) (own_lg p2 p3) p3 q4) = (0 : Int64))))), .val (.int (2 : Int32)), .val (.int (1 : Int32)), .val (.long (own_maxJ ((own_lg p2 p3).toInt64) ((own_d p0 p1 p3).toInt64))), .second, .val (.long (own_e (own_d p0 p1 p3) (own_lg p2 p3) p3 q4)), .second]) rfl ?_
            show Steps p.tables e below (T18.setTop (mkF m 223 #[.val (.int p0), .val (.int p1), .val (.int p2), .val (.int p3), .val (.long q4), .second, .val (.int (own_n p0)), .val (.int (bI (¬ ((p3 &&& (1 : Int32)) = (0 : Int32))))), .val (.int (own_d p0 p1 p3)), .val (.int (own_lg p2 p3)), .val (.long (own_t (own_d p0 p1 p3) (own_lg p2 p3) p3 q4)), .second, .val (.int (bI (((own_d p0 p1 p3) = (own_n p0)) ∧ ((own_e (own_d p0 p1 p3) (own_lg p2 p3) p3 q4) = (0 : Int64))))), .val (.int (2 : Int32)), .val (.int (1 : Int32)), .val (.long (own_maxJ ((own_lg p2 p3).toInt64) ((own_d p0 p1 p3).toInt64))), .second, .val (.long (own_e (own_d p0 p1 p3) (own_lg p2 p3) p3 q4)), .second] [])) _
            refine XS.iload X18.here hx rfl (hb hby at_223) rfl ?_
            show Steps p.tables e below (T18.setTop (mkF m 225 #[.val (.int p0), .val (.int p1), .val (.int p2), .val (.int p3), .val (.long q4), .second, .val (.int (own_n p0)), .val (.int (bI (¬ ((p3 &&& (1 : Int32)) = (0 : Int32))))), .val (.int (own_d p0 p1 p3)), .val (.int (own_lg p2 p3)), .val (.long (own_t (own_d p0 p1 p3) (own_lg p2 p3) p3 q4)), .second, .val (.int (bI (((own_d p0 p1 p3) = (own_n p0)) ∧ ((own_e (own_d p0 p1 p3) (own_lg p2 p3) p3 q4) = (0 : Int64))))), .val (.int (2 : Int32)), .val (.int (1 : Int32)), .val (.long (own_maxJ ((own_lg p2 p3).toInt64) ((own_d p0 p1 p3).toInt64))), .second, .val (.long (own_e (own_d p0 p1 p3) (own_lg p2 p3) p3 q4)), .second] [(.int (2 : Int32))])) _
            refine XS.iconst X18.here hx rfl (hb hby at_225) ?_
            show Steps p.tables e below (T18.setTop (mkF m 226 #[.val (.int p0), .val (.int p1), .val (.int p2), .val (.int p3), .val (.long q4), .second, .val (.int (own_n p0)), .val (.int (bI (¬ ((p3 &&& (1 : Int32)) = (0 : Int32))))), .val (.int (own_d p0 p1 p3)), .val (.int (own_lg p2 p3)), .val (.long (own_t (own_d p0 p1 p3) (own_lg p2 p3) p3 q4)), .second, .val (.int (bI (((own_d p0 p1 p3) = (own_n p0)) ∧ ((own_e (own_d p0 p1 p3) (own_lg p2 p3) p3 q4) = (0 : Int64))))), .val (.int (2 : Int32)), .val (.int (1 : Int32)), .val (.long (own_maxJ ((own_lg p2 p3).toInt64) ((own_d p0 p1 p3).toInt64))), .second, .val (.long (own_e (own_d p0 p1 p3) (own_lg p2 p3) p3 q4)), .second] [(.int (1 : Int32)), (.int (2 : Int32))])) _
            refine XS.icmpNo X18.here hx rfl (hb hby at_226) rfl (feq (by decide)).1 ?_
            show Steps p.tables e below (T18.setTop (mkF m 229 #[.val (.int p0), .val (.int p1), .val (.int p2), .val (.int p3), .val (.long q4), .second, .val (.int (own_n p0)), .val (.int (bI (¬ ((p3 &&& (1 : Int32)) = (0 : Int32))))), .val (.int (own_d p0 p1 p3)), .val (.int (own_lg p2 p3)), .val (.long (own_t (own_d p0 p1 p3) (own_lg p2 p3) p3 q4)), .second, .val (.int (bI (((own_d p0 p1 p3) = (own_n p0)) ∧ ((own_e (own_d p0 p1 p3) (own_lg p2 p3) p3 q4) = (0 : Int64))))), .val (.int (2 : Int32)), .val (.int (1 : Int32)), .val (.long (own_maxJ ((own_lg p2 p3).toInt64) ((own_d p0 p1 p3).toInt64))), .second, .val (.long (own_e (own_d p0 p1 p3) (own_lg p2 p3) p3 q4)), .second] [])) _
            refine XS.iload X18.here hx rfl (hb hby at_229) rfl ?_
            show Steps p.tables e below (T18.setTop (mkF m 231 #[.val (.int p0), .val (.int p1), .val (.int p2), .val (.int p3), .val (.long q4), .second, .val (.int (own_n p0)), .val (.int (bI (¬ ((p3 &&& (1 : Int32)) = (0 : Int32))))), .val (.int (own_d p0 p1 p3)), .val (.int (own_lg p2 p3)), .val (.long (own_t (own_d p0 p1 p3) (own_lg p2 p3) p3 q4)), .second, .val (.int (bI (((own_d p0 p1 p3) = (own_n p0)) ∧ ((own_e (own_d p0 p1 p3) (own_lg p2 p3) p3 q4) = (0 : Int64))))), .val (.int (2 : Int32)), .val (.int (1 : Int32)), .val (.long (own_maxJ ((own_lg p2 p3).toInt64) ((own_d p0 p1 p3).toInt64))), .second, .val (.long (own_e (own_d p0 p1 p3) (own_lg p2 p3) p3 q4)), .second] [(.int (own_lg p2 p3))])) _
            refine XS.iload X18.here hx rfl (hb hby at_231) rfl ?_
            show Steps p.tables e below (T18.setTop (mkF m 233 #[.val (.int p0), .val (.int p1), .val (.int p2), .val (.int p3), .val (.long q4), .second, .val (.int (own_n p0)), .val (.int (bI (¬ ((p3 &&& (1 : Int32)) = (0 : Int32))))), .val (.int (own_d p0 p1 p3)), .val (.int (own_lg p2 p3)), .val (.long (own_t (own_d p0 p1 p3) (own_lg p2 p3) p3 q4)), .second, .val (.int (bI (((own_d p0 p1 p3) = (own_n p0)) ∧ ((own_e (own_d p0 p1 p3) (own_lg p2 p3) p3 q4) = (0 : Int64))))), .val (.int (2 : Int32)), .val (.int (1 : Int32)), .val (.long (own_maxJ ((own_lg p2 p3).toInt64) ((own_d p0 p1 p3).toInt64))), .second, .val (.long (own_e (own_d p0 p1 p3) (own_lg p2 p3) p3 q4)), .second] [(.int (2 : Int32)), (.int (own_lg p2 p3))])) _
            refine XS.iconst X18.here hx rfl (hb hby at_233) ?_
            show Steps p.tables e below (T18.setTop (mkF m 234 #[.val (.int p0), .val (.int p1), .val (.int p2), .val (.int p3), .val (.long q4), .second, .val (.int (own_n p0)), .val (.int (bI (¬ ((p3 &&& (1 : Int32)) = (0 : Int32))))), .val (.int (own_d p0 p1 p3)), .val (.int (own_lg p2 p3)), .val (.long (own_t (own_d p0 p1 p3) (own_lg p2 p3) p3 q4)), .second, .val (.int (bI (((own_d p0 p1 p3) = (own_n p0)) ∧ ((own_e (own_d p0 p1 p3) (own_lg p2 p3) p3 q4) = (0 : Int64))))), .val (.int (2 : Int32)), .val (.int (1 : Int32)), .val (.long (own_maxJ ((own_lg p2 p3).toInt64) ((own_d p0 p1 p3).toInt64))), .second, .val (.long (own_e (own_d p0 p1 p3) (own_lg p2 p3) p3 q4)), .second] [(.int (2 : Int32)), (.int (2 : Int32)), (.int (own_lg p2 p3))])) _
            refine XS.icmpNo X18.here hx rfl (hb hby at_234) rfl (teq (by decide)).2 ?_
            show Steps p.tables e below (T18.setTop (mkF m 237 #[.val (.int p0), .val (.int p1), .val (.int p2), .val (.int p3), .val (.long q4), .second, .val (.int (own_n p0)), .val (.int (bI (¬ ((p3 &&& (1 : Int32)) = (0 : Int32))))), .val (.int (own_d p0 p1 p3)), .val (.int (own_lg p2 p3)), .val (.long (own_t (own_d p0 p1 p3) (own_lg p2 p3) p3 q4)), .second, .val (.int (bI (((own_d p0 p1 p3) = (own_n p0)) ∧ ((own_e (own_d p0 p1 p3) (own_lg p2 p3) p3 q4) = (0 : Int64))))), .val (.int (2 : Int32)), .val (.int (1 : Int32)), .val (.long (own_maxJ ((own_lg p2 p3).toInt64) ((own_d p0 p1 p3).toInt64))), .second, .val (.long (own_e (own_d p0 p1 p3) (own_lg p2 p3) p3 q4)), .second] [(.int (own_lg p2 p3))])) _
            refine XS.bipush X18.here hx rfl (hb hby at_237) ?_
            show Steps p.tables e below (T18.setTop (mkF m 239 #[.val (.int p0), .val (.int p1), .val (.int p2), .val (.int p3), .val (.long q4), .second, .val (.int (own_n p0)), .val (.int (bI (¬ ((p3 &&& (1 : Int32)) = (0 : Int32))))), .val (.int (own_d p0 p1 p3)), .val (.int (own_lg p2 p3)), .val (.long (own_t (own_d p0 p1 p3) (own_lg p2 p3) p3 q4)), .second, .val (.int (bI (((own_d p0 p1 p3) = (own_n p0)) ∧ ((own_e (own_d p0 p1 p3) (own_lg p2 p3) p3 q4) = (0 : Int64))))), .val (.int (2 : Int32)), .val (.int (1 : Int32)), .val (.long (own_maxJ ((own_lg p2 p3).toInt64) ((own_d p0 p1 p3).toInt64))), .second, .val (.long (own_e (own_d p0 p1 p3) (own_lg p2 p3) p3 q4)), .second] [(.int (8 : Int32)), (.int (own_lg p2 p3))])) _
            refine XS.goto X18.here hx rfl (pc0 := 239) (pc' := 244) rfl (hb hby at_239) (by decide) (by decide) ?_
            show Steps p.tables e below (T18.setTop (mkF m 244 #[.val (.int p0), .val (.int p1), .val (.int p2), .val (.int p3), .val (.long q4), .second, .val (.int (own_n p0)), .val (.int (bI (¬ ((p3 &&& (1 : Int32)) = (0 : Int32))))), .val (.int (own_d p0 p1 p3)), .val (.int (own_lg p2 p3)), .val (.long (own_t (own_d p0 p1 p3) (own_lg p2 p3) p3 q4)), .second, .val (.int (bI (((own_d p0 p1 p3) = (own_n p0)) ∧ ((own_e (own_d p0 p1 p3) (own_lg p2 p3) p3 q4) = (0 : Int64))))), .val (.int (2 : Int32)), .val (.int (1 : Int32)), .val (.long (own_maxJ ((own_lg p2 p3).toInt64) ((own_d p0 p1 p3).toInt64))), .second, .val (.long (own_e (own_d p0 p1 p3) (own_lg p2 p3) p3 q4)), .second] [(.int (8 : Int32)), (.int (own_lg p2 p3))])) _
            refine XS.iushr X18.here hx rfl (hb hby at_244) rfl ?_
            show Steps p.tables e below (T18.setTop (mkF m 245 #[.val (.int p0), .val (.int p1), .val (.int p2), .val (.int p3), .val (.long q4), .second, .val (.int (own_n p0)), .val (.int (bI (¬ ((p3 &&& (1 : Int32)) = (0 : Int32))))), .val (.int (own_d p0 p1 p3)), .val (.int (own_lg p2 p3)), .val (.long (own_t (own_d p0 p1 p3) (own_lg p2 p3) p3 q4)), .second, .val (.int (bI (((own_d p0 p1 p3) = (own_n p0)) ∧ ((own_e (own_d p0 p1 p3) (own_lg p2 p3) p3 q4) = (0 : Int64))))), .val (.int (2 : Int32)), .val (.int (1 : Int32)), .val (.long (own_maxJ ((own_lg p2 p3).toInt64) ((own_d p0 p1 p3).toInt64))), .second, .val (.long (own_e (own_d p0 p1 p3) (own_lg p2 p3) p3 q4)), .second] [(.int (((own_lg p2 p3).toUInt32 >>> ((8 : Int32) &&& 31).toUInt32).toInt32))])) _
            refine XS.ifNo X18.here hx rfl (hb hby at_245) rfl ((if0 _ _).trans (feq (own_h2 hwg)).1) ?_
            show Steps p.tables e below (T18.setTop (mkF m 248 #[.val (.int p0), .val (.int p1), .val (.int p2), .val (.int p3), .val (.long q4), .second, .val (.int (own_n p0)), .val (.int (bI (¬ ((p3 &&& (1 : Int32)) = (0 : Int32))))), .val (.int (own_d p0 p1 p3)), .val (.int (own_lg p2 p3)), .val (.long (own_t (own_d p0 p1 p3) (own_lg p2 p3) p3 q4)), .second, .val (.int (bI (((own_d p0 p1 p3) = (own_n p0)) ∧ ((own_e (own_d p0 p1 p3) (own_lg p2 p3) p3 q4) = (0 : Int64))))), .val (.int (2 : Int32)), .val (.int (1 : Int32)), .val (.long (own_maxJ ((own_lg p2 p3).toInt64) ((own_d p0 p1 p3).toInt64))), .second, .val (.long (own_e (own_d p0 p1 p3) (own_lg p2 p3) p3 q4)), .second] [])) _
            refine XS.iconst X18.here hx rfl (hb hby at_248) ?_
            show Steps p.tables e below (T18.setTop (mkF m 249 #[.val (.int p0), .val (.int p1), .val (.int p2), .val (.int p3), .val (.long q4), .second, .val (.int (own_n p0)), .val (.int (bI (¬ ((p3 &&& (1 : Int32)) = (0 : Int32))))), .val (.int (own_d p0 p1 p3)), .val (.int (own_lg p2 p3)), .val (.long (own_t (own_d p0 p1 p3) (own_lg p2 p3) p3 q4)), .second, .val (.int (bI (((own_d p0 p1 p3) = (own_n p0)) ∧ ((own_e (own_d p0 p1 p3) (own_lg p2 p3) p3 q4) = (0 : Int64))))), .val (.int (2 : Int32)), .val (.int (1 : Int32)), .val (.long (own_maxJ ((own_lg p2 p3).toInt64) ((own_d p0 p1 p3).toInt64))), .second, .val (.long (own_e (own_d p0 p1 p3) (own_lg p2 p3) p3 q4)), .second] [(.int (1 : Int32))])) _
            refine XS.goto X18.here hx rfl (pc0 := 249) (pc' := 253) rfl (hb hby at_249) (by decide) (by decide) ?_
            show Steps p.tables e below (T18.setTop (mkF m 253 #[.val (.int p0), .val (.int p1), .val (.int p2), .val (.int p3), .val (.long q4), .second, .val (.int (own_n p0)), .val (.int (bI (¬ ((p3 &&& (1 : Int32)) = (0 : Int32))))), .val (.int (own_d p0 p1 p3)), .val (.int (own_lg p2 p3)), .val (.long (own_t (own_d p0 p1 p3) (own_lg p2 p3) p3 q4)), .second, .val (.int (bI (((own_d p0 p1 p3) = (own_n p0)) ∧ ((own_e (own_d p0 p1 p3) (own_lg p2 p3) p3 q4) = (0 : Int64))))), .val (.int (2 : Int32)), .val (.int (1 : Int32)), .val (.long (own_maxJ ((own_lg p2 p3).toInt64) ((own_d p0 p1 p3).toInt64))), .second, .val (.long (own_e (own_d p0 p1 p3) (own_lg p2 p3) p3 q4)), .second] [(.int (1 : Int32))])) _
            refine XS.istore X18.here hx rfl (hb hby at_253) rfl (l' := #[.val (.int p0), .val (.int p1), .val (.int p2), .val (.int p3), .val (.long q4), .second, .val (.int (own_n p0)), .val (.int (bI (¬ ((p3 &&& (1 : Int32)) = (0 : Int32))))), .val (.int (own_d p0 p1 p3)), .val (.int (own_lg p2 p3)), .val (.long (own_t (own_d p0 p1 p3) (own_lg p2 p3) p3 q4)), .second, .val (.int (bI (((own_d p0 p1 p3) = (own_n p0)) ∧ ((own_e (own_d p0 p1 p3) (own_lg p2 p3) p3 q4) = (0 : Int64))))), .val (.int (2 : Int32)), .val (.int (1 : Int32)), .val (.int (1 : Int32)), .unset, .val (.long (own_e (own_d p0 p1 p3) (own_lg p2 p3) p3 q4)), .second]) rfl ?_
            show Steps p.tables e below (T18.setTop (mkF m 255 #[.val (.int p0), .val (.int p1), .val (.int p2), .val (.int p3), .val (.long q4), .second, .val (.int (own_n p0)), .val (.int (bI (¬ ((p3 &&& (1 : Int32)) = (0 : Int32))))), .val (.int (own_d p0 p1 p3)), .val (.int (own_lg p2 p3)), .val (.long (own_t (own_d p0 p1 p3) (own_lg p2 p3) p3 q4)), .second, .val (.int (bI (((own_d p0 p1 p3) = (own_n p0)) ∧ ((own_e (own_d p0 p1 p3) (own_lg p2 p3) p3 q4) = (0 : Int64))))), .val (.int (2 : Int32)), .val (.int (1 : Int32)), .val (.int (1 : Int32)), .unset, .val (.long (own_e (own_d p0 p1 p3) (own_lg p2 p3) p3 q4)), .second] [])) _
            refine XS.iload X18.here hx rfl (hb hby at_255) rfl ?_
            show Steps p.tables e below (T18.setTop (mkF m 257 #[.val (.int p0), .val (.int p1), .val (.int p2), .val (.int p3), .val (.long q4), .second, .val (.int (own_n p0)), .val (.int (bI (¬ ((p3 &&& (1 : Int32)) = (0 : Int32))))), .val (.int (own_d p0 p1 p3)), .val (.int (own_lg p2 p3)), .val (.long (own_t (own_d p0 p1 p3) (own_lg p2 p3) p3 q4)), .second, .val (.int (bI (((own_d p0 p1 p3) = (own_n p0)) ∧ ((own_e (own_d p0 p1 p3) (own_lg p2 p3) p3 q4) = (0 : Int64))))), .val (.int (2 : Int32)), .val (.int (1 : Int32)), .val (.int (1 : Int32)), .unset, .val (.long (own_e (own_d p0 p1 p3) (own_lg p2 p3) p3 q4)), .second] [(.int (1 : Int32))])) _
            refine XS.ifNo X18.here hx rfl (hb hby at_257) rfl ((if0 _ _).trans (feq (by decide)).1) ?_
            show Steps p.tables e below (T18.setTop (mkF m 260 #[.val (.int p0), .val (.int p1), .val (.int p2), .val (.int p3), .val (.long q4), .second, .val (.int (own_n p0)), .val (.int (bI (¬ ((p3 &&& (1 : Int32)) = (0 : Int32))))), .val (.int (own_d p0 p1 p3)), .val (.int (own_lg p2 p3)), .val (.long (own_t (own_d p0 p1 p3) (own_lg p2 p3) p3 q4)), .second, .val (.int (bI (((own_d p0 p1 p3) = (own_n p0)) ∧ ((own_e (own_d p0 p1 p3) (own_lg p2 p3) p3 q4) = (0 : Int64))))), .val (.int (2 : Int32)), .val (.int (1 : Int32)), .val (.int (1 : Int32)), .unset, .val (.long (own_e (own_d p0 p1 p3) (own_lg p2 p3) p3 q4)), .second] [])) _
            refine XS.iload X18.here hx rfl (hb hby at_260) rfl ?_
            show Steps p.tables e below (T18.setTop (mkF m 262 #[.val (.int p0), .val (.int p1), .val (.int p2), .val (.int p3), .val (.long q4), .second, .val (.int (own_n p0)), .val (.int (bI (¬ ((p3 &&& (1 : Int32)) = (0 : Int32))))), .val (.int (own_d p0 p1 p3)), .val (.int (own_lg p2 p3)), .val (.long (own_t (own_d p0 p1 p3) (own_lg p2 p3) p3 q4)), .second, .val (.int (bI (((own_d p0 p1 p3) = (own_n p0)) ∧ ((own_e (own_d p0 p1 p3) (own_lg p2 p3) p3 q4) = (0 : Int64))))), .val (.int (2 : Int32)), .val (.int (1 : Int32)), .val (.int (1 : Int32)), .unset, .val (.long (own_e (own_d p0 p1 p3) (own_lg p2 p3) p3 q4)), .second] [(.int (1 : Int32))])) _
            refine XS.ifNo X18.here hx rfl (hb hby at_262) rfl ((if0 _ _).trans (feq (by decide)).1) ?_
            show Steps p.tables e below (T18.setTop (mkF m 265 #[.val (.int p0), .val (.int p1), .val (.int p2), .val (.int p3), .val (.long q4), .second, .val (.int (own_n p0)), .val (.int (bI (¬ ((p3 &&& (1 : Int32)) = (0 : Int32))))), .val (.int (own_d p0 p1 p3)), .val (.int (own_lg p2 p3)), .val (.long (own_t (own_d p0 p1 p3) (own_lg p2 p3) p3 q4)), .second, .val (.int (bI (((own_d p0 p1 p3) = (own_n p0)) ∧ ((own_e (own_d p0 p1 p3) (own_lg p2 p3) p3 q4) = (0 : Int64))))), .val (.int (2 : Int32)), .val (.int (1 : Int32)), .val (.int (1 : Int32)), .unset, .val (.long (own_e (own_d p0 p1 p3) (own_lg p2 p3) p3 q4)), .second] [])) _
            refine XS.iconst X18.here hx rfl (hb hby at_265) ?_
            show Steps p.tables e below (T18.setTop (mkF m 266 #[.val (.int p0), .val (.int p1), .val (.int p2), .val (.int p3), .val (.long q4), .second, .val (.int (own_n p0)), .val (.int (bI (¬ ((p3 &&& (1 : Int32)) = (0 : Int32))))), .val (.int (own_d p0 p1 p3)), .val (.int (own_lg p2 p3)), .val (.long (own_t (own_d p0 p1 p3) (own_lg p2 p3) p3 q4)), .second, .val (.int (bI (((own_d p0 p1 p3) = (own_n p0)) ∧ ((own_e (own_d p0 p1 p3) (own_lg p2 p3) p3 q4) = (0 : Int64))))), .val (.int (2 : Int32)), .val (.int (1 : Int32)), .val (.int (1 : Int32)), .unset, .val (.long (own_e (own_d p0 p1 p3) (own_lg p2 p3) p3 q4)), .second] [(.int (1 : Int32))])) _
            refine XS.goto X18.here hx rfl (pc0 := 266) (pc' := 270) rfl (hb hby at_266) (by decide) (by decide) ?_
            exact kz
          refine OG.step s26 ?_
          exact OG.retZ X18 hx hlk Bd.returns (hb hby at_270) (nar_1) e18 ⟨rfl, N18⟩ (by decide) (by decide)
        · have s27 : ∀ tz, Steps p.tables e below (T18.setTop (mkF m 199 #[.val (.int p0), .val (.int p1), .val (.int p2), .val (.int p3), .val (.long q4), .second, .val (.int (own_n p0)), .val (.int (bI (¬ ((p3 &&& (1 : Int32)) = (0 : Int32))))), .val (.int (own_d p0 p1 p3)), .val (.int (own_lg p2 p3)), .val (.long (own_t (own_d p0 p1 p3) (own_lg p2 p3) p3 q4)), .second, .val (.int (bI (((own_d p0 p1 p3) = (own_n p0)) ∧ ((own_e (own_d p0 p1 p3) (own_lg p2 p3) p3 q4) = (0 : Int64))))), .val (.int (own_w (own_n p0) (own_d p0 p1 p3) (own_t (own_d p0 p1 p3) (own_lg p2 p3) p3 q4) (own_lg p2 p3))), .unset, .val (.long (own_maxJ ((own_lg p2 p3).toInt64) ((own_d p0 p1 p3).toInt64))), .second, .val (.long (own_e (own_d p0 p1 p3) (own_lg p2 p3) p3 q4)), .second] [])) tz → Steps p.tables e below (T18.setTop (mkF m 188 #[.val (.int p0), .val (.int p1), .val (.int p2), .val (.int p3), .val (.long q4), .second, .val (.int (own_n p0)), .val (.int (bI (¬ ((p3 &&& (1 : Int32)) = (0 : Int32))))), .val (.int (own_d p0 p1 p3)), .val (.int (own_lg p2 p3)), .val (.long (own_t (own_d p0 p1 p3) (own_lg p2 p3) p3 q4)), .second, .val (.int (bI (((own_d p0 p1 p3) = (own_n p0)) ∧ ((own_e (own_d p0 p1 p3) (own_lg p2 p3) p3 q4) = (0 : Int64))))), .val (.int (own_w (own_n p0) (own_d p0 p1 p3) (own_t (own_d p0 p1 p3) (own_lg p2 p3) p3 q4) (own_lg p2 p3))), .unset, .val (.long (own_maxJ ((own_lg p2 p3).toInt64) ((own_d p0 p1 p3).toInt64))), .second, .val (.long (own_e (own_d p0 p1 p3) (own_lg p2 p3) p3 q4)), .second] [(.int (2 : Int32)), (.int (own_w (own_n p0) (own_d p0 p1 p3) (own_t (own_d p0 p1 p3) (own_lg p2 p3) p3 q4) (own_lg p2 p3)))])) tz := by
            intro tz kz
            refine XS.icmpNo X18.here hx rfl (hb hby at_188) rfl (feq hc188).1 ?_
            show Steps p.tables e below (T18.setTop (mkF m 191 #[.val (.int p0), .val (.int p1), .val (.int p2), .val (.int p3), .val (.long q4), .second, .val (.int (own_n p0)), .val (.int (bI (¬ ((p3 &&& (1 : Int32)) = (0 : Int32))))), .val (.int (own_d p0 p1 p3)), .val (.int (own_lg p2 p3)), .val (.long (own_t (own_d p0 p1 p3) (own_lg p2 p3) p3 q4)), .second, .val (.int (bI (((own_d p0 p1 p3) = (own_n p0)) ∧ ((own_e (own_d p0 p1 p3) (own_lg p2 p3) p3 q4) = (0 : Int64))))), .val (.int (own_w (own_n p0) (own_d p0 p1 p3) (own_t (own_d p0 p1 p3) (own_lg p2 p3) p3 q4) (own_lg p2 p3))), .unset, .val (.long (own_maxJ ((own_lg p2 p3).toInt64) ((own_d p0 p1 p3).toInt64))), .second, .val (.long (own_e (own_d p0 p1 p3) (own_lg p2 p3) p3 q4)), .second] [])) _
            refine XS.iload X18.here hx rfl (hb hby at_191) rfl ?_
            show Steps p.tables e below (T18.setTop (mkF m 193 #[.val (.int p0), .val (.int p1), .val (.int p2), .val (.int p3), .val (.long q4), .second, .val (.int (own_n p0)), .val (.int (bI (¬ ((p3 &&& (1 : Int32)) = (0 : Int32))))), .val (.int (own_d p0 p1 p3)), .val (.int (own_lg p2 p3)), .val (.long (own_t (own_d p0 p1 p3) (own_lg p2 p3) p3 q4)), .second, .val (.int (bI (((own_d p0 p1 p3) = (own_n p0)) ∧ ((own_e (own_d p0 p1 p3) (own_lg p2 p3) p3 q4) = (0 : Int64))))), .val (.int (own_w (own_n p0) (own_d p0 p1 p3) (own_t (own_d p0 p1 p3) (own_lg p2 p3) p3 q4) (own_lg p2 p3))), .unset, .val (.long (own_maxJ ((own_lg p2 p3).toInt64) ((own_d p0 p1 p3).toInt64))), .second, .val (.long (own_e (own_d p0 p1 p3) (own_lg p2 p3) p3 q4)), .second] [(.int (own_w (own_n p0) (own_d p0 p1 p3) (own_t (own_d p0 p1 p3) (own_lg p2 p3) p3 q4) (own_lg p2 p3)))])) _
            refine XS.iconst X18.here hx rfl (hb hby at_193) ?_
            show Steps p.tables e below (T18.setTop (mkF m 194 #[.val (.int p0), .val (.int p1), .val (.int p2), .val (.int p3), .val (.long q4), .second, .val (.int (own_n p0)), .val (.int (bI (¬ ((p3 &&& (1 : Int32)) = (0 : Int32))))), .val (.int (own_d p0 p1 p3)), .val (.int (own_lg p2 p3)), .val (.long (own_t (own_d p0 p1 p3) (own_lg p2 p3) p3 q4)), .second, .val (.int (bI (((own_d p0 p1 p3) = (own_n p0)) ∧ ((own_e (own_d p0 p1 p3) (own_lg p2 p3) p3 q4) = (0 : Int64))))), .val (.int (own_w (own_n p0) (own_d p0 p1 p3) (own_t (own_d p0 p1 p3) (own_lg p2 p3) p3 q4) (own_lg p2 p3))), .unset, .val (.long (own_maxJ ((own_lg p2 p3).toInt64) ((own_d p0 p1 p3).toInt64))), .second, .val (.long (own_e (own_d p0 p1 p3) (own_lg p2 p3) p3 q4)), .second] [(.int (4 : Int32)), (.int (own_w (own_n p0) (own_d p0 p1 p3) (own_t (own_d p0 p1 p3) (own_lg p2 p3) p3 q4) (own_lg p2 p3)))])) _
            refine XS.icmpYes X18.here hx rfl (pc0 := 194) (pc' := 199) rfl (hb hby at_194) rfl (teq (own_C4 hc45 hc165 hc182 hc188)).1 (by decide) (by decide) ?_
            exact kz
          refine OG.step s27 ?_
          have hw4 : (own_w (own_n p0) (own_d p0 p1 p3) (own_t (own_d p0 p1 p3) (own_lg p2 p3) p3 q4) (own_lg p2 p3)) = 4 := own_C4 hc45 hc165 hc182 hc188
          have hwg := own_wg hw4
          rw [hw4]
          have s28 : ∀ tz, Steps p.tables e below (T18.setTop (mkF m 270 #[.val (.int p0), .val (.int p1), .val (.int p2), .val (.int p3), .val (.long q4), .second, .val (.int (own_n p0)), .val (.int (bI (¬ ((p3 &&& (1 : Int32)) = (0 : Int32))))), .val (.int (own_d p0 p1 p3)), .val (.int (own_lg p2 p3)), .val (.long (own_t (own_d p0 p1 p3) (own_lg p2 p3) p3 q4)), .second, .val (.int (bI (((own_d p0 p1 p3) = (own_n p0)) ∧ ((own_e (own_d p0 p1 p3) (own_lg p2 p3) p3 q4) = (0 : Int64))))), .val (.int (4 : Int32)), .val (.int (1 : Int32)), .val (.int (1 : Int32)), .unset, .val (.long (own_e (own_d p0 p1 p3) (own_lg p2 p3) p3 q4)), .second] [(.int (1 : Int32))])) tz → Steps p.tables e below (T18.setTop (mkF m 199 #[.val (.int p0), .val (.int p1), .val (.int p2), .val (.int p3), .val (.long q4), .second, .val (.int (own_n p0)), .val (.int (bI (¬ ((p3 &&& (1 : Int32)) = (0 : Int32))))), .val (.int (own_d p0 p1 p3)), .val (.int (own_lg p2 p3)), .val (.long (own_t (own_d p0 p1 p3) (own_lg p2 p3) p3 q4)), .second, .val (.int (bI (((own_d p0 p1 p3) = (own_n p0)) ∧ ((own_e (own_d p0 p1 p3) (own_lg p2 p3) p3 q4) = (0 : Int64))))), .val (.int (4 : Int32)), .unset, .val (.long (own_maxJ ((own_lg p2 p3).toInt64) ((own_d p0 p1 p3).toInt64))), .second, .val (.long (own_e (own_d p0 p1 p3) (own_lg p2 p3) p3 q4)), .second] [])) tz := by
            intro tz kz
            refine XS.iload X18.here hx rfl (hb hby at_199) rfl ?_
            show Steps p.tables e below (T18.setTop (mkF m 201 #[.val (.int p0), .val (.int p1), .val (.int p2), .val (.int p3), .val (.long q4), .second, .val (.int (own_n p0)), .val (.int (bI (¬ ((p3 &&& (1 : Int32)) = (0 : Int32))))), .val (.int (own_d p0 p1 p3)), .val (.int (own_lg p2 p3)), .val (.long (own_t (own_d p0 p1 p3) (own_lg p2 p3) p3 q4)), .second, .val (.int (bI (((own_d p0 p1 p3) = (own_n p0)) ∧ ((own_e (own_d p0 p1 p3) (own_lg p2 p3) p3 q4) = (0 : Int64))))), .val (.int (4 : Int32)), .unset, .val (.long (own_maxJ ((own_lg p2 p3).toInt64) ((own_d p0 p1 p3).toInt64))), .second, .val (.long (own_e (own_d p0 p1 p3) (own_lg p2 p3) p3 q4)), .second] [(.int (4 : Int32))])) _
            refine XS.iconst X18.here hx rfl (hb hby at_201) ?_
            show Steps p.tables e below (T18.setTop (mkF m 202 #[.val (.int p0), .val (.int p1), .val (.int p2), .val (.int p3), .val (.long q4), .second, .val (.int (own_n p0)), .val (.int (bI (¬ ((p3 &&& (1 : Int32)) = (0 : Int32))))), .val (.int (own_d p0 p1 p3)), .val (.int (own_lg p2 p3)), .val (.long (own_t (own_d p0 p1 p3) (own_lg p2 p3) p3 q4)), .second, .val (.int (bI (((own_d p0 p1 p3) = (own_n p0)) ∧ ((own_e (own_d p0 p1 p3) (own_lg p2 p3) p3 q4) = (0 : Int64))))), .val (.int (4 : Int32)), .unset, .val (.long (own_maxJ ((own_lg p2 p3).toInt64) ((own_d p0 p1 p3).toInt64))), .second, .val (.long (own_e (own_d p0 p1 p3) (own_lg p2 p3) p3 q4)), .second] [(.int (4 : Int32)), (.int (4 : Int32))])) _
            refine XS.icmpYes X18.here hx rfl (pc0 := 202) (pc' := 216) rfl (hb hby at_202) rfl (teq (by decide)).1 (by decide) (by decide) ?_
            show Steps p.tables e below (T18.setTop (mkF m 216 #[.val (.int p0), .val (.int p1), .val (.int p2), .val (.int p3), .val (.long q4), .second, .val (.int (own_n p0)), .val (.int (bI (¬ ((p3 &&& (1 : Int32)) = (0 : Int32))))), .val (.int (own_d p0 p1 p3)), .val (.int (own_lg p2 p3)), .val (.long (own_t (own_d p0 p1 p3) (own_lg p2 p3) p3 q4)), .second, .val (.int (bI (((own_d p0 p1 p3) = (own_n p0)) ∧ ((own_e (own_d p0 p1 p3) (own_lg p2 p3) p3 q4) = (0 : Int64))))), .val (.int (4 : Int32)), .unset, .val (.long (own_maxJ ((own_lg p2 p3).toInt64) ((own_d p0 p1 p3).toInt64))), .second, .val (.long (own_e (own_d p0 p1 p3) (own_lg p2 p3) p3 q4)), .second] [])) _
            refine XS.iconst X18.here hx rfl (hb hby at_216) ?_
            show Steps p.tables e below (T18.setTop (mkF m 217 #[.val (.int p0), .val (.int p1), .val (.int p2), .val (.int p3), .val (.long q4), .second, .val (.int (own_n p0)), .val (.int (bI (¬ ((p3 &&& (1 : Int32)) = (0 : Int32))))), .val (.int (own_d p0 p1 p3)), .val (.int (own_lg p2 p3)), .val (.long (own_t (own_d p0 p1 p3) (own_lg p2 p3) p3 q4)), .second, .val (.int (bI (((own_d p0 p1 p3) = (own_n p0)) ∧ ((own_e (own_d p0 p1 p3) (own_lg p2 p3) p3 q4) = (0 : Int64))))), .val (.int (4 : Int32)), .unset, .val (.long (own_maxJ ((own_lg p2 p3).toInt64) ((own_d p0 p1 p3).toInt64))), .second, .val (.long (own_e (own_d p0 p1 p3) (own_lg p2 p3) p3 q4)), .second] [(.int (1 : Int32))])) _
            refine XS.goto X18.here hx rfl (pc0 := 217) (pc' := 221) rfl (hb hby at_217) (by decide) (by decide) ?_
            show Steps p.tables e below (T18.setTop (mkF m 221 #[.val (.int p0), .val (.int p1), .val (.int p2), .val (.int p3), .val (.long q4), .second, .val (.int (own_n p0)), .val (.int (bI (¬ ((p3 &&& (1 : Int32)) = (0 : Int32))))), .val (.int (own_d p0 p1 p3)), .val (.int (own_lg p2 p3)), .val (.long (own_t (own_d p0 p1 p3) (own_lg p2 p3) p3 q4)), .second, .val (.int (bI (((own_d p0 p1 p3) = (own_n p0)) ∧ ((own_e (own_d p0 p1 p3) (own_lg p2 p3) p3 q4) = (0 : Int64))))), .val (.int (4 : Int32)), .unset, .val (.long (own_maxJ ((own_lg p2 p3).toInt64) ((own_d p0 p1 p3).toInt64))), .second, .val (.long (own_e (own_d p0 p1 p3) (own_lg p2 p3) p3 q4)), .second] [(.int (1 : Int32))])) _
            refine XS.istore X18.here hx rfl (hb hby at_221) rfl (l' := #[.val (.int p0), .val (.int p1), .val (.int p2), .val (.int p3), .val (.long q4), .second, .val (.int (own_n p0)), .val (.int (bI (¬ ((p3 &&& (1 : Int32)) = (0 : Int32))))), .val (.int (own_d p0 p1 p3)), .val (.int (own_lg p2 p3)), .val (.long (own_t (own_d p0 p1 p3) (own_lg p2 p3) p3 q4)), .second, .val (.int (bI (((own_d p0 p1 p3) = (own_n p0)) ∧ ((own_e (own_d p0 p1 p3) (own_lg p2 p3) p3 q4) = (0 : Int64))))), .val (.int (4 : Int32)), .val (.int (1 : Int32)), .val (.long (own_maxJ ((own_lg p2 p3).toInt64) ((own_d p0 p1 p3).toInt64))), .second, .val (.long (own_e (own_d p0 p1 p3) (own_lg p2 p3) p3 q4)), .second]) rfl ?_
            show Steps p.tables e below (T18.setTop (mkF m 223 #[.val (.int p0), .val (.int p1), .val (.int p2), .val (.int p3), .val (.long q4), .second, .val (.int (own_n p0)), .val (.int (bI (¬ ((p3 &&& (1 : Int32)) = (0 : Int32))))), .val (.int (own_d p0 p1 p3)), .val (.int (own_lg p2 p3)), .val (.long (own_t (own_d p0 p1 p3) (own_lg p2 p3) p3 q4)), .second, .val (.int (bI (((own_d p0 p1 p3) = (own_n p0)) ∧ ((own_e (own_d p0 p1 p3) (own_lg p2 p3) p3 q4) = (0 : Int64))))), .val (.int (4 : Int32)), .val (.int (1 : Int32)), .val (.long (own_maxJ ((own_lg p2 p3).toInt64) ((own_d p0 p1 p3).toInt64))), .second, .val (.long (own_e (own_d p0 p1 p3) (own_lg p2 p3) p3 q4)), .second] [])) _
            refine XS.iload X18.here hx rfl (hb hby at_223) rfl ?_
            show Steps p.tables e below (T18.setTop (mkF m 225 #[.val (.int p0), .val (.int p1), .val (.int p2), .val (.int p3), .val (.long q4), .second, .val (.int (own_n p0)), .val (.int (bI (¬ ((p3 &&& (1 : Int32)) = (0 : Int32))))), .val (.int (own_d p0 p1 p3)), .val (.int (own_lg p2 p3)), .val (.long (own_t (own_d p0 p1 p3) (own_lg p2 p3) p3 q4)), .second, .val (.int (bI (((own_d p0 p1 p3) = (own_n p0)) ∧ ((own_e (own_d p0 p1 p3) (own_lg p2 p3) p3 q4) = (0 : Int64))))), .val (.int (4 : Int32)), .val (.int (1 : Int32)), .val (.long (own_maxJ ((own_lg p2 p3).toInt64) ((own_d p0 p1 p3).toInt64))), .second, .val (.long (own_e (own_d p0 p1 p3) (own_lg p2 p3) p3 q4)), .second] [(.int (4 : Int32))])) _
            refine XS.iconst X18.here hx rfl (hb hby at_225) ?_
            show Steps p.tables e below (T18.setTop (mkF m 226 #[.val (.int p0), .val (.int p1), .val (.int p2), .val (.int p3), .val (.long q4), .second, .val (.int (own_n p0)), .val (.int (bI (¬ ((p3 &&& (1 : Int32)) = (0 : Int32))))), .val (.int (own_d p0 p1 p3)), .val (.int (own_lg p2 p3)), .val (.long (own_t (own_d p0 p1 p3) (own_lg p2 p3) p3 q4)), .second, .val (.int (bI (((own_d p0 p1 p3) = (own_n p0)) ∧ ((own_e (own_d p0 p1 p3) (own_lg p2 p3) p3 q4) = (0 : Int64))))), .val (.int (4 : Int32)), .val (.int (1 : Int32)), .val (.long (own_maxJ ((own_lg p2 p3).toInt64) ((own_d p0 p1 p3).toInt64))), .second, .val (.long (own_e (own_d p0 p1 p3) (own_lg p2 p3) p3 q4)), .second] [(.int (1 : Int32)), (.int (4 : Int32))])) _
            refine XS.icmpNo X18.here hx rfl (hb hby at_226) rfl (feq (by decide)).1 ?_
            show Steps p.tables e below (T18.setTop (mkF m 229 #[.val (.int p0), .val (.int p1), .val (.int p2), .val (.int p3), .val (.long q4), .second, .val (.int (own_n p0)), .val (.int (bI (¬ ((p3 &&& (1 : Int32)) = (0 : Int32))))), .val (.int (own_d p0 p1 p3)), .val (.int (own_lg p2 p3)), .val (.long (own_t (own_d p0 p1 p3) (own_lg p2 p3) p3 q4)), .second, .val (.int (bI (((own_d p0 p1 p3) = (own_n p0)) ∧ ((own_e (own_d p0 p1 p3) (own_lg p2 p3) p3 q4) = (0 : Int64))))), .val (.int (4 : Int32)), .val (.int (1 : Int32)), .val (.long (own_maxJ ((own_lg p2 p3).toInt64) ((own_d p0 p1 p3).toInt64))), .second, .val (.long (own_e (own_d p0 p1 p3) (own_lg p2 p3) p3 q4)), .second] [])) _
            refine XS.iload X18.here hx rfl (hb hby at_229) rfl ?_
            show Steps p.tables e below (T18.setTop (mkF m 231 #[.val (.int p0), .val (.int p1), .val (.int p2), .val (.int p3), .val (.long q4), .second, .val (.int (own_n p0)), .val (.int (bI (¬ ((p3 &&& (1 : Int32)) = (0 : Int32))))), .val (.int (own_d p0 p1 p3)), .val (.int (own_lg p2 p3)), .val (.long (own_t (own_d p0 p1 p3) (own_lg p2 p3) p3 q4)), .second, .val (.int (bI (((own_d p0 p1 p3) = (own_n p0)) ∧ ((own_e (own_d p0 p1 p3) (own_lg p2 p3) p3 q4) = (0 : Int64))))), .val (.int (4 : Int32)), .val (.int (1 : Int32)), .val (.long (own_maxJ ((own_lg p2 p3).toInt64) ((own_d p0 p1 p3).toInt64))), .second, .val (.long (own_e (own_d p0 p1 p3) (own_lg p2 p3) p3 q4)), .second] [(.int (own_lg p2 p3))])) _
            refine XS.iload X18.here hx rfl (hb hby at_231) rfl ?_
            show Steps p.tables e below (T18.setTop (mkF m 233 #[.val (.int p0), .val (.int p1), .val (.int p2), .val (.int p3), .val (.long q4), .second, .val (.int (own_n p0)), .val (.int (bI (¬ ((p3 &&& (1 : Int32)) = (0 : Int32))))), .val (.int (own_d p0 p1 p3)), .val (.int (own_lg p2 p3)), .val (.long (own_t (own_d p0 p1 p3) (own_lg p2 p3) p3 q4)), .second, .val (.int (bI (((own_d p0 p1 p3) = (own_n p0)) ∧ ((own_e (own_d p0 p1 p3) (own_lg p2 p3) p3 q4) = (0 : Int64))))), .val (.int (4 : Int32)), .val (.int (1 : Int32)), .val (.long (own_maxJ ((own_lg p2 p3).toInt64) ((own_d p0 p1 p3).toInt64))), .second, .val (.long (own_e (own_d p0 p1 p3) (own_lg p2 p3) p3 q4)), .second] [(.int (4 : Int32)), (.int (own_lg p2 p3))])) _
            refine XS.iconst X18.here hx rfl (hb hby at_233) ?_
            show Steps p.tables e below (T18.setTop (mkF m 234 #[.val (.int p0), .val (.int p1), .val (.int p2), .val (.int p3), .val (.long q4), .second, .val (.int (own_n p0)), .val (.int (bI (¬ ((p3 &&& (1 : Int32)) = (0 : Int32))))), .val (.int (own_d p0 p1 p3)), .val (.int (own_lg p2 p3)), .val (.long (own_t (own_d p0 p1 p3) (own_lg p2 p3) p3 q4)), .second, .val (.int (bI (((own_d p0 p1 p3) = (own_n p0)) ∧ ((own_e (own_d p0 p1 p3) (own_lg p2 p3) p3 q4) = (0 : Int64))))), .val (.int (4 : Int32)), .val (.int (1 : Int32)), .val (.long (own_maxJ ((own_lg p2 p3).toInt64) ((own_d p0 p1 p3).toInt64))), .second, .val (.long (own_e (own_d p0 p1 p3) (own_lg p2 p3) p3 q4)), .second] [(.int (2 : Int32)), (.int (4 : Int32)), (.int (own_lg p2 p3))])) _
            refine XS.icmpYes X18.here hx rfl (pc0 := 234) (pc' := 242) rfl (hb hby at_234) rfl (feq (by decide)).2 (by decide) (by decide) ?_
            show Steps p.tables e below (T18.setTop (mkF m 242 #[.val (.int p0), .val (.int p1), .val (.int p2), .val (.int p3), .val (.long q4), .second, .val (.int (own_n p0)), .val (.int (bI (¬ ((p3 &&& (1 : Int32)) = (0 : Int32))))), .val (.int (own_d p0 p1 p3)), .val (.int (own_lg p2 p3)), .val (.long (own_t (own_d p0 p1 p3) (own_lg p2 p3) p3 q4)), .second, .val (.int (bI (((own_d p0 p1 p3) = (own_n p0)) ∧ ((own_e (own_d p0 p1 p3) (own_lg p2 p3) p3 q4) = (0 : Int64))))), .val (.int (4 : Int32)), .val (.int (1 : Int32)), .val (.long (own_maxJ ((own_lg p2 p3).toInt64) ((own_d p0 p1 p3).toInt64))), .second, .val (.long (own_e (own_d p0 p1 p3) (own_lg p2 p3) p3 q4)), .second] [(.int (own_lg p2 p3))])) _
            refine XS.bipush X18.here hx rfl (hb hby at_242) ?_
            show Steps p.tables e below (T18.setTop (mkF m 244 #[.val (.int p0), .val (.int p1), .val (.int p2), .val (.int p3), .val (.long q4), .second, .val (.int (own_n p0)), .val (.int (bI (¬ ((p3 &&& (1 : Int32)) = (0 : Int32))))), .val (.int (own_d p0 p1 p3)), .val (.int (own_lg p2 p3)), .val (.long (own_t (own_d p0 p1 p3) (own_lg p2 p3) p3 q4)), .second, .val (.int (bI (((own_d p0 p1 p3) = (own_n p0)) ∧ ((own_e (own_d p0 p1 p3) (own_lg p2 p3) p3 q4) = (0 : Int64))))), .val (.int (4 : Int32)), .val (.int (1 : Int32)), .val (.long (own_maxJ ((own_lg p2 p3).toInt64) ((own_d p0 p1 p3).toInt64))), .second, .val (.long (own_e (own_d p0 p1 p3) (own_lg p2 p3) p3 q4)), .second] [(.int (16 : Int32)), (.int (own_lg p2 p3))])) _
            refine XS.iushr X18.here hx rfl (hb hby at_244) rfl ?_
            show Steps p.tables e below (T18.setTop (mkF m 245 #[.val (.int p0), .val (.int p1), .val (.int p2), .val (.int p3), .val (.long q4), .second, .val (.int (own_n p0)), .val (.int (bI (¬ ((p3 &&& (1 : Int32)) = (0 : Int32))))), .val (.int (own_d p0 p1 p3)), .val (.int (own_lg p2 p3)), .val (.long (own_t (own_d p0 p1 p3) (own_lg p2 p3) p3 q4)), .second, .val (.int (bI (((own_d p0 p1 p3) = (own_n p0)) ∧ ((own_e (own_d p0 p1 p3) (own_lg p2 p3) p3 q4) = (0 : Int64))))), .val (.int (4 : Int32)), .val (.int (1 : Int32)), .val (.long (own_maxJ ((own_lg p2 p3).toInt64) ((own_d p0 p1 p3).toInt64))), .second, .val (.long (own_e (own_d p0 p1 p3) (own_lg p2 p3) p3 q4)), .second] [(.int (((own_lg p2 p3).toUInt32 >>> ((16 : Int32) &&& 31).toUInt32).toInt32))])) _
            refine XS.ifNo X18.here hx rfl (hb hby at_245) rfl ((if0 _ _).trans (feq (own_h4 hwg)).1) ?_
            show Steps p.tables e below (T18.setTop (mkF m 248 #[.val (.int p0), .val (.int p1), .val (.int p2), .val (.int p3), .val (.long q4), .second, .val (.int (own_n p0)), .val (.int (bI (¬ ((p3 &&& (1 : Int32)) = (0 : Int32))))), .val (.int (own_d p0 p1 p3)), .val (.int (own_lg p2 p3)), .val (.long (own_t (own_d p0 p1 p3) (own_lg p2 p3) p3 q4)), .second, .val (.int (bI (((own_d p0 p1 p3) = (own_n p0)) ∧ ((own_e (own_d p0 p1 p3) (own_lg p2 p3) p3 q4) = (0 : Int64))))), .val (.int (4 : Int32)), .val (.int (1 : Int32)), .val (.long (own_maxJ ((own_lg p2 p3).toInt64) ((own_d p0 p1 p3).toInt64))), .second, .val (.long (own_e (own_d p0 p1 p3) (own_lg p2 p3) p3 q4)), .second] [])) _
            refine XS.iconst X18.here hx rfl (hb hby at_248) ?_
            show Steps p.tables e below (T18.setTop (mkF m 249 #[.val (.int p0), .val (.int p1), .val (.int p2), .val (.int p3), .val (.long q4), .second, .val (.int (own_n p0)), .val (.int (bI (¬ ((p3 &&& (1 : Int32)) = (0 : Int32))))), .val (.int (own_d p0 p1 p3)), .val (.int (own_lg p2 p3)), .val (.long (own_t (own_d p0 p1 p3) (own_lg p2 p3) p3 q4)), .second, .val (.int (bI (((own_d p0 p1 p3) = (own_n p0)) ∧ ((own_e (own_d p0 p1 p3) (own_lg p2 p3) p3 q4) = (0 : Int64))))), .val (.int (4 : Int32)), .val (.int (1 : Int32)), .val (.long (own_maxJ ((own_lg p2 p3).toInt64) ((own_d p0 p1 p3).toInt64))), .second, .val (.long (own_e (own_d p0 p1 p3) (own_lg p2 p3) p3 q4)), .second] [(.int (1 : Int32))])) _
            refine XS.goto X18.here hx rfl (pc0 := 249) (pc' := 253) rfl (hb hby at_249) (by decide) (by decide) ?_
            show Steps p.tables e below (T18.setTop (mkF m 253 #[.val (.int p0), .val (.int p1), .val (.int p2), .val (.int p3), .val (.long q4), .second, .val (.int (own_n p0)), .val (.int (bI (¬ ((p3 &&& (1 : Int32)) = (0 : Int32))))), .val (.int (own_d p0 p1 p3)), .val (.int (own_lg p2 p3)), .val (.long (own_t (own_d p0 p1 p3) (own_lg p2 p3) p3 q4)), .second, .val (.int (bI (((own_d p0 p1 p3) = (own_n p0)) ∧ ((own_e (own_d p0 p1 p3) (own_lg p2 p3) p3 q4) = (0 : Int64))))), .val (.int (4 : Int32)), .val (.int (1 : Int32)), .val (.long (own_maxJ ((own_lg p2 p3).toInt64) ((own_d p0 p1 p3).toInt64))), .second, .val (.long (own_e (own_d p0 p1 p3) (own_lg p2 p3) p3 q4)), .second] [(.int (1 : Int32))])) _
            refine XS.istore X18.here hx rfl (hb hby at_253) rfl (l' := #[.val (.int p0), .val (.int p1), .val (.int p2), .val (.int p3), .val (.long q4), .second, .val (.int (own_n p0)), .val (.int (bI (¬ ((p3 &&& (1 : Int32)) = (0 : Int32))))), .val (.int (own_d p0 p1 p3)), .val (.int (own_lg p2 p3)), .val (.long (own_t (own_d p0 p1 p3) (own_lg p2 p3) p3 q4)), .second, .val (.int (bI (((own_d p0 p1 p3) = (own_n p0)) ∧ ((own_e (own_d p0 p1 p3) (own_lg p2 p3) p3 q4) = (0 : Int64))))), .val (.int (4 : Int32)), .val (.int (1 : Int32)), .val (.int (1 : Int32)), .unset, .val (.long (own_e (own_d p0 p1 p3) (own_lg p2 p3) p3 q4)), .second]) rfl ?_
            show Steps p.tables e below (T18.setTop (mkF m 255 #[.val (.int p0), .val (.int p1), .val (.int p2), .val (.int p3), .val (.long q4), .second, .val (.int (own_n p0)), .val (.int (bI (¬ ((p3 &&& (1 : Int32)) = (0 : Int32))))), .val (.int (own_d p0 p1 p3)), .val (.int (own_lg p2 p3)), .val (.long (own_t (own_d p0 p1 p3) (own_lg p2 p3) p3 q4)), .second, .val (.int (bI (((own_d p0 p1 p3) = (own_n p0)) ∧ ((own_e (own_d p0 p1 p3) (own_lg p2 p3) p3 q4) = (0 : Int64))))), .val (.int (4 : Int32)), .val (.int (1 : Int32)), .val (.int (1 : Int32)), .unset, .val (.long (own_e (own_d p0 p1 p3) (own_lg p2 p3) p3 q4)), .second] [])) _
            refine XS.iload X18.here hx rfl (hb hby at_255) rfl ?_
            show Steps p.tables e below (T18.setTop (mkF m 257 #[.val (.int p0), .val (.int p1), .val (.int p2), .val (.int p3), .val (.long q4), .second, .val (.int (own_n p0)), .val (.int (bI (¬ ((p3 &&& (1 : Int32)) = (0 : Int32))))), .val (.int (own_d p0 p1 p3)), .val (.int (own_lg p2 p3)), .val (.long (own_t (own_d p0 p1 p3) (own_lg p2 p3) p3 q4)), .second, .val (.int (bI (((own_d p0 p1 p3) = (own_n p0)) ∧ ((own_e (own_d p0 p1 p3) (own_lg p2 p3) p3 q4) = (0 : Int64))))), .val (.int (4 : Int32)), .val (.int (1 : Int32)), .val (.int (1 : Int32)), .unset, .val (.long (own_e (own_d p0 p1 p3) (own_lg p2 p3) p3 q4)), .second] [(.int (1 : Int32))])) _
            refine XS.ifNo X18.here hx rfl (hb hby at_257) rfl ((if0 _ _).trans (feq (by decide)).1) ?_
            show Steps p.tables e below (T18.setTop (mkF m 260 #[.val (.int p0), .val (.int p1), .val (.int p2), .val (.int p3), .val (.long q4), .second, .val (.int (own_n p0)), .val (.int (bI (¬ ((p3 &&& (1 : Int32)) = (0 : Int32))))), .val (.int (own_d p0 p1 p3)), .val (.int (own_lg p2 p3)), .val (.long (own_t (own_d p0 p1 p3) (own_lg p2 p3) p3 q4)), .second, .val (.int (bI (((own_d p0 p1 p3) = (own_n p0)) ∧ ((own_e (own_d p0 p1 p3) (own_lg p2 p3) p3 q4) = (0 : Int64))))), .val (.int (4 : Int32)), .val (.int (1 : Int32)), .val (.int (1 : Int32)), .unset, .val (.long (own_e (own_d p0 p1 p3) (own_lg p2 p3) p3 q4)), .second] [])) _
            refine XS.iload X18.here hx rfl (hb hby at_260) rfl ?_
            show Steps p.tables e below (T18.setTop (mkF m 262 #[.val (.int p0), .val (.int p1), .val (.int p2), .val (.int p3), .val (.long q4), .second, .val (.int (own_n p0)), .val (.int (bI (¬ ((p3 &&& (1 : Int32)) = (0 : Int32))))), .val (.int (own_d p0 p1 p3)), .val (.int (own_lg p2 p3)), .val (.long (own_t (own_d p0 p1 p3) (own_lg p2 p3) p3 q4)), .second, .val (.int (bI (((own_d p0 p1 p3) = (own_n p0)) ∧ ((own_e (own_d p0 p1 p3) (own_lg p2 p3) p3 q4) = (0 : Int64))))), .val (.int (4 : Int32)), .val (.int (1 : Int32)), .val (.int (1 : Int32)), .unset, .val (.long (own_e (own_d p0 p1 p3) (own_lg p2 p3) p3 q4)), .second] [(.int (1 : Int32))])) _
            refine XS.ifNo X18.here hx rfl (hb hby at_262) rfl ((if0 _ _).trans (feq (by decide)).1) ?_
            show Steps p.tables e below (T18.setTop (mkF m 265 #[.val (.int p0), .val (.int p1), .val (.int p2), .val (.int p3), .val (.long q4), .second, .val (.int (own_n p0)), .val (.int (bI (¬ ((p3 &&& (1 : Int32)) = (0 : Int32))))), .val (.int (own_d p0 p1 p3)), .val (.int (own_lg p2 p3)), .val (.long (own_t (own_d p0 p1 p3) (own_lg p2 p3) p3 q4)), .second, .val (.int (bI (((own_d p0 p1 p3) = (own_n p0)) ∧ ((own_e (own_d p0 p1 p3) (own_lg p2 p3) p3 q4) = (0 : Int64))))), .val (.int (4 : Int32)), .val (.int (1 : Int32)), .val (.int (1 : Int32)), .unset, .val (.long (own_e (own_d p0 p1 p3) (own_lg p2 p3) p3 q4)), .second] [])) _
            refine XS.iconst X18.here hx rfl (hb hby at_265) ?_
            show Steps p.tables e below (T18.setTop (mkF m 266 #[.val (.int p0), .val (.int p1), .val (.int p2), .val (.int p3), .val (.long q4), .second, .val (.int (own_n p0)), .val (.int (bI (¬ ((p3 &&& (1 : Int32)) = (0 : Int32))))), .val (.int (own_d p0 p1 p3)), .val (.int (own_lg p2 p3)), .val (.long (own_t (own_d p0 p1 p3) (own_lg p2 p3) p3 q4)), .second, .val (.int (bI (((own_d p0 p1 p3) = (own_n p0)) ∧ ((own_e (own_d p0 p1 p3) (own_lg p2 p3) p3 q4) = (0 : Int64))))), .val (.int (4 : Int32)), .val (.int (1 : Int32)), .val (.int (1 : Int32)), .unset, .val (.long (own_e (own_d p0 p1 p3) (own_lg p2 p3) p3 q4)), .second] [(.int (1 : Int32))])) _
            refine XS.goto X18.here hx rfl (pc0 := 266) (pc' := 270) rfl (hb hby at_266) (by decide) (by decide) ?_
            exact kz
          refine OG.step s28 ?_
          exact OG.retZ X18 hx hlk Bd.returns (hb hby at_270) (nar_1) e18 ⟨rfl, N18⟩ (by decide) (by decide)
set_option maxRecDepth 65536 in
set_option maxHeartbeats 40000000 in
theorem comes_1 {Post : Tables → Env → Array Value → State → Outcome → State → Prop} (hpost : ∀ tb e args s v u, (limb_1_1.after args s (.returned v) u = true ∧ limb_1_2.after args s (.returned v) u = true ∧ True) → FrameEnd s (.returned v) u (Jvm.fieldLocs frame_1_writes args s ++ Jvm.arrayLocs frame_1_arrays args s ++ Jvm.staticLocs frame_1_statics s) 0 0 → Post tb e args s (.returned v) u) :
    ArmFor flags0 classFile x code maxLocals ret World_1 tables_1 room_1 Calls_1 rest_1 Pre_1 Post := by
  intro l hfl _ _ p e ha hc hk s m args below hf hA hF happ hP
  obtain ⟨hcalls, hrest, hpre⟩ := hP
  obtain ⟨-, -, -, hnamed, -, -, -, hat⟩ := (Spec.applies_iff hf).mp happ
  obtain ⟨hg, hn⟩ := and_e (Cond.before_iff.mp (show (Jvm.Cond.and given_1 narrow_1).before args s = true from hpre))
  obtain ⟨hcount, hg0⟩ := and_e hg
  obtain ⟨ha0, hg1⟩ := and_e hg0
  obtain ⟨ha1, hg2⟩ := and_e hg1
  obtain ⟨ha2, hg3⟩ := and_e hg2
  obtain ⟨ha3, hg4⟩ := and_e hg3
  obtain ⟨w0, w1, w2, w3, w4, rfl⟩ : ∃ w0 w1 w2 w3 w4 : Value, args = #[w0, w1, w2, w3, w4] := by
    have hs : args.size = 5 := by simpa [Cond.value, given_1] using hcount
    obtain ⟨L⟩ := args
    match L, hs with
    | [w0, w1, w2, w3, w4], _ => exact ⟨w0, w1, w2, w3, w4, rfl⟩
  have hw := fun d (hd : d ∈ tables_1) => atoms_spec (ws := Jvm.Cond.code x code maxLocals ret :: tables_1) hat d (List.mem_cons_of_mem _ hd)
  obtain ⟨i0, ei0⟩ := is_v ha0
  obtain rfl : w0 = (.int i0) := Option.some.inj ei0
  obtain ⟨i1, ei1⟩ := is_v ha1
  obtain rfl : w1 = (.int i1) := Option.some.inj ei1
  obtain ⟨i2, ei2⟩ := is_v ha2
  obtain rfl : w2 = (.int i2) := Option.some.inj ei2
  obtain ⟨i3, ei3⟩ := is_v ha3
  obtain rfl : w3 = (.int i3) := Option.some.inj ei3
  obtain ⟨i4, ei4⟩ := isL_v hg4
  obtain rfl : w4 = (.long i4) := Option.some.inj ei4
  obtain ⟨n, o, h1, h2, h3, _, L, rfl, ⟨rfl, N⟩, hq⟩ := rm0 l s _ hw tables_1 i0 i1 i2 i3 i4 s.heap s.heap.size (Nat.le_refl _) p e ha hc hk s m _ below hf ((Spec.applies_iff_loose hf).mp happ).1 ⟨rfl, State.Warmed39.refl s, rfl⟩ trivial
  refine ⟨n, _, h1, h2, h3, hpost _ _ _ _ _ _ ⟨Cond.after_iff.mpr rfl, Cond.after_iff.mpr (eq_i res_at (Term.int_eval (1)) rfl), trivial⟩ ⟨hq.1, hq.2.1, (hq.2.2.sift fun y hy => Or.inr (N y hy)).mono (by decide) (by decide)⟩⟩
theorem main_1_1 : Claimed_1_1 := comes_1 fun _ _ _ _ _ _ h hF => ⟨h.1, hF⟩
theorem main_1_2 : Claimed_1_2 := comes_1 fun _ _ _ _ _ _ h hF => ⟨h.2.1, hF⟩
end Jvm.Pilot.@@N@@
namespace Jvm.Pilot.@@N@@
open Jvm Jvm.ClassFile Sem Op Lib Jvm.Free Jvm.Stand Jvm.Pilot.@@N@@.Jvm.D
/-! MADE BY PROGRAM (witnessworld.py) out of the Statement's table words and the real class files: 11 classes; the members and pool entries that the words name. The judged class is class 1, her method 1. -/
namespace start1
open Jvm.ClassFile
def u (s : String) : CpInfo := .utf8 (stringToUtf16 s)
/-- a pool by its gaps: so many unusable entries, then the entry; so many at the end -/
def gap : Nat → List CpInfo → List CpInfo
  | 0, r => r
  | n + 1, r => .unusable :: gap n r
def poolList (es : List (Nat × CpInfo)) (last : Nat) : List CpInfo := es.foldr (fun e r => gap e.1 (e.2 :: r)) (gap last [])
def pool (es : List (Nat × CpInfo)) (last : Nat) : Array CpInfo := ⟨poolList es last⟩
def fileOf (pool : Array CpInfo) (this : Nat) (attrs : Array Attribute := #[]) (ms : Array MethodInfo := #[]) (fl : Nat := 33) (sup : Nat := 0) (ifs : Array Nat := #[]) (fds : Array FieldInfo := #[]) : ClassFile where
  minorVersion := 0
  majorVersion := 65
  constantPool := pool
  accessFlags := fl
  thisClass := this
  superClass := sup
  interfaces := ifs
  fields := fds
  methods := ms
  attributes := attrs
def plain (name : String) (sup : Option ClassId) : Class where
  name := name
  kind := .ordinary
  loader := none
  accessFlags := 33
  super := sup
  interfaces := #[]
  cf := none
  fields := #[]
  methods := #[]
  instanceTypes := #[]
  staticTypes := #[]
  resolved := #[]
  callSites := []
  init := .initialized
  statics := none
  mirror := none

def pool0 : Array CpInfo := pool [(5, u "<init>"), (0, u "()V"), (1, .class_ 10), (1, u "java/lang/Object")] 113

def k0m0 : Method := { name := "<init>", desc := "()V", sig := { parameters := [], returnType := none }, accessFlags := 1, code := none }
/-- java/lang/Object -/
def k0 : Class := { plain "java/lang/Object" none with
  accessFlags := 33
  interfaces := #[]
  cf := some (fileOf pool0 8 #[] #[{ accessFlags := 1, nameIndex := 5, descriptorIndex := 6, attributes := #[] }] 33 0 #[] #[])
  fields := #[]
  methods := #[k0m0]
  instanceTypes := #[]
  staticTypes := #[]
  resolved := Array.replicate 124 none
  statics := none }

def pool1 : Array CpInfo := pool [(2, .class_ 4), (1, u "java/lang/Object"), (0, u "<init>"), (0, u "()V"), (0, .integer 2147483647), (0, .methodref 9 10), (0, .class_ 11), (0, .nameAndType 12 13), (0, u "java/lang/Math"), (0, u "max"), (0, u "(II)I"), (0, .methodref 9 15), (0, .nameAndType 12 16), (0, u "(JJ)J"), (2, .long 9223372036854775807), (1, .methodref 22 23), (0, .class_ 24), (0, .nameAndType 25 26), (0, u "com/example/strata/strata/FieldEntry"), (0, u "width"), (0, u "(IIJI)I"), (0, .class_ 28), (0, u "com/example/strata/strata/FieldEntryWidthPinLaw"), (2, u "law"), (0, u "(IIIIJ)Z")] 3

def k1m0 : Method := { name := "<init>", desc := "()V", sig := { parameters := [], returnType := none }, accessFlags := 2, code := none }
def k1c1 : Code := { maxStack := 6, maxLocals := 19, code := code, exceptionTable := #[], attributes := #[] }
def k1m1 : Method := { name := "law", desc := "(IIIIJ)Z", sig := { parameters := [.int, .int, .int, .int, .long], returnType := some .boolean }, accessFlags := 9, code := some k1c1 }
/-- com/example/strata/strata/FieldEntryWidthPinLaw -/
def k1 : Class := { plain "com/example/strata/strata/FieldEntryWidthPinLaw" (some 0) with
  accessFlags := 49
  interfaces := #[]
  cf := some (fileOf pool1 27 #[] #[{ accessFlags := 2, nameIndex := 5, descriptorIndex := 6, attributes := #[] }, { accessFlags := 9, nameIndex := 31, descriptorIndex := 32, attributes := #[] }] 49 2 #[] #[])
  fields := #[]
  methods := #[k1m0, k1m1]
  instanceTypes := #[]
  staticTypes := #[]
  resolved := Array.replicate 36 none
  statics := none }

def pool2 : Array CpInfo := pool [(2, .class_ 4), (1, u "java/lang/Object"), (0, u "<init>"), (0, u "()V"), (0, .class_ 8), (0, u "java/lang/Record")] 13

def k2m0 : Method := { name := "<init>", desc := "()V", sig := { parameters := [], returnType := none }, accessFlags := 4, code := none }
/-- java/lang/Record -/
def k2 : Class := { plain "java/lang/Record" (some 0) with
  accessFlags := 1057
  interfaces := #[]
  cf := some (fileOf pool2 7 #[] #[{ accessFlags := 4, nameIndex := 5, descriptorIndex := 6, attributes := #[] }] 1057 2 #[] #[])
  fields := #[]
  methods := #[k2m0]
  instanceTypes := #[]
  staticTypes := #[]
  resolved := Array.replicate 22 none
  statics := none }

def pool3 : Array CpInfo := pool [(2, .class_ 4), (1, u "java/lang/Record"), (3, .class_ 10), (1, u "com/example/strata/strata/FieldEntry"), (0, u "terms"), (0, u "I"), (2, u "termBytes"), (0, u "J"), (2, u "table"), (2, u "documents"), (2, u "tokens"), (2, u "width"), (2, u "lengths"), (0, .integer 65535), (0, .class_ 34), (0, u "com/example/strata/strata/FieldEntry$1"), (225, u "BYTES"), (5, u "(IIJI)I")] 63

def k3c0 : Code := { maxStack := 6, maxLocals := 6, code := prog_20_method_2_code, exceptionTable := #[], attributes := #[] }
def k3m0 : Method := { name := "width", desc := "(IIJI)I", sig := { parameters := [.int, .int, .long, .int], returnType := some .int }, accessFlags := 8, code := some k3c0 }
/-- com/example/strata/strata/FieldEntry -/
def k3 : Class := { plain "com/example/strata/strata/FieldEntry" (some 2) with
  accessFlags := 48
  interfaces := #[]
  cf := some (fileOf pool3 8 #[.nestMembers #[33]] #[{ accessFlags := 8, nameIndex := 28, descriptorIndex := 266, attributes := #[] }] 48 2 #[] #[{ accessFlags := 18, nameIndex := 11, descriptorIndex := 12, attributes := #[] }, { accessFlags := 18, nameIndex := 15, descriptorIndex := 16, attributes := #[] }, { accessFlags := 18, nameIndex := 19, descriptorIndex := 16, attributes := #[] }, { accessFlags := 18, nameIndex := 22, descriptorIndex := 12, attributes := #[] }, { accessFlags := 18, nameIndex := 25, descriptorIndex := 16, attributes := #[] }, { accessFlags := 18, nameIndex := 28, descriptorIndex := 12, attributes := #[] }, { accessFlags := 18, nameIndex := 31, descriptorIndex := 16, attributes := #[] }, { accessFlags := 26, nameIndex := 260, descriptorIndex := 12, attributes := #[] }])
  fields := #[{ name := "terms", type := .int, accessFlags := 18, slot := 0, constantValue := 0 }, { name := "termBytes", type := .long, accessFlags := 18, slot := 1, constantValue := 0 }, { name := "table", type := .long, accessFlags := 18, slot := 2, constantValue := 0 }, { name := "documents", type := .int, accessFlags := 18, slot := 3, constantValue := 0 }, { name := "tokens", type := .long, accessFlags := 18, slot := 4, constantValue := 0 }, { name := "width", type := .int, accessFlags := 18, slot := 5, constantValue := 0 }, { name := "lengths", type := .long, accessFlags := 18, slot := 6, constantValue := 0 }, { name := "BYTES", type := .int, accessFlags := 26, slot := 0, constantValue := 0 }]
  methods := #[k3m0]
  instanceTypes := #[.int, .long, .long, .int, .long, .int, .long]
  staticTypes := #[.int]
  resolved := Array.replicate 330 none
  statics := none }

def pool4 : Array CpInfo := pool [(1, .class_ 2), (0, u "java/lang/Math"), (1, .class_ 6), (1, u "java/lang/Object"), (0, u "<init>"), (0, u "()V"), (89, .class_ 100), (1, u "java/lang/Math$RandomNumberGeneratorHolder"), (20, u "(JJ)J"), (50, u "negativeZeroFloatBits"), (0, u "J"), (2, u "negativeZeroDoubleBits"), (21, u "max"), (46, u "$assertionsDisabled"), (0, u "Z"), (88, u "(II)I"), (2, u "twoToTheDoubleScaleDown"), (0, u "D"), (4, u "twoToTheDoubleScaleUp"), (9, u "E"), (3, u "PI"), (2, u "TAU"), (2, u "DEGREES_TO_RADIANS"), (0, u "RADIANS_TO_DEGREES")] 94

def k4m0 : Method := { name := "<init>", desc := "()V", sig := { parameters := [], returnType := none }, accessFlags := 2, code := none }
def k4c1 : Code := { maxStack := 2, maxLocals := 2, code := jdk_29_method_65_code, exceptionTable := #[], attributes := #[] }
def k4m1 : Method := { name := "max", desc := "(II)I", sig := { parameters := [.int, .int], returnType := some .int }, accessFlags := 9, code := some k4c1 }
def k4c2 : Code := { maxStack := 4, maxLocals := 4, code := jdk_29_method_66_code, exceptionTable := #[], attributes := #[] }
def k4m2 : Method := { name := "max", desc := "(JJ)J", sig := { parameters := [.long, .long], returnType := some .long }, accessFlags := 9, code := some k4c2 }
/-- java/lang/Math -/
def k4 : Class := { plain "java/lang/Math" (some 0) with
  accessFlags := 49
  interfaces := #[]
  cf := some (fileOf pool4 1 #[.nestMembers #[98]] #[{ accessFlags := 2, nameIndex := 7, descriptorIndex := 8, attributes := #[] }, { accessFlags := 9, nameIndex := 198, descriptorIndex := 335, attributes := #[] }, { accessFlags := 9, nameIndex := 198, descriptorIndex := 121, attributes := #[] }] 49 4 #[] #[{ accessFlags := 25, nameIndex := 354, descriptorIndex := 339, attributes := #[] }, { accessFlags := 25, nameIndex := 358, descriptorIndex := 339, attributes := #[] }, { accessFlags := 25, nameIndex := 361, descriptorIndex := 339, attributes := #[] }, { accessFlags := 26, nameIndex := 364, descriptorIndex := 339, attributes := #[] }, { accessFlags := 26, nameIndex := 365, descriptorIndex := 339, attributes := #[] }, { accessFlags := 26, nameIndex := 172, descriptorIndex := 173, attributes := #[] }, { accessFlags := 26, nameIndex := 176, descriptorIndex := 173, attributes := #[] }, { accessFlags := 8, nameIndex := 344, descriptorIndex := 339, attributes := #[] }, { accessFlags := 8, nameIndex := 338, descriptorIndex := 339, attributes := #[] }, { accessFlags := 4120, nameIndex := 245, descriptorIndex := 246, attributes := #[] }])
  fields := #[{ name := "E", type := .double, accessFlags := 25, slot := 0, constantValue := 0 }, { name := "PI", type := .double, accessFlags := 25, slot := 1, constantValue := 0 }, { name := "TAU", type := .double, accessFlags := 25, slot := 2, constantValue := 0 }, { name := "DEGREES_TO_RADIANS", type := .double, accessFlags := 26, slot := 3, constantValue := 0 }, { name := "RADIANS_TO_DEGREES", type := .double, accessFlags := 26, slot := 4, constantValue := 0 }, { name := "negativeZeroFloatBits", type := .long, accessFlags := 26, slot := 5, constantValue := 0 }, { name := "negativeZeroDoubleBits", type := .long, accessFlags := 26, slot := 6, constantValue := 0 }, { name := "twoToTheDoubleScaleUp", type := .double, accessFlags := 8, slot := 7, constantValue := 0 }, { name := "twoToTheDoubleScaleDown", type := .double, accessFlags := 8, slot := 8, constantValue := 0 }, { name := "$assertionsDisabled", type := .boolean, accessFlags := 4120, slot := 9, constantValue := 0 }]
  methods := #[k4m0, k4m1, k4m2]
  instanceTypes := #[]
  staticTypes := #[.double, .double, .double, .double, .double, .long, .long, .double, .double, .boolean]
  resolved := Array.replicate 460 none
  statics := none }

def pool5 : Array CpInfo := pool [(1, u "java/lang/Cloneable"), (0, .class_ 1), (0, u "java/lang/Object"), (0, .class_ 3)] 3

/-- java/lang/Cloneable -/
def k5 : Class := { plain "java/lang/Cloneable" (some 0) with
  accessFlags := 1537
  interfaces := #[]
  cf := some (fileOf pool5 2 #[] #[] 1537 4 #[] #[])
  fields := #[]
  methods := #[]
  instanceTypes := #[]
  staticTypes := #[]
  resolved := Array.replicate 8 none
  statics := none }

def pool6 : Array CpInfo := pool [(1, u "java/io/Serializable"), (0, .class_ 1), (0, u "java/lang/Object"), (0, .class_ 3)] 3

/-- java/io/Serializable -/
def k6 : Class := { plain "java/io/Serializable" (some 0) with
  accessFlags := 1537
  interfaces := #[]
  cf := some (fileOf pool6 2 #[] #[] 1537 4 #[] #[])
  fields := #[]
  methods := #[]
  instanceTypes := #[]
  staticTypes := #[]
  resolved := Array.replicate 8 none
  statics := none }

/-- the primitive byte -/
def k7 : Class := { plain "byte" none with kind := .primitive 'B', accessFlags := 0x411 }
/-- [B -/
def k8 : Class := { plain "[B" (some 0) with kind := .array 7 .byte, interfaces := #[5, 6], accessFlags := 1041 }

/-- the primitive int -/
def k9 : Class := { plain "int" none with kind := .primitive 'I', accessFlags := 0x411 }
/-- [I -/
def k10 : Class := { plain "[I" (some 0) with kind := .array 9 .int, interfaces := #[5, 6], accessFlags := 1041 }

def heap : Heap := #[]
def classes : Array Class := #[k0, k1, k2, k3, k4, k5, k6, k7, k8, k9, k10]
def interned : List (Array UInt16 × Addr) := []
def slotsUsed : Nat := 0
def theMethod : MethodId := ⟨1, 1⟩
def args0 : Array Value := #[.int 5, .int 9, .int 3, .int 4, .long 1]
def aboutOver (below : List Frame) : State where
  vm := { classes := classes, interned := interned.toArray }
  heap := heap
  slotsUsed := slotsUsed
  threads := #[{ frames := .invoking theMethod args0 :: below }]
def below0 : List Frame := [.native { method := ⟨0, 0⟩, args := #[] }]
def about1 : State := aboutOver below0
def p0 : Program := .bare "" "" ""
def e0 : Env := launch0.env 0 0 0
theorem w_frames : about1.frames = Frame.invoking theMethod args0 :: below0 := rfl
set_option maxRecDepth 65536 in
theorem w_args : argsFit about1.vm theMethod args0 = true := by decide +kernel
set_option maxRecDepth 65536 in
theorem w_heap : heapFits about1 = true := by decide +kernel
set_option maxRecDepth 65536 in
theorem w_runnable : about1.curStatus? = some .runnable := by decide +kernel
set_option maxRecDepth 65536 in
theorem w_alone : about1.alone = true := by decide +kernel
set_option maxRecDepth 65536 in
theorem w_named : about1.methodNamed? x = some theMethod := by decide +kernel
set_option maxRecDepth 65536 in
theorem w_hears : about1.hears theMethod below0 = true := by decide +kernel
set_option maxRecDepth 65536 in
theorem w_ripe : about1.ripe theMethod args0 below0 = true := by decide +kernel
theorem w_running : about1.status = .running := rfl
set_option maxRecDepth 65536 in
theorem w_room : about1.hasRoom e0.platform room_1 = true :=
  launch0.hasRoom_least _ room_1 (by decide +kernel) (by decide +kernel) (by decide +kernel) (by decide +kernel) (by decide +kernel) (by decide +kernel)
theorem allAtoms_all (ts : List Jvm.Cond) (a : Array Jvm.Value) (st : Jvm.State) : (allAtoms ts).before a st = ts.all (fun c => c.before a st) := by
  induction ts with
  | nil => rfl
  | cons c t ih =>
    show (Jvm.Cond.and c (allAtoms t)).before a st = _
    rw [Jvm.Cond.before_and, ih, List.all_cons]
def words1 : List Jvm.Cond := Jvm.Cond.code x code maxLocals ret :: tables_1
/-- a 'code' word, met by the world's own term for the bytes: nothing is compared byte by byte -/
theorem code_word {y : MethodName} {bytes : ByteArray} {mx : Nat} {rt : Option FieldType} {a : Array Value} {s : State} {m : MethodId} {meth : Method} {c : Code} (h1 : s.methodNamed? y = some m) (h2 : s.vm.method? m = some meth) (h3 : meth.code = some c) (h4 : c.code = bytes)
    (h5 : (c.maxLocals == mx && c.exceptionTable.isEmpty && decide (c.maxStack ≤ mostOperands) && decide (meth.sig.returnType = rt) && !meth.locks && decide (parseMethodDescriptor y.desc = some meth.sig)) = true) : (Jvm.Cond.code y bytes mx rt).before a s = true := by
  simp only [Bool.and_eq_true, beq_iff_eq, Bool.not_eq_true', decide_eq_true_eq] at h5
  obtain ⟨⟨⟨⟨⟨g1, g2⟩, g3⟩, g4⟩, g5⟩, g6⟩ := h5
  simp [Cond.before, Cond.holds, Cond.value, h1, h2, h3, h4, g1, g2, g3, g4, g5, g6]
def isCode : Jvm.Cond → Bool
  | .code _ _ _ _ => true
  | _ => false
theorem all_split {L : List Jvm.Cond} {P : Jvm.Cond → Bool} (h1 : L.all (fun c => isCode c || P c) = true) (h2 : ∀ c ∈ L.filter isCode, P c = true) : L.all P = true := by
  refine List.all_eq_true.mpr fun c hc => ?_
  have h := List.all_eq_true.mp h1 c hc
  rcases Bool.eq_false_or_eq_true (isCode c) with hi | hi
  · exact h2 c (List.mem_filter.mpr ⟨hc, hi⟩)
  · simpa [hi] using h
set_option maxRecDepth 65536 in
theorem w_c0 : (Jvm.Cond.code x code maxLocals ret).before args0 about1 = true := code_word (m := ⟨1, 1⟩) (meth := k1m1) (c := k1c1) (by decide +kernel) rfl rfl rfl (by decide +kernel)
set_option maxRecDepth 65536 in
theorem w_c1 : (Jvm.Cond.code ({ cls := "com/example/strata/strata/FieldEntry", name := "width", desc := "(IIJI)I" } : Jvm.MethodName) prog_20_method_2_code (6 : Nat) (Option.some Jvm.ClassFile.FieldType.int)).before args0 about1 = true := code_word (m := ⟨3, 0⟩) (meth := k3m0) (c := k3c0) (by decide +kernel) rfl rfl rfl (by decide +kernel)
set_option maxRecDepth 65536 in
theorem w_c2 : (Jvm.Cond.code ({ cls := "java/lang/Math", name := "max", desc := "(II)I" } : Jvm.MethodName) jdk_29_method_65_code (2 : Nat) (Option.some Jvm.ClassFile.FieldType.int)).before args0 about1 = true := code_word (m := ⟨4, 1⟩) (meth := k4m1) (c := k4c1) (by decide +kernel) rfl rfl rfl (by decide +kernel)
set_option maxRecDepth 65536 in
theorem w_c3 : (Jvm.Cond.code ({ cls := "java/lang/Math", name := "max", desc := "(JJ)J" } : Jvm.MethodName) jdk_29_method_66_code (4 : Nat) (Option.some Jvm.ClassFile.FieldType.long)).before args0 about1 = true := code_word (m := ⟨4, 2⟩) (meth := k4m2) (c := k4c2) (by decide +kernel) rfl rfl rfl (by decide +kernel)
def codes1 : List Jvm.Cond := [Jvm.Cond.code x code maxLocals ret, Jvm.Cond.code ({ cls := "com/example/strata/strata/FieldEntry", name := "width", desc := "(IIJI)I" } : Jvm.MethodName) prog_20_method_2_code (6 : Nat) (Option.some Jvm.ClassFile.FieldType.int), Jvm.Cond.code ({ cls := "java/lang/Math", name := "max", desc := "(II)I" } : Jvm.MethodName) jdk_29_method_65_code (2 : Nat) (Option.some Jvm.ClassFile.FieldType.int), Jvm.Cond.code ({ cls := "java/lang/Math", name := "max", desc := "(JJ)J" } : Jvm.MethodName) jdk_29_method_66_code (4 : Nat) (Option.some Jvm.ClassFile.FieldType.long)]
set_option maxRecDepth 65536 in
theorem codes_eq : words1.filter isCode = codes1 := rfl
theorem w_codes : ∀ c ∈ words1.filter isCode, c.before args0 about1 = true := by
  rw [codes_eq]
  intro c hc
  simp only [codes1, List.mem_cons, List.not_mem_nil, or_false] at hc
  rcases hc with rfl | rfl | rfl | rfl
  · exact w_c0
  · exact w_c1
  · exact w_c2
  · exact w_c3
set_option maxRecDepth 65536 in
theorem w_t1 : words1.all (fun c => isCode c || c.before args0 about1) = true := by decide +kernel
theorem w_tables : (allAtoms (Jvm.Cond.code x code maxLocals ret :: tables_1)).before args0 about1 = true := by
  rw [allAtoms_all]
  show words1.all (fun c => c.before args0 about1) = true
  refine all_split ?_ w_codes
  rw [w_t1]
set_option maxRecDepth 65536 in
theorem w_case : (Jvm.Cond.and given_1 narrow_1).before args0 about1 = true := by decide +kernel
theorem w_applies : (headSpec (Jvm.Cond.code x code maxLocals ret :: tables_1) room_1).applies x e0.platform about1 = true :=
  (Spec.applies_iff w_frames).mpr ⟨w_running, w_runnable, w_alone, w_named, w_hears, w_ripe, w_room, w_tables⟩
theorem atStart : AtStart classFile x code maxLocals ret World_1 tables_1 room_1 Calls_1 rest_1 Pre_1 launch0 p0 e0 about1 theMethod args0 below0 :=
  ⟨lists_1, trivial, launch0.admits_env _ _ _, launch0.least_env, fairChoices_fair.cas, fairChoices_fair.clock, w_frames, w_args, w_heap, w_applies, trivial, trivial, w_case⟩
end start1
theorem witness_1 : WitnessClaimed_1 := ⟨start1.p0, start1.e0, start1.about1, start1.theMethod, start1.args0, start1.below0, start1.atStart⟩
end Jvm.Pilot.@@N@@
