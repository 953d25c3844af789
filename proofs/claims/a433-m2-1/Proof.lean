import JvmDerived
import JvmDerived.Pilot.@@N@@Statement
import JvmDerived.Pilot.@@N@@Code
set_option linter.unusedVariables false
set_option linter.unusedSimpArgs false
namespace Jvm.RoadKit
open Sem ClassFile Op Lib Jvm.Stand Jvm.Free Jvm.LawKit
section New
variable {p : Program} {l : Launch} {e : Env} {R : Room} {s : State} {m : MethodId} {args : Array Value} {below : List Frame} {meth : Method} {c : Code} {T : State} {locs : List Loc} {cells slots : Nat}
theorem retI (X : Stand p l e R s m args below meth c T locs cells slots) (hx : p.tables.exec = Jvm.exec) {pc : Nat} {Ls : Array Slot} {z : Int32} {rest : List Value} (hret : meth.sig.returnType = some .int) (hd : decode c.code pc = .ok (.ireturn, 1)) {fs : List Frame}
    (hl : ∀ (f : JFrame) (acts : List Action), f.method = m → f.locked = none → f.entered = [] → (doReturn e (T.setTop f) acts (some (.int z))).1 = T.setFrames fs) : Steps p.tables e below (T.setTop (mkF m pc Ls (.int z :: rest))) (T.setFrames fs) := by
  have hm' : T.vm.method? m = some meth := X.method'
  have hn : narrow .int (.int z) = .int z := rfl
  show Steps p.tables e below (T.setTop { method := m, pc := pc, locals := Ls, stack := _ :: rest, locked := none }) _
  jvm_step X.here [X.here.top, hx, hd, hm', hret, hn]
  first | (intro acts; rw [hl _ acts rfl rfl rfl]) | rw [hl _ _ rfl rfl rfl]
  exact Steps.refl _
theorem retJ (X : Stand p l e R s m args below meth c T locs cells slots) (hx : p.tables.exec = Jvm.exec) {pc : Nat} {Ls : Array Slot} {z : Int64} {rest : List Value} (hret : meth.sig.returnType = some .long) (hd : decode c.code pc = .ok (.lreturn, 1)) {fs : List Frame}
    (hl : ∀ (f : JFrame) (acts : List Action), f.method = m → f.locked = none → f.entered = [] → (doReturn e (T.setTop f) acts (some (.long z))).1 = T.setFrames fs) : Steps p.tables e below (T.setTop (mkF m pc Ls (.long z :: rest))) (T.setFrames fs) := by
  have hm' : T.vm.method? m = some meth := X.method'
  have hn : narrow .long (.long z) = .long z := rfl
  show Steps p.tables e below (T.setTop { method := m, pc := pc, locals := Ls, stack := _ :: rest, locked := none }) _
  jvm_step X.here [X.here.top, hx, hd, hm', hret, hn, narrow]
  first | (intro acts; rw [hl _ acts rfl rfl rfl]) | rw [hl _ _ rfl rfl rfl]
  exact Steps.refl _
theorem retR (X : Stand p l e R s m args below meth c T locs cells slots) (hx : p.tables.exec = Jvm.exec) {pc : Nat} {Ls : Array Slot} {z : Addr} {rest : List Value} {ty : FieldType} (hret : meth.sig.returnType = some ty) (hty : ty.isReference = true) (hd : decode c.code pc = .ok (.areturn, 1)) {fs : List Frame}
    (hl : ∀ (f : JFrame) (acts : List Action), f.method = m → f.locked = none → f.entered = [] → (doReturn e (T.setTop f) acts (some (.ref z))).1 = T.setFrames fs) : Steps p.tables e below (T.setTop (mkF m pc Ls (.ref z :: rest))) (T.setFrames fs) := by
  have hm' : T.vm.method? m = some meth := X.method'
  show Steps p.tables e below (T.setTop { method := m, pc := pc, locals := Ls, stack := _ :: rest, locked := none }) _
  jvm_step X.here [X.here.top, hx, hd, hm', hret, hty, Value.isRef]
  first | (intro acts; rw [hl _ acts rfl rfl rfl]) | rw [hl _ _ rfl rfl rfl]
  exact Steps.refl _
theorem lremM {tb : Tables} [Ours tb] {target : State} {g : JFrame} (h : At T m c below) (hx : tb.exec = Jvm.exec) (hg : g.method = m) {x y : Int64} {rest : List Value} (hd : decode c.code g.pc = .ok (.lrem, 1)) (hs : g.stack = .long y :: .long x :: rest) (hy : y ≠ 0)
    (hr : Steps tb e below (T.setTop { g with pc := g.pc + 1, stack := .long (x % y) :: rest }) target) : Steps tb e below (T.setTop g) target := by
  rw [← lrem_mod] at hr
  exact XS.lrem h hx hg hd hs hy hr
end New
end Jvm.RoadKit
namespace Jvm.Pilot.@@N@@
open Jvm Jvm.ClassFile Sem Op Lib Jvm.Free Jvm.Stand Jvm.LawKit Jvm.RoadKit Bundle Jvm.Pilot.@@N@@.Jvm.D
/-- a Java boolean -/
def bI (P : Prop) [Decidable P] : Int32 := if P then 1 else 0
theorem bI_pos {P : Prop} [Decidable P] (h : P) : bI P = (1 : Int32) := if_pos h
theorem bI_neg {P : Prop} [Decidable P] (h : ¬ P) : bI P = (0 : Int32) := if_neg h
theorem bI_0 {P : Prop} [Decidable P] (h : ¬ P) : bI P = 0 := if_neg h
theorem bI_ne0 {P : Prop} [Decidable P] (h : P) : ¬ bI P = 0 := by rw [bI_pos h]; decide
theorem bI_iff {P Q : Prop} [Decidable P] [Decidable Q] : bI P = bI Q ↔ (P ↔ Q) := by
  by_cases p : P <;> by_cases q : Q <;> simp [bI, p, q]
theorem nar_0 : nar .boolean (0 : Int32) = 0 := by decide
theorem nar_1 : nar .boolean (1 : Int32) = 1 := by decide
theorem nar_bI (P : Prop) [Decidable P] : nar .boolean (bI P) = bI P := by by_cases p : P <;> simp [bI, p] <;> decide
/-- the run from st ends, and Q holds of what it returns and leaves -/
def OG (p : Program) (e : Env) (below : List Frame) (s : State) (Q : Option Value → Heap → List Loc → Prop) (cc ss : Nat) (st : State) : Prop :=
  ∃ s₂ o, Steps p.tables e below st s₂ ∧ s₂.status = .running ∧ Ended s₂ below o ∧ ∃ v L, o = .returned v ∧ Q v s₂.heap L ∧ FrameEnd s o s₂ L cc ss
section Out
variable {p : Program} {l : Launch} {e : Env} {R : Room} {s : State} {m : MethodId} {args : Array Value} {below : List Frame} {meth : Method} {c : Code} {T : State} {locs : List Loc} {cells slots : Nat} {Q : Option Value → Heap → List Loc → Prop} {cc ss : Nat} {h : Heap}
theorem OG.step {st st' : State} (h : ∀ t, Steps p.tables e below st' t → Steps p.tables e below st t) (g : OG p e below s Q cc ss st') : OG p e below s Q cc ss st := by
  obtain ⟨s₂, o, h1, r⟩ := g
  exact ⟨s₂, o, h _ h1, r⟩
theorem OG.out (X : Stand p l e R s m args below meth c T locs cells slots) {v : Option Value} (hv : meth.sig.returnType = none → v = none) (hlk : meth.locks = false) {g : JFrame} (eT : T.heap = h)
    (hs : ∀ fs, (∀ (f : JFrame) (acts : List Action), f.method = m → f.locked = none → f.entered = [] → (doReturn e (T.setTop f) acts v).1 = T.setFrames fs) → Steps p.tables e below (T.setTop g) (T.setFrames fs))
    (hQ : Q v h locs) (hc : cells ≤ cc) (hl : slots ≤ ss) : OG p e below s Q cc ss (T.setTop g) := by
  obtain ⟨fs, hr, hrun, hended, hW, hsame⟩ := X.leave (v := v) hv hlk
  exact ⟨_, _, hs fs hr, hrun, hended, _, _, rfl, by show Q v T.heap locs; rw [eT]; exact hQ, ⟨_, rfl⟩, hW, hsame.mono hc hl⟩
theorem OG.retV (X : Stand p l e R s m args below meth c T locs cells slots) (hx : p.tables.exec = Jvm.exec) (hlk : meth.locks = false) (hret : meth.sig.returnType = none) {pc : Nat} {Ls : Array Slot} (hd : decode c.code pc = .ok (.return_, 1)) (eT : T.heap = h) (hQ : Q none h locs) (hc : cells ≤ cc) (hl : slots ≤ ss) : OG p e below s Q cc ss (T.setTop (mkF m pc Ls [])) :=
  OG.out X (fun _ => rfl) hlk eT (fun _ hr => X.returnOut hx hret hd hr) hQ hc hl
theorem OG.retI (X : Stand p l e R s m args below meth c T locs cells slots) (hx : p.tables.exec = Jvm.exec) (hlk : meth.locks = false) (hret : meth.sig.returnType = some .int) {pc : Nat} {Ls : Array Slot} {z : Int32} {rest : List Value} (hd : decode c.code pc = .ok (.ireturn, 1)) (eT : T.heap = h) (hQ : Q (some (.int z)) h locs) (hc : cells ≤ cc) (hl : slots ≤ ss) : OG p e below s Q cc ss (T.setTop (mkF m pc Ls (.int z :: rest))) :=
  OG.out X (fun h => by rw [hret] at h; cases h) hlk eT (fun _ hr => Jvm.RoadKit.retI X hx hret hd hr) hQ hc hl
theorem OG.retJ (X : Stand p l e R s m args below meth c T locs cells slots) (hx : p.tables.exec = Jvm.exec) (hlk : meth.locks = false) (hret : meth.sig.returnType = some .long) {pc : Nat} {Ls : Array Slot} {z : Int64} {rest : List Value} (hd : decode c.code pc = .ok (.lreturn, 1)) (eT : T.heap = h) (hQ : Q (some (.long z)) h locs) (hc : cells ≤ cc) (hl : slots ≤ ss) : OG p e below s Q cc ss (T.setTop (mkF m pc Ls (.long z :: rest))) :=
  OG.out X (fun h => by rw [hret] at h; cases h) hlk eT (fun _ hr => Jvm.RoadKit.retJ X hx hret hd hr) hQ hc hl
theorem OG.retR (X : Stand p l e R s m args below meth c T locs cells slots) (hx : p.tables.exec = Jvm.exec) (hlk : meth.locks = false) {ty : FieldType} (hret : meth.sig.returnType = some ty) (hty : ty.isReference = true) {pc : Nat} {Ls : Array Slot} {z : Addr} {rest : List Value} (hd : decode c.code pc = .ok (.areturn, 1)) (eT : T.heap = h) (hQ : Q (some (.ref z)) h locs) (hc : cells ≤ cc) (hl : slots ≤ ss) : OG p e below s Q cc ss (T.setTop (mkF m pc Ls (.ref z :: rest))) :=
  OG.out X (fun h => by rw [hret] at h; cases h) hlk eT (fun _ hr => Jvm.RoadKit.retR X hx hret hty hd hr) hQ hc hl
theorem OG.retZ (X : Stand p l e R s m args below meth c T locs cells slots) (hx : p.tables.exec = Jvm.exec) (hlk : meth.locks = false) (hret : meth.sig.returnType = some .boolean) {pc : Nat} {Ls : Array Slot} {z z' : Int32} {rest : List Value} (hd : decode c.code pc = .ok (.ireturn, 1)) (hz : nar .boolean z = z') (eT : T.heap = h) (hQ : Q (some (.int z')) h locs) (hc : cells ≤ cc) (hl : slots ≤ ss) : OG p e below s Q cc ss (T.setTop (mkF m pc Ls (.int z :: rest))) := by
  subst hz
  exact OG.out X (fun h => by rw [hret] at h; cases h) hlk eT (fun _ hr => retN X hx (t := .boolean) hret (by simp) hd hr) hQ hc hl
end Out
def own_maxJ (a b : Int64) : Int64 := if a < b then b else a
theorem d2_0 : decode jdk_29_method_66_code 0 = .ok (.lload_n 0, 1) := by decide +kernel
theorem d2_1 : decode jdk_29_method_66_code 1 = .ok (.lload_n 2, 1) := by decide +kernel
theorem d2_2 : decode jdk_29_method_66_code 2 = .ok (.lcmp, 1) := by decide +kernel
theorem d2_3 : decode jdk_29_method_66_code 3 = .ok (.ifCond .lt 7, 3) := by decide +kernel
theorem d2_6 : decode jdk_29_method_66_code 6 = .ok (.lload_n 0, 1) := by decide +kernel
theorem d2_7 : decode jdk_29_method_66_code 7 = .ok (.goto 4, 3) := by decide +kernel
theorem d2_10 : decode jdk_29_method_66_code 10 = .ok (.lload_n 2, 1) := by decide +kernel
theorem d2_11 : decode jdk_29_method_66_code 11 = .ok (.lreturn, 1) := by decide +kernel
theorem ef_2 (m : MethodId) (x0 : Int64) (x1 : Int64) : entryFrame m #[(.long x0), (.long x1)] 4 = mkF m 0 #[.val (.long x0), .second, .val (.long x1), .second] [] := by first | (simp [entryFrame, mkF, argsToLocals, Value.category]; done) | rfl
def Q2 (Z : State) (q0 : Int64) (q1 : Int64) (h0 : Heap) (n0 : Nat) (v : Option Value) (h : Heap) (L : List Loc) : Prop := (v = some (.long (own_maxJ q0 q1))) ∧ (Fr n0 L) ∧ (h = h0)
abbrev rom_2 : Room := { frames := 0, cells := 0, slots := 0, locals := 0 }
set_option maxRecDepth 65536 in
set_option maxHeartbeats 40000000 in
theorem rm2 (l : Launch) (Z : State) (a0 : Array Value) (hw : ∀ d ∈ tables_1, d.before a0 Z = true) (ws : List Jvm.Cond) (q0 : Int64) (q1 : Int64) (h0 : Heap) (n0 : Nat) (Z0 : n0 ≤ h0.size) :
    MetFree l (⟨"java/lang/Math", "max", "(JJ)J"⟩ : MethodName) (head1 (Jvm.Cond.code (⟨"java/lang/Math", "max", "(JJ)J"⟩ : MethodName) jdk_29_method_66_code 4 (some .long) :: ws) rom_2) (fun a U => a = #[(.long q0), (.long q1)] ∧ Z.Warmed39 U.vm ∧ U.heap = h0) (fun _ _ _ _ _ => True) (fun _ U o U' => ∃ v L, o = .returned v ∧ Q2 Z q0 q1 h0 n0 v U'.heap L ∧ FrameEnd U o U' L rom_2.cells rom_2.slots) := by
  refine MetFree.of_bodySF (Jvm.Free.JP.mathPlain rfl (by decide +kernel)) hisR ?_
  intro p e s m args below meth c s₁ Bd hml0 hP hK
  obtain ⟨rfl, hZ, hh⟩ := hP
  have hx := Bd.exec
  have hby := Bd.bytes
  have hlk := Bd.notSynchronized
  have hml : c.maxLocals = 4 := hml0
  have hown : s.vm.findClass "java/lang/Math" = some m.cls := findClass_of_methodNamed Bd.named
  have hnm := (name_of_methodNamed Bd.named Bd.method).1
  have X0 : Stand p l e rom_2 s m #[(.long q0), (.long q1)] below meth c s₁ [] 0 0 := Stand.of_body Bd
  have e0 : s₁.heap = h0 := by rw [← hh, Bd.state]; rfl
  have N0 := Fr.nil n0
  have K0 : Keep h0 h0 [] := Keep.refl _ _
  refine (?_ : OG p e below s (Q2 Z q0 q1 h0 n0) rom_2.cells rom_2.slots _)
  rw [ef_2]
  have s1 : ∀ t, Steps p.tables e below (s₁.setTop (mkF m 3 #[.val (.long q0), .second, .val (.long q1), .second] [(.int (lcmpW q0 q1))])) t → Steps p.tables e below (s₁.setTop (mkF m 0 #[.val (.long q0), .second, .val (.long q1), .second] [])) t := by
    intro t k
    refine XS.lloadN X0.here hx rfl (hb hby d2_0) rfl ?_
    show Steps p.tables e below (s₁.setTop (mkF m 1 #[.val (.long q0), .second, .val (.long q1), .second] [(.long q0)])) _
    refine XS.lloadN X0.here hx rfl (hb hby d2_1) rfl ?_
    show Steps p.tables e below (s₁.setTop (mkF m 2 #[.val (.long q0), .second, .val (.long q1), .second] [(.long q1), (.long q0)])) _
    refine XS.lcmp X0.here hx rfl (hb hby d2_2) rfl ?_
    exact k
  refine OG.step s1 ?_
  by_cases hc3 : q0 < q1
  · have s2 : ∀ t, Steps p.tables e below (s₁.setTop (mkF m 11 #[.val (.long q0), .second, .val (.long q1), .second] [(.long q1)])) t → Steps p.tables e below (s₁.setTop (mkF m 3 #[.val (.long q0), .second, .val (.long q1), .second] [(.int (lcmpW q0 q1))])) t := by
      intro t k
      refine XS.ifYes X0.here hx rfl (pc0 := 3) (pc' := 10) rfl (hb hby d2_3) rfl ((if0 _ _).trans (tlt ((lw_lt q0 q1).mpr hc3)).1) (by decide) (by decide) ?_
      show Steps p.tables e below (s₁.setTop (mkF m 10 #[.val (.long q0), .second, .val (.long q1), .second] [])) _
      refine XS.lloadN X0.here hx rfl (hb hby d2_10) rfl ?_
      exact k
    refine OG.step s2 ?_
    exact OG.retJ X0 hx hlk Bd.returns (hb hby d2_11) e0 ⟨(by simp [own_maxJ, hc3]), N0, rfl⟩ (by decide) (by decide)
  · have s3 : ∀ t, Steps p.tables e below (s₁.setTop (mkF m 11 #[.val (.long q0), .second, .val (.long q1), .second] [(.long q0)])) t → Steps p.tables e below (s₁.setTop (mkF m 3 #[.val (.long q0), .second, .val (.long q1), .second] [(.int (lcmpW q0 q1))])) t := by
      intro t k
      refine XS.ifNo X0.here hx rfl (hb hby d2_3) rfl ((if0 _ _).trans (flt (mt (lw_lt q0 q1).mp hc3)).1) ?_
      show Steps p.tables e below (s₁.setTop (mkF m 6 #[.val (.long q0), .second, .val (.long q1), .second] [])) _
      refine XS.lloadN X0.here hx rfl (hb hby d2_6) rfl ?_
      show Steps p.tables e below (s₁.setTop (mkF m 7 #[.val (.long q0), .second, .val (.long q1), .second] [(.long q0)])) _
      refine XS.goto X0.here hx rfl (pc0 := 7) (pc' := 11) rfl (hb hby d2_7) (by decide) (by decide) ?_
      exact k
    refine OG.step s3 ?_
    exact OG.retJ X0 hx hlk Bd.returns (hb hby d2_11) e0 ⟨(by simp [own_maxJ, hc3]), N0, rfl⟩ (by decide) (by decide)
theorem d4_0 : decode jdk_30_method_1_code 0 = .ok (.aload_n 0, 1) := by decide +kernel
theorem d4_1 : decode jdk_30_method_1_code 1 = .ok (.invokespecial 1, 3) := by decide +kernel
theorem d4_4 : decode jdk_30_method_1_code 4 = .ok (.return_, 1) := by decide +kernel
theorem pn_java_lang_Record : plainName "java/lang/Record" = true := by first | (simp [plainName, overriddenIn]; done) | decide +kernel
theorem ef_4 (m : MethodId) (x0 : Addr) : entryFrame m #[(.ref x0)] 1 = mkF m 0 #[.val (.ref x0)] [] := by first | (simp [entryFrame, mkF, argsToLocals, Value.category]; done) | rfl
def Q4 (Z : State) (o0 : Addr) (h0 : Heap) (n0 : Nat) (v : Option Value) (h : Heap) (L : List Loc) : Prop := (v = none) ∧ (Fr n0 L) ∧ (h = h0)
abbrev rom_4 : Room := { frames := 1, cells := 0, slots := 0, locals := 12 }
set_option maxRecDepth 65536 in
set_option maxHeartbeats 40000000 in
theorem rm4 (l : Launch) (Z : State) (a0 : Array Value) (hw : ∀ d ∈ tables_1, d.before a0 Z = true) (ws : List Jvm.Cond) (o0 : Addr) (h0 : Heap) (n0 : Nat) (Z0 : n0 ≤ h0.size) :
    MetFree l (⟨"java/lang/Record", "<init>", "()V"⟩ : MethodName) (head1 (Jvm.Cond.code (⟨"java/lang/Record", "<init>", "()V"⟩ : MethodName) jdk_30_method_1_code 1 none :: ws) rom_4) (fun a U => a = #[(.ref o0)] ∧ Z.Warmed39 U.vm ∧ U.heap = h0) (fun _ _ _ _ _ => True) (fun _ U o U' => ∃ v L, o = .returned v ∧ Q4 Z o0 h0 n0 v U'.heap L ∧ FrameEnd U o U' L rom_4.cells rom_4.slots) := by
  refine MetFree.of_bodySF (plainFor_of_name pn_java_lang_Record) hisR ?_
  intro p e s m args below meth c s₁ Bd hml0 hP hK
  obtain ⟨rfl, hZ, hh⟩ := hP
  have hx := Bd.exec
  have hby := Bd.bytes
  have hlk := Bd.notSynchronized
  have hml : c.maxLocals = 1 := hml0
  have hown : s.vm.findClass "java/lang/Record" = some m.cls := findClass_of_methodNamed Bd.named
  have hnm := (name_of_methodNamed Bd.named Bd.method).1
  have X0 : Stand p l e rom_4 s m #[(.ref o0)] below meth c s₁ [] 0 0 := Stand.of_body Bd
  have e0 : s₁.heap = h0 := by rw [← hh, Bd.state]; rfl
  have N0 := Fr.nil n0
  have K0 : Keep h0 h0 [] := Keep.refl _ _
  refine (?_ : OG p e below s (Q4 Z o0 h0 n0) rom_4.cells rom_4.slots _)
  rw [ef_4]
  have s1 : ∀ t, Steps p.tables e below (s₁.setTop (mkF m 1 #[.val (.ref o0)] [(.ref o0)])) t → Steps p.tables e below (s₁.setTop (mkF m 0 #[.val (.ref o0)] [])) t := by
    intro t k
    refine XS.aloadN X0.here hx rfl (hb hby d4_0) rfl rfl ?_
    exact k
  refine OG.step s1 ?_
  obtain ⟨T2, X2, e2, st2⟩ := initO X0 hx hZ hown (hw _ (List.mem_of_getElem? (i := 18) rfl)) (hw _ (List.mem_of_getElem? (i := 19) rfl)) (hw _ (List.mem_of_getElem? (i := 20) rfl)) e0 (g := (mkF m 1 #[.val (.ref o0)] [(.ref o0)])) rfl (by rw [hml]; rfl) rfl (hb hby d4_1) (by decide) (W := 0) (by show 2 * 0 + _ ≤ _; exact Nat.le_of_eq rfl) (by decide)
  refine OG.step st2 ?_
  show OG _ _ _ _ _ _ _ (T2.setTop (mkF m 4 #[.val (.ref o0)] []))
  exact OG.retV X2 hx hlk Bd.returns (hb hby d4_4) e2 ⟨rfl, N0, rfl⟩ (by decide) (by decide)
theorem d3_0 : decode prog_10_method_1_code 0 = .ok (.aload_n 0, 1) := by decide +kernel
theorem d3_1 : decode prog_10_method_1_code 1 = .ok (.invokespecial 1, 3) := by decide +kernel
theorem d3_4 : decode prog_10_method_1_code 4 = .ok (.lload_n 1, 1) := by decide +kernel
theorem d3_5 : decode prog_10_method_1_code 5 = .ok (.lconst 0, 1) := by decide +kernel
theorem d3_6 : decode prog_10_method_1_code 6 = .ok (.lcmp, 1) := by decide +kernel
theorem d3_7 : decode prog_10_method_1_code 7 = .ok (.ifCond .lt 34, 3) := by decide +kernel
theorem d3_10 : decode prog_10_method_1_code 10 = .ok (.lload_n 3, 1) := by decide +kernel
theorem d3_11 : decode prog_10_method_1_code 11 = .ok (.lconst 0, 1) := by decide +kernel
theorem d3_12 : decode prog_10_method_1_code 12 = .ok (.lcmp, 1) := by decide +kernel
theorem d3_13 : decode prog_10_method_1_code 13 = .ok (.ifCond .lt 28, 3) := by decide +kernel
theorem d3_16 : decode prog_10_method_1_code 16 = .ok (.lload_n 1, 1) := by decide +kernel
theorem d3_17 : decode prog_10_method_1_code 17 = .ok (.lconst 0, 1) := by decide +kernel
theorem d3_18 : decode prog_10_method_1_code 18 = .ok (.lcmp, 1) := by decide +kernel
theorem d3_19 : decode prog_10_method_1_code 19 = .ok (.ifCond .le 7, 3) := by decide +kernel
theorem d3_22 : decode prog_10_method_1_code 22 = .ok (.iconst 1, 1) := by decide +kernel
theorem d3_23 : decode prog_10_method_1_code 23 = .ok (.goto 4, 3) := by decide +kernel
theorem d3_26 : decode prog_10_method_1_code 26 = .ok (.iconst 0, 1) := by decide +kernel
theorem d3_27 : decode prog_10_method_1_code 27 = .ok (.lload_n 3, 1) := by decide +kernel
theorem d3_28 : decode prog_10_method_1_code 28 = .ok (.lconst 0, 1) := by decide +kernel
theorem d3_29 : decode prog_10_method_1_code 29 = .ok (.lcmp, 1) := by decide +kernel
theorem d3_30 : decode prog_10_method_1_code 30 = .ok (.ifCond .le 7, 3) := by decide +kernel
theorem d3_33 : decode prog_10_method_1_code 33 = .ok (.iconst 1, 1) := by decide +kernel
theorem d3_34 : decode prog_10_method_1_code 34 = .ok (.goto 4, 3) := by decide +kernel
theorem d3_37 : decode prog_10_method_1_code 37 = .ok (.iconst 0, 1) := by decide +kernel
theorem d3_38 : decode prog_10_method_1_code 38 = .ok (.if_icmp .ne 18, 3) := by decide +kernel
theorem d3_41 : decode prog_10_method_1_code 41 = .ok (.new 7, 3) := by decide +kernel
theorem d3_44 : decode prog_10_method_1_code 44 = .ok (.dup, 1) := by decide +kernel
theorem d3_45 : decode prog_10_method_1_code 45 = .ok (.lload_n 1, 1) := by decide +kernel
theorem d3_46 : decode prog_10_method_1_code 46 = .ok (.lload_n 3, 1) := by decide +kernel
theorem d3_52 : decode prog_10_method_1_code 52 = .ok (.invokespecial 13, 3) := by decide +kernel
theorem d3_55 : decode prog_10_method_1_code 55 = .ok (.athrow, 1) := by decide +kernel
theorem d3_56 : decode prog_10_method_1_code 56 = .ok (.aload_n 0, 1) := by decide +kernel
theorem d3_57 : decode prog_10_method_1_code 57 = .ok (.lload_n 1, 1) := by decide +kernel
theorem d3_58 : decode prog_10_method_1_code 58 = .ok (.putfield 16, 3) := by decide +kernel
theorem d3_61 : decode prog_10_method_1_code 61 = .ok (.aload_n 0, 1) := by decide +kernel
theorem d3_62 : decode prog_10_method_1_code 62 = .ok (.lload_n 3, 1) := by decide +kernel
theorem d3_63 : decode prog_10_method_1_code 63 = .ok (.putfield 22, 3) := by decide +kernel
theorem d3_66 : decode prog_10_method_1_code 66 = .ok (.return_, 1) := by decide +kernel
theorem pn_com_example_maqfel_maqfel_LockStore_Attempt : plainName "com/example/maqfel/maqfel/LockStore$Attempt" = true := by first | (simp [plainName, overriddenIn]; done) | decide +kernel
theorem ef_3 (m : MethodId) (x0 : Addr) (x1 : Int64) (x2 : Int64) : entryFrame m #[(.ref x0), (.long x1), (.long x2)] 5 = mkF m 0 #[.val (.ref x0), .val (.long x1), .second, .val (.long x2), .second] [] := by first | (simp [entryFrame, mkF, argsToLocals, Value.category]; done) | rfl
def Q3 (Z : State) (a1 : Addr) (q1 : Int64) (q2 : Int64) (u1 : Value) (u2 : Value) (h0 : Heap) (n0 : Nat) (v : Option Value) (h : Heap) (L : List Loc) : Prop := (v = none) ∧ (Fr n0 L) ∧ (Keep h0 h [a1]) ∧ (Fld Z h a1 "com/example/maqfel/maqfel/LockStore$Attempt" "token" "J" (.long q1)) ∧ (Fld Z h a1 "com/example/maqfel/maqfel/LockStore$Attempt" "retryMillis" "J" (.long q2))
theorem pd___V : parseMethodDescriptor "()V" = some ⟨[], none⟩ := by decide +kernel
abbrev rom_3 : Room := { frames := 2, cells := 0, slots := 0, locals := 24 }
set_option maxRecDepth 65536 in
set_option maxHeartbeats 40000000 in
theorem rm3 (l : Launch) (Z : State) (a0 : Array Value) (hw : ∀ d ∈ tables_1, d.before a0 Z = true) (ws : List Jvm.Cond) (a1 : Addr) (q1 : Int64) (q2 : Int64) (u1 : Value) (u2 : Value) (h0 : Heap) (n0 : Nat) (Z0 : n0 ≤ h0.size) (F0_a1 : Exa Z h0 a1 "com/example/maqfel/maqfel/LockStore$Attempt") (F1_a1_token : Fld Z h0 a1 "com/example/maqfel/maqfel/LockStore$Attempt" "token" "J" u1) (F2_a1_retryMillis : Fld Z h0 a1 "com/example/maqfel/maqfel/LockStore$Attempt" "retryMillis" "J" u2) (g_a1 : n0 ≤ a1) (h1 : ¬ q1 < 0) (h2 : ¬ q2 < 0) (h3 : ¬ bI (0 < q1) = bI (0 < q2)) :
    MetFree l (⟨"com/example/maqfel/maqfel/LockStore$Attempt", "<init>", "(JJ)V"⟩ : MethodName) (head1 (Jvm.Cond.code (⟨"com/example/maqfel/maqfel/LockStore$Attempt", "<init>", "(JJ)V"⟩ : MethodName) prog_10_method_1_code 5 none :: ws) rom_3) (fun a U => a = #[(.ref a1), (.long q1), (.long q2)] ∧ Z.Warmed39 U.vm ∧ U.heap = h0) (fun _ _ _ _ _ => True) (fun _ U o U' => ∃ v L, o = .returned v ∧ Q3 Z a1 q1 q2 u1 u2 h0 n0 v U'.heap L ∧ FrameEnd U o U' L rom_3.cells rom_3.slots) := by
  refine MetFree.of_bodySF (plainFor_of_name pn_com_example_maqfel_maqfel_LockStore_Attempt) hisR ?_
  intro p e s m args below meth c s₁ Bd hml0 hP hK
  obtain ⟨rfl, hZ, hh⟩ := hP
  have hx := Bd.exec
  have hby := Bd.bytes
  have hlk := Bd.notSynchronized
  have hml : c.maxLocals = 5 := hml0
  have hown : s.vm.findClass "com/example/maqfel/maqfel/LockStore$Attempt" = some m.cls := findClass_of_methodNamed Bd.named
  have hnm := (name_of_methodNamed Bd.named Bd.method).1
  have X0 : Stand p l e rom_3 s m #[(.ref a1), (.long q1), (.long q2)] below meth c s₁ [] 0 0 := Stand.of_body Bd
  have e0 : s₁.heap = h0 := by rw [← hh, Bd.state]; rfl
  have N0 := Fr.nil n0
  have K0 : Keep h0 h0 [a1] := Keep.refl _ _
  refine (?_ : OG p e below s (Q3 Z a1 q1 q2 u1 u2 h0 n0) rom_3.cells rom_3.slots _)
  rw [ef_3]
  have s1 : ∀ t, Steps p.tables e below (s₁.setTop (mkF m 1 #[.val (.ref a1), .val (.long q1), .second, .val (.long q2), .second] [(.ref a1)])) t → Steps p.tables e below (s₁.setTop (mkF m 0 #[.val (.ref a1), .val (.long q1), .second, .val (.long q2), .second] [])) t := by
    intro t k
    refine XS.aloadN X0.here hx rfl (hb hby d3_0) rfl rfl ?_
    exact k
  refine OG.step s1 ?_
  obtain ⟨_, _, ⟨T2, L2, k2, n2⟩, -, X2, ⟨Lc2, hQ2, l2, y2, z2⟩, st2⟩ := X0.specialBack hx (y := (⟨"java/lang/Record", "<init>", "()V"⟩ : MethodName)) rfl hown (mvT hZ (hw _ (List.mem_of_getElem? (i := 13) rfl))) (mvT hZ (hw _ (List.mem_of_getElem? (i := 14) rfl))) (mvT hZ (hw _ (List.mem_of_getElem? (i := 17) rfl))) (by decide) (backOf (W := 0) (rm4 l Z a0 hw [] a1 h0 n0 (Nat.le_trans Z0 K0.1)) hZ (hw _ (List.mem_of_getElem? (i := 17) rfl)) (hw _ (List.mem_of_getElem? (i := 16) rfl)) (by decide) (by decide)) (g := (mkF m 1 #[.val (.ref a1), .val (.long q1), .second, .val (.long q2), .second] [(.ref a1)])) rfl (by rw [hml]; rfl) (Steps.refl _) (a := a1) (argsL := []) (rest := []) (lenOf pd___V rfl) rfl (by show 2 * 0 + _ ≤ _; exact Nat.le_of_eq rfl) (hb hby d3_1) (fun _ _ => ⟨rfl, e0, (by decide : 0 + 0 ≤ _), (by decide : 0 + 0 ≤ _)⟩)
  dsimp only [Pt.U, Pt.locs, Pt.cells, Pt.slots] at X2 l2 y2 z2 st2 hQ2
  subst l2 y2 z2
  obtain ⟨rfl, N2q, e2⟩ := hQ2
  have N2 := Fr.app N0 N2q
  refine OG.step (fun t k => st2.trans k) ?_
  show OG _ _ _ _ _ _ _ (T2.setTop (mkF m 4 #[.val (.ref a1), .val (.long q1), .second, .val (.long q2), .second] []))
  have s3 : ∀ t, Steps p.tables e below (T2.setTop (mkF m 16 #[.val (.ref a1), .val (.long q1), .second, .val (.long q2), .second] [])) t → Steps p.tables e below (T2.setTop (mkF m 4 #[.val (.ref a1), .val (.long q1), .second, .val (.long q2), .second] [])) t := by
    intro t k
    refine XS.lloadN X2.here hx rfl (hb hby d3_4) rfl ?_
    show Steps p.tables e below (T2.setTop (mkF m 5 #[.val (.ref a1), .val (.long q1), .second, .val (.long q2), .second] [(.long q1)])) _
    refine XS.lconst X2.here hx rfl (hb hby d3_5) ?_
    show Steps p.tables e below (T2.setTop (mkF m 6 #[.val (.ref a1), .val (.long q1), .second, .val (.long q2), .second] [(.long (0 : Int64)), (.long q1)])) _
    refine XS.lcmp X2.here hx rfl (hb hby d3_6) rfl ?_
    show Steps p.tables e below (T2.setTop (mkF m 7 #[.val (.ref a1), .val (.long q1), .second, .val (.long q2), .second] [(.int (lcmpW q1 (0 : Int64)))])) _
    refine XS.ifNo X2.here hx rfl (hb hby d3_7) rfl ((if0 _ _).trans (flt (mt (lw_lt q1 (0 : Int64)).mp h1)).1) ?_
    show Steps p.tables e below (T2.setTop (mkF m 10 #[.val (.ref a1), .val (.long q1), .second, .val (.long q2), .second] [])) _
    refine XS.lloadN X2.here hx rfl (hb hby d3_10) rfl ?_
    show Steps p.tables e below (T2.setTop (mkF m 11 #[.val (.ref a1), .val (.long q1), .second, .val (.long q2), .second] [(.long q2)])) _
    refine XS.lconst X2.here hx rfl (hb hby d3_11) ?_
    show Steps p.tables e below (T2.setTop (mkF m 12 #[.val (.ref a1), .val (.long q1), .second, .val (.long q2), .second] [(.long (0 : Int64)), (.long q2)])) _
    refine XS.lcmp X2.here hx rfl (hb hby d3_12) rfl ?_
    show Steps p.tables e below (T2.setTop (mkF m 13 #[.val (.ref a1), .val (.long q1), .second, .val (.long q2), .second] [(.int (lcmpW q2 (0 : Int64)))])) _
    refine XS.ifNo X2.here hx rfl (hb hby d3_13) rfl ((if0 _ _).trans (flt (mt (lw_lt q2 (0 : Int64)).mp h2)).1) ?_
    exact k
  refine OG.step s3 ?_
  have s4 : ∀ t, Steps p.tables e below (T2.setTop (mkF m 27 #[.val (.ref a1), .val (.long q1), .second, .val (.long q2), .second] [(.int (bI ((0 : Int64) < q1)))])) t → Steps p.tables e below (T2.setTop (mkF m 16 #[.val (.ref a1), .val (.long q1), .second, .val (.long q2), .second] [])) t := by
    intro t k
    refine XS.lloadN X2.here hx rfl (hb hby d3_16) rfl ?_
    show Steps p.tables e below (T2.setTop (mkF m 17 #[.val (.ref a1), .val (.long q1), .second, .val (.long q2), .second] [(.long q1)])) _
    refine XS.lconst X2.here hx rfl (hb hby d3_17) ?_
    show Steps p.tables e below (T2.setTop (mkF m 18 #[.val (.ref a1), .val (.long q1), .second, .val (.long q2), .second] [(.long (0 : Int64)), (.long q1)])) _
    refine XS.lcmp X2.here hx rfl (hb hby d3_18) rfl ?_
    show Steps p.tables e below (T2.setTop (mkF m 19 #[.val (.ref a1), .val (.long q1), .second, .val (.long q2), .second] [(.int (lcmpW q1 (0 : Int64)))])) _
    by_cases hm19 : (0 : Int64) < q1
    · refine XS.ifNo X2.here hx rfl (hb hby d3_19) rfl ((if0 _ _).trans (tlt ((lw_gt q1 (0 : Int64)).mpr hm19)).2.2.2) ?_
      show Steps p.tables e below (T2.setTop (mkF m 22 #[.val (.ref a1), .val (.long q1), .second, .val (.long q2), .second] [])) _
      refine XS.iconst X2.here hx rfl (hb hby d3_22) ?_
      show Steps p.tables e below (T2.setTop (mkF m 23 #[.val (.ref a1), .val (.long q1), .second, .val (.long q2), .second] [(.int (1 : Int32))])) _
      refine XS.goto X2.here hx rfl (pc0 := 23) (pc' := 27) rfl (hb hby d3_23) (by decide) (by decide) ?_
      show Steps p.tables e below (T2.setTop (mkF m 27 #[.val (.ref a1), .val (.long q1), .second, .val (.long q2), .second] [(.int (1 : Int32))])) _
      rw [show (bI ((0 : Int64) < q1)) = (1 : Int32) from bI_pos (P := (0 : Int64) < q1) hm19] at k
      exact k
    · refine XS.ifYes X2.here hx rfl (pc0 := 19) (pc' := 26) rfl (hb hby d3_19) rfl ((if0 _ _).trans (flt (mt (lw_gt q1 (0 : Int64)).mp hm19)).2.2.2) (by decide) (by decide) ?_
      show Steps p.tables e below (T2.setTop (mkF m 26 #[.val (.ref a1), .val (.long q1), .second, .val (.long q2), .second] [])) _
      refine XS.iconst X2.here hx rfl (hb hby d3_26) ?_
      show Steps p.tables e below (T2.setTop (mkF m 27 #[.val (.ref a1), .val (.long q1), .second, .val (.long q2), .second] [(.int (0 : Int32))])) _
      rw [show (bI ((0 : Int64) < q1)) = (0 : Int32) from bI_neg (P := (0 : Int64) < q1) hm19] at k
      exact k
  refine OG.step s4 ?_
  have s5 : ∀ t, Steps p.tables e below (T2.setTop (mkF m 38 #[.val (.ref a1), .val (.long q1), .second, .val (.long q2), .second] [(.int (bI ((0 : Int64) < q2))), (.int (bI ((0 : Int64) < q1)))])) t → Steps p.tables e below (T2.setTop (mkF m 27 #[.val (.ref a1), .val (.long q1), .second, .val (.long q2), .second] [(.int (bI ((0 : Int64) < q1)))])) t := by
    intro t k
    refine XS.lloadN X2.here hx rfl (hb hby d3_27) rfl ?_
    show Steps p.tables e below (T2.setTop (mkF m 28 #[.val (.ref a1), .val (.long q1), .second, .val (.long q2), .second] [(.long q2), (.int (bI ((0 : Int64) < q1)))])) _
    refine XS.lconst X2.here hx rfl (hb hby d3_28) ?_
    show Steps p.tables e below (T2.setTop (mkF m 29 #[.val (.ref a1), .val (.long q1), .second, .val (.long q2), .second] [(.long (0 : Int64)), (.long q2), (.int (bI ((0 : Int64) < q1)))])) _
    refine XS.lcmp X2.here hx rfl (hb hby d3_29) rfl ?_
    show Steps p.tables e below (T2.setTop (mkF m 30 #[.val (.ref a1), .val (.long q1), .second, .val (.long q2), .second] [(.int (lcmpW q2 (0 : Int64))), (.int (bI ((0 : Int64) < q1)))])) _
    by_cases hm30 : (0 : Int64) < q2
    · refine XS.ifNo X2.here hx rfl (hb hby d3_30) rfl ((if0 _ _).trans (tlt ((lw_gt q2 (0 : Int64)).mpr hm30)).2.2.2) ?_
      show Steps p.tables e below (T2.setTop (mkF m 33 #[.val (.ref a1), .val (.long q1), .second, .val (.long q2), .second] [(.int (bI ((0 : Int64) < q1)))])) _
      refine XS.iconst X2.here hx rfl (hb hby d3_33) ?_
      show Steps p.tables e below (T2.setTop (mkF m 34 #[.val (.ref a1), .val (.long q1), .second, .val (.long q2), .second] [(.int (1 : Int32)), (.int (bI ((0 : Int64) < q1)))])) _
      refine XS.goto X2.here hx rfl (pc0 := 34) (pc' := 38) rfl (hb hby d3_34) (by decide) (by decide) ?_
      show Steps p.tables e below (T2.setTop (mkF m 38 #[.val (.ref a1), .val (.long q1), .second, .val (.long q2), .second] [(.int (1 : Int32)), (.int (bI ((0 : Int64) < q1)))])) _
      rw [show (bI ((0 : Int64) < q2)) = (1 : Int32) from bI_pos (P := (0 : Int64) < q2) hm30] at k
      exact k
    · refine XS.ifYes X2.here hx rfl (pc0 := 30) (pc' := 37) rfl (hb hby d3_30) rfl ((if0 _ _).trans (flt (mt (lw_gt q2 (0 : Int64)).mp hm30)).2.2.2) (by decide) (by decide) ?_
      show Steps p.tables e below (T2.setTop (mkF m 37 #[.val (.ref a1), .val (.long q1), .second, .val (.long q2), .second] [(.int (bI ((0 : Int64) < q1)))])) _
      refine XS.iconst X2.here hx rfl (hb hby d3_37) ?_
      show Steps p.tables e below (T2.setTop (mkF m 38 #[.val (.ref a1), .val (.long q1), .second, .val (.long q2), .second] [(.int (0 : Int32)), (.int (bI ((0 : Int64) < q1)))])) _
      rw [show (bI ((0 : Int64) < q2)) = (0 : Int32) from bI_neg (P := (0 : Int64) < q2) hm30] at k
      exact k
  refine OG.step s5 ?_
  have s6 : ∀ t, Steps p.tables e below (T2.setTop (mkF m 58 #[.val (.ref a1), .val (.long q1), .second, .val (.long q2), .second] [(.long q1), (.ref a1)])) t → Steps p.tables e below (T2.setTop (mkF m 38 #[.val (.ref a1), .val (.long q1), .second, .val (.long q2), .second] [(.int (bI ((0 : Int64) < q2))), (.int (bI ((0 : Int64) < q1)))])) t := by
    intro t k
    refine XS.icmpYes X2.here hx rfl (pc0 := 38) (pc' := 56) rfl (hb hby d3_38) rfl (feq h3).2 (by decide) (by decide) ?_
    show Steps p.tables e below (T2.setTop (mkF m 56 #[.val (.ref a1), .val (.long q1), .second, .val (.long q2), .second] [])) _
    refine XS.aloadN X2.here hx rfl (hb hby d3_56) rfl rfl ?_
    show Steps p.tables e below (T2.setTop (mkF m 57 #[.val (.ref a1), .val (.long q1), .second, .val (.long q2), .second] [(.ref a1)])) _
    refine XS.lloadN X2.here hx rfl (hb hby d3_57) rfl ?_
    exact k
  refine OG.step s6 ?_
  obtain ⟨T7, h7, X7, e7, W7, st7⟩ := putF X2 hx hZ hown (host := "") (Or.inl (hw _ (List.mem_of_getElem? (i := 21) rfl))) Via.refl e2 F1_a1_token F0_a1 (Or.inr ⟨(hw _ (List.mem_of_getElem? (i := 22) rfl)), rfl, hnm⟩) (hw _ (List.mem_of_getElem? (i := 5) rfl)) (ty := .long) (by decide) rfl rfl (g := (mkF m 58 #[.val (.ref a1), .val (.long q1), .second, .val (.long q2), .second] [(.long q1), (.ref a1)])) rfl rfl (hb hby d3_58)
  refine OG.step st7 ?_
  have fw7 := F1_a1_token.same W7
  have f8 := F0_a1.wr W7
  have f9 := F2_a1_retryMillis.other W7 (Or.inr (slot_ne (Or.inr (hw _ (List.mem_of_getElem? (i := 24) rfl))) (Or.inr (hw _ (List.mem_of_getElem? (i := 22) rfl))) (by decide) (t := .long) (t' := .long) (by decide) (by decide)))
  have K7 := K0.wr W7 (Or.inl (List.mem_of_getElem? (i := 0) rfl))
  have N7 := Fr.snoc X7 N2 g_a1
  show OG _ _ _ _ _ _ _ (T7.setTop (mkF m 61 #[.val (.ref a1), .val (.long q1), .second, .val (.long q2), .second] []))
  have s10 : ∀ t, Steps p.tables e below (T7.setTop (mkF m 63 #[.val (.ref a1), .val (.long q1), .second, .val (.long q2), .second] [(.long q2), (.ref a1)])) t → Steps p.tables e below (T7.setTop (mkF m 61 #[.val (.ref a1), .val (.long q1), .second, .val (.long q2), .second] [])) t := by
    intro t k
    refine XS.aloadN X7.here hx rfl (hb hby d3_61) rfl rfl ?_
    show Steps p.tables e below (T7.setTop (mkF m 62 #[.val (.ref a1), .val (.long q1), .second, .val (.long q2), .second] [(.ref a1)])) _
    refine XS.lloadN X7.here hx rfl (hb hby d3_62) rfl ?_
    exact k
  refine OG.step s10 ?_
  obtain ⟨T11, h11, X11, e11, W11, st11⟩ := putF X7 hx hZ hown (host := "") (Or.inl (hw _ (List.mem_of_getElem? (i := 23) rfl))) Via.refl e7 f9 f8 (Or.inr ⟨(hw _ (List.mem_of_getElem? (i := 24) rfl)), rfl, hnm⟩) (hw _ (List.mem_of_getElem? (i := 5) rfl)) (ty := .long) (by decide) rfl rfl (g := (mkF m 63 #[.val (.ref a1), .val (.long q1), .second, .val (.long q2), .second] [(.long q2), (.ref a1)])) rfl rfl (hb hby d3_63)
  refine OG.step st11 ?_
  have fw11 := f9.same W11
  have f12 := f8.wr W11
  have f13 := fw7.other W11 (Or.inr (slot_ne (Or.inr (hw _ (List.mem_of_getElem? (i := 22) rfl))) (Or.inr (hw _ (List.mem_of_getElem? (i := 24) rfl))) (by decide) (t := .long) (t' := .long) (by decide) (by decide)))
  have K11 := K7.wr W11 (Or.inl (List.mem_of_getElem? (i := 0) rfl))
  have N11 := Fr.snoc X11 N7 g_a1
  show OG _ _ _ _ _ _ _ (T11.setTop (mkF m 66 #[.val (.ref a1), .val (.long q1), .second, .val (.long q2), .second] []))
  exact OG.retV X11 hx hlk Bd.returns (hb hby d3_66) e11 ⟨rfl, N11, K11, f13, fw11⟩ (by decide) (by decide)
theorem own_asym {a b : Int64} (h : a < b) : ¬ b < a := by rw [Int64.lt_iff_toInt_lt] at *; omega
theorem own_max1 (r : Int64) : 0 < own_maxJ r 1 := by
  unfold own_maxJ; split
  · decide
  · rename_i h; rw [Int64.lt_iff_toInt_lt] at *; simp at *; omega
theorem d1_0 : decode prog_10_method_3_code 0 = .ok (.new 17, 3) := by decide +kernel
theorem d1_3 : decode prog_10_method_3_code 3 = .ok (.dup, 1) := by decide +kernel
theorem d1_4 : decode prog_10_method_3_code 4 = .ok (.lconst 0, 1) := by decide +kernel
theorem d1_5 : decode prog_10_method_3_code 5 = .ok (.lload_n 0, 1) := by decide +kernel
theorem d1_6 : decode prog_10_method_3_code 6 = .ok (.lconst 1, 1) := by decide +kernel
theorem d1_7 : decode prog_10_method_3_code 7 = .ok (.invokestatic 28, 3) := by decide +kernel
theorem d1_10 : decode prog_10_method_3_code 10 = .ok (.invokespecial 25, 3) := by decide +kernel
theorem d1_13 : decode prog_10_method_3_code 13 = .ok (.areturn, 1) := by decide +kernel
theorem ef_1 (m : MethodId) (x0 : Int64) : entryFrame m #[(.long x0)] 2 = mkF m 0 #[.val (.long x0), .second] [] := by first | (simp [entryFrame, mkF, argsToLocals, Value.category]; done) | rfl
def Q1 (Z : State) (q0 : Int64) (h0 : Heap) (n0 : Nat) (v : Option Value) (h : Heap) (L : List Loc) : Prop := ∃ (b : Addr), (v = some (.ref b)) ∧ (Fr n0 L) ∧ (Keep h0 h []) ∧ (Exa Z h b "com/example/maqfel/maqfel/LockStore$Attempt") ∧ (Fld Z h b "com/example/maqfel/maqfel/LockStore$Attempt" "token" "J" (.long (0 : Int64))) ∧ (Fld Z h b "com/example/maqfel/maqfel/LockStore$Attempt" "retryMillis" "J" (.long (own_maxJ q0 1))) ∧ (n0 ≤ b)
theorem pd__JJ_J : parseMethodDescriptor "(JJ)J" = some ⟨[.long, .long], some .long⟩ := by decide +kernel
theorem pd__JJ_V : parseMethodDescriptor "(JJ)V" = some ⟨[.long, .long], none⟩ := by decide +kernel
abbrev rom_1 : Room := { frames := 3, cells := 1, slots := 2, locals := 41 }
set_option maxRecDepth 65536 in
set_option maxHeartbeats 40000000 in
theorem rm1 (l : Launch) (Z : State) (a0 : Array Value) (hw : ∀ d ∈ tables_1, d.before a0 Z = true) (ws : List Jvm.Cond) (q0 : Int64) (h0 : Heap) (n0 : Nat) (Z0 : n0 ≤ h0.size) :
    MetFree l (⟨"com/example/maqfel/maqfel/LockStore$Attempt", "refused", "(J)Lcom/example/maqfel/maqfel/LockStore$Attempt;"⟩ : MethodName) (head1 (Jvm.Cond.code (⟨"com/example/maqfel/maqfel/LockStore$Attempt", "refused", "(J)Lcom/example/maqfel/maqfel/LockStore$Attempt;"⟩ : MethodName) prog_10_method_3_code 2 (some (.object "com/example/maqfel/maqfel/LockStore$Attempt")) :: ws) rom_1) (fun a U => a = #[(.long q0)] ∧ Z.Warmed39 U.vm ∧ U.heap = h0) (fun _ _ _ _ _ => True) (fun _ U o U' => ∃ v L, o = .returned v ∧ Q1 Z q0 h0 n0 v U'.heap L ∧ FrameEnd U o U' L rom_1.cells rom_1.slots) := by
  refine MetFree.of_bodySF (plainFor_of_name pn_com_example_maqfel_maqfel_LockStore_Attempt) hisR ?_
  intro p e s m args below meth c s₁ Bd hml0 hP hK
  obtain ⟨rfl, hZ, hh⟩ := hP
  have hx := Bd.exec
  have hby := Bd.bytes
  have hlk := Bd.notSynchronized
  have hml : c.maxLocals = 2 := hml0
  have hown : s.vm.findClass "com/example/maqfel/maqfel/LockStore$Attempt" = some m.cls := findClass_of_methodNamed Bd.named
  have hnm := (name_of_methodNamed Bd.named Bd.method).1
  have X0 : Stand p l e rom_1 s m #[(.long q0)] below meth c s₁ [] 0 0 := Stand.of_body Bd
  have e0 : s₁.heap = h0 := by rw [← hh, Bd.state]; rfl
  have N0 := Fr.nil n0
  have K0 : Keep h0 h0 [] := Keep.refl _ _
  refine (?_ : OG p e below s (Q1 Z q0 h0 n0) rom_1.cells rom_1.slots _)
  rw [ef_1]
  obtain ⟨T1, h1, X1, e1, E1, A1, D1, -, st1⟩ := newO X0 hx hZ hown (hw _ (List.mem_of_getElem? (i := 4) rfl)) (hw _ (List.mem_of_getElem? (i := 5) rfl)) (hw _ (List.mem_of_getElem? (i := 2) rfl)) e0 (g := (mkF m 0 #[.val (.long q0), .second] [])) rfl (hb hby d1_0) (by decide) (by decide)
  obtain ⟨b1, g1⟩ : ∃ z, z = h0.size := ⟨_, rfl⟩
  rw [← g1] at A1 D1 st1
  have sz1 : h0.size ≤ b1 := Nat.le_trans K0.1 (Nat.le_of_eq g1.symm)
  have ge1 : n0 ≤ b1 := Nat.le_trans Z0 sz1
  refine OG.step st1 ?_
  have F1_token : Fld Z h1 b1 "com/example/maqfel/maqfel/LockStore$Attempt" "token" "J" (.long (0 : Int64)) := D1 (Or.inr (hw _ (List.mem_of_getElem? (i := 22) rfl))) (ty := .long) (by decide)
  have F1_retryMillis : Fld Z h1 b1 "com/example/maqfel/maqfel/LockStore$Attempt" "retryMillis" "J" (.long (0 : Int64)) := D1 (Or.inr (hw _ (List.mem_of_getElem? (i := 24) rfl))) (ty := .long) (by decide)
  have K1 := K0.ext E1
  show OG _ _ _ _ _ _ _ (T1.setTop (mkF m 3 #[.val (.long q0), .second] [(.ref b1)]))
  have s2 : ∀ t, Steps p.tables e below (T1.setTop (mkF m 7 #[.val (.long q0), .second] [(.long (1 : Int64)), (.long q0), (.long (0 : Int64)), (.ref b1), (.ref b1)])) t → Steps p.tables e below (T1.setTop (mkF m 3 #[.val (.long q0), .second] [(.ref b1)])) t := by
    intro t k
    refine XS.dup X1.here hx rfl (hb hby d1_3) rfl rfl ?_
    show Steps p.tables e below (T1.setTop (mkF m 4 #[.val (.long q0), .second] [(.ref b1), (.ref b1)])) _
    refine XS.lconst X1.here hx rfl (hb hby d1_4) ?_
    show Steps p.tables e below (T1.setTop (mkF m 5 #[.val (.long q0), .second] [(.long (0 : Int64)), (.ref b1), (.ref b1)])) _
    refine XS.lloadN X1.here hx rfl (hb hby d1_5) rfl ?_
    show Steps p.tables e below (T1.setTop (mkF m 6 #[.val (.long q0), .second] [(.long q0), (.long (0 : Int64)), (.ref b1), (.ref b1)])) _
    refine XS.lconst X1.here hx rfl (hb hby d1_6) ?_
    exact k
  refine OG.step s2 ?_
  obtain ⟨_, _, ⟨T3, L3, k3, n3⟩, -, X3, ⟨Lc3, hQ3, l3, y3, z3⟩, st3⟩ := Jvm.LawKit.callS X1 hx (y := (⟨"java/lang/Math", "max", "(JJ)J"⟩ : MethodName)) hown (mvT hZ (hw _ (List.mem_of_getElem? (i := 6) rfl))) (mvT hZ (hw _ (List.mem_of_getElem? (i := 7) rfl))) (mvT hZ (hw _ (List.mem_of_getElem? (i := 8) rfl))) (mvT hZ (hw _ (List.mem_of_getElem? (i := 9) rfl))) (by decide) (backOf (W := 4) (rm2 l Z a0 hw [] q0 (1 : Int64) h1 n0 (Nat.le_trans Z0 K1.1)) hZ (hw _ (List.mem_of_getElem? (i := 9) rfl)) (hw _ (List.mem_of_getElem? (i := 8) rfl)) (by decide) (by decide)) (g := (mkF m 7 #[.val (.long q0), .second] [(.long (1 : Int64)), (.long q0), (.long (0 : Int64)), (.ref b1), (.ref b1)])) rfl (by rw [hml]; rfl) (argsL := [(.long q0), (.long (1 : Int64))]) (rest := [(.long (0 : Int64)), (.ref b1), (.ref b1)]) (lenOf pd__JJ_J rfl) rfl (by show 2 * 0 + _ ≤ _; exact Nat.le_of_eq rfl) (hb hby d1_7) (fun _ _ => ⟨rfl, e1, (by decide : 1 + 0 ≤ _), (by decide : 2 + 0 ≤ _)⟩)
  dsimp only [Pt.U, Pt.locs, Pt.cells, Pt.slots] at X3 l3 y3 z3 st3 hQ3
  subst l3 y3 z3
  obtain ⟨rfl, N3q, e3⟩ := hQ3
  have N3 := Fr.app N0 N3q
  refine OG.step st3 ?_
  show OG _ _ _ _ _ _ _ (T3.setTop (mkF m 10 #[.val (.long q0), .second] [(.long (own_maxJ q0 1)), (.long (0 : Int64)), (.ref b1), (.ref b1)]))
  obtain ⟨_, _, ⟨T4, L4, k4, n4⟩, -, X4, ⟨Lc4, hQ4, l4, y4, z4⟩, st4⟩ := X3.specialBack hx (y := (⟨"com/example/maqfel/maqfel/LockStore$Attempt", "<init>", "(JJ)V"⟩ : MethodName)) rfl hown (mvT hZ (hw _ (List.mem_of_getElem? (i := 10) rfl))) (mvT hZ (hw _ (List.mem_of_getElem? (i := 11) rfl))) (mvT hZ (hw _ (List.mem_of_getElem? (i := 12) rfl))) (by decide) (backOf (W := 1) (rm3 l Z a0 hw [] b1 (0 : Int64) (own_maxJ q0 1) (.long (0 : Int64)) (.long (0 : Int64)) h1 n0 (Nat.le_trans Z0 K1.1) A1 F1_token F1_retryMillis ge1 (by decide) (own_asym (own_max1 _)) (by rw [bI_neg (by decide), bI_pos (own_max1 _)]; decide)) hZ (hw _ (List.mem_of_getElem? (i := 12) rfl)) (hw _ (List.mem_of_getElem? (i := 2) rfl)) (by decide) (by decide)) (g := (mkF m 10 #[.val (.long q0), .second] [(.long (own_maxJ q0 1)), (.long (0 : Int64)), (.ref b1), (.ref b1)])) rfl (by rw [hml]; rfl) (Steps.refl _) (a := b1) (argsL := [(.long (0 : Int64)), (.long (own_maxJ q0 1))]) (rest := [(.ref b1)]) (lenOf pd__JJ_V rfl) rfl (by show 2 * 0 + _ ≤ _; exact Nat.le_of_eq rfl) (hb hby d1_10) (fun _ _ => ⟨rfl, e3, (by decide : 1 + 0 ≤ _), (by decide : 2 + 0 ≤ _)⟩)
  dsimp only [Pt.U, Pt.locs, Pt.cells, Pt.slots] at X4 l4 y4 z4 st4 hQ4
  subst l4 y4 z4
  obtain ⟨rfl, N4q, Kc4, p4_0, p4_1⟩ := hQ4
  have N4 := Fr.app N3 N4q
  refine OG.step (fun t k => st4.trans k) ?_
  have f5 := A1.keep Kc4
  have K4 := K1.trans Kc4 (allS (Or.inr sz1) all0)
  show OG _ _ _ _ _ _ _ (T4.setTop (mkF m 13 #[.val (.long q0), .second] [(.ref b1)]))
  exact OG.retR X4 hx hlk Bd.returns (by decide) (hb hby d1_13) rfl ⟨b1, rfl, N4, K4, f5, p4_0, p4_1, ge1⟩ (by decide) (by decide)
theorem d6_0 : decode prog_10_method_8_code 0 = .ok (.aload_n 0, 1) := by decide +kernel
theorem d6_1 : decode prog_10_method_8_code 1 = .ok (.getfield 16, 3) := by decide +kernel
theorem d6_4 : decode prog_10_method_8_code 4 = .ok (.lreturn, 1) := by decide +kernel
theorem ef_6 (m : MethodId) (x0 : Addr) : entryFrame m #[(.ref x0)] 1 = mkF m 0 #[.val (.ref x0)] [] := by first | (simp [entryFrame, mkF, argsToLocals, Value.category]; done) | rfl
def Q6 (Z : State) (a1 : Addr) (w : Int64) (h0 : Heap) (n0 : Nat) (v : Option Value) (h : Heap) (L : List Loc) : Prop := (v = some (.long w)) ∧ (Fr n0 L) ∧ (h = h0)
abbrev rom_6 : Room := { frames := 0, cells := 0, slots := 0, locals := 0 }
set_option maxRecDepth 65536 in
set_option maxHeartbeats 40000000 in
theorem rm6 (l : Launch) (Z : State) (a0 : Array Value) (hw : ∀ d ∈ tables_1, d.before a0 Z = true) (ws : List Jvm.Cond) (a1 : Addr) (w : Int64) (h0 : Heap) (n0 : Nat) (Z0 : n0 ≤ h0.size) (F0_a1_token : Fld Z h0 a1 "com/example/maqfel/maqfel/LockStore$Attempt" "token" "J" (.long w)) :
    MetFree l (⟨"com/example/maqfel/maqfel/LockStore$Attempt", "token", "()J"⟩ : MethodName) (head1 (Jvm.Cond.code (⟨"com/example/maqfel/maqfel/LockStore$Attempt", "token", "()J"⟩ : MethodName) prog_10_method_8_code 1 (some .long) :: ws) rom_6) (fun a U => a = #[(.ref a1)] ∧ Z.Warmed39 U.vm ∧ U.heap = h0) (fun _ _ _ _ _ => True) (fun _ U o U' => ∃ v L, o = .returned v ∧ Q6 Z a1 w h0 n0 v U'.heap L ∧ FrameEnd U o U' L rom_6.cells rom_6.slots) := by
  refine MetFree.of_bodySF (plainFor_of_name pn_com_example_maqfel_maqfel_LockStore_Attempt) hisR ?_
  intro p e s m args below meth c s₁ Bd hml0 hP hK
  obtain ⟨rfl, hZ, hh⟩ := hP
  have hx := Bd.exec
  have hby := Bd.bytes
  have hlk := Bd.notSynchronized
  have hml : c.maxLocals = 1 := hml0
  have hown : s.vm.findClass "com/example/maqfel/maqfel/LockStore$Attempt" = some m.cls := findClass_of_methodNamed Bd.named
  have hnm := (name_of_methodNamed Bd.named Bd.method).1
  have X0 : Stand p l e rom_6 s m #[(.ref a1)] below meth c s₁ [] 0 0 := Stand.of_body Bd
  have e0 : s₁.heap = h0 := by rw [← hh, Bd.state]; rfl
  have N0 := Fr.nil n0
  have K0 : Keep h0 h0 [] := Keep.refl _ _
  refine (?_ : OG p e below s (Q6 Z a1 w h0 n0) rom_6.cells rom_6.slots _)
  rw [ef_6]
  have s1 : ∀ t, Steps p.tables e below (s₁.setTop (mkF m 1 #[.val (.ref a1)] [(.ref a1)])) t → Steps p.tables e below (s₁.setTop (mkF m 0 #[.val (.ref a1)] [])) t := by
    intro t k
    refine XS.aloadN X0.here hx rfl (hb hby d6_0) rfl rfl ?_
    exact k
  refine OG.step s1 ?_
  obtain ⟨T2, X2, e2, st2⟩ := getF X0 hx hZ hown (host := "") (Or.inl (hw _ (List.mem_of_getElem? (i := 21) rfl))) Via.refl e0 F0_a1_token (g := (mkF m 1 #[.val (.ref a1)] [(.ref a1)])) rfl rfl (hb hby d6_1)
  refine OG.step st2 ?_
  show OG _ _ _ _ _ _ _ (T2.setTop (mkF m 4 #[.val (.ref a1)] [(.long w)]))
  exact OG.retJ X2 hx hlk Bd.returns (hb hby d6_4) e2 ⟨rfl, N0, rfl⟩ (by decide) (by decide)
theorem d7_0 : decode prog_10_method_9_code 0 = .ok (.aload_n 0, 1) := by decide +kernel
theorem d7_1 : decode prog_10_method_9_code 1 = .ok (.getfield 22, 3) := by decide +kernel
theorem d7_4 : decode prog_10_method_9_code 4 = .ok (.lreturn, 1) := by decide +kernel
theorem ef_7 (m : MethodId) (x0 : Addr) : entryFrame m #[(.ref x0)] 1 = mkF m 0 #[.val (.ref x0)] [] := by first | (simp [entryFrame, mkF, argsToLocals, Value.category]; done) | rfl
def Q7 (Z : State) (a1 : Addr) (w : Int64) (h0 : Heap) (n0 : Nat) (v : Option Value) (h : Heap) (L : List Loc) : Prop := (v = some (.long w)) ∧ (Fr n0 L) ∧ (h = h0)
abbrev rom_7 : Room := { frames := 0, cells := 0, slots := 0, locals := 0 }
set_option maxRecDepth 65536 in
set_option maxHeartbeats 40000000 in
theorem rm7 (l : Launch) (Z : State) (a0 : Array Value) (hw : ∀ d ∈ tables_1, d.before a0 Z = true) (ws : List Jvm.Cond) (a1 : Addr) (w : Int64) (h0 : Heap) (n0 : Nat) (Z0 : n0 ≤ h0.size) (F0_a1_retryMillis : Fld Z h0 a1 "com/example/maqfel/maqfel/LockStore$Attempt" "retryMillis" "J" (.long w)) :
    MetFree l (⟨"com/example/maqfel/maqfel/LockStore$Attempt", "retryMillis", "()J"⟩ : MethodName) (head1 (Jvm.Cond.code (⟨"com/example/maqfel/maqfel/LockStore$Attempt", "retryMillis", "()J"⟩ : MethodName) prog_10_method_9_code 1 (some .long) :: ws) rom_7) (fun a U => a = #[(.ref a1)] ∧ Z.Warmed39 U.vm ∧ U.heap = h0) (fun _ _ _ _ _ => True) (fun _ U o U' => ∃ v L, o = .returned v ∧ Q7 Z a1 w h0 n0 v U'.heap L ∧ FrameEnd U o U' L rom_7.cells rom_7.slots) := by
  refine MetFree.of_bodySF (plainFor_of_name pn_com_example_maqfel_maqfel_LockStore_Attempt) hisR ?_
  intro p e s m args below meth c s₁ Bd hml0 hP hK
  obtain ⟨rfl, hZ, hh⟩ := hP
  have hx := Bd.exec
  have hby := Bd.bytes
  have hlk := Bd.notSynchronized
  have hml : c.maxLocals = 1 := hml0
  have hown : s.vm.findClass "com/example/maqfel/maqfel/LockStore$Attempt" = some m.cls := findClass_of_methodNamed Bd.named
  have hnm := (name_of_methodNamed Bd.named Bd.method).1
  have X0 : Stand p l e rom_7 s m #[(.ref a1)] below meth c s₁ [] 0 0 := Stand.of_body Bd
  have e0 : s₁.heap = h0 := by rw [← hh, Bd.state]; rfl
  have N0 := Fr.nil n0
  have K0 : Keep h0 h0 [] := Keep.refl _ _
  refine (?_ : OG p e below s (Q7 Z a1 w h0 n0) rom_7.cells rom_7.slots _)
  rw [ef_7]
  have s1 : ∀ t, Steps p.tables e below (s₁.setTop (mkF m 1 #[.val (.ref a1)] [(.ref a1)])) t → Steps p.tables e below (s₁.setTop (mkF m 0 #[.val (.ref a1)] [])) t := by
    intro t k
    refine XS.aloadN X0.here hx rfl (hb hby d7_0) rfl rfl ?_
    exact k
  refine OG.step s1 ?_
  obtain ⟨T2, X2, e2, st2⟩ := getF X0 hx hZ hown (host := "") (Or.inl (hw _ (List.mem_of_getElem? (i := 23) rfl))) Via.refl e0 F0_a1_retryMillis (g := (mkF m 1 #[.val (.ref a1)] [(.ref a1)])) rfl rfl (hb hby d7_1)
  refine OG.step st2 ?_
  show OG _ _ _ _ _ _ _ (T2.setTop (mkF m 4 #[.val (.ref a1)] [(.long w)]))
  exact OG.retJ X2 hx hlk Bd.returns (hb hby d7_4) e2 ⟨rfl, N0, rfl⟩ (by decide) (by decide)
theorem d8_0 : decode prog_10_method_4_code 0 = .ok (.aload_n 0, 1) := by decide +kernel
theorem d8_1 : decode prog_10_method_4_code 1 = .ok (.getfield 16, 3) := by decide +kernel
theorem d8_4 : decode prog_10_method_4_code 4 = .ok (.lconst 0, 1) := by decide +kernel
theorem d8_5 : decode prog_10_method_4_code 5 = .ok (.lcmp, 1) := by decide +kernel
theorem d8_6 : decode prog_10_method_4_code 6 = .ok (.ifCond .le 7, 3) := by decide +kernel
theorem d8_9 : decode prog_10_method_4_code 9 = .ok (.iconst 1, 1) := by decide +kernel
theorem d8_10 : decode prog_10_method_4_code 10 = .ok (.goto 4, 3) := by decide +kernel
theorem d8_13 : decode prog_10_method_4_code 13 = .ok (.iconst 0, 1) := by decide +kernel
theorem d8_14 : decode prog_10_method_4_code 14 = .ok (.ireturn, 1) := by decide +kernel
theorem ef_8 (m : MethodId) (x0 : Addr) : entryFrame m #[(.ref x0)] 1 = mkF m 0 #[.val (.ref x0)] [] := by first | (simp [entryFrame, mkF, argsToLocals, Value.category]; done) | rfl
def Q8 (Z : State) (a1 : Addr) (w : Int64) (h0 : Heap) (n0 : Nat) (v : Option Value) (h : Heap) (L : List Loc) : Prop := (v = some (.int (bI (0 < w)))) ∧ (Fr n0 L) ∧ (h = h0)
abbrev rom_8 : Room := { frames := 0, cells := 0, slots := 0, locals := 0 }
set_option maxRecDepth 65536 in
set_option maxHeartbeats 40000000 in
theorem rm8 (l : Launch) (Z : State) (a0 : Array Value) (hw : ∀ d ∈ tables_1, d.before a0 Z = true) (ws : List Jvm.Cond) (a1 : Addr) (w : Int64) (h0 : Heap) (n0 : Nat) (Z0 : n0 ≤ h0.size) (F0_a1_token : Fld Z h0 a1 "com/example/maqfel/maqfel/LockStore$Attempt" "token" "J" (.long w)) :
    MetFree l (⟨"com/example/maqfel/maqfel/LockStore$Attempt", "isGranted", "()Z"⟩ : MethodName) (head1 (Jvm.Cond.code (⟨"com/example/maqfel/maqfel/LockStore$Attempt", "isGranted", "()Z"⟩ : MethodName) prog_10_method_4_code 1 (some .boolean) :: ws) rom_8) (fun a U => a = #[(.ref a1)] ∧ Z.Warmed39 U.vm ∧ U.heap = h0) (fun _ _ _ _ _ => True) (fun _ U o U' => ∃ v L, o = .returned v ∧ Q8 Z a1 w h0 n0 v U'.heap L ∧ FrameEnd U o U' L rom_8.cells rom_8.slots) := by
  refine MetFree.of_bodySF (plainFor_of_name pn_com_example_maqfel_maqfel_LockStore_Attempt) hisR ?_
  intro p e s m args below meth c s₁ Bd hml0 hP hK
  obtain ⟨rfl, hZ, hh⟩ := hP
  have hx := Bd.exec
  have hby := Bd.bytes
  have hlk := Bd.notSynchronized
  have hml : c.maxLocals = 1 := hml0
  have hown : s.vm.findClass "com/example/maqfel/maqfel/LockStore$Attempt" = some m.cls := findClass_of_methodNamed Bd.named
  have hnm := (name_of_methodNamed Bd.named Bd.method).1
  have X0 : Stand p l e rom_8 s m #[(.ref a1)] below meth c s₁ [] 0 0 := Stand.of_body Bd
  have e0 : s₁.heap = h0 := by rw [← hh, Bd.state]; rfl
  have N0 := Fr.nil n0
  have K0 : Keep h0 h0 [] := Keep.refl _ _
  refine (?_ : OG p e below s (Q8 Z a1 w h0 n0) rom_8.cells rom_8.slots _)
  rw [ef_8]
  have s1 : ∀ t, Steps p.tables e below (s₁.setTop (mkF m 1 #[.val (.ref a1)] [(.ref a1)])) t → Steps p.tables e below (s₁.setTop (mkF m 0 #[.val (.ref a1)] [])) t := by
    intro t k
    refine XS.aloadN X0.here hx rfl (hb hby d8_0) rfl rfl ?_
    exact k
  refine OG.step s1 ?_
  obtain ⟨T2, X2, e2, st2⟩ := getF X0 hx hZ hown (host := "") (Or.inl (hw _ (List.mem_of_getElem? (i := 21) rfl))) Via.refl e0 F0_a1_token (g := (mkF m 1 #[.val (.ref a1)] [(.ref a1)])) rfl rfl (hb hby d8_1)
  refine OG.step st2 ?_
  show OG _ _ _ _ _ _ _ (T2.setTop (mkF m 4 #[.val (.ref a1)] [(.long w)]))
  have s3 : ∀ t, Steps p.tables e below (T2.setTop (mkF m 6 #[.val (.ref a1)] [(.int (lcmpW w (0 : Int64)))])) t → Steps p.tables e below (T2.setTop (mkF m 4 #[.val (.ref a1)] [(.long w)])) t := by
    intro t k
    refine XS.lconst X2.here hx rfl (hb hby d8_4) ?_
    show Steps p.tables e below (T2.setTop (mkF m 5 #[.val (.ref a1)] [(.long (0 : Int64)), (.long w)])) _
    refine XS.lcmp X2.here hx rfl (hb hby d8_5) rfl ?_
    exact k
  refine OG.step s3 ?_
  have s4 : ∀ t, Steps p.tables e below (T2.setTop (mkF m 14 #[.val (.ref a1)] [(.int (bI ((0 : Int64) < w)))])) t → Steps p.tables e below (T2.setTop (mkF m 6 #[.val (.ref a1)] [(.int (lcmpW w (0 : Int64)))])) t := by
    intro t k
    by_cases hm6 : (0 : Int64) < w
    · refine XS.ifNo X2.here hx rfl (hb hby d8_6) rfl ((if0 _ _).trans (tlt ((lw_gt w (0 : Int64)).mpr hm6)).2.2.2) ?_
      show Steps p.tables e below (T2.setTop (mkF m 9 #[.val (.ref a1)] [])) _
      refine XS.iconst X2.here hx rfl (hb hby d8_9) ?_
      show Steps p.tables e below (T2.setTop (mkF m 10 #[.val (.ref a1)] [(.int (1 : Int32))])) _
      refine XS.goto X2.here hx rfl (pc0 := 10) (pc' := 14) rfl (hb hby d8_10) (by decide) (by decide) ?_
      show Steps p.tables e below (T2.setTop (mkF m 14 #[.val (.ref a1)] [(.int (1 : Int32))])) _
      rw [show (bI ((0 : Int64) < w)) = (1 : Int32) from bI_pos (P := (0 : Int64) < w) hm6] at k
      exact k
    · refine XS.ifYes X2.here hx rfl (pc0 := 6) (pc' := 13) rfl (hb hby d8_6) rfl ((if0 _ _).trans (flt (mt (lw_gt w (0 : Int64)).mp hm6)).2.2.2) (by decide) (by decide) ?_
      show Steps p.tables e below (T2.setTop (mkF m 13 #[.val (.ref a1)] [])) _
      refine XS.iconst X2.here hx rfl (hb hby d8_13) ?_
      show Steps p.tables e below (T2.setTop (mkF m 14 #[.val (.ref a1)] [(.int (0 : Int32))])) _
      rw [show (bI ((0 : Int64) < w)) = (0 : Int32) from bI_neg (P := (0 : Int64) < w) hm6] at k
      exact k
  refine OG.step s4 ?_
  exact OG.retZ X2 hx hlk Bd.returns (hb hby d8_14) (nar_bI _) e2 ⟨(by simp []), N0, rfl⟩ (by decide) (by decide)
theorem pn_com_example_maqfel_maqfel_AttemptRefusedPinLaw : plainName "com/example/maqfel/maqfel/AttemptRefusedPinLaw" = true := by first | (simp [plainName, overriddenIn]; done) | decide +kernel
theorem ef_0 (m : MethodId) (x0 : Int64) : entryFrame m #[(.long x0)] maxLocals = mkF m 0 #[.val (.long x0), .second, .unset, .unset, .unset] [] := by first | (simp [entryFrame, mkF, argsToLocals, Value.category, maxLocals]; done) | rfl
def Q0 (Z : State) (q0 : Int64) (h0 : Heap) (n0 : Nat) (v : Option Value) (h : Heap) (L : List Loc) : Prop := (v = some (.int (1 : Int32))) ∧ (Fr n0 L)
theorem pd__J_Lcom_example_maqfel_maqfel_LockStore_Attempt_ : parseMethodDescriptor "(J)Lcom/example/maqfel/maqfel/LockStore$Attempt;" = some ⟨[.long], some (.object "com/example/maqfel/maqfel/LockStore$Attempt")⟩ := by decide +kernel
theorem pd___J : parseMethodDescriptor "()J" = some ⟨[], some .long⟩ := by decide +kernel
theorem pd___Z : parseMethodDescriptor "()Z" = some ⟨[], some .boolean⟩ := by decide +kernel
set_option maxRecDepth 65536 in
set_option maxHeartbeats 40000000 in
theorem rm0 (l : Launch) (Z : State) (a0 : Array Value) (hw : ∀ d ∈ tables_1, d.before a0 Z = true) (ws : List Jvm.Cond) (q0 : Int64) (h0 : Heap) (n0 : Nat) (Z0 : n0 ≤ h0.size) :
    MetFree l x (head1 (Jvm.Cond.code x code maxLocals ret :: ws) room_1) (fun a U => a = #[(.long q0)] ∧ Z.Warmed39 U.vm ∧ U.heap = h0) (fun _ _ _ _ _ => True) (fun _ U o U' => ∃ v L, o = .returned v ∧ Q0 Z q0 h0 n0 v U'.heap L ∧ FrameEnd U o U' L room_1.cells room_1.slots) := by
  refine MetFree.of_bodySF (plainFor_of_name pn_com_example_maqfel_maqfel_AttemptRefusedPinLaw) hisR ?_
  intro p e s m args below meth c s₁ Bd hml0 hP hK
  obtain ⟨rfl, hZ, hh⟩ := hP
  have hx := Bd.exec
  have hby := Bd.bytes
  have hlk := Bd.notSynchronized
  have hml : c.maxLocals = 5 := hml0
  have hown : s.vm.findClass "com/example/maqfel/maqfel/AttemptRefusedPinLaw" = some m.cls := findClass_of_methodNamed Bd.named
  have hnm := (name_of_methodNamed Bd.named Bd.method).1
  have X0 : Stand p l e room_1 s m #[(.long q0)] below meth c s₁ [] 0 0 := Stand.of_body Bd
  have e0 : s₁.heap = h0 := by rw [← hh, Bd.state]; rfl
  have N0 := Fr.nil n0
  have K0 : Keep h0 h0 [] := Keep.refl _ _
  refine (?_ : OG p e below s (Q0 Z q0 h0 n0) room_1.cells room_1.slots _)
  rw [ef_0]
  have s1 : ∀ t, Steps p.tables e below (s₁.setTop (mkF m 1 #[.val (.long q0), .second, .unset, .unset, .unset] [(.long q0)])) t → Steps p.tables e below (s₁.setTop (mkF m 0 #[.val (.long q0), .second, .unset, .unset, .unset] [])) t := by
    intro t k
    refine XS.lloadN X0.here hx rfl (hb hby at_0) rfl ?_
    exact k
  refine OG.step s1 ?_
  obtain ⟨_, _, ⟨T2, L2, k2, n2⟩, -, X2, ⟨Lc2, hQ2, l2, y2, z2⟩, st2⟩ := Jvm.LawKit.callS X0 hx (y := (⟨"com/example/maqfel/maqfel/LockStore$Attempt", "refused", "(J)Lcom/example/maqfel/maqfel/LockStore$Attempt;"⟩ : MethodName)) hown (mvT hZ (hw _ (List.mem_of_getElem? (i := 0) rfl))) (mvT hZ (hw _ (List.mem_of_getElem? (i := 1) rfl))) (mvT hZ (hw _ (List.mem_of_getElem? (i := 2) rfl))) (mvT hZ (hw _ (List.mem_of_getElem? (i := 3) rfl))) (by decide) (backOf (W := 0) (rm1 l Z a0 hw [] q0 h0 n0 (Nat.le_trans Z0 K0.1)) hZ (hw _ (List.mem_of_getElem? (i := 3) rfl)) (hw _ (List.mem_of_getElem? (i := 2) rfl)) (by decide) (by decide)) (g := (mkF m 1 #[.val (.long q0), .second, .unset, .unset, .unset] [(.long q0)])) rfl (by rw [hml]; rfl) (argsL := [(.long q0)]) (rest := []) (lenOf pd__J_Lcom_example_maqfel_maqfel_LockStore_Attempt_ rfl) rfl (by show 2 * 0 + _ ≤ _; exact Nat.le_of_eq rfl) (hb hby at_1) (fun _ _ => ⟨rfl, e0, (by decide : 0 + 1 ≤ _), (by decide : 0 + 2 ≤ _)⟩)
  dsimp only [Pt.U, Pt.locs, Pt.cells, Pt.slots] at X2 l2 y2 z2 st2 hQ2
  subst l2 y2 z2
  obtain ⟨b_2, rfl, N2q, Kc2, p2_0, p2_1, p2_2, u2_0⟩ := hQ2
  have N2 := Fr.app N0 N2q
  refine OG.step st2 ?_
  have K2 := K0.trans Kc2 all0
  show OG _ _ _ _ _ _ _ (T2.setTop (mkF m 4 #[.val (.long q0), .second, .unset, .unset, .unset] [(.ref b_2)]))
  have s3 : ∀ t, Steps p.tables e below (T2.setTop (mkF m 10 #[.val (.long q0), .second, .val (.ref b_2), .val (.long q0), .second] [(.int (lcmpW q0 (1 : Int64)))])) t → Steps p.tables e below (T2.setTop (mkF m 4 #[.val (.long q0), .second, .unset, .unset, .unset] [(.ref b_2)])) t := by
    intro t k
    refine XS.astoreN X2.here hx rfl (hb hby at_4) rfl rfl (l' := #[.val (.long q0), .second, .val (.ref b_2), .unset, .unset]) rfl ?_
    show Steps p.tables e below (T2.setTop (mkF m 5 #[.val (.long q0), .second, .val (.ref b_2), .unset, .unset] [])) _
    refine XS.lloadN X2.here hx rfl (hb hby at_5) rfl ?_
    show Steps p.tables e below (T2.setTop (mkF m 6 #[.val (.long q0), .second, .val (.ref b_2), .unset, .unset] [(.long q0)])) _
    refine XS.lstoreN X2.here hx rfl (hb hby at_6) rfl (l' := #[.val (.long q0), .second, .val (.ref b_2), .val (.long q0), .second]) rfl ?_
    show Steps p.tables e below (T2.setTop (mkF m 7 #[.val (.long q0), .second, .val (.ref b_2), .val (.long q0), .second] [])) _
    refine XS.lloadN X2.here hx rfl (hb hby at_7) rfl ?_
    show Steps p.tables e below (T2.setTop (mkF m 8 #[.val (.long q0), .second, .val (.ref b_2), .val (.long q0), .second] [(.long q0)])) _
    refine XS.lconst X2.here hx rfl (hb hby at_8) ?_
    show Steps p.tables e below (T2.setTop (mkF m 9 #[.val (.long q0), .second, .val (.ref b_2), .val (.long q0), .second] [(.long (1 : Int64)), (.long q0)])) _
    refine XS.lcmp X2.here hx rfl (hb hby at_9) rfl ?_
    exact k
  refine OG.step s3 ?_
  have s4 : ∀ t, Steps p.tables e below (T2.setTop (mkF m 15 #[.val (.long q0), .second, .val (.ref b_2), .val (.long (if q0 < (1 : Int64) then (1 : Int64) else q0)), .second] [])) t → Steps p.tables e below (T2.setTop (mkF m 10 #[.val (.long q0), .second, .val (.ref b_2), .val (.long q0), .second] [(.int (lcmpW q0 (1 : Int64)))])) t := by
    intro t k
    by_cases hm10 : q0 < (1 : Int64)
    · refine XS.ifNo X2.here hx rfl (hb hby at_10) rfl ((if0 _ _).trans (tlt ((lw_lt q0 (1 : Int64)).mpr hm10)).2.1) ?_
      show Steps p.tables e below (T2.setTop (mkF m 13 #[.val (.long q0), .second, .val (.ref b_2), .val (.long q0), .second] [])) _
      refine XS.lconst X2.here hx rfl (hb hby at_13) ?_
      show Steps p.tables e below (T2.setTop (mkF m 14 #[.val (.long q0), .second, .val (.ref b_2), .val (.long q0), .second] [(.long (1 : Int64))])) _
      refine XS.lstoreN X2.here hx rfl (hb hby at_14) rfl (l' := #[.val (.long q0), .second, .val (.ref b_2), .val (.long (1 : Int64)), .second]) rfl ?_
      show Steps p.tables e below (T2.setTop (mkF m 15 #[.val (.long q0), .second, .val (.ref b_2), .val (.long (1 : Int64)), .second] [])) _
      rw [show (if q0 < (1 : Int64) then (1 : Int64) else q0) = (1 : Int64) from (if_pos hm10)] at k
      exact k
    · refine XS.ifYes X2.here hx rfl (pc0 := 10) (pc' := 15) rfl (hb hby at_10) rfl ((if0 _ _).trans (flt (mt (lw_lt q0 (1 : Int64)).mp hm10)).2.1) (by decide) (by decide) ?_
      show Steps p.tables e below (T2.setTop (mkF m 15 #[.val (.long q0), .second, .val (.ref b_2), .val (.long q0), .second] [])) _
      rw [show (if q0 < (1 : Int64) then (1 : Int64) else q0) = q0 from (if_neg hm10)] at k
      exact k
  refine OG.step s4 ?_
  have s5 : ∀ t, Steps p.tables e below (T2.setTop (mkF m 16 #[.val (.long q0), .second, .val (.ref b_2), .val (.long (if q0 < (1 : Int64) then (1 : Int64) else q0)), .second] [(.ref b_2)])) t → Steps p.tables e below (T2.setTop (mkF m 15 #[.val (.long q0), .second, .val (.ref b_2), .val (.long (if q0 < (1 : Int64) then (1 : Int64) else q0)), .second] [])) t := by
    intro t k
    refine XS.aloadN X2.here hx rfl (hb hby at_15) rfl rfl ?_
    exact k
  refine OG.step s5 ?_
  obtain ⟨cq6, kq6, q6a, q6b, q6c⟩ := isOf hZ rfl p2_0
  obtain ⟨_, _, ⟨T6, L6, k6, n6⟩, -, X6, ⟨Lc6, hQ6, l6, y6, z6⟩, st6⟩ := X2.virtualBack hx (y := (⟨"com/example/maqfel/maqfel/LockStore$Attempt", "token", "()J"⟩ : MethodName)) (z := (⟨"com/example/maqfel/maqfel/LockStore$Attempt", "token", "()J"⟩ : MethodName)) hown (mvT hZ (hw _ (List.mem_of_getElem? (i := 25) rfl))) (mvT hZ (hw _ (List.mem_of_getElem? (i := 26) rfl))) (notFace_of_selects (args := #[]) (mvT hZ (hw _ (List.mem_of_getElem? (i := 28) rfl)))) (mvT hZ (hw _ (List.mem_of_getElem? (i := 28) rfl))) (mvT hZ (hw _ (List.mem_of_getElem? (i := 27) rfl))) (by decide) (backOf (W := 0) (rm6 l Z a0 hw [] b_2 (0 : Int64) T2.heap n0 (Nat.le_trans Z0 K2.1) p2_1) hZ (hw _ (List.mem_of_getElem? (i := 29) rfl)) (hw _ (List.mem_of_getElem? (i := 2) rfl)) (by decide) (by decide)) q6a q6c (g := (mkF m 16 #[.val (.long q0), .second, .val (.ref b_2), .val (.long (if q0 < (1 : Int64) then (1 : Int64) else q0)), .second] [(.ref b_2)])) rfl (by rw [hml]; rfl) (Steps.refl _) (argsL := []) (rest := []) (lenOf pd___J rfl) rfl (by show 2 * 0 + _ ≤ _; exact Nat.le_of_eq rfl) (hb hby at_16) (fun _ _ => ⟨rfl, rfl, (by decide : 1 + 0 ≤ _), (by decide : 2 + 0 ≤ _)⟩)
  dsimp only [Pt.U, Pt.locs, Pt.cells, Pt.slots] at X6 l6 y6 z6 st6 hQ6
  subst l6 y6 z6
  obtain ⟨rfl, N6q, e6⟩ := hQ6
  have N6 := Fr.app N2 N6q
  refine OG.step (fun t k => st6.trans k) ?_
  show OG _ _ _ _ _ _ _ (T6.setTop (mkF m 19 #[.val (.long q0), .second, .val (.ref b_2), .val (.long (if q0 < (1 : Int64) then (1 : Int64) else q0)), .second] [(.long (0 : Int64))]))
  have s7 : ∀ t, Steps p.tables e below (T6.setTop (mkF m 25 #[.val (.long q0), .second, .val (.ref b_2), .val (.long (if q0 < (1 : Int64) then (1 : Int64) else q0)), .second] [(.ref b_2)])) t → Steps p.tables e below (T6.setTop (mkF m 19 #[.val (.long q0), .second, .val (.ref b_2), .val (.long (if q0 < (1 : Int64) then (1 : Int64) else q0)), .second] [(.long (0 : Int64))])) t := by
    intro t k
    refine XS.lconst X6.here hx rfl (hb hby at_19) ?_
    show Steps p.tables e below (T6.setTop (mkF m 20 #[.val (.long q0), .second, .val (.ref b_2), .val (.long (if q0 < (1 : Int64) then (1 : Int64) else q0)), .second] [(.long (0 : Int64)), (.long (0 : Int64))])) _
    refine XS.lcmp X6.here hx rfl (hb hby at_20) rfl ?_
    show Steps p.tables e below (T6.setTop (mkF m 21 #[.val (.long q0), .second, .val (.ref b_2), .val (.long (if q0 < (1 : Int64) then (1 : Int64) else q0)), .second] [(.int (lcmpW (0 : Int64) (0 : Int64)))])) _
    refine XS.ifNo X6.here hx rfl (hb hby at_21) rfl ((if0 _ _).trans (teq ((lw_eq (0 : Int64) (0 : Int64)).mpr rfl)).2) ?_
    show Steps p.tables e below (T6.setTop (mkF m 24 #[.val (.long q0), .second, .val (.ref b_2), .val (.long (if q0 < (1 : Int64) then (1 : Int64) else q0)), .second] [])) _
    refine XS.aloadN X6.here hx rfl (hb hby at_24) rfl rfl ?_
    exact k
  refine OG.step s7 ?_
  obtain ⟨cq8, kq8, q8a, q8b, q8c⟩ := isOf hZ e6 p2_0
  obtain ⟨_, _, ⟨T8, L8, k8, n8⟩, -, X8, ⟨Lc8, hQ8, l8, y8, z8⟩, st8⟩ := X6.virtualBack hx (y := (⟨"com/example/maqfel/maqfel/LockStore$Attempt", "retryMillis", "()J"⟩ : MethodName)) (z := (⟨"com/example/maqfel/maqfel/LockStore$Attempt", "retryMillis", "()J"⟩ : MethodName)) hown (mvT hZ (hw _ (List.mem_of_getElem? (i := 30) rfl))) (mvT hZ (hw _ (List.mem_of_getElem? (i := 31) rfl))) (notFace_of_selects (args := #[]) (mvT hZ (hw _ (List.mem_of_getElem? (i := 33) rfl)))) (mvT hZ (hw _ (List.mem_of_getElem? (i := 33) rfl))) (mvT hZ (hw _ (List.mem_of_getElem? (i := 32) rfl))) (by decide) (backOf (W := 0) (rm7 l Z a0 hw [] b_2 (own_maxJ q0 1) T2.heap n0 (Nat.le_trans Z0 K2.1) p2_2) hZ (hw _ (List.mem_of_getElem? (i := 34) rfl)) (hw _ (List.mem_of_getElem? (i := 2) rfl)) (by decide) (by decide)) q8a q8c (g := (mkF m 25 #[.val (.long q0), .second, .val (.ref b_2), .val (.long (if q0 < (1 : Int64) then (1 : Int64) else q0)), .second] [(.ref b_2)])) rfl (by rw [hml]; rfl) (Steps.refl _) (argsL := []) (rest := []) (lenOf pd___J rfl) rfl (by show 2 * 0 + _ ≤ _; exact Nat.le_of_eq rfl) (hb hby at_25) (fun _ _ => ⟨rfl, e6, (by decide : 1 + 0 ≤ _), (by decide : 2 + 0 ≤ _)⟩)
  dsimp only [Pt.U, Pt.locs, Pt.cells, Pt.slots] at X8 l8 y8 z8 st8 hQ8
  subst l8 y8 z8
  obtain ⟨rfl, N8q, e8⟩ := hQ8
  have N8 := Fr.app N6 N8q
  refine OG.step (fun t k => st8.trans k) ?_
  show OG _ _ _ _ _ _ _ (T8.setTop (mkF m 28 #[.val (.long q0), .second, .val (.ref b_2), .val (.long (if q0 < (1 : Int64) then (1 : Int64) else q0)), .second] [(.long (own_maxJ q0 1))]))
  have s9 : ∀ t, Steps p.tables e below (T8.setTop (mkF m 34 #[.val (.long q0), .second, .val (.ref b_2), .val (.long (if q0 < (1 : Int64) then (1 : Int64) else q0)), .second] [(.ref b_2)])) t → Steps p.tables e below (T8.setTop (mkF m 28 #[.val (.long q0), .second, .val (.ref b_2), .val (.long (if q0 < (1 : Int64) then (1 : Int64) else q0)), .second] [(.long (own_maxJ q0 1))])) t := by
    intro t k
    refine XS.lloadN X8.here hx rfl (hb hby at_28) rfl ?_
    show Steps p.tables e below (T8.setTop (mkF m 29 #[.val (.long q0), .second, .val (.ref b_2), .val (.long (if q0 < (1 : Int64) then (1 : Int64) else q0)), .second] [(.long (if q0 < (1 : Int64) then (1 : Int64) else q0)), (.long (own_maxJ q0 1))])) _
    refine XS.lcmp X8.here hx rfl (hb hby at_29) rfl ?_
    show Steps p.tables e below (T8.setTop (mkF m 30 #[.val (.long q0), .second, .val (.ref b_2), .val (.long (if q0 < (1 : Int64) then (1 : Int64) else q0)), .second] [(.int (lcmpW (own_maxJ q0 1) (if q0 < (1 : Int64) then (1 : Int64) else q0)))])) _
    refine XS.ifNo X8.here hx rfl (hb hby at_30) rfl ((if0 _ _).trans (teq ((lw_eq (own_maxJ q0 1) (if q0 < (1 : Int64) then (1 : Int64) else q0)).mpr rfl)).2) ?_
    show Steps p.tables e below (T8.setTop (mkF m 33 #[.val (.long q0), .second, .val (.ref b_2), .val (.long (if q0 < (1 : Int64) then (1 : Int64) else q0)), .second] [])) _
    refine XS.aloadN X8.here hx rfl (hb hby at_33) rfl rfl ?_
    exact k
  refine OG.step s9 ?_
  obtain ⟨cq10, kq10, q10a, q10b, q10c⟩ := isOf hZ e8 p2_0
  obtain ⟨_, _, ⟨T10, L10, k10, n10⟩, -, X10, ⟨Lc10, hQ10, l10, y10, z10⟩, st10⟩ := X8.virtualBack hx (y := (⟨"com/example/maqfel/maqfel/LockStore$Attempt", "isGranted", "()Z"⟩ : MethodName)) (z := (⟨"com/example/maqfel/maqfel/LockStore$Attempt", "isGranted", "()Z"⟩ : MethodName)) hown (mvT hZ (hw _ (List.mem_of_getElem? (i := 35) rfl))) (mvT hZ (hw _ (List.mem_of_getElem? (i := 36) rfl))) (notFace_of_selects (args := #[]) (mvT hZ (hw _ (List.mem_of_getElem? (i := 38) rfl)))) (mvT hZ (hw _ (List.mem_of_getElem? (i := 38) rfl))) (mvT hZ (hw _ (List.mem_of_getElem? (i := 37) rfl))) (by decide) (backOf (W := 0) (rm8 l Z a0 hw [] b_2 (0 : Int64) T2.heap n0 (Nat.le_trans Z0 K2.1) p2_1) hZ (hw _ (List.mem_of_getElem? (i := 39) rfl)) (hw _ (List.mem_of_getElem? (i := 2) rfl)) (by decide) (by decide)) q10a q10c (g := (mkF m 34 #[.val (.long q0), .second, .val (.ref b_2), .val (.long (if q0 < (1 : Int64) then (1 : Int64) else q0)), .second] [(.ref b_2)])) rfl (by rw [hml]; rfl) (Steps.refl _) (argsL := []) (rest := []) (lenOf pd___Z rfl) rfl (by show 2 * 0 + _ ≤ _; exact Nat.le_of_eq rfl) (hb hby at_34) (fun _ _ => ⟨rfl, e8, (by decide : 1 + 0 ≤ _), (by decide : 2 + 0 ≤ _)⟩)
  dsimp only [Pt.U, Pt.locs, Pt.cells, Pt.slots] at X10 l10 y10 z10 st10 hQ10
  subst l10 y10 z10
  obtain ⟨rfl, N10q, e10⟩ := hQ10
  have N10 := Fr.app N8 N10q
  refine OG.step (fun t k => st10.trans k) ?_
  show OG _ _ _ _ _ _ _ (T10.setTop (mkF m 37 #[.val (.long q0), .second, .val (.ref b_2), .val (.long (if q0 < (1 : Int64) then (1 : Int64) else q0)), .second] [(.int (bI (0 < (0 : Int64))))]))
  have s11 : ∀ t, Steps p.tables e below (T10.setTop (mkF m 45 #[.val (.long q0), .second, .val (.ref b_2), .val (.long (if q0 < (1 : Int64) then (1 : Int64) else q0)), .second] [(.int (1 : Int32))])) t → Steps p.tables e below (T10.setTop (mkF m 37 #[.val (.long q0), .second, .val (.ref b_2), .val (.long (if q0 < (1 : Int64) then (1 : Int64) else q0)), .second] [(.int (bI (0 < (0 : Int64))))])) t := by
    intro t k
    refine XS.ifNo X10.here hx rfl (hb hby at_37) rfl ((if0 _ _).trans (teq (bI_0 (by decide))).2) ?_
    show Steps p.tables e below (T10.setTop (mkF m 40 #[.val (.long q0), .second, .val (.ref b_2), .val (.long (if q0 < (1 : Int64) then (1 : Int64) else q0)), .second] [])) _
    refine XS.iconst X10.here hx rfl (hb hby at_40) ?_
    show Steps p.tables e below (T10.setTop (mkF m 41 #[.val (.long q0), .second, .val (.ref b_2), .val (.long (if q0 < (1 : Int64) then (1 : Int64) else q0)), .second] [(.int (1 : Int32))])) _
    refine XS.goto X10.here hx rfl (pc0 := 41) (pc' := 45) rfl (hb hby at_41) (by decide) (by decide) ?_
    exact k
  refine OG.step s11 ?_
  exact OG.retZ X10 hx hlk Bd.returns (hb hby at_45) (nar_1) e10 ⟨rfl, N10⟩ (by decide) (by decide)
set_option maxRecDepth 65536 in
set_option maxHeartbeats 40000000 in
theorem comes_1 {Post : Tables → Env → Array Value → State → Outcome → State → Prop} (hpost : ∀ tb e args s v u, (limb_1_1.after args s (.returned v) u = true ∧ limb_1_2.after args s (.returned v) u = true ∧ True) → FrameEnd s (.returned v) u (Jvm.fieldLocs frame_1_writes args s ++ Jvm.arrayLocs frame_1_arrays args s ++ Jvm.staticLocs frame_1_statics s) 16 128 → Post tb e args s (.returned v) u) :
    ArmFor flags0 classFile x code maxLocals ret World_1 tables_1 room_1 Calls_1 rest_1 Pre_1 Post := by
  intro l hfl _ _ p e ha hc hk s m args below hf hA hF happ hP
  obtain ⟨hcalls, hrest, hpre⟩ := hP
  obtain ⟨-, -, -, hnamed, -, -, -, hat⟩ := (Spec.applies_iff hf).mp happ
  obtain ⟨hg, hn⟩ := and_e (Cond.before_iff.mp (show (Jvm.Cond.and given_1 narrow_1).before args s = true from hpre))
  obtain ⟨hcount, hg0⟩ := and_e hg
  obtain ⟨w0, rfl⟩ : ∃ w0 : Value, args = #[w0] := by
    have hs : args.size = 1 := by simpa [Cond.value, given_1] using hcount
    obtain ⟨L⟩ := args
    match L, hs with
    | [w0], _ => exact ⟨w0, rfl⟩
  have hw := fun d (hd : d ∈ tables_1) => atoms_spec (ws := Jvm.Cond.code x code maxLocals ret :: tables_1) hat d (List.mem_cons_of_mem _ hd)
  obtain ⟨i0, ei0⟩ := isL_v hg0
  obtain rfl : w0 = (.long i0) := Option.some.inj ei0
  obtain ⟨n, o, h1, h2, h3, _, L, rfl, ⟨rfl, N⟩, hq⟩ := rm0 l s _ hw tables_1 i0 s.heap s.heap.size (Nat.le_refl _) p e ha hc hk s m _ below hf ((Spec.applies_iff_loose hf).mp happ).1 ⟨rfl, State.Warmed39.refl s, rfl⟩ trivial
  refine ⟨n, _, h1, h2, h3, hpost _ _ _ _ _ _ ⟨Cond.after_iff.mpr rfl, Cond.after_iff.mpr (eq_i res_at (Term.int_eval (1)) rfl), trivial⟩ ⟨hq.1, hq.2.1, (hq.2.2.sift fun y hy => Or.inr (N y hy)).mono (by decide) (by decide)⟩⟩
theorem main_1_1 : Claimed_1_1 := comes_1 fun _ _ _ _ _ _ h hF => ⟨h.1, hF⟩
theorem main_1_2 : Claimed_1_2 := comes_1 fun _ _ _ _ _ _ h hF => ⟨h.2.1, hF⟩
end Jvm.Pilot.@@N@@
namespace Jvm.Pilot.@@N@@
open Jvm Jvm.ClassFile Sem Op Lib Jvm.Free Jvm.Stand Jvm.Pilot.@@N@@.Jvm.D
/-! MADE BY PROGRAM (witnessworld.py) out of the Statement's table words and the real class files: 11 classes; the members and pool entries that the words name. The judged class is class 1, her method 1. -/
namespace start1
open Jvm.ClassFile
def u (s : String) : CpInfo := .utf8 (stringToUtf16 s)
/-- a pool by its gaps: so many unusable entries, then the entry; so many at the end -/
def gap : Nat → List CpInfo → List CpInfo
  | 0, r => r
  | n + 1, r => .unusable :: gap n r
def poolList (es : List (Nat × CpInfo)) (last : Nat) : List CpInfo := es.foldr (fun e r => gap e.1 (e.2 :: r)) (gap last [])
def pool (es : List (Nat × CpInfo)) (last : Nat) : Array CpInfo := ⟨poolList es last⟩
def fileOf (pool : Array CpInfo) (this : Nat) (attrs : Array Attribute := #[]) (ms : Array MethodInfo := #[]) (fl : Nat := 33) (sup : Nat := 0) (ifs : Array Nat := #[]) (fds : Array FieldInfo := #[]) : ClassFile where
  minorVersion := 0
  majorVersion := 65
  constantPool := pool
  accessFlags := fl
  thisClass := this
  superClass := sup
  interfaces := ifs
  fields := fds
  methods := ms
  attributes := attrs
def plain (name : String) (sup : Option ClassId) : Class where
  name := name
  kind := .ordinary
  loader := none
  accessFlags := 33
  super := sup
  interfaces := #[]
  cf := none
  fields := #[]
  methods := #[]
  instanceTypes := #[]
  staticTypes := #[]
  resolved := #[]
  callSites := []
  init := .initialized
  statics := none
  mirror := none

def pool0 : Array CpInfo := pool [(5, u "<init>"), (0, u "()V"), (1, .class_ 10), (1, u "java/lang/Object")] 113

def k0c0 : Code := { maxStack := 0, maxLocals := 1, code := object_method_1_code, exceptionTable := #[], attributes := #[] }
def k0m0 : Method := { name := "<init>", desc := "()V", sig := { parameters := [], returnType := none }, accessFlags := 1, code := some k0c0 }
/-- java/lang/Object -/
def k0 : Class := { plain "java/lang/Object" none with
  accessFlags := 33
  interfaces := #[]
  cf := some (fileOf pool0 8 #[] #[{ accessFlags := 1, nameIndex := 5, descriptorIndex := 6, attributes := #[] }] 33 0 #[] #[])
  fields := #[]
  methods := #[k0m0]
  instanceTypes := #[]
  staticTypes := #[]
  resolved := Array.replicate 124 none
  statics := none }

def pool1 : Array CpInfo := pool [(2, .class_ 4), (1, u "java/lang/Object"), (0, u "<init>"), (0, u "()V"), (0, .methodref 8 9), (0, .class_ 10), (0, .nameAndType 11 12), (0, u "com/example/maqfel/maqfel/LockStore$Attempt"), (0, u "refused"), (0, u "(J)Lcom/example/maqfel/maqfel/LockStore$Attempt;"), (0, .methodref 8 14), (0, .nameAndType 15 16), (0, u "token"), (0, u "()J"), (0, .methodref 8 18), (0, .nameAndType 19 16), (0, u "retryMillis"), (0, .methodref 8 21), (0, .nameAndType 22 23), (0, u "isGranted"), (0, u "()Z"), (0, .class_ 25), (0, u "com/example/maqfel/maqfel/AttemptRefusedPinLaw"), (2, u "law"), (0, u "(J)Z")] 7

def k1m0 : Method := { name := "<init>", desc := "()V", sig := { parameters := [], returnType := none }, accessFlags := 1, code := none }
def k1c1 : Code := { maxStack := 4, maxLocals := 5, code := code, exceptionTable := #[], attributes := #[] }
def k1m1 : Method := { name := "law", desc := "(J)Z", sig := { parameters := [.long], returnType := some .boolean }, accessFlags := 9, code := some k1c1 }
/-- com/example/maqfel/maqfel/AttemptRefusedPinLaw -/
def k1 : Class := { plain "com/example/maqfel/maqfel/AttemptRefusedPinLaw" (some 0) with
  accessFlags := 49
  interfaces := #[]
  cf := some (fileOf pool1 24 #[] #[{ accessFlags := 1, nameIndex := 5, descriptorIndex := 6, attributes := #[] }, { accessFlags := 9, nameIndex := 28, descriptorIndex := 29, attributes := #[] }] 49 2 #[] #[])
  fields := #[]
  methods := #[k1m0, k1m1]
  instanceTypes := #[]
  staticTypes := #[]
  resolved := Array.replicate 37 none
  statics := none }

def pool2 : Array CpInfo := pool [(1, .methodref 2 3), (0, .class_ 4), (0, .nameAndType 5 6), (0, u "java/lang/Object"), (0, u "<init>"), (0, u "()V"), (0, .class_ 8), (0, u "java/lang/Record")] 13

def k2c0 : Code := { maxStack := 1, maxLocals := 1, code := jdk_30_method_1_code, exceptionTable := #[], attributes := #[] }
def k2m0 : Method := { name := "<init>", desc := "()V", sig := { parameters := [], returnType := none }, accessFlags := 4, code := some k2c0 }
/-- java/lang/Record -/
def k2 : Class := { plain "java/lang/Record" (some 0) with
  accessFlags := 1057
  interfaces := #[]
  cf := some (fileOf pool2 7 #[] #[{ accessFlags := 4, nameIndex := 5, descriptorIndex := 6, attributes := #[] }] 1057 2 #[] #[])
  fields := #[]
  methods := #[k2m0]
  instanceTypes := #[]
  staticTypes := #[]
  resolved := Array.replicate 22 none
  statics := none }

def pool3 : Array CpInfo := pool [(1, .methodref 2 3), (0, .class_ 4), (0, .nameAndType 5 6), (0, u "java/lang/Record"), (0, u "<init>"), (0, u "()V"), (9, .fieldref 17 18), (0, .class_ 19), (0, .nameAndType 20 21), (0, u "com/example/maqfel/maqfel/LockStore$Attempt"), (0, u "token"), (0, u "J"), (0, .fieldref 17 23), (0, .nameAndType 24 21), (0, u "retryMillis"), (0, .methodref 17 26), (0, .nameAndType 5 27), (0, u "(JJ)V"), (0, .methodref 29 30), (0, .class_ 31), (0, .nameAndType 32 33), (0, u "java/lang/Math"), (0, u "max"), (0, u "(JJ)J"), (17, u "(J)Lcom/example/maqfel/maqfel/LockStore$Attempt;"), (0, u "refused"), (0, u "isGranted"), (0, u "()Z"), (3, u "()J"), (3, .class_ 63), (0, u "com/example/maqfel/maqfel/LockStore")] 28

def k3c0 : Code := { maxStack := 6, maxLocals := 5, code := prog_10_method_1_code, exceptionTable := #[], attributes := #[] }
def k3m0 : Method := { name := "<init>", desc := "(JJ)V", sig := { parameters := [.long, .long], returnType := none }, accessFlags := 1, code := some k3c0 }
def k3c1 : Code := { maxStack := 8, maxLocals := 2, code := prog_10_method_3_code, exceptionTable := #[], attributes := #[] }
def k3m1 : Method := { name := "refused", desc := "(J)Lcom/example/maqfel/maqfel/LockStore$Attempt;", sig := { parameters := [.long], returnType := some (.object "com/example/maqfel/maqfel/LockStore$Attempt") }, accessFlags := 9, code := some k3c1 }
def k3c2 : Code := { maxStack := 4, maxLocals := 1, code := prog_10_method_4_code, exceptionTable := #[], attributes := #[] }
def k3m2 : Method := { name := "isGranted", desc := "()Z", sig := { parameters := [], returnType := some .boolean }, accessFlags := 1, code := some k3c2 }
def k3c3 : Code := { maxStack := 2, maxLocals := 1, code := prog_10_method_8_code, exceptionTable := #[], attributes := #[] }
def k3m3 : Method := { name := "token", desc := "()J", sig := { parameters := [], returnType := some .long }, accessFlags := 1, code := some k3c3 }
def k3c4 : Code := { maxStack := 2, maxLocals := 1, code := prog_10_method_9_code, exceptionTable := #[], attributes := #[] }
def k3m4 : Method := { name := "retryMillis", desc := "()J", sig := { parameters := [], returnType := some .long }, accessFlags := 1, code := some k3c4 }
/-- com/example/maqfel/maqfel/LockStore$Attempt -/
def k3 : Class := { plain "com/example/maqfel/maqfel/LockStore$Attempt" (some 2) with
  accessFlags := 49
  interfaces := #[]
  cf := some (fileOf pool3 17 #[.nestHost 62] #[{ accessFlags := 1, nameIndex := 5, descriptorIndex := 27, attributes := #[] }, { accessFlags := 9, nameIndex := 52, descriptorIndex := 51, attributes := #[] }, { accessFlags := 1, nameIndex := 53, descriptorIndex := 54, attributes := #[] }, { accessFlags := 1, nameIndex := 20, descriptorIndex := 58, attributes := #[] }, { accessFlags := 1, nameIndex := 24, descriptorIndex := 58, attributes := #[] }] 49 2 #[] #[{ accessFlags := 18, nameIndex := 20, descriptorIndex := 21, attributes := #[] }, { accessFlags := 18, nameIndex := 24, descriptorIndex := 21, attributes := #[] }])
  fields := #[{ name := "token", type := .long, accessFlags := 18, slot := 0, constantValue := 0 }, { name := "retryMillis", type := .long, accessFlags := 18, slot := 1, constantValue := 0 }]
  methods := #[k3m0, k3m1, k3m2, k3m3, k3m4]
  instanceTypes := #[.long, .long]
  staticTypes := #[]
  resolved := Array.replicate 92 none
  statics := none }

def pool4 : Array CpInfo := pool [(1, .class_ 2), (0, u "java/lang/Math"), (1, .class_ 6), (1, u "java/lang/Object"), (0, u "<init>"), (0, u "()V"), (89, .class_ 100), (1, u "java/lang/Math$RandomNumberGeneratorHolder"), (20, u "(JJ)J"), (50, u "negativeZeroFloatBits"), (0, u "J"), (2, u "negativeZeroDoubleBits"), (21, u "max"), (46, u "$assertionsDisabled"), (0, u "Z"), (91, u "twoToTheDoubleScaleDown"), (0, u "D"), (4, u "twoToTheDoubleScaleUp"), (9, u "E"), (3, u "PI"), (2, u "TAU"), (2, u "DEGREES_TO_RADIANS"), (0, u "RADIANS_TO_DEGREES")] 94

def k4m0 : Method := { name := "<init>", desc := "()V", sig := { parameters := [], returnType := none }, accessFlags := 2, code := none }
def k4c1 : Code := { maxStack := 4, maxLocals := 4, code := jdk_29_method_66_code, exceptionTable := #[], attributes := #[] }
def k4m1 : Method := { name := "max", desc := "(JJ)J", sig := { parameters := [.long, .long], returnType := some .long }, accessFlags := 9, code := some k4c1 }
/-- java/lang/Math -/
def k4 : Class := { plain "java/lang/Math" (some 0) with
  accessFlags := 49
  interfaces := #[]
  cf := some (fileOf pool4 1 #[.nestMembers #[98]] #[{ accessFlags := 2, nameIndex := 7, descriptorIndex := 8, attributes := #[] }, { accessFlags := 9, nameIndex := 198, descriptorIndex := 121, attributes := #[] }] 49 4 #[] #[{ accessFlags := 25, nameIndex := 354, descriptorIndex := 339, attributes := #[] }, { accessFlags := 25, nameIndex := 358, descriptorIndex := 339, attributes := #[] }, { accessFlags := 25, nameIndex := 361, descriptorIndex := 339, attributes := #[] }, { accessFlags := 26, nameIndex := 364, descriptorIndex := 339, attributes := #[] }, { accessFlags := 26, nameIndex := 365, descriptorIndex := 339, attributes := #[] }, { accessFlags := 26, nameIndex := 172, descriptorIndex := 173, attributes := #[] }, { accessFlags := 26, nameIndex := 176, descriptorIndex := 173, attributes := #[] }, { accessFlags := 8, nameIndex := 344, descriptorIndex := 339, attributes := #[] }, { accessFlags := 8, nameIndex := 338, descriptorIndex := 339, attributes := #[] }, { accessFlags := 4120, nameIndex := 245, descriptorIndex := 246, attributes := #[] }])
  fields := #[{ name := "E", type := .double, accessFlags := 25, slot := 0, constantValue := 0 }, { name := "PI", type := .double, accessFlags := 25, slot := 1, constantValue := 0 }, { name := "TAU", type := .double, accessFlags := 25, slot := 2, constantValue := 0 }, { name := "DEGREES_TO_RADIANS", type := .double, accessFlags := 26, slot := 3, constantValue := 0 }, { name := "RADIANS_TO_DEGREES", type := .double, accessFlags := 26, slot := 4, constantValue := 0 }, { name := "negativeZeroFloatBits", type := .long, accessFlags := 26, slot := 5, constantValue := 0 }, { name := "negativeZeroDoubleBits", type := .long, accessFlags := 26, slot := 6, constantValue := 0 }, { name := "twoToTheDoubleScaleUp", type := .double, accessFlags := 8, slot := 7, constantValue := 0 }, { name := "twoToTheDoubleScaleDown", type := .double, accessFlags := 8, slot := 8, constantValue := 0 }, { name := "$assertionsDisabled", type := .boolean, accessFlags := 4120, slot := 9, constantValue := 0 }]
  methods := #[k4m0, k4m1]
  instanceTypes := #[]
  staticTypes := #[.double, .double, .double, .double, .double, .long, .long, .double, .double, .boolean]
  resolved := Array.replicate 460 none
  statics := none }

def pool5 : Array CpInfo := pool [(1, u "java/lang/Cloneable"), (0, .class_ 1), (0, u "java/lang/Object"), (0, .class_ 3)] 3

/-- java/lang/Cloneable -/
def k5 : Class := { plain "java/lang/Cloneable" (some 0) with
  accessFlags := 1537
  interfaces := #[]
  cf := some (fileOf pool5 2 #[] #[] 1537 4 #[] #[])
  fields := #[]
  methods := #[]
  instanceTypes := #[]
  staticTypes := #[]
  resolved := Array.replicate 8 none
  statics := none }

def pool6 : Array CpInfo := pool [(1, u "java/io/Serializable"), (0, .class_ 1), (0, u "java/lang/Object"), (0, .class_ 3)] 3

/-- java/io/Serializable -/
def k6 : Class := { plain "java/io/Serializable" (some 0) with
  accessFlags := 1537
  interfaces := #[]
  cf := some (fileOf pool6 2 #[] #[] 1537 4 #[] #[])
  fields := #[]
  methods := #[]
  instanceTypes := #[]
  staticTypes := #[]
  resolved := Array.replicate 8 none
  statics := none }

/-- the primitive byte -/
def k7 : Class := { plain "byte" none with kind := .primitive 'B', accessFlags := 0x411 }
/-- [B -/
def k8 : Class := { plain "[B" (some 0) with kind := .array 7 .byte, interfaces := #[5, 6], accessFlags := 1041 }

/-- the primitive int -/
def k9 : Class := { plain "int" none with kind := .primitive 'I', accessFlags := 0x411 }
/-- [I -/
def k10 : Class := { plain "[I" (some 0) with kind := .array 9 .int, interfaces := #[5, 6], accessFlags := 1041 }

def heap : Heap := #[]
def classes : Array Class := #[k0, k1, k2, k3, k4, k5, k6, k7, k8, k9, k10]
def interned : List (Array UInt16 × Addr) := []
def slotsUsed : Nat := 0
def theMethod : MethodId := ⟨1, 1⟩
def args0 : Array Value := #[.long 5]
def aboutOver (below : List Frame) : State where
  vm := { classes := classes, interned := interned.toArray }
  heap := heap
  slotsUsed := slotsUsed
  threads := #[{ frames := .invoking theMethod args0 :: below }]
def below0 : List Frame := [.native { method := ⟨0, 0⟩, args := #[] }]
def about1 : State := aboutOver below0
def p0 : Program := .bare "" "" ""
def e0 : Env := launch0.env 0 0 0
theorem w_frames : about1.frames = Frame.invoking theMethod args0 :: below0 := rfl
set_option maxRecDepth 65536 in
theorem w_args : argsFit about1.vm theMethod args0 = true := by decide +kernel
set_option maxRecDepth 65536 in
theorem w_heap : heapFits about1 = true := by decide +kernel
set_option maxRecDepth 65536 in
theorem w_runnable : about1.curStatus? = some .runnable := by decide +kernel
set_option maxRecDepth 65536 in
theorem w_alone : about1.alone = true := by decide +kernel
set_option maxRecDepth 65536 in
theorem w_named : about1.methodNamed? x = some theMethod := by decide +kernel
set_option maxRecDepth 65536 in
theorem w_hears : about1.hears theMethod below0 = true := by decide +kernel
set_option maxRecDepth 65536 in
theorem w_ripe : about1.ripe theMethod args0 below0 = true := by decide +kernel
theorem w_running : about1.status = .running := rfl
set_option maxRecDepth 65536 in
theorem w_room : about1.hasRoom e0.platform room_1 = true :=
  launch0.hasRoom_least _ room_1 (by decide +kernel) (by decide +kernel) (by decide +kernel) (by decide +kernel) (by decide +kernel) (by decide +kernel)
theorem allAtoms_all (ts : List Jvm.Cond) (a : Array Jvm.Value) (st : Jvm.State) : (allAtoms ts).before a st = ts.all (fun c => c.before a st) := by
  induction ts with
  | nil => rfl
  | cons c t ih =>
    show (Jvm.Cond.and c (allAtoms t)).before a st = _
    rw [Jvm.Cond.before_and, ih, List.all_cons]
def words1 : List Jvm.Cond := Jvm.Cond.code x code maxLocals ret :: tables_1
/-- a 'code' word, met by the world's own term for the bytes: nothing is compared byte by byte -/
theorem code_word {y : MethodName} {bytes : ByteArray} {mx : Nat} {rt : Option FieldType} {a : Array Value} {s : State} {m : MethodId} {meth : Method} {c : Code} (h1 : s.methodNamed? y = some m) (h2 : s.vm.method? m = some meth) (h3 : meth.code = some c) (h4 : c.code = bytes)
    (h5 : (c.maxLocals == mx && c.exceptionTable.isEmpty && decide (c.maxStack ≤ mostOperands) && decide (meth.sig.returnType = rt) && !meth.locks && decide (parseMethodDescriptor y.desc = some meth.sig)) = true) : (Jvm.Cond.code y bytes mx rt).before a s = true := by
  simp only [Bool.and_eq_true, beq_iff_eq, Bool.not_eq_true', decide_eq_true_eq] at h5
  obtain ⟨⟨⟨⟨⟨g1, g2⟩, g3⟩, g4⟩, g5⟩, g6⟩ := h5
  simp [Cond.before, Cond.holds, Cond.value, h1, h2, h3, h4, g1, g2, g3, g4, g5, g6]
def isCode : Jvm.Cond → Bool
  | .code _ _ _ _ => true
  | _ => false
theorem all_split {L : List Jvm.Cond} {P : Jvm.Cond → Bool} (h1 : L.all (fun c => isCode c || P c) = true) (h2 : ∀ c ∈ L.filter isCode, P c = true) : L.all P = true := by
  refine List.all_eq_true.mpr fun c hc => ?_
  have h := List.all_eq_true.mp h1 c hc
  rcases Bool.eq_false_or_eq_true (isCode c) with hi | hi
  · exact h2 c (List.mem_filter.mpr ⟨hc, hi⟩)
  · simpa [hi] using h
set_option maxRecDepth 65536 in
theorem w_c0 : (Jvm.Cond.code x code maxLocals ret).before args0 about1 = true := code_word (m := ⟨1, 1⟩) (meth := k1m1) (c := k1c1) (by decide +kernel) rfl rfl rfl (by decide +kernel)
set_option maxRecDepth 65536 in
theorem w_c1 : (Jvm.Cond.code ({ cls := "com/example/maqfel/maqfel/LockStore$Attempt", name := "refused", desc := "(J)Lcom/example/maqfel/maqfel/LockStore$Attempt;" } : Jvm.MethodName) prog_10_method_3_code (2 : Nat) (Option.some (Jvm.ClassFile.FieldType.object "com/example/maqfel/maqfel/LockStore$Attempt"))).before args0 about1 = true := code_word (m := ⟨3, 1⟩) (meth := k3m1) (c := k3c1) (by decide +kernel) rfl rfl rfl (by decide +kernel)
set_option maxRecDepth 65536 in
theorem w_c2 : (Jvm.Cond.code ({ cls := "java/lang/Math", name := "max", desc := "(JJ)J" } : Jvm.MethodName) jdk_29_method_66_code (4 : Nat) (Option.some Jvm.ClassFile.FieldType.long)).before args0 about1 = true := code_word (m := ⟨4, 1⟩) (meth := k4m1) (c := k4c1) (by decide +kernel) rfl rfl rfl (by decide +kernel)
set_option maxRecDepth 65536 in
theorem w_c3 : (Jvm.Cond.code ({ cls := "com/example/maqfel/maqfel/LockStore$Attempt", name := "<init>", desc := "(JJ)V" } : Jvm.MethodName) prog_10_method_1_code (5 : Nat) (Option.none : Option Jvm.ClassFile.FieldType)).before args0 about1 = true := code_word (m := ⟨3, 0⟩) (meth := k3m0) (c := k3c0) (by decide +kernel) rfl rfl rfl (by decide +kernel)
set_option maxRecDepth 65536 in
theorem w_c4 : (Jvm.Cond.code ({ cls := "java/lang/Record", name := "<init>", desc := "()V" } : Jvm.MethodName) jdk_30_method_1_code (1 : Nat) (Option.none : Option Jvm.ClassFile.FieldType)).before args0 about1 = true := code_word (m := ⟨2, 0⟩) (meth := k2m0) (c := k2c0) (by decide +kernel) rfl rfl rfl (by decide +kernel)
set_option maxRecDepth 65536 in
theorem w_c5 : (Jvm.Cond.code ({ cls := "java/lang/Object", name := "<init>", desc := "()V" } : Jvm.MethodName) object_method_1_code (1 : Nat) (Option.none : Option Jvm.ClassFile.FieldType)).before args0 about1 = true := code_word (m := ⟨0, 0⟩) (meth := k0m0) (c := k0c0) (by decide +kernel) rfl rfl rfl (by decide +kernel)
set_option maxRecDepth 65536 in
theorem w_c6 : (Jvm.Cond.code ({ cls := "com/example/maqfel/maqfel/LockStore$Attempt", name := "token", desc := "()J" } : Jvm.MethodName) prog_10_method_8_code (1 : Nat) (Option.some Jvm.ClassFile.FieldType.long)).before args0 about1 = true := code_word (m := ⟨3, 3⟩) (meth := k3m3) (c := k3c3) (by decide +kernel) rfl rfl rfl (by decide +kernel)
set_option maxRecDepth 65536 in
theorem w_c7 : (Jvm.Cond.code ({ cls := "com/example/maqfel/maqfel/LockStore$Attempt", name := "retryMillis", desc := "()J" } : Jvm.MethodName) prog_10_method_9_code (1 : Nat) (Option.some Jvm.ClassFile.FieldType.long)).before args0 about1 = true := code_word (m := ⟨3, 4⟩) (meth := k3m4) (c := k3c4) (by decide +kernel) rfl rfl rfl (by decide +kernel)
set_option maxRecDepth 65536 in
theorem w_c8 : (Jvm.Cond.code ({ cls := "com/example/maqfel/maqfel/LockStore$Attempt", name := "isGranted", desc := "()Z" } : Jvm.MethodName) prog_10_method_4_code (1 : Nat) (Option.some Jvm.ClassFile.FieldType.boolean)).before args0 about1 = true := code_word (m := ⟨3, 2⟩) (meth := k3m2) (c := k3c2) (by decide +kernel) rfl rfl rfl (by decide +kernel)
def codes1 : List Jvm.Cond := [Jvm.Cond.code x code maxLocals ret, Jvm.Cond.code ({ cls := "com/example/maqfel/maqfel/LockStore$Attempt", name := "refused", desc := "(J)Lcom/example/maqfel/maqfel/LockStore$Attempt;" } : Jvm.MethodName) prog_10_method_3_code (2 : Nat) (Option.some (Jvm.ClassFile.FieldType.object "com/example/maqfel/maqfel/LockStore$Attempt")), Jvm.Cond.code ({ cls := "java/lang/Math", name := "max", desc := "(JJ)J" } : Jvm.MethodName) jdk_29_method_66_code (4 : Nat) (Option.some Jvm.ClassFile.FieldType.long), Jvm.Cond.code ({ cls := "com/example/maqfel/maqfel/LockStore$Attempt", name := "<init>", desc := "(JJ)V" } : Jvm.MethodName) prog_10_method_1_code (5 : Nat) (Option.none : Option Jvm.ClassFile.FieldType), Jvm.Cond.code ({ cls := "java/lang/Record", name := "<init>", desc := "()V" } : Jvm.MethodName) jdk_30_method_1_code (1 : Nat) (Option.none : Option Jvm.ClassFile.FieldType), Jvm.Cond.code ({ cls := "java/lang/Object", name := "<init>", desc := "()V" } : Jvm.MethodName) object_method_1_code (1 : Nat) (Option.none : Option Jvm.ClassFile.FieldType), Jvm.Cond.code ({ cls := "com/example/maqfel/maqfel/LockStore$Attempt", name := "token", desc := "()J" } : Jvm.MethodName) prog_10_method_8_code (1 : Nat) (Option.some Jvm.ClassFile.FieldType.long), Jvm.Cond.code ({ cls := "com/example/maqfel/maqfel/LockStore$Attempt", name := "retryMillis", desc := "()J" } : Jvm.MethodName) prog_10_method_9_code (1 : Nat) (Option.some Jvm.ClassFile.FieldType.long), Jvm.Cond.code ({ cls := "com/example/maqfel/maqfel/LockStore$Attempt", name := "isGranted", desc := "()Z" } : Jvm.MethodName) prog_10_method_4_code (1 : Nat) (Option.some Jvm.ClassFile.FieldType.boolean)]
set_option maxRecDepth 65536 in
theorem codes_eq : words1.filter isCode = codes1 := rfl
theorem w_codes : ∀ c ∈ words1.filter isCode, c.before args0 about1 = true := by
  rw [codes_eq]
  intro c hc
  simp only [codes1, List.mem_cons, List.not_mem_nil, or_false] at hc
  rcases hc with rfl | rfl | rfl | rfl | rfl | rfl | rfl | rfl | rfl
  · exact w_c0
  · exact w_c1
  · exact w_c2
  · exact w_c3
  · exact w_c4
  · exact w_c5
  · exact w_c6
  · exact w_c7
  · exact w_c8
set_option maxRecDepth 65536 in
theorem w_t1 : (words1.take 24).all (fun c => isCode c || c.before args0 about1) = true := by decide +kernel
set_option maxRecDepth 65536 in
theorem w_t2 : (words1.drop 24).all (fun c => isCode c || c.before args0 about1) = true := by decide +kernel
theorem w_tables : (allAtoms (Jvm.Cond.code x code maxLocals ret :: tables_1)).before args0 about1 = true := by
  rw [allAtoms_all]
  show words1.all (fun c => c.before args0 about1) = true
  refine all_split ?_ w_codes
  rw [← List.take_append_drop 24 words1, List.all_append, w_t1, w_t2]
  rfl
set_option maxRecDepth 65536 in
theorem w_case : (Jvm.Cond.and given_1 narrow_1).before args0 about1 = true := by decide +kernel
theorem w_applies : (headSpec (Jvm.Cond.code x code maxLocals ret :: tables_1) room_1).applies x e0.platform about1 = true :=
  (Spec.applies_iff w_frames).mpr ⟨w_running, w_runnable, w_alone, w_named, w_hears, w_ripe, w_room, w_tables⟩
theorem atStart : AtStart classFile x code maxLocals ret World_1 tables_1 room_1 Calls_1 rest_1 Pre_1 launch0 p0 e0 about1 theMethod args0 below0 :=
  ⟨lists_1, trivial, launch0.admits_env _ _ _, launch0.least_env, fairChoices_fair.cas, fairChoices_fair.clock, w_frames, w_args, w_heap, w_applies, trivial, trivial, w_case⟩
end start1
theorem witness_1 : WitnessClaimed_1 := ⟨start1.p0, start1.e0, start1.about1, start1.theMethod, start1.args0, start1.below0, start1.atStart⟩
end Jvm.Pilot.@@N@@
