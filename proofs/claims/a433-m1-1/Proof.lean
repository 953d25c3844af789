import JvmDerived
import JvmDerived.Pilot.@@N@@Statement
import JvmDerived.Pilot.@@N@@Code
set_option linter.unusedVariables false
set_option linter.unusedSimpArgs false
namespace Jvm.RoadKit
open Sem ClassFile Op Lib Jvm.Stand Jvm.Free Jvm.LawKit
section New
variable {p : Program} {l : Launch} {e : Env} {R : Room} {s : State} {m : MethodId} {args : Array Value} {below : List Frame} {meth : Method} {c : Code} {T : State} {locs : List Loc} {cells slots : Nat}
theorem retI (X : Stand p l e R s m args below meth c T locs cells slots) (hx : p.tables.exec = Jvm.exec) {pc : Nat} {Ls : Array Slot} {z : Int32} {rest : List Value} (hret : meth.sig.returnType = some .int) (hd : decode c.code pc = .ok (.ireturn, 1)) {fs : List Frame}
    (hl : ∀ (f : JFrame) (acts : List Action), f.method = m → f.locked = none → f.entered = [] → (doReturn e (T.setTop f) acts (some (.int z))).1 = T.setFrames fs) : Steps p.tables e below (T.setTop (mkF m pc Ls (.int z :: rest))) (T.setFrames fs) := by
  have hm' : T.vm.method? m = some meth := X.method'
  have hn : narrow .int (.int z) = .int z := rfl
  show Steps p.tables e below (T.setTop { method := m, pc := pc, locals := Ls, stack := _ :: rest, locked := none }) _
  jvm_step X.here [X.here.top, hx, hd, hm', hret, hn]
  first | (intro acts; rw [hl _ acts rfl rfl rfl]) | rw [hl _ _ rfl rfl rfl]
  exact Steps.refl _
theorem retJ (X : Stand p l e R s m args below meth c T locs cells slots) (hx : p.tables.exec = Jvm.exec) {pc : Nat} {Ls : Array Slot} {z : Int64} {rest : List Value} (hret : meth.sig.returnType = some .long) (hd : decode c.code pc = .ok (.lreturn, 1)) {fs : List Frame}
    (hl : ∀ (f : JFrame) (acts : List Action), f.method = m → f.locked = none → f.entered = [] → (doReturn e (T.setTop f) acts (some (.long z))).1 = T.setFrames fs) : Steps p.tables e below (T.setTop (mkF m pc Ls (.long z :: rest))) (T.setFrames fs) := by
  have hm' : T.vm.method? m = some meth := X.method'
  have hn : narrow .long (.long z) = .long z := rfl
  show Steps p.tables e below (T.setTop { method := m, pc := pc, locals := Ls, stack := _ :: rest, locked := none }) _
  jvm_step X.here [X.here.top, hx, hd, hm', hret, hn, narrow]
  first | (intro acts; rw [hl _ acts rfl rfl rfl]) | rw [hl _ _ rfl rfl rfl]
  exact Steps.refl _
theorem retR (X : Stand p l e R s m args below meth c T locs cells slots) (hx : p.tables.exec = Jvm.exec) {pc : Nat} {Ls : Array Slot} {z : Addr} {rest : List Value} {ty : FieldType} (hret : meth.sig.returnType = some ty) (hty : ty.isReference = true) (hd : decode c.code pc = .ok (.areturn, 1)) {fs : List Frame}
    (hl : ∀ (f : JFrame) (acts : List Action), f.method = m → f.locked = none → f.entered = [] → (doReturn e (T.setTop f) acts (some (.ref z))).1 = T.setFrames fs) : Steps p.tables e below (T.setTop (mkF m pc Ls (.ref z :: rest))) (T.setFrames fs) := by
  have hm' : T.vm.method? m = some meth := X.method'
  show Steps p.tables e below (T.setTop { method := m, pc := pc, locals := Ls, stack := _ :: rest, locked := none }) _
  jvm_step X.here [X.here.top, hx, hd, hm', hret, hty, Value.isRef]
  first | (intro acts; rw [hl _ acts rfl rfl rfl]) | rw [hl _ _ rfl rfl rfl]
  exact Steps.refl _
theorem lremM {tb : Tables} [Ours tb] {target : State} {g : JFrame} (h : At T m c below) (hx : tb.exec = Jvm.exec) (hg : g.method = m) {x y : Int64} {rest : List Value} (hd : decode c.code g.pc = .ok (.lrem, 1)) (hs : g.stack = .long y :: .long x :: rest) (hy : y ≠ 0)
    (hr : Steps tb e below (T.setTop { g with pc := g.pc + 1, stack := .long (x % y) :: rest }) target) : Steps tb e below (T.setTop g) target := by
  rw [← lrem_mod] at hr
  exact XS.lrem h hx hg hd hs hy hr
end New
end Jvm.RoadKit
namespace Jvm.Pilot.@@N@@
open Jvm Jvm.ClassFile Sem Op Lib Jvm.Free Jvm.Stand Jvm.LawKit Jvm.RoadKit Bundle Jvm.Pilot.@@N@@.Jvm.D
/-- a Java boolean -/
def bI (P : Prop) [Decidable P] : Int32 := if P then 1 else 0
theorem bI_pos {P : Prop} [Decidable P] (h : P) : bI P = (1 : Int32) := if_pos h
theorem bI_neg {P : Prop} [Decidable P] (h : ¬ P) : bI P = (0 : Int32) := if_neg h
theorem bI_0 {P : Prop} [Decidable P] (h : ¬ P) : bI P = 0 := if_neg h
theorem bI_ne0 {P : Prop} [Decidable P] (h : P) : ¬ bI P = 0 := by rw [bI_pos h]; decide
theorem bI_iff {P Q : Prop} [Decidable P] [Decidable Q] : bI P = bI Q ↔ (P ↔ Q) := by
  by_cases p : P <;> by_cases q : Q <;> simp [bI, p, q]
theorem nar_0 : nar .boolean (0 : Int32) = 0 := by decide
theorem nar_1 : nar .boolean (1 : Int32) = 1 := by decide
theorem nar_bI (P : Prop) [Decidable P] : nar .boolean (bI P) = bI P := by by_cases p : P <;> simp [bI, p] <;> decide
/-- the run from st ends, and Q holds of what it returns and leaves -/
def OG (p : Program) (e : Env) (below : List Frame) (s : State) (Q : Option Value → Heap → List Loc → Prop) (cc ss : Nat) (st : State) : Prop :=
  ∃ s₂ o, Steps p.tables e below st s₂ ∧ s₂.status = .running ∧ Ended s₂ below o ∧ ∃ v L, o = .returned v ∧ Q v s₂.heap L ∧ FrameEnd s o s₂ L cc ss
section Out
variable {p : Program} {l : Launch} {e : Env} {R : Room} {s : State} {m : MethodId} {args : Array Value} {below : List Frame} {meth : Method} {c : Code} {T : State} {locs : List Loc} {cells slots : Nat} {Q : Option Value → Heap → List Loc → Prop} {cc ss : Nat} {h : Heap}
theorem OG.step {st st' : State} (h : ∀ t, Steps p.tables e below st' t → Steps p.tables e below st t) (g : OG p e below s Q cc ss st') : OG p e below s Q cc ss st := by
  obtain ⟨s₂, o, h1, r⟩ := g
  exact ⟨s₂, o, h _ h1, r⟩
theorem OG.out (X : Stand p l e R s m args below meth c T locs cells slots) {v : Option Value} (hv : meth.sig.returnType = none → v = none) (hlk : meth.locks = false) {g : JFrame} (eT : T.heap = h)
    (hs : ∀ fs, (∀ (f : JFrame) (acts : List Action), f.method = m → f.locked = none → f.entered = [] → (doReturn e (T.setTop f) acts v).1 = T.setFrames fs) → Steps p.tables e below (T.setTop g) (T.setFrames fs))
    (hQ : Q v h locs) (hc : cells ≤ cc) (hl : slots ≤ ss) : OG p e below s Q cc ss (T.setTop g) := by
  obtain ⟨fs, hr, hrun, hended, hW, hsame⟩ := X.leave (v := v) hv hlk
  exact ⟨_, _, hs fs hr, hrun, hended, _, _, rfl, by show Q v T.heap locs; rw [eT]; exact hQ, ⟨_, rfl⟩, hW, hsame.mono hc hl⟩
theorem OG.retV (X : Stand p l e R s m args below meth c T locs cells slots) (hx : p.tables.exec = Jvm.exec) (hlk : meth.locks = false) (hret : meth.sig.returnType = none) {pc : Nat} {Ls : Array Slot} (hd : decode c.code pc = .ok (.return_, 1)) (eT : T.heap = h) (hQ : Q none h locs) (hc : cells ≤ cc) (hl : slots ≤ ss) : OG p e below s Q cc ss (T.setTop (mkF m pc Ls [])) :=
  OG.out X (fun _ => rfl) hlk eT (fun _ hr => X.returnOut hx hret hd hr) hQ hc hl
theorem OG.retI (X : Stand p l e R s m args below meth c T locs cells slots) (hx : p.tables.exec = Jvm.exec) (hlk : meth.locks = false) (hret : meth.sig.returnType = some .int) {pc : Nat} {Ls : Array Slot} {z : Int32} {rest : List Value} (hd : decode c.code pc = .ok (.ireturn, 1)) (eT : T.heap = h) (hQ : Q (some (.int z)) h locs) (hc : cells ≤ cc) (hl : slots ≤ ss) : OG p e below s Q cc ss (T.setTop (mkF m pc Ls (.int z :: rest))) :=
  OG.out X (fun h => by rw [hret] at h; cases h) hlk eT (fun _ hr => Jvm.RoadKit.retI X hx hret hd hr) hQ hc hl
theorem OG.retJ (X : Stand p l e R s m args below meth c T locs cells slots) (hx : p.tables.exec = Jvm.exec) (hlk : meth.locks = false) (hret : meth.sig.returnType = some .long) {pc : Nat} {Ls : Array Slot} {z : Int64} {rest : List Value} (hd : decode c.code pc = .ok (.lreturn, 1)) (eT : T.heap = h) (hQ : Q (some (.long z)) h locs) (hc : cells ≤ cc) (hl : slots ≤ ss) : OG p e below s Q cc ss (T.setTop (mkF m pc Ls (.long z :: rest))) :=
  OG.out X (fun h => by rw [hret] at h; cases h) hlk eT (fun _ hr => Jvm.RoadKit.retJ X hx hret hd hr) hQ hc hl
theorem OG.retR (X : Stand p l e R s m args below meth c T locs cells slots) (hx : p.tables.exec = Jvm.exec) (hlk : meth.locks = false) {ty : FieldType} (hret : meth.sig.returnType = some ty) (hty : ty.isReference = true) {pc : Nat} {Ls : Array Slot} {z : Addr} {rest : List Value} (hd : decode c.code pc = .ok (.areturn, 1)) (eT : T.heap = h) (hQ : Q (some (.ref z)) h locs) (hc : cells ≤ cc) (hl : slots ≤ ss) : OG p e below s Q cc ss (T.setTop (mkF m pc Ls (.ref z :: rest))) :=
  OG.out X (fun h => by rw [hret] at h; cases h) hlk eT (fun _ hr => Jvm.RoadKit.retR X hx hret hty hd hr) hQ hc hl
theorem OG.retZ (X : Stand p l e R s m args below meth c T locs cells slots) (hx : p.tables.exec = Jvm.exec) (hlk : meth.locks = false) (hret : meth.sig.returnType = some .boolean) {pc : Nat} {Ls : Array Slot} {z z' : Int32} {rest : List Value} (hd : decode c.code pc = .ok (.ireturn, 1)) (hz : nar .boolean z = z') (eT : T.heap = h) (hQ : Q (some (.int z')) h locs) (hc : cells ≤ cc) (hl : slots ≤ ss) : OG p e below s Q cc ss (T.setTop (mkF m pc Ls (.int z :: rest))) := by
  subst hz
  exact OG.out X (fun h => by rw [hret] at h; cases h) hlk eT (fun _ hr => retN X hx (t := .boolean) hret (by simp) hd hr) hQ hc hl
end Out
theorem d2_0 : decode jdk_30_method_1_code 0 = .ok (.aload_n 0, 1) := by decide +kernel
theorem d2_1 : decode jdk_30_method_1_code 1 = .ok (.invokespecial 1, 3) := by decide +kernel
theorem d2_4 : decode jdk_30_method_1_code 4 = .ok (.return_, 1) := by decide +kernel
theorem pn_java_lang_Record : plainName "java/lang/Record" = true := by first | (simp [plainName, overriddenIn]; done) | decide +kernel
theorem ef_2 (m : MethodId) (x0 : Addr) : entryFrame m #[(.ref x0)] 1 = mkF m 0 #[.val (.ref x0)] [] := by first | (simp [entryFrame, mkF, argsToLocals, Value.category]; done) | rfl
def Q2 (Z : State) (o0 : Addr) (h0 : Heap) (n0 : Nat) (v : Option Value) (h : Heap) (L : List Loc) : Prop := (v = none) ∧ (Fr n0 L) ∧ (h = h0)
abbrev rom_2 : Room := { frames := 1, cells := 0, slots := 0, locals := 12 }
set_option maxRecDepth 65536 in
set_option maxHeartbeats 40000000 in
theorem rm2 (l : Launch) (Z : State) (a0 : Array Value) (hw : ∀ d ∈ tables_1, d.before a0 Z = true) (ws : List Jvm.Cond) (o0 : Addr) (h0 : Heap) (n0 : Nat) (Z0 : n0 ≤ h0.size) :
    MetFree l (⟨"java/lang/Record", "<init>", "()V"⟩ : MethodName) (head1 (Jvm.Cond.code (⟨"java/lang/Record", "<init>", "()V"⟩ : MethodName) jdk_30_method_1_code 1 none :: ws) rom_2) (fun a U => a = #[(.ref o0)] ∧ Z.Warmed39 U.vm ∧ U.heap = h0) (fun _ _ _ _ _ => True) (fun _ U o U' => ∃ v L, o = .returned v ∧ Q2 Z o0 h0 n0 v U'.heap L ∧ FrameEnd U o U' L rom_2.cells rom_2.slots) := by
  refine MetFree.of_bodySF (plainFor_of_name pn_java_lang_Record) hisR ?_
  intro p e s m args below meth c s₁ Bd hml0 hP hK
  obtain ⟨rfl, hZ, hh⟩ := hP
  have hx := Bd.exec
  have hby := Bd.bytes
  have hlk := Bd.notSynchronized
  have hml : c.maxLocals = 1 := hml0
  have hown : s.vm.findClass "java/lang/Record" = some m.cls := findClass_of_methodNamed Bd.named
  have hnm := (name_of_methodNamed Bd.named Bd.method).1
  have X0 : Stand p l e rom_2 s m #[(.ref o0)] below meth c s₁ [] 0 0 := Stand.of_body Bd
  have e0 : s₁.heap = h0 := by rw [← hh, Bd.state]; rfl
  have N0 := Fr.nil n0
  have K0 : Keep h0 h0 [] := Keep.refl _ _
  refine (?_ : OG p e below s (Q2 Z o0 h0 n0) rom_2.cells rom_2.slots _)
  rw [ef_2]
  have s1 : ∀ t, Steps p.tables e below (s₁.setTop (mkF m 1 #[.val (.ref o0)] [(.ref o0)])) t → Steps p.tables e below (s₁.setTop (mkF m 0 #[.val (.ref o0)] [])) t := by
    intro t k
    refine XS.aloadN X0.here hx rfl (hb hby d2_0) rfl rfl ?_
    exact k
  refine OG.step s1 ?_
  obtain ⟨T2, X2, e2, st2⟩ := initO X0 hx hZ hown (hw _ (List.mem_of_getElem? (i := 12) rfl)) (hw _ (List.mem_of_getElem? (i := 13) rfl)) (hw _ (List.mem_of_getElem? (i := 14) rfl)) e0 (g := (mkF m 1 #[.val (.ref o0)] [(.ref o0)])) rfl (by rw [hml]; rfl) rfl (hb hby d2_1) (by decide) (W := 0) (by show 2 * 0 + _ ≤ _; exact Nat.le_of_eq rfl) (by decide)
  refine OG.step st2 ?_
  show OG _ _ _ _ _ _ _ (T2.setTop (mkF m 4 #[.val (.ref o0)] []))
  exact OG.retV X2 hx hlk Bd.returns (hb hby d2_4) e2 ⟨rfl, N0, rfl⟩ (by decide) (by decide)
theorem d1_0 : decode prog_10_method_1_code 0 = .ok (.aload_n 0, 1) := by decide +kernel
theorem d1_1 : decode prog_10_method_1_code 1 = .ok (.invokespecial 1, 3) := by decide +kernel
theorem d1_4 : decode prog_10_method_1_code 4 = .ok (.lload_n 1, 1) := by decide +kernel
theorem d1_5 : decode prog_10_method_1_code 5 = .ok (.lconst 0, 1) := by decide +kernel
theorem d1_6 : decode prog_10_method_1_code 6 = .ok (.lcmp, 1) := by decide +kernel
theorem d1_7 : decode prog_10_method_1_code 7 = .ok (.ifCond .lt 34, 3) := by decide +kernel
theorem d1_10 : decode prog_10_method_1_code 10 = .ok (.lload_n 3, 1) := by decide +kernel
theorem d1_11 : decode prog_10_method_1_code 11 = .ok (.lconst 0, 1) := by decide +kernel
theorem d1_12 : decode prog_10_method_1_code 12 = .ok (.lcmp, 1) := by decide +kernel
theorem d1_13 : decode prog_10_method_1_code 13 = .ok (.ifCond .lt 28, 3) := by decide +kernel
theorem d1_16 : decode prog_10_method_1_code 16 = .ok (.lload_n 1, 1) := by decide +kernel
theorem d1_17 : decode prog_10_method_1_code 17 = .ok (.lconst 0, 1) := by decide +kernel
theorem d1_18 : decode prog_10_method_1_code 18 = .ok (.lcmp, 1) := by decide +kernel
theorem d1_19 : decode prog_10_method_1_code 19 = .ok (.ifCond .le 7, 3) := by decide +kernel
theorem d1_22 : decode prog_10_method_1_code 22 = .ok (.iconst 1, 1) := by decide +kernel
theorem d1_23 : decode prog_10_method_1_code 23 = .ok (.goto 4, 3) := by decide +kernel
theorem d1_26 : decode prog_10_method_1_code 26 = .ok (.iconst 0, 1) := by decide +kernel
theorem d1_27 : decode prog_10_method_1_code 27 = .ok (.lload_n 3, 1) := by decide +kernel
theorem d1_28 : decode prog_10_method_1_code 28 = .ok (.lconst 0, 1) := by decide +kernel
theorem d1_29 : decode prog_10_method_1_code 29 = .ok (.lcmp, 1) := by decide +kernel
theorem d1_30 : decode prog_10_method_1_code 30 = .ok (.ifCond .le 7, 3) := by decide +kernel
theorem d1_33 : decode prog_10_method_1_code 33 = .ok (.iconst 1, 1) := by decide +kernel
theorem d1_34 : decode prog_10_method_1_code 34 = .ok (.goto 4, 3) := by decide +kernel
theorem d1_37 : decode prog_10_method_1_code 37 = .ok (.iconst 0, 1) := by decide +kernel
theorem d1_38 : decode prog_10_method_1_code 38 = .ok (.if_icmp .ne 18, 3) := by decide +kernel
theorem d1_41 : decode prog_10_method_1_code 41 = .ok (.new 7, 3) := by decide +kernel
theorem d1_44 : decode prog_10_method_1_code 44 = .ok (.dup, 1) := by decide +kernel
theorem d1_45 : decode prog_10_method_1_code 45 = .ok (.lload_n 1, 1) := by decide +kernel
theorem d1_46 : decode prog_10_method_1_code 46 = .ok (.lload_n 3, 1) := by decide +kernel
theorem d1_52 : decode prog_10_method_1_code 52 = .ok (.invokespecial 13, 3) := by decide +kernel
theorem d1_55 : decode prog_10_method_1_code 55 = .ok (.athrow, 1) := by decide +kernel
theorem d1_56 : decode prog_10_method_1_code 56 = .ok (.aload_n 0, 1) := by decide +kernel
theorem d1_57 : decode prog_10_method_1_code 57 = .ok (.lload_n 1, 1) := by decide +kernel
theorem d1_58 : decode prog_10_method_1_code 58 = .ok (.putfield 16, 3) := by decide +kernel
theorem d1_61 : decode prog_10_method_1_code 61 = .ok (.aload_n 0, 1) := by decide +kernel
theorem d1_62 : decode prog_10_method_1_code 62 = .ok (.lload_n 3, 1) := by decide +kernel
theorem d1_63 : decode prog_10_method_1_code 63 = .ok (.putfield 22, 3) := by decide +kernel
theorem d1_66 : decode prog_10_method_1_code 66 = .ok (.return_, 1) := by decide +kernel
theorem pn_com_example_maqfel_maqfel_LockStore_Attempt : plainName "com/example/maqfel/maqfel/LockStore$Attempt" = true := by first | (simp [plainName, overriddenIn]; done) | decide +kernel
theorem ef_1 (m : MethodId) (x0 : Addr) (x1 : Int64) (x2 : Int64) : entryFrame m #[(.ref x0), (.long x1), (.long x2)] 5 = mkF m 0 #[.val (.ref x0), .val (.long x1), .second, .val (.long x2), .second] [] := by first | (simp [entryFrame, mkF, argsToLocals, Value.category]; done) | rfl
def Q1 (Z : State) (a1 : Addr) (q1 : Int64) (q2 : Int64) (u1 : Value) (u2 : Value) (h0 : Heap) (n0 : Nat) (v : Option Value) (h : Heap) (L : List Loc) : Prop := (v = none) ∧ (Fr n0 L) ∧ (Keep h0 h [a1]) ∧ (Fld Z h a1 "com/example/maqfel/maqfel/LockStore$Attempt" "token" "J" (.long q1)) ∧ (Fld Z h a1 "com/example/maqfel/maqfel/LockStore$Attempt" "retryMillis" "J" (.long q2))
theorem pd___V : parseMethodDescriptor "()V" = some ⟨[], none⟩ := by decide +kernel
abbrev rom_1 : Room := { frames := 2, cells := 0, slots := 0, locals := 24 }
set_option maxRecDepth 65536 in
set_option maxHeartbeats 40000000 in
theorem rm1 (l : Launch) (Z : State) (a0 : Array Value) (hw : ∀ d ∈ tables_1, d.before a0 Z = true) (ws : List Jvm.Cond) (a1 : Addr) (q1 : Int64) (q2 : Int64) (u1 : Value) (u2 : Value) (h0 : Heap) (n0 : Nat) (Z0 : n0 ≤ h0.size) (F0_a1 : Exa Z h0 a1 "com/example/maqfel/maqfel/LockStore$Attempt") (F1_a1_token : Fld Z h0 a1 "com/example/maqfel/maqfel/LockStore$Attempt" "token" "J" u1) (F2_a1_retryMillis : Fld Z h0 a1 "com/example/maqfel/maqfel/LockStore$Attempt" "retryMillis" "J" u2) (g_a1 : n0 ≤ a1) (h1 : ¬ q1 < 0) (h2 : ¬ q2 < 0) (h3 : ¬ bI (0 < q1) = bI (0 < q2)) :
    MetFree l (⟨"com/example/maqfel/maqfel/LockStore$Attempt", "<init>", "(JJ)V"⟩ : MethodName) (head1 (Jvm.Cond.code (⟨"com/example/maqfel/maqfel/LockStore$Attempt", "<init>", "(JJ)V"⟩ : MethodName) prog_10_method_1_code 5 none :: ws) rom_1) (fun a U => a = #[(.ref a1), (.long q1), (.long q2)] ∧ Z.Warmed39 U.vm ∧ U.heap = h0) (fun _ _ _ _ _ => True) (fun _ U o U' => ∃ v L, o = .returned v ∧ Q1 Z a1 q1 q2 u1 u2 h0 n0 v U'.heap L ∧ FrameEnd U o U' L rom_1.cells rom_1.slots) := by
  refine MetFree.of_bodySF (plainFor_of_name pn_com_example_maqfel_maqfel_LockStore_Attempt) hisR ?_
  intro p e s m args below meth c s₁ Bd hml0 hP hK
  obtain ⟨rfl, hZ, hh⟩ := hP
  have hx := Bd.exec
  have hby := Bd.bytes
  have hlk := Bd.notSynchronized
  have hml : c.maxLocals = 5 := hml0
  have hown : s.vm.findClass "com/example/maqfel/maqfel/LockStore$Attempt" = some m.cls := findClass_of_methodNamed Bd.named
  have hnm := (name_of_methodNamed Bd.named Bd.method).1
  have X0 : Stand p l e rom_1 s m #[(.ref a1), (.long q1), (.long q2)] below meth c s₁ [] 0 0 := Stand.of_body Bd
  have e0 : s₁.heap = h0 := by rw [← hh, Bd.state]; rfl
  have N0 := Fr.nil n0
  have K0 : Keep h0 h0 [a1] := Keep.refl _ _
  refine (?_ : OG p e below s (Q1 Z a1 q1 q2 u1 u2 h0 n0) rom_1.cells rom_1.slots _)
  rw [ef_1]
  have s1 : ∀ t, Steps p.tables e below (s₁.setTop (mkF m 1 #[.val (.ref a1), .val (.long q1), .second, .val (.long q2), .second] [(.ref a1)])) t → Steps p.tables e below (s₁.setTop (mkF m 0 #[.val (.ref a1), .val (.long q1), .second, .val (.long q2), .second] [])) t := by
    intro t k
    refine XS.aloadN X0.here hx rfl (hb hby d1_0) rfl rfl ?_
    exact k
  refine OG.step s1 ?_
  obtain ⟨_, _, ⟨T2, L2, k2, n2⟩, -, X2, ⟨Lc2, hQ2, l2, y2, z2⟩, st2⟩ := X0.specialBack hx (y := (⟨"java/lang/Record", "<init>", "()V"⟩ : MethodName)) rfl hown (mvT hZ (hw _ (List.mem_of_getElem? (i := 7) rfl))) (mvT hZ (hw _ (List.mem_of_getElem? (i := 8) rfl))) (mvT hZ (hw _ (List.mem_of_getElem? (i := 11) rfl))) (by decide) (backOf (W := 0) (rm2 l Z a0 hw [] a1 h0 n0 (Nat.le_trans Z0 K0.1)) hZ (hw _ (List.mem_of_getElem? (i := 11) rfl)) (hw _ (List.mem_of_getElem? (i := 10) rfl)) (by decide) (by decide)) (g := (mkF m 1 #[.val (.ref a1), .val (.long q1), .second, .val (.long q2), .second] [(.ref a1)])) rfl (by rw [hml]; rfl) (Steps.refl _) (a := a1) (argsL := []) (rest := []) (lenOf pd___V rfl) rfl (by show 2 * 0 + _ ≤ _; exact Nat.le_of_eq rfl) (hb hby d1_1) (fun _ _ => ⟨rfl, e0, (by decide : 0 + 0 ≤ _), (by decide : 0 + 0 ≤ _)⟩)
  dsimp only [Pt.U, Pt.locs, Pt.cells, Pt.slots] at X2 l2 y2 z2 st2 hQ2
  subst l2 y2 z2
  obtain ⟨rfl, N2q, e2⟩ := hQ2
  have N2 := Fr.app N0 N2q
  refine OG.step (fun t k => st2.trans k) ?_
  show OG _ _ _ _ _ _ _ (T2.setTop (mkF m 4 #[.val (.ref a1), .val (.long q1), .second, .val (.long q2), .second] []))
  have s3 : ∀ t, Steps p.tables e below (T2.setTop (mkF m 16 #[.val (.ref a1), .val (.long q1), .second, .val (.long q2), .second] [])) t → Steps p.tables e below (T2.setTop (mkF m 4 #[.val (.ref a1), .val (.long q1), .second, .val (.long q2), .second] [])) t := by
    intro t k
    refine XS.lloadN X2.here hx rfl (hb hby d1_4) rfl ?_
    show Steps p.tables e below (T2.setTop (mkF m 5 #[.val (.ref a1), .val (.long q1), .second, .val (.long q2), .second] [(.long q1)])) _
    refine XS.lconst X2.here hx rfl (hb hby d1_5) ?_
    show Steps p.tables e below (T2.setTop (mkF m 6 #[.val (.ref a1), .val (.long q1), .second, .val (.long q2), .second] [(.long (0 : Int64)), (.long q1)])) _
    refine XS.lcmp X2.here hx rfl (hb hby d1_6) rfl ?_
    show Steps p.tables e below (T2.setTop (mkF m 7 #[.val (.ref a1), .val (.long q1), .second, .val (.long q2), .second] [(.int (lcmpW q1 (0 : Int64)))])) _
    refine XS.ifNo X2.here hx rfl (hb hby d1_7) rfl ((if0 _ _).trans (flt (mt (lw_lt q1 (0 : Int64)).mp h1)).1) ?_
    show Steps p.tables e below (T2.setTop (mkF m 10 #[.val (.ref a1), .val (.long q1), .second, .val (.long q2), .second] [])) _
    refine XS.lloadN X2.here hx rfl (hb hby d1_10) rfl ?_
    show Steps p.tables e below (T2.setTop (mkF m 11 #[.val (.ref a1), .val (.long q1), .second, .val (.long q2), .second] [(.long q2)])) _
    refine XS.lconst X2.here hx rfl (hb hby d1_11) ?_
    show Steps p.tables e below (T2.setTop (mkF m 12 #[.val (.ref a1), .val (.long q1), .second, .val (.long q2), .second] [(.long (0 : Int64)), (.long q2)])) _
    refine XS.lcmp X2.here hx rfl (hb hby d1_12) rfl ?_
    show Steps p.tables e below (T2.setTop (mkF m 13 #[.val (.ref a1), .val (.long q1), .second, .val (.long q2), .second] [(.int (lcmpW q2 (0 : Int64)))])) _
    refine XS.ifNo X2.here hx rfl (hb hby d1_13) rfl ((if0 _ _).trans (flt (mt (lw_lt q2 (0 : Int64)).mp h2)).1) ?_
    exact k
  refine OG.step s3 ?_
  have s4 : ∀ t, Steps p.tables e below (T2.setTop (mkF m 27 #[.val (.ref a1), .val (.long q1), .second, .val (.long q2), .second] [(.int (bI ((0 : Int64) < q1)))])) t → Steps p.tables e below (T2.setTop (mkF m 16 #[.val (.ref a1), .val (.long q1), .second, .val (.long q2), .second] [])) t := by
    intro t k
    refine XS.lloadN X2.here hx rfl (hb hby d1_16) rfl ?_
    show Steps p.tables e below (T2.setTop (mkF m 17 #[.val (.ref a1), .val (.long q1), .second, .val (.long q2), .second] [(.long q1)])) _
    refine XS.lconst X2.here hx rfl (hb hby d1_17) ?_
    show Steps p.tables e below (T2.setTop (mkF m 18 #[.val (.ref a1), .val (.long q1), .second, .val (.long q2), .second] [(.long (0 : Int64)), (.long q1)])) _
    refine XS.lcmp X2.here hx rfl (hb hby d1_18) rfl ?_
    show Steps p.tables e below (T2.setTop (mkF m 19 #[.val (.ref a1), .val (.long q1), .second, .val (.long q2), .second] [(.int (lcmpW q1 (0 : Int64)))])) _
    by_cases hm19 : (0 : Int64) < q1
    · refine XS.ifNo X2.here hx rfl (hb hby d1_19) rfl ((if0 _ _).trans (tlt ((lw_gt q1 (0 : Int64)).mpr hm19)).2.2.2) ?_
      show Steps p.tables e below (T2.setTop (mkF m 22 #[.val (.ref a1), .val (.long q1), .second, .val (.long q2), .second] [])) _
      refine XS.iconst X2.here hx rfl (hb hby d1_22) ?_
      show Steps p.tables e below (T2.setTop (mkF m 23 #[.val (.ref a1), .val (.long q1), .second, .val (.long q2), .second] [(.int (1 : Int32))])) _
      refine XS.goto X2.here hx rfl (pc0 := 23) (pc' := 27) rfl (hb hby d1_23) (by decide) (by decide) ?_
      show Steps p.tables e below (T2.setTop (mkF m 27 #[.val (.ref a1), .val (.long q1), .second, .val (.long q2), .second] [(.int (1 : Int32))])) _
      rw [show (bI ((0 : Int64) < q1)) = (1 : Int32) from bI_pos (P := (0 : Int64) < q1) hm19] at k
      exact k
    · refine XS.ifYes X2.here hx rfl (pc0 := 19) (pc' := 26) rfl (hb hby d1_19) rfl ((if0 _ _).trans (flt (mt (lw_gt q1 (0 : Int64)).mp hm19)).2.2.2) (by decide) (by decide) ?_
      show Steps p.tables e below (T2.setTop (mkF m 26 #[.val (.ref a1), .val (.long q1), .second, .val (.long q2), .second] [])) _
      refine XS.iconst X2.here hx rfl (hb hby d1_26) ?_
      show Steps p.tables e below (T2.setTop (mkF m 27 #[.val (.ref a1), .val (.long q1), .second, .val (.long q2), .second] [(.int (0 : Int32))])) _
      rw [show (bI ((0 : Int64) < q1)) = (0 : Int32) from bI_neg (P := (0 : Int64) < q1) hm19] at k
      exact k
  refine OG.step s4 ?_
  have s5 : ∀ t, Steps p.tables e below (T2.setTop (mkF m 38 #[.val (.ref a1), .val (.long q1), .second, .val (.long q2), .second] [(.int (bI ((0 : Int64) < q2))), (.int (bI ((0 : Int64) < q1)))])) t → Steps p.tables e below (T2.setTop (mkF m 27 #[.val (.ref a1), .val (.long q1), .second, .val (.long q2), .second] [(.int (bI ((0 : Int64) < q1)))])) t := by
    intro t k
    refine XS.lloadN X2.here hx rfl (hb hby d1_27) rfl ?_
    show Steps p.tables e below (T2.setTop (mkF m 28 #[.val (.ref a1), .val (.long q1), .second, .val (.long q2), .second] [(.long q2), (.int (bI ((0 : Int64) < q1)))])) _
    refine XS.lconst X2.here hx rfl (hb hby d1_28) ?_
    show Steps p.tables e below (T2.setTop (mkF m 29 #[.val (.ref a1), .val (.long q1), .second, .val (.long q2), .second] [(.long (0 : Int64)), (.long q2), (.int (bI ((0 : Int64) < q1)))])) _
    refine XS.lcmp X2.here hx rfl (hb hby d1_29) rfl ?_
    show Steps p.tables e below (T2.setTop (mkF m 30 #[.val (.ref a1), .val (.long q1), .second, .val (.long q2), .second] [(.int (lcmpW q2 (0 : Int64))), (.int (bI ((0 : Int64) < q1)))])) _
    by_cases hm30 : (0 : Int64) < q2
    · refine XS.ifNo X2.here hx rfl (hb hby d1_30) rfl ((if0 _ _).trans (tlt ((lw_gt q2 (0 : Int64)).mpr hm30)).2.2.2) ?_
      show Steps p.tables e below (T2.setTop (mkF m 33 #[.val (.ref a1), .val (.long q1), .second, .val (.long q2), .second] [(.int (bI ((0 : Int64) < q1)))])) _
      refine XS.iconst X2.here hx rfl (hb hby d1_33) ?_
      show Steps p.tables e below (T2.setTop (mkF m 34 #[.val (.ref a1), .val (.long q1), .second, .val (.long q2), .second] [(.int (1 : Int32)), (.int (bI ((0 : Int64) < q1)))])) _
      refine XS.goto X2.here hx rfl (pc0 := 34) (pc' := 38) rfl (hb hby d1_34) (by decide) (by decide) ?_
      show Steps p.tables e below (T2.setTop (mkF m 38 #[.val (.ref a1), .val (.long q1), .second, .val (.long q2), .second] [(.int (1 : Int32)), (.int (bI ((0 : Int64) < q1)))])) _
      rw [show (bI ((0 : Int64) < q2)) = (1 : Int32) from bI_pos (P := (0 : Int64) < q2) hm30] at k
      exact k
    · refine XS.ifYes X2.here hx rfl (pc0 := 30) (pc' := 37) rfl (hb hby d1_30) rfl ((if0 _ _).trans (flt (mt (lw_gt q2 (0 : Int64)).mp hm30)).2.2.2) (by decide) (by decide) ?_
      show Steps p.tables e below (T2.setTop (mkF m 37 #[.val (.ref a1), .val (.long q1), .second, .val (.long q2), .second] [(.int (bI ((0 : Int64) < q1)))])) _
      refine XS.iconst X2.here hx rfl (hb hby d1_37) ?_
      show Steps p.tables e below (T2.setTop (mkF m 38 #[.val (.ref a1), .val (.long q1), .second, .val (.long q2), .second] [(.int (0 : Int32)), (.int (bI ((0 : Int64) < q1)))])) _
      rw [show (bI ((0 : Int64) < q2)) = (0 : Int32) from bI_neg (P := (0 : Int64) < q2) hm30] at k
      exact k
  refine OG.step s5 ?_
  have s6 : ∀ t, Steps p.tables e below (T2.setTop (mkF m 58 #[.val (.ref a1), .val (.long q1), .second, .val (.long q2), .second] [(.long q1), (.ref a1)])) t → Steps p.tables e below (T2.setTop (mkF m 38 #[.val (.ref a1), .val (.long q1), .second, .val (.long q2), .second] [(.int (bI ((0 : Int64) < q2))), (.int (bI ((0 : Int64) < q1)))])) t := by
    intro t k
    refine XS.icmpYes X2.here hx rfl (pc0 := 38) (pc' := 56) rfl (hb hby d1_38) rfl (feq h3).2 (by decide) (by decide) ?_
    show Steps p.tables e below (T2.setTop (mkF m 56 #[.val (.ref a1), .val (.long q1), .second, .val (.long q2), .second] [])) _
    refine XS.aloadN X2.here hx rfl (hb hby d1_56) rfl rfl ?_
    show Steps p.tables e below (T2.setTop (mkF m 57 #[.val (.ref a1), .val (.long q1), .second, .val (.long q2), .second] [(.ref a1)])) _
    refine XS.lloadN X2.here hx rfl (hb hby d1_57) rfl ?_
    exact k
  refine OG.step s6 ?_
  obtain ⟨T7, h7, X7, e7, W7, st7⟩ := putF X2 hx hZ hown (host := "") (Or.inl (hw _ (List.mem_of_getElem? (i := 15) rfl))) Via.refl e2 F1_a1_token F0_a1 (Or.inr ⟨(hw _ (List.mem_of_getElem? (i := 16) rfl)), rfl, hnm⟩) (hw _ (List.mem_of_getElem? (i := 2) rfl)) (ty := .long) (by decide) rfl rfl (g := (mkF m 58 #[.val (.ref a1), .val (.long q1), .second, .val (.long q2), .second] [(.long q1), (.ref a1)])) rfl rfl (hb hby d1_58)
  refine OG.step st7 ?_
  have fw7 := F1_a1_token.same W7
  have f8 := F0_a1.wr W7
  have f9 := F2_a1_retryMillis.other W7 (Or.inr (slot_ne (Or.inr (hw _ (List.mem_of_getElem? (i := 18) rfl))) (Or.inr (hw _ (List.mem_of_getElem? (i := 16) rfl))) (by decide) (t := .long) (t' := .long) (by decide) (by decide)))
  have K7 := K0.wr W7 (Or.inl (List.mem_of_getElem? (i := 0) rfl))
  have N7 := Fr.snoc X7 N2 g_a1
  show OG _ _ _ _ _ _ _ (T7.setTop (mkF m 61 #[.val (.ref a1), .val (.long q1), .second, .val (.long q2), .second] []))
  have s10 : ∀ t, Steps p.tables e below (T7.setTop (mkF m 63 #[.val (.ref a1), .val (.long q1), .second, .val (.long q2), .second] [(.long q2), (.ref a1)])) t → Steps p.tables e below (T7.setTop (mkF m 61 #[.val (.ref a1), .val (.long q1), .second, .val (.long q2), .second] [])) t := by
    intro t k
    refine XS.aloadN X7.here hx rfl (hb hby d1_61) rfl rfl ?_
    show Steps p.tables e below (T7.setTop (mkF m 62 #[.val (.ref a1), .val (.long q1), .second, .val (.long q2), .second] [(.ref a1)])) _
    refine XS.lloadN X7.here hx rfl (hb hby d1_62) rfl ?_
    exact k
  refine OG.step s10 ?_
  obtain ⟨T11, h11, X11, e11, W11, st11⟩ := putF X7 hx hZ hown (host := "") (Or.inl (hw _ (List.mem_of_getElem? (i := 17) rfl))) Via.refl e7 f9 f8 (Or.inr ⟨(hw _ (List.mem_of_getElem? (i := 18) rfl)), rfl, hnm⟩) (hw _ (List.mem_of_getElem? (i := 2) rfl)) (ty := .long) (by decide) rfl rfl (g := (mkF m 63 #[.val (.ref a1), .val (.long q1), .second, .val (.long q2), .second] [(.long q2), (.ref a1)])) rfl rfl (hb hby d1_63)
  refine OG.step st11 ?_
  have fw11 := f9.same W11
  have f12 := f8.wr W11
  have f13 := fw7.other W11 (Or.inr (slot_ne (Or.inr (hw _ (List.mem_of_getElem? (i := 16) rfl))) (Or.inr (hw _ (List.mem_of_getElem? (i := 18) rfl))) (by decide) (t := .long) (t' := .long) (by decide) (by decide)))
  have K11 := K7.wr W11 (Or.inl (List.mem_of_getElem? (i := 0) rfl))
  have N11 := Fr.snoc X11 N7 g_a1
  show OG _ _ _ _ _ _ _ (T11.setTop (mkF m 66 #[.val (.ref a1), .val (.long q1), .second, .val (.long q2), .second] []))
  exact OG.retV X11 hx hlk Bd.returns (hb hby d1_66) e11 ⟨rfl, N11, K11, f13, fw11⟩ (by decide) (by decide)
def own_p (a : Int64) : Int64 := if (a &&& (9223372036854775807 : Int64)) = (0 : Int64) then (9223372036854775807 : Int64) else (a &&& (9223372036854775807 : Int64))
theorem own_asym {a b : Int64} (h : a < b) : ¬ b < a := by rw [Int64.lt_iff_toInt_lt] at *; omega
theorem own_ppos (a : Int64) : 0 < own_p a := by
  unfold own_p; split
  · decide
  · rename_i h
    have e := c_maskL a (9223372036854775807 : Int64) 63 (by decide) (by decide)
    have q : (a &&& (9223372036854775807 : Int64)).toInt ≠ 0 := fun z => h (Int64.toInt_inj.mp z)
    rw [Int64.lt_iff_toInt_lt]
    have z0 : (0 : Int64).toInt = 0 := by decide
    omega
theorem d5_0 : decode prog_10_method_9_code 0 = .ok (.aload_n 0, 1) := by decide +kernel
theorem d5_1 : decode prog_10_method_9_code 1 = .ok (.getfield 22, 3) := by decide +kernel
theorem d5_4 : decode prog_10_method_9_code 4 = .ok (.lreturn, 1) := by decide +kernel
theorem ef_5 (m : MethodId) (x0 : Addr) : entryFrame m #[(.ref x0)] 1 = mkF m 0 #[.val (.ref x0)] [] := by first | (simp [entryFrame, mkF, argsToLocals, Value.category]; done) | rfl
def Q5 (Z : State) (a1 : Addr) (w : Int64) (h0 : Heap) (n0 : Nat) (v : Option Value) (h : Heap) (L : List Loc) : Prop := (v = some (.long w)) ∧ (Fr n0 L) ∧ (h = h0)
abbrev rom_5 : Room := { frames := 0, cells := 0, slots := 0, locals := 0 }
set_option maxRecDepth 65536 in
set_option maxHeartbeats 40000000 in
theorem rm5 (l : Launch) (Z : State) (a0 : Array Value) (hw : ∀ d ∈ tables_1, d.before a0 Z = true) (ws : List Jvm.Cond) (a1 : Addr) (w : Int64) (h0 : Heap) (n0 : Nat) (Z0 : n0 ≤ h0.size) (F0_a1_retryMillis : Fld Z h0 a1 "com/example/maqfel/maqfel/LockStore$Attempt" "retryMillis" "J" (.long w)) :
    MetFree l (⟨"com/example/maqfel/maqfel/LockStore$Attempt", "retryMillis", "()J"⟩ : MethodName) (head1 (Jvm.Cond.code (⟨"com/example/maqfel/maqfel/LockStore$Attempt", "retryMillis", "()J"⟩ : MethodName) prog_10_method_9_code 1 (some .long) :: ws) rom_5) (fun a U => a = #[(.ref a1)] ∧ Z.Warmed39 U.vm ∧ U.heap = h0) (fun _ _ _ _ _ => True) (fun _ U o U' => ∃ v L, o = .returned v ∧ Q5 Z a1 w h0 n0 v U'.heap L ∧ FrameEnd U o U' L rom_5.cells rom_5.slots) := by
  refine MetFree.of_bodySF (plainFor_of_name pn_com_example_maqfel_maqfel_LockStore_Attempt) hisR ?_
  intro p e s m args below meth c s₁ Bd hml0 hP hK
  obtain ⟨rfl, hZ, hh⟩ := hP
  have hx := Bd.exec
  have hby := Bd.bytes
  have hlk := Bd.notSynchronized
  have hml : c.maxLocals = 1 := hml0
  have hown : s.vm.findClass "com/example/maqfel/maqfel/LockStore$Attempt" = some m.cls := findClass_of_methodNamed Bd.named
  have hnm := (name_of_methodNamed Bd.named Bd.method).1
  have X0 : Stand p l e rom_5 s m #[(.ref a1)] below meth c s₁ [] 0 0 := Stand.of_body Bd
  have e0 : s₁.heap = h0 := by rw [← hh, Bd.state]; rfl
  have N0 := Fr.nil n0
  have K0 : Keep h0 h0 [] := Keep.refl _ _
  refine (?_ : OG p e below s (Q5 Z a1 w h0 n0) rom_5.cells rom_5.slots _)
  rw [ef_5]
  have s1 : ∀ t, Steps p.tables e below (s₁.setTop (mkF m 1 #[.val (.ref a1)] [(.ref a1)])) t → Steps p.tables e below (s₁.setTop (mkF m 0 #[.val (.ref a1)] [])) t := by
    intro t k
    refine XS.aloadN X0.here hx rfl (hb hby d5_0) rfl rfl ?_
    exact k
  refine OG.step s1 ?_
  obtain ⟨T2, X2, e2, st2⟩ := getF X0 hx hZ hown (host := "") (Or.inl (hw _ (List.mem_of_getElem? (i := 17) rfl))) Via.refl e0 F0_a1_retryMillis (g := (mkF m 1 #[.val (.ref a1)] [(.ref a1)])) rfl rfl (hb hby d5_1)
  refine OG.step st2 ?_
  show OG _ _ _ _ _ _ _ (T2.setTop (mkF m 4 #[.val (.ref a1)] [(.long w)]))
  exact OG.retJ X2 hx hlk Bd.returns (hb hby d5_4) e2 ⟨rfl, N0, rfl⟩ (by decide) (by decide)
theorem d4_0 : decode prog_10_method_4_code 0 = .ok (.aload_n 0, 1) := by decide +kernel
theorem d4_1 : decode prog_10_method_4_code 1 = .ok (.getfield 16, 3) := by decide +kernel
theorem d4_4 : decode prog_10_method_4_code 4 = .ok (.lconst 0, 1) := by decide +kernel
theorem d4_5 : decode prog_10_method_4_code 5 = .ok (.lcmp, 1) := by decide +kernel
theorem d4_6 : decode prog_10_method_4_code 6 = .ok (.ifCond .le 7, 3) := by decide +kernel
theorem d4_9 : decode prog_10_method_4_code 9 = .ok (.iconst 1, 1) := by decide +kernel
theorem d4_10 : decode prog_10_method_4_code 10 = .ok (.goto 4, 3) := by decide +kernel
theorem d4_13 : decode prog_10_method_4_code 13 = .ok (.iconst 0, 1) := by decide +kernel
theorem d4_14 : decode prog_10_method_4_code 14 = .ok (.ireturn, 1) := by decide +kernel
theorem ef_4 (m : MethodId) (x0 : Addr) : entryFrame m #[(.ref x0)] 1 = mkF m 0 #[.val (.ref x0)] [] := by first | (simp [entryFrame, mkF, argsToLocals, Value.category]; done) | rfl
def Q4 (Z : State) (a1 : Addr) (w : Int64) (h0 : Heap) (n0 : Nat) (v : Option Value) (h : Heap) (L : List Loc) : Prop := (v = some (.int (bI (0 < w)))) ∧ (Fr n0 L) ∧ (h = h0)
abbrev rom_4 : Room := { frames := 0, cells := 0, slots := 0, locals := 0 }
set_option maxRecDepth 65536 in
set_option maxHeartbeats 40000000 in
theorem rm4 (l : Launch) (Z : State) (a0 : Array Value) (hw : ∀ d ∈ tables_1, d.before a0 Z = true) (ws : List Jvm.Cond) (a1 : Addr) (w : Int64) (h0 : Heap) (n0 : Nat) (Z0 : n0 ≤ h0.size) (F0_a1_token : Fld Z h0 a1 "com/example/maqfel/maqfel/LockStore$Attempt" "token" "J" (.long w)) :
    MetFree l (⟨"com/example/maqfel/maqfel/LockStore$Attempt", "isGranted", "()Z"⟩ : MethodName) (head1 (Jvm.Cond.code (⟨"com/example/maqfel/maqfel/LockStore$Attempt", "isGranted", "()Z"⟩ : MethodName) prog_10_method_4_code 1 (some .boolean) :: ws) rom_4) (fun a U => a = #[(.ref a1)] ∧ Z.Warmed39 U.vm ∧ U.heap = h0) (fun _ _ _ _ _ => True) (fun _ U o U' => ∃ v L, o = .returned v ∧ Q4 Z a1 w h0 n0 v U'.heap L ∧ FrameEnd U o U' L rom_4.cells rom_4.slots) := by
  refine MetFree.of_bodySF (plainFor_of_name pn_com_example_maqfel_maqfel_LockStore_Attempt) hisR ?_
  intro p e s m args below meth c s₁ Bd hml0 hP hK
  obtain ⟨rfl, hZ, hh⟩ := hP
  have hx := Bd.exec
  have hby := Bd.bytes
  have hlk := Bd.notSynchronized
  have hml : c.maxLocals = 1 := hml0
  have hown : s.vm.findClass "com/example/maqfel/maqfel/LockStore$Attempt" = some m.cls := findClass_of_methodNamed Bd.named
  have hnm := (name_of_methodNamed Bd.named Bd.method).1
  have X0 : Stand p l e rom_4 s m #[(.ref a1)] below meth c s₁ [] 0 0 := Stand.of_body Bd
  have e0 : s₁.heap = h0 := by rw [← hh, Bd.state]; rfl
  have N0 := Fr.nil n0
  have K0 : Keep h0 h0 [] := Keep.refl _ _
  refine (?_ : OG p e below s (Q4 Z a1 w h0 n0) rom_4.cells rom_4.slots _)
  rw [ef_4]
  have s1 : ∀ t, Steps p.tables e below (s₁.setTop (mkF m 1 #[.val (.ref a1)] [(.ref a1)])) t → Steps p.tables e below (s₁.setTop (mkF m 0 #[.val (.ref a1)] [])) t := by
    intro t k
    refine XS.aloadN X0.here hx rfl (hb hby d4_0) rfl rfl ?_
    exact k
  refine OG.step s1 ?_
  obtain ⟨T2, X2, e2, st2⟩ := getF X0 hx hZ hown (host := "") (Or.inl (hw _ (List.mem_of_getElem? (i := 15) rfl))) Via.refl e0 F0_a1_token (g := (mkF m 1 #[.val (.ref a1)] [(.ref a1)])) rfl rfl (hb hby d4_1)
  refine OG.step st2 ?_
  show OG _ _ _ _ _ _ _ (T2.setTop (mkF m 4 #[.val (.ref a1)] [(.long w)]))
  have s3 : ∀ t, Steps p.tables e below (T2.setTop (mkF m 6 #[.val (.ref a1)] [(.int (lcmpW w (0 : Int64)))])) t → Steps p.tables e below (T2.setTop (mkF m 4 #[.val (.ref a1)] [(.long w)])) t := by
    intro t k
    refine XS.lconst X2.here hx rfl (hb hby d4_4) ?_
    show Steps p.tables e below (T2.setTop (mkF m 5 #[.val (.ref a1)] [(.long (0 : Int64)), (.long w)])) _
    refine XS.lcmp X2.here hx rfl (hb hby d4_5) rfl ?_
    exact k
  refine OG.step s3 ?_
  have s4 : ∀ t, Steps p.tables e below (T2.setTop (mkF m 14 #[.val (.ref a1)] [(.int (bI ((0 : Int64) < w)))])) t → Steps p.tables e below (T2.setTop (mkF m 6 #[.val (.ref a1)] [(.int (lcmpW w (0 : Int64)))])) t := by
    intro t k
    by_cases hm6 : (0 : Int64) < w
    · refine XS.ifNo X2.here hx rfl (hb hby d4_6) rfl ((if0 _ _).trans (tlt ((lw_gt w (0 : Int64)).mpr hm6)).2.2.2) ?_
      show Steps p.tables e below (T2.setTop (mkF m 9 #[.val (.ref a1)] [])) _
      refine XS.iconst X2.here hx rfl (hb hby d4_9) ?_
      show Steps p.tables e below (T2.setTop (mkF m 10 #[.val (.ref a1)] [(.int (1 : Int32))])) _
      refine XS.goto X2.here hx rfl (pc0 := 10) (pc' := 14) rfl (hb hby d4_10) (by decide) (by decide) ?_
      show Steps p.tables e below (T2.setTop (mkF m 14 #[.val (.ref a1)] [(.int (1 : Int32))])) _
      rw [show (bI ((0 : Int64) < w)) = (1 : Int32) from bI_pos (P := (0 : Int64) < w) hm6] at k
      exact k
    · refine XS.ifYes X2.here hx rfl (pc0 := 6) (pc' := 13) rfl (hb hby d4_6) rfl ((if0 _ _).trans (flt (mt (lw_gt w (0 : Int64)).mp hm6)).2.2.2) (by decide) (by decide) ?_
      show Steps p.tables e below (T2.setTop (mkF m 13 #[.val (.ref a1)] [])) _
      refine XS.iconst X2.here hx rfl (hb hby d4_13) ?_
      show Steps p.tables e below (T2.setTop (mkF m 14 #[.val (.ref a1)] [(.int (0 : Int32))])) _
      rw [show (bI ((0 : Int64) < w)) = (0 : Int32) from bI_neg (P := (0 : Int64) < w) hm6] at k
      exact k
  refine OG.step s4 ?_
  exact OG.retZ X2 hx hlk Bd.returns (hb hby d4_14) (nar_bI _) e2 ⟨(by simp []), N0, rfl⟩ (by decide) (by decide)
theorem pn_com_example_maqfel_maqfel_AttemptIsGrantedPinLaw : plainName "com/example/maqfel/maqfel/AttemptIsGrantedPinLaw" = true := by first | (simp [plainName, overriddenIn]; done) | decide +kernel
theorem ef_0 (m : MethodId) (x0 : Int64) (x1 : Int32) : entryFrame m #[(.long x0), (.int x1)] maxLocals = mkF m 0 #[.val (.long x0), .second, .val (.int x1), .unset, .unset, .unset, .unset, .unset] [] := by first | (simp [entryFrame, mkF, argsToLocals, Value.category, maxLocals]; done) | rfl
def Q0 (Z : State) (q0 : Int64) (p1 : Int32) (h0 : Heap) (n0 : Nat) (v : Option Value) (h : Heap) (L : List Loc) : Prop := (v = some (.int (1 : Int32))) ∧ (Fr n0 L)
theorem pd__JJ_V : parseMethodDescriptor "(JJ)V" = some ⟨[.long, .long], none⟩ := by decide +kernel
theorem pd___Z : parseMethodDescriptor "()Z" = some ⟨[], some .boolean⟩ := by decide +kernel
theorem pd___J : parseMethodDescriptor "()J" = some ⟨[], some .long⟩ := by decide +kernel
set_option maxRecDepth 65536 in
set_option maxHeartbeats 40000000 in
theorem rm0 (l : Launch) (Z : State) (a0 : Array Value) (hw : ∀ d ∈ tables_1, d.before a0 Z = true) (ws : List Jvm.Cond) (q0 : Int64) (p1 : Int32) (h0 : Heap) (n0 : Nat) (Z0 : n0 ≤ h0.size) :
    MetFree l x (head1 (Jvm.Cond.code x code maxLocals ret :: ws) room_1) (fun a U => a = #[(.long q0), (.int p1)] ∧ Z.Warmed39 U.vm ∧ U.heap = h0) (fun _ _ _ _ _ => True) (fun _ U o U' => ∃ v L, o = .returned v ∧ Q0 Z q0 p1 h0 n0 v U'.heap L ∧ FrameEnd U o U' L room_1.cells room_1.slots) := by
  refine MetFree.of_bodySF (plainFor_of_name pn_com_example_maqfel_maqfel_AttemptIsGrantedPinLaw) hisR ?_
  intro p e s m args below meth c s₁ Bd hml0 hP hK
  obtain ⟨rfl, hZ, hh⟩ := hP
  have hx := Bd.exec
  have hby := Bd.bytes
  have hlk := Bd.notSynchronized
  have hml : c.maxLocals = 8 := hml0
  have hown : s.vm.findClass "com/example/maqfel/maqfel/AttemptIsGrantedPinLaw" = some m.cls := findClass_of_methodNamed Bd.named
  have hnm := (name_of_methodNamed Bd.named Bd.method).1
  have X0 : Stand p l e room_1 s m #[(.long q0), (.int p1)] below meth c s₁ [] 0 0 := Stand.of_body Bd
  have e0 : s₁.heap = h0 := by rw [← hh, Bd.state]; rfl
  have N0 := Fr.nil n0
  have K0 : Keep h0 h0 [] := Keep.refl _ _
  refine (?_ : OG p e below s (Q0 Z q0 p1 h0 n0) room_1.cells room_1.slots _)
  rw [ef_0]
  have s1 : ∀ t, Steps p.tables e below (s₁.setTop (mkF m 6 #[.val (.long q0), .second, .val (.int p1), .val (.long (q0 &&& (9223372036854775807 : Int64))), .second, .unset, .unset, .unset] [])) t → Steps p.tables e below (s₁.setTop (mkF m 0 #[.val (.long q0), .second, .val (.int p1), .unset, .unset, .unset, .unset, .unset] [])) t := by
    intro t k
    refine XS.lloadN X0.here hx rfl (hb hby at_0) rfl ?_
    show Steps p.tables e below (s₁.setTop (mkF m 1 #[.val (.long q0), .second, .val (.int p1), .unset, .unset, .unset, .unset, .unset] [(.long q0)])) _
    refine X0.ldc2Long hx hown (mvT hZ (hw _ (List.mem_of_getElem? (i := 0) rfl))) (g := (mkF m 1 #[.val (.long q0), .second, .val (.int p1), .unset, .unset, .unset, .unset, .unset] [(.long q0)])) rfl (hb hby at_1) _ ?_
    show Steps p.tables e below (s₁.setTop (mkF m 4 #[.val (.long q0), .second, .val (.int p1), .unset, .unset, .unset, .unset, .unset] [(.long (9223372036854775807 : Int64)), (.long q0)])) _
    refine XS.land X0.here hx rfl (hb hby at_4) rfl ?_
    show Steps p.tables e below (s₁.setTop (mkF m 5 #[.val (.long q0), .second, .val (.int p1), .unset, .unset, .unset, .unset, .unset] [(.long (q0 &&& (9223372036854775807 : Int64)))])) _
    refine XS.lstoreN X0.here hx rfl (hb hby at_5) rfl (l' := #[.val (.long q0), .second, .val (.int p1), .val (.long (q0 &&& (9223372036854775807 : Int64))), .second, .unset, .unset, .unset]) rfl ?_
    exact k
  refine OG.step s1 ?_
  have s2 : ∀ t, Steps p.tables e below (s₁.setTop (mkF m 16 #[.val (.long q0), .second, .val (.int p1), .val (.long (own_p q0)), .second, .unset, .unset, .unset] [])) t → Steps p.tables e below (s₁.setTop (mkF m 6 #[.val (.long q0), .second, .val (.int p1), .val (.long (q0 &&& (9223372036854775807 : Int64))), .second, .unset, .unset, .unset] [])) t := by
    intro t k
    refine XS.lloadN X0.here hx rfl (hb hby at_6) rfl ?_
    show Steps p.tables e below (s₁.setTop (mkF m 7 #[.val (.long q0), .second, .val (.int p1), .val (.long (q0 &&& (9223372036854775807 : Int64))), .second, .unset, .unset, .unset] [(.long (q0 &&& (9223372036854775807 : Int64)))])) _
    refine XS.lconst X0.here hx rfl (hb hby at_7) ?_
    show Steps p.tables e below (s₁.setTop (mkF m 8 #[.val (.long q0), .second, .val (.int p1), .val (.long (q0 &&& (9223372036854775807 : Int64))), .second, .unset, .unset, .unset] [(.long (0 : Int64)), (.long (q0 &&& (9223372036854775807 : Int64)))])) _
    refine XS.lcmp X0.here hx rfl (hb hby at_8) rfl ?_
    show Steps p.tables e below (s₁.setTop (mkF m 9 #[.val (.long q0), .second, .val (.int p1), .val (.long (q0 &&& (9223372036854775807 : Int64))), .second, .unset, .unset, .unset] [(.int (lcmpW (q0 &&& (9223372036854775807 : Int64)) (0 : Int64)))])) _
    by_cases hm9 : (q0 &&& (9223372036854775807 : Int64)) = (0 : Int64)
    · refine XS.ifNo X0.here hx rfl (hb hby at_9) rfl ((if0 _ _).trans (teq ((lw_eq (q0 &&& (9223372036854775807 : Int64)) (0 : Int64)).mpr hm9)).2) ?_
      show Steps p.tables e below (s₁.setTop (mkF m 12 #[.val (.long q0), .second, .val (.int p1), .val (.long (q0 &&& (9223372036854775807 : Int64))), .second, .unset, .unset, .unset] [])) _
      refine X0.ldc2Long hx hown (mvT hZ (hw _ (List.mem_of_getElem? (i := 0) rfl))) (g := (mkF m 12 #[.val (.long q0), .second, .val (.int p1), .val (.long (q0 &&& (9223372036854775807 : Int64))), .second, .unset, .unset, .unset] [])) rfl (hb hby at_12) _ ?_
      show Steps p.tables e below (s₁.setTop (mkF m 15 #[.val (.long q0), .second, .val (.int p1), .val (.long (q0 &&& (9223372036854775807 : Int64))), .second, .unset, .unset, .unset] [(.long (9223372036854775807 : Int64))])) _
      refine XS.lstoreN X0.here hx rfl (hb hby at_15) rfl (l' := #[.val (.long q0), .second, .val (.int p1), .val (.long (9223372036854775807 : Int64)), .second, .unset, .unset, .unset]) rfl ?_
      show Steps p.tables e below (s₁.setTop (mkF m 16 #[.val (.long q0), .second, .val (.int p1), .val (.long (9223372036854775807 : Int64)), .second, .unset, .unset, .unset] [])) _
      rw [show (own_p q0) = (9223372036854775807 : Int64) from (if_pos hm9)] at k
      exact k
    · refine XS.ifYes X0.here hx rfl (pc0 := 9) (pc' := 16) rfl (hb hby at_9) rfl ((if0 _ _).trans (feq (mt (lw_eq (q0 &&& (9223372036854775807 : Int64)) (0 : Int64)).mp hm9)).2) (by decide) (by decide) ?_
      show Steps p.tables e below (s₁.setTop (mkF m 16 #[.val (.long q0), .second, .val (.int p1), .val (.long (q0 &&& (9223372036854775807 : Int64))), .second, .unset, .unset, .unset] [])) _
      rw [show (own_p q0) = (q0 &&& (9223372036854775807 : Int64)) from (if_neg hm9)] at k
      exact k
  refine OG.step s2 ?_
  have s3 : ∀ t, Steps p.tables e below (s₁.setTop (mkF m 27 #[.val (.long q0), .second, .val (.int p1), .val (.long (own_p q0)), .second, .unset, .unset, .unset] [(.int (bI (¬ ((p1 &&& (1 : Int32)) = (0 : Int32)))))])) t → Steps p.tables e below (s₁.setTop (mkF m 16 #[.val (.long q0), .second, .val (.int p1), .val (.long (own_p q0)), .second, .unset, .unset, .unset] [])) t := by
    intro t k
    refine XS.iloadN X0.here hx rfl (hb hby at_16) rfl ?_
    show Steps p.tables e below (s₁.setTop (mkF m 17 #[.val (.long q0), .second, .val (.int p1), .val (.long (own_p q0)), .second, .unset, .unset, .unset] [(.int p1)])) _
    refine XS.iconst X0.here hx rfl (hb hby at_17) ?_
    show Steps p.tables e below (s₁.setTop (mkF m 18 #[.val (.long q0), .second, .val (.int p1), .val (.long (own_p q0)), .second, .unset, .unset, .unset] [(.int (1 : Int32)), (.int p1)])) _
    refine XS.iand X0.here hx rfl (hb hby at_18) rfl ?_
    show Steps p.tables e below (s₁.setTop (mkF m 19 #[.val (.long q0), .second, .val (.int p1), .val (.long (own_p q0)), .second, .unset, .unset, .unset] [(.int (p1 &&& (1 : Int32)))])) _
    by_cases hm19 : (p1 &&& (1 : Int32)) = (0 : Int32)
    · refine XS.ifYes X0.here hx rfl (pc0 := 19) (pc' := 26) rfl (hb hby at_19) rfl ((if0 _ _).trans (teq hm19).1) (by decide) (by decide) ?_
      show Steps p.tables e below (s₁.setTop (mkF m 26 #[.val (.long q0), .second, .val (.int p1), .val (.long (own_p q0)), .second, .unset, .unset, .unset] [])) _
      refine XS.iconst X0.here hx rfl (hb hby at_26) ?_
      show Steps p.tables e below (s₁.setTop (mkF m 27 #[.val (.long q0), .second, .val (.int p1), .val (.long (own_p q0)), .second, .unset, .unset, .unset] [(.int (0 : Int32))])) _
      rw [show (bI (¬ ((p1 &&& (1 : Int32)) = (0 : Int32)))) = (0 : Int32) from bI_neg (P := ¬ ((p1 &&& (1 : Int32)) = (0 : Int32))) (fun z => z hm19)] at k
      exact k
    · refine XS.ifNo X0.here hx rfl (hb hby at_19) rfl ((if0 _ _).trans (feq hm19).1) ?_
      show Steps p.tables e below (s₁.setTop (mkF m 22 #[.val (.long q0), .second, .val (.int p1), .val (.long (own_p q0)), .second, .unset, .unset, .unset] [])) _
      refine XS.iconst X0.here hx rfl (hb hby at_22) ?_
      show Steps p.tables e below (s₁.setTop (mkF m 23 #[.val (.long q0), .second, .val (.int p1), .val (.long (own_p q0)), .second, .unset, .unset, .unset] [(.int (1 : Int32))])) _
      refine XS.goto X0.here hx rfl (pc0 := 23) (pc' := 27) rfl (hb hby at_23) (by decide) (by decide) ?_
      show Steps p.tables e below (s₁.setTop (mkF m 27 #[.val (.long q0), .second, .val (.int p1), .val (.long (own_p q0)), .second, .unset, .unset, .unset] [(.int (1 : Int32))])) _
      rw [show (bI (¬ ((p1 &&& (1 : Int32)) = (0 : Int32)))) = (1 : Int32) from bI_pos (P := ¬ ((p1 &&& (1 : Int32)) = (0 : Int32))) hm19] at k
      exact k
  refine OG.step s3 ?_
  have s4 : ∀ t, Steps p.tables e below (s₁.setTop (mkF m 31 #[.val (.long q0), .second, .val (.int p1), .val (.long (own_p q0)), .second, .val (.int (bI (¬ ((p1 &&& (1 : Int32)) = (0 : Int32))))), .unset, .unset] [(.int (bI (¬ ((p1 &&& (1 : Int32)) = (0 : Int32)))))])) t → Steps p.tables e below (s₁.setTop (mkF m 27 #[.val (.long q0), .second, .val (.int p1), .val (.long (own_p q0)), .second, .unset, .unset, .unset] [(.int (bI (¬ ((p1 &&& (1 : Int32)) = (0 : Int32)))))])) t := by
    intro t k
    refine XS.istore X0.here hx rfl (hb hby at_27) rfl (l' := #[.val (.long q0), .second, .val (.int p1), .val (.long (own_p q0)), .second, .val (.int (bI (¬ ((p1 &&& (1 : Int32)) = (0 : Int32))))), .unset, .unset]) rfl ?_
    show Steps p.tables e below (s₁.setTop (mkF m 29 #[.val (.long q0), .second, .val (.int p1), .val (.long (own_p q0)), .second, .val (.int (bI (¬ ((p1 &&& (1 : Int32)) = (0 : Int32))))), .unset, .unset] [])) _
    refine XS.iload X0.here hx rfl (hb hby at_29) rfl ?_
    exact k
  refine OG.step s4 ?_
  by_cases hc31 : ¬ ((p1 &&& (1 : Int32)) = (0 : Int32))
  · have s5 : ∀ t, Steps p.tables e below (s₁.setTop (mkF m 34 #[.val (.long q0), .second, .val (.int p1), .val (.long (own_p q0)), .second, .val (.int (bI (¬ ((p1 &&& (1 : Int32)) = (0 : Int32))))), .unset, .unset] [])) t → Steps p.tables e below (s₁.setTop (mkF m 31 #[.val (.long q0), .second, .val (.int p1), .val (.long (own_p q0)), .second, .val (.int (bI (¬ ((p1 &&& (1 : Int32)) = (0 : Int32))))), .unset, .unset] [(.int (bI (¬ ((p1 &&& (1 : Int32)) = (0 : Int32)))))])) t := by
      intro t k
      refine XS.ifNo X0.here hx rfl (hb hby at_31) rfl ((if0 _ _).trans (feq (bI_ne0 hc31)).1) ?_
      exact k
    refine OG.step s5 ?_
    obtain ⟨T6, h6, X6, e6, E6, A6, D6, -, st6⟩ := newO X0 hx hZ hown (hw _ (List.mem_of_getElem? (i := 1) rfl)) (hw _ (List.mem_of_getElem? (i := 2) rfl)) (hw _ (List.mem_of_getElem? (i := 3) rfl)) e0 (g := (mkF m 34 #[.val (.long q0), .second, .val (.int p1), .val (.long (own_p q0)), .second, .val (.int (bI (¬ ((p1 &&& (1 : Int32)) = (0 : Int32))))), .unset, .unset] [])) rfl (hb hby at_34) (by decide) (by decide)
    obtain ⟨b6, g6⟩ : ∃ z, z = h0.size := ⟨_, rfl⟩
    rw [← g6] at A6 D6 st6
    have sz6 : h0.size ≤ b6 := Nat.le_trans K0.1 (Nat.le_of_eq g6.symm)
    have ge6 : n0 ≤ b6 := Nat.le_trans Z0 sz6
    refine OG.step st6 ?_
    have F6_token : Fld Z h6 b6 "com/example/maqfel/maqfel/LockStore$Attempt" "token" "J" (.long (0 : Int64)) := D6 (Or.inr (hw _ (List.mem_of_getElem? (i := 16) rfl))) (ty := .long) (by decide)
    have F6_retryMillis : Fld Z h6 b6 "com/example/maqfel/maqfel/LockStore$Attempt" "retryMillis" "J" (.long (0 : Int64)) := D6 (Or.inr (hw _ (List.mem_of_getElem? (i := 18) rfl))) (ty := .long) (by decide)
    have K6 := K0.ext E6
    show OG _ _ _ _ _ _ _ (T6.setTop (mkF m 37 #[.val (.long q0), .second, .val (.int p1), .val (.long (own_p q0)), .second, .val (.int (bI (¬ ((p1 &&& (1 : Int32)) = (0 : Int32))))), .unset, .unset] [(.ref b6)]))
    have s7 : ∀ t, Steps p.tables e below (T6.setTop (mkF m 40 #[.val (.long q0), .second, .val (.int p1), .val (.long (own_p q0)), .second, .val (.int (bI (¬ ((p1 &&& (1 : Int32)) = (0 : Int32))))), .unset, .unset] [(.long (0 : Int64)), (.long (own_p q0)), (.ref b6), (.ref b6)])) t → Steps p.tables e below (T6.setTop (mkF m 37 #[.val (.long q0), .second, .val (.int p1), .val (.long (own_p q0)), .second, .val (.int (bI (¬ ((p1 &&& (1 : Int32)) = (0 : Int32))))), .unset, .unset] [(.ref b6)])) t := by
      intro t k
      refine XS.dup X6.here hx rfl (hb hby at_37) rfl rfl ?_
      show Steps p.tables e below (T6.setTop (mkF m 38 #[.val (.long q0), .second, .val (.int p1), .val (.long (own_p q0)), .second, .val (.int (bI (¬ ((p1 &&& (1 : Int32)) = (0 : Int32))))), .unset, .unset] [(.ref b6), (.ref b6)])) _
      refine XS.lloadN X6.here hx rfl (hb hby at_38) rfl ?_
      show Steps p.tables e below (T6.setTop (mkF m 39 #[.val (.long q0), .second, .val (.int p1), .val (.long (own_p q0)), .second, .val (.int (bI (¬ ((p1 &&& (1 : Int32)) = (0 : Int32))))), .unset, .unset] [(.long (own_p q0)), (.ref b6), (.ref b6)])) _
      refine XS.lconst X6.here hx rfl (hb hby at_39) ?_
      exact k
    refine OG.step s7 ?_
    obtain ⟨_, _, ⟨T8, L8, k8, n8⟩, -, X8, ⟨Lc8, hQ8, l8, y8, z8⟩, st8⟩ := X6.specialBack hx (y := (⟨"com/example/maqfel/maqfel/LockStore$Attempt", "<init>", "(JJ)V"⟩ : MethodName)) rfl hown (mvT hZ (hw _ (List.mem_of_getElem? (i := 4) rfl))) (mvT hZ (hw _ (List.mem_of_getElem? (i := 5) rfl))) (mvT hZ (hw _ (List.mem_of_getElem? (i := 6) rfl))) (by decide) (backOf (W := 1) (rm1 l Z a0 hw [] b6 (own_p q0) (0 : Int64) (.long (0 : Int64)) (.long (0 : Int64)) h6 n0 (Nat.le_trans Z0 K6.1) A6 F6_token F6_retryMillis ge6 (own_asym (own_ppos _)) (by decide) (by rw [bI_pos (own_ppos _), bI_neg (by decide)]; decide)) hZ (hw _ (List.mem_of_getElem? (i := 6) rfl)) (hw _ (List.mem_of_getElem? (i := 3) rfl)) (by decide) (by decide)) (g := (mkF m 40 #[.val (.long q0), .second, .val (.int p1), .val (.long (own_p q0)), .second, .val (.int (bI (¬ ((p1 &&& (1 : Int32)) = (0 : Int32))))), .unset, .unset] [(.long (0 : Int64)), (.long (own_p q0)), (.ref b6), (.ref b6)])) rfl (by rw [hml]; rfl) (Steps.refl _) (a := b6) (argsL := [(.long (own_p q0)), (.long (0 : Int64))]) (rest := [(.ref b6)]) (lenOf pd__JJ_V rfl) rfl (by show 2 * 0 + _ ≤ _; exact Nat.le_of_eq rfl) (hb hby at_40) (fun _ _ => ⟨rfl, e6, (by decide : 1 + 0 ≤ _), (by decide : 2 + 0 ≤ _)⟩)
    dsimp only [Pt.U, Pt.locs, Pt.cells, Pt.slots] at X8 l8 y8 z8 st8 hQ8
    subst l8 y8 z8
    obtain ⟨rfl, N8q, Kc8, p8_0, p8_1⟩ := hQ8
    have N8 := Fr.app N0 N8q
    refine OG.step (fun t k => st8.trans k) ?_
    have f9 := A6.keep Kc8
    have K8 := K6.trans Kc8 (allS (Or.inr sz6) all0)
    show OG _ _ _ _ _ _ _ (T8.setTop (mkF m 43 #[.val (.long q0), .second, .val (.int p1), .val (.long (own_p q0)), .second, .val (.int (bI (¬ ((p1 &&& (1 : Int32)) = (0 : Int32))))), .unset, .unset] [(.ref b6)]))
    have s12 : ∀ t, Steps p.tables e below (T8.setTop (mkF m 61 #[.val (.long q0), .second, .val (.int p1), .val (.long (own_p q0)), .second, .val (.int (bI (¬ ((p1 &&& (1 : Int32)) = (0 : Int32))))), .val (.ref b6), .unset] [(.ref b6)])) t → Steps p.tables e below (T8.setTop (mkF m 43 #[.val (.long q0), .second, .val (.int p1), .val (.long (own_p q0)), .second, .val (.int (bI (¬ ((p1 &&& (1 : Int32)) = (0 : Int32))))), .unset, .unset] [(.ref b6)])) t := by
      intro t k
      refine XS.astore X8.here hx rfl (hb hby at_43) rfl rfl (l' := #[.val (.long q0), .second, .val (.int p1), .val (.long (own_p q0)), .second, .val (.int (bI (¬ ((p1 &&& (1 : Int32)) = (0 : Int32))))), .val (.ref b6), .unset]) rfl ?_
      show Steps p.tables e below (T8.setTop (mkF m 45 #[.val (.long q0), .second, .val (.int p1), .val (.long (own_p q0)), .second, .val (.int (bI (¬ ((p1 &&& (1 : Int32)) = (0 : Int32))))), .val (.ref b6), .unset] [])) _
      refine XS.goto X8.here hx rfl (pc0 := 45) (pc' := 59) rfl (hb hby at_45) (by decide) (by decide) ?_
      show Steps p.tables e below (T8.setTop (mkF m 59 #[.val (.long q0), .second, .val (.int p1), .val (.long (own_p q0)), .second, .val (.int (bI (¬ ((p1 &&& (1 : Int32)) = (0 : Int32))))), .val (.ref b6), .unset] [])) _
      refine XS.aload X8.here hx rfl (hb hby at_59) rfl rfl ?_
      exact k
    refine OG.step s12 ?_
    obtain ⟨cq13, kq13, q13a, q13b, q13c⟩ := isOf hZ rfl f9
    obtain ⟨_, _, ⟨T13, L13, k13, n13⟩, -, X13, ⟨Lc13, hQ13, l13, y13, z13⟩, st13⟩ := X8.virtualBack hx (y := (⟨"com/example/maqfel/maqfel/LockStore$Attempt", "isGranted", "()Z"⟩ : MethodName)) (z := (⟨"com/example/maqfel/maqfel/LockStore$Attempt", "isGranted", "()Z"⟩ : MethodName)) hown (mvT hZ (hw _ (List.mem_of_getElem? (i := 19) rfl))) (mvT hZ (hw _ (List.mem_of_getElem? (i := 20) rfl))) (notFace_of_selects (args := #[]) (mvT hZ (hw _ (List.mem_of_getElem? (i := 22) rfl)))) (mvT hZ (hw _ (List.mem_of_getElem? (i := 22) rfl))) (mvT hZ (hw _ (List.mem_of_getElem? (i := 21) rfl))) (by decide) (backOf (W := 0) (rm4 l Z a0 hw [] b6 (own_p q0) T8.heap n0 (Nat.le_trans Z0 K8.1) p8_0) hZ (hw _ (List.mem_of_getElem? (i := 23) rfl)) (hw _ (List.mem_of_getElem? (i := 3) rfl)) (by decide) (by decide)) q13a q13c (g := (mkF m 61 #[.val (.long q0), .second, .val (.int p1), .val (.long (own_p q0)), .second, .val (.int (bI (¬ ((p1 &&& (1 : Int32)) = (0 : Int32))))), .val (.ref b6), .unset] [(.ref b6)])) rfl (by rw [hml]; rfl) (Steps.refl _) (argsL := []) (rest := []) (lenOf pd___Z rfl) rfl (by show 2 * 0 + _ ≤ _; exact Nat.le_of_eq rfl) (hb hby at_61) (fun _ _ => ⟨rfl, rfl, (by decide : 1 + 0 ≤ _), (by decide : 2 + 0 ≤ _)⟩)
    dsimp only [Pt.U, Pt.locs, Pt.cells, Pt.slots] at X13 l13 y13 z13 st13 hQ13
    subst l13 y13 z13
    obtain ⟨rfl, N13q, e13⟩ := hQ13
    have N13 := Fr.app N8 N13q
    refine OG.step (fun t k => st13.trans k) ?_
    show OG _ _ _ _ _ _ _ (T13.setTop (mkF m 64 #[.val (.long q0), .second, .val (.int p1), .val (.long (own_p q0)), .second, .val (.int (bI (¬ ((p1 &&& (1 : Int32)) = (0 : Int32))))), .val (.ref b6), .unset] [(.int (bI (0 < (own_p q0))))]))
    have s14 : ∀ t, Steps p.tables e below (T13.setTop (mkF m 77 #[.val (.long q0), .second, .val (.int p1), .val (.long (own_p q0)), .second, .val (.int (bI (¬ ((p1 &&& (1 : Int32)) = (0 : Int32))))), .val (.ref b6), .val (.int (bI (0 < (own_p q0))))] [(.ref b6), (.int (bI (0 < (own_p q0))))])) t → Steps p.tables e below (T13.setTop (mkF m 64 #[.val (.long q0), .second, .val (.int p1), .val (.long (own_p q0)), .second, .val (.int (bI (¬ ((p1 &&& (1 : Int32)) = (0 : Int32))))), .val (.ref b6), .unset] [(.int (bI (0 < (own_p q0))))])) t := by
      intro t k
      refine XS.istore X13.here hx rfl (hb hby at_64) rfl (l' := #[.val (.long q0), .second, .val (.int p1), .val (.long (own_p q0)), .second, .val (.int (bI (¬ ((p1 &&& (1 : Int32)) = (0 : Int32))))), .val (.ref b6), .val (.int (bI (0 < (own_p q0))))]) rfl ?_
      show Steps p.tables e below (T13.setTop (mkF m 66 #[.val (.long q0), .second, .val (.int p1), .val (.long (own_p q0)), .second, .val (.int (bI (¬ ((p1 &&& (1 : Int32)) = (0 : Int32))))), .val (.ref b6), .val (.int (bI (0 < (own_p q0))))] [])) _
      refine XS.iload X13.here hx rfl (hb hby at_66) rfl ?_
      show Steps p.tables e below (T13.setTop (mkF m 68 #[.val (.long q0), .second, .val (.int p1), .val (.long (own_p q0)), .second, .val (.int (bI (¬ ((p1 &&& (1 : Int32)) = (0 : Int32))))), .val (.ref b6), .val (.int (bI (0 < (own_p q0))))] [(.int (bI (0 < (own_p q0))))])) _
      refine XS.iload X13.here hx rfl (hb hby at_68) rfl ?_
      show Steps p.tables e below (T13.setTop (mkF m 70 #[.val (.long q0), .second, .val (.int p1), .val (.long (own_p q0)), .second, .val (.int (bI (¬ ((p1 &&& (1 : Int32)) = (0 : Int32))))), .val (.ref b6), .val (.int (bI (0 < (own_p q0))))] [(.int (bI (¬ ((p1 &&& (1 : Int32)) = (0 : Int32))))), (.int (bI (0 < (own_p q0))))])) _
      refine XS.icmpNo X13.here hx rfl (hb hby at_70) rfl (teq ((bI_pos (own_ppos _)).trans (bI_pos hc31).symm)).2 ?_
      show Steps p.tables e below (T13.setTop (mkF m 73 #[.val (.long q0), .second, .val (.int p1), .val (.long (own_p q0)), .second, .val (.int (bI (¬ ((p1 &&& (1 : Int32)) = (0 : Int32))))), .val (.ref b6), .val (.int (bI (0 < (own_p q0))))] [])) _
      refine XS.iload X13.here hx rfl (hb hby at_73) rfl ?_
      show Steps p.tables e below (T13.setTop (mkF m 75 #[.val (.long q0), .second, .val (.int p1), .val (.long (own_p q0)), .second, .val (.int (bI (¬ ((p1 &&& (1 : Int32)) = (0 : Int32))))), .val (.ref b6), .val (.int (bI (0 < (own_p q0))))] [(.int (bI (0 < (own_p q0))))])) _
      refine XS.aload X13.here hx rfl (hb hby at_75) rfl rfl ?_
      exact k
    refine OG.step s14 ?_
    obtain ⟨cq15, kq15, q15a, q15b, q15c⟩ := isOf hZ e13 f9
    obtain ⟨_, _, ⟨T15, L15, k15, n15⟩, -, X15, ⟨Lc15, hQ15, l15, y15, z15⟩, st15⟩ := X13.virtualBack hx (y := (⟨"com/example/maqfel/maqfel/LockStore$Attempt", "retryMillis", "()J"⟩ : MethodName)) (z := (⟨"com/example/maqfel/maqfel/LockStore$Attempt", "retryMillis", "()J"⟩ : MethodName)) hown (mvT hZ (hw _ (List.mem_of_getElem? (i := 24) rfl))) (mvT hZ (hw _ (List.mem_of_getElem? (i := 25) rfl))) (notFace_of_selects (args := #[]) (mvT hZ (hw _ (List.mem_of_getElem? (i := 27) rfl)))) (mvT hZ (hw _ (List.mem_of_getElem? (i := 27) rfl))) (mvT hZ (hw _ (List.mem_of_getElem? (i := 26) rfl))) (by decide) (backOf (W := 1) (rm5 l Z a0 hw [] b6 (0 : Int64) T8.heap n0 (Nat.le_trans Z0 K8.1) p8_1) hZ (hw _ (List.mem_of_getElem? (i := 28) rfl)) (hw _ (List.mem_of_getElem? (i := 3) rfl)) (by decide) (by decide)) q15a q15c (g := (mkF m 77 #[.val (.long q0), .second, .val (.int p1), .val (.long (own_p q0)), .second, .val (.int (bI (¬ ((p1 &&& (1 : Int32)) = (0 : Int32))))), .val (.ref b6), .val (.int (bI (0 < (own_p q0))))] [(.ref b6), (.int (bI (0 < (own_p q0))))])) rfl (by rw [hml]; rfl) (Steps.refl _) (argsL := []) (rest := [(.int (bI (0 < (own_p q0))))]) (lenOf pd___J rfl) rfl (by show 2 * 0 + _ ≤ _; exact Nat.le_of_eq rfl) (hb hby at_77) (fun _ _ => ⟨rfl, e13, (by decide : 1 + 0 ≤ _), (by decide : 2 + 0 ≤ _)⟩)
    dsimp only [Pt.U, Pt.locs, Pt.cells, Pt.slots] at X15 l15 y15 z15 st15 hQ15
    subst l15 y15 z15
    obtain ⟨rfl, N15q, e15⟩ := hQ15
    have N15 := Fr.app N13 N15q
    refine OG.step (fun t k => st15.trans k) ?_
    show OG _ _ _ _ _ _ _ (T15.setTop (mkF m 80 #[.val (.long q0), .second, .val (.int p1), .val (.long (own_p q0)), .second, .val (.int (bI (¬ ((p1 &&& (1 : Int32)) = (0 : Int32))))), .val (.ref b6), .val (.int (bI (0 < (own_p q0))))] [(.long (0 : Int64)), (.int (bI (0 < (own_p q0))))]))
    have s16 : ∀ t, Steps p.tables e below (T15.setTop (mkF m 82 #[.val (.long q0), .second, .val (.int p1), .val (.long (own_p q0)), .second, .val (.int (bI (¬ ((p1 &&& (1 : Int32)) = (0 : Int32))))), .val (.ref b6), .val (.int (bI (0 < (own_p q0))))] [(.int (lcmpW (0 : Int64) (0 : Int64))), (.int (bI (0 < (own_p q0))))])) t → Steps p.tables e below (T15.setTop (mkF m 80 #[.val (.long q0), .second, .val (.int p1), .val (.long (own_p q0)), .second, .val (.int (bI (¬ ((p1 &&& (1 : Int32)) = (0 : Int32))))), .val (.ref b6), .val (.int (bI (0 < (own_p q0))))] [(.long (0 : Int64)), (.int (bI (0 < (own_p q0))))])) t := by
      intro t k
      refine XS.lconst X15.here hx rfl (hb hby at_80) ?_
      show Steps p.tables e below (T15.setTop (mkF m 81 #[.val (.long q0), .second, .val (.int p1), .val (.long (own_p q0)), .second, .val (.int (bI (¬ ((p1 &&& (1 : Int32)) = (0 : Int32))))), .val (.ref b6), .val (.int (bI (0 < (own_p q0))))] [(.long (0 : Int64)), (.long (0 : Int64)), (.int (bI (0 < (own_p q0))))])) _
      refine XS.lcmp X15.here hx rfl (hb hby at_81) rfl ?_
      exact k
    refine OG.step s16 ?_
    have s17 : ∀ t, Steps p.tables e below (T15.setTop (mkF m 90 #[.val (.long q0), .second, .val (.int p1), .val (.long (own_p q0)), .second, .val (.int (bI (¬ ((p1 &&& (1 : Int32)) = (0 : Int32))))), .val (.ref b6), .val (.int (bI (0 < (own_p q0))))] [(.int (bI ((0 : Int64) = (0 : Int64)))), (.int (bI (0 < (own_p q0))))])) t → Steps p.tables e below (T15.setTop (mkF m 82 #[.val (.long q0), .second, .val (.int p1), .val (.long (own_p q0)), .second, .val (.int (bI (¬ ((p1 &&& (1 : Int32)) = (0 : Int32))))), .val (.ref b6), .val (.int (bI (0 < (own_p q0))))] [(.int (lcmpW (0 : Int64) (0 : Int64))), (.int (bI (0 < (own_p q0))))])) t := by
      intro t k
      by_cases hm82 : (0 : Int64) = (0 : Int64)
      · refine XS.ifNo X15.here hx rfl (hb hby at_82) rfl ((if0 _ _).trans (teq ((lw_eq (0 : Int64) (0 : Int64)).mpr hm82)).2) ?_
        show Steps p.tables e below (T15.setTop (mkF m 85 #[.val (.long q0), .second, .val (.int p1), .val (.long (own_p q0)), .second, .val (.int (bI (¬ ((p1 &&& (1 : Int32)) = (0 : Int32))))), .val (.ref b6), .val (.int (bI (0 < (own_p q0))))] [(.int (bI (0 < (own_p q0))))])) _
        refine XS.iconst X15.here hx rfl (hb hby at_85) ?_
        show Steps p.tables e below (T15.setTop (mkF m 86 #[.val (.long q0), .second, .val (.int p1), .val (.long (own_p q0)), .second, .val (.int (bI (¬ ((p1 &&& (1 : Int32)) = (0 : Int32))))), .val (.ref b6), .val (.int (bI (0 < (own_p q0))))] [(.int (1 : Int32)), (.int (bI (0 < (own_p q0))))])) _
        refine XS.goto X15.here hx rfl (pc0 := 86) (pc' := 90) rfl (hb hby at_86) (by decide) (by decide) ?_
        show Steps p.tables e below (T15.setTop (mkF m 90 #[.val (.long q0), .second, .val (.int p1), .val (.long (own_p q0)), .second, .val (.int (bI (¬ ((p1 &&& (1 : Int32)) = (0 : Int32))))), .val (.ref b6), .val (.int (bI (0 < (own_p q0))))] [(.int (1 : Int32)), (.int (bI (0 < (own_p q0))))])) _
        rw [show (bI ((0 : Int64) = (0 : Int64))) = (1 : Int32) from bI_pos (P := (0 : Int64) = (0 : Int64)) hm82] at k
        exact k
      · refine XS.ifYes X15.here hx rfl (pc0 := 82) (pc' := 89) rfl (hb hby at_82) rfl ((if0 _ _).trans (feq (mt (lw_eq (0 : Int64) (0 : Int64)).mp hm82)).2) (by decide) (by decide) ?_
        show Steps p.tables e below (T15.setTop (mkF m 89 #[.val (.long q0), .second, .val (.int p1), .val (.long (own_p q0)), .second, .val (.int (bI (¬ ((p1 &&& (1 : Int32)) = (0 : Int32))))), .val (.ref b6), .val (.int (bI (0 < (own_p q0))))] [(.int (bI (0 < (own_p q0))))])) _
        refine XS.iconst X15.here hx rfl (hb hby at_89) ?_
        show Steps p.tables e below (T15.setTop (mkF m 90 #[.val (.long q0), .second, .val (.int p1), .val (.long (own_p q0)), .second, .val (.int (bI (¬ ((p1 &&& (1 : Int32)) = (0 : Int32))))), .val (.ref b6), .val (.int (bI (0 < (own_p q0))))] [(.int (0 : Int32)), (.int (bI (0 < (own_p q0))))])) _
        rw [show (bI ((0 : Int64) = (0 : Int64))) = (0 : Int32) from bI_neg (P := (0 : Int64) = (0 : Int64)) hm82] at k
        exact k
    refine OG.step s17 ?_
    have s18 : ∀ t, Steps p.tables e below (T15.setTop (mkF m 98 #[.val (.long q0), .second, .val (.int p1), .val (.long (own_p q0)), .second, .val (.int (bI (¬ ((p1 &&& (1 : Int32)) = (0 : Int32))))), .val (.ref b6), .val (.int (bI (0 < (own_p q0))))] [(.int (1 : Int32))])) t → Steps p.tables e below (T15.setTop (mkF m 90 #[.val (.long q0), .second, .val (.int p1), .val (.long (own_p q0)), .second, .val (.int (bI (¬ ((p1 &&& (1 : Int32)) = (0 : Int32))))), .val (.ref b6), .val (.int (bI (0 < (own_p q0))))] [(.int (bI ((0 : Int64) = (0 : Int64)))), (.int (bI (0 < (own_p q0))))])) t := by
      intro t k
      refine XS.icmpNo X15.here hx rfl (hb hby at_90) rfl (teq ((bI_pos (own_ppos _)).trans (bI_pos rfl).symm)).2 ?_
      show Steps p.tables e below (T15.setTop (mkF m 93 #[.val (.long q0), .second, .val (.int p1), .val (.long (own_p q0)), .second, .val (.int (bI (¬ ((p1 &&& (1 : Int32)) = (0 : Int32))))), .val (.ref b6), .val (.int (bI (0 < (own_p q0))))] [])) _
      refine XS.iconst X15.here hx rfl (hb hby at_93) ?_
      show Steps p.tables e below (T15.setTop (mkF m 94 #[.val (.long q0), .second, .val (.int p1), .val (.long (own_p q0)), .second, .val (.int (bI (¬ ((p1 &&& (1 : Int32)) = (0 : Int32))))), .val (.ref b6), .val (.int (bI (0 < (own_p q0))))] [(.int (1 : Int32))])) _
      refine XS.goto X15.here hx rfl (pc0 := 94) (pc' := 98) rfl (hb hby at_94) (by decide) (by decide) ?_
      exact k
    refine OG.step s18 ?_
    exact OG.retZ X15 hx hlk Bd.returns (hb hby at_98) (nar_1) e15 ⟨rfl, N15⟩ (by decide) (by decide)
  · have s19 : ∀ t, Steps p.tables e below (s₁.setTop (mkF m 48 #[.val (.long q0), .second, .val (.int p1), .val (.long (own_p q0)), .second, .val (.int (bI (¬ ((p1 &&& (1 : Int32)) = (0 : Int32))))), .unset, .unset] [])) t → Steps p.tables e below (s₁.setTop (mkF m 31 #[.val (.long q0), .second, .val (.int p1), .val (.long (own_p q0)), .second, .val (.int (bI (¬ ((p1 &&& (1 : Int32)) = (0 : Int32))))), .unset, .unset] [(.int (bI (¬ ((p1 &&& (1 : Int32)) = (0 : Int32)))))])) t := by
      intro t k
      refine XS.ifYes X0.here hx rfl (pc0 := 31) (pc' := 48) rfl (hb hby at_31) rfl ((if0 _ _).trans (teq (bI_0 hc31)).1) (by decide) (by decide) ?_
      exact k
    refine OG.step s19 ?_
    obtain ⟨T20, h20, X20, e20, E20, A20, D20, -, st20⟩ := newO X0 hx hZ hown (hw _ (List.mem_of_getElem? (i := 1) rfl)) (hw _ (List.mem_of_getElem? (i := 2) rfl)) (hw _ (List.mem_of_getElem? (i := 3) rfl)) e0 (g := (mkF m 48 #[.val (.long q0), .second, .val (.int p1), .val (.long (own_p q0)), .second, .val (.int (bI (¬ ((p1 &&& (1 : Int32)) = (0 : Int32))))), .unset, .unset] [])) rfl (hb hby at_48) (by decide) (by decide)
    obtain ⟨b20, g20⟩ : ∃ z, z = h0.size := ⟨_, rfl⟩
    rw [← g20] at A20 D20 st20
    have sz20 : h0.size ≤ b20 := Nat.le_trans K0.1 (Nat.le_of_eq g20.symm)
    have ge20 : n0 ≤ b20 := Nat.le_trans Z0 sz20
    refine OG.step st20 ?_
    have F20_token : Fld Z h20 b20 "com/example/maqfel/maqfel/LockStore$Attempt" "token" "J" (.long (0 : Int64)) := D20 (Or.inr (hw _ (List.mem_of_getElem? (i := 16) rfl))) (ty := .long) (by decide)
    have F20_retryMillis : Fld Z h20 b20 "com/example/maqfel/maqfel/LockStore$Attempt" "retryMillis" "J" (.long (0 : Int64)) := D20 (Or.inr (hw _ (List.mem_of_getElem? (i := 18) rfl))) (ty := .long) (by decide)
    have K20 := K0.ext E20
    show OG _ _ _ _ _ _ _ (T20.setTop (mkF m 51 #[.val (.long q0), .second, .val (.int p1), .val (.long (own_p q0)), .second, .val (.int (bI (¬ ((p1 &&& (1 : Int32)) = (0 : Int32))))), .unset, .unset] [(.ref b20)]))
    have s21 : ∀ t, Steps p.tables e below (T20.setTop (mkF m 54 #[.val (.long q0), .second, .val (.int p1), .val (.long (own_p q0)), .second, .val (.int (bI (¬ ((p1 &&& (1 : Int32)) = (0 : Int32))))), .unset, .unset] [(.long (own_p q0)), (.long (0 : Int64)), (.ref b20), (.ref b20)])) t → Steps p.tables e below (T20.setTop (mkF m 51 #[.val (.long q0), .second, .val (.int p1), .val (.long (own_p q0)), .second, .val (.int (bI (¬ ((p1 &&& (1 : Int32)) = (0 : Int32))))), .unset, .unset] [(.ref b20)])) t := by
      intro t k
      refine XS.dup X20.here hx rfl (hb hby at_51) rfl rfl ?_
      show Steps p.tables e below (T20.setTop (mkF m 52 #[.val (.long q0), .second, .val (.int p1), .val (.long (own_p q0)), .second, .val (.int (bI (¬ ((p1 &&& (1 : Int32)) = (0 : Int32))))), .unset, .unset] [(.ref b20), (.ref b20)])) _
      refine XS.lconst X20.here hx rfl (hb hby at_52) ?_
      show Steps p.tables e below (T20.setTop (mkF m 53 #[.val (.long q0), .second, .val (.int p1), .val (.long (own_p q0)), .second, .val (.int (bI (¬ ((p1 &&& (1 : Int32)) = (0 : Int32))))), .unset, .unset] [(.long (0 : Int64)), (.ref b20), (.ref b20)])) _
      refine XS.lloadN X20.here hx rfl (hb hby at_53) rfl ?_
      exact k
    refine OG.step s21 ?_
    obtain ⟨_, _, ⟨T22, L22, k22, n22⟩, -, X22, ⟨Lc22, hQ22, l22, y22, z22⟩, st22⟩ := X20.specialBack hx (y := (⟨"com/example/maqfel/maqfel/LockStore$Attempt", "<init>", "(JJ)V"⟩ : MethodName)) rfl hown (mvT hZ (hw _ (List.mem_of_getElem? (i := 4) rfl))) (mvT hZ (hw _ (List.mem_of_getElem? (i := 5) rfl))) (mvT hZ (hw _ (List.mem_of_getElem? (i := 6) rfl))) (by decide) (backOf (W := 1) (rm1 l Z a0 hw [] b20 (0 : Int64) (own_p q0) (.long (0 : Int64)) (.long (0 : Int64)) h20 n0 (Nat.le_trans Z0 K20.1) A20 F20_token F20_retryMillis ge20 (by decide) (own_asym (own_ppos _)) (by rw [bI_pos (own_ppos _), bI_neg (by decide)]; decide)) hZ (hw _ (List.mem_of_getElem? (i := 6) rfl)) (hw _ (List.mem_of_getElem? (i := 3) rfl)) (by decide) (by decide)) (g := (mkF m 54 #[.val (.long q0), .second, .val (.int p1), .val (.long (own_p q0)), .second, .val (.int (bI (¬ ((p1 &&& (1 : Int32)) = (0 : Int32))))), .unset, .unset] [(.long (own_p q0)), (.long (0 : Int64)), (.ref b20), (.ref b20)])) rfl (by rw [hml]; rfl) (Steps.refl _) (a := b20) (argsL := [(.long (0 : Int64)), (.long (own_p q0))]) (rest := [(.ref b20)]) (lenOf pd__JJ_V rfl) rfl (by show 2 * 0 + _ ≤ _; exact Nat.le_of_eq rfl) (hb hby at_54) (fun _ _ => ⟨rfl, e20, (by decide : 1 + 0 ≤ _), (by decide : 2 + 0 ≤ _)⟩)
    dsimp only [Pt.U, Pt.locs, Pt.cells, Pt.slots] at X22 l22 y22 z22 st22 hQ22
    subst l22 y22 z22
    obtain ⟨rfl, N22q, Kc22, p22_0, p22_1⟩ := hQ22
    have N22 := Fr.app N0 N22q
    refine OG.step (fun t k => st22.trans k) ?_
    have f23 := A20.keep Kc22
    have K22 := K20.trans Kc22 (allS (Or.inr sz20) all0)
    show OG _ _ _ _ _ _ _ (T22.setTop (mkF m 57 #[.val (.long q0), .second, .val (.int p1), .val (.long (own_p q0)), .second, .val (.int (bI (¬ ((p1 &&& (1 : Int32)) = (0 : Int32))))), .unset, .unset] [(.ref b20)]))
    have s26 : ∀ t, Steps p.tables e below (T22.setTop (mkF m 61 #[.val (.long q0), .second, .val (.int p1), .val (.long (own_p q0)), .second, .val (.int (bI (¬ ((p1 &&& (1 : Int32)) = (0 : Int32))))), .val (.ref b20), .unset] [(.ref b20)])) t → Steps p.tables e below (T22.setTop (mkF m 57 #[.val (.long q0), .second, .val (.int p1), .val (.long (own_p q0)), .second, .val (.int (bI (¬ ((p1 &&& (1 : Int32)) = (0 : Int32))))), .unset, .unset] [(.ref b20)])) t := by
      intro t k
      refine XS.astore X22.here hx rfl (hb hby at_57) rfl rfl (l' := #[.val (.long q0), .second, .val (.int p1), .val (.long (own_p q0)), .second, .val (.int (bI (¬ ((p1 &&& (1 : Int32)) = (0 : Int32))))), .val (.ref b20), .unset]) rfl ?_
      show Steps p.tables e below (T22.setTop (mkF m 59 #[.val (.long q0), .second, .val (.int p1), .val (.long (own_p q0)), .second, .val (.int (bI (¬ ((p1 &&& (1 : Int32)) = (0 : Int32))))), .val (.ref b20), .unset] [])) _
      refine XS.aload X22.here hx rfl (hb hby at_59) rfl rfl ?_
      exact k
    refine OG.step s26 ?_
    obtain ⟨cq27, kq27, q27a, q27b, q27c⟩ := isOf hZ rfl f23
    obtain ⟨_, _, ⟨T27, L27, k27, n27⟩, -, X27, ⟨Lc27, hQ27, l27, y27, z27⟩, st27⟩ := X22.virtualBack hx (y := (⟨"com/example/maqfel/maqfel/LockStore$Attempt", "isGranted", "()Z"⟩ : MethodName)) (z := (⟨"com/example/maqfel/maqfel/LockStore$Attempt", "isGranted", "()Z"⟩ : MethodName)) hown (mvT hZ (hw _ (List.mem_of_getElem? (i := 19) rfl))) (mvT hZ (hw _ (List.mem_of_getElem? (i := 20) rfl))) (notFace_of_selects (args := #[]) (mvT hZ (hw _ (List.mem_of_getElem? (i := 22) rfl)))) (mvT hZ (hw _ (List.mem_of_getElem? (i := 22) rfl))) (mvT hZ (hw _ (List.mem_of_getElem? (i := 21) rfl))) (by decide) (backOf (W := 0) (rm4 l Z a0 hw [] b20 (0 : Int64) T22.heap n0 (Nat.le_trans Z0 K22.1) p22_0) hZ (hw _ (List.mem_of_getElem? (i := 23) rfl)) (hw _ (List.mem_of_getElem? (i := 3) rfl)) (by decide) (by decide)) q27a q27c (g := (mkF m 61 #[.val (.long q0), .second, .val (.int p1), .val (.long (own_p q0)), .second, .val (.int (bI (¬ ((p1 &&& (1 : Int32)) = (0 : Int32))))), .val (.ref b20), .unset] [(.ref b20)])) rfl (by rw [hml]; rfl) (Steps.refl _) (argsL := []) (rest := []) (lenOf pd___Z rfl) rfl (by show 2 * 0 + _ ≤ _; exact Nat.le_of_eq rfl) (hb hby at_61) (fun _ _ => ⟨rfl, rfl, (by decide : 1 + 0 ≤ _), (by decide : 2 + 0 ≤ _)⟩)
    dsimp only [Pt.U, Pt.locs, Pt.cells, Pt.slots] at X27 l27 y27 z27 st27 hQ27
    subst l27 y27 z27
    obtain ⟨rfl, N27q, e27⟩ := hQ27
    have N27 := Fr.app N22 N27q
    refine OG.step (fun t k => st27.trans k) ?_
    show OG _ _ _ _ _ _ _ (T27.setTop (mkF m 64 #[.val (.long q0), .second, .val (.int p1), .val (.long (own_p q0)), .second, .val (.int (bI (¬ ((p1 &&& (1 : Int32)) = (0 : Int32))))), .val (.ref b20), .unset] [(.int (bI (0 < (0 : Int64))))]))
    have s28 : ∀ t, Steps p.tables e below (T27.setTop (mkF m 77 #[.val (.long q0), .second, .val (.int p1), .val (.long (own_p q0)), .second, .val (.int (bI (¬ ((p1 &&& (1 : Int32)) = (0 : Int32))))), .val (.ref b20), .val (.int (bI (0 < (0 : Int64))))] [(.ref b20), (.int (bI (0 < (0 : Int64))))])) t → Steps p.tables e below (T27.setTop (mkF m 64 #[.val (.long q0), .second, .val (.int p1), .val (.long (own_p q0)), .second, .val (.int (bI (¬ ((p1 &&& (1 : Int32)) = (0 : Int32))))), .val (.ref b20), .unset] [(.int (bI (0 < (0 : Int64))))])) t := by
      intro t k
      refine XS.istore X27.here hx rfl (hb hby at_64) rfl (l' := #[.val (.long q0), .second, .val (.int p1), .val (.long (own_p q0)), .second, .val (.int (bI (¬ ((p1 &&& (1 : Int32)) = (0 : Int32))))), .val (.ref b20), .val (.int (bI (0 < (0 : Int64))))]) rfl ?_
      show Steps p.tables e below (T27.setTop (mkF m 66 #[.val (.long q0), .second, .val (.int p1), .val (.long (own_p q0)), .second, .val (.int (bI (¬ ((p1 &&& (1 : Int32)) = (0 : Int32))))), .val (.ref b20), .val (.int (bI (0 < (0 : Int64))))] [])) _
      refine XS.iload X27.here hx rfl (hb hby at_66) rfl ?_
      show Steps p.tables e below (T27.setTop (mkF m 68 #[.val (.long q0), .second, .val (.int p1), .val (.long (own_p q0)), .second, .val (.int (bI (¬ ((p1 &&& (1 : Int32)) = (0 : Int32))))), .val (.ref b20), .val (.int (bI (0 < (0 : Int64))))] [(.int (bI (0 < (0 : Int64))))])) _
      refine XS.iload X27.here hx rfl (hb hby at_68) rfl ?_
      show Steps p.tables e below (T27.setTop (mkF m 70 #[.val (.long q0), .second, .val (.int p1), .val (.long (own_p q0)), .second, .val (.int (bI (¬ ((p1 &&& (1 : Int32)) = (0 : Int32))))), .val (.ref b20), .val (.int (bI (0 < (0 : Int64))))] [(.int (bI (¬ ((p1 &&& (1 : Int32)) = (0 : Int32))))), (.int (bI (0 < (0 : Int64))))])) _
      refine XS.icmpNo X27.here hx rfl (hb hby at_70) rfl (teq ((bI_neg (by decide)).trans (bI_neg hc31).symm)).2 ?_
      show Steps p.tables e below (T27.setTop (mkF m 73 #[.val (.long q0), .second, .val (.int p1), .val (.long (own_p q0)), .second, .val (.int (bI (¬ ((p1 &&& (1 : Int32)) = (0 : Int32))))), .val (.ref b20), .val (.int (bI (0 < (0 : Int64))))] [])) _
      refine XS.iload X27.here hx rfl (hb hby at_73) rfl ?_
      show Steps p.tables e below (T27.setTop (mkF m 75 #[.val (.long q0), .second, .val (.int p1), .val (.long (own_p q0)), .second, .val (.int (bI (¬ ((p1 &&& (1 : Int32)) = (0 : Int32))))), .val (.ref b20), .val (.int (bI (0 < (0 : Int64))))] [(.int (bI (0 < (0 : Int64))))])) _
      refine XS.aload X27.here hx rfl (hb hby at_75) rfl rfl ?_
      exact k
    refine OG.step s28 ?_
    obtain ⟨cq29, kq29, q29a, q29b, q29c⟩ := isOf hZ e27 f23
    obtain ⟨_, _, ⟨T29, L29, k29, n29⟩, -, X29, ⟨Lc29, hQ29, l29, y29, z29⟩, st29⟩ := X27.virtualBack hx (y := (⟨"com/example/maqfel/maqfel/LockStore$Attempt", "retryMillis", "()J"⟩ : MethodName)) (z := (⟨"com/example/maqfel/maqfel/LockStore$Attempt", "retryMillis", "()J"⟩ : MethodName)) hown (mvT hZ (hw _ (List.mem_of_getElem? (i := 24) rfl))) (mvT hZ (hw _ (List.mem_of_getElem? (i := 25) rfl))) (notFace_of_selects (args := #[]) (mvT hZ (hw _ (List.mem_of_getElem? (i := 27) rfl)))) (mvT hZ (hw _ (List.mem_of_getElem? (i := 27) rfl))) (mvT hZ (hw _ (List.mem_of_getElem? (i := 26) rfl))) (by decide) (backOf (W := 1) (rm5 l Z a0 hw [] b20 (own_p q0) T22.heap n0 (Nat.le_trans Z0 K22.1) p22_1) hZ (hw _ (List.mem_of_getElem? (i := 28) rfl)) (hw _ (List.mem_of_getElem? (i := 3) rfl)) (by decide) (by decide)) q29a q29c (g := (mkF m 77 #[.val (.long q0), .second, .val (.int p1), .val (.long (own_p q0)), .second, .val (.int (bI (¬ ((p1 &&& (1 : Int32)) = (0 : Int32))))), .val (.ref b20), .val (.int (bI (0 < (0 : Int64))))] [(.ref b20), (.int (bI (0 < (0 : Int64))))])) rfl (by rw [hml]; rfl) (Steps.refl _) (argsL := []) (rest := [(.int (bI (0 < (0 : Int64))))]) (lenOf pd___J rfl) rfl (by show 2 * 0 + _ ≤ _; exact Nat.le_of_eq rfl) (hb hby at_77) (fun _ _ => ⟨rfl, e27, (by decide : 1 + 0 ≤ _), (by decide : 2 + 0 ≤ _)⟩)
    dsimp only [Pt.U, Pt.locs, Pt.cells, Pt.slots] at X29 l29 y29 z29 st29 hQ29
    subst l29 y29 z29
    obtain ⟨rfl, N29q, e29⟩ := hQ29
    have N29 := Fr.app N27 N29q
    refine OG.step (fun t k => st29.trans k) ?_
    show OG _ _ _ _ _ _ _ (T29.setTop (mkF m 80 #[.val (.long q0), .second, .val (.int p1), .val (.long (own_p q0)), .second, .val (.int (bI (¬ ((p1 &&& (1 : Int32)) = (0 : Int32))))), .val (.ref b20), .val (.int (bI (0 < (0 : Int64))))] [(.long (own_p q0)), (.int (bI (0 < (0 : Int64))))]))
    have s30 : ∀ t, Steps p.tables e below (T29.setTop (mkF m 82 #[.val (.long q0), .second, .val (.int p1), .val (.long (own_p q0)), .second, .val (.int (bI (¬ ((p1 &&& (1 : Int32)) = (0 : Int32))))), .val (.ref b20), .val (.int (bI (0 < (0 : Int64))))] [(.int (lcmpW (own_p q0) (0 : Int64))), (.int (bI (0 < (0 : Int64))))])) t → Steps p.tables e below (T29.setTop (mkF m 80 #[.val (.long q0), .second, .val (.int p1), .val (.long (own_p q0)), .second, .val (.int (bI (¬ ((p1 &&& (1 : Int32)) = (0 : Int32))))), .val (.ref b20), .val (.int (bI (0 < (0 : Int64))))] [(.long (own_p q0)), (.int (bI (0 < (0 : Int64))))])) t := by
      intro t k
      refine XS.lconst X29.here hx rfl (hb hby at_80) ?_
      show Steps p.tables e below (T29.setTop (mkF m 81 #[.val (.long q0), .second, .val (.int p1), .val (.long (own_p q0)), .second, .val (.int (bI (¬ ((p1 &&& (1 : Int32)) = (0 : Int32))))), .val (.ref b20), .val (.int (bI (0 < (0 : Int64))))] [(.long (0 : Int64)), (.long (own_p q0)), (.int (bI (0 < (0 : Int64))))])) _
      refine XS.lcmp X29.here hx rfl (hb hby at_81) rfl ?_
      exact k
    refine OG.step s30 ?_
    have s31 : ∀ t, Steps p.tables e below (T29.setTop (mkF m 90 #[.val (.long q0), .second, .val (.int p1), .val (.long (own_p q0)), .second, .val (.int (bI (¬ ((p1 &&& (1 : Int32)) = (0 : Int32))))), .val (.ref b20), .val (.int (bI (0 < (0 : Int64))))] [(.int (bI ((own_p q0) = (0 : Int64)))), (.int (bI (0 < (0 : Int64))))])) t → Steps p.tables e below (T29.setTop (mkF m 82 #[.val (.long q0), .second, .val (.int p1), .val (.long (own_p q0)), .second, .val (.int (bI (¬ ((p1 &&& (1 : Int32)) = (0 : Int32))))), .val (.ref b20), .val (.int (bI (0 < (0 : Int64))))] [(.int (lcmpW (own_p q0) (0 : Int64))), (.int (bI (0 < (0 : Int64))))])) t := by
      intro t k
      by_cases hm82 : (own_p q0) = (0 : Int64)
      · refine XS.ifNo X29.here hx rfl (hb hby at_82) rfl ((if0 _ _).trans (teq ((lw_eq (own_p q0) (0 : Int64)).mpr hm82)).2) ?_
        show Steps p.tables e below (T29.setTop (mkF m 85 #[.val (.long q0), .second, .val (.int p1), .val (.long (own_p q0)), .second, .val (.int (bI (¬ ((p1 &&& (1 : Int32)) = (0 : Int32))))), .val (.ref b20), .val (.int (bI (0 < (0 : Int64))))] [(.int (bI (0 < (0 : Int64))))])) _
        refine XS.iconst X29.here hx rfl (hb hby at_85) ?_
        show Steps p.tables e below (T29.setTop (mkF m 86 #[.val (.long q0), .second, .val (.int p1), .val (.long (own_p q0)), .second, .val (.int (bI (¬ ((p1 &&& (1 : Int32)) = (0 : Int32))))), .val (.ref b20), .val (.int (bI (0 < (0 : Int64))))] [(.int (1 : Int32)), (.int (bI (0 < (0 : Int64))))])) _
        refine XS.goto X29.here hx rfl (pc0 := 86) (pc' := 90) rfl (hb hby at_86) (by decide) (by decide) ?_
        show Steps p.tables e below (T29.setTop (mkF m 90 #[.val (.long q0), .second, .val (.int p1), .val (.long (own_p q0)), .second, .val (.int (bI (¬ ((p1 &&& (1 : Int32)) = (0 : Int32))))), .val (.ref b20), .val (.int (bI (0 < (0 : Int64))))] [(.int (1 : Int32)), (.int (bI (0 < (0 : Int64))))])) _
        rw [show (bI ((own_p q0) = (0 : Int64))) = (1 : Int32) from bI_pos (P := (own_p q0) = (0 : Int64)) hm82] at k
        exact k
      · refine XS.ifYes X29.here hx rfl (pc0 := 82) (pc' := 89) rfl (hb hby at_82) rfl ((if0 _ _).trans (feq (mt (lw_eq (own_p q0) (0 : Int64)).mp hm82)).2) (by decide) (by decide) ?_
        show Steps p.tables e below (T29.setTop (mkF m 89 #[.val (.long q0), .second, .val (.int p1), .val (.long (own_p q0)), .second, .val (.int (bI (¬ ((p1 &&& (1 : Int32)) = (0 : Int32))))), .val (.ref b20), .val (.int (bI (0 < (0 : Int64))))] [(.int (bI (0 < (0 : Int64))))])) _
        refine XS.iconst X29.here hx rfl (hb hby at_89) ?_
        show Steps p.tables e below (T29.setTop (mkF m 90 #[.val (.long q0), .second, .val (.int p1), .val (.long (own_p q0)), .second, .val (.int (bI (¬ ((p1 &&& (1 : Int32)) = (0 : Int32))))), .val (.ref b20), .val (.int (bI (0 < (0 : Int64))))] [(.int (0 : Int32)), (.int (bI (0 < (0 : Int64))))])) _
        rw [show (bI ((own_p q0) = (0 : Int64))) = (0 : Int32) from bI_neg (P := (own_p q0) = (0 : Int64)) hm82] at k
        exact k
    refine OG.step s31 ?_
    have s32 : ∀ t, Steps p.tables e below (T29.setTop (mkF m 98 #[.val (.long q0), .second, .val (.int p1), .val (.long (own_p q0)), .second, .val (.int (bI (¬ ((p1 &&& (1 : Int32)) = (0 : Int32))))), .val (.ref b20), .val (.int (bI (0 < (0 : Int64))))] [(.int (1 : Int32))])) t → Steps p.tables e below (T29.setTop (mkF m 90 #[.val (.long q0), .second, .val (.int p1), .val (.long (own_p q0)), .second, .val (.int (bI (¬ ((p1 &&& (1 : Int32)) = (0 : Int32))))), .val (.ref b20), .val (.int (bI (0 < (0 : Int64))))] [(.int (bI ((own_p q0) = (0 : Int64)))), (.int (bI (0 < (0 : Int64))))])) t := by
      intro t k
      refine XS.icmpNo X29.here hx rfl (hb hby at_90) rfl (teq ((bI_neg (by decide)).trans (bI_neg (fun z => absurd (own_ppos q0) (by rw [z]; decide))).symm)).2 ?_
      show Steps p.tables e below (T29.setTop (mkF m 93 #[.val (.long q0), .second, .val (.int p1), .val (.long (own_p q0)), .second, .val (.int (bI (¬ ((p1 &&& (1 : Int32)) = (0 : Int32))))), .val (.ref b20), .val (.int (bI (0 < (0 : Int64))))] [])) _
      refine XS.iconst X29.here hx rfl (hb hby at_93) ?_
      show Steps p.tables e below (T29.setTop (mkF m 94 #[.val (.long q0), .second, .val (.int p1), .val (.long (own_p q0)), .second, .val (.int (bI (¬ ((p1 &&& (1 : Int32)) = (0 : Int32))))), .val (.ref b20), .val (.int (bI (0 < (0 : Int64))))] [(.int (1 : Int32))])) _
      refine XS.goto X29.here hx rfl (pc0 := 94) (pc' := 98) rfl (hb hby at_94) (by decide) (by decide) ?_
      exact k
    refine OG.step s32 ?_
    exact OG.retZ X29 hx hlk Bd.returns (hb hby at_98) (nar_1) e29 ⟨rfl, N29⟩ (by decide) (by decide)
set_option maxRecDepth 65536 in
set_option maxHeartbeats 40000000 in
theorem comes_1 {Post : Tables → Env → Array Value → State → Outcome → State → Prop} (hpost : ∀ tb e args s v u, (limb_1_1.after args s (.returned v) u = true ∧ limb_1_2.after args s (.returned v) u = true ∧ True) → FrameEnd s (.returned v) u (Jvm.fieldLocs frame_1_writes args s ++ Jvm.arrayLocs frame_1_arrays args s ++ Jvm.staticLocs frame_1_statics s) 16 128 → Post tb e args s (.returned v) u) :
    ArmFor flags0 classFile x code maxLocals ret World_1 tables_1 room_1 Calls_1 rest_1 Pre_1 Post := by
  intro l hfl _ _ p e ha hc hk s m args below hf hA hF happ hP
  obtain ⟨hcalls, hrest, hpre⟩ := hP
  obtain ⟨-, -, -, hnamed, -, -, -, hat⟩ := (Spec.applies_iff hf).mp happ
  obtain ⟨hg, hn⟩ := and_e (Cond.before_iff.mp (show (Jvm.Cond.and given_1 narrow_1).before args s = true from hpre))
  obtain ⟨hcount, hg0⟩ := and_e hg
  obtain ⟨ha0, hg1⟩ := and_e hg0
  obtain ⟨w0, w1, rfl⟩ : ∃ w0 w1 : Value, args = #[w0, w1] := by
    have hs : args.size = 2 := by simpa [Cond.value, given_1] using hcount
    obtain ⟨L⟩ := args
    match L, hs with
    | [w0, w1], _ => exact ⟨w0, w1, rfl⟩
  have hw := fun d (hd : d ∈ tables_1) => atoms_spec (ws := Jvm.Cond.code x code maxLocals ret :: tables_1) hat d (List.mem_cons_of_mem _ hd)
  obtain ⟨i0, ei0⟩ := isL_v ha0
  obtain rfl : w0 = (.long i0) := Option.some.inj ei0
  obtain ⟨i1, ei1⟩ := is_v hg1
  obtain rfl : w1 = (.int i1) := Option.some.inj ei1
  obtain ⟨n, o, h1, h2, h3, _, L, rfl, ⟨rfl, N⟩, hq⟩ := rm0 l s _ hw tables_1 i0 i1 s.heap s.heap.size (Nat.le_refl _) p e ha hc hk s m _ below hf ((Spec.applies_iff_loose hf).mp happ).1 ⟨rfl, State.Warmed39.refl s, rfl⟩ trivial
  refine ⟨n, _, h1, h2, h3, hpost _ _ _ _ _ _ ⟨Cond.after_iff.mpr rfl, Cond.after_iff.mpr (eq_i res_at (Term.int_eval (1)) rfl), trivial⟩ ⟨hq.1, hq.2.1, (hq.2.2.sift fun y hy => Or.inr (N y hy)).mono (by decide) (by decide)⟩⟩
theorem main_1_1 : Claimed_1_1 := comes_1 fun _ _ _ _ _ _ h hF => ⟨h.1, hF⟩
theorem main_1_2 : Claimed_1_2 := comes_1 fun _ _ _ _ _ _ h hF => ⟨h.2.1, hF⟩
end Jvm.Pilot.@@N@@
namespace Jvm.Pilot.@@N@@
open Jvm Jvm.ClassFile Sem Op Lib Jvm.Free Jvm.Stand Jvm.Pilot.@@N@@.Jvm.D
/-! MADE BY PROGRAM (witnessworld.py) out of the Statement's table words and the real class files: 10 classes; the members and pool entries that the words name. The judged class is class 1, her method 1. -/
namespace start1
open Jvm.ClassFile
def u (s : String) : CpInfo := .utf8 (stringToUtf16 s)
/-- a pool by its gaps: so many unusable entries, then the entry; so many at the end -/
def gap : Nat → List CpInfo → List CpInfo
  | 0, r => r
  | n + 1, r => .unusable :: gap n r
def poolList (es : List (Nat × CpInfo)) (last : Nat) : List CpInfo := es.foldr (fun e r => gap e.1 (e.2 :: r)) (gap last [])
def pool (es : List (Nat × CpInfo)) (last : Nat) : Array CpInfo := ⟨poolList es last⟩
def fileOf (pool : Array CpInfo) (this : Nat) (attrs : Array Attribute := #[]) (ms : Array MethodInfo := #[]) (fl : Nat := 33) (sup : Nat := 0) (ifs : Array Nat := #[]) (fds : Array FieldInfo := #[]) : ClassFile where
  minorVersion := 0
  majorVersion := 65
  constantPool := pool
  accessFlags := fl
  thisClass := this
  superClass := sup
  interfaces := ifs
  fields := fds
  methods := ms
  attributes := attrs
def plain (name : String) (sup : Option ClassId) : Class where
  name := name
  kind := .ordinary
  loader := none
  accessFlags := 33
  super := sup
  interfaces := #[]
  cf := none
  fields := #[]
  methods := #[]
  instanceTypes := #[]
  staticTypes := #[]
  resolved := #[]
  callSites := []
  init := .initialized
  statics := none
  mirror := none

def pool0 : Array CpInfo := pool [(5, u "<init>"), (0, u "()V"), (1, .class_ 10), (1, u "java/lang/Object")] 113

def k0c0 : Code := { maxStack := 0, maxLocals := 1, code := object_method_1_code, exceptionTable := #[], attributes := #[] }
def k0m0 : Method := { name := "<init>", desc := "()V", sig := { parameters := [], returnType := none }, accessFlags := 1, code := some k0c0 }
/-- java/lang/Object -/
def k0 : Class := { plain "java/lang/Object" none with
  accessFlags := 33
  interfaces := #[]
  cf := some (fileOf pool0 8 #[] #[{ accessFlags := 1, nameIndex := 5, descriptorIndex := 6, attributes := #[] }] 33 0 #[] #[])
  fields := #[]
  methods := #[k0m0]
  instanceTypes := #[]
  staticTypes := #[]
  resolved := Array.replicate 124 none
  statics := none }

def pool1 : Array CpInfo := pool [(2, .class_ 4), (1, u "java/lang/Object"), (0, u "<init>"), (0, u "()V"), (2, .long 9223372036854775807), (1, .class_ 12), (0, u "com/example/maqfel/maqfel/LockStore$Attempt"), (0, .methodref 11 14), (0, .nameAndType 5 15), (0, u "(JJ)V"), (0, .methodref 11 17), (0, .nameAndType 18 19), (0, u "isGranted"), (0, u "()Z"), (0, .methodref 11 21), (0, .nameAndType 22 23), (0, u "retryMillis"), (0, u "()J"), (0, .class_ 25), (0, u "com/example/maqfel/maqfel/AttemptIsGrantedPinLaw"), (2, u "law"), (0, u "(JI)Z")] 7

def k1m0 : Method := { name := "<init>", desc := "()V", sig := { parameters := [], returnType := none }, accessFlags := 1, code := none }
def k1c1 : Code := { maxStack := 6, maxLocals := 8, code := code, exceptionTable := #[], attributes := #[] }
def k1m1 : Method := { name := "law", desc := "(JI)Z", sig := { parameters := [.long, .int], returnType := some .boolean }, accessFlags := 9, code := some k1c1 }
/-- com/example/maqfel/maqfel/AttemptIsGrantedPinLaw -/
def k1 : Class := { plain "com/example/maqfel/maqfel/AttemptIsGrantedPinLaw" (some 0) with
  accessFlags := 49
  interfaces := #[]
  cf := some (fileOf pool1 24 #[] #[{ accessFlags := 1, nameIndex := 5, descriptorIndex := 6, attributes := #[] }, { accessFlags := 9, nameIndex := 28, descriptorIndex := 29, attributes := #[] }] 49 2 #[] #[])
  fields := #[]
  methods := #[k1m0, k1m1]
  instanceTypes := #[]
  staticTypes := #[]
  resolved := Array.replicate 37 none
  statics := none }

def pool2 : Array CpInfo := pool [(1, .methodref 2 3), (0, .class_ 4), (0, .nameAndType 5 6), (0, u "java/lang/Object"), (0, u "<init>"), (0, u "()V"), (0, .class_ 8), (0, u "java/lang/Record")] 13

def k2c0 : Code := { maxStack := 1, maxLocals := 1, code := jdk_30_method_1_code, exceptionTable := #[], attributes := #[] }
def k2m0 : Method := { name := "<init>", desc := "()V", sig := { parameters := [], returnType := none }, accessFlags := 4, code := some k2c0 }
/-- java/lang/Record -/
def k2 : Class := { plain "java/lang/Record" (some 0) with
  accessFlags := 1057
  interfaces := #[]
  cf := some (fileOf pool2 7 #[] #[{ accessFlags := 4, nameIndex := 5, descriptorIndex := 6, attributes := #[] }] 1057 2 #[] #[])
  fields := #[]
  methods := #[k2m0]
  instanceTypes := #[]
  staticTypes := #[]
  resolved := Array.replicate 22 none
  statics := none }

def pool3 : Array CpInfo := pool [(1, .methodref 2 3), (0, .class_ 4), (0, .nameAndType 5 6), (0, u "java/lang/Record"), (0, u "<init>"), (0, u "()V"), (9, .fieldref 17 18), (0, .class_ 19), (0, .nameAndType 20 21), (0, u "com/example/maqfel/maqfel/LockStore$Attempt"), (0, u "token"), (0, u "J"), (0, .fieldref 17 23), (0, .nameAndType 24 21), (0, u "retryMillis"), (2, u "(JJ)V"), (25, u "isGranted"), (0, u "()Z"), (3, u "()J"), (3, .class_ 63), (0, u "com/example/maqfel/maqfel/LockStore")] 28

def k3c0 : Code := { maxStack := 6, maxLocals := 5, code := prog_10_method_1_code, exceptionTable := #[], attributes := #[] }
def k3m0 : Method := { name := "<init>", desc := "(JJ)V", sig := { parameters := [.long, .long], returnType := none }, accessFlags := 1, code := some k3c0 }
def k3c1 : Code := { maxStack := 4, maxLocals := 1, code := prog_10_method_4_code, exceptionTable := #[], attributes := #[] }
def k3m1 : Method := { name := "isGranted", desc := "()Z", sig := { parameters := [], returnType := some .boolean }, accessFlags := 1, code := some k3c1 }
def k3c2 : Code := { maxStack := 2, maxLocals := 1, code := prog_10_method_9_code, exceptionTable := #[], attributes := #[] }
def k3m2 : Method := { name := "retryMillis", desc := "()J", sig := { parameters := [], returnType := some .long }, accessFlags := 1, code := some k3c2 }
/-- com/example/maqfel/maqfel/LockStore$Attempt -/
def k3 : Class := { plain "com/example/maqfel/maqfel/LockStore$Attempt" (some 2) with
  accessFlags := 49
  interfaces := #[]
  cf := some (fileOf pool3 17 #[.nestHost 62] #[{ accessFlags := 1, nameIndex := 5, descriptorIndex := 27, attributes := #[] }, { accessFlags := 1, nameIndex := 53, descriptorIndex := 54, attributes := #[] }, { accessFlags := 1, nameIndex := 24, descriptorIndex := 58, attributes := #[] }] 49 2 #[] #[{ accessFlags := 18, nameIndex := 20, descriptorIndex := 21, attributes := #[] }, { accessFlags := 18, nameIndex := 24, descriptorIndex := 21, attributes := #[] }])
  fields := #[{ name := "token", type := .long, accessFlags := 18, slot := 0, constantValue := 0 }, { name := "retryMillis", type := .long, accessFlags := 18, slot := 1, constantValue := 0 }]
  methods := #[k3m0, k3m1, k3m2]
  instanceTypes := #[.long, .long]
  staticTypes := #[]
  resolved := Array.replicate 92 none
  statics := none }

def pool4 : Array CpInfo := pool [(1, u "java/lang/Cloneable"), (0, .class_ 1), (0, u "java/lang/Object"), (0, .class_ 3)] 3

/-- java/lang/Cloneable -/
def k4 : Class := { plain "java/lang/Cloneable" (some 0) with
  accessFlags := 1537
  interfaces := #[]
  cf := some (fileOf pool4 2 #[] #[] 1537 4 #[] #[])
  fields := #[]
  methods := #[]
  instanceTypes := #[]
  staticTypes := #[]
  resolved := Array.replicate 8 none
  statics := none }

def pool5 : Array CpInfo := pool [(1, u "java/io/Serializable"), (0, .class_ 1), (0, u "java/lang/Object"), (0, .class_ 3)] 3

/-- java/io/Serializable -/
def k5 : Class := { plain "java/io/Serializable" (some 0) with
  accessFlags := 1537
  interfaces := #[]
  cf := some (fileOf pool5 2 #[] #[] 1537 4 #[] #[])
  fields := #[]
  methods := #[]
  instanceTypes := #[]
  staticTypes := #[]
  resolved := Array.replicate 8 none
  statics := none }

/-- the primitive byte -/
def k6 : Class := { plain "byte" none with kind := .primitive 'B', accessFlags := 0x411 }
/-- [B -/
def k7 : Class := { plain "[B" (some 0) with kind := .array 6 .byte, interfaces := #[4, 5], accessFlags := 1041 }

/-- the primitive int -/
def k8 : Class := { plain "int" none with kind := .primitive 'I', accessFlags := 0x411 }
/-- [I -/
def k9 : Class := { plain "[I" (some 0) with kind := .array 8 .int, interfaces := #[4, 5], accessFlags := 1041 }

def heap : Heap := #[]
def classes : Array Class := #[k0, k1, k2, k3, k4, k5, k6, k7, k8, k9]
def interned : List (Array UInt16 × Addr) := []
def slotsUsed : Nat := 0
def theMethod : MethodId := ⟨1, 1⟩
def args0 : Array Value := #[.long 5, .int 1]
def aboutOver (below : List Frame) : State where
  vm := { classes := classes, interned := interned.toArray }
  heap := heap
  slotsUsed := slotsUsed
  threads := #[{ frames := .invoking theMethod args0 :: below }]
def below0 : List Frame := [.native { method := ⟨0, 0⟩, args := #[] }]
def about1 : State := aboutOver below0
def p0 : Program := .bare "" "" ""
def e0 : Env := launch0.env 0 0 0
theorem w_frames : about1.frames = Frame.invoking theMethod args0 :: below0 := rfl
set_option maxRecDepth 65536 in
theorem w_args : argsFit about1.vm theMethod args0 = true := by decide +kernel
set_option maxRecDepth 65536 in
theorem w_heap : heapFits about1 = true := by decide +kernel
set_option maxRecDepth 65536 in
theorem w_runnable : about1.curStatus? = some .runnable := by decide +kernel
set_option maxRecDepth 65536 in
theorem w_alone : about1.alone = true := by decide +kernel
set_option maxRecDepth 65536 in
theorem w_named : about1.methodNamed? x = some theMethod := by decide +kernel
set_option maxRecDepth 65536 in
theorem w_hears : about1.hears theMethod below0 = true := by decide +kernel
set_option maxRecDepth 65536 in
theorem w_ripe : about1.ripe theMethod args0 below0 = true := by decide +kernel
theorem w_running : about1.status = .running := rfl
set_option maxRecDepth 65536 in
theorem w_room : about1.hasRoom e0.platform room_1 = true :=
  launch0.hasRoom_least _ room_1 (by decide +kernel) (by decide +kernel) (by decide +kernel) (by decide +kernel) (by decide +kernel) (by decide +kernel)
theorem allAtoms_all (ts : List Jvm.Cond) (a : Array Jvm.Value) (st : Jvm.State) : (allAtoms ts).before a st = ts.all (fun c => c.before a st) := by
  induction ts with
  | nil => rfl
  | cons c t ih =>
    show (Jvm.Cond.and c (allAtoms t)).before a st = _
    rw [Jvm.Cond.before_and, ih, List.all_cons]
def words1 : List Jvm.Cond := Jvm.Cond.code x code maxLocals ret :: tables_1
/-- a 'code' word, met by the world's own term for the bytes: nothing is compared byte by byte -/
theorem code_word {y : MethodName} {bytes : ByteArray} {mx : Nat} {rt : Option FieldType} {a : Array Value} {s : State} {m : MethodId} {meth : Method} {c : Code} (h1 : s.methodNamed? y = some m) (h2 : s.vm.method? m = some meth) (h3 : meth.code = some c) (h4 : c.code = bytes)
    (h5 : (c.maxLocals == mx && c.exceptionTable.isEmpty && decide (c.maxStack ≤ mostOperands) && decide (meth.sig.returnType = rt) && !meth.locks && decide (parseMethodDescriptor y.desc = some meth.sig)) = true) : (Jvm.Cond.code y bytes mx rt).before a s = true := by
  simp only [Bool.and_eq_true, beq_iff_eq, Bool.not_eq_true', decide_eq_true_eq] at h5
  obtain ⟨⟨⟨⟨⟨g1, g2⟩, g3⟩, g4⟩, g5⟩, g6⟩ := h5
  simp [Cond.before, Cond.holds, Cond.value, h1, h2, h3, h4, g1, g2, g3, g4, g5, g6]
def isCode : Jvm.Cond → Bool
  | .code _ _ _ _ => true
  | _ => false
theorem all_split {L : List Jvm.Cond} {P : Jvm.Cond → Bool} (h1 : L.all (fun c => isCode c || P c) = true) (h2 : ∀ c ∈ L.filter isCode, P c = true) : L.all P = true := by
  refine List.all_eq_true.mpr fun c hc => ?_
  have h := List.all_eq_true.mp h1 c hc
  rcases Bool.eq_false_or_eq_true (isCode c) with hi | hi
  · exact h2 c (List.mem_filter.mpr ⟨hc, hi⟩)
  · simpa [hi] using h
set_option maxRecDepth 65536 in
theorem w_c0 : (Jvm.Cond.code x code maxLocals ret).before args0 about1 = true := code_word (m := ⟨1, 1⟩) (meth := k1m1) (c := k1c1) (by decide +kernel) rfl rfl rfl (by decide +kernel)
set_option maxRecDepth 65536 in
theorem w_c1 : (Jvm.Cond.code ({ cls := "com/example/maqfel/maqfel/LockStore$Attempt", name := "<init>", desc := "(JJ)V" } : Jvm.MethodName) prog_10_method_1_code (5 : Nat) (Option.none : Option Jvm.ClassFile.FieldType)).before args0 about1 = true := code_word (m := ⟨3, 0⟩) (meth := k3m0) (c := k3c0) (by decide +kernel) rfl rfl rfl (by decide +kernel)
set_option maxRecDepth 65536 in
theorem w_c2 : (Jvm.Cond.code ({ cls := "java/lang/Record", name := "<init>", desc := "()V" } : Jvm.MethodName) jdk_30_method_1_code (1 : Nat) (Option.none : Option Jvm.ClassFile.FieldType)).before args0 about1 = true := code_word (m := ⟨2, 0⟩) (meth := k2m0) (c := k2c0) (by decide +kernel) rfl rfl rfl (by decide +kernel)
set_option maxRecDepth 65536 in
theorem w_c3 : (Jvm.Cond.code ({ cls := "java/lang/Object", name := "<init>", desc := "()V" } : Jvm.MethodName) object_method_1_code (1 : Nat) (Option.none : Option Jvm.ClassFile.FieldType)).before args0 about1 = true := code_word (m := ⟨0, 0⟩) (meth := k0m0) (c := k0c0) (by decide +kernel) rfl rfl rfl (by decide +kernel)
set_option maxRecDepth 65536 in
theorem w_c4 : (Jvm.Cond.code ({ cls := "com/example/maqfel/maqfel/LockStore$Attempt", name := "isGranted", desc := "()Z" } : Jvm.MethodName) prog_10_method_4_code (1 : Nat) (Option.some Jvm.ClassFile.FieldType.boolean)).before args0 about1 = true := code_word (m := ⟨3, 1⟩) (meth := k3m1) (c := k3c1) (by decide +kernel) rfl rfl rfl (by decide +kernel)
set_option maxRecDepth 65536 in
theorem w_c5 : (Jvm.Cond.code ({ cls := "com/example/maqfel/maqfel/LockStore$Attempt", name := "retryMillis", desc := "()J" } : Jvm.MethodName) prog_10_method_9_code (1 : Nat) (Option.some Jvm.ClassFile.FieldType.long)).before args0 about1 = true := code_word (m := ⟨3, 2⟩) (meth := k3m2) (c := k3c2) (by decide +kernel) rfl rfl rfl (by decide +kernel)
def codes1 : List Jvm.Cond := [Jvm.Cond.code x code maxLocals ret, Jvm.Cond.code ({ cls := "com/example/maqfel/maqfel/LockStore$Attempt", name := "<init>", desc := "(JJ)V" } : Jvm.MethodName) prog_10_method_1_code (5 : Nat) (Option.none : Option Jvm.ClassFile.FieldType), Jvm.Cond.code ({ cls := "java/lang/Record", name := "<init>", desc := "()V" } : Jvm.MethodName) jdk_30_method_1_code (1 : Nat) (Option.none : Option Jvm.ClassFile.FieldType), Jvm.Cond.code ({ cls := "java/lang/Object", name := "<init>", desc := "()V" } : Jvm.MethodName) object_method_1_code (1 : Nat) (Option.none : Option Jvm.ClassFile.FieldType), Jvm.Cond.code ({ cls := "com/example/maqfel/maqfel/LockStore$Attempt", name := "isGranted", desc := "()Z" } : Jvm.MethodName) prog_10_method_4_code (1 : Nat) (Option.some Jvm.ClassFile.FieldType.boolean), Jvm.Cond.code ({ cls := "com/example/maqfel/maqfel/LockStore$Attempt", name := "retryMillis", desc := "()J" } : Jvm.MethodName) prog_10_method_9_code (1 : Nat) (Option.some Jvm.ClassFile.FieldType.long)]
set_option maxRecDepth 65536 in
theorem codes_eq : words1.filter isCode = codes1 := rfl
theorem w_codes : ∀ c ∈ words1.filter isCode, c.before args0 about1 = true := by
  rw [codes_eq]
  intro c hc
  simp only [codes1, List.mem_cons, List.not_mem_nil, or_false] at hc
  rcases hc with rfl | rfl | rfl | rfl | rfl | rfl
  · exact w_c0
  · exact w_c1
  · exact w_c2
  · exact w_c3
  · exact w_c4
  · exact w_c5
set_option maxRecDepth 65536 in
theorem w_t1 : (words1.take 24).all (fun c => isCode c || c.before args0 about1) = true := by decide +kernel
set_option maxRecDepth 65536 in
theorem w_t2 : (words1.drop 24).all (fun c => isCode c || c.before args0 about1) = true := by decide +kernel
theorem w_tables : (allAtoms (Jvm.Cond.code x code maxLocals ret :: tables_1)).before args0 about1 = true := by
  rw [allAtoms_all]
  show words1.all (fun c => c.before args0 about1) = true
  refine all_split ?_ w_codes
  rw [← List.take_append_drop 24 words1, List.all_append, w_t1, w_t2]
  rfl
set_option maxRecDepth 65536 in
theorem w_case : (Jvm.Cond.and given_1 narrow_1).before args0 about1 = true := by decide +kernel
theorem w_applies : (headSpec (Jvm.Cond.code x code maxLocals ret :: tables_1) room_1).applies x e0.platform about1 = true :=
  (Spec.applies_iff w_frames).mpr ⟨w_running, w_runnable, w_alone, w_named, w_hears, w_ripe, w_room, w_tables⟩
theorem atStart : AtStart classFile x code maxLocals ret World_1 tables_1 room_1 Calls_1 rest_1 Pre_1 launch0 p0 e0 about1 theMethod args0 below0 :=
  ⟨lists_1, trivial, launch0.admits_env _ _ _, launch0.least_env, fairChoices_fair.cas, fairChoices_fair.clock, w_frames, w_args, w_heap, w_applies, trivial, trivial, w_case⟩
end start1
theorem witness_1 : WitnessClaimed_1 := ⟨start1.p0, start1.e0, start1.about1, start1.theMethod, start1.args0, start1.below0, start1.atStart⟩
end Jvm.Pilot.@@N@@
