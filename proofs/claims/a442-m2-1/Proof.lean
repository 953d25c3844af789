import JvmDerived
import JvmDerived.Pilot.@@N@@Statement
import JvmDerived.Pilot.@@N@@Code
set_option linter.unusedVariables false
set_option linter.unusedSimpArgs false
namespace Jvm.RoadKit
open Sem ClassFile Op Lib Jvm.Stand Jvm.Free Jvm.LawKit
section New
variable {p : Program} {l : Launch} {e : Env} {R : Room} {s : State} {m : MethodId} {args : Array Value} {below : List Frame} {meth : Method} {c : Code} {T : State} {locs : List Loc} {cells slots : Nat}
theorem retI (X : Stand p l e R s m args below meth c T locs cells slots) (hx : p.tables.exec = Jvm.exec) {pc : Nat} {Ls : Array Slot} {z : Int32} {rest : List Value} (hret : meth.sig.returnType = some .int) (hd : decode c.code pc = .ok (.ireturn, 1)) {fs : List Frame}
    (hl : ∀ (f : JFrame) (acts : List Action), f.method = m → f.locked = none → f.entered = [] → (doReturn e (T.setTop f) acts (some (.int z))).1 = T.setFrames fs) : Steps p.tables e below (T.setTop (mkF m pc Ls (.int z :: rest))) (T.setFrames fs) := by
  have hm' : T.vm.method? m = some meth := X.method'
  have hn : narrow .int (.int z) = .int z := rfl
  show Steps p.tables e below (T.setTop { method := m, pc := pc, locals := Ls, stack := _ :: rest, locked := none }) _
  jvm_step X.here [X.here.top, hx, hd, hm', hret, hn]
  first | (intro acts; rw [hl _ acts rfl rfl rfl]) | rw [hl _ _ rfl rfl rfl]
  exact Steps.refl _
theorem retJ (X : Stand p l e R s m args below meth c T locs cells slots) (hx : p.tables.exec = Jvm.exec) {pc : Nat} {Ls : Array Slot} {z : Int64} {rest : List Value} (hret : meth.sig.returnType = some .long) (hd : decode c.code pc = .ok (.lreturn, 1)) {fs : List Frame}
    (hl : ∀ (f : JFrame) (acts : List Action), f.method = m → f.locked = none → f.entered = [] → (doReturn e (T.setTop f) acts (some (.long z))).1 = T.setFrames fs) : Steps p.tables e below (T.setTop (mkF m pc Ls (.long z :: rest))) (T.setFrames fs) := by
  have hm' : T.vm.method? m = some meth := X.method'
  have hn : narrow .long (.long z) = .long z := rfl
  show Steps p.tables e below (T.setTop { method := m, pc := pc, locals := Ls, stack := _ :: rest, locked := none }) _
  jvm_step X.here [X.here.top, hx, hd, hm', hret, hn, narrow]
  first | (intro acts; rw [hl _ acts rfl rfl rfl]) | rw [hl _ _ rfl rfl rfl]
  exact Steps.refl _
theorem retR (X : Stand p l e R s m args below meth c T locs cells slots) (hx : p.tables.exec = Jvm.exec) {pc : Nat} {Ls : Array Slot} {z : Addr} {rest : List Value} {ty : FieldType} (hret : meth.sig.returnType = some ty) (hty : ty.isReference = true) (hd : decode c.code pc = .ok (.areturn, 1)) {fs : List Frame}
    (hl : ∀ (f : JFrame) (acts : List Action), f.method = m → f.locked = none → f.entered = [] → (doReturn e (T.setTop f) acts (some (.ref z))).1 = T.setFrames fs) : Steps p.tables e below (T.setTop (mkF m pc Ls (.ref z :: rest))) (T.setFrames fs) := by
  have hm' : T.vm.method? m = some meth := X.method'
  show Steps p.tables e below (T.setTop { method := m, pc := pc, locals := Ls, stack := _ :: rest, locked := none }) _
  jvm_step X.here [X.here.top, hx, hd, hm', hret, hty, Value.isRef]
  first | (intro acts; rw [hl _ acts rfl rfl rfl]) | rw [hl _ _ rfl rfl rfl]
  exact Steps.refl _
theorem lremM {tb : Tables} [Ours tb] {target : State} {g : JFrame} (h : At T m c below) (hx : tb.exec = Jvm.exec) (hg : g.method = m) {x y : Int64} {rest : List Value} (hd : decode c.code g.pc = .ok (.lrem, 1)) (hs : g.stack = .long y :: .long x :: rest) (hy : y ≠ 0)
    (hr : Steps tb e below (T.setTop { g with pc := g.pc + 1, stack := .long (x % y) :: rest }) target) : Steps tb e below (T.setTop g) target := by
  rw [← lrem_mod] at hr
  exact XS.lrem h hx hg hd hs hy hr
end New
end Jvm.RoadKit
namespace Jvm.Pilot.@@N@@
open Jvm Jvm.ClassFile Sem Op Lib Jvm.Free Jvm.Stand Jvm.LawKit Jvm.RoadKit Bundle Jvm.Pilot.@@N@@.Jvm.D
/-- a Java boolean -/
def bI (P : Prop) [Decidable P] : Int32 := if P then 1 else 0
theorem bI_pos {P : Prop} [Decidable P] (h : P) : bI P = (1 : Int32) := if_pos h
theorem bI_neg {P : Prop} [Decidable P] (h : ¬ P) : bI P = (0 : Int32) := if_neg h
theorem bI_0 {P : Prop} [Decidable P] (h : ¬ P) : bI P = 0 := if_neg h
theorem bI_ne0 {P : Prop} [Decidable P] (h : P) : ¬ bI P = 0 := by rw [bI_pos h]; decide
theorem bI_iff {P Q : Prop} [Decidable P] [Decidable Q] : bI P = bI Q ↔ (P ↔ Q) := by
  by_cases p : P <;> by_cases q : Q <;> simp [bI, p, q]
theorem nar_0 : nar .boolean (0 : Int32) = 0 := by decide
theorem nar_1 : nar .boolean (1 : Int32) = 1 := by decide
theorem nar_bI (P : Prop) [Decidable P] : nar .boolean (bI P) = bI P := by by_cases p : P <;> simp [bI, p] <;> decide
/-- the run from st ends, and Q holds of what it returns and leaves -/
def OG (p : Program) (e : Env) (below : List Frame) (s : State) (Q : Option Value → Heap → List Loc → Prop) (cc ss : Nat) (st : State) : Prop :=
  ∃ s₂ o, Steps p.tables e below st s₂ ∧ s₂.status = .running ∧ Ended s₂ below o ∧ ∃ v L, o = .returned v ∧ Q v s₂.heap L ∧ FrameEnd s o s₂ L cc ss
section Out
variable {p : Program} {l : Launch} {e : Env} {R : Room} {s : State} {m : MethodId} {args : Array Value} {below : List Frame} {meth : Method} {c : Code} {T : State} {locs : List Loc} {cells slots : Nat} {Q : Option Value → Heap → List Loc → Prop} {cc ss : Nat} {h : Heap}
theorem OG.step {st st' : State} (h : ∀ t, Steps p.tables e below st' t → Steps p.tables e below st t) (g : OG p e below s Q cc ss st') : OG p e below s Q cc ss st := by
  obtain ⟨s₂, o, h1, r⟩ := g
  exact ⟨s₂, o, h _ h1, r⟩
theorem OG.out (X : Stand p l e R s m args below meth c T locs cells slots) {v : Option Value} (hv : meth.sig.returnType = none → v = none) (hlk : meth.locks = false) {g : JFrame} (eT : T.heap = h)
    (hs : ∀ fs, (∀ (f : JFrame) (acts : List Action), f.method = m → f.locked = none → f.entered = [] → (doReturn e (T.setTop f) acts v).1 = T.setFrames fs) → Steps p.tables e below (T.setTop g) (T.setFrames fs))
    (hQ : Q v h locs) (hc : cells ≤ cc) (hl : slots ≤ ss) : OG p e below s Q cc ss (T.setTop g) := by
  obtain ⟨fs, hr, hrun, hended, hW, hsame⟩ := X.leave (v := v) hv hlk
  exact ⟨_, _, hs fs hr, hrun, hended, _, _, rfl, by show Q v T.heap locs; rw [eT]; exact hQ, ⟨_, rfl⟩, hW, hsame.mono hc hl⟩
theorem OG.retV (X : Stand p l e R s m args below meth c T locs cells slots) (hx : p.tables.exec = Jvm.exec) (hlk : meth.locks = false) (hret : meth.sig.returnType = none) {pc : Nat} {Ls : Array Slot} (hd : decode c.code pc = .ok (.return_, 1)) (eT : T.heap = h) (hQ : Q none h locs) (hc : cells ≤ cc) (hl : slots ≤ ss) : OG p e below s Q cc ss (T.setTop (mkF m pc Ls [])) :=
  OG.out X (fun _ => rfl) hlk eT (fun _ hr => X.returnOut hx hret hd hr) hQ hc hl
theorem OG.retI (X : Stand p l e R s m args below meth c T locs cells slots) (hx : p.tables.exec = Jvm.exec) (hlk : meth.locks = false) (hret : meth.sig.returnType = some .int) {pc : Nat} {Ls : Array Slot} {z : Int32} {rest : List Value} (hd : decode c.code pc = .ok (.ireturn, 1)) (eT : T.heap = h) (hQ : Q (some (.int z)) h locs) (hc : cells ≤ cc) (hl : slots ≤ ss) : OG p e below s Q cc ss (T.setTop (mkF m pc Ls (.int z :: rest))) :=
  OG.out X (fun h => by rw [hret] at h; cases h) hlk eT (fun _ hr => Jvm.RoadKit.retI X hx hret hd hr) hQ hc hl
theorem OG.retJ (X : Stand p l e R s m args below meth c T locs cells slots) (hx : p.tables.exec = Jvm.exec) (hlk : meth.locks = false) (hret : meth.sig.returnType = some .long) {pc : Nat} {Ls : Array Slot} {z : Int64} {rest : List Value} (hd : decode c.code pc = .ok (.lreturn, 1)) (eT : T.heap = h) (hQ : Q (some (.long z)) h locs) (hc : cells ≤ cc) (hl : slots ≤ ss) : OG p e below s Q cc ss (T.setTop (mkF m pc Ls (.long z :: rest))) :=
  OG.out X (fun h => by rw [hret] at h; cases h) hlk eT (fun _ hr => Jvm.RoadKit.retJ X hx hret hd hr) hQ hc hl
theorem OG.retR (X : Stand p l e R s m args below meth c T locs cells slots) (hx : p.tables.exec = Jvm.exec) (hlk : meth.locks = false) {ty : FieldType} (hret : meth.sig.returnType = some ty) (hty : ty.isReference = true) {pc : Nat} {Ls : Array Slot} {z : Addr} {rest : List Value} (hd : decode c.code pc = .ok (.areturn, 1)) (eT : T.heap = h) (hQ : Q (some (.ref z)) h locs) (hc : cells ≤ cc) (hl : slots ≤ ss) : OG p e below s Q cc ss (T.setTop (mkF m pc Ls (.ref z :: rest))) :=
  OG.out X (fun h => by rw [hret] at h; cases h) hlk eT (fun _ hr => Jvm.RoadKit.retR X hx hret hty hd hr) hQ hc hl
theorem OG.retZ (X : Stand p l e R s m args below meth c T locs cells slots) (hx : p.tables.exec = Jvm.exec) (hlk : meth.locks = false) (hret : meth.sig.returnType = some .boolean) {pc : Nat} {Ls : Array Slot} {z z' : Int32} {rest : List Value} (hd : decode c.code pc = .ok (.ireturn, 1)) (hz : nar .boolean z = z') (eT : T.heap = h) (hQ : Q (some (.int z')) h locs) (hc : cells ≤ cc) (hl : slots ≤ ss) : OG p e below s Q cc ss (T.setTop (mkF m pc Ls (.int z :: rest))) := by
  subst hz
  exact OG.out X (fun h => by rw [hret] at h; cases h) hlk eT (fun _ hr => retN X hx (t := .boolean) hret (by simp) hd hr) hQ hc hl
end Out
theorem own_wS {Z : State} {a0 : Array Value} (hw : ∀ d ∈ tables_1, d.before a0 Z = true) : ∀ a ∈ Bundle.stringAtoms, a.before a0 Z = true := by
  intro a ha
  simp only [Bundle.stringAtoms, Bundle.sN, List.mem_cons, List.not_mem_nil, or_false] at ha
  rcases ha with rfl | rfl | rfl | rfl | rfl | rfl | rfl
  · exact (hw _ (List.mem_of_getElem? (i := 5) rfl))
  · exact (hw _ (List.mem_of_getElem? (i := 13) rfl))
  · exact (hw _ (List.mem_of_getElem? (i := 17) rfl))
  · exact (hw _ (List.mem_of_getElem? (i := 26) rfl))
  · exact (hw _ (List.mem_of_getElem? (i := 28) rfl))
  · exact (hw _ (List.mem_of_getElem? (i := 30) rfl))
  · exact (hw _ (List.mem_of_getElem? (i := 31) rfl))
theorem own_fitR {C : String} {v : Value} (h : v.isRef = true) : fits (.object C) v = true := by rcases ref_cases h with rfl | ⟨_, rfl⟩ <;> rfl
theorem own_narR {C : String} {v : Value} : narrow (.object C) v = v := by cases v <;> rfl
def own_ir (v : Value) : Prop := v = .null ∨ ∃ a, v = .ref a
def own_nl : Value → Bool
  | .null => true
  | _ => false
def own_sl (v1 a1 v2 a2 : Value) : Bool := (own_nl v1 == own_nl v2) && (!own_nl v1 || (own_nl a1 == own_nl a2))
theorem own_irI (P : Prop) [Decidable P] (a : Addr) : own_ir (if P then (.ref a) else .null) := by
  by_cases h : P
  · rw [if_pos h]; exact Or.inr ⟨a, rfl⟩
  · rw [if_neg h]; exact Or.inl rfl
theorem own_isI (P : Prop) [Decidable P] (a : Addr) : (if P then (Value.ref a) else Value.null).isRef = true := by
  by_cases h : P
  · rw [if_pos h]; rfl
  · rw [if_neg h]; rfl
theorem own_chr (c : Int32) : ¬ (255 : Int32) < ((c &&& (255 : Int32)).toUInt32.toUInt16.toUInt32.toInt32) := by
  have e := c_mask c (255 : Int32) 8 (by decide) (by decide)
  have f := c_i2c (c &&& (255 : Int32))
  have o : (255 : Int32).toInt = 255 := by decide
  have p8 : ((2 ^ 8 : Nat) : Int) = 256 := by decide
  rw [p8] at e
  rw [Int32.lt_iff_toInt_lt]; omega
def own_EL : List (String × Nat) := [("com/example/mergeward/mergeward/core/RecordPath", 40), ("com/example/mergeward/mergeward/core/RecordPath", 41), ("com/example/mergeward/mergeward/core/RecordPath", 7), ("com/example/mergeward/mergeward/core/RecordPathLevelPinLaw", 7), ("com/example/mergeward/mergeward/core/RecordPathLevelPinLaw", 9), ("com/example/mergeward/mergeward/core/RecordPathLevelPinLaw", 11)]
theorem own_EW {Z : State} {a0 : Array Value} (hw : ∀ d ∈ tables_1, d.before a0 Z = true) : EW Z a0 own_EL := (EW.cons (hw _ (List.mem_of_getElem? (i := 79) rfl)) (by first | decide | decide +kernel) (EW.cons (hw _ (List.mem_of_getElem? (i := 99) rfl)) (by first | decide | decide +kernel) (EW.cons (hw _ (List.mem_of_getElem? (i := 66) rfl)) (by first | decide | decide +kernel) (EW.cons (hw _ (List.mem_of_getElem? (i := 90) rfl)) (by first | decide | decide +kernel) (EW.cons (hw _ (List.mem_of_getElem? (i := 100) rfl)) (by first | decide | decide +kernel) (EW.cons (hw _ (List.mem_of_getElem? (i := 84) rfl)) (by first | decide | decide +kernel) EW.nil))))))
theorem own_sub : ∀ q ∈ own_EL, q ∈ consts_1 := by
  intro q hq
  simp only [own_EL, List.mem_cons, List.not_mem_nil, or_false] at hq
  rcases hq with rfl | rfl | rfl | rfl | rfl | rfl <;> simp [consts_1]
/-- the run from st ends, and Q holds; Strings may have been interned; the constants of own_EL read as they stand in their pools -/
def OGH (p : Program) (e : Env) (below : List Frame) (s : State) (Z : State) (Q : Option Value → Heap → List Loc → Prop) (cc ss : Nat) (st : State) : Prop :=
  ∃ s₂ o, Steps p.tables e below st s₂ ∧ s₂.status = .running ∧ Ended s₂ below o ∧ ∃ v L, o = .returned v ∧ Q v s₂.heap L ∧ CHr Z own_EL s.vm s.heap s₂.vm s₂.heap ∧ ReturnedEndW s o s₂ L cc ss
section OutH
variable {p : Program} {l : Launch} {e : Env} {R : Room} {s Z : State} {a0 : Array Value} {m : MethodId} {args : Array Value} {below : List Frame} {meth : Method} {c : Code} {T : State} {locs : List Loc} {cells slots : Nat} {Q : Option Value → Heap → List Loc → Prop} {cc ss : Nat} {h h0 : Heap} {vm1 : Vm} {k0 : Nat}
theorem OGH.step {st st' : State} (h : ∀ t, Steps p.tables e below st' t → Steps p.tables e below st t) (g : OGH p e below s Z Q cc ss st') : OGH p e below s Z Q cc ss st := by
  obtain ⟨s₂, o, h1, r⟩ := g
  exact ⟨s₂, o, h _ h1, r⟩
theorem OGH.out (X : Stand p l e R (s.setVm vm1) m args below meth c T locs cells slots) (hS : s.Since vm1 k0) (hk : k0 ≤ h.size) (hZ : Z.Warmed39 vm1) (w : EW Z a0 own_EL) (hh : s.heap = h0) (H : CHr Z own_EL s.vm h0 vm1 h) {v : Option Value} (hv : meth.sig.returnType = none → v = none) (hlk : meth.locks = false) {g : JFrame} (eT : T.heap = h)
    (hs : ∀ fs, (∀ (f : JFrame) (acts : List Action), f.method = m → f.locked = none → f.entered = [] → (doReturn e (T.setTop f) acts v).1 = T.setFrames fs) → Steps p.tables e below (T.setTop g) (T.setFrames fs))
    (hQ : Q v h locs) (hc : cells ≤ cc) (hl : slots ≤ ss) : OGH p e below s Z Q cc ss (T.setTop g) := by
  obtain ⟨fs, hr, hrun, hended, hE⟩ := X.leaveW hS (by rw [eT]; exact hk) (v := v) hv hlk
  have HC : CHr Z own_EL s.vm s.heap T.vm T.heap := by rw [eT, hh]; exact H.trans (CHv.at X hZ w H.1)
  exact ⟨_, _, hs fs hr, hrun, hended, _, _, rfl, by show Q v T.heap locs; rw [eT]; exact hQ, HC, hE.1, hE.2.1, hE.2.2.1, hE.2.2.2.mono hc hl⟩
theorem OGH.retV (X : Stand p l e R (s.setVm vm1) m args below meth c T locs cells slots) (hS : s.Since vm1 k0) (hk : k0 ≤ h.size) (hZ : Z.Warmed39 vm1) (w : EW Z a0 own_EL) (hh : s.heap = h0) (H : CHr Z own_EL s.vm h0 vm1 h) (hx : p.tables.exec = Jvm.exec) (hlk : meth.locks = false) (hret : meth.sig.returnType = none) {pc : Nat} {Ls : Array Slot} (hd : decode c.code pc = .ok (.return_, 1)) (eT : T.heap = h) (hQ : Q none h locs) (hc : cells ≤ cc) (hl : slots ≤ ss) : OGH p e below s Z Q cc ss (T.setTop (mkF m pc Ls [])) :=
  OGH.out X hS hk hZ w hh H (fun _ => rfl) hlk eT (fun _ hr => X.returnOut hx hret hd hr) hQ hc hl
theorem OGH.retR (X : Stand p l e R (s.setVm vm1) m args below meth c T locs cells slots) (hS : s.Since vm1 k0) (hk : k0 ≤ h.size) (hZ : Z.Warmed39 vm1) (w : EW Z a0 own_EL) (hh : s.heap = h0) (H : CHr Z own_EL s.vm h0 vm1 h) (hx : p.tables.exec = Jvm.exec) (hlk : meth.locks = false) {ty : FieldType} (hret : meth.sig.returnType = some ty) (hty : ty.isReference = true) {pc : Nat} {Ls : Array Slot} {z : Addr} {rest : List Value} (hd : decode c.code pc = .ok (.areturn, 1)) (eT : T.heap = h) (hQ : Q (some (.ref z)) h locs) (hc : cells ≤ cc) (hl : slots ≤ ss) : OGH p e below s Z Q cc ss (T.setTop (mkF m pc Ls (.ref z :: rest))) :=
  OGH.out X hS hk hZ w hh H (fun h => by rw [hret] at h; cases h) hlk eT (fun _ hr => Jvm.RoadKit.retR X hx hret hty hd hr) hQ hc hl
theorem OGH.retZ (X : Stand p l e R (s.setVm vm1) m args below meth c T locs cells slots) (hS : s.Since vm1 k0) (hk : k0 ≤ h.size) (hZ : Z.Warmed39 vm1) (w : EW Z a0 own_EL) (hh : s.heap = h0) (H : CHr Z own_EL s.vm h0 vm1 h) (hx : p.tables.exec = Jvm.exec) (hlk : meth.locks = false) (hret : meth.sig.returnType = some .boolean) {pc : Nat} {Ls : Array Slot} {z z' : Int32} {rest : List Value} (hd : decode c.code pc = .ok (.ireturn, 1)) (hz : nar .boolean z = z') (eT : T.heap = h) (hQ : Q (some (.int z')) h locs) (hc : cells ≤ cc) (hl : slots ≤ ss) : OGH p e below s Z Q cc ss (T.setTop (mkF m pc Ls (.int z :: rest))) := by
  subst hz
  exact OGH.out X hS hk hZ w hh H (fun h => by rw [hret] at h; cases h) hlk eT (fun _ hr => retN X hx (t := .boolean) hret (by simp) hd hr) hQ hc hl
end OutH

def own_n : Nat → Int32
  | 0 => 7
  | 1 => 7
  | _ => 5
def own_t : Nat → List Value
  | 0 => [(.int (112 : Int32)), (.int (97 : Int32)), (.int (116 : Int32)), (.int (105 : Int32)), (.int (101 : Int32)), (.int (110 : Int32)), (.int (116 : Int32))]
  | 1 => [(.int (97 : Int32)), (.int (99 : Int32)), (.int (99 : Int32)), (.int (111 : Int32)), (.int (117 : Int32)), (.int (110 : Int32)), (.int (116 : Int32))]
  | _ => [(.int (118 : Int32)), (.int (105 : Int32)), (.int (115 : Int32)), (.int (105 : Int32)), (.int (116 : Int32))]
def own_l : Value → Value → Nat
  | .null, .null => 0
  | .null, _ => 1
  | _, _ => 2
def own_e (a v : Int32) : Nat := if v = (0 : Int32) then (if a = (0 : Int32) then 0 else 1) else 2
theorem own_l3 (v a : Value) : own_l v a < 3 := by unfold own_l; split <;> decide
theorem own_e3 (a v : Int32) : own_e a v < 3 := by unfold own_e; split <;> (try split) <;> decide
theorem own_k1 (A V : Prop) [Decidable A] [Decidable V] (a b : Addr) : own_l (if V then (.ref a) else .null) (if A then (.ref b) else .null) = own_e (bI A) (bI V) := by
  by_cases h1 : A <;> by_cases h2 : V <;> simp [h1, h2, own_l, own_e, bI]
theorem own_key (A1 V1 A2 V2 : Prop) [Decidable A1] [Decidable V1] [Decidable A2] [Decidable V2] (a b c d : Addr) : (own_sl (if V1 then (.ref a) else .null) (if A1 then (.ref b) else .null) (if V2 then (.ref c) else .null) (if A2 then (.ref d) else .null) = true) ↔ (own_l (if V1 then (.ref a) else .null) (if A1 then (.ref b) else .null) = own_l (if V2 then (.ref c) else .null) (if A2 then (.ref d) else .null)) := by
  by_cases h1 : A1 <;> by_cases h2 : V1 <;> by_cases h3 : A2 <;> by_cases h4 : V2 <;> simp [h1, h2, h3, h4, own_sl, own_nl, own_l]
theorem own_same {Z : State} {h : Heap} {x b1 b2 : Addr} {k1 k2 : ClassId} {i j : Nat} (hi : i < 3) (hj : j < 3) (F1 : Fld Z h x "java/lang/String" "value" "[B" (.ref b1)) (F2 : Fld Z h x "java/lang/String" "value" "[B" (.ref b2))
    (A1 : Arv Z h b1 k1 .byte (own_n i) (own_t i) (.int (0 : Int32))) (A2 : Arv Z h b2 k2 .byte (own_n j) (own_t j) (.int (0 : Int32))) : i = j := by
  obtain ⟨c1, _, _, _, f1, g1, g2, -, -, -, -, g3⟩ := F1
  obtain ⟨c2, _, _, _, f2, q1, q2, -, -, -, -, q3⟩ := F2
  cases g1.symm.trans q1
  cases g2.symm.trans q2
  cases g3.symm.trans q3
  obtain ⟨d1, B1, -, S1, -, H1, -⟩ := A1
  obtain ⟨d2, B2, -, S2, -, H2, -⟩ := A2
  cases B1.1.symm.trans B2.1
  have e1 := S1.symm.trans S2
  have hp : 0 < d1.slots.size := by
    rw [S1]
    have : i = 0 ∨ i = 1 ∨ i = 2 := by omega
    rcases this with rfl | rfl | rfl <;> decide
  have e2 := (H1 0 hp).symm.trans (H2 0 hp)
  have u1 : i = 0 ∨ i = 1 ∨ i = 2 := by omega
  have u2 : j = 0 ∨ j = 1 ∨ j = 2 := by omega
  clear H1 H2 S1 S2 B1 B2
  rcases u1 with rfl | rfl | rfl <;> rcases u2 with rfl | rfl | rfl <;> first | rfl | (exfalso; exact absurd e1 (by decide)) | (exfalso; simp [own_t] at e2)
theorem d2_0 : decode jdk_43_method_3_code 0 = .ok (.iload_n 0, 1) := by decide +kernel
theorem d2_1 : decode jdk_43_method_3_code 1 = .ok (.sipush 255, 3) := by decide +kernel
theorem d2_4 : decode jdk_43_method_3_code 4 = .ok (.if_icmp .gt 7, 3) := by decide +kernel
theorem d2_7 : decode jdk_43_method_3_code 7 = .ok (.iconst 1, 1) := by decide +kernel
theorem d2_8 : decode jdk_43_method_3_code 8 = .ok (.goto 4, 3) := by decide +kernel
theorem d2_11 : decode jdk_43_method_3_code 11 = .ok (.iconst 0, 1) := by decide +kernel
theorem d2_12 : decode jdk_43_method_3_code 12 = .ok (.ireturn, 1) := by decide +kernel
theorem pn_java_lang_StringLatin1 : plainName "java/lang/StringLatin1" = true := by first | (simp [plainName, overriddenIn]; done) | decide +kernel
theorem ef_2 (m : MethodId) (x0 : Int32) : entryFrame m #[(.int x0)] 1 = mkF m 0 #[.val (.int x0)] [] := by first | (simp [entryFrame, mkF, argsToLocals, Value.category]; done) | rfl
def Q2 (Z : State) (p0 : Int32) (h0 : Heap) (n0 : Nat) (v : Option Value) (h : Heap) (L : List Loc) : Prop := (v = some (.int (bI (¬ ((255 : Int32) < p0))))) ∧ (Fr n0 L) ∧ (h = h0)
abbrev rom_2 : Room := { frames := 0, cells := 0, slots := 0, locals := 0 }
set_option maxRecDepth 65536 in
set_option maxHeartbeats 40000000 in
theorem rm2 (l : Launch) (Z : State) (a0 : Array Value) (hw : ∀ d ∈ tables_1, d.before a0 Z = true) (ws : List Jvm.Cond) (p0 : Int32) (h0 : Heap) (n0 : Nat) (Z0 : n0 ≤ h0.size) :
    MetFree l (⟨"java/lang/StringLatin1", "canEncode", "(C)Z"⟩ : MethodName) (head1 (Jvm.Cond.code (⟨"java/lang/StringLatin1", "canEncode", "(C)Z"⟩ : MethodName) jdk_43_method_3_code 1 (some .boolean) :: ws) rom_2) (fun a U => a = #[(.int p0)] ∧ Z.Warmed39 U.vm ∧ U.heap = h0) (fun _ _ _ _ _ => True) (fun _ U o U' => ∃ v L, o = .returned v ∧ Q2 Z p0 h0 n0 v U'.heap L ∧ FrameEnd U o U' L rom_2.cells rom_2.slots) := by
  refine MetFree.of_bodySF (plainFor_of_name pn_java_lang_StringLatin1) hisR ?_
  intro p e s m args below meth c s₁ Bd hml0 hP hK
  obtain ⟨rfl, hZ, hh⟩ := hP
  have hx := Bd.exec
  have hby := Bd.bytes
  have hlk := Bd.notSynchronized
  have hml : c.maxLocals = 1 := hml0
  have hown : s.vm.findClass "java/lang/StringLatin1" = some m.cls := findClass_of_methodNamed Bd.named
  have hnm := (name_of_methodNamed Bd.named Bd.method).1
  have X0 : Stand p l e rom_2 s m #[(.int p0)] below meth c s₁ [] 0 0 := Stand.of_body Bd
  have e0 : s₁.heap = h0 := by rw [← hh, Bd.state]; rfl
  have N0 := Fr.nil n0
  have K0 : Keep h0 h0 [] := Keep.refl _ _
  refine (?_ : OG p e below s (Q2 Z p0 h0 n0) rom_2.cells rom_2.slots _)
  rw [ef_2]
  have s1 : ∀ tz, Steps p.tables e below (s₁.setTop (mkF m 4 #[.val (.int p0)] [(.int (255 : Int32)), (.int p0)])) tz → Steps p.tables e below (s₁.setTop (mkF m 0 #[.val (.int p0)] [])) tz := by
    intro tz kz
    refine XS.iloadN X0.here hx rfl (hb hby d2_0) rfl ?_
    show Steps p.tables e below (s₁.setTop (mkF m 1 #[.val (.int p0)] [(.int p0)])) _
    refine XS.sipush X0.here hx rfl (hb hby d2_1) ?_
    exact kz
  refine OG.step s1 ?_
  have s2 : ∀ tz, Steps p.tables e below (s₁.setTop (mkF m 12 #[.val (.int p0)] [(.int (bI (¬ ((255 : Int32) < p0))))])) tz → Steps p.tables e below (s₁.setTop (mkF m 4 #[.val (.int p0)] [(.int (255 : Int32)), (.int p0)])) tz := by
    intro tz kz
    by_cases hm4 : (255 : Int32) < p0
    · refine XS.icmpYes X0.here hx rfl (pc0 := 4) (pc' := 11) rfl (hb hby d2_4) rfl (tlt hm4).2.2.1 (by decide) (by decide) ?_
      show Steps p.tables e below (s₁.setTop (mkF m 11 #[.val (.int p0)] [])) _
      refine XS.iconst X0.here hx rfl (hb hby d2_11) ?_
      show Steps p.tables e below (s₁.setTop (mkF m 12 #[.val (.int p0)] [(.int (0 : Int32))])) _
      rw [show (bI (¬ ((255 : Int32) < p0))) = (0 : Int32) from bI_neg (P := ¬ ((255 : Int32) < p0)) (fun z => z hm4)] at kz
      exact kz
    · refine XS.icmpNo X0.here hx rfl (hb hby d2_4) rfl (flt hm4).2.2.1 ?_
      show Steps p.tables e below (s₁.setTop (mkF m 7 #[.val (.int p0)] [])) _
      refine XS.iconst X0.here hx rfl (hb hby d2_7) ?_
      show Steps p.tables e below (s₁.setTop (mkF m 8 #[.val (.int p0)] [(.int (1 : Int32))])) _
      refine XS.goto X0.here hx rfl (pc0 := 8) (pc' := 12) rfl (hb hby d2_8) (by decide) (by decide) ?_
      show Steps p.tables e below (s₁.setTop (mkF m 12 #[.val (.int p0)] [(.int (1 : Int32))])) _
      rw [show (bI (¬ ((255 : Int32) < p0))) = (1 : Int32) from bI_pos (P := ¬ ((255 : Int32) < p0)) hm4] at kz
      exact kz
  refine OG.step s2 ?_
  exact OG.retZ X0 hx hlk Bd.returns (hb hby d2_12) (nar_bI _) e0 ⟨rfl, N0, rfl⟩ (by decide) (by decide)
theorem d3_0 : decode jdk_43_method_46_code 0 = .ok (.iconst 1, 1) := by decide +kernel
theorem d3_1 : decode jdk_43_method_46_code 1 = .ok (.newarray .byte, 2) := by decide +kernel
theorem d3_3 : decode jdk_43_method_46_code 3 = .ok (.dup, 1) := by decide +kernel
theorem d3_4 : decode jdk_43_method_46_code 4 = .ok (.iconst 0, 1) := by decide +kernel
theorem d3_5 : decode jdk_43_method_46_code 5 = .ok (.iload_n 0, 1) := by decide +kernel
theorem d3_6 : decode jdk_43_method_46_code 6 = .ok (.i2b, 1) := by decide +kernel
theorem d3_7 : decode jdk_43_method_46_code 7 = .ok (.bastore, 1) := by decide +kernel
theorem d3_8 : decode jdk_43_method_46_code 8 = .ok (.areturn, 1) := by decide +kernel
theorem ef_3 (m : MethodId) (x0 : Int32) : entryFrame m #[(.int x0)] 1 = mkF m 0 #[.val (.int x0)] [] := by first | (simp [entryFrame, mkF, argsToLocals, Value.category]; done) | rfl
def Q3 (Z : State) (p0 : Int32) (h0 : Heap) (n0 : Nat) (v : Option Value) (h : Heap) (L : List Loc) : Prop := ∃ (b1 : Addr) (kb : ClassId) (w1 : Int32), (v = some (.ref b1)) ∧ (Fr n0 L) ∧ (Keep h0 h []) ∧ (Arv Z h b1 kb .byte (1 : Int32) [(.int w1)] (.int (0 : Int32))) ∧ (h0.size ≤ b1)
abbrev rom_3 : Room := { frames := 0, cells := 1, slots := 1, locals := 0 }
set_option maxRecDepth 65536 in
set_option maxHeartbeats 40000000 in
theorem rm3 (l : Launch) (Z : State) (a0 : Array Value) (hw : ∀ d ∈ tables_1, d.before a0 Z = true) (ws : List Jvm.Cond) (p0 : Int32) (h0 : Heap) (n0 : Nat) (Z0 : n0 ≤ h0.size) :
    MetFree l (⟨"java/lang/StringLatin1", "toBytes", "(C)[B"⟩ : MethodName) (head1 (Jvm.Cond.code (⟨"java/lang/StringLatin1", "toBytes", "(C)[B"⟩ : MethodName) jdk_43_method_46_code 1 (some (.array .byte)) :: ws) rom_3) (fun a U => a = #[(.int p0)] ∧ Z.Warmed39 U.vm ∧ U.heap = h0) (fun _ _ _ _ _ => True) (fun _ U o U' => ∃ v L, o = .returned v ∧ Q3 Z p0 h0 n0 v U'.heap L ∧ FrameEnd U o U' L rom_3.cells rom_3.slots) := by
  refine MetFree.of_bodySF (plainFor_of_name pn_java_lang_StringLatin1) hisR ?_
  intro p e s m args below meth c s₁ Bd hml0 hP hK
  obtain ⟨rfl, hZ, hh⟩ := hP
  have hx := Bd.exec
  have hby := Bd.bytes
  have hlk := Bd.notSynchronized
  have hml : c.maxLocals = 1 := hml0
  have hown : s.vm.findClass "java/lang/StringLatin1" = some m.cls := findClass_of_methodNamed Bd.named
  have hnm := (name_of_methodNamed Bd.named Bd.method).1
  have X0 : Stand p l e rom_3 s m #[(.int p0)] below meth c s₁ [] 0 0 := Stand.of_body Bd
  have e0 : s₁.heap = h0 := by rw [← hh, Bd.state]; rfl
  have N0 := Fr.nil n0
  have K0 : Keep h0 h0 [] := Keep.refl _ _
  refine (?_ : OG p e below s (Q3 Z p0 h0 n0) rom_3.cells rom_3.slots _)
  rw [ef_3]
  have s1 : ∀ tz, Steps p.tables e below (s₁.setTop (mkF m 1 #[.val (.int p0)] [(.int (1 : Int32))])) tz → Steps p.tables e below (s₁.setTop (mkF m 0 #[.val (.int p0)] [])) tz := by
    intro tz kz
    refine XS.iconst X0.here hx rfl (hb hby d3_0) ?_
    exact kz
  refine OG.step s1 ?_
  obtain ⟨T2, h2, k2, X2, e2, E2, A2, st2⟩ := newP X0 hx hZ (hw _ (List.mem_of_getElem? (i := 17) rfl)) e0 (g := (mkF m 1 #[.val (.int p0)] [(.int (1 : Int32))])) rfl (hb hby d3_1) rfl (by decide) (cap := 1) (by decide) (by decide) (by decide) (by decide)
  obtain ⟨b2, g2⟩ : ∃ z, z = h0.size := ⟨_, rfl⟩
  rw [← g2] at A2 st2
  have sz2 : h0.size ≤ b2 := Nat.le_trans K0.1 (Nat.le_of_eq g2.symm)
  have ge2 : n0 ≤ b2 := Nat.le_trans Z0 sz2
  refine OG.step st2 ?_
  have V2 : Arv Z h2 b2 k2 .byte (1 : Int32) [(.int (0 : Int32))] (.int (0 : Int32)) := (Arv.new A2 (by decide)).pad (pad_rep [] (.int (0 : Int32)) 1)
  have K2 := K0.ext E2
  show OG _ _ _ _ _ _ _ (T2.setTop (mkF m 3 #[.val (.int p0)] [(.ref b2)]))
  have s3 : ∀ tz, Steps p.tables e below (T2.setTop (mkF m 7 #[.val (.int p0)] [(.int (p0.toInt8.toInt32)), (.int (0 : Int32)), (.ref b2), (.ref b2)])) tz → Steps p.tables e below (T2.setTop (mkF m 3 #[.val (.int p0)] [(.ref b2)])) tz := by
    intro tz kz
    refine XS.dup X2.here hx rfl (hb hby d3_3) rfl rfl ?_
    show Steps p.tables e below (T2.setTop (mkF m 4 #[.val (.int p0)] [(.ref b2), (.ref b2)])) _
    refine XS.iconst X2.here hx rfl (hb hby d3_4) ?_
    show Steps p.tables e below (T2.setTop (mkF m 5 #[.val (.int p0)] [(.int (0 : Int32)), (.ref b2), (.ref b2)])) _
    refine XS.iloadN X2.here hx rfl (hb hby d3_5) rfl ?_
    show Steps p.tables e below (T2.setTop (mkF m 6 #[.val (.int p0)] [(.int p0), (.int (0 : Int32)), (.ref b2), (.ref b2)])) _
    refine XS.i2b X2.here hx rfl (hb hby d3_6) rfl ?_
    exact kz
  refine OG.step s3 ?_
  have av4 := V2
  obtain ⟨cl4, Ar4, qa_4, Sa_4, Nn_4, Ha_4, Ga_4⟩ := av4
  have hin4 : ¬ ((0 : Int32) < 0 ∨ cl4.slots.size ≤ ((0 : Int32)).toNatClampNeg) := inb_of Sa_4 ⟨(by decide), (by decide)⟩
  obtain ⟨T5, h5, X5, e5, W5, st5⟩ := stB X2 hx hZ e2 Ar4 (j := (0 : Int32)) hin4 (g := (mkF m 7 #[.val (.int p0)] [(.int (p0.toInt8.toInt32)), (.int (0 : Int32)), (.ref b2), (.ref b2)])) rfl rfl (hb hby d3_7)
  refine OG.step st5 ?_
  have Va5 := Arv.set Ar4 qa_4 Sa_4 Nn_4 Ha_4 Ga_4 (fits_nar_byte _) W5 (0) (by decide) (Nat.le_of_ble_eq_true rfl)
  have V5 : Arv Z h5 b2 k2 .byte (1 : Int32) [(.int (nar .byte (p0.toInt8.toInt32)))] (.int (0 : Int32)) := Va5
  have K5 := K2.wr W5 (Or.inr sz2)
  have N5 := Fr.snoc X5 N0 ge2
  obtain ⟨Lz6, X5, N5⟩ : ∃ Lz, Stand p l e rom_3 s m #[(.int p0)] below meth c T5 Lz 1 1 ∧ Fr n0 Lz := ⟨_, X5, N5⟩
  show OG _ _ _ _ _ _ _ (T5.setTop (mkF m 8 #[.val (.int p0)] [(.ref b2)]))
  exact OG.retR X5 hx hlk Bd.returns (by decide) (hb hby d3_8) e5 ⟨b2, k2, (nar .byte (p0.toInt8.toInt32)), rfl, N5, K5, V5, sz2⟩ (by decide) (by decide)
theorem d4_0 : decode jdk_42_method_151_code 0 = .ok (.aload_n 0, 1) := by decide +kernel
theorem d4_1 : decode jdk_42_method_151_code 1 = .ok (.invokespecial 1, 3) := by decide +kernel
theorem d4_4 : decode jdk_42_method_151_code 4 = .ok (.aload_n 0, 1) := by decide +kernel
theorem d4_5 : decode jdk_42_method_151_code 5 = .ok (.aload_n 1, 1) := by decide +kernel
theorem d4_6 : decode jdk_42_method_151_code 6 = .ok (.putfield 9, 3) := by decide +kernel
theorem d4_9 : decode jdk_42_method_151_code 9 = .ok (.aload_n 0, 1) := by decide +kernel
theorem d4_10 : decode jdk_42_method_151_code 10 = .ok (.iload_n 2, 1) := by decide +kernel
theorem d4_11 : decode jdk_42_method_151_code 11 = .ok (.putfield 15, 3) := by decide +kernel
theorem d4_14 : decode jdk_42_method_151_code 14 = .ok (.return_, 1) := by decide +kernel
theorem pn_java_lang_String : plainName "java/lang/String" = true := by first | (simp [plainName, overriddenIn]; done) | decide +kernel
theorem ef_4 (m : MethodId) (x0 : Addr) (x1 : Addr) (x2 : Int32) : entryFrame m #[(.ref x0), (.ref x1), (.int x2)] 3 = mkF m 0 #[.val (.ref x0), .val (.ref x1), .val (.int x2)] [] := by first | (simp [entryFrame, mkF, argsToLocals, Value.category]; done) | rfl
def Q4 (Z : State) (a1 : Addr) (ob : Addr) (u1 : Value) (u2 : Value) (h0 : Heap) (n0 : Nat) (v : Option Value) (h : Heap) (L : List Loc) : Prop := (v = none) ∧ (Fr n0 L) ∧ (Keep h0 h [a1]) ∧ (Fld Z h a1 "java/lang/String" "value" "[B" (.ref ob))
abbrev rom_4 : Room := { frames := 1, cells := 0, slots := 0, locals := 12 }
set_option maxRecDepth 65536 in
set_option maxHeartbeats 40000000 in
theorem rm4 (l : Launch) (Z : State) (a0 : Array Value) (hw : ∀ d ∈ tables_1, d.before a0 Z = true) (ws : List Jvm.Cond) (a1 : Addr) (ob : Addr) (u1 : Value) (u2 : Value) (h0 : Heap) (n0 : Nat) (Z0 : n0 ≤ h0.size) (F0_a1 : Exa Z h0 a1 "java/lang/String") (F1_a1_value : Fld Z h0 a1 "java/lang/String" "value" "[B" u1) (F2_a1_coder : Fld Z h0 a1 "java/lang/String" "coder" "B" u2) (g_a1 : n0 ≤ a1) :
    MetFree l (⟨"java/lang/String", "<init>", "([BB)V"⟩ : MethodName) (head1 (Jvm.Cond.code (⟨"java/lang/String", "<init>", "([BB)V"⟩ : MethodName) jdk_42_method_151_code 3 none :: ws) rom_4) (fun a U => a = #[(.ref a1), (.ref ob), (.int (0 : Int32))] ∧ Z.Warmed39 U.vm ∧ U.heap = h0) (fun _ _ _ _ _ => True) (fun _ U o U' => ∃ v L, o = .returned v ∧ Q4 Z a1 ob u1 u2 h0 n0 v U'.heap L ∧ FrameEnd U o U' L rom_4.cells rom_4.slots) := by
  refine MetFree.of_bodySF (plainFor_of_name pn_java_lang_String) hisR ?_
  intro p e s m args below meth c s₁ Bd hml0 hP hK
  obtain ⟨rfl, hZ, hh⟩ := hP
  have hx := Bd.exec
  have hby := Bd.bytes
  have hlk := Bd.notSynchronized
  have hml : c.maxLocals = 3 := hml0
  have hown : s.vm.findClass "java/lang/String" = some m.cls := findClass_of_methodNamed Bd.named
  have hnm := (name_of_methodNamed Bd.named Bd.method).1
  have X0 : Stand p l e rom_4 s m #[(.ref a1), (.ref ob), (.int (0 : Int32))] below meth c s₁ [] 0 0 := Stand.of_body Bd
  have e0 : s₁.heap = h0 := by rw [← hh, Bd.state]; rfl
  have N0 := Fr.nil n0
  have K0 : Keep h0 h0 [a1] := Keep.refl _ _
  refine (?_ : OG p e below s (Q4 Z a1 ob u1 u2 h0 n0) rom_4.cells rom_4.slots _)
  rw [ef_4]
  have s1 : ∀ tz, Steps p.tables e below (s₁.setTop (mkF m 1 #[.val (.ref a1), .val (.ref ob), .val (.int (0 : Int32))] [(.ref a1)])) tz → Steps p.tables e below (s₁.setTop (mkF m 0 #[.val (.ref a1), .val (.ref ob), .val (.int (0 : Int32))] [])) tz := by
    intro tz kz
    refine XS.aloadN X0.here hx rfl (hb hby d4_0) rfl rfl ?_
    exact kz
  refine OG.step s1 ?_
  obtain ⟨T2, X2, e2, st2⟩ := initO X0 hx hZ hown (hw _ (List.mem_of_getElem? (i := 22) rfl)) (hw _ (List.mem_of_getElem? (i := 23) rfl)) (hw _ (List.mem_of_getElem? (i := 24) rfl)) e0 (g := (mkF m 1 #[.val (.ref a1), .val (.ref ob), .val (.int (0 : Int32))] [(.ref a1)])) rfl (by rw [hml]; rfl) rfl (hb hby d4_1) (by decide) (W := 0) (by show 2 * 0 + _ ≤ _; exact Nat.le_of_eq rfl) (by decide)
  refine OG.step st2 ?_
  show OG _ _ _ _ _ _ _ (T2.setTop (mkF m 4 #[.val (.ref a1), .val (.ref ob), .val (.int (0 : Int32))] []))
  have s3 : ∀ tz, Steps p.tables e below (T2.setTop (mkF m 6 #[.val (.ref a1), .val (.ref ob), .val (.int (0 : Int32))] [(.ref ob), (.ref a1)])) tz → Steps p.tables e below (T2.setTop (mkF m 4 #[.val (.ref a1), .val (.ref ob), .val (.int (0 : Int32))] [])) tz := by
    intro tz kz
    refine XS.aloadN X2.here hx rfl (hb hby d4_4) rfl rfl ?_
    show Steps p.tables e below (T2.setTop (mkF m 5 #[.val (.ref a1), .val (.ref ob), .val (.int (0 : Int32))] [(.ref a1)])) _
    refine XS.aloadN X2.here hx rfl (hb hby d4_5) rfl rfl ?_
    exact kz
  refine OG.step s3 ?_
  obtain ⟨T4, h4, X4, e4, W4, st4⟩ := putF X2 hx hZ hown (host := "") (Or.inl (hw _ (List.mem_of_getElem? (i := 25) rfl))) Via.refl e2 F1_a1_value F0_a1 (Or.inr ⟨(hw _ (List.mem_of_getElem? (i := 26) rfl)), rfl, hnm⟩) (hw _ (List.mem_of_getElem? (i := 13) rfl)) (ty := (.array .byte)) (by decide) rfl rfl (g := (mkF m 6 #[.val (.ref a1), .val (.ref ob), .val (.int (0 : Int32))] [(.ref ob), (.ref a1)])) rfl rfl (hb hby d4_6)
  refine OG.step st4 ?_
  have fw4 := F1_a1_value.same W4
  have f5 := F0_a1.wr W4
  have f6 := F2_a1_coder.other W4 (Or.inr (slot_ne (Or.inr (hw _ (List.mem_of_getElem? (i := 28) rfl))) (Or.inr (hw _ (List.mem_of_getElem? (i := 26) rfl))) (by decide) (t := .byte) (t' := (.array .byte)) (by decide) (by decide)))
  have K4 := K0.wr W4 (Or.inl (List.mem_of_getElem? (i := 0) rfl))
  have N4 := Fr.snoc X4 N0 g_a1
  obtain ⟨Lz7, X4, N4⟩ : ∃ Lz, Stand p l e rom_4 s m #[(.ref a1), (.ref ob), (.int (0 : Int32))] below meth c T4 Lz 0 0 ∧ Fr n0 Lz := ⟨_, X4, N4⟩
  show OG _ _ _ _ _ _ _ (T4.setTop (mkF m 9 #[.val (.ref a1), .val (.ref ob), .val (.int (0 : Int32))] []))
  have s8 : ∀ tz, Steps p.tables e below (T4.setTop (mkF m 11 #[.val (.ref a1), .val (.ref ob), .val (.int (0 : Int32))] [(.int (0 : Int32)), (.ref a1)])) tz → Steps p.tables e below (T4.setTop (mkF m 9 #[.val (.ref a1), .val (.ref ob), .val (.int (0 : Int32))] [])) tz := by
    intro tz kz
    refine XS.aloadN X4.here hx rfl (hb hby d4_9) rfl rfl ?_
    show Steps p.tables e below (T4.setTop (mkF m 10 #[.val (.ref a1), .val (.ref ob), .val (.int (0 : Int32))] [(.ref a1)])) _
    refine XS.iloadN X4.here hx rfl (hb hby d4_10) rfl ?_
    exact kz
  refine OG.step s8 ?_
  obtain ⟨T9, h9, X9, e9, W9, st9⟩ := putFN X4 hx hZ hown (hw _ (List.mem_of_getElem? (i := 27) rfl)) Via.refl e4 f6 f5 (Or.inr ⟨(hw _ (List.mem_of_getElem? (i := 28) rfl)), rfl, hnm⟩) (hw _ (List.mem_of_getElem? (i := 13) rfl)) (ty := .byte) (v' := (.int (nar .byte (0 : Int32)))) (by decide) rfl (fits_nar_byte _) (g := (mkF m 11 #[.val (.ref a1), .val (.ref ob), .val (.int (0 : Int32))] [(.int (0 : Int32)), (.ref a1)])) rfl rfl (hb hby d4_11)
  refine OG.step st9 ?_
  have fw9 := f6.same W9
  have f10 := f5.wr W9
  have f11 := fw4.other W9 (Or.inr (slot_ne (Or.inr (hw _ (List.mem_of_getElem? (i := 26) rfl))) (Or.inr (hw _ (List.mem_of_getElem? (i := 28) rfl))) (by decide) (t := (.array .byte)) (t' := .byte) (by decide) (by decide)))
  have K9 := K4.wr W9 (Or.inl (List.mem_of_getElem? (i := 0) rfl))
  have N9 := Fr.snoc X9 N4 g_a1
  obtain ⟨Lz12, X9, N9⟩ : ∃ Lz, Stand p l e rom_4 s m #[(.ref a1), (.ref ob), (.int (0 : Int32))] below meth c T9 Lz 0 0 ∧ Fr n0 Lz := ⟨_, X9, N9⟩
  show OG _ _ _ _ _ _ _ (T9.setTop (mkF m 14 #[.val (.ref a1), .val (.ref ob), .val (.int (0 : Int32))] []))
  exact OG.retV X9 hx hlk Bd.returns (hb hby d4_14) e9 ⟨rfl, N9, K9, f11⟩ (by decide) (by decide)
theorem d1_0 : decode jdk_42_method_139_code 0 = .ok (.getstatic 38, 3) := by decide +kernel
theorem d1_3 : decode jdk_42_method_139_code 3 = .ok (.ifCond .eq 23, 3) := by decide +kernel
theorem d1_6 : decode jdk_42_method_139_code 6 = .ok (.iload_n 0, 1) := by decide +kernel
theorem d1_7 : decode jdk_42_method_139_code 7 = .ok (.invokestatic 1015, 3) := by decide +kernel
theorem d1_10 : decode jdk_42_method_139_code 10 = .ok (.ifCond .eq 16, 3) := by decide +kernel
theorem d1_13 : decode jdk_42_method_139_code 13 = .ok (.new 10, 3) := by decide +kernel
theorem d1_16 : decode jdk_42_method_139_code 16 = .ok (.dup, 1) := by decide +kernel
theorem d1_17 : decode jdk_42_method_139_code 17 = .ok (.iload_n 0, 1) := by decide +kernel
theorem d1_18 : decode jdk_42_method_139_code 18 = .ok (.invokestatic 1018, 3) := by decide +kernel
theorem d1_21 : decode jdk_42_method_139_code 21 = .ok (.iconst 0, 1) := by decide +kernel
theorem d1_22 : decode jdk_42_method_139_code 22 = .ok (.invokespecial 209, 3) := by decide +kernel
theorem d1_25 : decode jdk_42_method_139_code 25 = .ok (.areturn, 1) := by decide +kernel
theorem d1_26 : decode jdk_42_method_139_code 26 = .ok (.new 10, 3) := by decide +kernel
theorem d1_29 : decode jdk_42_method_139_code 29 = .ok (.dup, 1) := by decide +kernel
theorem d1_30 : decode jdk_42_method_139_code 30 = .ok (.iload_n 0, 1) := by decide +kernel
theorem d1_31 : decode jdk_42_method_139_code 31 = .ok (.invokestatic 1021, 3) := by decide +kernel
theorem d1_34 : decode jdk_42_method_139_code 34 = .ok (.iconst 1, 1) := by decide +kernel
theorem d1_35 : decode jdk_42_method_139_code 35 = .ok (.invokespecial 209, 3) := by decide +kernel
theorem d1_38 : decode jdk_42_method_139_code 38 = .ok (.areturn, 1) := by decide +kernel
theorem ef_1 (m : MethodId) (x0 : Int32) : entryFrame m #[(.int x0)] 1 = mkF m 0 #[.val (.int x0)] [] := by first | (simp [entryFrame, mkF, argsToLocals, Value.category]; done) | rfl
def Q1 (Z : State) (p0 : Int32) (wz : Int32) (h0 : Heap) (n0 : Nat) (v : Option Value) (h : Heap) (L : List Loc) : Prop := ∃ (s1 : Addr) (b1 : Addr) (kb : ClassId) (w1 : Int32), (v = some (.ref s1)) ∧ (Fr n0 L) ∧ (Keep h0 h []) ∧ (Exa Z h s1 "java/lang/String") ∧ (Fld Z h s1 "java/lang/String" "value" "[B" (.ref b1)) ∧ (Arv Z h b1 kb .byte (1 : Int32) [(.int w1)] (.int (0 : Int32))) ∧ (h0.size ≤ s1) ∧ (h0.size ≤ b1) ∧ (s1 ≠ b1)
theorem pd__C_Z : parseMethodDescriptor "(C)Z" = some ⟨[.char], some .boolean⟩ := by decide +kernel
theorem pd__C__B : parseMethodDescriptor "(C)[B" = some ⟨[.char], some (.array .byte)⟩ := by decide +kernel
theorem pd___BB_V : parseMethodDescriptor "([BB)V" = some ⟨[(.array .byte), .byte], none⟩ := by decide +kernel
abbrev rom_1 : Room := { frames := 2, cells := 2, slots := 5, locals := 27 }
set_option maxRecDepth 65536 in
set_option maxHeartbeats 40000000 in
theorem rm1 (l : Launch) (Z : State) (a0 : Array Value) (hw : ∀ d ∈ tables_1, d.before a0 Z = true) (ws : List Jvm.Cond) (p0 : Int32) (wz : Int32) (h0 : Heap) (n0 : Nat) (Z0 : n0 ≤ h0.size) (hsta : Sta Z h0 "java/lang/String" "COMPACT_STRINGS" "Z" (.int wz)) (hnz : ¬ wz = (0 : Int32)) (hch : ¬ (255 : Int32) < p0) :
    MetFree l (⟨"java/lang/String", "valueOf", "(C)Ljava/lang/String;"⟩ : MethodName) (head1 (Jvm.Cond.code (⟨"java/lang/String", "valueOf", "(C)Ljava/lang/String;"⟩ : MethodName) jdk_42_method_139_code 1 (some (.object "java/lang/String")) :: ws) rom_1) (fun a U => a = #[(.int p0)] ∧ Z.Warmed39 U.vm ∧ U.heap = h0) (fun _ _ _ _ _ => True) (fun _ U o U' => ∃ v L, o = .returned v ∧ Q1 Z p0 wz h0 n0 v U'.heap L ∧ FrameEnd U o U' L rom_1.cells rom_1.slots) := by
  refine MetFree.of_bodySF (plainFor_of_name pn_java_lang_String) hisR ?_
  intro p e s m args below meth c s₁ Bd hml0 hP hK
  obtain ⟨rfl, hZ, hh⟩ := hP
  have hx := Bd.exec
  have hby := Bd.bytes
  have hlk := Bd.notSynchronized
  have hml : c.maxLocals = 1 := hml0
  have hown : s.vm.findClass "java/lang/String" = some m.cls := findClass_of_methodNamed Bd.named
  have hnm := (name_of_methodNamed Bd.named Bd.method).1
  have X0 : Stand p l e rom_1 s m #[(.int p0)] below meth c s₁ [] 0 0 := Stand.of_body Bd
  have e0 : s₁.heap = h0 := by rw [← hh, Bd.state]; rfl
  have N0 := Fr.nil n0
  have K0 : Keep h0 h0 [] := Keep.refl _ _
  refine (?_ : OG p e below s (Q1 Z p0 wz h0 n0) rom_1.cells rom_1.slots _)
  rw [ef_1]
  obtain ⟨T1, X1, e1, st1⟩ := getS2 X0 hx hZ hown (host := "") (Or.inl (hw _ (List.mem_of_getElem? (i := 7) rfl))) Via.refl e0 hsta (g := (mkF m 0 #[.val (.int p0)] [])) rfl (hb hby d1_0)
  refine OG.step st1 ?_
  show OG _ _ _ _ _ _ _ (T1.setTop (mkF m 3 #[.val (.int p0)] [(.int wz)]))
  have s2 : ∀ tz, Steps p.tables e below (T1.setTop (mkF m 7 #[.val (.int p0)] [(.int p0)])) tz → Steps p.tables e below (T1.setTop (mkF m 3 #[.val (.int p0)] [(.int wz)])) tz := by
    intro tz kz
    refine XS.ifNo X1.here hx rfl (hb hby d1_3) rfl ((if0 _ _).trans (feq hnz).1) ?_
    show Steps p.tables e below (T1.setTop (mkF m 6 #[.val (.int p0)] [])) _
    refine XS.iloadN X1.here hx rfl (hb hby d1_6) rfl ?_
    exact kz
  refine OG.step s2 ?_
  obtain ⟨_, _, ⟨T3, L3, k3, n3⟩, -, X3, ⟨Lc3, hQ3, l3, y3, z3⟩, st3⟩ := Jvm.LawKit.callS X1 hx (y := (⟨"java/lang/StringLatin1", "canEncode", "(C)Z"⟩ : MethodName)) hown (mvT hZ (hw _ (List.mem_of_getElem? (i := 8) rfl))) (mvT hZ (hw _ (List.mem_of_getElem? (i := 9) rfl))) (mvT hZ (hw _ (List.mem_of_getElem? (i := 10) rfl))) (mvT hZ (hw _ (List.mem_of_getElem? (i := 11) rfl))) (by decide) (backOf (W := 0) (rm2 l Z a0 hw [] p0 h0 n0 (Nat.le_trans Z0 K0.1)) hZ (hw _ (List.mem_of_getElem? (i := 11) rfl)) (hw _ (List.mem_of_getElem? (i := 10) rfl)) (by decide) (by decide)) (g := (mkF m 7 #[.val (.int p0)] [(.int p0)])) rfl (by rw [hml]; rfl) (argsL := [(.int p0)]) (rest := []) (lenOf pd__C_Z rfl) rfl (by show 2 * 0 + _ ≤ _; exact Nat.le_of_eq rfl) (hb hby d1_7) (fun _ _ => ⟨rfl, e1, (by decide : 0 + 0 ≤ _), (by decide : 0 + 0 ≤ _)⟩)
  dsimp only [Pt.U, Pt.locs, Pt.cells, Pt.slots] at X3 l3 y3 z3 st3 hQ3
  subst l3 y3 z3
  obtain ⟨rfl, N3q, e3⟩ := hQ3
  have N3 := Fr.app N0 N3q
  refine OG.step st3 ?_
  obtain ⟨Lz4, X3, N3⟩ : ∃ Lz, Stand p l e rom_1 s m #[(.int p0)] below meth c T3 Lz 0 0 ∧ Fr n0 Lz := ⟨_, X3, N3⟩
  show OG _ _ _ _ _ _ _ (T3.setTop (mkF m 10 #[.val (.int p0)] [(.int (bI (¬ ((255 : Int32) < p0))))]))
  have s5 : ∀ tz, Steps p.tables e below (T3.setTop (mkF m 13 #[.val (.int p0)] [])) tz → Steps p.tables e below (T3.setTop (mkF m 10 #[.val (.int p0)] [(.int (bI (¬ ((255 : Int32) < p0))))])) tz := by
    intro tz kz
    refine XS.ifNo X3.here hx rfl (hb hby d1_10) rfl ((if0 _ _).trans (feq (bI_ne0 hch)).1) ?_
    exact kz
  refine OG.step s5 ?_
  obtain ⟨T6, h6, X6, e6, E6, A6, D6, -, st6⟩ := newO X3 hx hZ hown (hw _ (List.mem_of_getElem? (i := 12) rfl)) (hw _ (List.mem_of_getElem? (i := 13) rfl)) (hw _ (List.mem_of_getElem? (i := 5) rfl)) e3 (g := (mkF m 13 #[.val (.int p0)] [])) rfl (hb hby d1_13) (by decide) (by decide)
  obtain ⟨b6, g6⟩ : ∃ z, z = h0.size := ⟨_, rfl⟩
  rw [← g6] at A6 D6 st6
  have sz6 : h0.size ≤ b6 := Nat.le_trans K0.1 (Nat.le_of_eq g6.symm)
  have ge6 : n0 ≤ b6 := Nat.le_trans Z0 sz6
  refine OG.step st6 ?_
  have F6_value : Fld Z h6 b6 "java/lang/String" "value" "[B" .null := D6 (Or.inr (hw _ (List.mem_of_getElem? (i := 26) rfl))) (ty := (.array .byte)) (by decide)
  have F6_coder : Fld Z h6 b6 "java/lang/String" "coder" "B" (.int (0 : Int32)) := D6 (Or.inr (hw _ (List.mem_of_getElem? (i := 28) rfl))) (ty := .byte) (by decide)
  have K6 := K0.ext E6
  show OG _ _ _ _ _ _ _ (T6.setTop (mkF m 16 #[.val (.int p0)] [(.ref b6)]))
  have s7 : ∀ tz, Steps p.tables e below (T6.setTop (mkF m 18 #[.val (.int p0)] [(.int p0), (.ref b6), (.ref b6)])) tz → Steps p.tables e below (T6.setTop (mkF m 16 #[.val (.int p0)] [(.ref b6)])) tz := by
    intro tz kz
    refine XS.dup X6.here hx rfl (hb hby d1_16) rfl rfl ?_
    show Steps p.tables e below (T6.setTop (mkF m 17 #[.val (.int p0)] [(.ref b6), (.ref b6)])) _
    refine XS.iloadN X6.here hx rfl (hb hby d1_17) rfl ?_
    exact kz
  refine OG.step s7 ?_
  obtain ⟨_, _, ⟨T8, L8, k8, n8⟩, -, X8, ⟨Lc8, hQ8, l8, y8, z8⟩, st8⟩ := Jvm.LawKit.callS X6 hx (y := (⟨"java/lang/StringLatin1", "toBytes", "(C)[B"⟩ : MethodName)) hown (mvT hZ (hw _ (List.mem_of_getElem? (i := 14) rfl))) (mvT hZ (hw _ (List.mem_of_getElem? (i := 15) rfl))) (mvT hZ (hw _ (List.mem_of_getElem? (i := 10) rfl))) (mvT hZ (hw _ (List.mem_of_getElem? (i := 16) rfl))) (by decide) (backOf (W := 2) (rm3 l Z a0 hw [] p0 h6 n0 (Nat.le_trans Z0 K6.1)) hZ (hw _ (List.mem_of_getElem? (i := 16) rfl)) (hw _ (List.mem_of_getElem? (i := 10) rfl)) (by decide) (by decide)) (g := (mkF m 18 #[.val (.int p0)] [(.int p0), (.ref b6), (.ref b6)])) rfl (by rw [hml]; rfl) (argsL := [(.int p0)]) (rest := [(.ref b6), (.ref b6)]) (lenOf pd__C__B rfl) rfl (by show 2 * 0 + _ ≤ _; exact Nat.le_of_eq rfl) (hb hby d1_18) (fun _ _ => ⟨rfl, e6, (by decide : 1 + 1 ≤ _), (by decide : 4 + 1 ≤ _)⟩)
  dsimp only [Pt.U, Pt.locs, Pt.cells, Pt.slots] at X8 l8 y8 z8 st8 hQ8
  subst l8 y8 z8
  obtain ⟨b1_8, kb_8, w1_8, rfl, N8q, Kc8, p8_0, u8_0⟩ := hQ8
  have N8 := Fr.app N3 N8q
  refine OG.step st8 ?_
  have f9 := A6.keep Kc8
  have f10 := F6_value.keep Kc8 nin0
  have f11 := F6_coder.keep Kc8 nin0
  have K8 := K6.trans Kc8 all0
  obtain ⟨Lz12, X8, N8⟩ : ∃ Lz, Stand p l e rom_1 s m #[(.int p0)] below meth c T8 Lz 2 5 ∧ Fr n0 Lz := ⟨_, X8, N8⟩
  have sz8_b1_8 : h0.size ≤ b1_8 := Nat.le_trans K6.1 u8_0
  have ge8_b1_8 : n0 ≤ b1_8 := Nat.le_trans Z0 sz8_b1_8
  have ne8_b6_b1_8 : b6 ≠ b1_8 := Nat.ne_of_lt (Nat.lt_of_lt_of_le A6.lt u8_0)
  show OG _ _ _ _ _ _ _ (T8.setTop (mkF m 21 #[.val (.int p0)] [(.ref b1_8), (.ref b6), (.ref b6)]))
  have s13 : ∀ tz, Steps p.tables e below (T8.setTop (mkF m 22 #[.val (.int p0)] [(.int (0 : Int32)), (.ref b1_8), (.ref b6), (.ref b6)])) tz → Steps p.tables e below (T8.setTop (mkF m 21 #[.val (.int p0)] [(.ref b1_8), (.ref b6), (.ref b6)])) tz := by
    intro tz kz
    refine XS.iconst X8.here hx rfl (hb hby d1_21) ?_
    exact kz
  refine OG.step s13 ?_
  obtain ⟨_, _, ⟨T14, L14, k14, n14⟩, -, X14, ⟨Lc14, hQ14, l14, y14, z14⟩, st14⟩ := X8.specialBack hx (y := (⟨"java/lang/String", "<init>", "([BB)V"⟩ : MethodName)) rfl hown (mvT hZ (hw _ (List.mem_of_getElem? (i := 18) rfl))) (mvT hZ (hw _ (List.mem_of_getElem? (i := 19) rfl))) (mvT hZ (hw _ (List.mem_of_getElem? (i := 21) rfl))) (by decide) (backOf (W := 1) (rm4 l Z a0 hw [] b6 b1_8 .null (.int (0 : Int32)) T8.heap n0 (Nat.le_trans Z0 K8.1) f9 f10 f11 ge6) hZ (hw _ (List.mem_of_getElem? (i := 21) rfl)) (hw _ (List.mem_of_getElem? (i := 5) rfl)) (by decide) (by decide)) (g := (mkF m 22 #[.val (.int p0)] [(.int (0 : Int32)), (.ref b1_8), (.ref b6), (.ref b6)])) rfl (by rw [hml]; rfl) (Steps.refl _) (a := b6) (argsL := [(.ref b1_8), (.int (0 : Int32))]) (rest := [(.ref b6)]) (lenOf pd___BB_V rfl) rfl (by show 2 * 0 + _ ≤ _; exact Nat.le_of_eq rfl) (hb hby d1_22) (fun _ _ => ⟨rfl, rfl, (by decide : 2 + 0 ≤ _), (by decide : 5 + 0 ≤ _)⟩)
  dsimp only [Pt.U, Pt.locs, Pt.cells, Pt.slots] at X14 l14 y14 z14 st14 hQ14
  subst l14 y14 z14
  obtain ⟨rfl, N14q, Kc14, p14_0⟩ := hQ14
  have N14 := Fr.app N8 N14q
  refine OG.step (fun tz kz => st14.trans kz) ?_
  have f15 := f9.keep Kc14
  have f18 := p8_0.keep Kc14 (ninS (Ne.symm ne8_b6_b1_8) nin0)
  have K14 := K8.trans Kc14 (allS (Or.inr sz6) all0)
  obtain ⟨Lz19, X14, N14⟩ : ∃ Lz, Stand p l e rom_1 s m #[(.int p0)] below meth c T14 Lz 2 5 ∧ Fr n0 Lz := ⟨_, X14, N14⟩
  show OG _ _ _ _ _ _ _ (T14.setTop (mkF m 25 #[.val (.int p0)] [(.ref b6)]))
  exact OG.retR X14 hx hlk Bd.returns (by decide) (hb hby d1_25) rfl ⟨b6, b1_8, kb_8, w1_8, rfl, N14, K14, f15, p14_0, f18, sz6, sz8_b1_8, ne8_b6_b1_8⟩ (by decide) (by decide)
theorem d8_0 : decode jdk_31_method_11_code 0 = .ok (.aload_n 0, 1) := by decide +kernel
theorem d8_1 : decode jdk_31_method_11_code 1 = .ok (.ifnonnull 12, 3) := by decide +kernel
theorem d8_4 : decode jdk_31_method_11_code 4 = .ok (.new 84, 3) := by decide +kernel
theorem d8_7 : decode jdk_31_method_11_code 7 = .ok (.dup, 1) := by decide +kernel
theorem d8_8 : decode jdk_31_method_11_code 8 = .ok (.aload_n 1, 1) := by decide +kernel
theorem d8_9 : decode jdk_31_method_11_code 9 = .ok (.invokespecial 87, 3) := by decide +kernel
theorem d8_12 : decode jdk_31_method_11_code 12 = .ok (.athrow, 1) := by decide +kernel
theorem d8_13 : decode jdk_31_method_11_code 13 = .ok (.aload_n 0, 1) := by decide +kernel
theorem d8_14 : decode jdk_31_method_11_code 14 = .ok (.areturn, 1) := by decide +kernel
theorem pn_java_util_Objects : plainName "java/util/Objects" = true := by first | (simp [plainName, overriddenIn]; done) | decide +kernel
theorem ef_8 (m : MethodId) (x0 : Addr) (x1 : Addr) : entryFrame m #[(.ref x0), (.ref x1)] 2 = mkF m 0 #[.val (.ref x0), .val (.ref x1)] [] := by first | (simp [entryFrame, mkF, argsToLocals, Value.category]; done) | rfl
def Q8 (Z : State) (o0 : Addr) (o1 : Addr) (h0 : Heap) (n0 : Nat) (v : Option Value) (h : Heap) (L : List Loc) : Prop := (v = some (.ref o0)) ∧ (Fr n0 L) ∧ (h = h0)
abbrev rom_8 : Room := { frames := 0, cells := 0, slots := 0, locals := 0 }
set_option maxRecDepth 65536 in
set_option maxHeartbeats 40000000 in
theorem rm8 (l : Launch) (Z : State) (a0 : Array Value) (hw : ∀ d ∈ tables_1, d.before a0 Z = true) (ws : List Jvm.Cond) (o0 : Addr) (o1 : Addr) (h0 : Heap) (n0 : Nat) (Z0 : n0 ≤ h0.size) :
    MetFree l (⟨"java/util/Objects", "requireNonNull", "(Ljava/lang/Object;Ljava/lang/String;)Ljava/lang/Object;"⟩ : MethodName) (head1 (Jvm.Cond.code (⟨"java/util/Objects", "requireNonNull", "(Ljava/lang/Object;Ljava/lang/String;)Ljava/lang/Object;"⟩ : MethodName) jdk_31_method_11_code 2 (some (.object "java/lang/Object")) :: ws) rom_8) (fun a U => a = #[(.ref o0), (.ref o1)] ∧ Z.Warmed39 U.vm ∧ U.heap = h0) (fun _ _ _ _ _ => True) (fun _ U o U' => ∃ v L, o = .returned v ∧ Q8 Z o0 o1 h0 n0 v U'.heap L ∧ FrameEnd U o U' L rom_8.cells rom_8.slots) := by
  refine MetFree.of_bodySF (plainFor_of_name pn_java_util_Objects) hisR ?_
  intro p e s m args below meth c s₁ Bd hml0 hP hK
  obtain ⟨rfl, hZ, hh⟩ := hP
  have hx := Bd.exec
  have hby := Bd.bytes
  have hlk := Bd.notSynchronized
  have hml : c.maxLocals = 2 := hml0
  have hown : s.vm.findClass "java/util/Objects" = some m.cls := findClass_of_methodNamed Bd.named
  have hnm := (name_of_methodNamed Bd.named Bd.method).1
  have X0 : Stand p l e rom_8 s m #[(.ref o0), (.ref o1)] below meth c s₁ [] 0 0 := Stand.of_body Bd
  have e0 : s₁.heap = h0 := by rw [← hh, Bd.state]; rfl
  have N0 := Fr.nil n0
  have K0 : Keep h0 h0 [] := Keep.refl _ _
  refine (?_ : OG p e below s (Q8 Z o0 o1 h0 n0) rom_8.cells rom_8.slots _)
  rw [ef_8]
  have s1 : ∀ tz, Steps p.tables e below (s₁.setTop (mkF m 14 #[.val (.ref o0), .val (.ref o1)] [(.ref o0)])) tz → Steps p.tables e below (s₁.setTop (mkF m 0 #[.val (.ref o0), .val (.ref o1)] [])) tz := by
    intro tz kz
    refine XS.aloadN X0.here hx rfl (hb hby d8_0) rfl rfl ?_
    show Steps p.tables e below (s₁.setTop (mkF m 1 #[.val (.ref o0), .val (.ref o1)] [(.ref o0)])) _
    refine XS.ifnonnullYes X0.here hx rfl (pc0 := 1) (pc' := 13) rfl (hb hby d8_1) rfl (by decide) (by decide) ?_
    show Steps p.tables e below (s₁.setTop (mkF m 13 #[.val (.ref o0), .val (.ref o1)] [])) _
    refine XS.aloadN X0.here hx rfl (hb hby d8_13) rfl rfl ?_
    exact kz
  refine OG.step s1 ?_
  exact OG.retR X0 hx hlk Bd.returns (by decide) (hb hby d8_14) e0 ⟨rfl, N0, rfl⟩ (by decide) (by decide)
theorem d9_0 : decode jdk_42_method_55_code 0 = .ok (.aload_n 0, 1) := by decide +kernel
theorem d9_1 : decode jdk_42_method_55_code 1 = .ok (.getfield 9, 3) := by decide +kernel
theorem d9_4 : decode jdk_42_method_55_code 4 = .ok (.arraylength, 1) := by decide +kernel
theorem d9_5 : decode jdk_42_method_55_code 5 = .ok (.ifCond .ne 7, 3) := by decide +kernel
theorem d9_8 : decode jdk_42_method_55_code 8 = .ok (.iconst 1, 1) := by decide +kernel
theorem d9_9 : decode jdk_42_method_55_code 9 = .ok (.goto 4, 3) := by decide +kernel
theorem d9_12 : decode jdk_42_method_55_code 12 = .ok (.iconst 0, 1) := by decide +kernel
theorem d9_13 : decode jdk_42_method_55_code 13 = .ok (.ireturn, 1) := by decide +kernel
theorem ef_9 (m : MethodId) (x0 : Addr) : entryFrame m #[(.ref x0)] 1 = mkF m 0 #[.val (.ref x0)] [] := by first | (simp [entryFrame, mkF, argsToLocals, Value.category]; done) | rfl
def Q9 (Z : State) (a1 : Addr) (b1 : Addr) (kb : ClassId) (w1 : Int32) (h0 : Heap) (n0 : Nat) (v : Option Value) (h : Heap) (L : List Loc) : Prop := (v = some (.int (0 : Int32))) ∧ (Fr n0 L) ∧ (h = h0)
abbrev rom_9 : Room := { frames := 0, cells := 0, slots := 0, locals := 0 }
set_option maxRecDepth 65536 in
set_option maxHeartbeats 40000000 in
theorem rm9 (l : Launch) (Z : State) (a0 : Array Value) (hw : ∀ d ∈ tables_1, d.before a0 Z = true) (ws : List Jvm.Cond) (a1 : Addr) (b1 : Addr) (kb : ClassId) (w1 : Int32) (h0 : Heap) (n0 : Nat) (Z0 : n0 ≤ h0.size) (F0_a1_value : Fld Z h0 a1 "java/lang/String" "value" "[B" (.ref b1)) (F1_b1 : Arv Z h0 b1 kb .byte (1 : Int32) [(.int w1)] (.int (0 : Int32))) :
    MetFree l (⟨"java/lang/String", "isEmpty", "()Z"⟩ : MethodName) (head1 (Jvm.Cond.code (⟨"java/lang/String", "isEmpty", "()Z"⟩ : MethodName) jdk_42_method_55_code 1 (some .boolean) :: ws) rom_9) (fun a U => a = #[(.ref a1)] ∧ Z.Warmed39 U.vm ∧ U.heap = h0) (fun _ _ _ _ _ => True) (fun _ U o U' => ∃ v L, o = .returned v ∧ Q9 Z a1 b1 kb w1 h0 n0 v U'.heap L ∧ FrameEnd U o U' L rom_9.cells rom_9.slots) := by
  refine MetFree.of_bodySF (plainFor_of_name pn_java_lang_String) hisR ?_
  intro p e s m args below meth c s₁ Bd hml0 hP hK
  obtain ⟨rfl, hZ, hh⟩ := hP
  have hx := Bd.exec
  have hby := Bd.bytes
  have hlk := Bd.notSynchronized
  have hml : c.maxLocals = 1 := hml0
  have hown : s.vm.findClass "java/lang/String" = some m.cls := findClass_of_methodNamed Bd.named
  have hnm := (name_of_methodNamed Bd.named Bd.method).1
  have X0 : Stand p l e rom_9 s m #[(.ref a1)] below meth c s₁ [] 0 0 := Stand.of_body Bd
  have e0 : s₁.heap = h0 := by rw [← hh, Bd.state]; rfl
  have N0 := Fr.nil n0
  have K0 : Keep h0 h0 [] := Keep.refl _ _
  refine (?_ : OG p e below s (Q9 Z a1 b1 kb w1 h0 n0) rom_9.cells rom_9.slots _)
  rw [ef_9]
  have s1 : ∀ tz, Steps p.tables e below (s₁.setTop (mkF m 1 #[.val (.ref a1)] [(.ref a1)])) tz → Steps p.tables e below (s₁.setTop (mkF m 0 #[.val (.ref a1)] [])) tz := by
    intro tz kz
    refine XS.aloadN X0.here hx rfl (hb hby d9_0) rfl rfl ?_
    exact kz
  refine OG.step s1 ?_
  obtain ⟨T2, X2, e2, st2⟩ := getF X0 hx hZ hown (host := "") (Or.inl (hw _ (List.mem_of_getElem? (i := 25) rfl))) Via.refl e0 F0_a1_value (g := (mkF m 1 #[.val (.ref a1)] [(.ref a1)])) rfl rfl (hb hby d9_1)
  refine OG.step st2 ?_
  show OG _ _ _ _ _ _ _ (T2.setTop (mkF m 4 #[.val (.ref a1)] [(.ref b1)]))
  have av3 := F1_b1
  obtain ⟨cl3, Ar3, qa_3, Sa_3, Nn_3, Ha_3, Ga_3⟩ := av3
  refine OG.step (X2.arraylength hx (by rw [e2]; exact Ar3.1) (State.isArrayOf_alike hZ.alike Ar3.2.1) (g := (mkF m 4 #[.val (.ref a1)] [(.ref b1)])) rfl rfl (hb hby d9_4)) ?_
  rw [len_of Sa_3 Nn_3]
  show OG _ _ _ _ _ _ _ (T2.setTop (mkF m 5 #[.val (.ref a1)] [(.int (1 : Int32))]))
  have s4 : ∀ tz, Steps p.tables e below (T2.setTop (mkF m 13 #[.val (.ref a1)] [(.int (0 : Int32))])) tz → Steps p.tables e below (T2.setTop (mkF m 5 #[.val (.ref a1)] [(.int (1 : Int32))])) tz := by
    intro tz kz
    refine XS.ifYes X2.here hx rfl (pc0 := 5) (pc' := 12) rfl (hb hby d9_5) rfl ((if0 _ _).trans (feq (by decide)).2) (by decide) (by decide) ?_
    show Steps p.tables e below (T2.setTop (mkF m 12 #[.val (.ref a1)] [])) _
    refine XS.iconst X2.here hx rfl (hb hby d9_12) ?_
    exact kz
  refine OG.step s4 ?_
  exact OG.retZ X2 hx hlk Bd.returns (hb hby d9_13) (nar_0) e2 ⟨rfl, N0, rfl⟩ (by decide) (by decide)
theorem d7_0 : decode jdk_30_method_1_code 0 = .ok (.aload_n 0, 1) := by decide +kernel
theorem d7_1 : decode jdk_30_method_1_code 1 = .ok (.invokespecial 1, 3) := by decide +kernel
theorem d7_4 : decode jdk_30_method_1_code 4 = .ok (.return_, 1) := by decide +kernel
theorem pn_java_lang_Record : plainName "java/lang/Record" = true := by first | (simp [plainName, overriddenIn]; done) | decide +kernel
theorem ef_7 (m : MethodId) (x0 : Addr) : entryFrame m #[(.ref x0)] 1 = mkF m 0 #[.val (.ref x0)] [] := by first | (simp [entryFrame, mkF, argsToLocals, Value.category]; done) | rfl
def Q7 (Z : State) (o0 : Addr) (h0 : Heap) (n0 : Nat) (v : Option Value) (h : Heap) (L : List Loc) : Prop := (v = none) ∧ (Fr n0 L) ∧ (h = h0)
abbrev rom_7 : Room := { frames := 1, cells := 0, slots := 0, locals := 12 }
set_option maxRecDepth 65536 in
set_option maxHeartbeats 40000000 in
theorem rm7 (l : Launch) (Z : State) (a0 : Array Value) (hw : ∀ d ∈ tables_1, d.before a0 Z = true) (ws : List Jvm.Cond) (o0 : Addr) (h0 : Heap) (n0 : Nat) (Z0 : n0 ≤ h0.size) :
    MetFree l (⟨"java/lang/Record", "<init>", "()V"⟩ : MethodName) (head1 (Jvm.Cond.code (⟨"java/lang/Record", "<init>", "()V"⟩ : MethodName) jdk_30_method_1_code 1 none :: ws) rom_7) (fun a U => a = #[(.ref o0)] ∧ Z.Warmed39 U.vm ∧ U.heap = h0) (fun _ _ _ _ _ => True) (fun _ U o U' => ∃ v L, o = .returned v ∧ Q7 Z o0 h0 n0 v U'.heap L ∧ FrameEnd U o U' L rom_7.cells rom_7.slots) := by
  refine MetFree.of_bodySF (plainFor_of_name pn_java_lang_Record) hisR ?_
  intro p e s m args below meth c s₁ Bd hml0 hP hK
  obtain ⟨rfl, hZ, hh⟩ := hP
  have hx := Bd.exec
  have hby := Bd.bytes
  have hlk := Bd.notSynchronized
  have hml : c.maxLocals = 1 := hml0
  have hown : s.vm.findClass "java/lang/Record" = some m.cls := findClass_of_methodNamed Bd.named
  have hnm := (name_of_methodNamed Bd.named Bd.method).1
  have X0 : Stand p l e rom_7 s m #[(.ref o0)] below meth c s₁ [] 0 0 := Stand.of_body Bd
  have e0 : s₁.heap = h0 := by rw [← hh, Bd.state]; rfl
  have N0 := Fr.nil n0
  have K0 : Keep h0 h0 [] := Keep.refl _ _
  refine (?_ : OG p e below s (Q7 Z o0 h0 n0) rom_7.cells rom_7.slots _)
  rw [ef_7]
  have s1 : ∀ tz, Steps p.tables e below (s₁.setTop (mkF m 1 #[.val (.ref o0)] [(.ref o0)])) tz → Steps p.tables e below (s₁.setTop (mkF m 0 #[.val (.ref o0)] [])) tz := by
    intro tz kz
    refine XS.aloadN X0.here hx rfl (hb hby d7_0) rfl rfl ?_
    exact kz
  refine OG.step s1 ?_
  obtain ⟨T2, X2, e2, st2⟩ := initO X0 hx hZ hown (hw _ (List.mem_of_getElem? (i := 40) rfl)) (hw _ (List.mem_of_getElem? (i := 23) rfl)) (hw _ (List.mem_of_getElem? (i := 24) rfl)) e0 (g := (mkF m 1 #[.val (.ref o0)] [(.ref o0)])) rfl (by rw [hml]; rfl) rfl (hb hby d7_1) (by decide) (W := 0) (by show 2 * 0 + _ ≤ _; exact Nat.le_of_eq rfl) (by decide)
  refine OG.step st2 ?_
  show OG _ _ _ _ _ _ _ (T2.setTop (mkF m 4 #[.val (.ref o0)] []))
  exact OG.retV X2 hx hlk Bd.returns (hb hby d7_4) e2 ⟨rfl, N0, rfl⟩ (by decide) (by decide)
theorem d6_0 : decode prog_32_method_1_code 0 = .ok (.aload_n 0, 1) := by decide +kernel
theorem d6_1 : decode prog_32_method_1_code 1 = .ok (.invokespecial 1, 3) := by decide +kernel
theorem d6_4 : decode prog_32_method_1_code 4 = .ok (.aload_n 1, 1) := by decide +kernel
theorem d6_5 : decode prog_32_method_1_code 5 = .ok (.ldc 7, 2) := by decide +kernel
theorem d6_7 : decode prog_32_method_1_code 7 = .ok (.invokestatic 9, 3) := by decide +kernel
theorem d6_10 : decode prog_32_method_1_code 10 = .ok (.pop, 1) := by decide +kernel
theorem d6_11 : decode prog_32_method_1_code 11 = .ok (.aload_n 2, 1) := by decide +kernel
theorem d6_12 : decode prog_32_method_1_code 12 = .ok (.ldc 15, 2) := by decide +kernel
theorem d6_14 : decode prog_32_method_1_code 14 = .ok (.invokestatic 9, 3) := by decide +kernel
theorem d6_17 : decode prog_32_method_1_code 17 = .ok (.pop, 1) := by decide +kernel
theorem d6_18 : decode prog_32_method_1_code 18 = .ok (.aload_n 3, 1) := by decide +kernel
theorem d6_19 : decode prog_32_method_1_code 19 = .ok (.ldc 17, 2) := by decide +kernel
theorem d6_21 : decode prog_32_method_1_code 21 = .ok (.invokestatic 9, 3) := by decide +kernel
theorem d6_24 : decode prog_32_method_1_code 24 = .ok (.pop, 1) := by decide +kernel
theorem d6_25 : decode prog_32_method_1_code 25 = .ok (.aload_n 1, 1) := by decide +kernel
theorem d6_26 : decode prog_32_method_1_code 26 = .ok (.invokevirtual 19, 3) := by decide +kernel
theorem d6_29 : decode prog_32_method_1_code 29 = .ok (.ifCond .eq 13, 3) := by decide +kernel
theorem d6_32 : decode prog_32_method_1_code 32 = .ok (.new 25, 3) := by decide +kernel
theorem d6_35 : decode prog_32_method_1_code 35 = .ok (.dup, 1) := by decide +kernel
theorem d6_36 : decode prog_32_method_1_code 36 = .ok (.ldc 27, 2) := by decide +kernel
theorem d6_38 : decode prog_32_method_1_code 38 = .ok (.invokespecial 29, 3) := by decide +kernel
theorem d6_41 : decode prog_32_method_1_code 41 = .ok (.athrow, 1) := by decide +kernel
theorem d6_42 : decode prog_32_method_1_code 42 = .ok (.aload_n 0, 1) := by decide +kernel
theorem d6_43 : decode prog_32_method_1_code 43 = .ok (.aload_n 1, 1) := by decide +kernel
theorem d6_44 : decode prog_32_method_1_code 44 = .ok (.putfield 32, 3) := by decide +kernel
theorem d6_47 : decode prog_32_method_1_code 47 = .ok (.aload_n 0, 1) := by decide +kernel
theorem d6_48 : decode prog_32_method_1_code 48 = .ok (.aload_n 2, 1) := by decide +kernel
theorem d6_49 : decode prog_32_method_1_code 49 = .ok (.putfield 37, 3) := by decide +kernel
theorem d6_52 : decode prog_32_method_1_code 52 = .ok (.aload_n 0, 1) := by decide +kernel
theorem d6_53 : decode prog_32_method_1_code 53 = .ok (.aload_n 3, 1) := by decide +kernel
theorem d6_54 : decode prog_32_method_1_code 54 = .ok (.putfield 39, 3) := by decide +kernel
theorem d6_57 : decode prog_32_method_1_code 57 = .ok (.return_, 1) := by decide +kernel
theorem pn_com_example_mergeward_mergeward_core_Identifier : plainName "com/example/mergeward/mergeward/core/Identifier" = true := by first | (simp [plainName, overriddenIn]; done) | decide +kernel
theorem ef_6 (m : MethodId) (x0 : Addr) (x1 : Addr) (x2 : Addr) (x3 : Addr) : entryFrame m #[(.ref x0), (.ref x1), (.ref x2), (.ref x3)] 4 = mkF m 0 #[.val (.ref x0), .val (.ref x1), .val (.ref x2), .val (.ref x3)] [] := by first | (simp [entryFrame, mkF, argsToLocals, Value.category]; done) | rfl
def Q6 (Z : State) (a1 : Addr) (o1 : Addr) (o2 : Addr) (o3 : Addr) (u0 : Value) (u1 : Value) (u2 : Value) (b1 : Addr) (kb : ClassId) (w1 : Int32) (h0 : Heap) (n0 : Nat) (v : Option Value) (h : Heap) (L : List Loc) : Prop := (v = none) ∧ (Fr n0 L) ∧ (Keep h0 h [a1])
theorem pd___V : parseMethodDescriptor "()V" = some ⟨[], none⟩ := by decide +kernel
theorem pd__Ljava_lang_Object_Ljava_lang_String__Ljava_lang_Object_ : parseMethodDescriptor "(Ljava/lang/Object;Ljava/lang/String;)Ljava/lang/Object;" = some ⟨[(.object "java/lang/Object"), (.object "java/lang/String")], some (.object "java/lang/Object")⟩ := by decide +kernel
theorem pd___Z : parseMethodDescriptor "()Z" = some ⟨[], some .boolean⟩ := by decide +kernel
abbrev rom_6 : Room := { frames := 2, cells := 6, slots := 136, locals := 24 }
set_option maxRecDepth 65536 in
set_option maxHeartbeats 40000000 in
theorem rm6 (l : Launch) (Z : State) (a0 : Array Value) (hw : ∀ d ∈ tables_1, d.before a0 Z = true) (ws : List Jvm.Cond) (a1 : Addr) (o1 : Addr) (o2 : Addr) (o3 : Addr) (u0 : Value) (u1 : Value) (u2 : Value) (b1 : Addr) (kb : ClassId) (w1 : Int32) (h0 : Heap) (n0 : Nat) (Z0 : n0 ≤ h0.size) (F0_a1 : Exa Z h0 a1 "com/example/mergeward/mergeward/core/Identifier") (F1_a1_value : Fld Z h0 a1 "com/example/mergeward/mergeward/core/Identifier" "value" "Ljava/lang/String;" u0) (F2_a1_assigningAuthority : Fld Z h0 a1 "com/example/mergeward/mergeward/core/Identifier" "assigningAuthority" "Ljava/lang/String;" u1) (F3_a1_typeCode : Fld Z h0 a1 "com/example/mergeward/mergeward/core/Identifier" "typeCode" "Ljava/lang/String;" u2) (F4_o1 : Exa Z h0 o1 "java/lang/String") (F5_o1_value : Fld Z h0 o1 "java/lang/String" "value" "[B" (.ref b1)) (F6_b1 : Arv Z h0 b1 kb .byte (1 : Int32) [(.int w1)] (.int (0 : Int32))) (ne_a1_o1 : a1 ≠ o1) (ne_a1_b1 : a1 ≠ b1) (g_a1 : n0 ≤ a1) :
    MetFree l (⟨"com/example/mergeward/mergeward/core/Identifier", "<init>", "(Ljava/lang/String;Ljava/lang/String;Ljava/lang/String;)V"⟩ : MethodName) (head1 (Jvm.Cond.code (⟨"com/example/mergeward/mergeward/core/Identifier", "<init>", "(Ljava/lang/String;Ljava/lang/String;Ljava/lang/String;)V"⟩ : MethodName) prog_32_method_1_code 4 none :: ws) rom_6) (fun a U => a = #[(.ref a1), (.ref o1), (.ref o2), (.ref o3)] ∧ Z.Warmed39 U.vm ∧ U.heap = h0 ∧ CHv Z own_EL U.vm h0) (fun _ _ _ _ _ => True) (fun _ U o U' => ∃ v L, o = .returned v ∧ Q6 Z a1 o1 o2 o3 u0 u1 u2 b1 kb w1 h0 n0 v U'.heap L ∧ CHr Z own_EL U.vm U.heap U'.vm U'.heap ∧ ReturnedEndW U o U' L rom_6.cells rom_6.slots) := by
  refine MetFree.of_bodySF (plainFor_of_name pn_com_example_mergeward_mergeward_core_Identifier) hisR ?_
  intro p e s m args below meth c s₁ Bd hml0 hP hK
  obtain ⟨rfl, hZ, hh, hH0⟩ := hP
  have hx := Bd.exec
  have hby := Bd.bytes
  have hlk := Bd.notSynchronized
  have hml : c.maxLocals = 4 := hml0
  have hown : s.vm.findClass "com/example/mergeward/mergeward/core/Identifier" = some m.cls := findClass_of_methodNamed Bd.named
  have hnm := (name_of_methodNamed Bd.named Bd.method).1
  have X0s : Stand p l e rom_6 s m #[(.ref a1), (.ref o1), (.ref o2), (.ref o3)] below meth c s₁ [] 0 0 := Stand.of_body Bd
  have X0 : Stand p l e rom_6 (s.setVm s.vm) m #[(.ref a1), (.ref o1), (.ref o2), (.ref o3)] below meth c s₁ [] 0 0 := X0s
  have hS0 : s.Since s.vm 0 := (State.WarmedH.refl s).since 0
  have hk0 : 0 ≤ h0.size := Nat.zero_le _
  have wS := own_wS hw
  have hC0 : CHr Z own_EL s.vm h0 s.vm h0 := CHr.refl hH0
  have hEL : EW Z a0 own_EL := own_EW hw
  have e0 : s₁.heap = h0 := by rw [← hh, Bd.state]; rfl
  have N0 := Fr.nil n0
  have K0 : Keep h0 h0 [a1] := Keep.refl _ _
  refine (?_ : OGH p e below s Z (Q6 Z a1 o1 o2 o3 u0 u1 u2 b1 kb w1 h0 n0) rom_6.cells rom_6.slots _)
  rw [ef_6]
  have s1 : ∀ tz, Steps p.tables e below (s₁.setTop (mkF m 1 #[.val (.ref a1), .val (.ref o1), .val (.ref o2), .val (.ref o3)] [(.ref a1)])) tz → Steps p.tables e below (s₁.setTop (mkF m 0 #[.val (.ref a1), .val (.ref o1), .val (.ref o2), .val (.ref o3)] [])) tz := by
    intro tz kz
    refine XS.aloadN X0.here hx rfl (hb hby d6_0) rfl rfl ?_
    exact kz
  refine OGH.step s1 ?_
  obtain ⟨_, _, ⟨T2, L2, k2, n2⟩, -, X2, ⟨Lc2, hQ2, l2, y2, z2⟩, st2⟩ := X0.specialBack hx (y := (⟨"java/lang/Record", "<init>", "()V"⟩ : MethodName)) rfl hown (mvT hZ (hw _ (List.mem_of_getElem? (i := 35) rfl))) (mvT hZ (hw _ (List.mem_of_getElem? (i := 36) rfl))) (mvT hZ (hw _ (List.mem_of_getElem? (i := 39) rfl))) (by decide) (backOf (W := 0) (rm7 l Z a0 hw [] a1 h0 n0 (Nat.le_trans Z0 K0.1)) hZ (hw _ (List.mem_of_getElem? (i := 39) rfl)) (hw _ (List.mem_of_getElem? (i := 38) rfl)) (by decide) (by decide)) (g := (mkF m 1 #[.val (.ref a1), .val (.ref o1), .val (.ref o2), .val (.ref o3)] [(.ref a1)])) rfl (by rw [hml]; rfl) (Steps.refl _) (a := a1) (argsL := []) (rest := []) (lenOf pd___V rfl) rfl (by show 2 * 0 + _ ≤ _; exact Nat.le_of_eq rfl) (hb hby d6_1) (fun _ _ => ⟨rfl, e0, (by decide : 0 + 0 ≤ _), (by decide : 0 + 0 ≤ _)⟩)
  dsimp only [Pt.U, Pt.locs, Pt.cells, Pt.slots] at X2 l2 y2 z2 st2 hQ2
  subst l2 y2 z2
  obtain ⟨rfl, N2q, e2⟩ := hQ2
  have N2 := Fr.app N0 N2q
  refine OGH.step (fun tz kz => st2.trans kz) ?_
  obtain ⟨Lz3, X2, N2⟩ : ∃ Lz, Stand p l e rom_6 (s.setVm s.vm) m #[(.ref a1), (.ref o1), (.ref o2), (.ref o3)] below meth c T2 Lz 0 0 ∧ Fr n0 Lz := ⟨_, X2, N2⟩
  show OGH _ _ _ _ _ _ _ _ (T2.setTop (mkF m 4 #[.val (.ref a1), .val (.ref o1), .val (.ref o2), .val (.ref o3)] []))
  have s4 : ∀ tz, Steps p.tables e below (T2.setTop (mkF m 5 #[.val (.ref a1), .val (.ref o1), .val (.ref o2), .val (.ref o3)] [(.ref o1)])) tz → Steps p.tables e below (T2.setTop (mkF m 4 #[.val (.ref a1), .val (.ref o1), .val (.ref o2), .val (.ref o3)] [])) tz := by
    intro tz kz
    refine XS.aloadN X2.here hx rfl (hb hby d6_4) rfl rfl ?_
    exact kz
  refine OGH.step s4 ?_
  obtain ⟨a5, T5, h5, k5, X5, e5, E5, hS5, hk5, hZ, hown, hD5, -, st5⟩ := ldcOH X2 hx hZ hown (hw _ (List.mem_of_getElem? (i := 41) rfl)) wS e2 hS0 hk0 hEL hC0.1 (g := (mkF m 5 #[.val (.ref a1), .val (.ref o1), .val (.ref o2), .val (.ref o3)] [(.ref o1)])) rfl (hb hby d6_5) (n := 20) (by first | decide | decide +kernel) (by decide) (by decide) (by decide)
  refine OGH.step st5 ?_
  have f6 := F0_a1.ext E5
  have f7 := F1_a1_value.ext E5
  have f8 := F2_a1_assigningAuthority.ext E5
  have f9 := F3_a1_typeCode.ext E5
  have f10 := F4_o1.ext E5
  have f11 := F5_o1_value.ext E5
  have f12 := F6_b1.ext E5
  have K5 := K0.ext E5
  have hC5 := hC0.trans hD5
  show OGH _ _ _ _ _ _ _ _ (T5.setTop (mkF m 7 #[.val (.ref a1), .val (.ref o1), .val (.ref o2), .val (.ref o3)] [(.ref a5), (.ref o1)]))
  obtain ⟨_, _, ⟨T13, L13, k13, n13⟩, -, X13, ⟨Lc13, hQ13, l13, y13, z13⟩, st13⟩ := Jvm.LawKit.callS X5 hx (y := (⟨"java/util/Objects", "requireNonNull", "(Ljava/lang/Object;Ljava/lang/String;)Ljava/lang/Object;"⟩ : MethodName)) hown (mvT hZ (hw _ (List.mem_of_getElem? (i := 42) rfl))) (mvT hZ (hw _ (List.mem_of_getElem? (i := 43) rfl))) (mvT hZ (hw _ (List.mem_of_getElem? (i := 44) rfl))) (mvT hZ (hw _ (List.mem_of_getElem? (i := 45) rfl))) (by decide) (backOf (W := 0) (rm8 l Z a0 hw [] o1 a5 h5 n0 (Nat.le_trans Z0 K5.1)) hZ (hw _ (List.mem_of_getElem? (i := 45) rfl)) (hw _ (List.mem_of_getElem? (i := 44) rfl)) (by decide) (by decide)) (g := (mkF m 7 #[.val (.ref a1), .val (.ref o1), .val (.ref o2), .val (.ref o3)] [(.ref a5), (.ref o1)])) rfl (by rw [hml]; rfl) (argsL := [(.ref o1), (.ref a5)]) (rest := []) (lenOf pd__Ljava_lang_Object_Ljava_lang_String__Ljava_lang_Object_ rfl) rfl (by show 2 * 0 + _ ≤ _; exact Nat.le_of_eq rfl) (hb hby d6_7) (fun _ _ => ⟨rfl, e5, (by decide : 2 + 0 ≤ _), (by decide : 24 + 0 ≤ _)⟩)
  dsimp only [Pt.U, Pt.locs, Pt.cells, Pt.slots] at X13 l13 y13 z13 st13 hQ13
  subst l13 y13 z13
  obtain ⟨rfl, N13q, e13⟩ := hQ13
  have N13 := Fr.app N2 N13q
  refine OGH.step st13 ?_
  obtain ⟨Lz14, X13, N13⟩ : ∃ Lz, Stand p l e rom_6 (s.setVm T5.vm) m #[(.ref a1), (.ref o1), (.ref o2), (.ref o3)] below meth c T13 Lz 2 24 ∧ Fr n0 Lz := ⟨_, X13, N13⟩
  show OGH _ _ _ _ _ _ _ _ (T13.setTop (mkF m 10 #[.val (.ref a1), .val (.ref o1), .val (.ref o2), .val (.ref o3)] [(.ref o1)]))
  have s15 : ∀ tz, Steps p.tables e below (T13.setTop (mkF m 12 #[.val (.ref a1), .val (.ref o1), .val (.ref o2), .val (.ref o3)] [(.ref o2)])) tz → Steps p.tables e below (T13.setTop (mkF m 10 #[.val (.ref a1), .val (.ref o1), .val (.ref o2), .val (.ref o3)] [(.ref o1)])) tz := by
    intro tz kz
    refine XS.pop X13.here hx rfl (hb hby d6_10) rfl rfl ?_
    show Steps p.tables e below (T13.setTop (mkF m 11 #[.val (.ref a1), .val (.ref o1), .val (.ref o2), .val (.ref o3)] [])) _
    refine XS.aloadN X13.here hx rfl (hb hby d6_11) rfl rfl ?_
    exact kz
  refine OGH.step s15 ?_
  obtain ⟨a16, T16, h16, k16, X16, e16, E16, hS16, hk16, hZ, hown, hD16, -, st16⟩ := ldcOH X13 hx hZ hown (hw _ (List.mem_of_getElem? (i := 46) rfl)) wS e13 hS5 hk5 hEL hC5.1 (g := (mkF m 12 #[.val (.ref a1), .val (.ref o1), .val (.ref o2), .val (.ref o3)] [(.ref o2)])) rfl (hb hby d6_12) (n := 72) (by first | decide | decide +kernel) (by decide) (by decide) (by decide)
  refine OGH.step st16 ?_
  have f17 := f6.ext E16
  have f18 := f7.ext E16
  have f19 := f8.ext E16
  have f20 := f9.ext E16
  have f21 := f10.ext E16
  have f22 := f11.ext E16
  have f23 := f12.ext E16
  have K16 := K5.ext E16
  have hC16 := hC5.trans hD16
  show OGH _ _ _ _ _ _ _ _ (T16.setTop (mkF m 14 #[.val (.ref a1), .val (.ref o1), .val (.ref o2), .val (.ref o3)] [(.ref a16), (.ref o2)]))
  obtain ⟨_, _, ⟨T24, L24, k24, n24⟩, -, X24, ⟨Lc24, hQ24, l24, y24, z24⟩, st24⟩ := Jvm.LawKit.callS X16 hx (y := (⟨"java/util/Objects", "requireNonNull", "(Ljava/lang/Object;Ljava/lang/String;)Ljava/lang/Object;"⟩ : MethodName)) hown (mvT hZ (hw _ (List.mem_of_getElem? (i := 42) rfl))) (mvT hZ (hw _ (List.mem_of_getElem? (i := 43) rfl))) (mvT hZ (hw _ (List.mem_of_getElem? (i := 44) rfl))) (mvT hZ (hw _ (List.mem_of_getElem? (i := 45) rfl))) (by decide) (backOf (W := 0) (rm8 l Z a0 hw [] o2 a16 h16 n0 (Nat.le_trans Z0 K16.1)) hZ (hw _ (List.mem_of_getElem? (i := 45) rfl)) (hw _ (List.mem_of_getElem? (i := 44) rfl)) (by decide) (by decide)) (g := (mkF m 14 #[.val (.ref a1), .val (.ref o1), .val (.ref o2), .val (.ref o3)] [(.ref a16), (.ref o2)])) rfl (by rw [hml]; rfl) (argsL := [(.ref o2), (.ref a16)]) (rest := []) (lenOf pd__Ljava_lang_Object_Ljava_lang_String__Ljava_lang_Object_ rfl) rfl (by show 2 * 0 + _ ≤ _; exact Nat.le_of_eq rfl) (hb hby d6_14) (fun _ _ => ⟨rfl, e16, (by decide : 4 + 0 ≤ _), (by decide : 100 + 0 ≤ _)⟩)
  dsimp only [Pt.U, Pt.locs, Pt.cells, Pt.slots] at X24 l24 y24 z24 st24 hQ24
  subst l24 y24 z24
  obtain ⟨rfl, N24q, e24⟩ := hQ24
  have N24 := Fr.app N13 N24q
  refine OGH.step st24 ?_
  obtain ⟨Lz25, X24, N24⟩ : ∃ Lz, Stand p l e rom_6 (s.setVm T16.vm) m #[(.ref a1), (.ref o1), (.ref o2), (.ref o3)] below meth c T24 Lz 4 100 ∧ Fr n0 Lz := ⟨_, X24, N24⟩
  show OGH _ _ _ _ _ _ _ _ (T24.setTop (mkF m 17 #[.val (.ref a1), .val (.ref o1), .val (.ref o2), .val (.ref o3)] [(.ref o2)]))
  have s26 : ∀ tz, Steps p.tables e below (T24.setTop (mkF m 19 #[.val (.ref a1), .val (.ref o1), .val (.ref o2), .val (.ref o3)] [(.ref o3)])) tz → Steps p.tables e below (T24.setTop (mkF m 17 #[.val (.ref a1), .val (.ref o1), .val (.ref o2), .val (.ref o3)] [(.ref o2)])) tz := by
    intro tz kz
    refine XS.pop X24.here hx rfl (hb hby d6_17) rfl rfl ?_
    show Steps p.tables e below (T24.setTop (mkF m 18 #[.val (.ref a1), .val (.ref o1), .val (.ref o2), .val (.ref o3)] [])) _
    refine XS.aloadN X24.here hx rfl (hb hby d6_18) rfl rfl ?_
    exact kz
  refine OGH.step s26 ?_
  obtain ⟨a27, T27, h27, k27, X27, e27, E27, hS27, hk27, hZ, hown, hD27, -, st27⟩ := ldcOH X24 hx hZ hown (hw _ (List.mem_of_getElem? (i := 47) rfl)) wS e24 hS16 hk16 hEL hC16.1 (g := (mkF m 19 #[.val (.ref a1), .val (.ref o1), .val (.ref o2), .val (.ref o3)] [(.ref o3)])) rfl (hb hby d6_19) (n := 32) (by first | decide | decide +kernel) (by decide) (by decide) (by decide)
  refine OGH.step st27 ?_
  have f28 := f17.ext E27
  have f29 := f18.ext E27
  have f30 := f19.ext E27
  have f31 := f20.ext E27
  have f32 := f21.ext E27
  have f33 := f22.ext E27
  have f34 := f23.ext E27
  have K27 := K16.ext E27
  have hC27 := hC16.trans hD27
  show OGH _ _ _ _ _ _ _ _ (T27.setTop (mkF m 21 #[.val (.ref a1), .val (.ref o1), .val (.ref o2), .val (.ref o3)] [(.ref a27), (.ref o3)]))
  obtain ⟨_, _, ⟨T35, L35, k35, n35⟩, -, X35, ⟨Lc35, hQ35, l35, y35, z35⟩, st35⟩ := Jvm.LawKit.callS X27 hx (y := (⟨"java/util/Objects", "requireNonNull", "(Ljava/lang/Object;Ljava/lang/String;)Ljava/lang/Object;"⟩ : MethodName)) hown (mvT hZ (hw _ (List.mem_of_getElem? (i := 42) rfl))) (mvT hZ (hw _ (List.mem_of_getElem? (i := 43) rfl))) (mvT hZ (hw _ (List.mem_of_getElem? (i := 44) rfl))) (mvT hZ (hw _ (List.mem_of_getElem? (i := 45) rfl))) (by decide) (backOf (W := 0) (rm8 l Z a0 hw [] o3 a27 h27 n0 (Nat.le_trans Z0 K27.1)) hZ (hw _ (List.mem_of_getElem? (i := 45) rfl)) (hw _ (List.mem_of_getElem? (i := 44) rfl)) (by decide) (by decide)) (g := (mkF m 21 #[.val (.ref a1), .val (.ref o1), .val (.ref o2), .val (.ref o3)] [(.ref a27), (.ref o3)])) rfl (by rw [hml]; rfl) (argsL := [(.ref o3), (.ref a27)]) (rest := []) (lenOf pd__Ljava_lang_Object_Ljava_lang_String__Ljava_lang_Object_ rfl) rfl (by show 2 * 0 + _ ≤ _; exact Nat.le_of_eq rfl) (hb hby d6_21) (fun _ _ => ⟨rfl, e27, (by decide : 6 + 0 ≤ _), (by decide : 136 + 0 ≤ _)⟩)
  dsimp only [Pt.U, Pt.locs, Pt.cells, Pt.slots] at X35 l35 y35 z35 st35 hQ35
  subst l35 y35 z35
  obtain ⟨rfl, N35q, e35⟩ := hQ35
  have N35 := Fr.app N24 N35q
  refine OGH.step st35 ?_
  obtain ⟨Lz36, X35, N35⟩ : ∃ Lz, Stand p l e rom_6 (s.setVm T27.vm) m #[(.ref a1), (.ref o1), (.ref o2), (.ref o3)] below meth c T35 Lz 6 136 ∧ Fr n0 Lz := ⟨_, X35, N35⟩
  show OGH _ _ _ _ _ _ _ _ (T35.setTop (mkF m 24 #[.val (.ref a1), .val (.ref o1), .val (.ref o2), .val (.ref o3)] [(.ref o3)]))
  have s37 : ∀ tz, Steps p.tables e below (T35.setTop (mkF m 26 #[.val (.ref a1), .val (.ref o1), .val (.ref o2), .val (.ref o3)] [(.ref o1)])) tz → Steps p.tables e below (T35.setTop (mkF m 24 #[.val (.ref a1), .val (.ref o1), .val (.ref o2), .val (.ref o3)] [(.ref o3)])) tz := by
    intro tz kz
    refine XS.pop X35.here hx rfl (hb hby d6_24) rfl rfl ?_
    show Steps p.tables e below (T35.setTop (mkF m 25 #[.val (.ref a1), .val (.ref o1), .val (.ref o2), .val (.ref o3)] [])) _
    refine XS.aloadN X35.here hx rfl (hb hby d6_25) rfl rfl ?_
    exact kz
  refine OGH.step s37 ?_
  obtain ⟨cq38, kq38, q38a, q38b, q38c⟩ := isOf hZ e35 f32
  obtain ⟨_, _, ⟨T38, L38, k38, n38⟩, -, X38, ⟨Lc38, hQ38, l38, y38, z38⟩, st38⟩ := X35.virtualBack hx (y := (⟨"java/lang/String", "isEmpty", "()Z"⟩ : MethodName)) (z := (⟨"java/lang/String", "isEmpty", "()Z"⟩ : MethodName)) hown (mvT hZ (hw _ (List.mem_of_getElem? (i := 48) rfl))) (mvT hZ (hw _ (List.mem_of_getElem? (i := 49) rfl))) (notFace_of_selects (args := #[]) (mvT hZ (hw _ (List.mem_of_getElem? (i := 51) rfl)))) (mvT hZ (hw _ (List.mem_of_getElem? (i := 51) rfl))) (mvT hZ (hw _ (List.mem_of_getElem? (i := 50) rfl))) (by decide) (backOf (W := 0) (rm9 l Z a0 hw [] o1 b1 kb w1 h27 n0 (Nat.le_trans Z0 K27.1) f33 f34) hZ (hw _ (List.mem_of_getElem? (i := 52) rfl)) (hw _ (List.mem_of_getElem? (i := 5) rfl)) (by decide) (by decide)) q38a q38c (g := (mkF m 26 #[.val (.ref a1), .val (.ref o1), .val (.ref o2), .val (.ref o3)] [(.ref o1)])) rfl (by rw [hml]; rfl) (Steps.refl _) (argsL := []) (rest := []) (lenOf pd___Z rfl) rfl (by show 2 * 0 + _ ≤ _; exact Nat.le_of_eq rfl) (hb hby d6_26) (fun _ _ => ⟨rfl, e35, (by decide : 6 + 0 ≤ _), (by decide : 136 + 0 ≤ _)⟩)
  dsimp only [Pt.U, Pt.locs, Pt.cells, Pt.slots] at X38 l38 y38 z38 st38 hQ38
  subst l38 y38 z38
  obtain ⟨rfl, N38q, e38⟩ := hQ38
  have N38 := Fr.app N35 N38q
  refine OGH.step (fun tz kz => st38.trans kz) ?_
  obtain ⟨Lz39, X38, N38⟩ : ∃ Lz, Stand p l e rom_6 (s.setVm T27.vm) m #[(.ref a1), (.ref o1), (.ref o2), (.ref o3)] below meth c T38 Lz 6 136 ∧ Fr n0 Lz := ⟨_, X38, N38⟩
  show OGH _ _ _ _ _ _ _ _ (T38.setTop (mkF m 29 #[.val (.ref a1), .val (.ref o1), .val (.ref o2), .val (.ref o3)] [(.int (0 : Int32))]))
  have s40 : ∀ tz, Steps p.tables e below (T38.setTop (mkF m 44 #[.val (.ref a1), .val (.ref o1), .val (.ref o2), .val (.ref o3)] [(.ref o1), (.ref a1)])) tz → Steps p.tables e below (T38.setTop (mkF m 29 #[.val (.ref a1), .val (.ref o1), .val (.ref o2), .val (.ref o3)] [(.int (0 : Int32))])) tz := by
    intro tz kz
    refine XS.ifYes X38.here hx rfl (pc0 := 29) (pc' := 42) rfl (hb hby d6_29) rfl ((if0 _ _).trans (teq (by decide)).1) (by decide) (by decide) ?_
    show Steps p.tables e below (T38.setTop (mkF m 42 #[.val (.ref a1), .val (.ref o1), .val (.ref o2), .val (.ref o3)] [])) _
    refine XS.aloadN X38.here hx rfl (hb hby d6_42) rfl rfl ?_
    show Steps p.tables e below (T38.setTop (mkF m 43 #[.val (.ref a1), .val (.ref o1), .val (.ref o2), .val (.ref o3)] [(.ref a1)])) _
    refine XS.aloadN X38.here hx rfl (hb hby d6_43) rfl rfl ?_
    exact kz
  refine OGH.step s40 ?_
  obtain ⟨T41, h41, X41, e41, W41, st41⟩ := putF X38 hx hZ hown (host := "") (Or.inl (hw _ (List.mem_of_getElem? (i := 53) rfl))) Via.refl e38 f29 f28 (Or.inr ⟨(hw _ (List.mem_of_getElem? (i := 54) rfl)), rfl, hnm⟩) (hw _ (List.mem_of_getElem? (i := 1) rfl)) (ty := (.object "java/lang/String")) (by decide) rfl rfl (g := (mkF m 44 #[.val (.ref a1), .val (.ref o1), .val (.ref o2), .val (.ref o3)] [(.ref o1), (.ref a1)])) rfl rfl (hb hby d6_44)
  refine OGH.step st41 ?_
  have hC42 := hC27.trans (CHr.wr W41 (Safe.exa hZ.alike f28 (by decide) (by decide)) hC27.1)
  have fw41 := f29.same W41
  have f43 := f28.wr W41
  have f44 := f30.other W41 (Or.inr (slot_ne (Or.inr (hw _ (List.mem_of_getElem? (i := 56) rfl))) (Or.inr (hw _ (List.mem_of_getElem? (i := 54) rfl))) (by decide) (t := (.object "java/lang/String")) (t' := (.object "java/lang/String")) (by decide) (by decide)))
  have f45 := f31.other W41 (Or.inr (slot_ne (Or.inr (hw _ (List.mem_of_getElem? (i := 58) rfl))) (Or.inr (hw _ (List.mem_of_getElem? (i := 54) rfl))) (by decide) (t := (.object "java/lang/String")) (t' := (.object "java/lang/String")) (by decide) (by decide)))
  have f46 := f32.wr W41
  have f47 := f33.other W41 (Or.inl (Ne.symm ne_a1_o1))
  have f48 := f34.other W41 (Ne.symm ne_a1_b1)
  have K41 := K27.wr W41 (Or.inl (List.mem_of_getElem? (i := 0) rfl))
  have N41 := Fr.snoc X41 N38 g_a1
  have hk49 := Nat.le_trans hk27 (Keep.of_wr W41).1
  obtain ⟨Lz50, X41, N41⟩ : ∃ Lz, Stand p l e rom_6 (s.setVm T27.vm) m #[(.ref a1), (.ref o1), (.ref o2), (.ref o3)] below meth c T41 Lz 6 136 ∧ Fr n0 Lz := ⟨_, X41, N41⟩
  show OGH _ _ _ _ _ _ _ _ (T41.setTop (mkF m 47 #[.val (.ref a1), .val (.ref o1), .val (.ref o2), .val (.ref o3)] []))
  have s51 : ∀ tz, Steps p.tables e below (T41.setTop (mkF m 49 #[.val (.ref a1), .val (.ref o1), .val (.ref o2), .val (.ref o3)] [(.ref o2), (.ref a1)])) tz → Steps p.tables e below (T41.setTop (mkF m 47 #[.val (.ref a1), .val (.ref o1), .val (.ref o2), .val (.ref o3)] [])) tz := by
    intro tz kz
    refine XS.aloadN X41.here hx rfl (hb hby d6_47) rfl rfl ?_
    show Steps p.tables e below (T41.setTop (mkF m 48 #[.val (.ref a1), .val (.ref o1), .val (.ref o2), .val (.ref o3)] [(.ref a1)])) _
    refine XS.aloadN X41.here hx rfl (hb hby d6_48) rfl rfl ?_
    exact kz
  refine OGH.step s51 ?_
  obtain ⟨T52, h52, X52, e52, W52, st52⟩ := putF X41 hx hZ hown (host := "") (Or.inl (hw _ (List.mem_of_getElem? (i := 55) rfl))) Via.refl e41 f44 f43 (Or.inr ⟨(hw _ (List.mem_of_getElem? (i := 56) rfl)), rfl, hnm⟩) (hw _ (List.mem_of_getElem? (i := 1) rfl)) (ty := (.object "java/lang/String")) (by decide) rfl rfl (g := (mkF m 49 #[.val (.ref a1), .val (.ref o1), .val (.ref o2), .val (.ref o3)] [(.ref o2), (.ref a1)])) rfl rfl (hb hby d6_49)
  refine OGH.step st52 ?_
  have hC53 := hC42.trans (CHr.wr W52 (Safe.exa hZ.alike f43 (by decide) (by decide)) hC42.1)
  have fw52 := f44.same W52
  have f54 := f43.wr W52
  have f55 := f45.other W52 (Or.inr (slot_ne (Or.inr (hw _ (List.mem_of_getElem? (i := 58) rfl))) (Or.inr (hw _ (List.mem_of_getElem? (i := 56) rfl))) (by decide) (t := (.object "java/lang/String")) (t' := (.object "java/lang/String")) (by decide) (by decide)))
  have f56 := f46.wr W52
  have f57 := f47.other W52 (Or.inl (Ne.symm ne_a1_o1))
  have f58 := f48.other W52 (Ne.symm ne_a1_b1)
  have f59 := fw41.other W52 (Or.inr (slot_ne (Or.inr (hw _ (List.mem_of_getElem? (i := 54) rfl))) (Or.inr (hw _ (List.mem_of_getElem? (i := 56) rfl))) (by decide) (t := (.object "java/lang/String")) (t' := (.object "java/lang/String")) (by decide) (by decide)))
  have K52 := K41.wr W52 (Or.inl (List.mem_of_getElem? (i := 0) rfl))
  have N52 := Fr.snoc X52 N41 g_a1
  have hk60 := Nat.le_trans hk49 (Keep.of_wr W52).1
  obtain ⟨Lz61, X52, N52⟩ : ∃ Lz, Stand p l e rom_6 (s.setVm T27.vm) m #[(.ref a1), (.ref o1), (.ref o2), (.ref o3)] below meth c T52 Lz 6 136 ∧ Fr n0 Lz := ⟨_, X52, N52⟩
  show OGH _ _ _ _ _ _ _ _ (T52.setTop (mkF m 52 #[.val (.ref a1), .val (.ref o1), .val (.ref o2), .val (.ref o3)] []))
  have s62 : ∀ tz, Steps p.tables e below (T52.setTop (mkF m 54 #[.val (.ref a1), .val (.ref o1), .val (.ref o2), .val (.ref o3)] [(.ref o3), (.ref a1)])) tz → Steps p.tables e below (T52.setTop (mkF m 52 #[.val (.ref a1), .val (.ref o1), .val (.ref o2), .val (.ref o3)] [])) tz := by
    intro tz kz
    refine XS.aloadN X52.here hx rfl (hb hby d6_52) rfl rfl ?_
    show Steps p.tables e below (T52.setTop (mkF m 53 #[.val (.ref a1), .val (.ref o1), .val (.ref o2), .val (.ref o3)] [(.ref a1)])) _
    refine XS.aloadN X52.here hx rfl (hb hby d6_53) rfl rfl ?_
    exact kz
  refine OGH.step s62 ?_
  obtain ⟨T63, h63, X63, e63, W63, st63⟩ := putF X52 hx hZ hown (host := "") (Or.inl (hw _ (List.mem_of_getElem? (i := 57) rfl))) Via.refl e52 f55 f54 (Or.inr ⟨(hw _ (List.mem_of_getElem? (i := 58) rfl)), rfl, hnm⟩) (hw _ (List.mem_of_getElem? (i := 1) rfl)) (ty := (.object "java/lang/String")) (by decide) rfl rfl (g := (mkF m 54 #[.val (.ref a1), .val (.ref o1), .val (.ref o2), .val (.ref o3)] [(.ref o3), (.ref a1)])) rfl rfl (hb hby d6_54)
  refine OGH.step st63 ?_
  have hC64 := hC53.trans (CHr.wr W63 (Safe.exa hZ.alike f54 (by decide) (by decide)) hC53.1)
  have fw63 := f55.same W63
  have f65 := f54.wr W63
  have f66 := f56.wr W63
  have f67 := f57.other W63 (Or.inl (Ne.symm ne_a1_o1))
  have f68 := f58.other W63 (Ne.symm ne_a1_b1)
  have f69 := f59.other W63 (Or.inr (slot_ne (Or.inr (hw _ (List.mem_of_getElem? (i := 54) rfl))) (Or.inr (hw _ (List.mem_of_getElem? (i := 58) rfl))) (by decide) (t := (.object "java/lang/String")) (t' := (.object "java/lang/String")) (by decide) (by decide)))
  have f70 := fw52.other W63 (Or.inr (slot_ne (Or.inr (hw _ (List.mem_of_getElem? (i := 56) rfl))) (Or.inr (hw _ (List.mem_of_getElem? (i := 58) rfl))) (by decide) (t := (.object "java/lang/String")) (t' := (.object "java/lang/String")) (by decide) (by decide)))
  have K63 := K52.wr W63 (Or.inl (List.mem_of_getElem? (i := 0) rfl))
  have N63 := Fr.snoc X63 N52 g_a1
  have hk71 := Nat.le_trans hk60 (Keep.of_wr W63).1
  obtain ⟨Lz72, X63, N63⟩ : ∃ Lz, Stand p l e rom_6 (s.setVm T27.vm) m #[(.ref a1), (.ref o1), (.ref o2), (.ref o3)] below meth c T63 Lz 6 136 ∧ Fr n0 Lz := ⟨_, X63, N63⟩
  show OGH _ _ _ _ _ _ _ _ (T63.setTop (mkF m 57 #[.val (.ref a1), .val (.ref o1), .val (.ref o2), .val (.ref o3)] []))
  exact OGH.retV X63 hS27 hk71 hZ hEL hh hC64 hx hlk Bd.returns (hb hby d6_57) e63 ⟨rfl, N63, K63⟩ (by decide) (by decide)
theorem d10_0 : decode prog_84_method_1_code 0 = .ok (.aload_n 0, 1) := by decide +kernel
theorem d10_1 : decode prog_84_method_1_code 1 = .ok (.invokespecial 1, 3) := by decide +kernel
theorem d10_4 : decode prog_84_method_1_code 4 = .ok (.aload_n 1, 1) := by decide +kernel
theorem d10_5 : decode prog_84_method_1_code 5 = .ok (.ldc 7, 2) := by decide +kernel
theorem d10_7 : decode prog_84_method_1_code 7 = .ok (.invokestatic 9, 3) := by decide +kernel
theorem d10_10 : decode prog_84_method_1_code 10 = .ok (.pop, 1) := by decide +kernel
theorem d10_11 : decode prog_84_method_1_code 11 = .ok (.aload_n 0, 1) := by decide +kernel
theorem d10_12 : decode prog_84_method_1_code 12 = .ok (.aload_n 1, 1) := by decide +kernel
theorem d10_13 : decode prog_84_method_1_code 13 = .ok (.putfield 15, 3) := by decide +kernel
theorem d10_16 : decode prog_84_method_1_code 16 = .ok (.aload_n 0, 1) := by decide +kernel
theorem d10_17 : decode prog_84_method_1_code 17 = .ok (.aload_n 2, 1) := by decide +kernel
theorem d10_18 : decode prog_84_method_1_code 18 = .ok (.putfield 20, 3) := by decide +kernel
theorem d10_21 : decode prog_84_method_1_code 21 = .ok (.aload_n 0, 1) := by decide +kernel
theorem d10_22 : decode prog_84_method_1_code 22 = .ok (.aload_n 3, 1) := by decide +kernel
theorem d10_23 : decode prog_84_method_1_code 23 = .ok (.putfield 23, 3) := by decide +kernel
theorem d10_26 : decode prog_84_method_1_code 26 = .ok (.return_, 1) := by decide +kernel
theorem pn_com_example_mergeward_mergeward_core_RecordPath : plainName "com/example/mergeward/mergeward/core/RecordPath" = true := by first | (simp [plainName, overriddenIn]; done) | decide +kernel
theorem ef_10 (m : MethodId) (x0 : Addr) (x1 : Addr) (x2 : Value) (x3 : Value) (hx2 : x2.isRef = true) (hx3 : x3.isRef = true) : entryFrame m #[(.ref x0), (.ref x1), x2, x3] 4 = mkF m 0 #[.val (.ref x0), .val (.ref x1), .val x2, .val x3] [] := by
  rcases ref_cases hx2 with rfl | ⟨_, rfl⟩ <;> rcases ref_cases hx3 with rfl | ⟨_, rfl⟩ <;> rfl
def Q10 (Z : State) (a1 : Addr) (o1 : Addr) (v2 : Value) (v3 : Value) (u0 : Value) (u1 : Value) (u2 : Value) (h0 : Heap) (n0 : Nat) (v : Option Value) (h : Heap) (L : List Loc) : Prop := (v = none) ∧ (Fr n0 L) ∧ (Keep h0 h [a1]) ∧ (Fld Z h a1 "com/example/mergeward/mergeward/core/RecordPath" "account" "Lcom/example/mergeward/mergeward/core/Identifier;" v2) ∧ (Fld Z h a1 "com/example/mergeward/mergeward/core/RecordPath" "visit" "Lcom/example/mergeward/mergeward/core/Identifier;" v3)
abbrev rom_10 : Room := { frames := 2, cells := 2, slots := 32, locals := 24 }
set_option maxRecDepth 65536 in
set_option maxHeartbeats 40000000 in
theorem rm10 (l : Launch) (Z : State) (a0 : Array Value) (hw : ∀ d ∈ tables_1, d.before a0 Z = true) (ws : List Jvm.Cond) (a1 : Addr) (o1 : Addr) (v2 : Value) (v3 : Value) (u0 : Value) (u1 : Value) (u2 : Value) (h0 : Heap) (n0 : Nat) (Z0 : n0 ≤ h0.size) (F0_a1 : Exa Z h0 a1 "com/example/mergeward/mergeward/core/RecordPath") (F1_a1_patient : Fld Z h0 a1 "com/example/mergeward/mergeward/core/RecordPath" "patient" "Lcom/example/mergeward/mergeward/core/Identifier;" u0) (F2_a1_account : Fld Z h0 a1 "com/example/mergeward/mergeward/core/RecordPath" "account" "Lcom/example/mergeward/mergeward/core/Identifier;" u1) (F3_a1_visit : Fld Z h0 a1 "com/example/mergeward/mergeward/core/RecordPath" "visit" "Lcom/example/mergeward/mergeward/core/Identifier;" u2) (g_a1 : n0 ≤ a1) (hr2 : v2.isRef = true) (hr3 : v3.isRef = true) :
    MetFree l (⟨"com/example/mergeward/mergeward/core/RecordPath", "<init>", "(Lcom/example/mergeward/mergeward/core/Identifier;Lcom/example/mergeward/mergeward/core/Identifier;Lcom/example/mergeward/mergeward/core/Identifier;)V"⟩ : MethodName) (head1 (Jvm.Cond.code (⟨"com/example/mergeward/mergeward/core/RecordPath", "<init>", "(Lcom/example/mergeward/mergeward/core/Identifier;Lcom/example/mergeward/mergeward/core/Identifier;Lcom/example/mergeward/mergeward/core/Identifier;)V"⟩ : MethodName) prog_84_method_1_code 4 none :: ws) rom_10) (fun a U => a = #[(.ref a1), (.ref o1), v2, v3] ∧ Z.Warmed39 U.vm ∧ U.heap = h0 ∧ CHv Z own_EL U.vm h0) (fun _ _ _ _ _ => True) (fun _ U o U' => ∃ v L, o = .returned v ∧ Q10 Z a1 o1 v2 v3 u0 u1 u2 h0 n0 v U'.heap L ∧ CHr Z own_EL U.vm U.heap U'.vm U'.heap ∧ ReturnedEndW U o U' L rom_10.cells rom_10.slots) := by
  refine MetFree.of_bodySF (plainFor_of_name pn_com_example_mergeward_mergeward_core_RecordPath) hisR ?_
  intro p e s m args below meth c s₁ Bd hml0 hP hK
  obtain ⟨rfl, hZ, hh, hH0⟩ := hP
  have hx := Bd.exec
  have hby := Bd.bytes
  have hlk := Bd.notSynchronized
  have hml : c.maxLocals = 4 := hml0
  have hown : s.vm.findClass "com/example/mergeward/mergeward/core/RecordPath" = some m.cls := findClass_of_methodNamed Bd.named
  have hnm := (name_of_methodNamed Bd.named Bd.method).1
  have X0s : Stand p l e rom_10 s m #[(.ref a1), (.ref o1), v2, v3] below meth c s₁ [] 0 0 := Stand.of_body Bd
  have X0 : Stand p l e rom_10 (s.setVm s.vm) m #[(.ref a1), (.ref o1), v2, v3] below meth c s₁ [] 0 0 := X0s
  have hS0 : s.Since s.vm 0 := (State.WarmedH.refl s).since 0
  have hk0 : 0 ≤ h0.size := Nat.zero_le _
  have wS := own_wS hw
  have hC0 : CHr Z own_EL s.vm h0 s.vm h0 := CHr.refl hH0
  have hEL : EW Z a0 own_EL := own_EW hw
  have e0 : s₁.heap = h0 := by rw [← hh, Bd.state]; rfl
  have N0 := Fr.nil n0
  have K0 : Keep h0 h0 [a1] := Keep.refl _ _
  refine (?_ : OGH p e below s Z (Q10 Z a1 o1 v2 v3 u0 u1 u2 h0 n0) rom_10.cells rom_10.slots _)
  rw [ef_10 m a1 o1 v2 v3 hr2 hr3]
  have s1 : ∀ tz, Steps p.tables e below (s₁.setTop (mkF m 1 #[.val (.ref a1), .val (.ref o1), .val v2, .val v3] [(.ref a1)])) tz → Steps p.tables e below (s₁.setTop (mkF m 0 #[.val (.ref a1), .val (.ref o1), .val v2, .val v3] [])) tz := by
    intro tz kz
    refine XS.aloadN X0.here hx rfl (hb hby d10_0) rfl rfl ?_
    exact kz
  refine OGH.step s1 ?_
  obtain ⟨_, _, ⟨T2, L2, k2, n2⟩, -, X2, ⟨Lc2, hQ2, l2, y2, z2⟩, st2⟩ := X0.specialBack hx (y := (⟨"java/lang/Record", "<init>", "()V"⟩ : MethodName)) rfl hown (mvT hZ (hw _ (List.mem_of_getElem? (i := 65) rfl))) (mvT hZ (hw _ (List.mem_of_getElem? (i := 36) rfl))) (mvT hZ (hw _ (List.mem_of_getElem? (i := 39) rfl))) (by decide) (backOf (W := 0) (rm7 l Z a0 hw [] a1 h0 n0 (Nat.le_trans Z0 K0.1)) hZ (hw _ (List.mem_of_getElem? (i := 39) rfl)) (hw _ (List.mem_of_getElem? (i := 38) rfl)) (by decide) (by decide)) (g := (mkF m 1 #[.val (.ref a1), .val (.ref o1), .val v2, .val v3] [(.ref a1)])) rfl (by rw [hml]; rfl) (Steps.refl _) (a := a1) (argsL := []) (rest := []) (lenOf pd___V rfl) rfl (by show 2 * 0 + _ ≤ _; exact Nat.le_of_eq rfl) (hb hby d10_1) (fun _ _ => ⟨rfl, e0, (by decide : 0 + 0 ≤ _), (by decide : 0 + 0 ≤ _)⟩)
  dsimp only [Pt.U, Pt.locs, Pt.cells, Pt.slots] at X2 l2 y2 z2 st2 hQ2
  subst l2 y2 z2
  obtain ⟨rfl, N2q, e2⟩ := hQ2
  have N2 := Fr.app N0 N2q
  refine OGH.step (fun tz kz => st2.trans kz) ?_
  obtain ⟨Lz3, X2, N2⟩ : ∃ Lz, Stand p l e rom_10 (s.setVm s.vm) m #[(.ref a1), (.ref o1), v2, v3] below meth c T2 Lz 0 0 ∧ Fr n0 Lz := ⟨_, X2, N2⟩
  show OGH _ _ _ _ _ _ _ _ (T2.setTop (mkF m 4 #[.val (.ref a1), .val (.ref o1), .val v2, .val v3] []))
  have s4 : ∀ tz, Steps p.tables e below (T2.setTop (mkF m 5 #[.val (.ref a1), .val (.ref o1), .val v2, .val v3] [(.ref o1)])) tz → Steps p.tables e below (T2.setTop (mkF m 4 #[.val (.ref a1), .val (.ref o1), .val v2, .val v3] [])) tz := by
    intro tz kz
    refine XS.aloadN X2.here hx rfl (hb hby d10_4) rfl rfl ?_
    exact kz
  refine OGH.step s4 ?_
  obtain ⟨a5, T5, h5, k5, X5, e5, E5, hS5, hk5, hZ, hown, hD5, -, st5⟩ := ldcOH X2 hx hZ hown (hw _ (List.mem_of_getElem? (i := 66) rfl)) wS e2 hS0 hk0 hEL hC0.1 (g := (mkF m 5 #[.val (.ref a1), .val (.ref o1), .val v2, .val v3] [(.ref o1)])) rfl (hb hby d10_5) (n := 28) (by first | decide | decide +kernel) (by decide) (by decide) (by decide)
  refine OGH.step st5 ?_
  have f6 := F0_a1.ext E5
  have f7 := F1_a1_patient.ext E5
  have f8 := F2_a1_account.ext E5
  have f9 := F3_a1_visit.ext E5
  have K5 := K0.ext E5
  have hC5 := hC0.trans hD5
  show OGH _ _ _ _ _ _ _ _ (T5.setTop (mkF m 7 #[.val (.ref a1), .val (.ref o1), .val v2, .val v3] [(.ref a5), (.ref o1)]))
  obtain ⟨_, _, ⟨T10, L10, k10, n10⟩, -, X10, ⟨Lc10, hQ10, l10, y10, z10⟩, st10⟩ := Jvm.LawKit.callS X5 hx (y := (⟨"java/util/Objects", "requireNonNull", "(Ljava/lang/Object;Ljava/lang/String;)Ljava/lang/Object;"⟩ : MethodName)) hown (mvT hZ (hw _ (List.mem_of_getElem? (i := 67) rfl))) (mvT hZ (hw _ (List.mem_of_getElem? (i := 43) rfl))) (mvT hZ (hw _ (List.mem_of_getElem? (i := 44) rfl))) (mvT hZ (hw _ (List.mem_of_getElem? (i := 45) rfl))) (by decide) (backOf (W := 0) (rm8 l Z a0 hw [] o1 a5 h5 n0 (Nat.le_trans Z0 K5.1)) hZ (hw _ (List.mem_of_getElem? (i := 45) rfl)) (hw _ (List.mem_of_getElem? (i := 44) rfl)) (by decide) (by decide)) (g := (mkF m 7 #[.val (.ref a1), .val (.ref o1), .val v2, .val v3] [(.ref a5), (.ref o1)])) rfl (by rw [hml]; rfl) (argsL := [(.ref o1), (.ref a5)]) (rest := []) (lenOf pd__Ljava_lang_Object_Ljava_lang_String__Ljava_lang_Object_ rfl) rfl (by show 2 * 0 + _ ≤ _; exact Nat.le_of_eq rfl) (hb hby d10_7) (fun _ _ => ⟨rfl, e5, (by decide : 2 + 0 ≤ _), (by decide : 32 + 0 ≤ _)⟩)
  dsimp only [Pt.U, Pt.locs, Pt.cells, Pt.slots] at X10 l10 y10 z10 st10 hQ10
  subst l10 y10 z10
  obtain ⟨rfl, N10q, e10⟩ := hQ10
  have N10 := Fr.app N2 N10q
  refine OGH.step st10 ?_
  obtain ⟨Lz11, X10, N10⟩ : ∃ Lz, Stand p l e rom_10 (s.setVm T5.vm) m #[(.ref a1), (.ref o1), v2, v3] below meth c T10 Lz 2 32 ∧ Fr n0 Lz := ⟨_, X10, N10⟩
  show OGH _ _ _ _ _ _ _ _ (T10.setTop (mkF m 10 #[.val (.ref a1), .val (.ref o1), .val v2, .val v3] [(.ref o1)]))
  have s12 : ∀ tz, Steps p.tables e below (T10.setTop (mkF m 13 #[.val (.ref a1), .val (.ref o1), .val v2, .val v3] [(.ref o1), (.ref a1)])) tz → Steps p.tables e below (T10.setTop (mkF m 10 #[.val (.ref a1), .val (.ref o1), .val v2, .val v3] [(.ref o1)])) tz := by
    intro tz kz
    refine XS.pop X10.here hx rfl (hb hby d10_10) rfl rfl ?_
    show Steps p.tables e below (T10.setTop (mkF m 11 #[.val (.ref a1), .val (.ref o1), .val v2, .val v3] [])) _
    refine XS.aloadN X10.here hx rfl (hb hby d10_11) rfl rfl ?_
    show Steps p.tables e below (T10.setTop (mkF m 12 #[.val (.ref a1), .val (.ref o1), .val v2, .val v3] [(.ref a1)])) _
    refine XS.aloadN X10.here hx rfl (hb hby d10_12) rfl rfl ?_
    exact kz
  refine OGH.step s12 ?_
  obtain ⟨T13, h13, X13, e13, W13, st13⟩ := putF X10 hx hZ hown (host := "") (Or.inl (hw _ (List.mem_of_getElem? (i := 68) rfl))) Via.refl e10 f7 f6 (Or.inr ⟨(hw _ (List.mem_of_getElem? (i := 69) rfl)), rfl, hnm⟩) (hw _ (List.mem_of_getElem? (i := 60) rfl)) (ty := (.object "com/example/mergeward/mergeward/core/Identifier")) (by decide) rfl rfl (g := (mkF m 13 #[.val (.ref a1), .val (.ref o1), .val v2, .val v3] [(.ref o1), (.ref a1)])) rfl rfl (hb hby d10_13)
  refine OGH.step st13 ?_
  have hC14 := hC5.trans (CHr.wr W13 (Safe.exa hZ.alike f6 (by decide) (by decide)) hC5.1)
  have fw13 := f7.same W13
  have f15 := f6.wr W13
  have f16 := f8.other W13 (Or.inr (slot_ne (Or.inr (hw _ (List.mem_of_getElem? (i := 71) rfl))) (Or.inr (hw _ (List.mem_of_getElem? (i := 69) rfl))) (by decide) (t := (.object "com/example/mergeward/mergeward/core/Identifier")) (t' := (.object "com/example/mergeward/mergeward/core/Identifier")) (by decide) (by decide)))
  have f17 := f9.other W13 (Or.inr (slot_ne (Or.inr (hw _ (List.mem_of_getElem? (i := 73) rfl))) (Or.inr (hw _ (List.mem_of_getElem? (i := 69) rfl))) (by decide) (t := (.object "com/example/mergeward/mergeward/core/Identifier")) (t' := (.object "com/example/mergeward/mergeward/core/Identifier")) (by decide) (by decide)))
  have K13 := K5.wr W13 (Or.inl (List.mem_of_getElem? (i := 0) rfl))
  have N13 := Fr.snoc X13 N10 g_a1
  have hk18 := Nat.le_trans hk5 (Keep.of_wr W13).1
  obtain ⟨Lz19, X13, N13⟩ : ∃ Lz, Stand p l e rom_10 (s.setVm T5.vm) m #[(.ref a1), (.ref o1), v2, v3] below meth c T13 Lz 2 32 ∧ Fr n0 Lz := ⟨_, X13, N13⟩
  show OGH _ _ _ _ _ _ _ _ (T13.setTop (mkF m 16 #[.val (.ref a1), .val (.ref o1), .val v2, .val v3] []))
  have s20 : ∀ tz, Steps p.tables e below (T13.setTop (mkF m 18 #[.val (.ref a1), .val (.ref o1), .val v2, .val v3] [v2, (.ref a1)])) tz → Steps p.tables e below (T13.setTop (mkF m 16 #[.val (.ref a1), .val (.ref o1), .val v2, .val v3] [])) tz := by
    intro tz kz
    refine XS.aloadN X13.here hx rfl (hb hby d10_16) rfl rfl ?_
    show Steps p.tables e below (T13.setTop (mkF m 17 #[.val (.ref a1), .val (.ref o1), .val v2, .val v3] [(.ref a1)])) _
    refine XS.aloadN X13.here hx rfl (hb hby d10_17) rfl hr2 ?_
    exact kz
  refine OGH.step s20 ?_
  obtain ⟨T21, h21, X21, e21, W21, st21⟩ := putF X13 hx hZ hown (host := "") (Or.inl (hw _ (List.mem_of_getElem? (i := 70) rfl))) Via.refl e13 f16 f15 (Or.inr ⟨(hw _ (List.mem_of_getElem? (i := 71) rfl)), rfl, hnm⟩) (hw _ (List.mem_of_getElem? (i := 60) rfl)) (ty := (.object "com/example/mergeward/mergeward/core/Identifier")) (by decide) own_narR (own_fitR hr2) (g := (mkF m 18 #[.val (.ref a1), .val (.ref o1), .val v2, .val v3] [v2, (.ref a1)])) rfl rfl (hb hby d10_18)
  refine OGH.step st21 ?_
  have hC22 := hC14.trans (CHr.wr W21 (Safe.exa hZ.alike f15 (by decide) (by decide)) hC14.1)
  have fw21 := f16.same W21
  have f23 := f15.wr W21
  have f24 := f17.other W21 (Or.inr (slot_ne (Or.inr (hw _ (List.mem_of_getElem? (i := 73) rfl))) (Or.inr (hw _ (List.mem_of_getElem? (i := 71) rfl))) (by decide) (t := (.object "com/example/mergeward/mergeward/core/Identifier")) (t' := (.object "com/example/mergeward/mergeward/core/Identifier")) (by decide) (by decide)))
  have f25 := fw13.other W21 (Or.inr (slot_ne (Or.inr (hw _ (List.mem_of_getElem? (i := 69) rfl))) (Or.inr (hw _ (List.mem_of_getElem? (i := 71) rfl))) (by decide) (t := (.object "com/example/mergeward/mergeward/core/Identifier")) (t' := (.object "com/example/mergeward/mergeward/core/Identifier")) (by decide) (by decide)))
  have K21 := K13.wr W21 (Or.inl (List.mem_of_getElem? (i := 0) rfl))
  have N21 := Fr.snoc X21 N13 g_a1
  have hk26 := Nat.le_trans hk18 (Keep.of_wr W21).1
  obtain ⟨Lz27, X21, N21⟩ : ∃ Lz, Stand p l e rom_10 (s.setVm T5.vm) m #[(.ref a1), (.ref o1), v2, v3] below meth c T21 Lz 2 32 ∧ Fr n0 Lz := ⟨_, X21, N21⟩
  show OGH _ _ _ _ _ _ _ _ (T21.setTop (mkF m 21 #[.val (.ref a1), .val (.ref o1), .val v2, .val v3] []))
  have s28 : ∀ tz, Steps p.tables e below (T21.setTop (mkF m 23 #[.val (.ref a1), .val (.ref o1), .val v2, .val v3] [v3, (.ref a1)])) tz → Steps p.tables e below (T21.setTop (mkF m 21 #[.val (.ref a1), .val (.ref o1), .val v2, .val v3] [])) tz := by
    intro tz kz
    refine XS.aloadN X21.here hx rfl (hb hby d10_21) rfl rfl ?_
    show Steps p.tables e below (T21.setTop (mkF m 22 #[.val (.ref a1), .val (.ref o1), .val v2, .val v3] [(.ref a1)])) _
    refine XS.aloadN X21.here hx rfl (hb hby d10_22) rfl hr3 ?_
    exact kz
  refine OGH.step s28 ?_
  obtain ⟨T29, h29, X29, e29, W29, st29⟩ := putF X21 hx hZ hown (host := "") (Or.inl (hw _ (List.mem_of_getElem? (i := 72) rfl))) Via.refl e21 f24 f23 (Or.inr ⟨(hw _ (List.mem_of_getElem? (i := 73) rfl)), rfl, hnm⟩) (hw _ (List.mem_of_getElem? (i := 60) rfl)) (ty := (.object "com/example/mergeward/mergeward/core/Identifier")) (by decide) own_narR (own_fitR hr3) (g := (mkF m 23 #[.val (.ref a1), .val (.ref o1), .val v2, .val v3] [v3, (.ref a1)])) rfl rfl (hb hby d10_23)
  refine OGH.step st29 ?_
  have hC30 := hC22.trans (CHr.wr W29 (Safe.exa hZ.alike f23 (by decide) (by decide)) hC22.1)
  have fw29 := f24.same W29
  have f31 := f23.wr W29
  have f32 := f25.other W29 (Or.inr (slot_ne (Or.inr (hw _ (List.mem_of_getElem? (i := 69) rfl))) (Or.inr (hw _ (List.mem_of_getElem? (i := 73) rfl))) (by decide) (t := (.object "com/example/mergeward/mergeward/core/Identifier")) (t' := (.object "com/example/mergeward/mergeward/core/Identifier")) (by decide) (by decide)))
  have f33 := fw21.other W29 (Or.inr (slot_ne (Or.inr (hw _ (List.mem_of_getElem? (i := 71) rfl))) (Or.inr (hw _ (List.mem_of_getElem? (i := 73) rfl))) (by decide) (t := (.object "com/example/mergeward/mergeward/core/Identifier")) (t' := (.object "com/example/mergeward/mergeward/core/Identifier")) (by decide) (by decide)))
  have K29 := K21.wr W29 (Or.inl (List.mem_of_getElem? (i := 0) rfl))
  have N29 := Fr.snoc X29 N21 g_a1
  have hk34 := Nat.le_trans hk26 (Keep.of_wr W29).1
  obtain ⟨Lz35, X29, N29⟩ : ∃ Lz, Stand p l e rom_10 (s.setVm T5.vm) m #[(.ref a1), (.ref o1), v2, v3] below meth c T29 Lz 2 32 ∧ Fr n0 Lz := ⟨_, X29, N29⟩
  show OGH _ _ _ _ _ _ _ _ (T29.setTop (mkF m 26 #[.val (.ref a1), .val (.ref o1), .val v2, .val v3] []))
  exact OGH.retV X29 hS5 hk34 hZ hEL hh hC30 hx hlk Bd.returns (hb hby d10_26) e29 ⟨rfl, N29, K29, f33, fw29⟩ (by decide) (by decide)
theorem d14_0 : decode prog_84_method_6_code 0 = .ok (.aload_n 0, 1) := by decide +kernel
theorem d14_1 : decode prog_84_method_6_code 1 = .ok (.getfield 23, 3) := by decide +kernel
theorem d14_4 : decode prog_84_method_6_code 4 = .ok (.ifnonnull 7, 3) := by decide +kernel
theorem d14_7 : decode prog_84_method_6_code 7 = .ok (.iconst 1, 1) := by decide +kernel
theorem d14_8 : decode prog_84_method_6_code 8 = .ok (.goto 4, 3) := by decide +kernel
theorem d14_11 : decode prog_84_method_6_code 11 = .ok (.iconst 0, 1) := by decide +kernel
theorem d14_12 : decode prog_84_method_6_code 12 = .ok (.aload_n 1, 1) := by decide +kernel
theorem d14_13 : decode prog_84_method_6_code 13 = .ok (.getfield 23, 3) := by decide +kernel
theorem d14_16 : decode prog_84_method_6_code 16 = .ok (.ifnonnull 7, 3) := by decide +kernel
theorem d14_19 : decode prog_84_method_6_code 19 = .ok (.iconst 1, 1) := by decide +kernel
theorem d14_20 : decode prog_84_method_6_code 20 = .ok (.goto 4, 3) := by decide +kernel
theorem d14_23 : decode prog_84_method_6_code 23 = .ok (.iconst 0, 1) := by decide +kernel
theorem d14_24 : decode prog_84_method_6_code 24 = .ok (.if_icmp .ne 41, 3) := by decide +kernel
theorem d14_27 : decode prog_84_method_6_code 27 = .ok (.aload_n 0, 1) := by decide +kernel
theorem d14_28 : decode prog_84_method_6_code 28 = .ok (.getfield 23, 3) := by decide +kernel
theorem d14_31 : decode prog_84_method_6_code 31 = .ok (.ifnonnull 30, 3) := by decide +kernel
theorem d14_34 : decode prog_84_method_6_code 34 = .ok (.aload_n 0, 1) := by decide +kernel
theorem d14_35 : decode prog_84_method_6_code 35 = .ok (.getfield 20, 3) := by decide +kernel
theorem d14_38 : decode prog_84_method_6_code 38 = .ok (.ifnonnull 7, 3) := by decide +kernel
theorem d14_41 : decode prog_84_method_6_code 41 = .ok (.iconst 1, 1) := by decide +kernel
theorem d14_42 : decode prog_84_method_6_code 42 = .ok (.goto 4, 3) := by decide +kernel
theorem d14_45 : decode prog_84_method_6_code 45 = .ok (.iconst 0, 1) := by decide +kernel
theorem d14_46 : decode prog_84_method_6_code 46 = .ok (.aload_n 1, 1) := by decide +kernel
theorem d14_47 : decode prog_84_method_6_code 47 = .ok (.getfield 20, 3) := by decide +kernel
theorem d14_50 : decode prog_84_method_6_code 50 = .ok (.ifnonnull 7, 3) := by decide +kernel
theorem d14_53 : decode prog_84_method_6_code 53 = .ok (.iconst 1, 1) := by decide +kernel
theorem d14_54 : decode prog_84_method_6_code 54 = .ok (.goto 4, 3) := by decide +kernel
theorem d14_57 : decode prog_84_method_6_code 57 = .ok (.iconst 0, 1) := by decide +kernel
theorem d14_58 : decode prog_84_method_6_code 58 = .ok (.if_icmp .ne 7, 3) := by decide +kernel
theorem d14_61 : decode prog_84_method_6_code 61 = .ok (.iconst 1, 1) := by decide +kernel
theorem d14_62 : decode prog_84_method_6_code 62 = .ok (.goto 4, 3) := by decide +kernel
theorem d14_65 : decode prog_84_method_6_code 65 = .ok (.iconst 0, 1) := by decide +kernel
theorem d14_66 : decode prog_84_method_6_code 66 = .ok (.ireturn, 1) := by decide +kernel
theorem ef_14 (m : MethodId) (x0 : Addr) (x1 : Addr) : entryFrame m #[(.ref x0), (.ref x1)] 2 = mkF m 0 #[.val (.ref x0), .val (.ref x1)] [] := by first | (simp [entryFrame, mkF, argsToLocals, Value.category]; done) | rfl
def Q14 (Z : State) (a1 : Addr) (a2 : Addr) (vv1 : Value) (va1 : Value) (vv2 : Value) (va2 : Value) (h0 : Heap) (n0 : Nat) (v : Option Value) (h : Heap) (L : List Loc) : Prop := (v = some (.int (bI (own_sl vv1 va1 vv2 va2 = true)))) ∧ (Fr n0 L) ∧ (h = h0)
abbrev rom_14 : Room := { frames := 0, cells := 0, slots := 0, locals := 0 }
set_option maxRecDepth 65536 in
set_option maxHeartbeats 40000000 in
theorem rm14 (l : Launch) (Z : State) (a0 : Array Value) (hw : ∀ d ∈ tables_1, d.before a0 Z = true) (ws : List Jvm.Cond) (a1 : Addr) (a2 : Addr) (vv1 : Value) (va1 : Value) (vv2 : Value) (va2 : Value) (h0 : Heap) (n0 : Nat) (Z0 : n0 ≤ h0.size) (F0_a1_visit : Fld Z h0 a1 "com/example/mergeward/mergeward/core/RecordPath" "visit" "Lcom/example/mergeward/mergeward/core/Identifier;" vv1) (F1_a1_account : Fld Z h0 a1 "com/example/mergeward/mergeward/core/RecordPath" "account" "Lcom/example/mergeward/mergeward/core/Identifier;" va1) (F2_a2_visit : Fld Z h0 a2 "com/example/mergeward/mergeward/core/RecordPath" "visit" "Lcom/example/mergeward/mergeward/core/Identifier;" vv2) (F3_a2_account : Fld Z h0 a2 "com/example/mergeward/mergeward/core/RecordPath" "account" "Lcom/example/mergeward/mergeward/core/Identifier;" va2) (h1 : own_ir vv1) (h2 : own_ir va1) (h3 : own_ir vv2) (h4 : own_ir va2) :
    MetFree l (⟨"com/example/mergeward/mergeward/core/RecordPath", "sameLevelAs", "(Lcom/example/mergeward/mergeward/core/RecordPath;)Z"⟩ : MethodName) (head1 (Jvm.Cond.code (⟨"com/example/mergeward/mergeward/core/RecordPath", "sameLevelAs", "(Lcom/example/mergeward/mergeward/core/RecordPath;)Z"⟩ : MethodName) prog_84_method_6_code 2 (some .boolean) :: ws) rom_14) (fun a U => a = #[(.ref a1), (.ref a2)] ∧ Z.Warmed39 U.vm ∧ U.heap = h0) (fun _ _ _ _ _ => True) (fun _ U o U' => ∃ v L, o = .returned v ∧ Q14 Z a1 a2 vv1 va1 vv2 va2 h0 n0 v U'.heap L ∧ FrameEnd U o U' L rom_14.cells rom_14.slots) := by
  refine MetFree.of_bodySF (plainFor_of_name pn_com_example_mergeward_mergeward_core_RecordPath) hisR ?_
  intro p e s m args below meth c s₁ Bd hml0 hP hK
  obtain ⟨rfl, hZ, hh⟩ := hP
  have hx := Bd.exec
  have hby := Bd.bytes
  have hlk := Bd.notSynchronized
  have hml : c.maxLocals = 2 := hml0
  have hown : s.vm.findClass "com/example/mergeward/mergeward/core/RecordPath" = some m.cls := findClass_of_methodNamed Bd.named
  have hnm := (name_of_methodNamed Bd.named Bd.method).1
  have X0 : Stand p l e rom_14 s m #[(.ref a1), (.ref a2)] below meth c s₁ [] 0 0 := Stand.of_body Bd
  have e0 : s₁.heap = h0 := by rw [← hh, Bd.state]; rfl
  have N0 := Fr.nil n0
  have K0 : Keep h0 h0 [] := Keep.refl _ _
  refine (?_ : OG p e below s (Q14 Z a1 a2 vv1 va1 vv2 va2 h0 n0) rom_14.cells rom_14.slots _)
  rw [ef_14]
  have s1 : ∀ tz, Steps p.tables e below (s₁.setTop (mkF m 1 #[.val (.ref a1), .val (.ref a2)] [(.ref a1)])) tz → Steps p.tables e below (s₁.setTop (mkF m 0 #[.val (.ref a1), .val (.ref a2)] [])) tz := by
    intro tz kz
    refine XS.aloadN X0.here hx rfl (hb hby d14_0) rfl rfl ?_
    exact kz
  refine OG.step s1 ?_
  obtain ⟨T2, X2, e2, st2⟩ := getF X0 hx hZ hown (host := "") (Or.inl (hw _ (List.mem_of_getElem? (i := 72) rfl))) Via.refl e0 F0_a1_visit (g := (mkF m 1 #[.val (.ref a1), .val (.ref a2)] [(.ref a1)])) rfl rfl (hb hby d14_1)
  refine OG.step st2 ?_
  show OG _ _ _ _ _ _ _ (T2.setTop (mkF m 4 #[.val (.ref a1), .val (.ref a2)] [vv1]))
  rcases h1 with hz3 | ⟨rf3, hz3⟩
  · subst hz3
    have s4 : ∀ tz, Steps p.tables e below (T2.setTop (mkF m 13 #[.val (.ref a1), .val (.ref a2)] [(.ref a2), (.int (1 : Int32))])) tz → Steps p.tables e below (T2.setTop (mkF m 4 #[.val (.ref a1), .val (.ref a2)] [.null])) tz := by
      intro tz kz
      refine XS.ifnonnullNo X2.here hx rfl (hb hby d14_4) rfl ?_
      show Steps p.tables e below (T2.setTop (mkF m 7 #[.val (.ref a1), .val (.ref a2)] [])) _
      refine XS.iconst X2.here hx rfl (hb hby d14_7) ?_
      show Steps p.tables e below (T2.setTop (mkF m 8 #[.val (.ref a1), .val (.ref a2)] [(.int (1 : Int32))])) _
      refine XS.goto X2.here hx rfl (pc0 := 8) (pc' := 12) rfl (hb hby d14_8) (by decide) (by decide) ?_
      show Steps p.tables e below (T2.setTop (mkF m 12 #[.val (.ref a1), .val (.ref a2)] [(.int (1 : Int32))])) _
      refine XS.aloadN X2.here hx rfl (hb hby d14_12) rfl rfl ?_
      exact kz
    refine OG.step s4 ?_
    obtain ⟨T5, X5, e5, st5⟩ := getF X2 hx hZ hown (host := "") (Or.inl (hw _ (List.mem_of_getElem? (i := 72) rfl))) Via.refl e2 F2_a2_visit (g := (mkF m 13 #[.val (.ref a1), .val (.ref a2)] [(.ref a2), (.int (1 : Int32))])) rfl rfl (hb hby d14_13)
    refine OG.step st5 ?_
    show OG _ _ _ _ _ _ _ (T5.setTop (mkF m 16 #[.val (.ref a1), .val (.ref a2)] [vv2, (.int (1 : Int32))]))
    rcases h3 with hz6 | ⟨rf6, hz6⟩
    · subst hz6
      have s7 : ∀ tz, Steps p.tables e below (T5.setTop (mkF m 28 #[.val (.ref a1), .val (.ref a2)] [(.ref a1)])) tz → Steps p.tables e below (T5.setTop (mkF m 16 #[.val (.ref a1), .val (.ref a2)] [.null, (.int (1 : Int32))])) tz := by
        intro tz kz
        refine XS.ifnonnullNo X5.here hx rfl (hb hby d14_16) rfl ?_
        show Steps p.tables e below (T5.setTop (mkF m 19 #[.val (.ref a1), .val (.ref a2)] [(.int (1 : Int32))])) _
        refine XS.iconst X5.here hx rfl (hb hby d14_19) ?_
        show Steps p.tables e below (T5.setTop (mkF m 20 #[.val (.ref a1), .val (.ref a2)] [(.int (1 : Int32)), (.int (1 : Int32))])) _
        refine XS.goto X5.here hx rfl (pc0 := 20) (pc' := 24) rfl (hb hby d14_20) (by decide) (by decide) ?_
        show Steps p.tables e below (T5.setTop (mkF m 24 #[.val (.ref a1), .val (.ref a2)] [(.int (1 : Int32)), (.int (1 : Int32))])) _
        refine XS.icmpNo X5.here hx rfl (hb hby d14_24) rfl (teq (by decide)).2 ?_
        show Steps p.tables e below (T5.setTop (mkF m 27 #[.val (.ref a1), .val (.ref a2)] [])) _
        refine XS.aloadN X5.here hx rfl (hb hby d14_27) rfl rfl ?_
        exact kz
      refine OG.step s7 ?_
      obtain ⟨T8, X8, e8, st8⟩ := getF X5 hx hZ hown (host := "") (Or.inl (hw _ (List.mem_of_getElem? (i := 72) rfl))) Via.refl e5 F0_a1_visit (g := (mkF m 28 #[.val (.ref a1), .val (.ref a2)] [(.ref a1)])) rfl rfl (hb hby d14_28)
      refine OG.step st8 ?_
      show OG _ _ _ _ _ _ _ (T8.setTop (mkF m 31 #[.val (.ref a1), .val (.ref a2)] [.null]))
      have s9 : ∀ tz, Steps p.tables e below (T8.setTop (mkF m 35 #[.val (.ref a1), .val (.ref a2)] [(.ref a1)])) tz → Steps p.tables e below (T8.setTop (mkF m 31 #[.val (.ref a1), .val (.ref a2)] [.null])) tz := by
        intro tz kz
        refine XS.ifnonnullNo X8.here hx rfl (hb hby d14_31) rfl ?_
        show Steps p.tables e below (T8.setTop (mkF m 34 #[.val (.ref a1), .val (.ref a2)] [])) _
        refine XS.aloadN X8.here hx rfl (hb hby d14_34) rfl rfl ?_
        exact kz
      refine OG.step s9 ?_
      obtain ⟨T10, X10, e10, st10⟩ := getF X8 hx hZ hown (host := "") (Or.inl (hw _ (List.mem_of_getElem? (i := 70) rfl))) Via.refl e8 F1_a1_account (g := (mkF m 35 #[.val (.ref a1), .val (.ref a2)] [(.ref a1)])) rfl rfl (hb hby d14_35)
      refine OG.step st10 ?_
      show OG _ _ _ _ _ _ _ (T10.setTop (mkF m 38 #[.val (.ref a1), .val (.ref a2)] [va1]))
      rcases h2 with hz11 | ⟨rf11, hz11⟩
      · subst hz11
        have s12 : ∀ tz, Steps p.tables e below (T10.setTop (mkF m 47 #[.val (.ref a1), .val (.ref a2)] [(.ref a2), (.int (1 : Int32))])) tz → Steps p.tables e below (T10.setTop (mkF m 38 #[.val (.ref a1), .val (.ref a2)] [.null])) tz := by
          intro tz kz
          refine XS.ifnonnullNo X10.here hx rfl (hb hby d14_38) rfl ?_
          show Steps p.tables e below (T10.setTop (mkF m 41 #[.val (.ref a1), .val (.ref a2)] [])) _
          refine XS.iconst X10.here hx rfl (hb hby d14_41) ?_
          show Steps p.tables e below (T10.setTop (mkF m 42 #[.val (.ref a1), .val (.ref a2)] [(.int (1 : Int32))])) _
          refine XS.goto X10.here hx rfl (pc0 := 42) (pc' := 46) rfl (hb hby d14_42) (by decide) (by decide) ?_
          show Steps p.tables e below (T10.setTop (mkF m 46 #[.val (.ref a1), .val (.ref a2)] [(.int (1 : Int32))])) _
          refine XS.aloadN X10.here hx rfl (hb hby d14_46) rfl rfl ?_
          exact kz
        refine OG.step s12 ?_
        obtain ⟨T13, X13, e13, st13⟩ := getF X10 hx hZ hown (host := "") (Or.inl (hw _ (List.mem_of_getElem? (i := 70) rfl))) Via.refl e10 F3_a2_account (g := (mkF m 47 #[.val (.ref a1), .val (.ref a2)] [(.ref a2), (.int (1 : Int32))])) rfl rfl (hb hby d14_47)
        refine OG.step st13 ?_
        show OG _ _ _ _ _ _ _ (T13.setTop (mkF m 50 #[.val (.ref a1), .val (.ref a2)] [va2, (.int (1 : Int32))]))
        rcases h4 with hz14 | ⟨rf14, hz14⟩
        · subst hz14
          have s15 : ∀ tz, Steps p.tables e below (T13.setTop (mkF m 66 #[.val (.ref a1), .val (.ref a2)] [(.int (1 : Int32))])) tz → Steps p.tables e below (T13.setTop (mkF m 50 #[.val (.ref a1), .val (.ref a2)] [.null, (.int (1 : Int32))])) tz := by
            intro tz kz
            refine XS.ifnonnullNo X13.here hx rfl (hb hby d14_50) rfl ?_
            show Steps p.tables e below (T13.setTop (mkF m 53 #[.val (.ref a1), .val (.ref a2)] [(.int (1 : Int32))])) _
            refine XS.iconst X13.here hx rfl (hb hby d14_53) ?_
            show Steps p.tables e below (T13.setTop (mkF m 54 #[.val (.ref a1), .val (.ref a2)] [(.int (1 : Int32)), (.int (1 : Int32))])) _
            refine XS.goto X13.here hx rfl (pc0 := 54) (pc' := 58) rfl (hb hby d14_54) (by decide) (by decide) ?_
            show Steps p.tables e below (T13.setTop (mkF m 58 #[.val (.ref a1), .val (.ref a2)] [(.int (1 : Int32)), (.int (1 : Int32))])) _
            refine XS.icmpNo X13.here hx rfl (hb hby d14_58) rfl (teq (by decide)).2 ?_
            show Steps p.tables e below (T13.setTop (mkF m 61 #[.val (.ref a1), .val (.ref a2)] [])) _
            refine XS.iconst X13.here hx rfl (hb hby d14_61) ?_
            show Steps p.tables e below (T13.setTop (mkF m 62 #[.val (.ref a1), .val (.ref a2)] [(.int (1 : Int32))])) _
            refine XS.goto X13.here hx rfl (pc0 := 62) (pc' := 66) rfl (hb hby d14_62) (by decide) (by decide) ?_
            exact kz
          refine OG.step s15 ?_
          exact OG.retZ X13 hx hlk Bd.returns (hb hby d14_66) (nar_1) e13 ⟨rfl, N0, rfl⟩ (by decide) (by decide)
        · subst hz14
          have s16 : ∀ tz, Steps p.tables e below (T13.setTop (mkF m 66 #[.val (.ref a1), .val (.ref a2)] [(.int (0 : Int32))])) tz → Steps p.tables e below (T13.setTop (mkF m 50 #[.val (.ref a1), .val (.ref a2)] [(.ref rf14), (.int (1 : Int32))])) tz := by
            intro tz kz
            refine XS.ifnonnullYes X13.here hx rfl (pc0 := 50) (pc' := 57) rfl (hb hby d14_50) rfl (by decide) (by decide) ?_
            show Steps p.tables e below (T13.setTop (mkF m 57 #[.val (.ref a1), .val (.ref a2)] [(.int (1 : Int32))])) _
            refine XS.iconst X13.here hx rfl (hb hby d14_57) ?_
            show Steps p.tables e below (T13.setTop (mkF m 58 #[.val (.ref a1), .val (.ref a2)] [(.int (0 : Int32)), (.int (1 : Int32))])) _
            refine XS.icmpYes X13.here hx rfl (pc0 := 58) (pc' := 65) rfl (hb hby d14_58) rfl (feq (by decide)).2 (by decide) (by decide) ?_
            show Steps p.tables e below (T13.setTop (mkF m 65 #[.val (.ref a1), .val (.ref a2)] [])) _
            refine XS.iconst X13.here hx rfl (hb hby d14_65) ?_
            exact kz
          refine OG.step s16 ?_
          exact OG.retZ X13 hx hlk Bd.returns (hb hby d14_66) (nar_0) e13 ⟨rfl, N0, rfl⟩ (by decide) (by decide)
      · subst hz11
        have s17 : ∀ tz, Steps p.tables e below (T10.setTop (mkF m 47 #[.val (.ref a1), .val (.ref a2)] [(.ref a2), (.int (0 : Int32))])) tz → Steps p.tables e below (T10.setTop (mkF m 38 #[.val (.ref a1), .val (.ref a2)] [(.ref rf11)])) tz := by
          intro tz kz
          refine XS.ifnonnullYes X10.here hx rfl (pc0 := 38) (pc' := 45) rfl (hb hby d14_38) rfl (by decide) (by decide) ?_
          show Steps p.tables e below (T10.setTop (mkF m 45 #[.val (.ref a1), .val (.ref a2)] [])) _
          refine XS.iconst X10.here hx rfl (hb hby d14_45) ?_
          show Steps p.tables e below (T10.setTop (mkF m 46 #[.val (.ref a1), .val (.ref a2)] [(.int (0 : Int32))])) _
          refine XS.aloadN X10.here hx rfl (hb hby d14_46) rfl rfl ?_
          exact kz
        refine OG.step s17 ?_
        obtain ⟨T18, X18, e18, st18⟩ := getF X10 hx hZ hown (host := "") (Or.inl (hw _ (List.mem_of_getElem? (i := 70) rfl))) Via.refl e10 F3_a2_account (g := (mkF m 47 #[.val (.ref a1), .val (.ref a2)] [(.ref a2), (.int (0 : Int32))])) rfl rfl (hb hby d14_47)
        refine OG.step st18 ?_
        show OG _ _ _ _ _ _ _ (T18.setTop (mkF m 50 #[.val (.ref a1), .val (.ref a2)] [va2, (.int (0 : Int32))]))
        rcases h4 with hz19 | ⟨rf19, hz19⟩
        · subst hz19
          have s20 : ∀ tz, Steps p.tables e below (T18.setTop (mkF m 66 #[.val (.ref a1), .val (.ref a2)] [(.int (0 : Int32))])) tz → Steps p.tables e below (T18.setTop (mkF m 50 #[.val (.ref a1), .val (.ref a2)] [.null, (.int (0 : Int32))])) tz := by
            intro tz kz
            refine XS.ifnonnullNo X18.here hx rfl (hb hby d14_50) rfl ?_
            show Steps p.tables e below (T18.setTop (mkF m 53 #[.val (.ref a1), .val (.ref a2)] [(.int (0 : Int32))])) _
            refine XS.iconst X18.here hx rfl (hb hby d14_53) ?_
            show Steps p.tables e below (T18.setTop (mkF m 54 #[.val (.ref a1), .val (.ref a2)] [(.int (1 : Int32)), (.int (0 : Int32))])) _
            refine XS.goto X18.here hx rfl (pc0 := 54) (pc' := 58) rfl (hb hby d14_54) (by decide) (by decide) ?_
            show Steps p.tables e below (T18.setTop (mkF m 58 #[.val (.ref a1), .val (.ref a2)] [(.int (1 : Int32)), (.int (0 : Int32))])) _
            refine XS.icmpYes X18.here hx rfl (pc0 := 58) (pc' := 65) rfl (hb hby d14_58) rfl (feq (by decide)).2 (by decide) (by decide) ?_
            show Steps p.tables e below (T18.setTop (mkF m 65 #[.val (.ref a1), .val (.ref a2)] [])) _
            refine XS.iconst X18.here hx rfl (hb hby d14_65) ?_
            exact kz
          refine OG.step s20 ?_
          exact OG.retZ X18 hx hlk Bd.returns (hb hby d14_66) (nar_0) e18 ⟨rfl, N0, rfl⟩ (by decide) (by decide)
        · subst hz19
          have s21 : ∀ tz, Steps p.tables e below (T18.setTop (mkF m 66 #[.val (.ref a1), .val (.ref a2)] [(.int (1 : Int32))])) tz → Steps p.tables e below (T18.setTop (mkF m 50 #[.val (.ref a1), .val (.ref a2)] [(.ref rf19), (.int (0 : Int32))])) tz := by
            intro tz kz
            refine XS.ifnonnullYes X18.here hx rfl (pc0 := 50) (pc' := 57) rfl (hb hby d14_50) rfl (by decide) (by decide) ?_
            show Steps p.tables e below (T18.setTop (mkF m 57 #[.val (.ref a1), .val (.ref a2)] [(.int (0 : Int32))])) _
            refine XS.iconst X18.here hx rfl (hb hby d14_57) ?_
            show Steps p.tables e below (T18.setTop (mkF m 58 #[.val (.ref a1), .val (.ref a2)] [(.int (0 : Int32)), (.int (0 : Int32))])) _
            refine XS.icmpNo X18.here hx rfl (hb hby d14_58) rfl (teq (by decide)).2 ?_
            show Steps p.tables e below (T18.setTop (mkF m 61 #[.val (.ref a1), .val (.ref a2)] [])) _
            refine XS.iconst X18.here hx rfl (hb hby d14_61) ?_
            show Steps p.tables e below (T18.setTop (mkF m 62 #[.val (.ref a1), .val (.ref a2)] [(.int (1 : Int32))])) _
            refine XS.goto X18.here hx rfl (pc0 := 62) (pc' := 66) rfl (hb hby d14_62) (by decide) (by decide) ?_
            exact kz
          refine OG.step s21 ?_
          exact OG.retZ X18 hx hlk Bd.returns (hb hby d14_66) (nar_1) e18 ⟨rfl, N0, rfl⟩ (by decide) (by decide)
    · subst hz6
      have s22 : ∀ tz, Steps p.tables e below (T5.setTop (mkF m 66 #[.val (.ref a1), .val (.ref a2)] [(.int (0 : Int32))])) tz → Steps p.tables e below (T5.setTop (mkF m 16 #[.val (.ref a1), .val (.ref a2)] [(.ref rf6), (.int (1 : Int32))])) tz := by
        intro tz kz
        refine XS.ifnonnullYes X5.here hx rfl (pc0 := 16) (pc' := 23) rfl (hb hby d14_16) rfl (by decide) (by decide) ?_
        show Steps p.tables e below (T5.setTop (mkF m 23 #[.val (.ref a1), .val (.ref a2)] [(.int (1 : Int32))])) _
        refine XS.iconst X5.here hx rfl (hb hby d14_23) ?_
        show Steps p.tables e below (T5.setTop (mkF m 24 #[.val (.ref a1), .val (.ref a2)] [(.int (0 : Int32)), (.int (1 : Int32))])) _
        refine XS.icmpYes X5.here hx rfl (pc0 := 24) (pc' := 65) rfl (hb hby d14_24) rfl (feq (by decide)).2 (by decide) (by decide) ?_
        show Steps p.tables e below (T5.setTop (mkF m 65 #[.val (.ref a1), .val (.ref a2)] [])) _
        refine XS.iconst X5.here hx rfl (hb hby d14_65) ?_
        exact kz
      refine OG.step s22 ?_
      exact OG.retZ X5 hx hlk Bd.returns (hb hby d14_66) (nar_0) e5 ⟨rfl, N0, rfl⟩ (by decide) (by decide)
  · subst hz3
    have s23 : ∀ tz, Steps p.tables e below (T2.setTop (mkF m 13 #[.val (.ref a1), .val (.ref a2)] [(.ref a2), (.int (0 : Int32))])) tz → Steps p.tables e below (T2.setTop (mkF m 4 #[.val (.ref a1), .val (.ref a2)] [(.ref rf3)])) tz := by
      intro tz kz
      refine XS.ifnonnullYes X2.here hx rfl (pc0 := 4) (pc' := 11) rfl (hb hby d14_4) rfl (by decide) (by decide) ?_
      show Steps p.tables e below (T2.setTop (mkF m 11 #[.val (.ref a1), .val (.ref a2)] [])) _
      refine XS.iconst X2.here hx rfl (hb hby d14_11) ?_
      show Steps p.tables e below (T2.setTop (mkF m 12 #[.val (.ref a1), .val (.ref a2)] [(.int (0 : Int32))])) _
      refine XS.aloadN X2.here hx rfl (hb hby d14_12) rfl rfl ?_
      exact kz
    refine OG.step s23 ?_
    obtain ⟨T24, X24, e24, st24⟩ := getF X2 hx hZ hown (host := "") (Or.inl (hw _ (List.mem_of_getElem? (i := 72) rfl))) Via.refl e2 F2_a2_visit (g := (mkF m 13 #[.val (.ref a1), .val (.ref a2)] [(.ref a2), (.int (0 : Int32))])) rfl rfl (hb hby d14_13)
    refine OG.step st24 ?_
    show OG _ _ _ _ _ _ _ (T24.setTop (mkF m 16 #[.val (.ref a1), .val (.ref a2)] [vv2, (.int (0 : Int32))]))
    rcases h3 with hz25 | ⟨rf25, hz25⟩
    · subst hz25
      have s26 : ∀ tz, Steps p.tables e below (T24.setTop (mkF m 66 #[.val (.ref a1), .val (.ref a2)] [(.int (0 : Int32))])) tz → Steps p.tables e below (T24.setTop (mkF m 16 #[.val (.ref a1), .val (.ref a2)] [.null, (.int (0 : Int32))])) tz := by
        intro tz kz
        refine XS.ifnonnullNo X24.here hx rfl (hb hby d14_16) rfl ?_
        show Steps p.tables e below (T24.setTop (mkF m 19 #[.val (.ref a1), .val (.ref a2)] [(.int (0 : Int32))])) _
        refine XS.iconst X24.here hx rfl (hb hby d14_19) ?_
        show Steps p.tables e below (T24.setTop (mkF m 20 #[.val (.ref a1), .val (.ref a2)] [(.int (1 : Int32)), (.int (0 : Int32))])) _
        refine XS.goto X24.here hx rfl (pc0 := 20) (pc' := 24) rfl (hb hby d14_20) (by decide) (by decide) ?_
        show Steps p.tables e below (T24.setTop (mkF m 24 #[.val (.ref a1), .val (.ref a2)] [(.int (1 : Int32)), (.int (0 : Int32))])) _
        refine XS.icmpYes X24.here hx rfl (pc0 := 24) (pc' := 65) rfl (hb hby d14_24) rfl (feq (by decide)).2 (by decide) (by decide) ?_
        show Steps p.tables e below (T24.setTop (mkF m 65 #[.val (.ref a1), .val (.ref a2)] [])) _
        refine XS.iconst X24.here hx rfl (hb hby d14_65) ?_
        exact kz
      refine OG.step s26 ?_
      exact OG.retZ X24 hx hlk Bd.returns (hb hby d14_66) (nar_0) e24 ⟨rfl, N0, rfl⟩ (by decide) (by decide)
    · subst hz25
      have s27 : ∀ tz, Steps p.tables e below (T24.setTop (mkF m 28 #[.val (.ref a1), .val (.ref a2)] [(.ref a1)])) tz → Steps p.tables e below (T24.setTop (mkF m 16 #[.val (.ref a1), .val (.ref a2)] [(.ref rf25), (.int (0 : Int32))])) tz := by
        intro tz kz
        refine XS.ifnonnullYes X24.here hx rfl (pc0 := 16) (pc' := 23) rfl (hb hby d14_16) rfl (by decide) (by decide) ?_
        show Steps p.tables e below (T24.setTop (mkF m 23 #[.val (.ref a1), .val (.ref a2)] [(.int (0 : Int32))])) _
        refine XS.iconst X24.here hx rfl (hb hby d14_23) ?_
        show Steps p.tables e below (T24.setTop (mkF m 24 #[.val (.ref a1), .val (.ref a2)] [(.int (0 : Int32)), (.int (0 : Int32))])) _
        refine XS.icmpNo X24.here hx rfl (hb hby d14_24) rfl (teq (by decide)).2 ?_
        show Steps p.tables e below (T24.setTop (mkF m 27 #[.val (.ref a1), .val (.ref a2)] [])) _
        refine XS.aloadN X24.here hx rfl (hb hby d14_27) rfl rfl ?_
        exact kz
      refine OG.step s27 ?_
      obtain ⟨T28, X28, e28, st28⟩ := getF X24 hx hZ hown (host := "") (Or.inl (hw _ (List.mem_of_getElem? (i := 72) rfl))) Via.refl e24 F0_a1_visit (g := (mkF m 28 #[.val (.ref a1), .val (.ref a2)] [(.ref a1)])) rfl rfl (hb hby d14_28)
      refine OG.step st28 ?_
      show OG _ _ _ _ _ _ _ (T28.setTop (mkF m 31 #[.val (.ref a1), .val (.ref a2)] [(.ref rf3)]))
      have s29 : ∀ tz, Steps p.tables e below (T28.setTop (mkF m 66 #[.val (.ref a1), .val (.ref a2)] [(.int (1 : Int32))])) tz → Steps p.tables e below (T28.setTop (mkF m 31 #[.val (.ref a1), .val (.ref a2)] [(.ref rf3)])) tz := by
        intro tz kz
        refine XS.ifnonnullYes X28.here hx rfl (pc0 := 31) (pc' := 61) rfl (hb hby d14_31) rfl (by decide) (by decide) ?_
        show Steps p.tables e below (T28.setTop (mkF m 61 #[.val (.ref a1), .val (.ref a2)] [])) _
        refine XS.iconst X28.here hx rfl (hb hby d14_61) ?_
        show Steps p.tables e below (T28.setTop (mkF m 62 #[.val (.ref a1), .val (.ref a2)] [(.int (1 : Int32))])) _
        refine XS.goto X28.here hx rfl (pc0 := 62) (pc' := 66) rfl (hb hby d14_62) (by decide) (by decide) ?_
        exact kz
      refine OG.step s29 ?_
      exact OG.retZ X28 hx hlk Bd.returns (hb hby d14_66) (nar_1) e28 ⟨rfl, N0, rfl⟩ (by decide) (by decide)
theorem d11_0 : decode prog_84_method_7_code 0 = .ok (.aload_n 0, 1) := by decide +kernel
theorem d11_1 : decode prog_84_method_7_code 1 = .ok (.getfield 23, 3) := by decide +kernel
theorem d11_4 : decode prog_84_method_7_code 4 = .ok (.ifnull 8, 3) := by decide +kernel
theorem d11_7 : decode prog_84_method_7_code 7 = .ok (.ldc 40, 2) := by decide +kernel
theorem d11_9 : decode prog_84_method_7_code 9 = .ok (.goto 17, 3) := by decide +kernel
theorem d11_12 : decode prog_84_method_7_code 12 = .ok (.aload_n 0, 1) := by decide +kernel
theorem d11_13 : decode prog_84_method_7_code 13 = .ok (.getfield 20, 3) := by decide +kernel
theorem d11_16 : decode prog_84_method_7_code 16 = .ok (.ifnull 8, 3) := by decide +kernel
theorem d11_19 : decode prog_84_method_7_code 19 = .ok (.ldc 41, 2) := by decide +kernel
theorem d11_21 : decode prog_84_method_7_code 21 = .ok (.goto 5, 3) := by decide +kernel
theorem d11_24 : decode prog_84_method_7_code 24 = .ok (.ldc 7, 2) := by decide +kernel
theorem d11_26 : decode prog_84_method_7_code 26 = .ok (.areturn, 1) := by decide +kernel
theorem ef_11 (m : MethodId) (x0 : Addr) : entryFrame m #[(.ref x0)] 1 = mkF m 0 #[.val (.ref x0)] [] := by first | (simp [entryFrame, mkF, argsToLocals, Value.category]; done) | rfl
def Q11 (Z : State) (a1 : Addr) (vv1 : Value) (va1 : Value) (h0 : Heap) (n0 : Nat) (v : Option Value) (h : Heap) (L : List Loc) : Prop := ∃ (s1 : Addr) (b1 : Addr) (kb : ClassId), (v = some (.ref s1)) ∧ (Fr n0 L) ∧ (Keep h0 h []) ∧ (Exa Z h s1 "java/lang/String") ∧ (Fld Z h s1 "java/lang/String" "coder" "B" (.int (0 : Int32))) ∧ (Fld Z h s1 "java/lang/String" "value" "[B" (.ref b1)) ∧ (Arv Z h b1 kb .byte (own_n (own_l vv1 va1)) (own_t (own_l vv1 va1)) (.int (0 : Int32)))
abbrev rom_11 : Room := { frames := 0, cells := 2, slots := 32, locals := 0 }
set_option maxRecDepth 65536 in
set_option maxHeartbeats 40000000 in
theorem rm11 (l : Launch) (Z : State) (a0 : Array Value) (hw : ∀ d ∈ tables_1, d.before a0 Z = true) (ws : List Jvm.Cond) (a1 : Addr) (vv1 : Value) (va1 : Value) (h0 : Heap) (n0 : Nat) (Z0 : n0 ≤ h0.size) (F0_a1_visit : Fld Z h0 a1 "com/example/mergeward/mergeward/core/RecordPath" "visit" "Lcom/example/mergeward/mergeward/core/Identifier;" vv1) (F1_a1_account : Fld Z h0 a1 "com/example/mergeward/mergeward/core/RecordPath" "account" "Lcom/example/mergeward/mergeward/core/Identifier;" va1) (h1 : own_ir vv1) (h2 : own_ir va1) :
    MetFree l (⟨"com/example/mergeward/mergeward/core/RecordPath", "level", "()Ljava/lang/String;"⟩ : MethodName) (head1 (Jvm.Cond.code (⟨"com/example/mergeward/mergeward/core/RecordPath", "level", "()Ljava/lang/String;"⟩ : MethodName) prog_84_method_7_code 1 (some (.object "java/lang/String")) :: ws) rom_11) (fun a U => a = #[(.ref a1)] ∧ Z.Warmed39 U.vm ∧ U.heap = h0 ∧ CHv Z own_EL U.vm h0) (fun _ _ _ _ _ => True) (fun _ U o U' => ∃ v L, o = .returned v ∧ Q11 Z a1 vv1 va1 h0 n0 v U'.heap L ∧ CHr Z own_EL U.vm U.heap U'.vm U'.heap ∧ ReturnedEndW U o U' L rom_11.cells rom_11.slots) := by
  refine MetFree.of_bodySF (plainFor_of_name pn_com_example_mergeward_mergeward_core_RecordPath) hisR ?_
  intro p e s m args below meth c s₁ Bd hml0 hP hK
  obtain ⟨rfl, hZ, hh, hH0⟩ := hP
  have hx := Bd.exec
  have hby := Bd.bytes
  have hlk := Bd.notSynchronized
  have hml : c.maxLocals = 1 := hml0
  have hown : s.vm.findClass "com/example/mergeward/mergeward/core/RecordPath" = some m.cls := findClass_of_methodNamed Bd.named
  have hnm := (name_of_methodNamed Bd.named Bd.method).1
  have X0s : Stand p l e rom_11 s m #[(.ref a1)] below meth c s₁ [] 0 0 := Stand.of_body Bd
  have X0 : Stand p l e rom_11 (s.setVm s.vm) m #[(.ref a1)] below meth c s₁ [] 0 0 := X0s
  have hS0 : s.Since s.vm 0 := (State.WarmedH.refl s).since 0
  have hk0 : 0 ≤ h0.size := Nat.zero_le _
  have wS := own_wS hw
  have hC0 : CHr Z own_EL s.vm h0 s.vm h0 := CHr.refl hH0
  have hEL : EW Z a0 own_EL := own_EW hw
  have e0 : s₁.heap = h0 := by rw [← hh, Bd.state]; rfl
  have N0 := Fr.nil n0
  have K0 : Keep h0 h0 [] := Keep.refl _ _
  refine (?_ : OGH p e below s Z (Q11 Z a1 vv1 va1 h0 n0) rom_11.cells rom_11.slots _)
  rw [ef_11]
  have s1 : ∀ tz, Steps p.tables e below (s₁.setTop (mkF m 1 #[.val (.ref a1)] [(.ref a1)])) tz → Steps p.tables e below (s₁.setTop (mkF m 0 #[.val (.ref a1)] [])) tz := by
    intro tz kz
    refine XS.aloadN X0.here hx rfl (hb hby d11_0) rfl rfl ?_
    exact kz
  refine OGH.step s1 ?_
  obtain ⟨T2, X2, e2, st2⟩ := getF X0 hx hZ hown (host := "") (Or.inl (hw _ (List.mem_of_getElem? (i := 72) rfl))) Via.refl e0 F0_a1_visit (g := (mkF m 1 #[.val (.ref a1)] [(.ref a1)])) rfl rfl (hb hby d11_1)
  refine OGH.step st2 ?_
  show OGH _ _ _ _ _ _ _ _ (T2.setTop (mkF m 4 #[.val (.ref a1)] [vv1]))
  rcases h1 with hz3 | ⟨rf3, hz3⟩
  · subst hz3
    have s4 : ∀ tz, Steps p.tables e below (T2.setTop (mkF m 13 #[.val (.ref a1)] [(.ref a1)])) tz → Steps p.tables e below (T2.setTop (mkF m 4 #[.val (.ref a1)] [.null])) tz := by
      intro tz kz
      refine XS.ifnullYes X2.here hx rfl (pc0 := 4) (pc' := 12) rfl (hb hby d11_4) rfl (by decide) (by decide) ?_
      show Steps p.tables e below (T2.setTop (mkF m 12 #[.val (.ref a1)] [])) _
      refine XS.aloadN X2.here hx rfl (hb hby d11_12) rfl rfl ?_
      exact kz
    refine OGH.step s4 ?_
    obtain ⟨T5, X5, e5, st5⟩ := getF X2 hx hZ hown (host := "") (Or.inl (hw _ (List.mem_of_getElem? (i := 70) rfl))) Via.refl e2 F1_a1_account (g := (mkF m 13 #[.val (.ref a1)] [(.ref a1)])) rfl rfl (hb hby d11_13)
    refine OGH.step st5 ?_
    show OGH _ _ _ _ _ _ _ _ (T5.setTop (mkF m 16 #[.val (.ref a1)] [va1]))
    rcases h2 with hz6 | ⟨rf6, hz6⟩
    · subst hz6
      have s7 : ∀ tz, Steps p.tables e below (T5.setTop (mkF m 24 #[.val (.ref a1)] [])) tz → Steps p.tables e below (T5.setTop (mkF m 16 #[.val (.ref a1)] [.null])) tz := by
        intro tz kz
        refine XS.ifnullYes X5.here hx rfl (pc0 := 16) (pc' := 24) rfl (hb hby d11_16) rfl (by decide) (by decide) ?_
        exact kz
      refine OGH.step s7 ?_
      obtain ⟨a8, T8, h8, k8, bb8, kc8, X8, e8, E8, hS8, hk8, hZ, hown, xa8, xc8, xv8, xb8, -, -, hD8, -, -, st8⟩ := ldcCH X5 hx hZ hown (hw _ (List.mem_of_getElem? (i := 66) rfl)) wS e5 hS0 hk0 hEL (List.mem_of_getElem? (i := 2) rfl) hC0.1 (vs := [(.int (112 : Int32)), (.int (97 : Int32)), (.int (116 : Int32)), (.int (105 : Int32)), (.int (101 : Int32)), (.int (110 : Int32)), (.int (116 : Int32))]) (z := (7 : Int32)) (by first | decide | decide +kernel) (by decide) (by decide) (g := (mkF m 24 #[.val (.ref a1)] [])) rfl (hb hby d11_24) (n := 28) (by first | decide | decide +kernel) (by decide) (by decide) (by decide)
      refine OGH.step st8 ?_
      have f9 := F0_a1_visit.ext E8
      have f10 := F1_a1_account.ext E8
      have K8 := K0.ext E8
      have hC8 := hC0.trans hD8
      show OGH _ _ _ _ _ _ _ _ (T8.setTop (mkF m 26 #[.val (.ref a1)] [(.ref a8)]))
      exact OGH.retR X8 hS8 hk8 hZ hEL hh hC8 hx hlk Bd.returns (by decide) (hb hby d11_26) e8 ⟨a8, bb8, kc8, rfl, N0, K8, xa8, xc8, xv8, xb8⟩ (by decide) (by decide)
    · subst hz6
      have s11 : ∀ tz, Steps p.tables e below (T5.setTop (mkF m 19 #[.val (.ref a1)] [])) tz → Steps p.tables e below (T5.setTop (mkF m 16 #[.val (.ref a1)] [(.ref rf6)])) tz := by
        intro tz kz
        refine XS.ifnullNo X5.here hx rfl (hb hby d11_16) rfl ?_
        exact kz
      refine OGH.step s11 ?_
      obtain ⟨a12, T12, h12, k12, bb12, kc12, X12, e12, E12, hS12, hk12, hZ, hown, xa12, xc12, xv12, xb12, -, -, hD12, -, -, st12⟩ := ldcCH X5 hx hZ hown (hw _ (List.mem_of_getElem? (i := 99) rfl)) wS e5 hS0 hk0 hEL (List.mem_of_getElem? (i := 1) rfl) hC0.1 (vs := [(.int (97 : Int32)), (.int (99 : Int32)), (.int (99 : Int32)), (.int (111 : Int32)), (.int (117 : Int32)), (.int (110 : Int32)), (.int (116 : Int32))]) (z := (7 : Int32)) (by first | decide | decide +kernel) (by decide) (by decide) (g := (mkF m 19 #[.val (.ref a1)] [])) rfl (hb hby d11_19) (n := 28) (by first | decide | decide +kernel) (by decide) (by decide) (by decide)
      refine OGH.step st12 ?_
      have f13 := F0_a1_visit.ext E12
      have f14 := F1_a1_account.ext E12
      have K12 := K0.ext E12
      have hC12 := hC0.trans hD12
      show OGH _ _ _ _ _ _ _ _ (T12.setTop (mkF m 21 #[.val (.ref a1)] [(.ref a12)]))
      have s15 : ∀ tz, Steps p.tables e below (T12.setTop (mkF m 26 #[.val (.ref a1)] [(.ref a12)])) tz → Steps p.tables e below (T12.setTop (mkF m 21 #[.val (.ref a1)] [(.ref a12)])) tz := by
        intro tz kz
        refine XS.goto X12.here hx rfl (pc0 := 21) (pc' := 26) rfl (hb hby d11_21) (by decide) (by decide) ?_
        exact kz
      refine OGH.step s15 ?_
      exact OGH.retR X12 hS12 hk12 hZ hEL hh hC12 hx hlk Bd.returns (by decide) (hb hby d11_26) e12 ⟨a12, bb12, kc12, rfl, N0, K12, xa12, xc12, xv12, xb12⟩ (by decide) (by decide)
  · subst hz3
    have s16 : ∀ tz, Steps p.tables e below (T2.setTop (mkF m 7 #[.val (.ref a1)] [])) tz → Steps p.tables e below (T2.setTop (mkF m 4 #[.val (.ref a1)] [(.ref rf3)])) tz := by
      intro tz kz
      refine XS.ifnullNo X2.here hx rfl (hb hby d11_4) rfl ?_
      exact kz
    refine OGH.step s16 ?_
    obtain ⟨a17, T17, h17, k17, bb17, kc17, X17, e17, E17, hS17, hk17, hZ, hown, xa17, xc17, xv17, xb17, -, -, hD17, -, -, st17⟩ := ldcCH X2 hx hZ hown (hw _ (List.mem_of_getElem? (i := 79) rfl)) wS e2 hS0 hk0 hEL (List.mem_of_getElem? (i := 0) rfl) hC0.1 (vs := [(.int (118 : Int32)), (.int (105 : Int32)), (.int (115 : Int32)), (.int (105 : Int32)), (.int (116 : Int32))]) (z := (5 : Int32)) (by first | decide | decide +kernel) (by decide) (by decide) (g := (mkF m 7 #[.val (.ref a1)] [])) rfl (hb hby d11_7) (n := 20) (by first | decide | decide +kernel) (by decide) (by decide) (by decide)
    refine OGH.step st17 ?_
    have f18 := F0_a1_visit.ext E17
    have f19 := F1_a1_account.ext E17
    have K17 := K0.ext E17
    have hC17 := hC0.trans hD17
    show OGH _ _ _ _ _ _ _ _ (T17.setTop (mkF m 9 #[.val (.ref a1)] [(.ref a17)]))
    have s20 : ∀ tz, Steps p.tables e below (T17.setTop (mkF m 26 #[.val (.ref a1)] [(.ref a17)])) tz → Steps p.tables e below (T17.setTop (mkF m 9 #[.val (.ref a1)] [(.ref a17)])) tz := by
      intro tz kz
      refine XS.goto X17.here hx rfl (pc0 := 9) (pc' := 26) rfl (hb hby d11_9) (by decide) (by decide) ?_
      exact kz
    refine OGH.step s20 ?_
    exact OGH.retR X17 hS17 hk17 hZ hEL hh hC17 hx hlk Bd.returns (by decide) (hb hby d11_26) e17 ⟨a17, bb17, kc17, rfl, N0, K17, xa17, xc17, xv17, xb17⟩ (by decide) (by decide)
theorem d12_0 : decode method_2_code 0 = .ok (.iload_n 1, 1) := by decide +kernel
theorem d12_1 : decode method_2_code 1 = .ok (.ifCond .eq 6, 3) := by decide +kernel
theorem d12_4 : decode method_2_code 4 = .ok (.ldc 7, 2) := by decide +kernel
theorem d12_6 : decode method_2_code 6 = .ok (.areturn, 1) := by decide +kernel
theorem d12_7 : decode method_2_code 7 = .ok (.iload_n 0, 1) := by decide +kernel
theorem d12_8 : decode method_2_code 8 = .ok (.ifCond .eq 6, 3) := by decide +kernel
theorem d12_11 : decode method_2_code 11 = .ok (.ldc 9, 2) := by decide +kernel
theorem d12_13 : decode method_2_code 13 = .ok (.areturn, 1) := by decide +kernel
theorem d12_14 : decode method_2_code 14 = .ok (.ldc 11, 2) := by decide +kernel
theorem d12_16 : decode method_2_code 16 = .ok (.areturn, 1) := by decide +kernel
theorem pn_com_example_mergeward_mergeward_core_RecordPathLevelPinLaw : plainName "com/example/mergeward/mergeward/core/RecordPathLevelPinLaw" = true := by first | (simp [plainName, overriddenIn]; done) | decide +kernel
theorem ef_12 (m : MethodId) (x0 : Int32) (x1 : Int32) : entryFrame m #[(.int x0), (.int x1)] 2 = mkF m 0 #[.val (.int x0), .val (.int x1)] [] := by first | (simp [entryFrame, mkF, argsToLocals, Value.category]; done) | rfl
def Q12 (Z : State) (p0 : Int32) (p1 : Int32) (h0 : Heap) (n0 : Nat) (v : Option Value) (h : Heap) (L : List Loc) : Prop := ∃ (s1 : Addr) (b1 : Addr) (kb : ClassId), (v = some (.ref s1)) ∧ (Fr n0 L) ∧ (Keep h0 h []) ∧ (Exa Z h s1 "java/lang/String") ∧ (Fld Z h s1 "java/lang/String" "coder" "B" (.int (0 : Int32))) ∧ (Fld Z h s1 "java/lang/String" "value" "[B" (.ref b1)) ∧ (Arv Z h b1 kb .byte (own_n (own_e p0 p1)) (own_t (own_e p0 p1)) (.int (0 : Int32)))
abbrev rom_12 : Room := { frames := 0, cells := 2, slots := 32, locals := 0 }
set_option maxRecDepth 65536 in
set_option maxHeartbeats 40000000 in
theorem rm12 (l : Launch) (Z : State) (a0 : Array Value) (hw : ∀ d ∈ tables_1, d.before a0 Z = true) (ws : List Jvm.Cond) (p0 : Int32) (p1 : Int32) (h0 : Heap) (n0 : Nat) (Z0 : n0 ≤ h0.size) :
    MetFree l (⟨"com/example/mergeward/mergeward/core/RecordPathLevelPinLaw", "expected", "(ZZ)Ljava/lang/String;"⟩ : MethodName) (head1 (Jvm.Cond.code (⟨"com/example/mergeward/mergeward/core/RecordPathLevelPinLaw", "expected", "(ZZ)Ljava/lang/String;"⟩ : MethodName) method_2_code 2 (some (.object "java/lang/String")) :: ws) rom_12) (fun a U => a = #[(.int p0), (.int p1)] ∧ Z.Warmed39 U.vm ∧ U.heap = h0 ∧ CHv Z own_EL U.vm h0) (fun _ _ _ _ _ => True) (fun _ U o U' => ∃ v L, o = .returned v ∧ Q12 Z p0 p1 h0 n0 v U'.heap L ∧ CHr Z own_EL U.vm U.heap U'.vm U'.heap ∧ ReturnedEndW U o U' L rom_12.cells rom_12.slots) := by
  refine MetFree.of_bodySF (plainFor_of_name pn_com_example_mergeward_mergeward_core_RecordPathLevelPinLaw) hisR ?_
  intro p e s m args below meth c s₁ Bd hml0 hP hK
  obtain ⟨rfl, hZ, hh, hH0⟩ := hP
  have hx := Bd.exec
  have hby := Bd.bytes
  have hlk := Bd.notSynchronized
  have hml : c.maxLocals = 2 := hml0
  have hown : s.vm.findClass "com/example/mergeward/mergeward/core/RecordPathLevelPinLaw" = some m.cls := findClass_of_methodNamed Bd.named
  have hnm := (name_of_methodNamed Bd.named Bd.method).1
  have X0s : Stand p l e rom_12 s m #[(.int p0), (.int p1)] below meth c s₁ [] 0 0 := Stand.of_body Bd
  have X0 : Stand p l e rom_12 (s.setVm s.vm) m #[(.int p0), (.int p1)] below meth c s₁ [] 0 0 := X0s
  have hS0 : s.Since s.vm 0 := (State.WarmedH.refl s).since 0
  have hk0 : 0 ≤ h0.size := Nat.zero_le _
  have wS := own_wS hw
  have hC0 : CHr Z own_EL s.vm h0 s.vm h0 := CHr.refl hH0
  have hEL : EW Z a0 own_EL := own_EW hw
  have e0 : s₁.heap = h0 := by rw [← hh, Bd.state]; rfl
  have N0 := Fr.nil n0
  have K0 : Keep h0 h0 [] := Keep.refl _ _
  refine (?_ : OGH p e below s Z (Q12 Z p0 p1 h0 n0) rom_12.cells rom_12.slots _)
  rw [ef_12]
  have s1 : ∀ tz, Steps p.tables e below (s₁.setTop (mkF m 1 #[.val (.int p0), .val (.int p1)] [(.int p1)])) tz → Steps p.tables e below (s₁.setTop (mkF m 0 #[.val (.int p0), .val (.int p1)] [])) tz := by
    intro tz kz
    refine XS.iloadN X0.here hx rfl (hb hby d12_0) rfl ?_
    exact kz
  refine OGH.step s1 ?_
  by_cases hc1 : p1 = (0 : Int32)
  · have s2 : ∀ tz, Steps p.tables e below (s₁.setTop (mkF m 8 #[.val (.int p0), .val (.int p1)] [(.int p0)])) tz → Steps p.tables e below (s₁.setTop (mkF m 1 #[.val (.int p0), .val (.int p1)] [(.int p1)])) tz := by
      intro tz kz
      refine XS.ifYes X0.here hx rfl (pc0 := 1) (pc' := 7) rfl (hb hby d12_1) rfl ((if0 _ _).trans (teq hc1).1) (by decide) (by decide) ?_
      show Steps p.tables e below (s₁.setTop (mkF m 7 #[.val (.int p0), .val (.int p1)] [])) _
      refine XS.iloadN X0.here hx rfl (hb hby d12_7) rfl ?_
      exact kz
    refine OGH.step s2 ?_
    by_cases hc8 : p0 = (0 : Int32)
    · have s3 : ∀ tz, Steps p.tables e below (s₁.setTop (mkF m 14 #[.val (.int p0), .val (.int p1)] [])) tz → Steps p.tables e below (s₁.setTop (mkF m 8 #[.val (.int p0), .val (.int p1)] [(.int p0)])) tz := by
        intro tz kz
        refine XS.ifYes X0.here hx rfl (pc0 := 8) (pc' := 14) rfl (hb hby d12_8) rfl ((if0 _ _).trans (teq hc8).1) (by decide) (by decide) ?_
        exact kz
      refine OGH.step s3 ?_
      obtain ⟨a4, T4, h4, k4, bb4, kc4, X4, e4, E4, hS4, hk4, hZ, hown, xa4, xc4, xv4, xb4, -, -, hD4, -, -, st4⟩ := ldcCH X0 hx hZ hown (hw _ (List.mem_of_getElem? (i := 84) rfl)) wS e0 hS0 hk0 hEL (List.mem_of_getElem? (i := 5) rfl) hC0.1 (vs := [(.int (112 : Int32)), (.int (97 : Int32)), (.int (116 : Int32)), (.int (105 : Int32)), (.int (101 : Int32)), (.int (110 : Int32)), (.int (116 : Int32))]) (z := (7 : Int32)) (by first | decide | decide +kernel) (by decide) (by decide) (g := (mkF m 14 #[.val (.int p0), .val (.int p1)] [])) rfl (hb hby d12_14) (n := 28) (by first | decide | decide +kernel) (by decide) (by decide) (by decide)
      refine OGH.step st4 ?_
      have K4 := K0.ext E4
      have hC4 := hC0.trans hD4
      show OGH _ _ _ _ _ _ _ _ (T4.setTop (mkF m 16 #[.val (.int p0), .val (.int p1)] [(.ref a4)]))
      exact OGH.retR X4 hS4 hk4 hZ hEL hh hC4 hx hlk Bd.returns (by decide) (hb hby d12_16) e4 ⟨a4, bb4, kc4, rfl, N0, K4, xa4, xc4, xv4, (by rw [show own_e p0 p1 = (0 : Nat) from ((if_pos hc1).trans (if_pos hc8))]; exact xb4)⟩ (by decide) (by decide)
    · have s5 : ∀ tz, Steps p.tables e below (s₁.setTop (mkF m 11 #[.val (.int p0), .val (.int p1)] [])) tz → Steps p.tables e below (s₁.setTop (mkF m 8 #[.val (.int p0), .val (.int p1)] [(.int p0)])) tz := by
        intro tz kz
        refine XS.ifNo X0.here hx rfl (hb hby d12_8) rfl ((if0 _ _).trans (feq hc8).1) ?_
        exact kz
      refine OGH.step s5 ?_
      obtain ⟨a6, T6, h6, k6, bb6, kc6, X6, e6, E6, hS6, hk6, hZ, hown, xa6, xc6, xv6, xb6, -, -, hD6, -, -, st6⟩ := ldcCH X0 hx hZ hown (hw _ (List.mem_of_getElem? (i := 100) rfl)) wS e0 hS0 hk0 hEL (List.mem_of_getElem? (i := 4) rfl) hC0.1 (vs := [(.int (97 : Int32)), (.int (99 : Int32)), (.int (99 : Int32)), (.int (111 : Int32)), (.int (117 : Int32)), (.int (110 : Int32)), (.int (116 : Int32))]) (z := (7 : Int32)) (by first | decide | decide +kernel) (by decide) (by decide) (g := (mkF m 11 #[.val (.int p0), .val (.int p1)] [])) rfl (hb hby d12_11) (n := 28) (by first | decide | decide +kernel) (by decide) (by decide) (by decide)
      refine OGH.step st6 ?_
      have K6 := K0.ext E6
      have hC6 := hC0.trans hD6
      show OGH _ _ _ _ _ _ _ _ (T6.setTop (mkF m 13 #[.val (.int p0), .val (.int p1)] [(.ref a6)]))
      exact OGH.retR X6 hS6 hk6 hZ hEL hh hC6 hx hlk Bd.returns (by decide) (hb hby d12_13) e6 ⟨a6, bb6, kc6, rfl, N0, K6, xa6, xc6, xv6, (by rw [show own_e p0 p1 = (1 : Nat) from ((if_pos hc1).trans (if_neg hc8))]; exact xb6)⟩ (by decide) (by decide)
  · have s7 : ∀ tz, Steps p.tables e below (s₁.setTop (mkF m 4 #[.val (.int p0), .val (.int p1)] [])) tz → Steps p.tables e below (s₁.setTop (mkF m 1 #[.val (.int p0), .val (.int p1)] [(.int p1)])) tz := by
      intro tz kz
      refine XS.ifNo X0.here hx rfl (hb hby d12_1) rfl ((if0 _ _).trans (feq hc1).1) ?_
      exact kz
    refine OGH.step s7 ?_
    obtain ⟨a8, T8, h8, k8, bb8, kc8, X8, e8, E8, hS8, hk8, hZ, hown, xa8, xc8, xv8, xb8, -, -, hD8, -, -, st8⟩ := ldcCH X0 hx hZ hown (hw _ (List.mem_of_getElem? (i := 90) rfl)) wS e0 hS0 hk0 hEL (List.mem_of_getElem? (i := 3) rfl) hC0.1 (vs := [(.int (118 : Int32)), (.int (105 : Int32)), (.int (115 : Int32)), (.int (105 : Int32)), (.int (116 : Int32))]) (z := (5 : Int32)) (by first | decide | decide +kernel) (by decide) (by decide) (g := (mkF m 4 #[.val (.int p0), .val (.int p1)] [])) rfl (hb hby d12_4) (n := 20) (by first | decide | decide +kernel) (by decide) (by decide) (by decide)
    refine OGH.step st8 ?_
    have K8 := K0.ext E8
    have hC8 := hC0.trans hD8
    show OGH _ _ _ _ _ _ _ _ (T8.setTop (mkF m 6 #[.val (.int p0), .val (.int p1)] [(.ref a8)]))
    exact OGH.retR X8 hS8 hk8 hZ hEL hh hC8 hx hlk Bd.returns (by decide) (hb hby d12_6) e8 ⟨a8, bb8, kc8, rfl, N0, K8, xa8, xc8, xv8, (by rw [show own_e p0 p1 = (2 : Nat) from (if_neg hc1)]; exact xb8)⟩ (by decide) (by decide)
theorem d15_0 : decode jdk_43_method_13_code 0 = .ok (.aload_n 0, 1) := by decide +kernel
theorem d15_1 : decode jdk_43_method_13_code 1 = .ok (.arraylength, 1) := by decide +kernel
theorem d15_2 : decode jdk_43_method_13_code 2 = .ok (.aload_n 1, 1) := by decide +kernel
theorem d15_3 : decode jdk_43_method_13_code 3 = .ok (.arraylength, 1) := by decide +kernel
theorem d15_4 : decode jdk_43_method_13_code 4 = .ok (.if_icmp .ne 30, 3) := by decide +kernel
theorem d15_7 : decode jdk_43_method_13_code 7 = .ok (.iconst 0, 1) := by decide +kernel
theorem d15_8 : decode jdk_43_method_13_code 8 = .ok (.istore_n 2, 1) := by decide +kernel
theorem d15_9 : decode jdk_43_method_13_code 9 = .ok (.iload_n 2, 1) := by decide +kernel
theorem d15_10 : decode jdk_43_method_13_code 10 = .ok (.aload_n 0, 1) := by decide +kernel
theorem d15_11 : decode jdk_43_method_13_code 11 = .ok (.arraylength, 1) := by decide +kernel
theorem d15_12 : decode jdk_43_method_13_code 12 = .ok (.if_icmp .ge 20, 3) := by decide +kernel
theorem d15_15 : decode jdk_43_method_13_code 15 = .ok (.aload_n 0, 1) := by decide +kernel
theorem d15_16 : decode jdk_43_method_13_code 16 = .ok (.iload_n 2, 1) := by decide +kernel
theorem d15_17 : decode jdk_43_method_13_code 17 = .ok (.baload, 1) := by decide +kernel
theorem d15_18 : decode jdk_43_method_13_code 18 = .ok (.aload_n 1, 1) := by decide +kernel
theorem d15_19 : decode jdk_43_method_13_code 19 = .ok (.iload_n 2, 1) := by decide +kernel
theorem d15_20 : decode jdk_43_method_13_code 20 = .ok (.baload, 1) := by decide +kernel
theorem d15_21 : decode jdk_43_method_13_code 21 = .ok (.if_icmp .eq 5, 3) := by decide +kernel
theorem d15_24 : decode jdk_43_method_13_code 24 = .ok (.iconst 0, 1) := by decide +kernel
theorem d15_25 : decode jdk_43_method_13_code 25 = .ok (.ireturn, 1) := by decide +kernel
theorem d15_26 : decode jdk_43_method_13_code 26 = .ok (.iinc 2 1, 3) := by decide +kernel
theorem d15_29 : decode jdk_43_method_13_code 29 = .ok (.goto (-20), 3) := by decide +kernel
theorem d15_32 : decode jdk_43_method_13_code 32 = .ok (.iconst 1, 1) := by decide +kernel
theorem d15_33 : decode jdk_43_method_13_code 33 = .ok (.ireturn, 1) := by decide +kernel
theorem d15_34 : decode jdk_43_method_13_code 34 = .ok (.iconst 0, 1) := by decide +kernel
theorem d15_35 : decode jdk_43_method_13_code 35 = .ok (.ireturn, 1) := by decide +kernel
theorem ef_15 (m : MethodId) (x0 : Addr) (x1 : Addr) : entryFrame m #[(.ref x0), (.ref x1)] 3 = mkF m 0 #[.val (.ref x0), .val (.ref x1), .unset] [] := by first | (simp [entryFrame, mkF, argsToLocals, Value.category]; done) | rfl
def Q15 (Z : State) (o1 : Addr) (o2 : Addr) (k1 : ClassId) (k2 : ClassId) (ii : Nat) (jj : Nat) (h0 : Heap) (n0 : Nat) (v : Option Value) (h : Heap) (L : List Loc) : Prop := (v = some (.int (bI (ii = jj)))) ∧ (Fr n0 L) ∧ (h = h0)
abbrev rom_15 : Room := { frames := 0, cells := 0, slots := 0, locals := 0 }
set_option maxRecDepth 65536 in
set_option maxHeartbeats 40000000 in
theorem rm15 (l : Launch) (Z : State) (a0 : Array Value) (hw : ∀ d ∈ tables_1, d.before a0 Z = true) (ws : List Jvm.Cond) (o1 : Addr) (o2 : Addr) (k1 : ClassId) (k2 : ClassId) (ii : Nat) (jj : Nat) (h0 : Heap) (n0 : Nat) (Z0 : n0 ≤ h0.size) (F0_o1 : Arv Z h0 o1 k1 .byte (own_n ii) (own_t ii) (.int (0 : Int32))) (F1_o2 : Arv Z h0 o2 k2 .byte (own_n jj) (own_t jj) (.int (0 : Int32))) (hi : ii < 3) (hj : jj < 3) :
    MetFree l (⟨"java/lang/StringLatin1", "equals", "([B[B)Z"⟩ : MethodName) (head1 (Jvm.Cond.code (⟨"java/lang/StringLatin1", "equals", "([B[B)Z"⟩ : MethodName) jdk_43_method_13_code 3 (some .boolean) :: ws) rom_15) (fun a U => a = #[(.ref o1), (.ref o2)] ∧ Z.Warmed39 U.vm ∧ U.heap = h0) (fun _ _ _ _ _ => True) (fun _ U o U' => ∃ v L, o = .returned v ∧ Q15 Z o1 o2 k1 k2 ii jj h0 n0 v U'.heap L ∧ FrameEnd U o U' L rom_15.cells rom_15.slots) := by
  refine MetFree.of_bodySF (plainFor_of_name pn_java_lang_StringLatin1) hisR ?_
  intro p e s m args below meth c s₁ Bd hml0 hP hK
  obtain ⟨rfl, hZ, hh⟩ := hP
  have hx := Bd.exec
  have hby := Bd.bytes
  have hlk := Bd.notSynchronized
  have hml : c.maxLocals = 3 := hml0
  have hown : s.vm.findClass "java/lang/StringLatin1" = some m.cls := findClass_of_methodNamed Bd.named
  have hnm := (name_of_methodNamed Bd.named Bd.method).1
  have X0 : Stand p l e rom_15 s m #[(.ref o1), (.ref o2)] below meth c s₁ [] 0 0 := Stand.of_body Bd
  have e0 : s₁.heap = h0 := by rw [← hh, Bd.state]; rfl
  have N0 := Fr.nil n0
  have K0 : Keep h0 h0 [] := Keep.refl _ _
  refine (?_ : OG p e below s (Q15 Z o1 o2 k1 k2 ii jj h0 n0) rom_15.cells rom_15.slots _)
  rw [ef_15]
  have ui : ii = 0 ∨ ii = 1 ∨ ii = 2 := by omega
  have uj : jj = 0 ∨ jj = 1 ∨ jj = 2 := by omega
  rcases ui with rfl | rfl | rfl
  · rcases uj with rfl | rfl | rfl
    · have Gx_o1_00 : Arv Z h0 o1 k1 .byte (7 : Int32) [(.int (112 : Int32)), (.int (97 : Int32)), (.int (116 : Int32)), (.int (105 : Int32)), (.int (101 : Int32)), (.int (110 : Int32)), (.int (116 : Int32))] (.int (0 : Int32)) := F0_o1
      have Gx_o2_00 : Arv Z h0 o2 k2 .byte (7 : Int32) [(.int (112 : Int32)), (.int (97 : Int32)), (.int (116 : Int32)), (.int (105 : Int32)), (.int (101 : Int32)), (.int (110 : Int32)), (.int (116 : Int32))] (.int (0 : Int32)) := F1_o2
      have s1 : ∀ tz, Steps p.tables e below (s₁.setTop (mkF m 1 #[.val (.ref o1), .val (.ref o2), .unset] [(.ref o1)])) tz → Steps p.tables e below (s₁.setTop (mkF m 0 #[.val (.ref o1), .val (.ref o2), .unset] [])) tz := by
        intro tz kz
        refine XS.aloadN X0.here hx rfl (hb hby d15_0) rfl rfl ?_
        exact kz
      refine OG.step s1 ?_
      have av2 := Gx_o1_00
      obtain ⟨cl2, Ar2, qa_2, Sa_2, Nn_2, Ha_2, Ga_2⟩ := av2
      refine OG.step (X0.arraylength hx (by rw [e0]; exact Ar2.1) (State.isArrayOf_alike hZ.alike Ar2.2.1) (g := (mkF m 1 #[.val (.ref o1), .val (.ref o2), .unset] [(.ref o1)])) rfl rfl (hb hby d15_1)) ?_
      rw [len_of Sa_2 Nn_2]
      show OG _ _ _ _ _ _ _ (s₁.setTop (mkF m 2 #[.val (.ref o1), .val (.ref o2), .unset] [(.int (7 : Int32))]))
      have s3 : ∀ tz, Steps p.tables e below (s₁.setTop (mkF m 3 #[.val (.ref o1), .val (.ref o2), .unset] [(.ref o2), (.int (7 : Int32))])) tz → Steps p.tables e below (s₁.setTop (mkF m 2 #[.val (.ref o1), .val (.ref o2), .unset] [(.int (7 : Int32))])) tz := by
        intro tz kz
        refine XS.aloadN X0.here hx rfl (hb hby d15_2) rfl rfl ?_
        exact kz
      refine OG.step s3 ?_
      have av4 := Gx_o2_00
      obtain ⟨cl4, Ar4, qa_4, Sa_4, Nn_4, Ha_4, Ga_4⟩ := av4
      refine OG.step (X0.arraylength hx (by rw [e0]; exact Ar4.1) (State.isArrayOf_alike hZ.alike Ar4.2.1) (g := (mkF m 3 #[.val (.ref o1), .val (.ref o2), .unset] [(.ref o2), (.int (7 : Int32))])) rfl rfl (hb hby d15_3)) ?_
      rw [len_of Sa_4 Nn_4]
      show OG _ _ _ _ _ _ _ (s₁.setTop (mkF m 4 #[.val (.ref o1), .val (.ref o2), .unset] [(.int (7 : Int32)), (.int (7 : Int32))]))
      have s5 : ∀ tz, Steps p.tables e below (s₁.setTop (mkF m 11 #[.val (.ref o1), .val (.ref o2), .val (.int (0 : Int32))] [(.ref o1), (.int (0 : Int32))])) tz → Steps p.tables e below (s₁.setTop (mkF m 4 #[.val (.ref o1), .val (.ref o2), .unset] [(.int (7 : Int32)), (.int (7 : Int32))])) tz := by
        intro tz kz
        refine XS.icmpNo X0.here hx rfl (hb hby d15_4) rfl (teq (by decide)).2 ?_
        show Steps p.tables e below (s₁.setTop (mkF m 7 #[.val (.ref o1), .val (.ref o2), .unset] [])) _
        refine XS.iconst X0.here hx rfl (hb hby d15_7) ?_
        show Steps p.tables e below (s₁.setTop (mkF m 8 #[.val (.ref o1), .val (.ref o2), .unset] [(.int (0 : Int32))])) _
        refine XS.istoreN X0.here hx rfl (hb hby d15_8) rfl (l' := #[.val (.ref o1), .val (.ref o2), .val (.int (0 : Int32))]) rfl ?_
        show Steps p.tables e below (s₁.setTop (mkF m 9 #[.val (.ref o1), .val (.ref o2), .val (.int (0 : Int32))] [])) _
        refine XS.iloadN X0.here hx rfl (hb hby d15_9) rfl ?_
        show Steps p.tables e below (s₁.setTop (mkF m 10 #[.val (.ref o1), .val (.ref o2), .val (.int (0 : Int32))] [(.int (0 : Int32))])) _
        refine XS.aloadN X0.here hx rfl (hb hby d15_10) rfl rfl ?_
        exact kz
      refine OG.step s5 ?_
      have av6 := Gx_o1_00
      obtain ⟨cl6, Ar6, qa_6, Sa_6, Nn_6, Ha_6, Ga_6⟩ := av6
      refine OG.step (X0.arraylength hx (by rw [e0]; exact Ar6.1) (State.isArrayOf_alike hZ.alike Ar6.2.1) (g := (mkF m 11 #[.val (.ref o1), .val (.ref o2), .val (.int (0 : Int32))] [(.ref o1), (.int (0 : Int32))])) rfl rfl (hb hby d15_11)) ?_
      rw [len_of Sa_6 Nn_6]
      show OG _ _ _ _ _ _ _ (s₁.setTop (mkF m 12 #[.val (.ref o1), .val (.ref o2), .val (.int (0 : Int32))] [(.int (7 : Int32)), (.int (0 : Int32))]))
      have s7 : ∀ tz, Steps p.tables e below (s₁.setTop (mkF m 17 #[.val (.ref o1), .val (.ref o2), .val (.int (0 : Int32))] [(.int (0 : Int32)), (.ref o1)])) tz → Steps p.tables e below (s₁.setTop (mkF m 12 #[.val (.ref o1), .val (.ref o2), .val (.int (0 : Int32))] [(.int (7 : Int32)), (.int (0 : Int32))])) tz := by
        intro tz kz
        refine XS.icmpNo X0.here hx rfl (hb hby d15_12) rfl (tlt (by decide)).2.1 ?_
        show Steps p.tables e below (s₁.setTop (mkF m 15 #[.val (.ref o1), .val (.ref o2), .val (.int (0 : Int32))] [])) _
        refine XS.aloadN X0.here hx rfl (hb hby d15_15) rfl rfl ?_
        show Steps p.tables e below (s₁.setTop (mkF m 16 #[.val (.ref o1), .val (.ref o2), .val (.int (0 : Int32))] [(.ref o1)])) _
        refine XS.iloadN X0.here hx rfl (hb hby d15_16) rfl ?_
        exact kz
      refine OG.step s7 ?_
      have av8 := Gx_o1_00
      obtain ⟨cl8, Ar8, qa_8, Sa_8, Nn_8, Ha_8, Ga_8⟩ := av8
      have hin8 : ¬ ((0 : Int32) < 0 ∨ cl8.slots.size ≤ ((0 : Int32)).toNatClampNeg) := inb_of Sa_8 ⟨(by decide), (by decide)⟩
      have hat8 : cl8.slots[((0 : Int32)).toNatClampNeg]? = some (.int (112 : Int32)) := Ha_8.at hin8 rfl
      refine OG.step (X0.baloadBytes hx (j := (0 : Int32)) (v := (.int (112 : Int32))) (by rw [e0]; exact Ar8.1) (State.isArrayOf_alike hZ.alike Ar8.2.1) Ar8.2.2 hin8 hat8 (g := (mkF m 17 #[.val (.ref o1), .val (.ref o2), .val (.int (0 : Int32))] [(.int (0 : Int32)), (.ref o1)])) rfl rfl (hb hby d15_17)) ?_
      show OG _ _ _ _ _ _ _ (s₁.setTop (mkF m 18 #[.val (.ref o1), .val (.ref o2), .val (.int (0 : Int32))] [(.int (112 : Int32))]))
      have s9 : ∀ tz, Steps p.tables e below (s₁.setTop (mkF m 20 #[.val (.ref o1), .val (.ref o2), .val (.int (0 : Int32))] [(.int (0 : Int32)), (.ref o2), (.int (112 : Int32))])) tz → Steps p.tables e below (s₁.setTop (mkF m 18 #[.val (.ref o1), .val (.ref o2), .val (.int (0 : Int32))] [(.int (112 : Int32))])) tz := by
        intro tz kz
        refine XS.aloadN X0.here hx rfl (hb hby d15_18) rfl rfl ?_
        show Steps p.tables e below (s₁.setTop (mkF m 19 #[.val (.ref o1), .val (.ref o2), .val (.int (0 : Int32))] [(.ref o2), (.int (112 : Int32))])) _
        refine XS.iloadN X0.here hx rfl (hb hby d15_19) rfl ?_
        exact kz
      refine OG.step s9 ?_
      have av10 := Gx_o2_00
      obtain ⟨cl10, Ar10, qa_10, Sa_10, Nn_10, Ha_10, Ga_10⟩ := av10
      have hin10 : ¬ ((0 : Int32) < 0 ∨ cl10.slots.size ≤ ((0 : Int32)).toNatClampNeg) := inb_of Sa_10 ⟨(by decide), (by decide)⟩
      have hat10 : cl10.slots[((0 : Int32)).toNatClampNeg]? = some (.int (112 : Int32)) := Ha_10.at hin10 rfl
      refine OG.step (X0.baloadBytes hx (j := (0 : Int32)) (v := (.int (112 : Int32))) (by rw [e0]; exact Ar10.1) (State.isArrayOf_alike hZ.alike Ar10.2.1) Ar10.2.2 hin10 hat10 (g := (mkF m 20 #[.val (.ref o1), .val (.ref o2), .val (.int (0 : Int32))] [(.int (0 : Int32)), (.ref o2), (.int (112 : Int32))])) rfl rfl (hb hby d15_20)) ?_
      show OG _ _ _ _ _ _ _ (s₁.setTop (mkF m 21 #[.val (.ref o1), .val (.ref o2), .val (.int (0 : Int32))] [(.int (112 : Int32)), (.int (112 : Int32))]))
      have s11 : ∀ tz, Steps p.tables e below (s₁.setTop (mkF m 11 #[.val (.ref o1), .val (.ref o2), .val (.int (1 : Int32))] [(.ref o1), (.int (1 : Int32))])) tz → Steps p.tables e below (s₁.setTop (mkF m 21 #[.val (.ref o1), .val (.ref o2), .val (.int (0 : Int32))] [(.int (112 : Int32)), (.int (112 : Int32))])) tz := by
        intro tz kz
        refine XS.icmpYes X0.here hx rfl (pc0 := 21) (pc' := 26) rfl (hb hby d15_21) rfl (teq (by decide)).1 (by decide) (by decide) ?_
        show Steps p.tables e below (s₁.setTop (mkF m 26 #[.val (.ref o1), .val (.ref o2), .val (.int (0 : Int32))] [])) _
        refine XS.iinc X0.here hx rfl (hb hby d15_26) rfl (l' := #[.val (.ref o1), .val (.ref o2), .val (.int (1 : Int32))]) rfl ?_
        show Steps p.tables e below (s₁.setTop (mkF m 29 #[.val (.ref o1), .val (.ref o2), .val (.int (1 : Int32))] [])) _
        refine XS.goto X0.here hx rfl (pc0 := 29) (pc' := 9) rfl (hb hby d15_29) (by decide) (by decide) ?_
        show Steps p.tables e below (s₁.setTop (mkF m 9 #[.val (.ref o1), .val (.ref o2), .val (.int (1 : Int32))] [])) _
        refine XS.iloadN X0.here hx rfl (hb hby d15_9) rfl ?_
        show Steps p.tables e below (s₁.setTop (mkF m 10 #[.val (.ref o1), .val (.ref o2), .val (.int (1 : Int32))] [(.int (1 : Int32))])) _
        refine XS.aloadN X0.here hx rfl (hb hby d15_10) rfl rfl ?_
        exact kz
      refine OG.step s11 ?_
      have av12 := Gx_o1_00
      obtain ⟨cl12, Ar12, qa_12, Sa_12, Nn_12, Ha_12, Ga_12⟩ := av12
      refine OG.step (X0.arraylength hx (by rw [e0]; exact Ar12.1) (State.isArrayOf_alike hZ.alike Ar12.2.1) (g := (mkF m 11 #[.val (.ref o1), .val (.ref o2), .val (.int (1 : Int32))] [(.ref o1), (.int (1 : Int32))])) rfl rfl (hb hby d15_11)) ?_
      rw [len_of Sa_12 Nn_12]
      show OG _ _ _ _ _ _ _ (s₁.setTop (mkF m 12 #[.val (.ref o1), .val (.ref o2), .val (.int (1 : Int32))] [(.int (7 : Int32)), (.int (1 : Int32))]))
      have s13 : ∀ tz, Steps p.tables e below (s₁.setTop (mkF m 17 #[.val (.ref o1), .val (.ref o2), .val (.int (1 : Int32))] [(.int (1 : Int32)), (.ref o1)])) tz → Steps p.tables e below (s₁.setTop (mkF m 12 #[.val (.ref o1), .val (.ref o2), .val (.int (1 : Int32))] [(.int (7 : Int32)), (.int (1 : Int32))])) tz := by
        intro tz kz
        refine XS.icmpNo X0.here hx rfl (hb hby d15_12) rfl (tlt (by decide)).2.1 ?_
        show Steps p.tables e below (s₁.setTop (mkF m 15 #[.val (.ref o1), .val (.ref o2), .val (.int (1 : Int32))] [])) _
        refine XS.aloadN X0.here hx rfl (hb hby d15_15) rfl rfl ?_
        show Steps p.tables e below (s₁.setTop (mkF m 16 #[.val (.ref o1), .val (.ref o2), .val (.int (1 : Int32))] [(.ref o1)])) _
        refine XS.iloadN X0.here hx rfl (hb hby d15_16) rfl ?_
        exact kz
      refine OG.step s13 ?_
      have av14 := Gx_o1_00
      obtain ⟨cl14, Ar14, qa_14, Sa_14, Nn_14, Ha_14, Ga_14⟩ := av14
      have hin14 : ¬ ((1 : Int32) < 0 ∨ cl14.slots.size ≤ ((1 : Int32)).toNatClampNeg) := inb_of Sa_14 ⟨(by decide), (by decide)⟩
      have hat14 : cl14.slots[((1 : Int32)).toNatClampNeg]? = some (.int (97 : Int32)) := Ha_14.at hin14 rfl
      refine OG.step (X0.baloadBytes hx (j := (1 : Int32)) (v := (.int (97 : Int32))) (by rw [e0]; exact Ar14.1) (State.isArrayOf_alike hZ.alike Ar14.2.1) Ar14.2.2 hin14 hat14 (g := (mkF m 17 #[.val (.ref o1), .val (.ref o2), .val (.int (1 : Int32))] [(.int (1 : Int32)), (.ref o1)])) rfl rfl (hb hby d15_17)) ?_
      show OG _ _ _ _ _ _ _ (s₁.setTop (mkF m 18 #[.val (.ref o1), .val (.ref o2), .val (.int (1 : Int32))] [(.int (97 : Int32))]))
      have s15 : ∀ tz, Steps p.tables e below (s₁.setTop (mkF m 20 #[.val (.ref o1), .val (.ref o2), .val (.int (1 : Int32))] [(.int (1 : Int32)), (.ref o2), (.int (97 : Int32))])) tz → Steps p.tables e below (s₁.setTop (mkF m 18 #[.val (.ref o1), .val (.ref o2), .val (.int (1 : Int32))] [(.int (97 : Int32))])) tz := by
        intro tz kz
        refine XS.aloadN X0.here hx rfl (hb hby d15_18) rfl rfl ?_
        show Steps p.tables e below (s₁.setTop (mkF m 19 #[.val (.ref o1), .val (.ref o2), .val (.int (1 : Int32))] [(.ref o2), (.int (97 : Int32))])) _
        refine XS.iloadN X0.here hx rfl (hb hby d15_19) rfl ?_
        exact kz
      refine OG.step s15 ?_
      have av16 := Gx_o2_00
      obtain ⟨cl16, Ar16, qa_16, Sa_16, Nn_16, Ha_16, Ga_16⟩ := av16
      have hin16 : ¬ ((1 : Int32) < 0 ∨ cl16.slots.size ≤ ((1 : Int32)).toNatClampNeg) := inb_of Sa_16 ⟨(by decide), (by decide)⟩
      have hat16 : cl16.slots[((1 : Int32)).toNatClampNeg]? = some (.int (97 : Int32)) := Ha_16.at hin16 rfl
      refine OG.step (X0.baloadBytes hx (j := (1 : Int32)) (v := (.int (97 : Int32))) (by rw [e0]; exact Ar16.1) (State.isArrayOf_alike hZ.alike Ar16.2.1) Ar16.2.2 hin16 hat16 (g := (mkF m 20 #[.val (.ref o1), .val (.ref o2), .val (.int (1 : Int32))] [(.int (1 : Int32)), (.ref o2), (.int (97 : Int32))])) rfl rfl (hb hby d15_20)) ?_
      show OG _ _ _ _ _ _ _ (s₁.setTop (mkF m 21 #[.val (.ref o1), .val (.ref o2), .val (.int (1 : Int32))] [(.int (97 : Int32)), (.int (97 : Int32))]))
      have s17 : ∀ tz, Steps p.tables e below (s₁.setTop (mkF m 11 #[.val (.ref o1), .val (.ref o2), .val (.int (2 : Int32))] [(.ref o1), (.int (2 : Int32))])) tz → Steps p.tables e below (s₁.setTop (mkF m 21 #[.val (.ref o1), .val (.ref o2), .val (.int (1 : Int32))] [(.int (97 : Int32)), (.int (97 : Int32))])) tz := by
        intro tz kz
        refine XS.icmpYes X0.here hx rfl (pc0 := 21) (pc' := 26) rfl (hb hby d15_21) rfl (teq (by decide)).1 (by decide) (by decide) ?_
        show Steps p.tables e below (s₁.setTop (mkF m 26 #[.val (.ref o1), .val (.ref o2), .val (.int (1 : Int32))] [])) _
        refine XS.iinc X0.here hx rfl (hb hby d15_26) rfl (l' := #[.val (.ref o1), .val (.ref o2), .val (.int (2 : Int32))]) rfl ?_
        show Steps p.tables e below (s₁.setTop (mkF m 29 #[.val (.ref o1), .val (.ref o2), .val (.int (2 : Int32))] [])) _
        refine XS.goto X0.here hx rfl (pc0 := 29) (pc' := 9) rfl (hb hby d15_29) (by decide) (by decide) ?_
        show Steps p.tables e below (s₁.setTop (mkF m 9 #[.val (.ref o1), .val (.ref o2), .val (.int (2 : Int32))] [])) _
        refine XS.iloadN X0.here hx rfl (hb hby d15_9) rfl ?_
        show Steps p.tables e below (s₁.setTop (mkF m 10 #[.val (.ref o1), .val (.ref o2), .val (.int (2 : Int32))] [(.int (2 : Int32))])) _
        refine XS.aloadN X0.here hx rfl (hb hby d15_10) rfl rfl ?_
        exact kz
      refine OG.step s17 ?_
      have av18 := Gx_o1_00
      obtain ⟨cl18, Ar18, qa_18, Sa_18, Nn_18, Ha_18, Ga_18⟩ := av18
      refine OG.step (X0.arraylength hx (by rw [e0]; exact Ar18.1) (State.isArrayOf_alike hZ.alike Ar18.2.1) (g := (mkF m 11 #[.val (.ref o1), .val (.ref o2), .val (.int (2 : Int32))] [(.ref o1), (.int (2 : Int32))])) rfl rfl (hb hby d15_11)) ?_
      rw [len_of Sa_18 Nn_18]
      show OG _ _ _ _ _ _ _ (s₁.setTop (mkF m 12 #[.val (.ref o1), .val (.ref o2), .val (.int (2 : Int32))] [(.int (7 : Int32)), (.int (2 : Int32))]))
      have s19 : ∀ tz, Steps p.tables e below (s₁.setTop (mkF m 17 #[.val (.ref o1), .val (.ref o2), .val (.int (2 : Int32))] [(.int (2 : Int32)), (.ref o1)])) tz → Steps p.tables e below (s₁.setTop (mkF m 12 #[.val (.ref o1), .val (.ref o2), .val (.int (2 : Int32))] [(.int (7 : Int32)), (.int (2 : Int32))])) tz := by
        intro tz kz
        refine XS.icmpNo X0.here hx rfl (hb hby d15_12) rfl (tlt (by decide)).2.1 ?_
        show Steps p.tables e below (s₁.setTop (mkF m 15 #[.val (.ref o1), .val (.ref o2), .val (.int (2 : Int32))] [])) _
        refine XS.aloadN X0.here hx rfl (hb hby d15_15) rfl rfl ?_
        show Steps p.tables e below (s₁.setTop (mkF m 16 #[.val (.ref o1), .val (.ref o2), .val (.int (2 : Int32))] [(.ref o1)])) _
        refine XS.iloadN X0.here hx rfl (hb hby d15_16) rfl ?_
        exact kz
      refine OG.step s19 ?_
      have av20 := Gx_o1_00
      obtain ⟨cl20, Ar20, qa_20, Sa_20, Nn_20, Ha_20, Ga_20⟩ := av20
      have hin20 : ¬ ((2 : Int32) < 0 ∨ cl20.slots.size ≤ ((2 : Int32)).toNatClampNeg) := inb_of Sa_20 ⟨(by decide), (by decide)⟩
      have hat20 : cl20.slots[((2 : Int32)).toNatClampNeg]? = some (.int (116 : Int32)) := Ha_20.at hin20 rfl
      refine OG.step (X0.baloadBytes hx (j := (2 : Int32)) (v := (.int (116 : Int32))) (by rw [e0]; exact Ar20.1) (State.isArrayOf_alike hZ.alike Ar20.2.1) Ar20.2.2 hin20 hat20 (g := (mkF m 17 #[.val (.ref o1), .val (.ref o2), .val (.int (2 : Int32))] [(.int (2 : Int32)), (.ref o1)])) rfl rfl (hb hby d15_17)) ?_
      show OG _ _ _ _ _ _ _ (s₁.setTop (mkF m 18 #[.val (.ref o1), .val (.ref o2), .val (.int (2 : Int32))] [(.int (116 : Int32))]))
      have s21 : ∀ tz, Steps p.tables e below (s₁.setTop (mkF m 20 #[.val (.ref o1), .val (.ref o2), .val (.int (2 : Int32))] [(.int (2 : Int32)), (.ref o2), (.int (116 : Int32))])) tz → Steps p.tables e below (s₁.setTop (mkF m 18 #[.val (.ref o1), .val (.ref o2), .val (.int (2 : Int32))] [(.int (116 : Int32))])) tz := by
        intro tz kz
        refine XS.aloadN X0.here hx rfl (hb hby d15_18) rfl rfl ?_
        show Steps p.tables e below (s₁.setTop (mkF m 19 #[.val (.ref o1), .val (.ref o2), .val (.int (2 : Int32))] [(.ref o2), (.int (116 : Int32))])) _
        refine XS.iloadN X0.here hx rfl (hb hby d15_19) rfl ?_
        exact kz
      refine OG.step s21 ?_
      have av22 := Gx_o2_00
      obtain ⟨cl22, Ar22, qa_22, Sa_22, Nn_22, Ha_22, Ga_22⟩ := av22
      have hin22 : ¬ ((2 : Int32) < 0 ∨ cl22.slots.size ≤ ((2 : Int32)).toNatClampNeg) := inb_of Sa_22 ⟨(by decide), (by decide)⟩
      have hat22 : cl22.slots[((2 : Int32)).toNatClampNeg]? = some (.int (116 : Int32)) := Ha_22.at hin22 rfl
      refine OG.step (X0.baloadBytes hx (j := (2 : Int32)) (v := (.int (116 : Int32))) (by rw [e0]; exact Ar22.1) (State.isArrayOf_alike hZ.alike Ar22.2.1) Ar22.2.2 hin22 hat22 (g := (mkF m 20 #[.val (.ref o1), .val (.ref o2), .val (.int (2 : Int32))] [(.int (2 : Int32)), (.ref o2), (.int (116 : Int32))])) rfl rfl (hb hby d15_20)) ?_
      show OG _ _ _ _ _ _ _ (s₁.setTop (mkF m 21 #[.val (.ref o1), .val (.ref o2), .val (.int (2 : Int32))] [(.int (116 : Int32)), (.int (116 : Int32))]))
      have s23 : ∀ tz, Steps p.tables e below (s₁.setTop (mkF m 11 #[.val (.ref o1), .val (.ref o2), .val (.int (3 : Int32))] [(.ref o1), (.int (3 : Int32))])) tz → Steps p.tables e below (s₁.setTop (mkF m 21 #[.val (.ref o1), .val (.ref o2), .val (.int (2 : Int32))] [(.int (116 : Int32)), (.int (116 : Int32))])) tz := by
        intro tz kz
        refine XS.icmpYes X0.here hx rfl (pc0 := 21) (pc' := 26) rfl (hb hby d15_21) rfl (teq (by decide)).1 (by decide) (by decide) ?_
        show Steps p.tables e below (s₁.setTop (mkF m 26 #[.val (.ref o1), .val (.ref o2), .val (.int (2 : Int32))] [])) _
        refine XS.iinc X0.here hx rfl (hb hby d15_26) rfl (l' := #[.val (.ref o1), .val (.ref o2), .val (.int (3 : Int32))]) rfl ?_
        show Steps p.tables e below (s₁.setTop (mkF m 29 #[.val (.ref o1), .val (.ref o2), .val (.int (3 : Int32))] [])) _
        refine XS.goto X0.here hx rfl (pc0 := 29) (pc' := 9) rfl (hb hby d15_29) (by decide) (by decide) ?_
        show Steps p.tables e below (s₁.setTop (mkF m 9 #[.val (.ref o1), .val (.ref o2), .val (.int (3 : Int32))] [])) _
        refine XS.iloadN X0.here hx rfl (hb hby d15_9) rfl ?_
        show Steps p.tables e below (s₁.setTop (mkF m 10 #[.val (.ref o1), .val (.ref o2), .val (.int (3 : Int32))] [(.int (3 : Int32))])) _
        refine XS.aloadN X0.here hx rfl (hb hby d15_10) rfl rfl ?_
        exact kz
      refine OG.step s23 ?_
      have av24 := Gx_o1_00
      obtain ⟨cl24, Ar24, qa_24, Sa_24, Nn_24, Ha_24, Ga_24⟩ := av24
      refine OG.step (X0.arraylength hx (by rw [e0]; exact Ar24.1) (State.isArrayOf_alike hZ.alike Ar24.2.1) (g := (mkF m 11 #[.val (.ref o1), .val (.ref o2), .val (.int (3 : Int32))] [(.ref o1), (.int (3 : Int32))])) rfl rfl (hb hby d15_11)) ?_
      rw [len_of Sa_24 Nn_24]
      show OG _ _ _ _ _ _ _ (s₁.setTop (mkF m 12 #[.val (.ref o1), .val (.ref o2), .val (.int (3 : Int32))] [(.int (7 : Int32)), (.int (3 : Int32))]))
      have s25 : ∀ tz, Steps p.tables e below (s₁.setTop (mkF m 17 #[.val (.ref o1), .val (.ref o2), .val (.int (3 : Int32))] [(.int (3 : Int32)), (.ref o1)])) tz → Steps p.tables e below (s₁.setTop (mkF m 12 #[.val (.ref o1), .val (.ref o2), .val (.int (3 : Int32))] [(.int (7 : Int32)), (.int (3 : Int32))])) tz := by
        intro tz kz
        refine XS.icmpNo X0.here hx rfl (hb hby d15_12) rfl (tlt (by decide)).2.1 ?_
        show Steps p.tables e below (s₁.setTop (mkF m 15 #[.val (.ref o1), .val (.ref o2), .val (.int (3 : Int32))] [])) _
        refine XS.aloadN X0.here hx rfl (hb hby d15_15) rfl rfl ?_
        show Steps p.tables e below (s₁.setTop (mkF m 16 #[.val (.ref o1), .val (.ref o2), .val (.int (3 : Int32))] [(.ref o1)])) _
        refine XS.iloadN X0.here hx rfl (hb hby d15_16) rfl ?_
        exact kz
      refine OG.step s25 ?_
      have av26 := Gx_o1_00
      obtain ⟨cl26, Ar26, qa_26, Sa_26, Nn_26, Ha_26, Ga_26⟩ := av26
      have hin26 : ¬ ((3 : Int32) < 0 ∨ cl26.slots.size ≤ ((3 : Int32)).toNatClampNeg) := inb_of Sa_26 ⟨(by decide), (by decide)⟩
      have hat26 : cl26.slots[((3 : Int32)).toNatClampNeg]? = some (.int (105 : Int32)) := Ha_26.at hin26 rfl
      refine OG.step (X0.baloadBytes hx (j := (3 : Int32)) (v := (.int (105 : Int32))) (by rw [e0]; exact Ar26.1) (State.isArrayOf_alike hZ.alike Ar26.2.1) Ar26.2.2 hin26 hat26 (g := (mkF m 17 #[.val (.ref o1), .val (.ref o2), .val (.int (3 : Int32))] [(.int (3 : Int32)), (.ref o1)])) rfl rfl (hb hby d15_17)) ?_
      show OG _ _ _ _ _ _ _ (s₁.setTop (mkF m 18 #[.val (.ref o1), .val (.ref o2), .val (.int (3 : Int32))] [(.int (105 : Int32))]))
      have s27 : ∀ tz, Steps p.tables e below (s₁.setTop (mkF m 20 #[.val (.ref o1), .val (.ref o2), .val (.int (3 : Int32))] [(.int (3 : Int32)), (.ref o2), (.int (105 : Int32))])) tz → Steps p.tables e below (s₁.setTop (mkF m 18 #[.val (.ref o1), .val (.ref o2), .val (.int (3 : Int32))] [(.int (105 : Int32))])) tz := by
        intro tz kz
        refine XS.aloadN X0.here hx rfl (hb hby d15_18) rfl rfl ?_
        show Steps p.tables e below (s₁.setTop (mkF m 19 #[.val (.ref o1), .val (.ref o2), .val (.int (3 : Int32))] [(.ref o2), (.int (105 : Int32))])) _
        refine XS.iloadN X0.here hx rfl (hb hby d15_19) rfl ?_
        exact kz
      refine OG.step s27 ?_
      have av28 := Gx_o2_00
      obtain ⟨cl28, Ar28, qa_28, Sa_28, Nn_28, Ha_28, Ga_28⟩ := av28
      have hin28 : ¬ ((3 : Int32) < 0 ∨ cl28.slots.size ≤ ((3 : Int32)).toNatClampNeg) := inb_of Sa_28 ⟨(by decide), (by decide)⟩
      have hat28 : cl28.slots[((3 : Int32)).toNatClampNeg]? = some (.int (105 : Int32)) := Ha_28.at hin28 rfl
      refine OG.step (X0.baloadBytes hx (j := (3 : Int32)) (v := (.int (105 : Int32))) (by rw [e0]; exact Ar28.1) (State.isArrayOf_alike hZ.alike Ar28.2.1) Ar28.2.2 hin28 hat28 (g := (mkF m 20 #[.val (.ref o1), .val (.ref o2), .val (.int (3 : Int32))] [(.int (3 : Int32)), (.ref o2), (.int (105 : Int32))])) rfl rfl (hb hby d15_20)) ?_
      show OG _ _ _ _ _ _ _ (s₁.setTop (mkF m 21 #[.val (.ref o1), .val (.ref o2), .val (.int (3 : Int32))] [(.int (105 : Int32)), (.int (105 : Int32))]))
      have s29 : ∀ tz, Steps p.tables e below (s₁.setTop (mkF m 11 #[.val (.ref o1), .val (.ref o2), .val (.int (4 : Int32))] [(.ref o1), (.int (4 : Int32))])) tz → Steps p.tables e below (s₁.setTop (mkF m 21 #[.val (.ref o1), .val (.ref o2), .val (.int (3 : Int32))] [(.int (105 : Int32)), (.int (105 : Int32))])) tz := by
        intro tz kz
        refine XS.icmpYes X0.here hx rfl (pc0 := 21) (pc' := 26) rfl (hb hby d15_21) rfl (teq (by decide)).1 (by decide) (by decide) ?_
        show Steps p.tables e below (s₁.setTop (mkF m 26 #[.val (.ref o1), .val (.ref o2), .val (.int (3 : Int32))] [])) _
        refine XS.iinc X0.here hx rfl (hb hby d15_26) rfl (l' := #[.val (.ref o1), .val (.ref o2), .val (.int (4 : Int32))]) rfl ?_
        show Steps p.tables e below (s₁.setTop (mkF m 29 #[.val (.ref o1), .val (.ref o2), .val (.int (4 : Int32))] [])) _
        refine XS.goto X0.here hx rfl (pc0 := 29) (pc' := 9) rfl (hb hby d15_29) (by decide) (by decide) ?_
        show Steps p.tables e below (s₁.setTop (mkF m 9 #[.val (.ref o1), .val (.ref o2), .val (.int (4 : Int32))] [])) _
        refine XS.iloadN X0.here hx rfl (hb hby d15_9) rfl ?_
        show Steps p.tables e below (s₁.setTop (mkF m 10 #[.val (.ref o1), .val (.ref o2), .val (.int (4 : Int32))] [(.int (4 : Int32))])) _
        refine XS.aloadN X0.here hx rfl (hb hby d15_10) rfl rfl ?_
        exact kz
      refine OG.step s29 ?_
      have av30 := Gx_o1_00
      obtain ⟨cl30, Ar30, qa_30, Sa_30, Nn_30, Ha_30, Ga_30⟩ := av30
      refine OG.step (X0.arraylength hx (by rw [e0]; exact Ar30.1) (State.isArrayOf_alike hZ.alike Ar30.2.1) (g := (mkF m 11 #[.val (.ref o1), .val (.ref o2), .val (.int (4 : Int32))] [(.ref o1), (.int (4 : Int32))])) rfl rfl (hb hby d15_11)) ?_
      rw [len_of Sa_30 Nn_30]
      show OG _ _ _ _ _ _ _ (s₁.setTop (mkF m 12 #[.val (.ref o1), .val (.ref o2), .val (.int (4 : Int32))] [(.int (7 : Int32)), (.int (4 : Int32))]))
      have s31 : ∀ tz, Steps p.tables e below (s₁.setTop (mkF m 17 #[.val (.ref o1), .val (.ref o2), .val (.int (4 : Int32))] [(.int (4 : Int32)), (.ref o1)])) tz → Steps p.tables e below (s₁.setTop (mkF m 12 #[.val (.ref o1), .val (.ref o2), .val (.int (4 : Int32))] [(.int (7 : Int32)), (.int (4 : Int32))])) tz := by
        intro tz kz
        refine XS.icmpNo X0.here hx rfl (hb hby d15_12) rfl (tlt (by decide)).2.1 ?_
        show Steps p.tables e below (s₁.setTop (mkF m 15 #[.val (.ref o1), .val (.ref o2), .val (.int (4 : Int32))] [])) _
        refine XS.aloadN X0.here hx rfl (hb hby d15_15) rfl rfl ?_
        show Steps p.tables e below (s₁.setTop (mkF m 16 #[.val (.ref o1), .val (.ref o2), .val (.int (4 : Int32))] [(.ref o1)])) _
        refine XS.iloadN X0.here hx rfl (hb hby d15_16) rfl ?_
        exact kz
      refine OG.step s31 ?_
      have av32 := Gx_o1_00
      obtain ⟨cl32, Ar32, qa_32, Sa_32, Nn_32, Ha_32, Ga_32⟩ := av32
      have hin32 : ¬ ((4 : Int32) < 0 ∨ cl32.slots.size ≤ ((4 : Int32)).toNatClampNeg) := inb_of Sa_32 ⟨(by decide), (by decide)⟩
      have hat32 : cl32.slots[((4 : Int32)).toNatClampNeg]? = some (.int (101 : Int32)) := Ha_32.at hin32 rfl
      refine OG.step (X0.baloadBytes hx (j := (4 : Int32)) (v := (.int (101 : Int32))) (by rw [e0]; exact Ar32.1) (State.isArrayOf_alike hZ.alike Ar32.2.1) Ar32.2.2 hin32 hat32 (g := (mkF m 17 #[.val (.ref o1), .val (.ref o2), .val (.int (4 : Int32))] [(.int (4 : Int32)), (.ref o1)])) rfl rfl (hb hby d15_17)) ?_
      show OG _ _ _ _ _ _ _ (s₁.setTop (mkF m 18 #[.val (.ref o1), .val (.ref o2), .val (.int (4 : Int32))] [(.int (101 : Int32))]))
      have s33 : ∀ tz, Steps p.tables e below (s₁.setTop (mkF m 20 #[.val (.ref o1), .val (.ref o2), .val (.int (4 : Int32))] [(.int (4 : Int32)), (.ref o2), (.int (101 : Int32))])) tz → Steps p.tables e below (s₁.setTop (mkF m 18 #[.val (.ref o1), .val (.ref o2), .val (.int (4 : Int32))] [(.int (101 : Int32))])) tz := by
        intro tz kz
        refine XS.aloadN X0.here hx rfl (hb hby d15_18) rfl rfl ?_
        show Steps p.tables e below (s₁.setTop (mkF m 19 #[.val (.ref o1), .val (.ref o2), .val (.int (4 : Int32))] [(.ref o2), (.int (101 : Int32))])) _
        refine XS.iloadN X0.here hx rfl (hb hby d15_19) rfl ?_
        exact kz
      refine OG.step s33 ?_
      have av34 := Gx_o2_00
      obtain ⟨cl34, Ar34, qa_34, Sa_34, Nn_34, Ha_34, Ga_34⟩ := av34
      have hin34 : ¬ ((4 : Int32) < 0 ∨ cl34.slots.size ≤ ((4 : Int32)).toNatClampNeg) := inb_of Sa_34 ⟨(by decide), (by decide)⟩
      have hat34 : cl34.slots[((4 : Int32)).toNatClampNeg]? = some (.int (101 : Int32)) := Ha_34.at hin34 rfl
      refine OG.step (X0.baloadBytes hx (j := (4 : Int32)) (v := (.int (101 : Int32))) (by rw [e0]; exact Ar34.1) (State.isArrayOf_alike hZ.alike Ar34.2.1) Ar34.2.2 hin34 hat34 (g := (mkF m 20 #[.val (.ref o1), .val (.ref o2), .val (.int (4 : Int32))] [(.int (4 : Int32)), (.ref o2), (.int (101 : Int32))])) rfl rfl (hb hby d15_20)) ?_
      show OG _ _ _ _ _ _ _ (s₁.setTop (mkF m 21 #[.val (.ref o1), .val (.ref o2), .val (.int (4 : Int32))] [(.int (101 : Int32)), (.int (101 : Int32))]))
      have s35 : ∀ tz, Steps p.tables e below (s₁.setTop (mkF m 11 #[.val (.ref o1), .val (.ref o2), .val (.int (5 : Int32))] [(.ref o1), (.int (5 : Int32))])) tz → Steps p.tables e below (s₁.setTop (mkF m 21 #[.val (.ref o1), .val (.ref o2), .val (.int (4 : Int32))] [(.int (101 : Int32)), (.int (101 : Int32))])) tz := by
        intro tz kz
        refine XS.icmpYes X0.here hx rfl (pc0 := 21) (pc' := 26) rfl (hb hby d15_21) rfl (teq (by decide)).1 (by decide) (by decide) ?_
        show Steps p.tables e below (s₁.setTop (mkF m 26 #[.val (.ref o1), .val (.ref o2), .val (.int (4 : Int32))] [])) _
        refine XS.iinc X0.here hx rfl (hb hby d15_26) rfl (l' := #[.val (.ref o1), .val (.ref o2), .val (.int (5 : Int32))]) rfl ?_
        show Steps p.tables e below (s₁.setTop (mkF m 29 #[.val (.ref o1), .val (.ref o2), .val (.int (5 : Int32))] [])) _
        refine XS.goto X0.here hx rfl (pc0 := 29) (pc' := 9) rfl (hb hby d15_29) (by decide) (by decide) ?_
        show Steps p.tables e below (s₁.setTop (mkF m 9 #[.val (.ref o1), .val (.ref o2), .val (.int (5 : Int32))] [])) _
        refine XS.iloadN X0.here hx rfl (hb hby d15_9) rfl ?_
        show Steps p.tables e below (s₁.setTop (mkF m 10 #[.val (.ref o1), .val (.ref o2), .val (.int (5 : Int32))] [(.int (5 : Int32))])) _
        refine XS.aloadN X0.here hx rfl (hb hby d15_10) rfl rfl ?_
        exact kz
      refine OG.step s35 ?_
      have av36 := Gx_o1_00
      obtain ⟨cl36, Ar36, qa_36, Sa_36, Nn_36, Ha_36, Ga_36⟩ := av36
      refine OG.step (X0.arraylength hx (by rw [e0]; exact Ar36.1) (State.isArrayOf_alike hZ.alike Ar36.2.1) (g := (mkF m 11 #[.val (.ref o1), .val (.ref o2), .val (.int (5 : Int32))] [(.ref o1), (.int (5 : Int32))])) rfl rfl (hb hby d15_11)) ?_
      rw [len_of Sa_36 Nn_36]
      show OG _ _ _ _ _ _ _ (s₁.setTop (mkF m 12 #[.val (.ref o1), .val (.ref o2), .val (.int (5 : Int32))] [(.int (7 : Int32)), (.int (5 : Int32))]))
      have s37 : ∀ tz, Steps p.tables e below (s₁.setTop (mkF m 17 #[.val (.ref o1), .val (.ref o2), .val (.int (5 : Int32))] [(.int (5 : Int32)), (.ref o1)])) tz → Steps p.tables e below (s₁.setTop (mkF m 12 #[.val (.ref o1), .val (.ref o2), .val (.int (5 : Int32))] [(.int (7 : Int32)), (.int (5 : Int32))])) tz := by
        intro tz kz
        refine XS.icmpNo X0.here hx rfl (hb hby d15_12) rfl (tlt (by decide)).2.1 ?_
        show Steps p.tables e below (s₁.setTop (mkF m 15 #[.val (.ref o1), .val (.ref o2), .val (.int (5 : Int32))] [])) _
        refine XS.aloadN X0.here hx rfl (hb hby d15_15) rfl rfl ?_
        show Steps p.tables e below (s₁.setTop (mkF m 16 #[.val (.ref o1), .val (.ref o2), .val (.int (5 : Int32))] [(.ref o1)])) _
        refine XS.iloadN X0.here hx rfl (hb hby d15_16) rfl ?_
        exact kz
      refine OG.step s37 ?_
      have av38 := Gx_o1_00
      obtain ⟨cl38, Ar38, qa_38, Sa_38, Nn_38, Ha_38, Ga_38⟩ := av38
      have hin38 : ¬ ((5 : Int32) < 0 ∨ cl38.slots.size ≤ ((5 : Int32)).toNatClampNeg) := inb_of Sa_38 ⟨(by decide), (by decide)⟩
      have hat38 : cl38.slots[((5 : Int32)).toNatClampNeg]? = some (.int (110 : Int32)) := Ha_38.at hin38 rfl
      refine OG.step (X0.baloadBytes hx (j := (5 : Int32)) (v := (.int (110 : Int32))) (by rw [e0]; exact Ar38.1) (State.isArrayOf_alike hZ.alike Ar38.2.1) Ar38.2.2 hin38 hat38 (g := (mkF m 17 #[.val (.ref o1), .val (.ref o2), .val (.int (5 : Int32))] [(.int (5 : Int32)), (.ref o1)])) rfl rfl (hb hby d15_17)) ?_
      show OG _ _ _ _ _ _ _ (s₁.setTop (mkF m 18 #[.val (.ref o1), .val (.ref o2), .val (.int (5 : Int32))] [(.int (110 : Int32))]))
      have s39 : ∀ tz, Steps p.tables e below (s₁.setTop (mkF m 20 #[.val (.ref o1), .val (.ref o2), .val (.int (5 : Int32))] [(.int (5 : Int32)), (.ref o2), (.int (110 : Int32))])) tz → Steps p.tables e below (s₁.setTop (mkF m 18 #[.val (.ref o1), .val (.ref o2), .val (.int (5 : Int32))] [(.int (110 : Int32))])) tz := by
        intro tz kz
        refine XS.aloadN X0.here hx rfl (hb hby d15_18) rfl rfl ?_
        show Steps p.tables e below (s₁.setTop (mkF m 19 #[.val (.ref o1), .val (.ref o2), .val (.int (5 : Int32))] [(.ref o2), (.int (110 : Int32))])) _
        refine XS.iloadN X0.here hx rfl (hb hby d15_19) rfl ?_
        exact kz
      refine OG.step s39 ?_
      have av40 := Gx_o2_00
      obtain ⟨cl40, Ar40, qa_40, Sa_40, Nn_40, Ha_40, Ga_40⟩ := av40
      have hin40 : ¬ ((5 : Int32) < 0 ∨ cl40.slots.size ≤ ((5 : Int32)).toNatClampNeg) := inb_of Sa_40 ⟨(by decide), (by decide)⟩
      have hat40 : cl40.slots[((5 : Int32)).toNatClampNeg]? = some (.int (110 : Int32)) := Ha_40.at hin40 rfl
      refine OG.step (X0.baloadBytes hx (j := (5 : Int32)) (v := (.int (110 : Int32))) (by rw [e0]; exact Ar40.1) (State.isArrayOf_alike hZ.alike Ar40.2.1) Ar40.2.2 hin40 hat40 (g := (mkF m 20 #[.val (.ref o1), .val (.ref o2), .val (.int (5 : Int32))] [(.int (5 : Int32)), (.ref o2), (.int (110 : Int32))])) rfl rfl (hb hby d15_20)) ?_
      show OG _ _ _ _ _ _ _ (s₁.setTop (mkF m 21 #[.val (.ref o1), .val (.ref o2), .val (.int (5 : Int32))] [(.int (110 : Int32)), (.int (110 : Int32))]))
      have s41 : ∀ tz, Steps p.tables e below (s₁.setTop (mkF m 11 #[.val (.ref o1), .val (.ref o2), .val (.int (6 : Int32))] [(.ref o1), (.int (6 : Int32))])) tz → Steps p.tables e below (s₁.setTop (mkF m 21 #[.val (.ref o1), .val (.ref o2), .val (.int (5 : Int32))] [(.int (110 : Int32)), (.int (110 : Int32))])) tz := by
        intro tz kz
        refine XS.icmpYes X0.here hx rfl (pc0 := 21) (pc' := 26) rfl (hb hby d15_21) rfl (teq (by decide)).1 (by decide) (by decide) ?_
        show Steps p.tables e below (s₁.setTop (mkF m 26 #[.val (.ref o1), .val (.ref o2), .val (.int (5 : Int32))] [])) _
        refine XS.iinc X0.here hx rfl (hb hby d15_26) rfl (l' := #[.val (.ref o1), .val (.ref o2), .val (.int (6 : Int32))]) rfl ?_
        show Steps p.tables e below (s₁.setTop (mkF m 29 #[.val (.ref o1), .val (.ref o2), .val (.int (6 : Int32))] [])) _
        refine XS.goto X0.here hx rfl (pc0 := 29) (pc' := 9) rfl (hb hby d15_29) (by decide) (by decide) ?_
        show Steps p.tables e below (s₁.setTop (mkF m 9 #[.val (.ref o1), .val (.ref o2), .val (.int (6 : Int32))] [])) _
        refine XS.iloadN X0.here hx rfl (hb hby d15_9) rfl ?_
        show Steps p.tables e below (s₁.setTop (mkF m 10 #[.val (.ref o1), .val (.ref o2), .val (.int (6 : Int32))] [(.int (6 : Int32))])) _
        refine XS.aloadN X0.here hx rfl (hb hby d15_10) rfl rfl ?_
        exact kz
      refine OG.step s41 ?_
      have av42 := Gx_o1_00
      obtain ⟨cl42, Ar42, qa_42, Sa_42, Nn_42, Ha_42, Ga_42⟩ := av42
      refine OG.step (X0.arraylength hx (by rw [e0]; exact Ar42.1) (State.isArrayOf_alike hZ.alike Ar42.2.1) (g := (mkF m 11 #[.val (.ref o1), .val (.ref o2), .val (.int (6 : Int32))] [(.ref o1), (.int (6 : Int32))])) rfl rfl (hb hby d15_11)) ?_
      rw [len_of Sa_42 Nn_42]
      show OG _ _ _ _ _ _ _ (s₁.setTop (mkF m 12 #[.val (.ref o1), .val (.ref o2), .val (.int (6 : Int32))] [(.int (7 : Int32)), (.int (6 : Int32))]))
      have s43 : ∀ tz, Steps p.tables e below (s₁.setTop (mkF m 17 #[.val (.ref o1), .val (.ref o2), .val (.int (6 : Int32))] [(.int (6 : Int32)), (.ref o1)])) tz → Steps p.tables e below (s₁.setTop (mkF m 12 #[.val (.ref o1), .val (.ref o2), .val (.int (6 : Int32))] [(.int (7 : Int32)), (.int (6 : Int32))])) tz := by
        intro tz kz
        refine XS.icmpNo X0.here hx rfl (hb hby d15_12) rfl (tlt (by decide)).2.1 ?_
        show Steps p.tables e below (s₁.setTop (mkF m 15 #[.val (.ref o1), .val (.ref o2), .val (.int (6 : Int32))] [])) _
        refine XS.aloadN X0.here hx rfl (hb hby d15_15) rfl rfl ?_
        show Steps p.tables e below (s₁.setTop (mkF m 16 #[.val (.ref o1), .val (.ref o2), .val (.int (6 : Int32))] [(.ref o1)])) _
        refine XS.iloadN X0.here hx rfl (hb hby d15_16) rfl ?_
        exact kz
      refine OG.step s43 ?_
      have av44 := Gx_o1_00
      obtain ⟨cl44, Ar44, qa_44, Sa_44, Nn_44, Ha_44, Ga_44⟩ := av44
      have hin44 : ¬ ((6 : Int32) < 0 ∨ cl44.slots.size ≤ ((6 : Int32)).toNatClampNeg) := inb_of Sa_44 ⟨(by decide), (by decide)⟩
      have hat44 : cl44.slots[((6 : Int32)).toNatClampNeg]? = some (.int (116 : Int32)) := Ha_44.at hin44 rfl
      refine OG.step (X0.baloadBytes hx (j := (6 : Int32)) (v := (.int (116 : Int32))) (by rw [e0]; exact Ar44.1) (State.isArrayOf_alike hZ.alike Ar44.2.1) Ar44.2.2 hin44 hat44 (g := (mkF m 17 #[.val (.ref o1), .val (.ref o2), .val (.int (6 : Int32))] [(.int (6 : Int32)), (.ref o1)])) rfl rfl (hb hby d15_17)) ?_
      show OG _ _ _ _ _ _ _ (s₁.setTop (mkF m 18 #[.val (.ref o1), .val (.ref o2), .val (.int (6 : Int32))] [(.int (116 : Int32))]))
      have s45 : ∀ tz, Steps p.tables e below (s₁.setTop (mkF m 20 #[.val (.ref o1), .val (.ref o2), .val (.int (6 : Int32))] [(.int (6 : Int32)), (.ref o2), (.int (116 : Int32))])) tz → Steps p.tables e below (s₁.setTop (mkF m 18 #[.val (.ref o1), .val (.ref o2), .val (.int (6 : Int32))] [(.int (116 : Int32))])) tz := by
        intro tz kz
        refine XS.aloadN X0.here hx rfl (hb hby d15_18) rfl rfl ?_
        show Steps p.tables e below (s₁.setTop (mkF m 19 #[.val (.ref o1), .val (.ref o2), .val (.int (6 : Int32))] [(.ref o2), (.int (116 : Int32))])) _
        refine XS.iloadN X0.here hx rfl (hb hby d15_19) rfl ?_
        exact kz
      refine OG.step s45 ?_
      have av46 := Gx_o2_00
      obtain ⟨cl46, Ar46, qa_46, Sa_46, Nn_46, Ha_46, Ga_46⟩ := av46
      have hin46 : ¬ ((6 : Int32) < 0 ∨ cl46.slots.size ≤ ((6 : Int32)).toNatClampNeg) := inb_of Sa_46 ⟨(by decide), (by decide)⟩
      have hat46 : cl46.slots[((6 : Int32)).toNatClampNeg]? = some (.int (116 : Int32)) := Ha_46.at hin46 rfl
      refine OG.step (X0.baloadBytes hx (j := (6 : Int32)) (v := (.int (116 : Int32))) (by rw [e0]; exact Ar46.1) (State.isArrayOf_alike hZ.alike Ar46.2.1) Ar46.2.2 hin46 hat46 (g := (mkF m 20 #[.val (.ref o1), .val (.ref o2), .val (.int (6 : Int32))] [(.int (6 : Int32)), (.ref o2), (.int (116 : Int32))])) rfl rfl (hb hby d15_20)) ?_
      show OG _ _ _ _ _ _ _ (s₁.setTop (mkF m 21 #[.val (.ref o1), .val (.ref o2), .val (.int (6 : Int32))] [(.int (116 : Int32)), (.int (116 : Int32))]))
      have s47 : ∀ tz, Steps p.tables e below (s₁.setTop (mkF m 11 #[.val (.ref o1), .val (.ref o2), .val (.int (7 : Int32))] [(.ref o1), (.int (7 : Int32))])) tz → Steps p.tables e below (s₁.setTop (mkF m 21 #[.val (.ref o1), .val (.ref o2), .val (.int (6 : Int32))] [(.int (116 : Int32)), (.int (116 : Int32))])) tz := by
        intro tz kz
        refine XS.icmpYes X0.here hx rfl (pc0 := 21) (pc' := 26) rfl (hb hby d15_21) rfl (teq (by decide)).1 (by decide) (by decide) ?_
        show Steps p.tables e below (s₁.setTop (mkF m 26 #[.val (.ref o1), .val (.ref o2), .val (.int (6 : Int32))] [])) _
        refine XS.iinc X0.here hx rfl (hb hby d15_26) rfl (l' := #[.val (.ref o1), .val (.ref o2), .val (.int (7 : Int32))]) rfl ?_
        show Steps p.tables e below (s₁.setTop (mkF m 29 #[.val (.ref o1), .val (.ref o2), .val (.int (7 : Int32))] [])) _
        refine XS.goto X0.here hx rfl (pc0 := 29) (pc' := 9) rfl (hb hby d15_29) (by decide) (by decide) ?_
        show Steps p.tables e below (s₁.setTop (mkF m 9 #[.val (.ref o1), .val (.ref o2), .val (.int (7 : Int32))] [])) _
        refine XS.iloadN X0.here hx rfl (hb hby d15_9) rfl ?_
        show Steps p.tables e below (s₁.setTop (mkF m 10 #[.val (.ref o1), .val (.ref o2), .val (.int (7 : Int32))] [(.int (7 : Int32))])) _
        refine XS.aloadN X0.here hx rfl (hb hby d15_10) rfl rfl ?_
        exact kz
      refine OG.step s47 ?_
      have av48 := Gx_o1_00
      obtain ⟨cl48, Ar48, qa_48, Sa_48, Nn_48, Ha_48, Ga_48⟩ := av48
      refine OG.step (X0.arraylength hx (by rw [e0]; exact Ar48.1) (State.isArrayOf_alike hZ.alike Ar48.2.1) (g := (mkF m 11 #[.val (.ref o1), .val (.ref o2), .val (.int (7 : Int32))] [(.ref o1), (.int (7 : Int32))])) rfl rfl (hb hby d15_11)) ?_
      rw [len_of Sa_48 Nn_48]
      show OG _ _ _ _ _ _ _ (s₁.setTop (mkF m 12 #[.val (.ref o1), .val (.ref o2), .val (.int (7 : Int32))] [(.int (7 : Int32)), (.int (7 : Int32))]))
      have s49 : ∀ tz, Steps p.tables e below (s₁.setTop (mkF m 33 #[.val (.ref o1), .val (.ref o2), .val (.int (7 : Int32))] [(.int (1 : Int32))])) tz → Steps p.tables e below (s₁.setTop (mkF m 12 #[.val (.ref o1), .val (.ref o2), .val (.int (7 : Int32))] [(.int (7 : Int32)), (.int (7 : Int32))])) tz := by
        intro tz kz
        refine XS.icmpYes X0.here hx rfl (pc0 := 12) (pc' := 32) rfl (hb hby d15_12) rfl (flt (by decide)).2.1 (by decide) (by decide) ?_
        show Steps p.tables e below (s₁.setTop (mkF m 32 #[.val (.ref o1), .val (.ref o2), .val (.int (7 : Int32))] [])) _
        refine XS.iconst X0.here hx rfl (hb hby d15_32) ?_
        exact kz
      refine OG.step s49 ?_
      exact OG.retZ X0 hx hlk Bd.returns (hb hby d15_33) (nar_1) e0 ⟨rfl, N0, rfl⟩ (by decide) (by decide)
    · have Gx_o1_01 : Arv Z h0 o1 k1 .byte (7 : Int32) [(.int (112 : Int32)), (.int (97 : Int32)), (.int (116 : Int32)), (.int (105 : Int32)), (.int (101 : Int32)), (.int (110 : Int32)), (.int (116 : Int32))] (.int (0 : Int32)) := F0_o1
      have Gx_o2_01 : Arv Z h0 o2 k2 .byte (7 : Int32) [(.int (97 : Int32)), (.int (99 : Int32)), (.int (99 : Int32)), (.int (111 : Int32)), (.int (117 : Int32)), (.int (110 : Int32)), (.int (116 : Int32))] (.int (0 : Int32)) := F1_o2
      have s50 : ∀ tz, Steps p.tables e below (s₁.setTop (mkF m 1 #[.val (.ref o1), .val (.ref o2), .unset] [(.ref o1)])) tz → Steps p.tables e below (s₁.setTop (mkF m 0 #[.val (.ref o1), .val (.ref o2), .unset] [])) tz := by
        intro tz kz
        refine XS.aloadN X0.here hx rfl (hb hby d15_0) rfl rfl ?_
        exact kz
      refine OG.step s50 ?_
      have av51 := Gx_o1_01
      obtain ⟨cl51, Ar51, qa_51, Sa_51, Nn_51, Ha_51, Ga_51⟩ := av51
      refine OG.step (X0.arraylength hx (by rw [e0]; exact Ar51.1) (State.isArrayOf_alike hZ.alike Ar51.2.1) (g := (mkF m 1 #[.val (.ref o1), .val (.ref o2), .unset] [(.ref o1)])) rfl rfl (hb hby d15_1)) ?_
      rw [len_of Sa_51 Nn_51]
      show OG _ _ _ _ _ _ _ (s₁.setTop (mkF m 2 #[.val (.ref o1), .val (.ref o2), .unset] [(.int (7 : Int32))]))
      have s52 : ∀ tz, Steps p.tables e below (s₁.setTop (mkF m 3 #[.val (.ref o1), .val (.ref o2), .unset] [(.ref o2), (.int (7 : Int32))])) tz → Steps p.tables e below (s₁.setTop (mkF m 2 #[.val (.ref o1), .val (.ref o2), .unset] [(.int (7 : Int32))])) tz := by
        intro tz kz
        refine XS.aloadN X0.here hx rfl (hb hby d15_2) rfl rfl ?_
        exact kz
      refine OG.step s52 ?_
      have av53 := Gx_o2_01
      obtain ⟨cl53, Ar53, qa_53, Sa_53, Nn_53, Ha_53, Ga_53⟩ := av53
      refine OG.step (X0.arraylength hx (by rw [e0]; exact Ar53.1) (State.isArrayOf_alike hZ.alike Ar53.2.1) (g := (mkF m 3 #[.val (.ref o1), .val (.ref o2), .unset] [(.ref o2), (.int (7 : Int32))])) rfl rfl (hb hby d15_3)) ?_
      rw [len_of Sa_53 Nn_53]
      show OG _ _ _ _ _ _ _ (s₁.setTop (mkF m 4 #[.val (.ref o1), .val (.ref o2), .unset] [(.int (7 : Int32)), (.int (7 : Int32))]))
      have s54 : ∀ tz, Steps p.tables e below (s₁.setTop (mkF m 11 #[.val (.ref o1), .val (.ref o2), .val (.int (0 : Int32))] [(.ref o1), (.int (0 : Int32))])) tz → Steps p.tables e below (s₁.setTop (mkF m 4 #[.val (.ref o1), .val (.ref o2), .unset] [(.int (7 : Int32)), (.int (7 : Int32))])) tz := by
        intro tz kz
        refine XS.icmpNo X0.here hx rfl (hb hby d15_4) rfl (teq (by decide)).2 ?_
        show Steps p.tables e below (s₁.setTop (mkF m 7 #[.val (.ref o1), .val (.ref o2), .unset] [])) _
        refine XS.iconst X0.here hx rfl (hb hby d15_7) ?_
        show Steps p.tables e below (s₁.setTop (mkF m 8 #[.val (.ref o1), .val (.ref o2), .unset] [(.int (0 : Int32))])) _
        refine XS.istoreN X0.here hx rfl (hb hby d15_8) rfl (l' := #[.val (.ref o1), .val (.ref o2), .val (.int (0 : Int32))]) rfl ?_
        show Steps p.tables e below (s₁.setTop (mkF m 9 #[.val (.ref o1), .val (.ref o2), .val (.int (0 : Int32))] [])) _
        refine XS.iloadN X0.here hx rfl (hb hby d15_9) rfl ?_
        show Steps p.tables e below (s₁.setTop (mkF m 10 #[.val (.ref o1), .val (.ref o2), .val (.int (0 : Int32))] [(.int (0 : Int32))])) _
        refine XS.aloadN X0.here hx rfl (hb hby d15_10) rfl rfl ?_
        exact kz
      refine OG.step s54 ?_
      have av55 := Gx_o1_01
      obtain ⟨cl55, Ar55, qa_55, Sa_55, Nn_55, Ha_55, Ga_55⟩ := av55
      refine OG.step (X0.arraylength hx (by rw [e0]; exact Ar55.1) (State.isArrayOf_alike hZ.alike Ar55.2.1) (g := (mkF m 11 #[.val (.ref o1), .val (.ref o2), .val (.int (0 : Int32))] [(.ref o1), (.int (0 : Int32))])) rfl rfl (hb hby d15_11)) ?_
      rw [len_of Sa_55 Nn_55]
      show OG _ _ _ _ _ _ _ (s₁.setTop (mkF m 12 #[.val (.ref o1), .val (.ref o2), .val (.int (0 : Int32))] [(.int (7 : Int32)), (.int (0 : Int32))]))
      have s56 : ∀ tz, Steps p.tables e below (s₁.setTop (mkF m 17 #[.val (.ref o1), .val (.ref o2), .val (.int (0 : Int32))] [(.int (0 : Int32)), (.ref o1)])) tz → Steps p.tables e below (s₁.setTop (mkF m 12 #[.val (.ref o1), .val (.ref o2), .val (.int (0 : Int32))] [(.int (7 : Int32)), (.int (0 : Int32))])) tz := by
        intro tz kz
        refine XS.icmpNo X0.here hx rfl (hb hby d15_12) rfl (tlt (by decide)).2.1 ?_
        show Steps p.tables e below (s₁.setTop (mkF m 15 #[.val (.ref o1), .val (.ref o2), .val (.int (0 : Int32))] [])) _
        refine XS.aloadN X0.here hx rfl (hb hby d15_15) rfl rfl ?_
        show Steps p.tables e below (s₁.setTop (mkF m 16 #[.val (.ref o1), .val (.ref o2), .val (.int (0 : Int32))] [(.ref o1)])) _
        refine XS.iloadN X0.here hx rfl (hb hby d15_16) rfl ?_
        exact kz
      refine OG.step s56 ?_
      have av57 := Gx_o1_01
      obtain ⟨cl57, Ar57, qa_57, Sa_57, Nn_57, Ha_57, Ga_57⟩ := av57
      have hin57 : ¬ ((0 : Int32) < 0 ∨ cl57.slots.size ≤ ((0 : Int32)).toNatClampNeg) := inb_of Sa_57 ⟨(by decide), (by decide)⟩
      have hat57 : cl57.slots[((0 : Int32)).toNatClampNeg]? = some (.int (112 : Int32)) := Ha_57.at hin57 rfl
      refine OG.step (X0.baloadBytes hx (j := (0 : Int32)) (v := (.int (112 : Int32))) (by rw [e0]; exact Ar57.1) (State.isArrayOf_alike hZ.alike Ar57.2.1) Ar57.2.2 hin57 hat57 (g := (mkF m 17 #[.val (.ref o1), .val (.ref o2), .val (.int (0 : Int32))] [(.int (0 : Int32)), (.ref o1)])) rfl rfl (hb hby d15_17)) ?_
      show OG _ _ _ _ _ _ _ (s₁.setTop (mkF m 18 #[.val (.ref o1), .val (.ref o2), .val (.int (0 : Int32))] [(.int (112 : Int32))]))
      have s58 : ∀ tz, Steps p.tables e below (s₁.setTop (mkF m 20 #[.val (.ref o1), .val (.ref o2), .val (.int (0 : Int32))] [(.int (0 : Int32)), (.ref o2), (.int (112 : Int32))])) tz → Steps p.tables e below (s₁.setTop (mkF m 18 #[.val (.ref o1), .val (.ref o2), .val (.int (0 : Int32))] [(.int (112 : Int32))])) tz := by
        intro tz kz
        refine XS.aloadN X0.here hx rfl (hb hby d15_18) rfl rfl ?_
        show Steps p.tables e below (s₁.setTop (mkF m 19 #[.val (.ref o1), .val (.ref o2), .val (.int (0 : Int32))] [(.ref o2), (.int (112 : Int32))])) _
        refine XS.iloadN X0.here hx rfl (hb hby d15_19) rfl ?_
        exact kz
      refine OG.step s58 ?_
      have av59 := Gx_o2_01
      obtain ⟨cl59, Ar59, qa_59, Sa_59, Nn_59, Ha_59, Ga_59⟩ := av59
      have hin59 : ¬ ((0 : Int32) < 0 ∨ cl59.slots.size ≤ ((0 : Int32)).toNatClampNeg) := inb_of Sa_59 ⟨(by decide), (by decide)⟩
      have hat59 : cl59.slots[((0 : Int32)).toNatClampNeg]? = some (.int (97 : Int32)) := Ha_59.at hin59 rfl
      refine OG.step (X0.baloadBytes hx (j := (0 : Int32)) (v := (.int (97 : Int32))) (by rw [e0]; exact Ar59.1) (State.isArrayOf_alike hZ.alike Ar59.2.1) Ar59.2.2 hin59 hat59 (g := (mkF m 20 #[.val (.ref o1), .val (.ref o2), .val (.int (0 : Int32))] [(.int (0 : Int32)), (.ref o2), (.int (112 : Int32))])) rfl rfl (hb hby d15_20)) ?_
      show OG _ _ _ _ _ _ _ (s₁.setTop (mkF m 21 #[.val (.ref o1), .val (.ref o2), .val (.int (0 : Int32))] [(.int (97 : Int32)), (.int (112 : Int32))]))
      have s60 : ∀ tz, Steps p.tables e below (s₁.setTop (mkF m 25 #[.val (.ref o1), .val (.ref o2), .val (.int (0 : Int32))] [(.int (0 : Int32))])) tz → Steps p.tables e below (s₁.setTop (mkF m 21 #[.val (.ref o1), .val (.ref o2), .val (.int (0 : Int32))] [(.int (97 : Int32)), (.int (112 : Int32))])) tz := by
        intro tz kz
        refine XS.icmpNo X0.here hx rfl (hb hby d15_21) rfl (feq (by decide)).1 ?_
        show Steps p.tables e below (s₁.setTop (mkF m 24 #[.val (.ref o1), .val (.ref o2), .val (.int (0 : Int32))] [])) _
        refine XS.iconst X0.here hx rfl (hb hby d15_24) ?_
        exact kz
      refine OG.step s60 ?_
      exact OG.retZ X0 hx hlk Bd.returns (hb hby d15_25) (nar_0) e0 ⟨rfl, N0, rfl⟩ (by decide) (by decide)
    · have Gx_o1_02 : Arv Z h0 o1 k1 .byte (7 : Int32) [(.int (112 : Int32)), (.int (97 : Int32)), (.int (116 : Int32)), (.int (105 : Int32)), (.int (101 : Int32)), (.int (110 : Int32)), (.int (116 : Int32))] (.int (0 : Int32)) := F0_o1
      have Gx_o2_02 : Arv Z h0 o2 k2 .byte (5 : Int32) [(.int (118 : Int32)), (.int (105 : Int32)), (.int (115 : Int32)), (.int (105 : Int32)), (.int (116 : Int32))] (.int (0 : Int32)) := F1_o2
      have s61 : ∀ tz, Steps p.tables e below (s₁.setTop (mkF m 1 #[.val (.ref o1), .val (.ref o2), .unset] [(.ref o1)])) tz → Steps p.tables e below (s₁.setTop (mkF m 0 #[.val (.ref o1), .val (.ref o2), .unset] [])) tz := by
        intro tz kz
        refine XS.aloadN X0.here hx rfl (hb hby d15_0) rfl rfl ?_
        exact kz
      refine OG.step s61 ?_
      have av62 := Gx_o1_02
      obtain ⟨cl62, Ar62, qa_62, Sa_62, Nn_62, Ha_62, Ga_62⟩ := av62
      refine OG.step (X0.arraylength hx (by rw [e0]; exact Ar62.1) (State.isArrayOf_alike hZ.alike Ar62.2.1) (g := (mkF m 1 #[.val (.ref o1), .val (.ref o2), .unset] [(.ref o1)])) rfl rfl (hb hby d15_1)) ?_
      rw [len_of Sa_62 Nn_62]
      show OG _ _ _ _ _ _ _ (s₁.setTop (mkF m 2 #[.val (.ref o1), .val (.ref o2), .unset] [(.int (7 : Int32))]))
      have s63 : ∀ tz, Steps p.tables e below (s₁.setTop (mkF m 3 #[.val (.ref o1), .val (.ref o2), .unset] [(.ref o2), (.int (7 : Int32))])) tz → Steps p.tables e below (s₁.setTop (mkF m 2 #[.val (.ref o1), .val (.ref o2), .unset] [(.int (7 : Int32))])) tz := by
        intro tz kz
        refine XS.aloadN X0.here hx rfl (hb hby d15_2) rfl rfl ?_
        exact kz
      refine OG.step s63 ?_
      have av64 := Gx_o2_02
      obtain ⟨cl64, Ar64, qa_64, Sa_64, Nn_64, Ha_64, Ga_64⟩ := av64
      refine OG.step (X0.arraylength hx (by rw [e0]; exact Ar64.1) (State.isArrayOf_alike hZ.alike Ar64.2.1) (g := (mkF m 3 #[.val (.ref o1), .val (.ref o2), .unset] [(.ref o2), (.int (7 : Int32))])) rfl rfl (hb hby d15_3)) ?_
      rw [len_of Sa_64 Nn_64]
      show OG _ _ _ _ _ _ _ (s₁.setTop (mkF m 4 #[.val (.ref o1), .val (.ref o2), .unset] [(.int (5 : Int32)), (.int (7 : Int32))]))
      have s65 : ∀ tz, Steps p.tables e below (s₁.setTop (mkF m 35 #[.val (.ref o1), .val (.ref o2), .unset] [(.int (0 : Int32))])) tz → Steps p.tables e below (s₁.setTop (mkF m 4 #[.val (.ref o1), .val (.ref o2), .unset] [(.int (5 : Int32)), (.int (7 : Int32))])) tz := by
        intro tz kz
        refine XS.icmpYes X0.here hx rfl (pc0 := 4) (pc' := 34) rfl (hb hby d15_4) rfl (feq (by decide)).2 (by decide) (by decide) ?_
        show Steps p.tables e below (s₁.setTop (mkF m 34 #[.val (.ref o1), .val (.ref o2), .unset] [])) _
        refine XS.iconst X0.here hx rfl (hb hby d15_34) ?_
        exact kz
      refine OG.step s65 ?_
      exact OG.retZ X0 hx hlk Bd.returns (hb hby d15_35) (nar_0) e0 ⟨rfl, N0, rfl⟩ (by decide) (by decide)
  · rcases uj with rfl | rfl | rfl
    · have Gx_o1_10 : Arv Z h0 o1 k1 .byte (7 : Int32) [(.int (97 : Int32)), (.int (99 : Int32)), (.int (99 : Int32)), (.int (111 : Int32)), (.int (117 : Int32)), (.int (110 : Int32)), (.int (116 : Int32))] (.int (0 : Int32)) := F0_o1
      have Gx_o2_10 : Arv Z h0 o2 k2 .byte (7 : Int32) [(.int (112 : Int32)), (.int (97 : Int32)), (.int (116 : Int32)), (.int (105 : Int32)), (.int (101 : Int32)), (.int (110 : Int32)), (.int (116 : Int32))] (.int (0 : Int32)) := F1_o2
      have s66 : ∀ tz, Steps p.tables e below (s₁.setTop (mkF m 1 #[.val (.ref o1), .val (.ref o2), .unset] [(.ref o1)])) tz → Steps p.tables e below (s₁.setTop (mkF m 0 #[.val (.ref o1), .val (.ref o2), .unset] [])) tz := by
        intro tz kz
        refine XS.aloadN X0.here hx rfl (hb hby d15_0) rfl rfl ?_
        exact kz
      refine OG.step s66 ?_
      have av67 := Gx_o1_10
      obtain ⟨cl67, Ar67, qa_67, Sa_67, Nn_67, Ha_67, Ga_67⟩ := av67
      refine OG.step (X0.arraylength hx (by rw [e0]; exact Ar67.1) (State.isArrayOf_alike hZ.alike Ar67.2.1) (g := (mkF m 1 #[.val (.ref o1), .val (.ref o2), .unset] [(.ref o1)])) rfl rfl (hb hby d15_1)) ?_
      rw [len_of Sa_67 Nn_67]
      show OG _ _ _ _ _ _ _ (s₁.setTop (mkF m 2 #[.val (.ref o1), .val (.ref o2), .unset] [(.int (7 : Int32))]))
      have s68 : ∀ tz, Steps p.tables e below (s₁.setTop (mkF m 3 #[.val (.ref o1), .val (.ref o2), .unset] [(.ref o2), (.int (7 : Int32))])) tz → Steps p.tables e below (s₁.setTop (mkF m 2 #[.val (.ref o1), .val (.ref o2), .unset] [(.int (7 : Int32))])) tz := by
        intro tz kz
        refine XS.aloadN X0.here hx rfl (hb hby d15_2) rfl rfl ?_
        exact kz
      refine OG.step s68 ?_
      have av69 := Gx_o2_10
      obtain ⟨cl69, Ar69, qa_69, Sa_69, Nn_69, Ha_69, Ga_69⟩ := av69
      refine OG.step (X0.arraylength hx (by rw [e0]; exact Ar69.1) (State.isArrayOf_alike hZ.alike Ar69.2.1) (g := (mkF m 3 #[.val (.ref o1), .val (.ref o2), .unset] [(.ref o2), (.int (7 : Int32))])) rfl rfl (hb hby d15_3)) ?_
      rw [len_of Sa_69 Nn_69]
      show OG _ _ _ _ _ _ _ (s₁.setTop (mkF m 4 #[.val (.ref o1), .val (.ref o2), .unset] [(.int (7 : Int32)), (.int (7 : Int32))]))
      have s70 : ∀ tz, Steps p.tables e below (s₁.setTop (mkF m 11 #[.val (.ref o1), .val (.ref o2), .val (.int (0 : Int32))] [(.ref o1), (.int (0 : Int32))])) tz → Steps p.tables e below (s₁.setTop (mkF m 4 #[.val (.ref o1), .val (.ref o2), .unset] [(.int (7 : Int32)), (.int (7 : Int32))])) tz := by
        intro tz kz
        refine XS.icmpNo X0.here hx rfl (hb hby d15_4) rfl (teq (by decide)).2 ?_
        show Steps p.tables e below (s₁.setTop (mkF m 7 #[.val (.ref o1), .val (.ref o2), .unset] [])) _
        refine XS.iconst X0.here hx rfl (hb hby d15_7) ?_
        show Steps p.tables e below (s₁.setTop (mkF m 8 #[.val (.ref o1), .val (.ref o2), .unset] [(.int (0 : Int32))])) _
        refine XS.istoreN X0.here hx rfl (hb hby d15_8) rfl (l' := #[.val (.ref o1), .val (.ref o2), .val (.int (0 : Int32))]) rfl ?_
        show Steps p.tables e below (s₁.setTop (mkF m 9 #[.val (.ref o1), .val (.ref o2), .val (.int (0 : Int32))] [])) _
        refine XS.iloadN X0.here hx rfl (hb hby d15_9) rfl ?_
        show Steps p.tables e below (s₁.setTop (mkF m 10 #[.val (.ref o1), .val (.ref o2), .val (.int (0 : Int32))] [(.int (0 : Int32))])) _
        refine XS.aloadN X0.here hx rfl (hb hby d15_10) rfl rfl ?_
        exact kz
      refine OG.step s70 ?_
      have av71 := Gx_o1_10
      obtain ⟨cl71, Ar71, qa_71, Sa_71, Nn_71, Ha_71, Ga_71⟩ := av71
      refine OG.step (X0.arraylength hx (by rw [e0]; exact Ar71.1) (State.isArrayOf_alike hZ.alike Ar71.2.1) (g := (mkF m 11 #[.val (.ref o1), .val (.ref o2), .val (.int (0 : Int32))] [(.ref o1), (.int (0 : Int32))])) rfl rfl (hb hby d15_11)) ?_
      rw [len_of Sa_71 Nn_71]
      show OG _ _ _ _ _ _ _ (s₁.setTop (mkF m 12 #[.val (.ref o1), .val (.ref o2), .val (.int (0 : Int32))] [(.int (7 : Int32)), (.int (0 : Int32))]))
      have s72 : ∀ tz, Steps p.tables e below (s₁.setTop (mkF m 17 #[.val (.ref o1), .val (.ref o2), .val (.int (0 : Int32))] [(.int (0 : Int32)), (.ref o1)])) tz → Steps p.tables e below (s₁.setTop (mkF m 12 #[.val (.ref o1), .val (.ref o2), .val (.int (0 : Int32))] [(.int (7 : Int32)), (.int (0 : Int32))])) tz := by
        intro tz kz
        refine XS.icmpNo X0.here hx rfl (hb hby d15_12) rfl (tlt (by decide)).2.1 ?_
        show Steps p.tables e below (s₁.setTop (mkF m 15 #[.val (.ref o1), .val (.ref o2), .val (.int (0 : Int32))] [])) _
        refine XS.aloadN X0.here hx rfl (hb hby d15_15) rfl rfl ?_
        show Steps p.tables e below (s₁.setTop (mkF m 16 #[.val (.ref o1), .val (.ref o2), .val (.int (0 : Int32))] [(.ref o1)])) _
        refine XS.iloadN X0.here hx rfl (hb hby d15_16) rfl ?_
        exact kz
      refine OG.step s72 ?_
      have av73 := Gx_o1_10
      obtain ⟨cl73, Ar73, qa_73, Sa_73, Nn_73, Ha_73, Ga_73⟩ := av73
      have hin73 : ¬ ((0 : Int32) < 0 ∨ cl73.slots.size ≤ ((0 : Int32)).toNatClampNeg) := inb_of Sa_73 ⟨(by decide), (by decide)⟩
      have hat73 : cl73.slots[((0 : Int32)).toNatClampNeg]? = some (.int (97 : Int32)) := Ha_73.at hin73 rfl
      refine OG.step (X0.baloadBytes hx (j := (0 : Int32)) (v := (.int (97 : Int32))) (by rw [e0]; exact Ar73.1) (State.isArrayOf_alike hZ.alike Ar73.2.1) Ar73.2.2 hin73 hat73 (g := (mkF m 17 #[.val (.ref o1), .val (.ref o2), .val (.int (0 : Int32))] [(.int (0 : Int32)), (.ref o1)])) rfl rfl (hb hby d15_17)) ?_
      show OG _ _ _ _ _ _ _ (s₁.setTop (mkF m 18 #[.val (.ref o1), .val (.ref o2), .val (.int (0 : Int32))] [(.int (97 : Int32))]))
      have s74 : ∀ tz, Steps p.tables e below (s₁.setTop (mkF m 20 #[.val (.ref o1), .val (.ref o2), .val (.int (0 : Int32))] [(.int (0 : Int32)), (.ref o2), (.int (97 : Int32))])) tz → Steps p.tables e below (s₁.setTop (mkF m 18 #[.val (.ref o1), .val (.ref o2), .val (.int (0 : Int32))] [(.int (97 : Int32))])) tz := by
        intro tz kz
        refine XS.aloadN X0.here hx rfl (hb hby d15_18) rfl rfl ?_
        show Steps p.tables e below (s₁.setTop (mkF m 19 #[.val (.ref o1), .val (.ref o2), .val (.int (0 : Int32))] [(.ref o2), (.int (97 : Int32))])) _
        refine XS.iloadN X0.here hx rfl (hb hby d15_19) rfl ?_
        exact kz
      refine OG.step s74 ?_
      have av75 := Gx_o2_10
      obtain ⟨cl75, Ar75, qa_75, Sa_75, Nn_75, Ha_75, Ga_75⟩ := av75
      have hin75 : ¬ ((0 : Int32) < 0 ∨ cl75.slots.size ≤ ((0 : Int32)).toNatClampNeg) := inb_of Sa_75 ⟨(by decide), (by decide)⟩
      have hat75 : cl75.slots[((0 : Int32)).toNatClampNeg]? = some (.int (112 : Int32)) := Ha_75.at hin75 rfl
      refine OG.step (X0.baloadBytes hx (j := (0 : Int32)) (v := (.int (112 : Int32))) (by rw [e0]; exact Ar75.1) (State.isArrayOf_alike hZ.alike Ar75.2.1) Ar75.2.2 hin75 hat75 (g := (mkF m 20 #[.val (.ref o1), .val (.ref o2), .val (.int (0 : Int32))] [(.int (0 : Int32)), (.ref o2), (.int (97 : Int32))])) rfl rfl (hb hby d15_20)) ?_
      show OG _ _ _ _ _ _ _ (s₁.setTop (mkF m 21 #[.val (.ref o1), .val (.ref o2), .val (.int (0 : Int32))] [(.int (112 : Int32)), (.int (97 : Int32))]))
      have s76 : ∀ tz, Steps p.tables e below (s₁.setTop (mkF m 25 #[.val (.ref o1), .val (.ref o2), .val (.int (0 : Int32))] [(.int (0 : Int32))])) tz → Steps p.tables e below (s₁.setTop (mkF m 21 #[.val (.ref o1), .val (.ref o2), .val (.int (0 : Int32))] [(.int (112 : Int32)), (.int (97 : Int32))])) tz := by
        intro tz kz
        refine XS.icmpNo X0.here hx rfl (hb hby d15_21) rfl (feq (by decide)).1 ?_
        show Steps p.tables e below (s₁.setTop (mkF m 24 #[.val (.ref o1), .val (.ref o2), .val (.int (0 : Int32))] [])) _
        refine XS.iconst X0.here hx rfl (hb hby d15_24) ?_
        exact kz
      refine OG.step s76 ?_
      exact OG.retZ X0 hx hlk Bd.returns (hb hby d15_25) (nar_0) e0 ⟨rfl, N0, rfl⟩ (by decide) (by decide)
    · have Gx_o1_11 : Arv Z h0 o1 k1 .byte (7 : Int32) [(.int (97 : Int32)), (.int (99 : Int32)), (.int (99 : Int32)), (.int (111 : Int32)), (.int (117 : Int32)), (.int (110 : Int32)), (.int (116 : Int32))] (.int (0 : Int32)) := F0_o1
      have Gx_o2_11 : Arv Z h0 o2 k2 .byte (7 : Int32) [(.int (97 : Int32)), (.int (99 : Int32)), (.int (99 : Int32)), (.int (111 : Int32)), (.int (117 : Int32)), (.int (110 : Int32)), (.int (116 : Int32))] (.int (0 : Int32)) := F1_o2
      have s77 : ∀ tz, Steps p.tables e below (s₁.setTop (mkF m 1 #[.val (.ref o1), .val (.ref o2), .unset] [(.ref o1)])) tz → Steps p.tables e below (s₁.setTop (mkF m 0 #[.val (.ref o1), .val (.ref o2), .unset] [])) tz := by
        intro tz kz
        refine XS.aloadN X0.here hx rfl (hb hby d15_0) rfl rfl ?_
        exact kz
      refine OG.step s77 ?_
      have av78 := Gx_o1_11
      obtain ⟨cl78, Ar78, qa_78, Sa_78, Nn_78, Ha_78, Ga_78⟩ := av78
      refine OG.step (X0.arraylength hx (by rw [e0]; exact Ar78.1) (State.isArrayOf_alike hZ.alike Ar78.2.1) (g := (mkF m 1 #[.val (.ref o1), .val (.ref o2), .unset] [(.ref o1)])) rfl rfl (hb hby d15_1)) ?_
      rw [len_of Sa_78 Nn_78]
      show OG _ _ _ _ _ _ _ (s₁.setTop (mkF m 2 #[.val (.ref o1), .val (.ref o2), .unset] [(.int (7 : Int32))]))
      have s79 : ∀ tz, Steps p.tables e below (s₁.setTop (mkF m 3 #[.val (.ref o1), .val (.ref o2), .unset] [(.ref o2), (.int (7 : Int32))])) tz → Steps p.tables e below (s₁.setTop (mkF m 2 #[.val (.ref o1), .val (.ref o2), .unset] [(.int (7 : Int32))])) tz := by
        intro tz kz
        refine XS.aloadN X0.here hx rfl (hb hby d15_2) rfl rfl ?_
        exact kz
      refine OG.step s79 ?_
      have av80 := Gx_o2_11
      obtain ⟨cl80, Ar80, qa_80, Sa_80, Nn_80, Ha_80, Ga_80⟩ := av80
      refine OG.step (X0.arraylength hx (by rw [e0]; exact Ar80.1) (State.isArrayOf_alike hZ.alike Ar80.2.1) (g := (mkF m 3 #[.val (.ref o1), .val (.ref o2), .unset] [(.ref o2), (.int (7 : Int32))])) rfl rfl (hb hby d15_3)) ?_
      rw [len_of Sa_80 Nn_80]
      show OG _ _ _ _ _ _ _ (s₁.setTop (mkF m 4 #[.val (.ref o1), .val (.ref o2), .unset] [(.int (7 : Int32)), (.int (7 : Int32))]))
      have s81 : ∀ tz, Steps p.tables e below (s₁.setTop (mkF m 11 #[.val (.ref o1), .val (.ref o2), .val (.int (0 : Int32))] [(.ref o1), (.int (0 : Int32))])) tz → Steps p.tables e below (s₁.setTop (mkF m 4 #[.val (.ref o1), .val (.ref o2), .unset] [(.int (7 : Int32)), (.int (7 : Int32))])) tz := by
        intro tz kz
        refine XS.icmpNo X0.here hx rfl (hb hby d15_4) rfl (teq (by decide)).2 ?_
        show Steps p.tables e below (s₁.setTop (mkF m 7 #[.val (.ref o1), .val (.ref o2), .unset] [])) _
        refine XS.iconst X0.here hx rfl (hb hby d15_7) ?_
        show Steps p.tables e below (s₁.setTop (mkF m 8 #[.val (.ref o1), .val (.ref o2), .unset] [(.int (0 : Int32))])) _
        refine XS.istoreN X0.here hx rfl (hb hby d15_8) rfl (l' := #[.val (.ref o1), .val (.ref o2), .val (.int (0 : Int32))]) rfl ?_
        show Steps p.tables e below (s₁.setTop (mkF m 9 #[.val (.ref o1), .val (.ref o2), .val (.int (0 : Int32))] [])) _
        refine XS.iloadN X0.here hx rfl (hb hby d15_9) rfl ?_
        show Steps p.tables e below (s₁.setTop (mkF m 10 #[.val (.ref o1), .val (.ref o2), .val (.int (0 : Int32))] [(.int (0 : Int32))])) _
        refine XS.aloadN X0.here hx rfl (hb hby d15_10) rfl rfl ?_
        exact kz
      refine OG.step s81 ?_
      have av82 := Gx_o1_11
      obtain ⟨cl82, Ar82, qa_82, Sa_82, Nn_82, Ha_82, Ga_82⟩ := av82
      refine OG.step (X0.arraylength hx (by rw [e0]; exact Ar82.1) (State.isArrayOf_alike hZ.alike Ar82.2.1) (g := (mkF m 11 #[.val (.ref o1), .val (.ref o2), .val (.int (0 : Int32))] [(.ref o1), (.int (0 : Int32))])) rfl rfl (hb hby d15_11)) ?_
      rw [len_of Sa_82 Nn_82]
      show OG _ _ _ _ _ _ _ (s₁.setTop (mkF m 12 #[.val (.ref o1), .val (.ref o2), .val (.int (0 : Int32))] [(.int (7 : Int32)), (.int (0 : Int32))]))
      have s83 : ∀ tz, Steps p.tables e below (s₁.setTop (mkF m 17 #[.val (.ref o1), .val (.ref o2), .val (.int (0 : Int32))] [(.int (0 : Int32)), (.ref o1)])) tz → Steps p.tables e below (s₁.setTop (mkF m 12 #[.val (.ref o1), .val (.ref o2), .val (.int (0 : Int32))] [(.int (7 : Int32)), (.int (0 : Int32))])) tz := by
        intro tz kz
        refine XS.icmpNo X0.here hx rfl (hb hby d15_12) rfl (tlt (by decide)).2.1 ?_
        show Steps p.tables e below (s₁.setTop (mkF m 15 #[.val (.ref o1), .val (.ref o2), .val (.int (0 : Int32))] [])) _
        refine XS.aloadN X0.here hx rfl (hb hby d15_15) rfl rfl ?_
        show Steps p.tables e below (s₁.setTop (mkF m 16 #[.val (.ref o1), .val (.ref o2), .val (.int (0 : Int32))] [(.ref o1)])) _
        refine XS.iloadN X0.here hx rfl (hb hby d15_16) rfl ?_
        exact kz
      refine OG.step s83 ?_
      have av84 := Gx_o1_11
      obtain ⟨cl84, Ar84, qa_84, Sa_84, Nn_84, Ha_84, Ga_84⟩ := av84
      have hin84 : ¬ ((0 : Int32) < 0 ∨ cl84.slots.size ≤ ((0 : Int32)).toNatClampNeg) := inb_of Sa_84 ⟨(by decide), (by decide)⟩
      have hat84 : cl84.slots[((0 : Int32)).toNatClampNeg]? = some (.int (97 : Int32)) := Ha_84.at hin84 rfl
      refine OG.step (X0.baloadBytes hx (j := (0 : Int32)) (v := (.int (97 : Int32))) (by rw [e0]; exact Ar84.1) (State.isArrayOf_alike hZ.alike Ar84.2.1) Ar84.2.2 hin84 hat84 (g := (mkF m 17 #[.val (.ref o1), .val (.ref o2), .val (.int (0 : Int32))] [(.int (0 : Int32)), (.ref o1)])) rfl rfl (hb hby d15_17)) ?_
      show OG _ _ _ _ _ _ _ (s₁.setTop (mkF m 18 #[.val (.ref o1), .val (.ref o2), .val (.int (0 : Int32))] [(.int (97 : Int32))]))
      have s85 : ∀ tz, Steps p.tables e below (s₁.setTop (mkF m 20 #[.val (.ref o1), .val (.ref o2), .val (.int (0 : Int32))] [(.int (0 : Int32)), (.ref o2), (.int (97 : Int32))])) tz → Steps p.tables e below (s₁.setTop (mkF m 18 #[.val (.ref o1), .val (.ref o2), .val (.int (0 : Int32))] [(.int (97 : Int32))])) tz := by
        intro tz kz
        refine XS.aloadN X0.here hx rfl (hb hby d15_18) rfl rfl ?_
        show Steps p.tables e below (s₁.setTop (mkF m 19 #[.val (.ref o1), .val (.ref o2), .val (.int (0 : Int32))] [(.ref o2), (.int (97 : Int32))])) _
        refine XS.iloadN X0.here hx rfl (hb hby d15_19) rfl ?_
        exact kz
      refine OG.step s85 ?_
      have av86 := Gx_o2_11
      obtain ⟨cl86, Ar86, qa_86, Sa_86, Nn_86, Ha_86, Ga_86⟩ := av86
      have hin86 : ¬ ((0 : Int32) < 0 ∨ cl86.slots.size ≤ ((0 : Int32)).toNatClampNeg) := inb_of Sa_86 ⟨(by decide), (by decide)⟩
      have hat86 : cl86.slots[((0 : Int32)).toNatClampNeg]? = some (.int (97 : Int32)) := Ha_86.at hin86 rfl
      refine OG.step (X0.baloadBytes hx (j := (0 : Int32)) (v := (.int (97 : Int32))) (by rw [e0]; exact Ar86.1) (State.isArrayOf_alike hZ.alike Ar86.2.1) Ar86.2.2 hin86 hat86 (g := (mkF m 20 #[.val (.ref o1), .val (.ref o2), .val (.int (0 : Int32))] [(.int (0 : Int32)), (.ref o2), (.int (97 : Int32))])) rfl rfl (hb hby d15_20)) ?_
      show OG _ _ _ _ _ _ _ (s₁.setTop (mkF m 21 #[.val (.ref o1), .val (.ref o2), .val (.int (0 : Int32))] [(.int (97 : Int32)), (.int (97 : Int32))]))
      have s87 : ∀ tz, Steps p.tables e below (s₁.setTop (mkF m 11 #[.val (.ref o1), .val (.ref o2), .val (.int (1 : Int32))] [(.ref o1), (.int (1 : Int32))])) tz → Steps p.tables e below (s₁.setTop (mkF m 21 #[.val (.ref o1), .val (.ref o2), .val (.int (0 : Int32))] [(.int (97 : Int32)), (.int (97 : Int32))])) tz := by
        intro tz kz
        refine XS.icmpYes X0.here hx rfl (pc0 := 21) (pc' := 26) rfl (hb hby d15_21) rfl (teq (by decide)).1 (by decide) (by decide) ?_
        show Steps p.tables e below (s₁.setTop (mkF m 26 #[.val (.ref o1), .val (.ref o2), .val (.int (0 : Int32))] [])) _
        refine XS.iinc X0.here hx rfl (hb hby d15_26) rfl (l' := #[.val (.ref o1), .val (.ref o2), .val (.int (1 : Int32))]) rfl ?_
        show Steps p.tables e below (s₁.setTop (mkF m 29 #[.val (.ref o1), .val (.ref o2), .val (.int (1 : Int32))] [])) _
        refine XS.goto X0.here hx rfl (pc0 := 29) (pc' := 9) rfl (hb hby d15_29) (by decide) (by decide) ?_
        show Steps p.tables e below (s₁.setTop (mkF m 9 #[.val (.ref o1), .val (.ref o2), .val (.int (1 : Int32))] [])) _
        refine XS.iloadN X0.here hx rfl (hb hby d15_9) rfl ?_
        show Steps p.tables e below (s₁.setTop (mkF m 10 #[.val (.ref o1), .val (.ref o2), .val (.int (1 : Int32))] [(.int (1 : Int32))])) _
        refine XS.aloadN X0.here hx rfl (hb hby d15_10) rfl rfl ?_
        exact kz
      refine OG.step s87 ?_
      have av88 := Gx_o1_11
      obtain ⟨cl88, Ar88, qa_88, Sa_88, Nn_88, Ha_88, Ga_88⟩ := av88
      refine OG.step (X0.arraylength hx (by rw [e0]; exact Ar88.1) (State.isArrayOf_alike hZ.alike Ar88.2.1) (g := (mkF m 11 #[.val (.ref o1), .val (.ref o2), .val (.int (1 : Int32))] [(.ref o1), (.int (1 : Int32))])) rfl rfl (hb hby d15_11)) ?_
      rw [len_of Sa_88 Nn_88]
      show OG _ _ _ _ _ _ _ (s₁.setTop (mkF m 12 #[.val (.ref o1), .val (.ref o2), .val (.int (1 : Int32))] [(.int (7 : Int32)), (.int (1 : Int32))]))
      have s89 : ∀ tz, Steps p.tables e below (s₁.setTop (mkF m 17 #[.val (.ref o1), .val (.ref o2), .val (.int (1 : Int32))] [(.int (1 : Int32)), (.ref o1)])) tz → Steps p.tables e below (s₁.setTop (mkF m 12 #[.val (.ref o1), .val (.ref o2), .val (.int (1 : Int32))] [(.int (7 : Int32)), (.int (1 : Int32))])) tz := by
        intro tz kz
        refine XS.icmpNo X0.here hx rfl (hb hby d15_12) rfl (tlt (by decide)).2.1 ?_
        show Steps p.tables e below (s₁.setTop (mkF m 15 #[.val (.ref o1), .val (.ref o2), .val (.int (1 : Int32))] [])) _
        refine XS.aloadN X0.here hx rfl (hb hby d15_15) rfl rfl ?_
        show Steps p.tables e below (s₁.setTop (mkF m 16 #[.val (.ref o1), .val (.ref o2), .val (.int (1 : Int32))] [(.ref o1)])) _
        refine XS.iloadN X0.here hx rfl (hb hby d15_16) rfl ?_
        exact kz
      refine OG.step s89 ?_
      have av90 := Gx_o1_11
      obtain ⟨cl90, Ar90, qa_90, Sa_90, Nn_90, Ha_90, Ga_90⟩ := av90
      have hin90 : ¬ ((1 : Int32) < 0 ∨ cl90.slots.size ≤ ((1 : Int32)).toNatClampNeg) := inb_of Sa_90 ⟨(by decide), (by decide)⟩
      have hat90 : cl90.slots[((1 : Int32)).toNatClampNeg]? = some (.int (99 : Int32)) := Ha_90.at hin90 rfl
      refine OG.step (X0.baloadBytes hx (j := (1 : Int32)) (v := (.int (99 : Int32))) (by rw [e0]; exact Ar90.1) (State.isArrayOf_alike hZ.alike Ar90.2.1) Ar90.2.2 hin90 hat90 (g := (mkF m 17 #[.val (.ref o1), .val (.ref o2), .val (.int (1 : Int32))] [(.int (1 : Int32)), (.ref o1)])) rfl rfl (hb hby d15_17)) ?_
      show OG _ _ _ _ _ _ _ (s₁.setTop (mkF m 18 #[.val (.ref o1), .val (.ref o2), .val (.int (1 : Int32))] [(.int (99 : Int32))]))
      have s91 : ∀ tz, Steps p.tables e below (s₁.setTop (mkF m 20 #[.val (.ref o1), .val (.ref o2), .val (.int (1 : Int32))] [(.int (1 : Int32)), (.ref o2), (.int (99 : Int32))])) tz → Steps p.tables e below (s₁.setTop (mkF m 18 #[.val (.ref o1), .val (.ref o2), .val (.int (1 : Int32))] [(.int (99 : Int32))])) tz := by
        intro tz kz
        refine XS.aloadN X0.here hx rfl (hb hby d15_18) rfl rfl ?_
        show Steps p.tables e below (s₁.setTop (mkF m 19 #[.val (.ref o1), .val (.ref o2), .val (.int (1 : Int32))] [(.ref o2), (.int (99 : Int32))])) _
        refine XS.iloadN X0.here hx rfl (hb hby d15_19) rfl ?_
        exact kz
      refine OG.step s91 ?_
      have av92 := Gx_o2_11
      obtain ⟨cl92, Ar92, qa_92, Sa_92, Nn_92, Ha_92, Ga_92⟩ := av92
      have hin92 : ¬ ((1 : Int32) < 0 ∨ cl92.slots.size ≤ ((1 : Int32)).toNatClampNeg) := inb_of Sa_92 ⟨(by decide), (by decide)⟩
      have hat92 : cl92.slots[((1 : Int32)).toNatClampNeg]? = some (.int (99 : Int32)) := Ha_92.at hin92 rfl
      refine OG.step (X0.baloadBytes hx (j := (1 : Int32)) (v := (.int (99 : Int32))) (by rw [e0]; exact Ar92.1) (State.isArrayOf_alike hZ.alike Ar92.2.1) Ar92.2.2 hin92 hat92 (g := (mkF m 20 #[.val (.ref o1), .val (.ref o2), .val (.int (1 : Int32))] [(.int (1 : Int32)), (.ref o2), (.int (99 : Int32))])) rfl rfl (hb hby d15_20)) ?_
      show OG _ _ _ _ _ _ _ (s₁.setTop (mkF m 21 #[.val (.ref o1), .val (.ref o2), .val (.int (1 : Int32))] [(.int (99 : Int32)), (.int (99 : Int32))]))
      have s93 : ∀ tz, Steps p.tables e below (s₁.setTop (mkF m 11 #[.val (.ref o1), .val (.ref o2), .val (.int (2 : Int32))] [(.ref o1), (.int (2 : Int32))])) tz → Steps p.tables e below (s₁.setTop (mkF m 21 #[.val (.ref o1), .val (.ref o2), .val (.int (1 : Int32))] [(.int (99 : Int32)), (.int (99 : Int32))])) tz := by
        intro tz kz
        refine XS.icmpYes X0.here hx rfl (pc0 := 21) (pc' := 26) rfl (hb hby d15_21) rfl (teq (by decide)).1 (by decide) (by decide) ?_
        show Steps p.tables e below (s₁.setTop (mkF m 26 #[.val (.ref o1), .val (.ref o2), .val (.int (1 : Int32))] [])) _
        refine XS.iinc X0.here hx rfl (hb hby d15_26) rfl (l' := #[.val (.ref o1), .val (.ref o2), .val (.int (2 : Int32))]) rfl ?_
        show Steps p.tables e below (s₁.setTop (mkF m 29 #[.val (.ref o1), .val (.ref o2), .val (.int (2 : Int32))] [])) _
        refine XS.goto X0.here hx rfl (pc0 := 29) (pc' := 9) rfl (hb hby d15_29) (by decide) (by decide) ?_
        show Steps p.tables e below (s₁.setTop (mkF m 9 #[.val (.ref o1), .val (.ref o2), .val (.int (2 : Int32))] [])) _
        refine XS.iloadN X0.here hx rfl (hb hby d15_9) rfl ?_
        show Steps p.tables e below (s₁.setTop (mkF m 10 #[.val (.ref o1), .val (.ref o2), .val (.int (2 : Int32))] [(.int (2 : Int32))])) _
        refine XS.aloadN X0.here hx rfl (hb hby d15_10) rfl rfl ?_
        exact kz
      refine OG.step s93 ?_
      have av94 := Gx_o1_11
      obtain ⟨cl94, Ar94, qa_94, Sa_94, Nn_94, Ha_94, Ga_94⟩ := av94
      refine OG.step (X0.arraylength hx (by rw [e0]; exact Ar94.1) (State.isArrayOf_alike hZ.alike Ar94.2.1) (g := (mkF m 11 #[.val (.ref o1), .val (.ref o2), .val (.int (2 : Int32))] [(.ref o1), (.int (2 : Int32))])) rfl rfl (hb hby d15_11)) ?_
      rw [len_of Sa_94 Nn_94]
      show OG _ _ _ _ _ _ _ (s₁.setTop (mkF m 12 #[.val (.ref o1), .val (.ref o2), .val (.int (2 : Int32))] [(.int (7 : Int32)), (.int (2 : Int32))]))
      have s95 : ∀ tz, Steps p.tables e below (s₁.setTop (mkF m 17 #[.val (.ref o1), .val (.ref o2), .val (.int (2 : Int32))] [(.int (2 : Int32)), (.ref o1)])) tz → Steps p.tables e below (s₁.setTop (mkF m 12 #[.val (.ref o1), .val (.ref o2), .val (.int (2 : Int32))] [(.int (7 : Int32)), (.int (2 : Int32))])) tz := by
        intro tz kz
        refine XS.icmpNo X0.here hx rfl (hb hby d15_12) rfl (tlt (by decide)).2.1 ?_
        show Steps p.tables e below (s₁.setTop (mkF m 15 #[.val (.ref o1), .val (.ref o2), .val (.int (2 : Int32))] [])) _
        refine XS.aloadN X0.here hx rfl (hb hby d15_15) rfl rfl ?_
        show Steps p.tables e below (s₁.setTop (mkF m 16 #[.val (.ref o1), .val (.ref o2), .val (.int (2 : Int32))] [(.ref o1)])) _
        refine XS.iloadN X0.here hx rfl (hb hby d15_16) rfl ?_
        exact kz
      refine OG.step s95 ?_
      have av96 := Gx_o1_11
      obtain ⟨cl96, Ar96, qa_96, Sa_96, Nn_96, Ha_96, Ga_96⟩ := av96
      have hin96 : ¬ ((2 : Int32) < 0 ∨ cl96.slots.size ≤ ((2 : Int32)).toNatClampNeg) := inb_of Sa_96 ⟨(by decide), (by decide)⟩
      have hat96 : cl96.slots[((2 : Int32)).toNatClampNeg]? = some (.int (99 : Int32)) := Ha_96.at hin96 rfl
      refine OG.step (X0.baloadBytes hx (j := (2 : Int32)) (v := (.int (99 : Int32))) (by rw [e0]; exact Ar96.1) (State.isArrayOf_alike hZ.alike Ar96.2.1) Ar96.2.2 hin96 hat96 (g := (mkF m 17 #[.val (.ref o1), .val (.ref o2), .val (.int (2 : Int32))] [(.int (2 : Int32)), (.ref o1)])) rfl rfl (hb hby d15_17)) ?_
      show OG _ _ _ _ _ _ _ (s₁.setTop (mkF m 18 #[.val (.ref o1), .val (.ref o2), .val (.int (2 : Int32))] [(.int (99 : Int32))]))
      have s97 : ∀ tz, Steps p.tables e below (s₁.setTop (mkF m 20 #[.val (.ref o1), .val (.ref o2), .val (.int (2 : Int32))] [(.int (2 : Int32)), (.ref o2), (.int (99 : Int32))])) tz → Steps p.tables e below (s₁.setTop (mkF m 18 #[.val (.ref o1), .val (.ref o2), .val (.int (2 : Int32))] [(.int (99 : Int32))])) tz := by
        intro tz kz
        refine XS.aloadN X0.here hx rfl (hb hby d15_18) rfl rfl ?_
        show Steps p.tables e below (s₁.setTop (mkF m 19 #[.val (.ref o1), .val (.ref o2), .val (.int (2 : Int32))] [(.ref o2), (.int (99 : Int32))])) _
        refine XS.iloadN X0.here hx rfl (hb hby d15_19) rfl ?_
        exact kz
      refine OG.step s97 ?_
      have av98 := Gx_o2_11
      obtain ⟨cl98, Ar98, qa_98, Sa_98, Nn_98, Ha_98, Ga_98⟩ := av98
      have hin98 : ¬ ((2 : Int32) < 0 ∨ cl98.slots.size ≤ ((2 : Int32)).toNatClampNeg) := inb_of Sa_98 ⟨(by decide), (by decide)⟩
      have hat98 : cl98.slots[((2 : Int32)).toNatClampNeg]? = some (.int (99 : Int32)) := Ha_98.at hin98 rfl
      refine OG.step (X0.baloadBytes hx (j := (2 : Int32)) (v := (.int (99 : Int32))) (by rw [e0]; exact Ar98.1) (State.isArrayOf_alike hZ.alike Ar98.2.1) Ar98.2.2 hin98 hat98 (g := (mkF m 20 #[.val (.ref o1), .val (.ref o2), .val (.int (2 : Int32))] [(.int (2 : Int32)), (.ref o2), (.int (99 : Int32))])) rfl rfl (hb hby d15_20)) ?_
      show OG _ _ _ _ _ _ _ (s₁.setTop (mkF m 21 #[.val (.ref o1), .val (.ref o2), .val (.int (2 : Int32))] [(.int (99 : Int32)), (.int (99 : Int32))]))
      have s99 : ∀ tz, Steps p.tables e below (s₁.setTop (mkF m 11 #[.val (.ref o1), .val (.ref o2), .val (.int (3 : Int32))] [(.ref o1), (.int (3 : Int32))])) tz → Steps p.tables e below (s₁.setTop (mkF m 21 #[.val (.ref o1), .val (.ref o2), .val (.int (2 : Int32))] [(.int (99 : Int32)), (.int (99 : Int32))])) tz := by
        intro tz kz
        refine XS.icmpYes X0.here hx rfl (pc0 := 21) (pc' := 26) rfl (hb hby d15_21) rfl (teq (by decide)).1 (by decide) (by decide) ?_
        show Steps p.tables e below (s₁.setTop (mkF m 26 #[.val (.ref o1), .val (.ref o2), .val (.int (2 : Int32))] [])) _
        refine XS.iinc X0.here hx rfl (hb hby d15_26) rfl (l' := #[.val (.ref o1), .val (.ref o2), .val (.int (3 : Int32))]) rfl ?_
        show Steps p.tables e below (s₁.setTop (mkF m 29 #[.val (.ref o1), .val (.ref o2), .val (.int (3 : Int32))] [])) _
        refine XS.goto X0.here hx rfl (pc0 := 29) (pc' := 9) rfl (hb hby d15_29) (by decide) (by decide) ?_
        show Steps p.tables e below (s₁.setTop (mkF m 9 #[.val (.ref o1), .val (.ref o2), .val (.int (3 : Int32))] [])) _
        refine XS.iloadN X0.here hx rfl (hb hby d15_9) rfl ?_
        show Steps p.tables e below (s₁.setTop (mkF m 10 #[.val (.ref o1), .val (.ref o2), .val (.int (3 : Int32))] [(.int (3 : Int32))])) _
        refine XS.aloadN X0.here hx rfl (hb hby d15_10) rfl rfl ?_
        exact kz
      refine OG.step s99 ?_
      have av100 := Gx_o1_11
      obtain ⟨cl100, Ar100, qa_100, Sa_100, Nn_100, Ha_100, Ga_100⟩ := av100
      refine OG.step (X0.arraylength hx (by rw [e0]; exact Ar100.1) (State.isArrayOf_alike hZ.alike Ar100.2.1) (g := (mkF m 11 #[.val (.ref o1), .val (.ref o2), .val (.int (3 : Int32))] [(.ref o1), (.int (3 : Int32))])) rfl rfl (hb hby d15_11)) ?_
      rw [len_of Sa_100 Nn_100]
      show OG _ _ _ _ _ _ _ (s₁.setTop (mkF m 12 #[.val (.ref o1), .val (.ref o2), .val (.int (3 : Int32))] [(.int (7 : Int32)), (.int (3 : Int32))]))
      have s101 : ∀ tz, Steps p.tables e below (s₁.setTop (mkF m 17 #[.val (.ref o1), .val (.ref o2), .val (.int (3 : Int32))] [(.int (3 : Int32)), (.ref o1)])) tz → Steps p.tables e below (s₁.setTop (mkF m 12 #[.val (.ref o1), .val (.ref o2), .val (.int (3 : Int32))] [(.int (7 : Int32)), (.int (3 : Int32))])) tz := by
        intro tz kz
        refine XS.icmpNo X0.here hx rfl (hb hby d15_12) rfl (tlt (by decide)).2.1 ?_
        show Steps p.tables e below (s₁.setTop (mkF m 15 #[.val (.ref o1), .val (.ref o2), .val (.int (3 : Int32))] [])) _
        refine XS.aloadN X0.here hx rfl (hb hby d15_15) rfl rfl ?_
        show Steps p.tables e below (s₁.setTop (mkF m 16 #[.val (.ref o1), .val (.ref o2), .val (.int (3 : Int32))] [(.ref o1)])) _
        refine XS.iloadN X0.here hx rfl (hb hby d15_16) rfl ?_
        exact kz
      refine OG.step s101 ?_
      have av102 := Gx_o1_11
      obtain ⟨cl102, Ar102, qa_102, Sa_102, Nn_102, Ha_102, Ga_102⟩ := av102
      have hin102 : ¬ ((3 : Int32) < 0 ∨ cl102.slots.size ≤ ((3 : Int32)).toNatClampNeg) := inb_of Sa_102 ⟨(by decide), (by decide)⟩
      have hat102 : cl102.slots[((3 : Int32)).toNatClampNeg]? = some (.int (111 : Int32)) := Ha_102.at hin102 rfl
      refine OG.step (X0.baloadBytes hx (j := (3 : Int32)) (v := (.int (111 : Int32))) (by rw [e0]; exact Ar102.1) (State.isArrayOf_alike hZ.alike Ar102.2.1) Ar102.2.2 hin102 hat102 (g := (mkF m 17 #[.val (.ref o1), .val (.ref o2), .val (.int (3 : Int32))] [(.int (3 : Int32)), (.ref o1)])) rfl rfl (hb hby d15_17)) ?_
      show OG _ _ _ _ _ _ _ (s₁.setTop (mkF m 18 #[.val (.ref o1), .val (.ref o2), .val (.int (3 : Int32))] [(.int (111 : Int32))]))
      have s103 : ∀ tz, Steps p.tables e below (s₁.setTop (mkF m 20 #[.val (.ref o1), .val (.ref o2), .val (.int (3 : Int32))] [(.int (3 : Int32)), (.ref o2), (.int (111 : Int32))])) tz → Steps p.tables e below (s₁.setTop (mkF m 18 #[.val (.ref o1), .val (.ref o2), .val (.int (3 : Int32))] [(.int (111 : Int32))])) tz := by
        intro tz kz
        refine XS.aloadN X0.here hx rfl (hb hby d15_18) rfl rfl ?_
        show Steps p.tables e below (s₁.setTop (mkF m 19 #[.val (.ref o1), .val (.ref o2), .val (.int (3 : Int32))] [(.ref o2), (.int (111 : Int32))])) _
        refine XS.iloadN X0.here hx rfl (hb hby d15_19) rfl ?_
        exact kz
      refine OG.step s103 ?_
      have av104 := Gx_o2_11
      obtain ⟨cl104, Ar104, qa_104, Sa_104, Nn_104, Ha_104, Ga_104⟩ := av104
      have hin104 : ¬ ((3 : Int32) < 0 ∨ cl104.slots.size ≤ ((3 : Int32)).toNatClampNeg) := inb_of Sa_104 ⟨(by decide), (by decide)⟩
      have hat104 : cl104.slots[((3 : Int32)).toNatClampNeg]? = some (.int (111 : Int32)) := Ha_104.at hin104 rfl
      refine OG.step (X0.baloadBytes hx (j := (3 : Int32)) (v := (.int (111 : Int32))) (by rw [e0]; exact Ar104.1) (State.isArrayOf_alike hZ.alike Ar104.2.1) Ar104.2.2 hin104 hat104 (g := (mkF m 20 #[.val (.ref o1), .val (.ref o2), .val (.int (3 : Int32))] [(.int (3 : Int32)), (.ref o2), (.int (111 : Int32))])) rfl rfl (hb hby d15_20)) ?_
      show OG _ _ _ _ _ _ _ (s₁.setTop (mkF m 21 #[.val (.ref o1), .val (.ref o2), .val (.int (3 : Int32))] [(.int (111 : Int32)), (.int (111 : Int32))]))
      have s105 : ∀ tz, Steps p.tables e below (s₁.setTop (mkF m 11 #[.val (.ref o1), .val (.ref o2), .val (.int (4 : Int32))] [(.ref o1), (.int (4 : Int32))])) tz → Steps p.tables e below (s₁.setTop (mkF m 21 #[.val (.ref o1), .val (.ref o2), .val (.int (3 : Int32))] [(.int (111 : Int32)), (.int (111 : Int32))])) tz := by
        intro tz kz
        refine XS.icmpYes X0.here hx rfl (pc0 := 21) (pc' := 26) rfl (hb hby d15_21) rfl (teq (by decide)).1 (by decide) (by decide) ?_
        show Steps p.tables e below (s₁.setTop (mkF m 26 #[.val (.ref o1), .val (.ref o2), .val (.int (3 : Int32))] [])) _
        refine XS.iinc X0.here hx rfl (hb hby d15_26) rfl (l' := #[.val (.ref o1), .val (.ref o2), .val (.int (4 : Int32))]) rfl ?_
        show Steps p.tables e below (s₁.setTop (mkF m 29 #[.val (.ref o1), .val (.ref o2), .val (.int (4 : Int32))] [])) _
        refine XS.goto X0.here hx rfl (pc0 := 29) (pc' := 9) rfl (hb hby d15_29) (by decide) (by decide) ?_
        show Steps p.tables e below (s₁.setTop (mkF m 9 #[.val (.ref o1), .val (.ref o2), .val (.int (4 : Int32))] [])) _
        refine XS.iloadN X0.here hx rfl (hb hby d15_9) rfl ?_
        show Steps p.tables e below (s₁.setTop (mkF m 10 #[.val (.ref o1), .val (.ref o2), .val (.int (4 : Int32))] [(.int (4 : Int32))])) _
        refine XS.aloadN X0.here hx rfl (hb hby d15_10) rfl rfl ?_
        exact kz
      refine OG.step s105 ?_
      have av106 := Gx_o1_11
      obtain ⟨cl106, Ar106, qa_106, Sa_106, Nn_106, Ha_106, Ga_106⟩ := av106
      refine OG.step (X0.arraylength hx (by rw [e0]; exact Ar106.1) (State.isArrayOf_alike hZ.alike Ar106.2.1) (g := (mkF m 11 #[.val (.ref o1), .val (.ref o2), .val (.int (4 : Int32))] [(.ref o1), (.int (4 : Int32))])) rfl rfl (hb hby d15_11)) ?_
      rw [len_of Sa_106 Nn_106]
      show OG _ _ _ _ _ _ _ (s₁.setTop (mkF m 12 #[.val (.ref o1), .val (.ref o2), .val (.int (4 : Int32))] [(.int (7 : Int32)), (.int (4 : Int32))]))
      have s107 : ∀ tz, Steps p.tables e below (s₁.setTop (mkF m 17 #[.val (.ref o1), .val (.ref o2), .val (.int (4 : Int32))] [(.int (4 : Int32)), (.ref o1)])) tz → Steps p.tables e below (s₁.setTop (mkF m 12 #[.val (.ref o1), .val (.ref o2), .val (.int (4 : Int32))] [(.int (7 : Int32)), (.int (4 : Int32))])) tz := by
        intro tz kz
        refine XS.icmpNo X0.here hx rfl (hb hby d15_12) rfl (tlt (by decide)).2.1 ?_
        show Steps p.tables e below (s₁.setTop (mkF m 15 #[.val (.ref o1), .val (.ref o2), .val (.int (4 : Int32))] [])) _
        refine XS.aloadN X0.here hx rfl (hb hby d15_15) rfl rfl ?_
        show Steps p.tables e below (s₁.setTop (mkF m 16 #[.val (.ref o1), .val (.ref o2), .val (.int (4 : Int32))] [(.ref o1)])) _
        refine XS.iloadN X0.here hx rfl (hb hby d15_16) rfl ?_
        exact kz
      refine OG.step s107 ?_
      have av108 := Gx_o1_11
      obtain ⟨cl108, Ar108, qa_108, Sa_108, Nn_108, Ha_108, Ga_108⟩ := av108
      have hin108 : ¬ ((4 : Int32) < 0 ∨ cl108.slots.size ≤ ((4 : Int32)).toNatClampNeg) := inb_of Sa_108 ⟨(by decide), (by decide)⟩
      have hat108 : cl108.slots[((4 : Int32)).toNatClampNeg]? = some (.int (117 : Int32)) := Ha_108.at hin108 rfl
      refine OG.step (X0.baloadBytes hx (j := (4 : Int32)) (v := (.int (117 : Int32))) (by rw [e0]; exact Ar108.1) (State.isArrayOf_alike hZ.alike Ar108.2.1) Ar108.2.2 hin108 hat108 (g := (mkF m 17 #[.val (.ref o1), .val (.ref o2), .val (.int (4 : Int32))] [(.int (4 : Int32)), (.ref o1)])) rfl rfl (hb hby d15_17)) ?_
      show OG _ _ _ _ _ _ _ (s₁.setTop (mkF m 18 #[.val (.ref o1), .val (.ref o2), .val (.int (4 : Int32))] [(.int (117 : Int32))]))
      have s109 : ∀ tz, Steps p.tables e below (s₁.setTop (mkF m 20 #[.val (.ref o1), .val (.ref o2), .val (.int (4 : Int32))] [(.int (4 : Int32)), (.ref o2), (.int (117 : Int32))])) tz → Steps p.tables e below (s₁.setTop (mkF m 18 #[.val (.ref o1), .val (.ref o2), .val (.int (4 : Int32))] [(.int (117 : Int32))])) tz := by
        intro tz kz
        refine XS.aloadN X0.here hx rfl (hb hby d15_18) rfl rfl ?_
        show Steps p.tables e below (s₁.setTop (mkF m 19 #[.val (.ref o1), .val (.ref o2), .val (.int (4 : Int32))] [(.ref o2), (.int (117 : Int32))])) _
        refine XS.iloadN X0.here hx rfl (hb hby d15_19) rfl ?_
        exact kz
      refine OG.step s109 ?_
      have av110 := Gx_o2_11
      obtain ⟨cl110, Ar110, qa_110, Sa_110, Nn_110, Ha_110, Ga_110⟩ := av110
      have hin110 : ¬ ((4 : Int32) < 0 ∨ cl110.slots.size ≤ ((4 : Int32)).toNatClampNeg) := inb_of Sa_110 ⟨(by decide), (by decide)⟩
      have hat110 : cl110.slots[((4 : Int32)).toNatClampNeg]? = some (.int (117 : Int32)) := Ha_110.at hin110 rfl
      refine OG.step (X0.baloadBytes hx (j := (4 : Int32)) (v := (.int (117 : Int32))) (by rw [e0]; exact Ar110.1) (State.isArrayOf_alike hZ.alike Ar110.2.1) Ar110.2.2 hin110 hat110 (g := (mkF m 20 #[.val (.ref o1), .val (.ref o2), .val (.int (4 : Int32))] [(.int (4 : Int32)), (.ref o2), (.int (117 : Int32))])) rfl rfl (hb hby d15_20)) ?_
      show OG _ _ _ _ _ _ _ (s₁.setTop (mkF m 21 #[.val (.ref o1), .val (.ref o2), .val (.int (4 : Int32))] [(.int (117 : Int32)), (.int (117 : Int32))]))
      have s111 : ∀ tz, Steps p.tables e below (s₁.setTop (mkF m 11 #[.val (.ref o1), .val (.ref o2), .val (.int (5 : Int32))] [(.ref o1), (.int (5 : Int32))])) tz → Steps p.tables e below (s₁.setTop (mkF m 21 #[.val (.ref o1), .val (.ref o2), .val (.int (4 : Int32))] [(.int (117 : Int32)), (.int (117 : Int32))])) tz := by
        intro tz kz
        refine XS.icmpYes X0.here hx rfl (pc0 := 21) (pc' := 26) rfl (hb hby d15_21) rfl (teq (by decide)).1 (by decide) (by decide) ?_
        show Steps p.tables e below (s₁.setTop (mkF m 26 #[.val (.ref o1), .val (.ref o2), .val (.int (4 : Int32))] [])) _
        refine XS.iinc X0.here hx rfl (hb hby d15_26) rfl (l' := #[.val (.ref o1), .val (.ref o2), .val (.int (5 : Int32))]) rfl ?_
        show Steps p.tables e below (s₁.setTop (mkF m 29 #[.val (.ref o1), .val (.ref o2), .val (.int (5 : Int32))] [])) _
        refine XS.goto X0.here hx rfl (pc0 := 29) (pc' := 9) rfl (hb hby d15_29) (by decide) (by decide) ?_
        show Steps p.tables e below (s₁.setTop (mkF m 9 #[.val (.ref o1), .val (.ref o2), .val (.int (5 : Int32))] [])) _
        refine XS.iloadN X0.here hx rfl (hb hby d15_9) rfl ?_
        show Steps p.tables e below (s₁.setTop (mkF m 10 #[.val (.ref o1), .val (.ref o2), .val (.int (5 : Int32))] [(.int (5 : Int32))])) _
        refine XS.aloadN X0.here hx rfl (hb hby d15_10) rfl rfl ?_
        exact kz
      refine OG.step s111 ?_
      have av112 := Gx_o1_11
      obtain ⟨cl112, Ar112, qa_112, Sa_112, Nn_112, Ha_112, Ga_112⟩ := av112
      refine OG.step (X0.arraylength hx (by rw [e0]; exact Ar112.1) (State.isArrayOf_alike hZ.alike Ar112.2.1) (g := (mkF m 11 #[.val (.ref o1), .val (.ref o2), .val (.int (5 : Int32))] [(.ref o1), (.int (5 : Int32))])) rfl rfl (hb hby d15_11)) ?_
      rw [len_of Sa_112 Nn_112]
      show OG _ _ _ _ _ _ _ (s₁.setTop (mkF m 12 #[.val (.ref o1), .val (.ref o2), .val (.int (5 : Int32))] [(.int (7 : Int32)), (.int (5 : Int32))]))
      have s113 : ∀ tz, Steps p.tables e below (s₁.setTop (mkF m 17 #[.val (.ref o1), .val (.ref o2), .val (.int (5 : Int32))] [(.int (5 : Int32)), (.ref o1)])) tz → Steps p.tables e below (s₁.setTop (mkF m 12 #[.val (.ref o1), .val (.ref o2), .val (.int (5 : Int32))] [(.int (7 : Int32)), (.int (5 : Int32))])) tz := by
        intro tz kz
        refine XS.icmpNo X0.here hx rfl (hb hby d15_12) rfl (tlt (by decide)).2.1 ?_
        show Steps p.tables e below (s₁.setTop (mkF m 15 #[.val (.ref o1), .val (.ref o2), .val (.int (5 : Int32))] [])) _
        refine XS.aloadN X0.here hx rfl (hb hby d15_15) rfl rfl ?_
        show Steps p.tables e below (s₁.setTop (mkF m 16 #[.val (.ref o1), .val (.ref o2), .val (.int (5 : Int32))] [(.ref o1)])) _
        refine XS.iloadN X0.here hx rfl (hb hby d15_16) rfl ?_
        exact kz
      refine OG.step s113 ?_
      have av114 := Gx_o1_11
      obtain ⟨cl114, Ar114, qa_114, Sa_114, Nn_114, Ha_114, Ga_114⟩ := av114
      have hin114 : ¬ ((5 : Int32) < 0 ∨ cl114.slots.size ≤ ((5 : Int32)).toNatClampNeg) := inb_of Sa_114 ⟨(by decide), (by decide)⟩
      have hat114 : cl114.slots[((5 : Int32)).toNatClampNeg]? = some (.int (110 : Int32)) := Ha_114.at hin114 rfl
      refine OG.step (X0.baloadBytes hx (j := (5 : Int32)) (v := (.int (110 : Int32))) (by rw [e0]; exact Ar114.1) (State.isArrayOf_alike hZ.alike Ar114.2.1) Ar114.2.2 hin114 hat114 (g := (mkF m 17 #[.val (.ref o1), .val (.ref o2), .val (.int (5 : Int32))] [(.int (5 : Int32)), (.ref o1)])) rfl rfl (hb hby d15_17)) ?_
      show OG _ _ _ _ _ _ _ (s₁.setTop (mkF m 18 #[.val (.ref o1), .val (.ref o2), .val (.int (5 : Int32))] [(.int (110 : Int32))]))
      have s115 : ∀ tz, Steps p.tables e below (s₁.setTop (mkF m 20 #[.val (.ref o1), .val (.ref o2), .val (.int (5 : Int32))] [(.int (5 : Int32)), (.ref o2), (.int (110 : Int32))])) tz → Steps p.tables e below (s₁.setTop (mkF m 18 #[.val (.ref o1), .val (.ref o2), .val (.int (5 : Int32))] [(.int (110 : Int32))])) tz := by
        intro tz kz
        refine XS.aloadN X0.here hx rfl (hb hby d15_18) rfl rfl ?_
        show Steps p.tables e below (s₁.setTop (mkF m 19 #[.val (.ref o1), .val (.ref o2), .val (.int (5 : Int32))] [(.ref o2), (.int (110 : Int32))])) _
        refine XS.iloadN X0.here hx rfl (hb hby d15_19) rfl ?_
        exact kz
      refine OG.step s115 ?_
      have av116 := Gx_o2_11
      obtain ⟨cl116, Ar116, qa_116, Sa_116, Nn_116, Ha_116, Ga_116⟩ := av116
      have hin116 : ¬ ((5 : Int32) < 0 ∨ cl116.slots.size ≤ ((5 : Int32)).toNatClampNeg) := inb_of Sa_116 ⟨(by decide), (by decide)⟩
      have hat116 : cl116.slots[((5 : Int32)).toNatClampNeg]? = some (.int (110 : Int32)) := Ha_116.at hin116 rfl
      refine OG.step (X0.baloadBytes hx (j := (5 : Int32)) (v := (.int (110 : Int32))) (by rw [e0]; exact Ar116.1) (State.isArrayOf_alike hZ.alike Ar116.2.1) Ar116.2.2 hin116 hat116 (g := (mkF m 20 #[.val (.ref o1), .val (.ref o2), .val (.int (5 : Int32))] [(.int (5 : Int32)), (.ref o2), (.int (110 : Int32))])) rfl rfl (hb hby d15_20)) ?_
      show OG _ _ _ _ _ _ _ (s₁.setTop (mkF m 21 #[.val (.ref o1), .val (.ref o2), .val (.int (5 : Int32))] [(.int (110 : Int32)), (.int (110 : Int32))]))
      have s117 : ∀ tz, Steps p.tables e below (s₁.setTop (mkF m 11 #[.val (.ref o1), .val (.ref o2), .val (.int (6 : Int32))] [(.ref o1), (.int (6 : Int32))])) tz → Steps p.tables e below (s₁.setTop (mkF m 21 #[.val (.ref o1), .val (.ref o2), .val (.int (5 : Int32))] [(.int (110 : Int32)), (.int (110 : Int32))])) tz := by
        intro tz kz
        refine XS.icmpYes X0.here hx rfl (pc0 := 21) (pc' := 26) rfl (hb hby d15_21) rfl (teq (by decide)).1 (by decide) (by decide) ?_
        show Steps p.tables e below (s₁.setTop (mkF m 26 #[.val (.ref o1), .val (.ref o2), .val (.int (5 : Int32))] [])) _
        refine XS.iinc X0.here hx rfl (hb hby d15_26) rfl (l' := #[.val (.ref o1), .val (.ref o2), .val (.int (6 : Int32))]) rfl ?_
        show Steps p.tables e below (s₁.setTop (mkF m 29 #[.val (.ref o1), .val (.ref o2), .val (.int (6 : Int32))] [])) _
        refine XS.goto X0.here hx rfl (pc0 := 29) (pc' := 9) rfl (hb hby d15_29) (by decide) (by decide) ?_
        show Steps p.tables e below (s₁.setTop (mkF m 9 #[.val (.ref o1), .val (.ref o2), .val (.int (6 : Int32))] [])) _
        refine XS.iloadN X0.here hx rfl (hb hby d15_9) rfl ?_
        show Steps p.tables e below (s₁.setTop (mkF m 10 #[.val (.ref o1), .val (.ref o2), .val (.int (6 : Int32))] [(.int (6 : Int32))])) _
        refine XS.aloadN X0.here hx rfl (hb hby d15_10) rfl rfl ?_
        exact kz
      refine OG.step s117 ?_
      have av118 := Gx_o1_11
      obtain ⟨cl118, Ar118, qa_118, Sa_118, Nn_118, Ha_118, Ga_118⟩ := av118
      refine OG.step (X0.arraylength hx (by rw [e0]; exact Ar118.1) (State.isArrayOf_alike hZ.alike Ar118.2.1) (g := (mkF m 11 #[.val (.ref o1), .val (.ref o2), .val (.int (6 : Int32))] [(.ref o1), (.int (6 : Int32))])) rfl rfl (hb hby d15_11)) ?_
      rw [len_of Sa_118 Nn_118]
      show OG _ _ _ _ _ _ _ (s₁.setTop (mkF m 12 #[.val (.ref o1), .val (.ref o2), .val (.int (6 : Int32))] [(.int (7 : Int32)), (.int (6 : Int32))]))
      have s119 : ∀ tz, Steps p.tables e below (s₁.setTop (mkF m 17 #[.val (.ref o1), .val (.ref o2), .val (.int (6 : Int32))] [(.int (6 : Int32)), (.ref o1)])) tz → Steps p.tables e below (s₁.setTop (mkF m 12 #[.val (.ref o1), .val (.ref o2), .val (.int (6 : Int32))] [(.int (7 : Int32)), (.int (6 : Int32))])) tz := by
        intro tz kz
        refine XS.icmpNo X0.here hx rfl (hb hby d15_12) rfl (tlt (by decide)).2.1 ?_
        show Steps p.tables e below (s₁.setTop (mkF m 15 #[.val (.ref o1), .val (.ref o2), .val (.int (6 : Int32))] [])) _
        refine XS.aloadN X0.here hx rfl (hb hby d15_15) rfl rfl ?_
        show Steps p.tables e below (s₁.setTop (mkF m 16 #[.val (.ref o1), .val (.ref o2), .val (.int (6 : Int32))] [(.ref o1)])) _
        refine XS.iloadN X0.here hx rfl (hb hby d15_16) rfl ?_
        exact kz
      refine OG.step s119 ?_
      have av120 := Gx_o1_11
      obtain ⟨cl120, Ar120, qa_120, Sa_120, Nn_120, Ha_120, Ga_120⟩ := av120
      have hin120 : ¬ ((6 : Int32) < 0 ∨ cl120.slots.size ≤ ((6 : Int32)).toNatClampNeg) := inb_of Sa_120 ⟨(by decide), (by decide)⟩
      have hat120 : cl120.slots[((6 : Int32)).toNatClampNeg]? = some (.int (116 : Int32)) := Ha_120.at hin120 rfl
      refine OG.step (X0.baloadBytes hx (j := (6 : Int32)) (v := (.int (116 : Int32))) (by rw [e0]; exact Ar120.1) (State.isArrayOf_alike hZ.alike Ar120.2.1) Ar120.2.2 hin120 hat120 (g := (mkF m 17 #[.val (.ref o1), .val (.ref o2), .val (.int (6 : Int32))] [(.int (6 : Int32)), (.ref o1)])) rfl rfl (hb hby d15_17)) ?_
      show OG _ _ _ _ _ _ _ (s₁.setTop (mkF m 18 #[.val (.ref o1), .val (.ref o2), .val (.int (6 : Int32))] [(.int (116 : Int32))]))
      have s121 : ∀ tz, Steps p.tables e below (s₁.setTop (mkF m 20 #[.val (.ref o1), .val (.ref o2), .val (.int (6 : Int32))] [(.int (6 : Int32)), (.ref o2), (.int (116 : Int32))])) tz → Steps p.tables e below (s₁.setTop (mkF m 18 #[.val (.ref o1), .val (.ref o2), .val (.int (6 : Int32))] [(.int (116 : Int32))])) tz := by
        intro tz kz
        refine XS.aloadN X0.here hx rfl (hb hby d15_18) rfl rfl ?_
        show Steps p.tables e below (s₁.setTop (mkF m 19 #[.val (.ref o1), .val (.ref o2), .val (.int (6 : Int32))] [(.ref o2), (.int (116 : Int32))])) _
        refine XS.iloadN X0.here hx rfl (hb hby d15_19) rfl ?_
        exact kz
      refine OG.step s121 ?_
      have av122 := Gx_o2_11
      obtain ⟨cl122, Ar122, qa_122, Sa_122, Nn_122, Ha_122, Ga_122⟩ := av122
      have hin122 : ¬ ((6 : Int32) < 0 ∨ cl122.slots.size ≤ ((6 : Int32)).toNatClampNeg) := inb_of Sa_122 ⟨(by decide), (by decide)⟩
      have hat122 : cl122.slots[((6 : Int32)).toNatClampNeg]? = some (.int (116 : Int32)) := Ha_122.at hin122 rfl
      refine OG.step (X0.baloadBytes hx (j := (6 : Int32)) (v := (.int (116 : Int32))) (by rw [e0]; exact Ar122.1) (State.isArrayOf_alike hZ.alike Ar122.2.1) Ar122.2.2 hin122 hat122 (g := (mkF m 20 #[.val (.ref o1), .val (.ref o2), .val (.int (6 : Int32))] [(.int (6 : Int32)), (.ref o2), (.int (116 : Int32))])) rfl rfl (hb hby d15_20)) ?_
      show OG _ _ _ _ _ _ _ (s₁.setTop (mkF m 21 #[.val (.ref o1), .val (.ref o2), .val (.int (6 : Int32))] [(.int (116 : Int32)), (.int (116 : Int32))]))
      have s123 : ∀ tz, Steps p.tables e below (s₁.setTop (mkF m 11 #[.val (.ref o1), .val (.ref o2), .val (.int (7 : Int32))] [(.ref o1), (.int (7 : Int32))])) tz → Steps p.tables e below (s₁.setTop (mkF m 21 #[.val (.ref o1), .val (.ref o2), .val (.int (6 : Int32))] [(.int (116 : Int32)), (.int (116 : Int32))])) tz := by
        intro tz kz
        refine XS.icmpYes X0.here hx rfl (pc0 := 21) (pc' := 26) rfl (hb hby d15_21) rfl (teq (by decide)).1 (by decide) (by decide) ?_
        show Steps p.tables e below (s₁.setTop (mkF m 26 #[.val (.ref o1), .val (.ref o2), .val (.int (6 : Int32))] [])) _
        refine XS.iinc X0.here hx rfl (hb hby d15_26) rfl (l' := #[.val (.ref o1), .val (.ref o2), .val (.int (7 : Int32))]) rfl ?_
        show Steps p.tables e below (s₁.setTop (mkF m 29 #[.val (.ref o1), .val (.ref o2), .val (.int (7 : Int32))] [])) _
        refine XS.goto X0.here hx rfl (pc0 := 29) (pc' := 9) rfl (hb hby d15_29) (by decide) (by decide) ?_
        show Steps p.tables e below (s₁.setTop (mkF m 9 #[.val (.ref o1), .val (.ref o2), .val (.int (7 : Int32))] [])) _
        refine XS.iloadN X0.here hx rfl (hb hby d15_9) rfl ?_
        show Steps p.tables e below (s₁.setTop (mkF m 10 #[.val (.ref o1), .val (.ref o2), .val (.int (7 : Int32))] [(.int (7 : Int32))])) _
        refine XS.aloadN X0.here hx rfl (hb hby d15_10) rfl rfl ?_
        exact kz
      refine OG.step s123 ?_
      have av124 := Gx_o1_11
      obtain ⟨cl124, Ar124, qa_124, Sa_124, Nn_124, Ha_124, Ga_124⟩ := av124
      refine OG.step (X0.arraylength hx (by rw [e0]; exact Ar124.1) (State.isArrayOf_alike hZ.alike Ar124.2.1) (g := (mkF m 11 #[.val (.ref o1), .val (.ref o2), .val (.int (7 : Int32))] [(.ref o1), (.int (7 : Int32))])) rfl rfl (hb hby d15_11)) ?_
      rw [len_of Sa_124 Nn_124]
      show OG _ _ _ _ _ _ _ (s₁.setTop (mkF m 12 #[.val (.ref o1), .val (.ref o2), .val (.int (7 : Int32))] [(.int (7 : Int32)), (.int (7 : Int32))]))
      have s125 : ∀ tz, Steps p.tables e below (s₁.setTop (mkF m 33 #[.val (.ref o1), .val (.ref o2), .val (.int (7 : Int32))] [(.int (1 : Int32))])) tz → Steps p.tables e below (s₁.setTop (mkF m 12 #[.val (.ref o1), .val (.ref o2), .val (.int (7 : Int32))] [(.int (7 : Int32)), (.int (7 : Int32))])) tz := by
        intro tz kz
        refine XS.icmpYes X0.here hx rfl (pc0 := 12) (pc' := 32) rfl (hb hby d15_12) rfl (flt (by decide)).2.1 (by decide) (by decide) ?_
        show Steps p.tables e below (s₁.setTop (mkF m 32 #[.val (.ref o1), .val (.ref o2), .val (.int (7 : Int32))] [])) _
        refine XS.iconst X0.here hx rfl (hb hby d15_32) ?_
        exact kz
      refine OG.step s125 ?_
      exact OG.retZ X0 hx hlk Bd.returns (hb hby d15_33) (nar_1) e0 ⟨rfl, N0, rfl⟩ (by decide) (by decide)
    · have Gx_o1_12 : Arv Z h0 o1 k1 .byte (7 : Int32) [(.int (97 : Int32)), (.int (99 : Int32)), (.int (99 : Int32)), (.int (111 : Int32)), (.int (117 : Int32)), (.int (110 : Int32)), (.int (116 : Int32))] (.int (0 : Int32)) := F0_o1
      have Gx_o2_12 : Arv Z h0 o2 k2 .byte (5 : Int32) [(.int (118 : Int32)), (.int (105 : Int32)), (.int (115 : Int32)), (.int (105 : Int32)), (.int (116 : Int32))] (.int (0 : Int32)) := F1_o2
      have s126 : ∀ tz, Steps p.tables e below (s₁.setTop (mkF m 1 #[.val (.ref o1), .val (.ref o2), .unset] [(.ref o1)])) tz → Steps p.tables e below (s₁.setTop (mkF m 0 #[.val (.ref o1), .val (.ref o2), .unset] [])) tz := by
        intro tz kz
        refine XS.aloadN X0.here hx rfl (hb hby d15_0) rfl rfl ?_
        exact kz
      refine OG.step s126 ?_
      have av127 := Gx_o1_12
      obtain ⟨cl127, Ar127, qa_127, Sa_127, Nn_127, Ha_127, Ga_127⟩ := av127
      refine OG.step (X0.arraylength hx (by rw [e0]; exact Ar127.1) (State.isArrayOf_alike hZ.alike Ar127.2.1) (g := (mkF m 1 #[.val (.ref o1), .val (.ref o2), .unset] [(.ref o1)])) rfl rfl (hb hby d15_1)) ?_
      rw [len_of Sa_127 Nn_127]
      show OG _ _ _ _ _ _ _ (s₁.setTop (mkF m 2 #[.val (.ref o1), .val (.ref o2), .unset] [(.int (7 : Int32))]))
      have s128 : ∀ tz, Steps p.tables e below (s₁.setTop (mkF m 3 #[.val (.ref o1), .val (.ref o2), .unset] [(.ref o2), (.int (7 : Int32))])) tz → Steps p.tables e below (s₁.setTop (mkF m 2 #[.val (.ref o1), .val (.ref o2), .unset] [(.int (7 : Int32))])) tz := by
        intro tz kz
        refine XS.aloadN X0.here hx rfl (hb hby d15_2) rfl rfl ?_
        exact kz
      refine OG.step s128 ?_
      have av129 := Gx_o2_12
      obtain ⟨cl129, Ar129, qa_129, Sa_129, Nn_129, Ha_129, Ga_129⟩ := av129
      refine OG.step (X0.arraylength hx (by rw [e0]; exact Ar129.1) (State.isArrayOf_alike hZ.alike Ar129.2.1) (g := (mkF m 3 #[.val (.ref o1), .val (.ref o2), .unset] [(.ref o2), (.int (7 : Int32))])) rfl rfl (hb hby d15_3)) ?_
      rw [len_of Sa_129 Nn_129]
      show OG _ _ _ _ _ _ _ (s₁.setTop (mkF m 4 #[.val (.ref o1), .val (.ref o2), .unset] [(.int (5 : Int32)), (.int (7 : Int32))]))
      have s130 : ∀ tz, Steps p.tables e below (s₁.setTop (mkF m 35 #[.val (.ref o1), .val (.ref o2), .unset] [(.int (0 : Int32))])) tz → Steps p.tables e below (s₁.setTop (mkF m 4 #[.val (.ref o1), .val (.ref o2), .unset] [(.int (5 : Int32)), (.int (7 : Int32))])) tz := by
        intro tz kz
        refine XS.icmpYes X0.here hx rfl (pc0 := 4) (pc' := 34) rfl (hb hby d15_4) rfl (feq (by decide)).2 (by decide) (by decide) ?_
        show Steps p.tables e below (s₁.setTop (mkF m 34 #[.val (.ref o1), .val (.ref o2), .unset] [])) _
        refine XS.iconst X0.here hx rfl (hb hby d15_34) ?_
        exact kz
      refine OG.step s130 ?_
      exact OG.retZ X0 hx hlk Bd.returns (hb hby d15_35) (nar_0) e0 ⟨rfl, N0, rfl⟩ (by decide) (by decide)
  · rcases uj with rfl | rfl | rfl
    · have Gx_o1_20 : Arv Z h0 o1 k1 .byte (5 : Int32) [(.int (118 : Int32)), (.int (105 : Int32)), (.int (115 : Int32)), (.int (105 : Int32)), (.int (116 : Int32))] (.int (0 : Int32)) := F0_o1
      have Gx_o2_20 : Arv Z h0 o2 k2 .byte (7 : Int32) [(.int (112 : Int32)), (.int (97 : Int32)), (.int (116 : Int32)), (.int (105 : Int32)), (.int (101 : Int32)), (.int (110 : Int32)), (.int (116 : Int32))] (.int (0 : Int32)) := F1_o2
      have s131 : ∀ tz, Steps p.tables e below (s₁.setTop (mkF m 1 #[.val (.ref o1), .val (.ref o2), .unset] [(.ref o1)])) tz → Steps p.tables e below (s₁.setTop (mkF m 0 #[.val (.ref o1), .val (.ref o2), .unset] [])) tz := by
        intro tz kz
        refine XS.aloadN X0.here hx rfl (hb hby d15_0) rfl rfl ?_
        exact kz
      refine OG.step s131 ?_
      have av132 := Gx_o1_20
      obtain ⟨cl132, Ar132, qa_132, Sa_132, Nn_132, Ha_132, Ga_132⟩ := av132
      refine OG.step (X0.arraylength hx (by rw [e0]; exact Ar132.1) (State.isArrayOf_alike hZ.alike Ar132.2.1) (g := (mkF m 1 #[.val (.ref o1), .val (.ref o2), .unset] [(.ref o1)])) rfl rfl (hb hby d15_1)) ?_
      rw [len_of Sa_132 Nn_132]
      show OG _ _ _ _ _ _ _ (s₁.setTop (mkF m 2 #[.val (.ref o1), .val (.ref o2), .unset] [(.int (5 : Int32))]))
      have s133 : ∀ tz, Steps p.tables e below (s₁.setTop (mkF m 3 #[.val (.ref o1), .val (.ref o2), .unset] [(.ref o2), (.int (5 : Int32))])) tz → Steps p.tables e below (s₁.setTop (mkF m 2 #[.val (.ref o1), .val (.ref o2), .unset] [(.int (5 : Int32))])) tz := by
        intro tz kz
        refine XS.aloadN X0.here hx rfl (hb hby d15_2) rfl rfl ?_
        exact kz
      refine OG.step s133 ?_
      have av134 := Gx_o2_20
      obtain ⟨cl134, Ar134, qa_134, Sa_134, Nn_134, Ha_134, Ga_134⟩ := av134
      refine OG.step (X0.arraylength hx (by rw [e0]; exact Ar134.1) (State.isArrayOf_alike hZ.alike Ar134.2.1) (g := (mkF m 3 #[.val (.ref o1), .val (.ref o2), .unset] [(.ref o2), (.int (5 : Int32))])) rfl rfl (hb hby d15_3)) ?_
      rw [len_of Sa_134 Nn_134]
      show OG _ _ _ _ _ _ _ (s₁.setTop (mkF m 4 #[.val (.ref o1), .val (.ref o2), .unset] [(.int (7 : Int32)), (.int (5 : Int32))]))
      have s135 : ∀ tz, Steps p.tables e below (s₁.setTop (mkF m 35 #[.val (.ref o1), .val (.ref o2), .unset] [(.int (0 : Int32))])) tz → Steps p.tables e below (s₁.setTop (mkF m 4 #[.val (.ref o1), .val (.ref o2), .unset] [(.int (7 : Int32)), (.int (5 : Int32))])) tz := by
        intro tz kz
        refine XS.icmpYes X0.here hx rfl (pc0 := 4) (pc' := 34) rfl (hb hby d15_4) rfl (feq (by decide)).2 (by decide) (by decide) ?_
        show Steps p.tables e below (s₁.setTop (mkF m 34 #[.val (.ref o1), .val (.ref o2), .unset] [])) _
        refine XS.iconst X0.here hx rfl (hb hby d15_34) ?_
        exact kz
      refine OG.step s135 ?_
      exact OG.retZ X0 hx hlk Bd.returns (hb hby d15_35) (nar_0) e0 ⟨rfl, N0, rfl⟩ (by decide) (by decide)
    · have Gx_o1_21 : Arv Z h0 o1 k1 .byte (5 : Int32) [(.int (118 : Int32)), (.int (105 : Int32)), (.int (115 : Int32)), (.int (105 : Int32)), (.int (116 : Int32))] (.int (0 : Int32)) := F0_o1
      have Gx_o2_21 : Arv Z h0 o2 k2 .byte (7 : Int32) [(.int (97 : Int32)), (.int (99 : Int32)), (.int (99 : Int32)), (.int (111 : Int32)), (.int (117 : Int32)), (.int (110 : Int32)), (.int (116 : Int32))] (.int (0 : Int32)) := F1_o2
      have s136 : ∀ tz, Steps p.tables e below (s₁.setTop (mkF m 1 #[.val (.ref o1), .val (.ref o2), .unset] [(.ref o1)])) tz → Steps p.tables e below (s₁.setTop (mkF m 0 #[.val (.ref o1), .val (.ref o2), .unset] [])) tz := by
        intro tz kz
        refine XS.aloadN X0.here hx rfl (hb hby d15_0) rfl rfl ?_
        exact kz
      refine OG.step s136 ?_
      have av137 := Gx_o1_21
      obtain ⟨cl137, Ar137, qa_137, Sa_137, Nn_137, Ha_137, Ga_137⟩ := av137
      refine OG.step (X0.arraylength hx (by rw [e0]; exact Ar137.1) (State.isArrayOf_alike hZ.alike Ar137.2.1) (g := (mkF m 1 #[.val (.ref o1), .val (.ref o2), .unset] [(.ref o1)])) rfl rfl (hb hby d15_1)) ?_
      rw [len_of Sa_137 Nn_137]
      show OG _ _ _ _ _ _ _ (s₁.setTop (mkF m 2 #[.val (.ref o1), .val (.ref o2), .unset] [(.int (5 : Int32))]))
      have s138 : ∀ tz, Steps p.tables e below (s₁.setTop (mkF m 3 #[.val (.ref o1), .val (.ref o2), .unset] [(.ref o2), (.int (5 : Int32))])) tz → Steps p.tables e below (s₁.setTop (mkF m 2 #[.val (.ref o1), .val (.ref o2), .unset] [(.int (5 : Int32))])) tz := by
        intro tz kz
        refine XS.aloadN X0.here hx rfl (hb hby d15_2) rfl rfl ?_
        exact kz
      refine OG.step s138 ?_
      have av139 := Gx_o2_21
      obtain ⟨cl139, Ar139, qa_139, Sa_139, Nn_139, Ha_139, Ga_139⟩ := av139
      refine OG.step (X0.arraylength hx (by rw [e0]; exact Ar139.1) (State.isArrayOf_alike hZ.alike Ar139.2.1) (g := (mkF m 3 #[.val (.ref o1), .val (.ref o2), .unset] [(.ref o2), (.int (5 : Int32))])) rfl rfl (hb hby d15_3)) ?_
      rw [len_of Sa_139 Nn_139]
      show OG _ _ _ _ _ _ _ (s₁.setTop (mkF m 4 #[.val (.ref o1), .val (.ref o2), .unset] [(.int (7 : Int32)), (.int (5 : Int32))]))
      have s140 : ∀ tz, Steps p.tables e below (s₁.setTop (mkF m 35 #[.val (.ref o1), .val (.ref o2), .unset] [(.int (0 : Int32))])) tz → Steps p.tables e below (s₁.setTop (mkF m 4 #[.val (.ref o1), .val (.ref o2), .unset] [(.int (7 : Int32)), (.int (5 : Int32))])) tz := by
        intro tz kz
        refine XS.icmpYes X0.here hx rfl (pc0 := 4) (pc' := 34) rfl (hb hby d15_4) rfl (feq (by decide)).2 (by decide) (by decide) ?_
        show Steps p.tables e below (s₁.setTop (mkF m 34 #[.val (.ref o1), .val (.ref o2), .unset] [])) _
        refine XS.iconst X0.here hx rfl (hb hby d15_34) ?_
        exact kz
      refine OG.step s140 ?_
      exact OG.retZ X0 hx hlk Bd.returns (hb hby d15_35) (nar_0) e0 ⟨rfl, N0, rfl⟩ (by decide) (by decide)
    · have Gx_o1_22 : Arv Z h0 o1 k1 .byte (5 : Int32) [(.int (118 : Int32)), (.int (105 : Int32)), (.int (115 : Int32)), (.int (105 : Int32)), (.int (116 : Int32))] (.int (0 : Int32)) := F0_o1
      have Gx_o2_22 : Arv Z h0 o2 k2 .byte (5 : Int32) [(.int (118 : Int32)), (.int (105 : Int32)), (.int (115 : Int32)), (.int (105 : Int32)), (.int (116 : Int32))] (.int (0 : Int32)) := F1_o2
      have s141 : ∀ tz, Steps p.tables e below (s₁.setTop (mkF m 1 #[.val (.ref o1), .val (.ref o2), .unset] [(.ref o1)])) tz → Steps p.tables e below (s₁.setTop (mkF m 0 #[.val (.ref o1), .val (.ref o2), .unset] [])) tz := by
        intro tz kz
        refine XS.aloadN X0.here hx rfl (hb hby d15_0) rfl rfl ?_
        exact kz
      refine OG.step s141 ?_
      have av142 := Gx_o1_22
      obtain ⟨cl142, Ar142, qa_142, Sa_142, Nn_142, Ha_142, Ga_142⟩ := av142
      refine OG.step (X0.arraylength hx (by rw [e0]; exact Ar142.1) (State.isArrayOf_alike hZ.alike Ar142.2.1) (g := (mkF m 1 #[.val (.ref o1), .val (.ref o2), .unset] [(.ref o1)])) rfl rfl (hb hby d15_1)) ?_
      rw [len_of Sa_142 Nn_142]
      show OG _ _ _ _ _ _ _ (s₁.setTop (mkF m 2 #[.val (.ref o1), .val (.ref o2), .unset] [(.int (5 : Int32))]))
      have s143 : ∀ tz, Steps p.tables e below (s₁.setTop (mkF m 3 #[.val (.ref o1), .val (.ref o2), .unset] [(.ref o2), (.int (5 : Int32))])) tz → Steps p.tables e below (s₁.setTop (mkF m 2 #[.val (.ref o1), .val (.ref o2), .unset] [(.int (5 : Int32))])) tz := by
        intro tz kz
        refine XS.aloadN X0.here hx rfl (hb hby d15_2) rfl rfl ?_
        exact kz
      refine OG.step s143 ?_
      have av144 := Gx_o2_22
      obtain ⟨cl144, Ar144, qa_144, Sa_144, Nn_144, Ha_144, Ga_144⟩ := av144
      refine OG.step (X0.arraylength hx (by rw [e0]; exact Ar144.1) (State.isArrayOf_alike hZ.alike Ar144.2.1) (g := (mkF m 3 #[.val (.ref o1), .val (.ref o2), .unset] [(.ref o2), (.int (5 : Int32))])) rfl rfl (hb hby d15_3)) ?_
      rw [len_of Sa_144 Nn_144]
      show OG _ _ _ _ _ _ _ (s₁.setTop (mkF m 4 #[.val (.ref o1), .val (.ref o2), .unset] [(.int (5 : Int32)), (.int (5 : Int32))]))
      have s145 : ∀ tz, Steps p.tables e below (s₁.setTop (mkF m 11 #[.val (.ref o1), .val (.ref o2), .val (.int (0 : Int32))] [(.ref o1), (.int (0 : Int32))])) tz → Steps p.tables e below (s₁.setTop (mkF m 4 #[.val (.ref o1), .val (.ref o2), .unset] [(.int (5 : Int32)), (.int (5 : Int32))])) tz := by
        intro tz kz
        refine XS.icmpNo X0.here hx rfl (hb hby d15_4) rfl (teq (by decide)).2 ?_
        show Steps p.tables e below (s₁.setTop (mkF m 7 #[.val (.ref o1), .val (.ref o2), .unset] [])) _
        refine XS.iconst X0.here hx rfl (hb hby d15_7) ?_
        show Steps p.tables e below (s₁.setTop (mkF m 8 #[.val (.ref o1), .val (.ref o2), .unset] [(.int (0 : Int32))])) _
        refine XS.istoreN X0.here hx rfl (hb hby d15_8) rfl (l' := #[.val (.ref o1), .val (.ref o2), .val (.int (0 : Int32))]) rfl ?_
        show Steps p.tables e below (s₁.setTop (mkF m 9 #[.val (.ref o1), .val (.ref o2), .val (.int (0 : Int32))] [])) _
        refine XS.iloadN X0.here hx rfl (hb hby d15_9) rfl ?_
        show Steps p.tables e below (s₁.setTop (mkF m 10 #[.val (.ref o1), .val (.ref o2), .val (.int (0 : Int32))] [(.int (0 : Int32))])) _
        refine XS.aloadN X0.here hx rfl (hb hby d15_10) rfl rfl ?_
        exact kz
      refine OG.step s145 ?_
      have av146 := Gx_o1_22
      obtain ⟨cl146, Ar146, qa_146, Sa_146, Nn_146, Ha_146, Ga_146⟩ := av146
      refine OG.step (X0.arraylength hx (by rw [e0]; exact Ar146.1) (State.isArrayOf_alike hZ.alike Ar146.2.1) (g := (mkF m 11 #[.val (.ref o1), .val (.ref o2), .val (.int (0 : Int32))] [(.ref o1), (.int (0 : Int32))])) rfl rfl (hb hby d15_11)) ?_
      rw [len_of Sa_146 Nn_146]
      show OG _ _ _ _ _ _ _ (s₁.setTop (mkF m 12 #[.val (.ref o1), .val (.ref o2), .val (.int (0 : Int32))] [(.int (5 : Int32)), (.int (0 : Int32))]))
      have s147 : ∀ tz, Steps p.tables e below (s₁.setTop (mkF m 17 #[.val (.ref o1), .val (.ref o2), .val (.int (0 : Int32))] [(.int (0 : Int32)), (.ref o1)])) tz → Steps p.tables e below (s₁.setTop (mkF m 12 #[.val (.ref o1), .val (.ref o2), .val (.int (0 : Int32))] [(.int (5 : Int32)), (.int (0 : Int32))])) tz := by
        intro tz kz
        refine XS.icmpNo X0.here hx rfl (hb hby d15_12) rfl (tlt (by decide)).2.1 ?_
        show Steps p.tables e below (s₁.setTop (mkF m 15 #[.val (.ref o1), .val (.ref o2), .val (.int (0 : Int32))] [])) _
        refine XS.aloadN X0.here hx rfl (hb hby d15_15) rfl rfl ?_
        show Steps p.tables e below (s₁.setTop (mkF m 16 #[.val (.ref o1), .val (.ref o2), .val (.int (0 : Int32))] [(.ref o1)])) _
        refine XS.iloadN X0.here hx rfl (hb hby d15_16) rfl ?_
        exact kz
      refine OG.step s147 ?_
      have av148 := Gx_o1_22
      obtain ⟨cl148, Ar148, qa_148, Sa_148, Nn_148, Ha_148, Ga_148⟩ := av148
      have hin148 : ¬ ((0 : Int32) < 0 ∨ cl148.slots.size ≤ ((0 : Int32)).toNatClampNeg) := inb_of Sa_148 ⟨(by decide), (by decide)⟩
      have hat148 : cl148.slots[((0 : Int32)).toNatClampNeg]? = some (.int (118 : Int32)) := Ha_148.at hin148 rfl
      refine OG.step (X0.baloadBytes hx (j := (0 : Int32)) (v := (.int (118 : Int32))) (by rw [e0]; exact Ar148.1) (State.isArrayOf_alike hZ.alike Ar148.2.1) Ar148.2.2 hin148 hat148 (g := (mkF m 17 #[.val (.ref o1), .val (.ref o2), .val (.int (0 : Int32))] [(.int (0 : Int32)), (.ref o1)])) rfl rfl (hb hby d15_17)) ?_
      show OG _ _ _ _ _ _ _ (s₁.setTop (mkF m 18 #[.val (.ref o1), .val (.ref o2), .val (.int (0 : Int32))] [(.int (118 : Int32))]))
      have s149 : ∀ tz, Steps p.tables e below (s₁.setTop (mkF m 20 #[.val (.ref o1), .val (.ref o2), .val (.int (0 : Int32))] [(.int (0 : Int32)), (.ref o2), (.int (118 : Int32))])) tz → Steps p.tables e below (s₁.setTop (mkF m 18 #[.val (.ref o1), .val (.ref o2), .val (.int (0 : Int32))] [(.int (118 : Int32))])) tz := by
        intro tz kz
        refine XS.aloadN X0.here hx rfl (hb hby d15_18) rfl rfl ?_
        show Steps p.tables e below (s₁.setTop (mkF m 19 #[.val (.ref o1), .val (.ref o2), .val (.int (0 : Int32))] [(.ref o2), (.int (118 : Int32))])) _
        refine XS.iloadN X0.here hx rfl (hb hby d15_19) rfl ?_
        exact kz
      refine OG.step s149 ?_
      have av150 := Gx_o2_22
      obtain ⟨cl150, Ar150, qa_150, Sa_150, Nn_150, Ha_150, Ga_150⟩ := av150
      have hin150 : ¬ ((0 : Int32) < 0 ∨ cl150.slots.size ≤ ((0 : Int32)).toNatClampNeg) := inb_of Sa_150 ⟨(by decide), (by decide)⟩
      have hat150 : cl150.slots[((0 : Int32)).toNatClampNeg]? = some (.int (118 : Int32)) := Ha_150.at hin150 rfl
      refine OG.step (X0.baloadBytes hx (j := (0 : Int32)) (v := (.int (118 : Int32))) (by rw [e0]; exact Ar150.1) (State.isArrayOf_alike hZ.alike Ar150.2.1) Ar150.2.2 hin150 hat150 (g := (mkF m 20 #[.val (.ref o1), .val (.ref o2), .val (.int (0 : Int32))] [(.int (0 : Int32)), (.ref o2), (.int (118 : Int32))])) rfl rfl (hb hby d15_20)) ?_
      show OG _ _ _ _ _ _ _ (s₁.setTop (mkF m 21 #[.val (.ref o1), .val (.ref o2), .val (.int (0 : Int32))] [(.int (118 : Int32)), (.int (118 : Int32))]))
      have s151 : ∀ tz, Steps p.tables e below (s₁.setTop (mkF m 11 #[.val (.ref o1), .val (.ref o2), .val (.int (1 : Int32))] [(.ref o1), (.int (1 : Int32))])) tz → Steps p.tables e below (s₁.setTop (mkF m 21 #[.val (.ref o1), .val (.ref o2), .val (.int (0 : Int32))] [(.int (118 : Int32)), (.int (118 : Int32))])) tz := by
        intro tz kz
        refine XS.icmpYes X0.here hx rfl (pc0 := 21) (pc' := 26) rfl (hb hby d15_21) rfl (teq (by decide)).1 (by decide) (by decide) ?_
        show Steps p.tables e below (s₁.setTop (mkF m 26 #[.val (.ref o1), .val (.ref o2), .val (.int (0 : Int32))] [])) _
        refine XS.iinc X0.here hx rfl (hb hby d15_26) rfl (l' := #[.val (.ref o1), .val (.ref o2), .val (.int (1 : Int32))]) rfl ?_
        show Steps p.tables e below (s₁.setTop (mkF m 29 #[.val (.ref o1), .val (.ref o2), .val (.int (1 : Int32))] [])) _
        refine XS.goto X0.here hx rfl (pc0 := 29) (pc' := 9) rfl (hb hby d15_29) (by decide) (by decide) ?_
        show Steps p.tables e below (s₁.setTop (mkF m 9 #[.val (.ref o1), .val (.ref o2), .val (.int (1 : Int32))] [])) _
        refine XS.iloadN X0.here hx rfl (hb hby d15_9) rfl ?_
        show Steps p.tables e below (s₁.setTop (mkF m 10 #[.val (.ref o1), .val (.ref o2), .val (.int (1 : Int32))] [(.int (1 : Int32))])) _
        refine XS.aloadN X0.here hx rfl (hb hby d15_10) rfl rfl ?_
        exact kz
      refine OG.step s151 ?_
      have av152 := Gx_o1_22
      obtain ⟨cl152, Ar152, qa_152, Sa_152, Nn_152, Ha_152, Ga_152⟩ := av152
      refine OG.step (X0.arraylength hx (by rw [e0]; exact Ar152.1) (State.isArrayOf_alike hZ.alike Ar152.2.1) (g := (mkF m 11 #[.val (.ref o1), .val (.ref o2), .val (.int (1 : Int32))] [(.ref o1), (.int (1 : Int32))])) rfl rfl (hb hby d15_11)) ?_
      rw [len_of Sa_152 Nn_152]
      show OG _ _ _ _ _ _ _ (s₁.setTop (mkF m 12 #[.val (.ref o1), .val (.ref o2), .val (.int (1 : Int32))] [(.int (5 : Int32)), (.int (1 : Int32))]))
      have s153 : ∀ tz, Steps p.tables e below (s₁.setTop (mkF m 17 #[.val (.ref o1), .val (.ref o2), .val (.int (1 : Int32))] [(.int (1 : Int32)), (.ref o1)])) tz → Steps p.tables e below (s₁.setTop (mkF m 12 #[.val (.ref o1), .val (.ref o2), .val (.int (1 : Int32))] [(.int (5 : Int32)), (.int (1 : Int32))])) tz := by
        intro tz kz
        refine XS.icmpNo X0.here hx rfl (hb hby d15_12) rfl (tlt (by decide)).2.1 ?_
        show Steps p.tables e below (s₁.setTop (mkF m 15 #[.val (.ref o1), .val (.ref o2), .val (.int (1 : Int32))] [])) _
        refine XS.aloadN X0.here hx rfl (hb hby d15_15) rfl rfl ?_
        show Steps p.tables e below (s₁.setTop (mkF m 16 #[.val (.ref o1), .val (.ref o2), .val (.int (1 : Int32))] [(.ref o1)])) _
        refine XS.iloadN X0.here hx rfl (hb hby d15_16) rfl ?_
        exact kz
      refine OG.step s153 ?_
      have av154 := Gx_o1_22
      obtain ⟨cl154, Ar154, qa_154, Sa_154, Nn_154, Ha_154, Ga_154⟩ := av154
      have hin154 : ¬ ((1 : Int32) < 0 ∨ cl154.slots.size ≤ ((1 : Int32)).toNatClampNeg) := inb_of Sa_154 ⟨(by decide), (by decide)⟩
      have hat154 : cl154.slots[((1 : Int32)).toNatClampNeg]? = some (.int (105 : Int32)) := Ha_154.at hin154 rfl
      refine OG.step (X0.baloadBytes hx (j := (1 : Int32)) (v := (.int (105 : Int32))) (by rw [e0]; exact Ar154.1) (State.isArrayOf_alike hZ.alike Ar154.2.1) Ar154.2.2 hin154 hat154 (g := (mkF m 17 #[.val (.ref o1), .val (.ref o2), .val (.int (1 : Int32))] [(.int (1 : Int32)), (.ref o1)])) rfl rfl (hb hby d15_17)) ?_
      show OG _ _ _ _ _ _ _ (s₁.setTop (mkF m 18 #[.val (.ref o1), .val (.ref o2), .val (.int (1 : Int32))] [(.int (105 : Int32))]))
      have s155 : ∀ tz, Steps p.tables e below (s₁.setTop (mkF m 20 #[.val (.ref o1), .val (.ref o2), .val (.int (1 : Int32))] [(.int (1 : Int32)), (.ref o2), (.int (105 : Int32))])) tz → Steps p.tables e below (s₁.setTop (mkF m 18 #[.val (.ref o1), .val (.ref o2), .val (.int (1 : Int32))] [(.int (105 : Int32))])) tz := by
        intro tz kz
        refine XS.aloadN X0.here hx rfl (hb hby d15_18) rfl rfl ?_
        show Steps p.tables e below (s₁.setTop (mkF m 19 #[.val (.ref o1), .val (.ref o2), .val (.int (1 : Int32))] [(.ref o2), (.int (105 : Int32))])) _
        refine XS.iloadN X0.here hx rfl (hb hby d15_19) rfl ?_
        exact kz
      refine OG.step s155 ?_
      have av156 := Gx_o2_22
      obtain ⟨cl156, Ar156, qa_156, Sa_156, Nn_156, Ha_156, Ga_156⟩ := av156
      have hin156 : ¬ ((1 : Int32) < 0 ∨ cl156.slots.size ≤ ((1 : Int32)).toNatClampNeg) := inb_of Sa_156 ⟨(by decide), (by decide)⟩
      have hat156 : cl156.slots[((1 : Int32)).toNatClampNeg]? = some (.int (105 : Int32)) := Ha_156.at hin156 rfl
      refine OG.step (X0.baloadBytes hx (j := (1 : Int32)) (v := (.int (105 : Int32))) (by rw [e0]; exact Ar156.1) (State.isArrayOf_alike hZ.alike Ar156.2.1) Ar156.2.2 hin156 hat156 (g := (mkF m 20 #[.val (.ref o1), .val (.ref o2), .val (.int (1 : Int32))] [(.int (1 : Int32)), (.ref o2), (.int (105 : Int32))])) rfl rfl (hb hby d15_20)) ?_
      show OG _ _ _ _ _ _ _ (s₁.setTop (mkF m 21 #[.val (.ref o1), .val (.ref o2), .val (.int (1 : Int32))] [(.int (105 : Int32)), (.int (105 : Int32))]))
      have s157 : ∀ tz, Steps p.tables e below (s₁.setTop (mkF m 11 #[.val (.ref o1), .val (.ref o2), .val (.int (2 : Int32))] [(.ref o1), (.int (2 : Int32))])) tz → Steps p.tables e below (s₁.setTop (mkF m 21 #[.val (.ref o1), .val (.ref o2), .val (.int (1 : Int32))] [(.int (105 : Int32)), (.int (105 : Int32))])) tz := by
        intro tz kz
        refine XS.icmpYes X0.here hx rfl (pc0 := 21) (pc' := 26) rfl (hb hby d15_21) rfl (teq (by decide)).1 (by decide) (by decide) ?_
        show Steps p.tables e below (s₁.setTop (mkF m 26 #[.val (.ref o1), .val (.ref o2), .val (.int (1 : Int32))] [])) _
        refine XS.iinc X0.here hx rfl (hb hby d15_26) rfl (l' := #[.val (.ref o1), .val (.ref o2), .val (.int (2 : Int32))]) rfl ?_
        show Steps p.tables e below (s₁.setTop (mkF m 29 #[.val (.ref o1), .val (.ref o2), .val (.int (2 : Int32))] [])) _
        refine XS.goto X0.here hx rfl (pc0 := 29) (pc' := 9) rfl (hb hby d15_29) (by decide) (by decide) ?_
        show Steps p.tables e below (s₁.setTop (mkF m 9 #[.val (.ref o1), .val (.ref o2), .val (.int (2 : Int32))] [])) _
        refine XS.iloadN X0.here hx rfl (hb hby d15_9) rfl ?_
        show Steps p.tables e below (s₁.setTop (mkF m 10 #[.val (.ref o1), .val (.ref o2), .val (.int (2 : Int32))] [(.int (2 : Int32))])) _
        refine XS.aloadN X0.here hx rfl (hb hby d15_10) rfl rfl ?_
        exact kz
      refine OG.step s157 ?_
      have av158 := Gx_o1_22
      obtain ⟨cl158, Ar158, qa_158, Sa_158, Nn_158, Ha_158, Ga_158⟩ := av158
      refine OG.step (X0.arraylength hx (by rw [e0]; exact Ar158.1) (State.isArrayOf_alike hZ.alike Ar158.2.1) (g := (mkF m 11 #[.val (.ref o1), .val (.ref o2), .val (.int (2 : Int32))] [(.ref o1), (.int (2 : Int32))])) rfl rfl (hb hby d15_11)) ?_
      rw [len_of Sa_158 Nn_158]
      show OG _ _ _ _ _ _ _ (s₁.setTop (mkF m 12 #[.val (.ref o1), .val (.ref o2), .val (.int (2 : Int32))] [(.int (5 : Int32)), (.int (2 : Int32))]))
      have s159 : ∀ tz, Steps p.tables e below (s₁.setTop (mkF m 17 #[.val (.ref o1), .val (.ref o2), .val (.int (2 : Int32))] [(.int (2 : Int32)), (.ref o1)])) tz → Steps p.tables e below (s₁.setTop (mkF m 12 #[.val (.ref o1), .val (.ref o2), .val (.int (2 : Int32))] [(.int (5 : Int32)), (.int (2 : Int32))])) tz := by
        intro tz kz
        refine XS.icmpNo X0.here hx rfl (hb hby d15_12) rfl (tlt (by decide)).2.1 ?_
        show Steps p.tables e below (s₁.setTop (mkF m 15 #[.val (.ref o1), .val (.ref o2), .val (.int (2 : Int32))] [])) _
        refine XS.aloadN X0.here hx rfl (hb hby d15_15) rfl rfl ?_
        show Steps p.tables e below (s₁.setTop (mkF m 16 #[.val (.ref o1), .val (.ref o2), .val (.int (2 : Int32))] [(.ref o1)])) _
        refine XS.iloadN X0.here hx rfl (hb hby d15_16) rfl ?_
        exact kz
      refine OG.step s159 ?_
      have av160 := Gx_o1_22
      obtain ⟨cl160, Ar160, qa_160, Sa_160, Nn_160, Ha_160, Ga_160⟩ := av160
      have hin160 : ¬ ((2 : Int32) < 0 ∨ cl160.slots.size ≤ ((2 : Int32)).toNatClampNeg) := inb_of Sa_160 ⟨(by decide), (by decide)⟩
      have hat160 : cl160.slots[((2 : Int32)).toNatClampNeg]? = some (.int (115 : Int32)) := Ha_160.at hin160 rfl
      refine OG.step (X0.baloadBytes hx (j := (2 : Int32)) (v := (.int (115 : Int32))) (by rw [e0]; exact Ar160.1) (State.isArrayOf_alike hZ.alike Ar160.2.1) Ar160.2.2 hin160 hat160 (g := (mkF m 17 #[.val (.ref o1), .val (.ref o2), .val (.int (2 : Int32))] [(.int (2 : Int32)), (.ref o1)])) rfl rfl (hb hby d15_17)) ?_
      show OG _ _ _ _ _ _ _ (s₁.setTop (mkF m 18 #[.val (.ref o1), .val (.ref o2), .val (.int (2 : Int32))] [(.int (115 : Int32))]))
      have s161 : ∀ tz, Steps p.tables e below (s₁.setTop (mkF m 20 #[.val (.ref o1), .val (.ref o2), .val (.int (2 : Int32))] [(.int (2 : Int32)), (.ref o2), (.int (115 : Int32))])) tz → Steps p.tables e below (s₁.setTop (mkF m 18 #[.val (.ref o1), .val (.ref o2), .val (.int (2 : Int32))] [(.int (115 : Int32))])) tz := by
        intro tz kz
        refine XS.aloadN X0.here hx rfl (hb hby d15_18) rfl rfl ?_
        show Steps p.tables e below (s₁.setTop (mkF m 19 #[.val (.ref o1), .val (.ref o2), .val (.int (2 : Int32))] [(.ref o2), (.int (115 : Int32))])) _
        refine XS.iloadN X0.here hx rfl (hb hby d15_19) rfl ?_
        exact kz
      refine OG.step s161 ?_
      have av162 := Gx_o2_22
      obtain ⟨cl162, Ar162, qa_162, Sa_162, Nn_162, Ha_162, Ga_162⟩ := av162
      have hin162 : ¬ ((2 : Int32) < 0 ∨ cl162.slots.size ≤ ((2 : Int32)).toNatClampNeg) := inb_of Sa_162 ⟨(by decide), (by decide)⟩
      have hat162 : cl162.slots[((2 : Int32)).toNatClampNeg]? = some (.int (115 : Int32)) := Ha_162.at hin162 rfl
      refine OG.step (X0.baloadBytes hx (j := (2 : Int32)) (v := (.int (115 : Int32))) (by rw [e0]; exact Ar162.1) (State.isArrayOf_alike hZ.alike Ar162.2.1) Ar162.2.2 hin162 hat162 (g := (mkF m 20 #[.val (.ref o1), .val (.ref o2), .val (.int (2 : Int32))] [(.int (2 : Int32)), (.ref o2), (.int (115 : Int32))])) rfl rfl (hb hby d15_20)) ?_
      show OG _ _ _ _ _ _ _ (s₁.setTop (mkF m 21 #[.val (.ref o1), .val (.ref o2), .val (.int (2 : Int32))] [(.int (115 : Int32)), (.int (115 : Int32))]))
      have s163 : ∀ tz, Steps p.tables e below (s₁.setTop (mkF m 11 #[.val (.ref o1), .val (.ref o2), .val (.int (3 : Int32))] [(.ref o1), (.int (3 : Int32))])) tz → Steps p.tables e below (s₁.setTop (mkF m 21 #[.val (.ref o1), .val (.ref o2), .val (.int (2 : Int32))] [(.int (115 : Int32)), (.int (115 : Int32))])) tz := by
        intro tz kz
        refine XS.icmpYes X0.here hx rfl (pc0 := 21) (pc' := 26) rfl (hb hby d15_21) rfl (teq (by decide)).1 (by decide) (by decide) ?_
        show Steps p.tables e below (s₁.setTop (mkF m 26 #[.val (.ref o1), .val (.ref o2), .val (.int (2 : Int32))] [])) _
        refine XS.iinc X0.here hx rfl (hb hby d15_26) rfl (l' := #[.val (.ref o1), .val (.ref o2), .val (.int (3 : Int32))]) rfl ?_
        show Steps p.tables e below (s₁.setTop (mkF m 29 #[.val (.ref o1), .val (.ref o2), .val (.int (3 : Int32))] [])) _
        refine XS.goto X0.here hx rfl (pc0 := 29) (pc' := 9) rfl (hb hby d15_29) (by decide) (by decide) ?_
        show Steps p.tables e below (s₁.setTop (mkF m 9 #[.val (.ref o1), .val (.ref o2), .val (.int (3 : Int32))] [])) _
        refine XS.iloadN X0.here hx rfl (hb hby d15_9) rfl ?_
        show Steps p.tables e below (s₁.setTop (mkF m 10 #[.val (.ref o1), .val (.ref o2), .val (.int (3 : Int32))] [(.int (3 : Int32))])) _
        refine XS.aloadN X0.here hx rfl (hb hby d15_10) rfl rfl ?_
        exact kz
      refine OG.step s163 ?_
      have av164 := Gx_o1_22
      obtain ⟨cl164, Ar164, qa_164, Sa_164, Nn_164, Ha_164, Ga_164⟩ := av164
      refine OG.step (X0.arraylength hx (by rw [e0]; exact Ar164.1) (State.isArrayOf_alike hZ.alike Ar164.2.1) (g := (mkF m 11 #[.val (.ref o1), .val (.ref o2), .val (.int (3 : Int32))] [(.ref o1), (.int (3 : Int32))])) rfl rfl (hb hby d15_11)) ?_
      rw [len_of Sa_164 Nn_164]
      show OG _ _ _ _ _ _ _ (s₁.setTop (mkF m 12 #[.val (.ref o1), .val (.ref o2), .val (.int (3 : Int32))] [(.int (5 : Int32)), (.int (3 : Int32))]))
      have s165 : ∀ tz, Steps p.tables e below (s₁.setTop (mkF m 17 #[.val (.ref o1), .val (.ref o2), .val (.int (3 : Int32))] [(.int (3 : Int32)), (.ref o1)])) tz → Steps p.tables e below (s₁.setTop (mkF m 12 #[.val (.ref o1), .val (.ref o2), .val (.int (3 : Int32))] [(.int (5 : Int32)), (.int (3 : Int32))])) tz := by
        intro tz kz
        refine XS.icmpNo X0.here hx rfl (hb hby d15_12) rfl (tlt (by decide)).2.1 ?_
        show Steps p.tables e below (s₁.setTop (mkF m 15 #[.val (.ref o1), .val (.ref o2), .val (.int (3 : Int32))] [])) _
        refine XS.aloadN X0.here hx rfl (hb hby d15_15) rfl rfl ?_
        show Steps p.tables e below (s₁.setTop (mkF m 16 #[.val (.ref o1), .val (.ref o2), .val (.int (3 : Int32))] [(.ref o1)])) _
        refine XS.iloadN X0.here hx rfl (hb hby d15_16) rfl ?_
        exact kz
      refine OG.step s165 ?_
      have av166 := Gx_o1_22
      obtain ⟨cl166, Ar166, qa_166, Sa_166, Nn_166, Ha_166, Ga_166⟩ := av166
      have hin166 : ¬ ((3 : Int32) < 0 ∨ cl166.slots.size ≤ ((3 : Int32)).toNatClampNeg) := inb_of Sa_166 ⟨(by decide), (by decide)⟩
      have hat166 : cl166.slots[((3 : Int32)).toNatClampNeg]? = some (.int (105 : Int32)) := Ha_166.at hin166 rfl
      refine OG.step (X0.baloadBytes hx (j := (3 : Int32)) (v := (.int (105 : Int32))) (by rw [e0]; exact Ar166.1) (State.isArrayOf_alike hZ.alike Ar166.2.1) Ar166.2.2 hin166 hat166 (g := (mkF m 17 #[.val (.ref o1), .val (.ref o2), .val (.int (3 : Int32))] [(.int (3 : Int32)), (.ref o1)])) rfl rfl (hb hby d15_17)) ?_
      show OG _ _ _ _ _ _ _ (s₁.setTop (mkF m 18 #[.val (.ref o1), .val (.ref o2), .val (.int (3 : Int32))] [(.int (105 : Int32))]))
      have s167 : ∀ tz, Steps p.tables e below (s₁.setTop (mkF m 20 #[.val (.ref o1), .val (.ref o2), .val (.int (3 : Int32))] [(.int (3 : Int32)), (.ref o2), (.int (105 : Int32))])) tz → Steps p.tables e below (s₁.setTop (mkF m 18 #[.val (.ref o1), .val (.ref o2), .val (.int (3 : Int32))] [(.int (105 : Int32))])) tz := by
        intro tz kz
        refine XS.aloadN X0.here hx rfl (hb hby d15_18) rfl rfl ?_
        show Steps p.tables e below (s₁.setTop (mkF m 19 #[.val (.ref o1), .val (.ref o2), .val (.int (3 : Int32))] [(.ref o2), (.int (105 : Int32))])) _
        refine XS.iloadN X0.here hx rfl (hb hby d15_19) rfl ?_
        exact kz
      refine OG.step s167 ?_
      have av168 := Gx_o2_22
      obtain ⟨cl168, Ar168, qa_168, Sa_168, Nn_168, Ha_168, Ga_168⟩ := av168
      have hin168 : ¬ ((3 : Int32) < 0 ∨ cl168.slots.size ≤ ((3 : Int32)).toNatClampNeg) := inb_of Sa_168 ⟨(by decide), (by decide)⟩
      have hat168 : cl168.slots[((3 : Int32)).toNatClampNeg]? = some (.int (105 : Int32)) := Ha_168.at hin168 rfl
      refine OG.step (X0.baloadBytes hx (j := (3 : Int32)) (v := (.int (105 : Int32))) (by rw [e0]; exact Ar168.1) (State.isArrayOf_alike hZ.alike Ar168.2.1) Ar168.2.2 hin168 hat168 (g := (mkF m 20 #[.val (.ref o1), .val (.ref o2), .val (.int (3 : Int32))] [(.int (3 : Int32)), (.ref o2), (.int (105 : Int32))])) rfl rfl (hb hby d15_20)) ?_
      show OG _ _ _ _ _ _ _ (s₁.setTop (mkF m 21 #[.val (.ref o1), .val (.ref o2), .val (.int (3 : Int32))] [(.int (105 : Int32)), (.int (105 : Int32))]))
      have s169 : ∀ tz, Steps p.tables e below (s₁.setTop (mkF m 11 #[.val (.ref o1), .val (.ref o2), .val (.int (4 : Int32))] [(.ref o1), (.int (4 : Int32))])) tz → Steps p.tables e below (s₁.setTop (mkF m 21 #[.val (.ref o1), .val (.ref o2), .val (.int (3 : Int32))] [(.int (105 : Int32)), (.int (105 : Int32))])) tz := by
        intro tz kz
        refine XS.icmpYes X0.here hx rfl (pc0 := 21) (pc' := 26) rfl (hb hby d15_21) rfl (teq (by decide)).1 (by decide) (by decide) ?_
        show Steps p.tables e below (s₁.setTop (mkF m 26 #[.val (.ref o1), .val (.ref o2), .val (.int (3 : Int32))] [])) _
        refine XS.iinc X0.here hx rfl (hb hby d15_26) rfl (l' := #[.val (.ref o1), .val (.ref o2), .val (.int (4 : Int32))]) rfl ?_
        show Steps p.tables e below (s₁.setTop (mkF m 29 #[.val (.ref o1), .val (.ref o2), .val (.int (4 : Int32))] [])) _
        refine XS.goto X0.here hx rfl (pc0 := 29) (pc' := 9) rfl (hb hby d15_29) (by decide) (by decide) ?_
        show Steps p.tables e below (s₁.setTop (mkF m 9 #[.val (.ref o1), .val (.ref o2), .val (.int (4 : Int32))] [])) _
        refine XS.iloadN X0.here hx rfl (hb hby d15_9) rfl ?_
        show Steps p.tables e below (s₁.setTop (mkF m 10 #[.val (.ref o1), .val (.ref o2), .val (.int (4 : Int32))] [(.int (4 : Int32))])) _
        refine XS.aloadN X0.here hx rfl (hb hby d15_10) rfl rfl ?_
        exact kz
      refine OG.step s169 ?_
      have av170 := Gx_o1_22
      obtain ⟨cl170, Ar170, qa_170, Sa_170, Nn_170, Ha_170, Ga_170⟩ := av170
      refine OG.step (X0.arraylength hx (by rw [e0]; exact Ar170.1) (State.isArrayOf_alike hZ.alike Ar170.2.1) (g := (mkF m 11 #[.val (.ref o1), .val (.ref o2), .val (.int (4 : Int32))] [(.ref o1), (.int (4 : Int32))])) rfl rfl (hb hby d15_11)) ?_
      rw [len_of Sa_170 Nn_170]
      show OG _ _ _ _ _ _ _ (s₁.setTop (mkF m 12 #[.val (.ref o1), .val (.ref o2), .val (.int (4 : Int32))] [(.int (5 : Int32)), (.int (4 : Int32))]))
      have s171 : ∀ tz, Steps p.tables e below (s₁.setTop (mkF m 17 #[.val (.ref o1), .val (.ref o2), .val (.int (4 : Int32))] [(.int (4 : Int32)), (.ref o1)])) tz → Steps p.tables e below (s₁.setTop (mkF m 12 #[.val (.ref o1), .val (.ref o2), .val (.int (4 : Int32))] [(.int (5 : Int32)), (.int (4 : Int32))])) tz := by
        intro tz kz
        refine XS.icmpNo X0.here hx rfl (hb hby d15_12) rfl (tlt (by decide)).2.1 ?_
        show Steps p.tables e below (s₁.setTop (mkF m 15 #[.val (.ref o1), .val (.ref o2), .val (.int (4 : Int32))] [])) _
        refine XS.aloadN X0.here hx rfl (hb hby d15_15) rfl rfl ?_
        show Steps p.tables e below (s₁.setTop (mkF m 16 #[.val (.ref o1), .val (.ref o2), .val (.int (4 : Int32))] [(.ref o1)])) _
        refine XS.iloadN X0.here hx rfl (hb hby d15_16) rfl ?_
        exact kz
      refine OG.step s171 ?_
      have av172 := Gx_o1_22
      obtain ⟨cl172, Ar172, qa_172, Sa_172, Nn_172, Ha_172, Ga_172⟩ := av172
      have hin172 : ¬ ((4 : Int32) < 0 ∨ cl172.slots.size ≤ ((4 : Int32)).toNatClampNeg) := inb_of Sa_172 ⟨(by decide), (by decide)⟩
      have hat172 : cl172.slots[((4 : Int32)).toNatClampNeg]? = some (.int (116 : Int32)) := Ha_172.at hin172 rfl
      refine OG.step (X0.baloadBytes hx (j := (4 : Int32)) (v := (.int (116 : Int32))) (by rw [e0]; exact Ar172.1) (State.isArrayOf_alike hZ.alike Ar172.2.1) Ar172.2.2 hin172 hat172 (g := (mkF m 17 #[.val (.ref o1), .val (.ref o2), .val (.int (4 : Int32))] [(.int (4 : Int32)), (.ref o1)])) rfl rfl (hb hby d15_17)) ?_
      show OG _ _ _ _ _ _ _ (s₁.setTop (mkF m 18 #[.val (.ref o1), .val (.ref o2), .val (.int (4 : Int32))] [(.int (116 : Int32))]))
      have s173 : ∀ tz, Steps p.tables e below (s₁.setTop (mkF m 20 #[.val (.ref o1), .val (.ref o2), .val (.int (4 : Int32))] [(.int (4 : Int32)), (.ref o2), (.int (116 : Int32))])) tz → Steps p.tables e below (s₁.setTop (mkF m 18 #[.val (.ref o1), .val (.ref o2), .val (.int (4 : Int32))] [(.int (116 : Int32))])) tz := by
        intro tz kz
        refine XS.aloadN X0.here hx rfl (hb hby d15_18) rfl rfl ?_
        show Steps p.tables e below (s₁.setTop (mkF m 19 #[.val (.ref o1), .val (.ref o2), .val (.int (4 : Int32))] [(.ref o2), (.int (116 : Int32))])) _
        refine XS.iloadN X0.here hx rfl (hb hby d15_19) rfl ?_
        exact kz
      refine OG.step s173 ?_
      have av174 := Gx_o2_22
      obtain ⟨cl174, Ar174, qa_174, Sa_174, Nn_174, Ha_174, Ga_174⟩ := av174
      have hin174 : ¬ ((4 : Int32) < 0 ∨ cl174.slots.size ≤ ((4 : Int32)).toNatClampNeg) := inb_of Sa_174 ⟨(by decide), (by decide)⟩
      have hat174 : cl174.slots[((4 : Int32)).toNatClampNeg]? = some (.int (116 : Int32)) := Ha_174.at hin174 rfl
      refine OG.step (X0.baloadBytes hx (j := (4 : Int32)) (v := (.int (116 : Int32))) (by rw [e0]; exact Ar174.1) (State.isArrayOf_alike hZ.alike Ar174.2.1) Ar174.2.2 hin174 hat174 (g := (mkF m 20 #[.val (.ref o1), .val (.ref o2), .val (.int (4 : Int32))] [(.int (4 : Int32)), (.ref o2), (.int (116 : Int32))])) rfl rfl (hb hby d15_20)) ?_
      show OG _ _ _ _ _ _ _ (s₁.setTop (mkF m 21 #[.val (.ref o1), .val (.ref o2), .val (.int (4 : Int32))] [(.int (116 : Int32)), (.int (116 : Int32))]))
      have s175 : ∀ tz, Steps p.tables e below (s₁.setTop (mkF m 11 #[.val (.ref o1), .val (.ref o2), .val (.int (5 : Int32))] [(.ref o1), (.int (5 : Int32))])) tz → Steps p.tables e below (s₁.setTop (mkF m 21 #[.val (.ref o1), .val (.ref o2), .val (.int (4 : Int32))] [(.int (116 : Int32)), (.int (116 : Int32))])) tz := by
        intro tz kz
        refine XS.icmpYes X0.here hx rfl (pc0 := 21) (pc' := 26) rfl (hb hby d15_21) rfl (teq (by decide)).1 (by decide) (by decide) ?_
        show Steps p.tables e below (s₁.setTop (mkF m 26 #[.val (.ref o1), .val (.ref o2), .val (.int (4 : Int32))] [])) _
        refine XS.iinc X0.here hx rfl (hb hby d15_26) rfl (l' := #[.val (.ref o1), .val (.ref o2), .val (.int (5 : Int32))]) rfl ?_
        show Steps p.tables e below (s₁.setTop (mkF m 29 #[.val (.ref o1), .val (.ref o2), .val (.int (5 : Int32))] [])) _
        refine XS.goto X0.here hx rfl (pc0 := 29) (pc' := 9) rfl (hb hby d15_29) (by decide) (by decide) ?_
        show Steps p.tables e below (s₁.setTop (mkF m 9 #[.val (.ref o1), .val (.ref o2), .val (.int (5 : Int32))] [])) _
        refine XS.iloadN X0.here hx rfl (hb hby d15_9) rfl ?_
        show Steps p.tables e below (s₁.setTop (mkF m 10 #[.val (.ref o1), .val (.ref o2), .val (.int (5 : Int32))] [(.int (5 : Int32))])) _
        refine XS.aloadN X0.here hx rfl (hb hby d15_10) rfl rfl ?_
        exact kz
      refine OG.step s175 ?_
      have av176 := Gx_o1_22
      obtain ⟨cl176, Ar176, qa_176, Sa_176, Nn_176, Ha_176, Ga_176⟩ := av176
      refine OG.step (X0.arraylength hx (by rw [e0]; exact Ar176.1) (State.isArrayOf_alike hZ.alike Ar176.2.1) (g := (mkF m 11 #[.val (.ref o1), .val (.ref o2), .val (.int (5 : Int32))] [(.ref o1), (.int (5 : Int32))])) rfl rfl (hb hby d15_11)) ?_
      rw [len_of Sa_176 Nn_176]
      show OG _ _ _ _ _ _ _ (s₁.setTop (mkF m 12 #[.val (.ref o1), .val (.ref o2), .val (.int (5 : Int32))] [(.int (5 : Int32)), (.int (5 : Int32))]))
      have s177 : ∀ tz, Steps p.tables e below (s₁.setTop (mkF m 33 #[.val (.ref o1), .val (.ref o2), .val (.int (5 : Int32))] [(.int (1 : Int32))])) tz → Steps p.tables e below (s₁.setTop (mkF m 12 #[.val (.ref o1), .val (.ref o2), .val (.int (5 : Int32))] [(.int (5 : Int32)), (.int (5 : Int32))])) tz := by
        intro tz kz
        refine XS.icmpYes X0.here hx rfl (pc0 := 12) (pc' := 32) rfl (hb hby d15_12) rfl (flt (by decide)).2.1 (by decide) (by decide) ?_
        show Steps p.tables e below (s₁.setTop (mkF m 32 #[.val (.ref o1), .val (.ref o2), .val (.int (5 : Int32))] [])) _
        refine XS.iconst X0.here hx rfl (hb hby d15_32) ?_
        exact kz
      refine OG.step s177 ?_
      exact OG.retZ X0 hx hlk Bd.returns (hb hby d15_33) (nar_1) e0 ⟨rfl, N0, rfl⟩ (by decide) (by decide)
theorem d13_0 : decode jdk_42_method_66_code 0 = .ok (.aload_n 0, 1) := by decide +kernel
theorem d13_1 : decode jdk_42_method_66_code 1 = .ok (.aload_n 1, 1) := by decide +kernel
theorem d13_2 : decode jdk_42_method_66_code 2 = .ok (.if_acmp .ne 5, 3) := by decide +kernel
theorem d13_5 : decode jdk_42_method_66_code 5 = .ok (.iconst 1, 1) := by decide +kernel
theorem d13_6 : decode jdk_42_method_66_code 6 = .ok (.ireturn, 1) := by decide +kernel
theorem d13_7 : decode jdk_42_method_66_code 7 = .ok (.aload_n 1, 1) := by decide +kernel
theorem d13_8 : decode jdk_42_method_66_code 8 = .ok (.instanceof 10, 3) := by decide +kernel
theorem d13_11 : decode jdk_42_method_66_code 11 = .ok (.ifCond .eq 43, 3) := by decide +kernel
theorem d13_14 : decode jdk_42_method_66_code 14 = .ok (.aload_n 1, 1) := by decide +kernel
theorem d13_15 : decode jdk_42_method_66_code 15 = .ok (.checkcast 10, 3) := by decide +kernel
theorem d13_18 : decode jdk_42_method_66_code 18 = .ok (.astore_n 2, 1) := by decide +kernel
theorem d13_19 : decode jdk_42_method_66_code 19 = .ok (.getstatic 38, 3) := by decide +kernel
theorem d13_22 : decode jdk_42_method_66_code 22 = .ok (.ifCond .eq 14, 3) := by decide +kernel
theorem d13_25 : decode jdk_42_method_66_code 25 = .ok (.aload_n 0, 1) := by decide +kernel
theorem d13_26 : decode jdk_42_method_66_code 26 = .ok (.getfield 15, 3) := by decide +kernel
theorem d13_29 : decode jdk_42_method_66_code 29 = .ok (.aload_n 2, 1) := by decide +kernel
theorem d13_30 : decode jdk_42_method_66_code 30 = .ok (.getfield 15, 3) := by decide +kernel
theorem d13_33 : decode jdk_42_method_66_code 33 = .ok (.if_icmp .ne 21, 3) := by decide +kernel
theorem d13_36 : decode jdk_42_method_66_code 36 = .ok (.aload_n 0, 1) := by decide +kernel
theorem d13_37 : decode jdk_42_method_66_code 37 = .ok (.getfield 9, 3) := by decide +kernel
theorem d13_40 : decode jdk_42_method_66_code 40 = .ok (.aload_n 2, 1) := by decide +kernel
theorem d13_41 : decode jdk_42_method_66_code 41 = .ok (.getfield 9, 3) := by decide +kernel
theorem d13_44 : decode jdk_42_method_66_code 44 = .ok (.invokestatic 541, 3) := by decide +kernel
theorem d13_47 : decode jdk_42_method_66_code 47 = .ok (.ifCond .eq 7, 3) := by decide +kernel
theorem d13_50 : decode jdk_42_method_66_code 50 = .ok (.iconst 1, 1) := by decide +kernel
theorem d13_51 : decode jdk_42_method_66_code 51 = .ok (.goto 4, 3) := by decide +kernel
theorem d13_54 : decode jdk_42_method_66_code 54 = .ok (.iconst 0, 1) := by decide +kernel
theorem d13_55 : decode jdk_42_method_66_code 55 = .ok (.ireturn, 1) := by decide +kernel
theorem ef_13 (m : MethodId) (x0 : Addr) (x1 : Addr) : entryFrame m #[(.ref x0), (.ref x1)] 3 = mkF m 0 #[.val (.ref x0), .val (.ref x1), .unset] [] := by first | (simp [entryFrame, mkF, argsToLocals, Value.category]; done) | rfl
def Q13 (Z : State) (o1 : Addr) (o2 : Addr) (b1 : Addr) (k1 : ClassId) (b2 : Addr) (k2 : ClassId) (ii : Nat) (jj : Nat) (wz : Int32) (h0 : Heap) (n0 : Nat) (v : Option Value) (h : Heap) (L : List Loc) : Prop := (v = some (.int (bI (ii = jj)))) ∧ (Fr n0 L) ∧ (h = h0)
theorem pd___B_B_Z : parseMethodDescriptor "([B[B)Z" = some ⟨[(.array .byte), (.array .byte)], some .boolean⟩ := by decide +kernel
abbrev rom_13 : Room := { frames := 1, cells := 0, slots := 0, locals := 14 }
set_option maxRecDepth 65536 in
set_option maxHeartbeats 40000000 in
theorem rm13 (l : Launch) (Z : State) (a0 : Array Value) (hw : ∀ d ∈ tables_1, d.before a0 Z = true) (ws : List Jvm.Cond) (o1 : Addr) (o2 : Addr) (b1 : Addr) (k1 : ClassId) (b2 : Addr) (k2 : ClassId) (ii : Nat) (jj : Nat) (wz : Int32) (h0 : Heap) (n0 : Nat) (Z0 : n0 ≤ h0.size) (F0_o1_coder : Fld Z h0 o1 "java/lang/String" "coder" "B" (.int (0 : Int32))) (F1_o1_value : Fld Z h0 o1 "java/lang/String" "value" "[B" (.ref b1)) (F2_b1 : Arv Z h0 b1 k1 .byte (own_n ii) (own_t ii) (.int (0 : Int32))) (F3_o2 : Exa Z h0 o2 "java/lang/String") (F4_o2_coder : Fld Z h0 o2 "java/lang/String" "coder" "B" (.int (0 : Int32))) (F5_o2_value : Fld Z h0 o2 "java/lang/String" "value" "[B" (.ref b2)) (F6_b2 : Arv Z h0 b2 k2 .byte (own_n jj) (own_t jj) (.int (0 : Int32))) (hi : ii < 3) (hj : jj < 3) (hsta : Sta Z h0 "java/lang/String" "COMPACT_STRINGS" "Z" (.int wz)) (hnz : ¬ wz = (0 : Int32)) :
    MetFree l (⟨"java/lang/String", "equals", "(Ljava/lang/Object;)Z"⟩ : MethodName) (head1 (Jvm.Cond.code (⟨"java/lang/String", "equals", "(Ljava/lang/Object;)Z"⟩ : MethodName) jdk_42_method_66_code 3 (some .boolean) :: ws) rom_13) (fun a U => a = #[(.ref o1), (.ref o2)] ∧ Z.Warmed39 U.vm ∧ U.heap = h0) (fun _ _ _ _ _ => True) (fun _ U o U' => ∃ v L, o = .returned v ∧ Q13 Z o1 o2 b1 k1 b2 k2 ii jj wz h0 n0 v U'.heap L ∧ FrameEnd U o U' L rom_13.cells rom_13.slots) := by
  refine MetFree.of_bodySF (plainFor_of_name pn_java_lang_String) hisR ?_
  intro p e s m args below meth c s₁ Bd hml0 hP hK
  obtain ⟨rfl, hZ, hh⟩ := hP
  have hx := Bd.exec
  have hby := Bd.bytes
  have hlk := Bd.notSynchronized
  have hml : c.maxLocals = 3 := hml0
  have hown : s.vm.findClass "java/lang/String" = some m.cls := findClass_of_methodNamed Bd.named
  have hnm := (name_of_methodNamed Bd.named Bd.method).1
  have X0 : Stand p l e rom_13 s m #[(.ref o1), (.ref o2)] below meth c s₁ [] 0 0 := Stand.of_body Bd
  have e0 : s₁.heap = h0 := by rw [← hh, Bd.state]; rfl
  have N0 := Fr.nil n0
  have K0 : Keep h0 h0 [] := Keep.refl _ _
  refine (?_ : OG p e below s (Q13 Z o1 o2 b1 k1 b2 k2 ii jj wz h0 n0) rom_13.cells rom_13.slots _)
  rw [ef_13]
  have s1 : ∀ tz, Steps p.tables e below (s₁.setTop (mkF m 2 #[.val (.ref o1), .val (.ref o2), .unset] [(.ref o2), (.ref o1)])) tz → Steps p.tables e below (s₁.setTop (mkF m 0 #[.val (.ref o1), .val (.ref o2), .unset] [])) tz := by
    intro tz kz
    refine XS.aloadN X0.here hx rfl (hb hby d13_0) rfl rfl ?_
    show Steps p.tables e below (s₁.setTop (mkF m 1 #[.val (.ref o1), .val (.ref o2), .unset] [(.ref o1)])) _
    refine XS.aloadN X0.here hx rfl (hb hby d13_1) rfl rfl ?_
    exact kz
  refine OG.step s1 ?_
  by_cases hc2 : o1 = o2
  · have s2 : ∀ tz, Steps p.tables e below (s₁.setTop (mkF m 6 #[.val (.ref o1), .val (.ref o2), .unset] [(.int (1 : Int32))])) tz → Steps p.tables e below (s₁.setTop (mkF m 2 #[.val (.ref o1), .val (.ref o2), .unset] [(.ref o2), (.ref o1)])) tz := by
      intro tz kz
      refine Jvm.RoadKit.acmp X0 hx rfl (x := (.ref o1)) (y := (.ref o2)) (by rfl) (by rfl) (pc0 := 2) (pc' := 5) (same := true) rfl (hb hby d13_2) rfl (decide_eq_true (by rw [hc2])) (by decide) (by decide) ?_
      show Steps p.tables e below (s₁.setTop (mkF m 5 #[.val (.ref o1), .val (.ref o2), .unset] [])) _
      refine XS.iconst X0.here hx rfl (hb hby d13_5) ?_
      exact kz
    refine OG.step s2 ?_
    exact OG.retZ X0 hx hlk Bd.returns (hb hby d13_6) (nar_1) e0 ⟨(by rw [show bI (ii = jj) = (1 : Int32) from bI_pos (by subst hc2; exact own_same hi hj F1_o1_value F5_o2_value F2_b1 F6_b2)]), N0, rfl⟩ (by decide) (by decide)
  · have s3 : ∀ tz, Steps p.tables e below (s₁.setTop (mkF m 8 #[.val (.ref o1), .val (.ref o2), .unset] [(.ref o2)])) tz → Steps p.tables e below (s₁.setTop (mkF m 2 #[.val (.ref o1), .val (.ref o2), .unset] [(.ref o2), (.ref o1)])) tz := by
      intro tz kz
      refine Jvm.RoadKit.acmp X0 hx rfl (x := (.ref o1)) (y := (.ref o2)) (by rfl) (by rfl) (pc0 := 2) (pc' := 7) (same := false) rfl (hb hby d13_2) rfl (decide_eq_false (fun q => by cases q; exact hc2 rfl)) (by decide) (by decide) ?_
      show Steps p.tables e below (s₁.setTop (mkF m 7 #[.val (.ref o1), .val (.ref o2), .unset] [])) _
      refine XS.aloadN X0.here hx rfl (hb hby d13_7) rfl rfl ?_
      exact kz
    refine OG.step s3 ?_
    obtain ⟨T4, X4, e4, st4⟩ := instY X0 hx hZ hown (hw _ (List.mem_of_getElem? (i := 12) rfl)) e0 (Ins.self F3_o2) (g := (mkF m 8 #[.val (.ref o1), .val (.ref o2), .unset] [(.ref o2)])) rfl rfl (hb hby d13_8)
    refine OG.step st4 ?_
    show OG _ _ _ _ _ _ _ (T4.setTop (mkF m 11 #[.val (.ref o1), .val (.ref o2), .unset] [(.int (1 : Int32))]))
    have s5 : ∀ tz, Steps p.tables e below (T4.setTop (mkF m 15 #[.val (.ref o1), .val (.ref o2), .unset] [(.ref o2)])) tz → Steps p.tables e below (T4.setTop (mkF m 11 #[.val (.ref o1), .val (.ref o2), .unset] [(.int (1 : Int32))])) tz := by
      intro tz kz
      refine XS.ifNo X4.here hx rfl (hb hby d13_11) rfl ((if0 _ _).trans (feq (by decide)).1) ?_
      show Steps p.tables e below (T4.setTop (mkF m 14 #[.val (.ref o1), .val (.ref o2), .unset] [])) _
      refine XS.aloadN X4.here hx rfl (hb hby d13_14) rfl rfl ?_
      exact kz
    refine OG.step s5 ?_
    obtain ⟨T6, X6, e6, st6⟩ := castY X4 hx hZ hown (hw _ (List.mem_of_getElem? (i := 12) rfl)) e4 (Ins.self F3_o2) (g := (mkF m 15 #[.val (.ref o1), .val (.ref o2), .unset] [(.ref o2)])) rfl rfl (hb hby d13_15)
    refine OG.step st6 ?_
    show OG _ _ _ _ _ _ _ (T6.setTop (mkF m 18 #[.val (.ref o1), .val (.ref o2), .unset] [(.ref o2)]))
    have s7 : ∀ tz, Steps p.tables e below (T6.setTop (mkF m 19 #[.val (.ref o1), .val (.ref o2), .val (.ref o2)] [])) tz → Steps p.tables e below (T6.setTop (mkF m 18 #[.val (.ref o1), .val (.ref o2), .unset] [(.ref o2)])) tz := by
      intro tz kz
      refine XS.astoreN X6.here hx rfl (hb hby d13_18) rfl rfl (l' := #[.val (.ref o1), .val (.ref o2), .val (.ref o2)]) rfl ?_
      exact kz
    refine OG.step s7 ?_
    obtain ⟨T8, X8, e8, st8⟩ := getS2 X6 hx hZ hown (host := "") (Or.inl (hw _ (List.mem_of_getElem? (i := 7) rfl))) Via.refl e6 hsta (g := (mkF m 19 #[.val (.ref o1), .val (.ref o2), .val (.ref o2)] [])) rfl (hb hby d13_19)
    refine OG.step st8 ?_
    show OG _ _ _ _ _ _ _ (T8.setTop (mkF m 22 #[.val (.ref o1), .val (.ref o2), .val (.ref o2)] [(.int wz)]))
    have s9 : ∀ tz, Steps p.tables e below (T8.setTop (mkF m 26 #[.val (.ref o1), .val (.ref o2), .val (.ref o2)] [(.ref o1)])) tz → Steps p.tables e below (T8.setTop (mkF m 22 #[.val (.ref o1), .val (.ref o2), .val (.ref o2)] [(.int wz)])) tz := by
      intro tz kz
      refine XS.ifNo X8.here hx rfl (hb hby d13_22) rfl ((if0 _ _).trans (feq hnz).1) ?_
      show Steps p.tables e below (T8.setTop (mkF m 25 #[.val (.ref o1), .val (.ref o2), .val (.ref o2)] [])) _
      refine XS.aloadN X8.here hx rfl (hb hby d13_25) rfl rfl ?_
      exact kz
    refine OG.step s9 ?_
    obtain ⟨T10, X10, e10, st10⟩ := getF X8 hx hZ hown (host := "") (Or.inl (hw _ (List.mem_of_getElem? (i := 27) rfl))) Via.refl e8 F0_o1_coder (g := (mkF m 26 #[.val (.ref o1), .val (.ref o2), .val (.ref o2)] [(.ref o1)])) rfl rfl (hb hby d13_26)
    refine OG.step st10 ?_
    show OG _ _ _ _ _ _ _ (T10.setTop (mkF m 29 #[.val (.ref o1), .val (.ref o2), .val (.ref o2)] [(.int (0 : Int32))]))
    have s11 : ∀ tz, Steps p.tables e below (T10.setTop (mkF m 30 #[.val (.ref o1), .val (.ref o2), .val (.ref o2)] [(.ref o2), (.int (0 : Int32))])) tz → Steps p.tables e below (T10.setTop (mkF m 29 #[.val (.ref o1), .val (.ref o2), .val (.ref o2)] [(.int (0 : Int32))])) tz := by
      intro tz kz
      refine XS.aloadN X10.here hx rfl (hb hby d13_29) rfl rfl ?_
      exact kz
    refine OG.step s11 ?_
    obtain ⟨T12, X12, e12, st12⟩ := getF X10 hx hZ hown (host := "") (Or.inl (hw _ (List.mem_of_getElem? (i := 27) rfl))) Via.refl e10 F4_o2_coder (g := (mkF m 30 #[.val (.ref o1), .val (.ref o2), .val (.ref o2)] [(.ref o2), (.int (0 : Int32))])) rfl rfl (hb hby d13_30)
    refine OG.step st12 ?_
    show OG _ _ _ _ _ _ _ (T12.setTop (mkF m 33 #[.val (.ref o1), .val (.ref o2), .val (.ref o2)] [(.int (0 : Int32)), (.int (0 : Int32))]))
    have s13 : ∀ tz, Steps p.tables e below (T12.setTop (mkF m 37 #[.val (.ref o1), .val (.ref o2), .val (.ref o2)] [(.ref o1)])) tz → Steps p.tables e below (T12.setTop (mkF m 33 #[.val (.ref o1), .val (.ref o2), .val (.ref o2)] [(.int (0 : Int32)), (.int (0 : Int32))])) tz := by
      intro tz kz
      refine XS.icmpNo X12.here hx rfl (hb hby d13_33) rfl (teq (by decide)).2 ?_
      show Steps p.tables e below (T12.setTop (mkF m 36 #[.val (.ref o1), .val (.ref o2), .val (.ref o2)] [])) _
      refine XS.aloadN X12.here hx rfl (hb hby d13_36) rfl rfl ?_
      exact kz
    refine OG.step s13 ?_
    obtain ⟨T14, X14, e14, st14⟩ := getF X12 hx hZ hown (host := "") (Or.inl (hw _ (List.mem_of_getElem? (i := 25) rfl))) Via.refl e12 F1_o1_value (g := (mkF m 37 #[.val (.ref o1), .val (.ref o2), .val (.ref o2)] [(.ref o1)])) rfl rfl (hb hby d13_37)
    refine OG.step st14 ?_
    show OG _ _ _ _ _ _ _ (T14.setTop (mkF m 40 #[.val (.ref o1), .val (.ref o2), .val (.ref o2)] [(.ref b1)]))
    have s15 : ∀ tz, Steps p.tables e below (T14.setTop (mkF m 41 #[.val (.ref o1), .val (.ref o2), .val (.ref o2)] [(.ref o2), (.ref b1)])) tz → Steps p.tables e below (T14.setTop (mkF m 40 #[.val (.ref o1), .val (.ref o2), .val (.ref o2)] [(.ref b1)])) tz := by
      intro tz kz
      refine XS.aloadN X14.here hx rfl (hb hby d13_40) rfl rfl ?_
      exact kz
    refine OG.step s15 ?_
    obtain ⟨T16, X16, e16, st16⟩ := getF X14 hx hZ hown (host := "") (Or.inl (hw _ (List.mem_of_getElem? (i := 25) rfl))) Via.refl e14 F5_o2_value (g := (mkF m 41 #[.val (.ref o1), .val (.ref o2), .val (.ref o2)] [(.ref o2), (.ref b1)])) rfl rfl (hb hby d13_41)
    refine OG.step st16 ?_
    show OG _ _ _ _ _ _ _ (T16.setTop (mkF m 44 #[.val (.ref o1), .val (.ref o2), .val (.ref o2)] [(.ref b2), (.ref b1)]))
    obtain ⟨_, _, ⟨T17, L17, k17, n17⟩, -, X17, ⟨Lc17, hQ17, l17, y17, z17⟩, st17⟩ := Jvm.LawKit.callS X16 hx (y := (⟨"java/lang/StringLatin1", "equals", "([B[B)Z"⟩ : MethodName)) hown (mvT hZ (hw _ (List.mem_of_getElem? (i := 96) rfl))) (mvT hZ (hw _ (List.mem_of_getElem? (i := 97) rfl))) (mvT hZ (hw _ (List.mem_of_getElem? (i := 10) rfl))) (mvT hZ (hw _ (List.mem_of_getElem? (i := 98) rfl))) (by decide) (backOf (W := 0) (rm15 l Z a0 hw [] b1 b2 k1 k2 ii jj h0 n0 (Nat.le_trans Z0 K0.1) F2_b1 F6_b2 hi hj) hZ (hw _ (List.mem_of_getElem? (i := 98) rfl)) (hw _ (List.mem_of_getElem? (i := 10) rfl)) (by decide) (by decide)) (g := (mkF m 44 #[.val (.ref o1), .val (.ref o2), .val (.ref o2)] [(.ref b2), (.ref b1)])) rfl (by rw [hml]; rfl) (argsL := [(.ref b1), (.ref b2)]) (rest := []) (lenOf pd___B_B_Z rfl) rfl (by show 2 * 0 + _ ≤ _; exact Nat.le_of_eq rfl) (hb hby d13_44) (fun _ _ => ⟨rfl, e16, (by decide : 0 + 0 ≤ _), (by decide : 0 + 0 ≤ _)⟩)
    dsimp only [Pt.U, Pt.locs, Pt.cells, Pt.slots] at X17 l17 y17 z17 st17 hQ17
    subst l17 y17 z17
    obtain ⟨rfl, N17q, e17⟩ := hQ17
    have N17 := Fr.app N0 N17q
    refine OG.step st17 ?_
    obtain ⟨Lz18, X17, N17⟩ : ∃ Lz, Stand p l e rom_13 s m #[(.ref o1), (.ref o2)] below meth c T17 Lz 0 0 ∧ Fr n0 Lz := ⟨_, X17, N17⟩
    show OG _ _ _ _ _ _ _ (T17.setTop (mkF m 47 #[.val (.ref o1), .val (.ref o2), .val (.ref o2)] [(.int (bI (ii = jj)))]))
    have s19 : ∀ tz, Steps p.tables e below (T17.setTop (mkF m 55 #[.val (.ref o1), .val (.ref o2), .val (.ref o2)] [(.int (bI (ii = jj)))])) tz → Steps p.tables e below (T17.setTop (mkF m 47 #[.val (.ref o1), .val (.ref o2), .val (.ref o2)] [(.int (bI (ii = jj)))])) tz := by
      intro tz kz
      by_cases hm47 : ii = jj
      · refine XS.ifNo X17.here hx rfl (hb hby d13_47) rfl ((if0 _ _).trans (feq (bI_ne0 hm47)).1) ?_
        show Steps p.tables e below (T17.setTop (mkF m 50 #[.val (.ref o1), .val (.ref o2), .val (.ref o2)] [])) _
        refine XS.iconst X17.here hx rfl (hb hby d13_50) ?_
        show Steps p.tables e below (T17.setTop (mkF m 51 #[.val (.ref o1), .val (.ref o2), .val (.ref o2)] [(.int (1 : Int32))])) _
        refine XS.goto X17.here hx rfl (pc0 := 51) (pc' := 55) rfl (hb hby d13_51) (by decide) (by decide) ?_
        show Steps p.tables e below (T17.setTop (mkF m 55 #[.val (.ref o1), .val (.ref o2), .val (.ref o2)] [(.int (1 : Int32))])) _
        rw [show (bI (ii = jj)) = (1 : Int32) from bI_pos (P := ii = jj) hm47] at kz
        exact kz
      · refine XS.ifYes X17.here hx rfl (pc0 := 47) (pc' := 54) rfl (hb hby d13_47) rfl ((if0 _ _).trans (teq (bI_0 hm47)).1) (by decide) (by decide) ?_
        show Steps p.tables e below (T17.setTop (mkF m 54 #[.val (.ref o1), .val (.ref o2), .val (.ref o2)] [])) _
        refine XS.iconst X17.here hx rfl (hb hby d13_54) ?_
        show Steps p.tables e below (T17.setTop (mkF m 55 #[.val (.ref o1), .val (.ref o2), .val (.ref o2)] [(.int (0 : Int32))])) _
        rw [show (bI (ii = jj)) = (0 : Int32) from bI_neg (P := ii = jj) hm47] at kz
        exact kz
    refine OG.step s19 ?_
    exact OG.retZ X17 hx hlk Bd.returns (hb hby d13_55) (nar_bI _) e17 ⟨rfl, N17, rfl⟩ (by decide) (by decide)
theorem ef_0 (m : MethodId) (x0 : Int32) (x1 : Int32) (x2 : Int32) : entryFrame m #[(.int x0), (.int x1), (.int x2)] maxLocals = mkF m 0 #[.val (.int x0), .val (.int x1), .val (.int x2), .unset, .unset, .unset, .unset, .unset, .unset, .unset, .unset, .unset, .unset, .unset, .unset] [] := by first | (simp [entryFrame, mkF, argsToLocals, Value.category, maxLocals]; done) | rfl
def Q0 (Z : State) (p0 : Int32) (p1 : Int32) (p2 : Int32) (wz : Int32) (h0 : Heap) (n0 : Nat) (v : Option Value) (h : Heap) (L : List Loc) : Prop := (v = some (.int (1 : Int32))) ∧ (Fr n0 L)
theorem pd__C_Ljava_lang_String_ : parseMethodDescriptor "(C)Ljava/lang/String;" = some ⟨[.char], some (.object "java/lang/String")⟩ := by decide +kernel
theorem pd__Ljava_lang_String_Ljava_lang_String_Ljava_lang_String__V : parseMethodDescriptor "(Ljava/lang/String;Ljava/lang/String;Ljava/lang/String;)V" = some ⟨[(.object "java/lang/String"), (.object "java/lang/String"), (.object "java/lang/String")], none⟩ := by decide +kernel
theorem pd__Lcom_example_mergeward_mergeward_core_Identifier_Lcom_example_mergeward_mergeward_core_Identifier_Lcom_example_mergeward_mergeward_core_Identifier__V : parseMethodDescriptor "(Lcom/example/mergeward/mergeward/core/Identifier;Lcom/example/mergeward/mergeward/core/Identifier;Lcom/example/mergeward/mergeward/core/Identifier;)V" = some ⟨[(.object "com/example/mergeward/mergeward/core/Identifier"), (.object "com/example/mergeward/mergeward/core/Identifier"), (.object "com/example/mergeward/mergeward/core/Identifier")], none⟩ := by decide +kernel
theorem pd___Ljava_lang_String_ : parseMethodDescriptor "()Ljava/lang/String;" = some ⟨[], some (.object "java/lang/String")⟩ := by decide +kernel
theorem pd__ZZ_Ljava_lang_String_ : parseMethodDescriptor "(ZZ)Ljava/lang/String;" = some ⟨[.boolean, .boolean], some (.object "java/lang/String")⟩ := by decide +kernel
theorem pd__Ljava_lang_Object__Z : parseMethodDescriptor "(Ljava/lang/Object;)Z" = some ⟨[(.object "java/lang/Object")], some .boolean⟩ := by decide +kernel
theorem pd__Lcom_example_mergeward_mergeward_core_RecordPath__Z : parseMethodDescriptor "(Lcom/example/mergeward/mergeward/core/RecordPath;)Z" = some ⟨[(.object "com/example/mergeward/mergeward/core/RecordPath")], some .boolean⟩ := by decide +kernel
set_option maxRecDepth 65536 in
set_option maxHeartbeats 40000000 in
theorem rm0 (l : Launch) (Z : State) (a0 : Array Value) (hw : ∀ d ∈ tables_1, d.before a0 Z = true) (ws : List Jvm.Cond) (p0 : Int32) (p1 : Int32) (p2 : Int32) (wz : Int32) (h0 : Heap) (n0 : Nat) (Z0 : n0 ≤ h0.size) (hOld : Old Z n0 h0) (hS : Sta Z Z.heap "java/lang/String" "COMPACT_STRINGS" "Z" (.int wz)) (hnz : ¬ wz = (0 : Int32)) :
    MetFree l x (head1 (Jvm.Cond.code x code maxLocals ret :: ws) room_1) (fun a U => a = #[(.int p0), (.int p1), (.int p2)] ∧ Z.Warmed39 U.vm ∧ U.heap = h0 ∧ CHv Z own_EL U.vm h0) (fun _ _ _ _ _ => True) (fun _ U o U' => ∃ v L, o = .returned v ∧ Q0 Z p0 p1 p2 wz h0 n0 v U'.heap L ∧ CHr Z own_EL U.vm U.heap U'.vm U'.heap ∧ ReturnedEndW U o U' L room_1.cells room_1.slots) := by
  refine MetFree.of_bodySF (plainFor_of_name pn_com_example_mergeward_mergeward_core_RecordPathLevelPinLaw) hisR ?_
  intro p e s m args below meth c s₁ Bd hml0 hP hK
  obtain ⟨rfl, hZ, hh, hH0⟩ := hP
  have hx := Bd.exec
  have hby := Bd.bytes
  have hlk := Bd.notSynchronized
  have hml : c.maxLocals = 15 := hml0
  have hown : s.vm.findClass "com/example/mergeward/mergeward/core/RecordPathLevelPinLaw" = some m.cls := findClass_of_methodNamed Bd.named
  have hnm := (name_of_methodNamed Bd.named Bd.method).1
  have X0s : Stand p l e room_1 s m #[(.int p0), (.int p1), (.int p2)] below meth c s₁ [] 0 0 := Stand.of_body Bd
  have X0 : Stand p l e room_1 (s.setVm s.vm) m #[(.int p0), (.int p1), (.int p2)] below meth c s₁ [] 0 0 := X0s
  have hS0 : s.Since s.vm 0 := (State.WarmedH.refl s).since 0
  have hk0 : 0 ≤ h0.size := Nat.zero_le _
  have wS := own_wS hw
  have hC0 : CHr Z own_EL s.vm h0 s.vm h0 := CHr.refl hH0
  have hEL : EW Z a0 own_EL := own_EW hw
  have e0 : s₁.heap = h0 := by rw [← hh, Bd.state]; rfl
  have N0 := Fr.nil n0
  have K0 : Keep h0 h0 [] := Keep.refl _ _
  refine (?_ : OGH p e below s Z (Q0 Z p0 p1 p2 wz h0 n0) room_1.cells room_1.slots _)
  rw [ef_0]
  have s1 : ∀ tz, Steps p.tables e below (s₁.setTop (mkF m 11 #[.val (.int p0), .val (.int p1), .val (.int p2), .unset, .unset, .unset, .unset, .unset, .unset, .unset, .unset, .unset, .unset, .unset, .unset] [(.int (bI (¬ ((p0 &&& (1 : Int32)) = (0 : Int32)))))])) tz → Steps p.tables e below (s₁.setTop (mkF m 0 #[.val (.int p0), .val (.int p1), .val (.int p2), .unset, .unset, .unset, .unset, .unset, .unset, .unset, .unset, .unset, .unset, .unset, .unset] [])) tz := by
    intro tz kz
    refine XS.iloadN X0.here hx rfl (hb hby at_0) rfl ?_
    show Steps p.tables e below (s₁.setTop (mkF m 1 #[.val (.int p0), .val (.int p1), .val (.int p2), .unset, .unset, .unset, .unset, .unset, .unset, .unset, .unset, .unset, .unset, .unset, .unset] [(.int p0)])) _
    refine XS.iconst X0.here hx rfl (hb hby at_1) ?_
    show Steps p.tables e below (s₁.setTop (mkF m 2 #[.val (.int p0), .val (.int p1), .val (.int p2), .unset, .unset, .unset, .unset, .unset, .unset, .unset, .unset, .unset, .unset, .unset, .unset] [(.int (1 : Int32)), (.int p0)])) _
    refine XS.iand X0.here hx rfl (hb hby at_2) rfl ?_
    show Steps p.tables e below (s₁.setTop (mkF m 3 #[.val (.int p0), .val (.int p1), .val (.int p2), .unset, .unset, .unset, .unset, .unset, .unset, .unset, .unset, .unset, .unset, .unset, .unset] [(.int (p0 &&& (1 : Int32)))])) _
    by_cases hm3 : (p0 &&& (1 : Int32)) = (0 : Int32)
    · refine XS.ifYes X0.here hx rfl (pc0 := 3) (pc' := 10) rfl (hb hby at_3) rfl ((if0 _ _).trans (teq hm3).1) (by decide) (by decide) ?_
      show Steps p.tables e below (s₁.setTop (mkF m 10 #[.val (.int p0), .val (.int p1), .val (.int p2), .unset, .unset, .unset, .unset, .unset, .unset, .unset, .unset, .unset, .unset, .unset, .unset] [])) _
      refine XS.iconst X0.here hx rfl (hb hby at_10) ?_
      show Steps p.tables e below (s₁.setTop (mkF m 11 #[.val (.int p0), .val (.int p1), .val (.int p2), .unset, .unset, .unset, .unset, .unset, .unset, .unset, .unset, .unset, .unset, .unset, .unset] [(.int (0 : Int32))])) _
      rw [show (bI (¬ ((p0 &&& (1 : Int32)) = (0 : Int32)))) = (0 : Int32) from bI_neg (P := ¬ ((p0 &&& (1 : Int32)) = (0 : Int32))) (fun z => z hm3)] at kz
      exact kz
    · refine XS.ifNo X0.here hx rfl (hb hby at_3) rfl ((if0 _ _).trans (feq hm3).1) ?_
      show Steps p.tables e below (s₁.setTop (mkF m 6 #[.val (.int p0), .val (.int p1), .val (.int p2), .unset, .unset, .unset, .unset, .unset, .unset, .unset, .unset, .unset, .unset, .unset, .unset] [])) _
      refine XS.iconst X0.here hx rfl (hb hby at_6) ?_
      show Steps p.tables e below (s₁.setTop (mkF m 7 #[.val (.int p0), .val (.int p1), .val (.int p2), .unset, .unset, .unset, .unset, .unset, .unset, .unset, .unset, .unset, .unset, .unset, .unset] [(.int (1 : Int32))])) _
      refine XS.goto X0.here hx rfl (pc0 := 7) (pc' := 11) rfl (hb hby at_7) (by decide) (by decide) ?_
      show Steps p.tables e below (s₁.setTop (mkF m 11 #[.val (.int p0), .val (.int p1), .val (.int p2), .unset, .unset, .unset, .unset, .unset, .unset, .unset, .unset, .unset, .unset, .unset, .unset] [(.int (1 : Int32))])) _
      rw [show (bI (¬ ((p0 &&& (1 : Int32)) = (0 : Int32)))) = (1 : Int32) from bI_pos (P := ¬ ((p0 &&& (1 : Int32)) = (0 : Int32))) hm3] at kz
      exact kz
  refine OGH.step s1 ?_
  have s2 : ∀ tz, Steps p.tables e below (s₁.setTop (mkF m 12 #[.val (.int p0), .val (.int p1), .val (.int p2), .val (.int (bI (¬ ((p0 &&& (1 : Int32)) = (0 : Int32))))), .unset, .unset, .unset, .unset, .unset, .unset, .unset, .unset, .unset, .unset, .unset] [])) tz → Steps p.tables e below (s₁.setTop (mkF m 11 #[.val (.int p0), .val (.int p1), .val (.int p2), .unset, .unset, .unset, .unset, .unset, .unset, .unset, .unset, .unset, .unset, .unset, .unset] [(.int (bI (¬ ((p0 &&& (1 : Int32)) = (0 : Int32)))))])) tz := by
    intro tz kz
    refine XS.istoreN X0.here hx rfl (hb hby at_11) rfl (l' := #[.val (.int p0), .val (.int p1), .val (.int p2), .val (.int (bI (¬ ((p0 &&& (1 : Int32)) = (0 : Int32))))), .unset, .unset, .unset, .unset, .unset, .unset, .unset, .unset, .unset, .unset, .unset]) rfl ?_
    exact kz
  refine OGH.step s2 ?_
  have s3 : ∀ tz, Steps p.tables e below (s₁.setTop (mkF m 23 #[.val (.int p0), .val (.int p1), .val (.int p2), .val (.int (bI (¬ ((p0 &&& (1 : Int32)) = (0 : Int32))))), .unset, .unset, .unset, .unset, .unset, .unset, .unset, .unset, .unset, .unset, .unset] [(.int (bI (¬ ((p0 &&& (2 : Int32)) = (0 : Int32)))))])) tz → Steps p.tables e below (s₁.setTop (mkF m 12 #[.val (.int p0), .val (.int p1), .val (.int p2), .val (.int (bI (¬ ((p0 &&& (1 : Int32)) = (0 : Int32))))), .unset, .unset, .unset, .unset, .unset, .unset, .unset, .unset, .unset, .unset, .unset] [])) tz := by
    intro tz kz
    refine XS.iloadN X0.here hx rfl (hb hby at_12) rfl ?_
    show Steps p.tables e below (s₁.setTop (mkF m 13 #[.val (.int p0), .val (.int p1), .val (.int p2), .val (.int (bI (¬ ((p0 &&& (1 : Int32)) = (0 : Int32))))), .unset, .unset, .unset, .unset, .unset, .unset, .unset, .unset, .unset, .unset, .unset] [(.int p0)])) _
    refine XS.iconst X0.here hx rfl (hb hby at_13) ?_
    show Steps p.tables e below (s₁.setTop (mkF m 14 #[.val (.int p0), .val (.int p1), .val (.int p2), .val (.int (bI (¬ ((p0 &&& (1 : Int32)) = (0 : Int32))))), .unset, .unset, .unset, .unset, .unset, .unset, .unset, .unset, .unset, .unset, .unset] [(.int (2 : Int32)), (.int p0)])) _
    refine XS.iand X0.here hx rfl (hb hby at_14) rfl ?_
    show Steps p.tables e below (s₁.setTop (mkF m 15 #[.val (.int p0), .val (.int p1), .val (.int p2), .val (.int (bI (¬ ((p0 &&& (1 : Int32)) = (0 : Int32))))), .unset, .unset, .unset, .unset, .unset, .unset, .unset, .unset, .unset, .unset, .unset] [(.int (p0 &&& (2 : Int32)))])) _
    by_cases hm15 : (p0 &&& (2 : Int32)) = (0 : Int32)
    · refine XS.ifYes X0.here hx rfl (pc0 := 15) (pc' := 22) rfl (hb hby at_15) rfl ((if0 _ _).trans (teq hm15).1) (by decide) (by decide) ?_
      show Steps p.tables e below (s₁.setTop (mkF m 22 #[.val (.int p0), .val (.int p1), .val (.int p2), .val (.int (bI (¬ ((p0 &&& (1 : Int32)) = (0 : Int32))))), .unset, .unset, .unset, .unset, .unset, .unset, .unset, .unset, .unset, .unset, .unset] [])) _
      refine XS.iconst X0.here hx rfl (hb hby at_22) ?_
      show Steps p.tables e below (s₁.setTop (mkF m 23 #[.val (.int p0), .val (.int p1), .val (.int p2), .val (.int (bI (¬ ((p0 &&& (1 : Int32)) = (0 : Int32))))), .unset, .unset, .unset, .unset, .unset, .unset, .unset, .unset, .unset, .unset, .unset] [(.int (0 : Int32))])) _
      rw [show (bI (¬ ((p0 &&& (2 : Int32)) = (0 : Int32)))) = (0 : Int32) from bI_neg (P := ¬ ((p0 &&& (2 : Int32)) = (0 : Int32))) (fun z => z hm15)] at kz
      exact kz
    · refine XS.ifNo X0.here hx rfl (hb hby at_15) rfl ((if0 _ _).trans (feq hm15).1) ?_
      show Steps p.tables e below (s₁.setTop (mkF m 18 #[.val (.int p0), .val (.int p1), .val (.int p2), .val (.int (bI (¬ ((p0 &&& (1 : Int32)) = (0 : Int32))))), .unset, .unset, .unset, .unset, .unset, .unset, .unset, .unset, .unset, .unset, .unset] [])) _
      refine XS.iconst X0.here hx rfl (hb hby at_18) ?_
      show Steps p.tables e below (s₁.setTop (mkF m 19 #[.val (.int p0), .val (.int p1), .val (.int p2), .val (.int (bI (¬ ((p0 &&& (1 : Int32)) = (0 : Int32))))), .unset, .unset, .unset, .unset, .unset, .unset, .unset, .unset, .unset, .unset, .unset] [(.int (1 : Int32))])) _
      refine XS.goto X0.here hx rfl (pc0 := 19) (pc' := 23) rfl (hb hby at_19) (by decide) (by decide) ?_
      show Steps p.tables e below (s₁.setTop (mkF m 23 #[.val (.int p0), .val (.int p1), .val (.int p2), .val (.int (bI (¬ ((p0 &&& (1 : Int32)) = (0 : Int32))))), .unset, .unset, .unset, .unset, .unset, .unset, .unset, .unset, .unset, .unset, .unset] [(.int (1 : Int32))])) _
      rw [show (bI (¬ ((p0 &&& (2 : Int32)) = (0 : Int32)))) = (1 : Int32) from bI_pos (P := ¬ ((p0 &&& (2 : Int32)) = (0 : Int32))) hm15] at kz
      exact kz
  refine OGH.step s3 ?_
  have s4 : ∀ tz, Steps p.tables e below (s₁.setTop (mkF m 25 #[.val (.int p0), .val (.int p1), .val (.int p2), .val (.int (bI (¬ ((p0 &&& (1 : Int32)) = (0 : Int32))))), .val (.int (bI (¬ ((p0 &&& (2 : Int32)) = (0 : Int32))))), .unset, .unset, .unset, .unset, .unset, .unset, .unset, .unset, .unset, .unset] [])) tz → Steps p.tables e below (s₁.setTop (mkF m 23 #[.val (.int p0), .val (.int p1), .val (.int p2), .val (.int (bI (¬ ((p0 &&& (1 : Int32)) = (0 : Int32))))), .unset, .unset, .unset, .unset, .unset, .unset, .unset, .unset, .unset, .unset, .unset] [(.int (bI (¬ ((p0 &&& (2 : Int32)) = (0 : Int32)))))])) tz := by
    intro tz kz
    refine XS.istore X0.here hx rfl (hb hby at_23) rfl (l' := #[.val (.int p0), .val (.int p1), .val (.int p2), .val (.int (bI (¬ ((p0 &&& (1 : Int32)) = (0 : Int32))))), .val (.int (bI (¬ ((p0 &&& (2 : Int32)) = (0 : Int32))))), .unset, .unset, .unset, .unset, .unset, .unset, .unset, .unset, .unset, .unset]) rfl ?_
    exact kz
  refine OGH.step s4 ?_
  have s5 : ∀ tz, Steps p.tables e below (s₁.setTop (mkF m 36 #[.val (.int p0), .val (.int p1), .val (.int p2), .val (.int (bI (¬ ((p0 &&& (1 : Int32)) = (0 : Int32))))), .val (.int (bI (¬ ((p0 &&& (2 : Int32)) = (0 : Int32))))), .unset, .unset, .unset, .unset, .unset, .unset, .unset, .unset, .unset, .unset] [(.int (bI (¬ ((p1 &&& (1 : Int32)) = (0 : Int32)))))])) tz → Steps p.tables e below (s₁.setTop (mkF m 25 #[.val (.int p0), .val (.int p1), .val (.int p2), .val (.int (bI (¬ ((p0 &&& (1 : Int32)) = (0 : Int32))))), .val (.int (bI (¬ ((p0 &&& (2 : Int32)) = (0 : Int32))))), .unset, .unset, .unset, .unset, .unset, .unset, .unset, .unset, .unset, .unset] [])) tz := by
    intro tz kz
    refine XS.iloadN X0.here hx rfl (hb hby at_25) rfl ?_
    show Steps p.tables e below (s₁.setTop (mkF m 26 #[.val (.int p0), .val (.int p1), .val (.int p2), .val (.int (bI (¬ ((p0 &&& (1 : Int32)) = (0 : Int32))))), .val (.int (bI (¬ ((p0 &&& (2 : Int32)) = (0 : Int32))))), .unset, .unset, .unset, .unset, .unset, .unset, .unset, .unset, .unset, .unset] [(.int p1)])) _
    refine XS.iconst X0.here hx rfl (hb hby at_26) ?_
    show Steps p.tables e below (s₁.setTop (mkF m 27 #[.val (.int p0), .val (.int p1), .val (.int p2), .val (.int (bI (¬ ((p0 &&& (1 : Int32)) = (0 : Int32))))), .val (.int (bI (¬ ((p0 &&& (2 : Int32)) = (0 : Int32))))), .unset, .unset, .unset, .unset, .unset, .unset, .unset, .unset, .unset, .unset] [(.int (1 : Int32)), (.int p1)])) _
    refine XS.iand X0.here hx rfl (hb hby at_27) rfl ?_
    show Steps p.tables e below (s₁.setTop (mkF m 28 #[.val (.int p0), .val (.int p1), .val (.int p2), .val (.int (bI (¬ ((p0 &&& (1 : Int32)) = (0 : Int32))))), .val (.int (bI (¬ ((p0 &&& (2 : Int32)) = (0 : Int32))))), .unset, .unset, .unset, .unset, .unset, .unset, .unset, .unset, .unset, .unset] [(.int (p1 &&& (1 : Int32)))])) _
    by_cases hm28 : (p1 &&& (1 : Int32)) = (0 : Int32)
    · refine XS.ifYes X0.here hx rfl (pc0 := 28) (pc' := 35) rfl (hb hby at_28) rfl ((if0 _ _).trans (teq hm28).1) (by decide) (by decide) ?_
      show Steps p.tables e below (s₁.setTop (mkF m 35 #[.val (.int p0), .val (.int p1), .val (.int p2), .val (.int (bI (¬ ((p0 &&& (1 : Int32)) = (0 : Int32))))), .val (.int (bI (¬ ((p0 &&& (2 : Int32)) = (0 : Int32))))), .unset, .unset, .unset, .unset, .unset, .unset, .unset, .unset, .unset, .unset] [])) _
      refine XS.iconst X0.here hx rfl (hb hby at_35) ?_
      show Steps p.tables e below (s₁.setTop (mkF m 36 #[.val (.int p0), .val (.int p1), .val (.int p2), .val (.int (bI (¬ ((p0 &&& (1 : Int32)) = (0 : Int32))))), .val (.int (bI (¬ ((p0 &&& (2 : Int32)) = (0 : Int32))))), .unset, .unset, .unset, .unset, .unset, .unset, .unset, .unset, .unset, .unset] [(.int (0 : Int32))])) _
      rw [show (bI (¬ ((p1 &&& (1 : Int32)) = (0 : Int32)))) = (0 : Int32) from bI_neg (P := ¬ ((p1 &&& (1 : Int32)) = (0 : Int32))) (fun z => z hm28)] at kz
      exact kz
    · refine XS.ifNo X0.here hx rfl (hb hby at_28) rfl ((if0 _ _).trans (feq hm28).1) ?_
      show Steps p.tables e below (s₁.setTop (mkF m 31 #[.val (.int p0), .val (.int p1), .val (.int p2), .val (.int (bI (¬ ((p0 &&& (1 : Int32)) = (0 : Int32))))), .val (.int (bI (¬ ((p0 &&& (2 : Int32)) = (0 : Int32))))), .unset, .unset, .unset, .unset, .unset, .unset, .unset, .unset, .unset, .unset] [])) _
      refine XS.iconst X0.here hx rfl (hb hby at_31) ?_
      show Steps p.tables e below (s₁.setTop (mkF m 32 #[.val (.int p0), .val (.int p1), .val (.int p2), .val (.int (bI (¬ ((p0 &&& (1 : Int32)) = (0 : Int32))))), .val (.int (bI (¬ ((p0 &&& (2 : Int32)) = (0 : Int32))))), .unset, .unset, .unset, .unset, .unset, .unset, .unset, .unset, .unset, .unset] [(.int (1 : Int32))])) _
      refine XS.goto X0.here hx rfl (pc0 := 32) (pc' := 36) rfl (hb hby at_32) (by decide) (by decide) ?_
      show Steps p.tables e below (s₁.setTop (mkF m 36 #[.val (.int p0), .val (.int p1), .val (.int p2), .val (.int (bI (¬ ((p0 &&& (1 : Int32)) = (0 : Int32))))), .val (.int (bI (¬ ((p0 &&& (2 : Int32)) = (0 : Int32))))), .unset, .unset, .unset, .unset, .unset, .unset, .unset, .unset, .unset, .unset] [(.int (1 : Int32))])) _
      rw [show (bI (¬ ((p1 &&& (1 : Int32)) = (0 : Int32)))) = (1 : Int32) from bI_pos (P := ¬ ((p1 &&& (1 : Int32)) = (0 : Int32))) hm28] at kz
      exact kz
  refine OGH.step s5 ?_
  have s6 : ∀ tz, Steps p.tables e below (s₁.setTop (mkF m 38 #[.val (.int p0), .val (.int p1), .val (.int p2), .val (.int (bI (¬ ((p0 &&& (1 : Int32)) = (0 : Int32))))), .val (.int (bI (¬ ((p0 &&& (2 : Int32)) = (0 : Int32))))), .val (.int (bI (¬ ((p1 &&& (1 : Int32)) = (0 : Int32))))), .unset, .unset, .unset, .unset, .unset, .unset, .unset, .unset, .unset] [])) tz → Steps p.tables e below (s₁.setTop (mkF m 36 #[.val (.int p0), .val (.int p1), .val (.int p2), .val (.int (bI (¬ ((p0 &&& (1 : Int32)) = (0 : Int32))))), .val (.int (bI (¬ ((p0 &&& (2 : Int32)) = (0 : Int32))))), .unset, .unset, .unset, .unset, .unset, .unset, .unset, .unset, .unset, .unset] [(.int (bI (¬ ((p1 &&& (1 : Int32)) = (0 : Int32)))))])) tz := by
    intro tz kz
    refine XS.istore X0.here hx rfl (hb hby at_36) rfl (l' := #[.val (.int p0), .val (.int p1), .val (.int p2), .val (.int (bI (¬ ((p0 &&& (1 : Int32)) = (0 : Int32))))), .val (.int (bI (¬ ((p0 &&& (2 : Int32)) = (0 : Int32))))), .val (.int (bI (¬ ((p1 &&& (1 : Int32)) = (0 : Int32))))), .unset, .unset, .unset, .unset, .unset, .unset, .unset, .unset, .unset]) rfl ?_
    exact kz
  refine OGH.step s6 ?_
  have s7 : ∀ tz, Steps p.tables e below (s₁.setTop (mkF m 49 #[.val (.int p0), .val (.int p1), .val (.int p2), .val (.int (bI (¬ ((p0 &&& (1 : Int32)) = (0 : Int32))))), .val (.int (bI (¬ ((p0 &&& (2 : Int32)) = (0 : Int32))))), .val (.int (bI (¬ ((p1 &&& (1 : Int32)) = (0 : Int32))))), .unset, .unset, .unset, .unset, .unset, .unset, .unset, .unset, .unset] [(.int (bI (¬ ((p1 &&& (2 : Int32)) = (0 : Int32)))))])) tz → Steps p.tables e below (s₁.setTop (mkF m 38 #[.val (.int p0), .val (.int p1), .val (.int p2), .val (.int (bI (¬ ((p0 &&& (1 : Int32)) = (0 : Int32))))), .val (.int (bI (¬ ((p0 &&& (2 : Int32)) = (0 : Int32))))), .val (.int (bI (¬ ((p1 &&& (1 : Int32)) = (0 : Int32))))), .unset, .unset, .unset, .unset, .unset, .unset, .unset, .unset, .unset] [])) tz := by
    intro tz kz
    refine XS.iloadN X0.here hx rfl (hb hby at_38) rfl ?_
    show Steps p.tables e below (s₁.setTop (mkF m 39 #[.val (.int p0), .val (.int p1), .val (.int p2), .val (.int (bI (¬ ((p0 &&& (1 : Int32)) = (0 : Int32))))), .val (.int (bI (¬ ((p0 &&& (2 : Int32)) = (0 : Int32))))), .val (.int (bI (¬ ((p1 &&& (1 : Int32)) = (0 : Int32))))), .unset, .unset, .unset, .unset, .unset, .unset, .unset, .unset, .unset] [(.int p1)])) _
    refine XS.iconst X0.here hx rfl (hb hby at_39) ?_
    show Steps p.tables e below (s₁.setTop (mkF m 40 #[.val (.int p0), .val (.int p1), .val (.int p2), .val (.int (bI (¬ ((p0 &&& (1 : Int32)) = (0 : Int32))))), .val (.int (bI (¬ ((p0 &&& (2 : Int32)) = (0 : Int32))))), .val (.int (bI (¬ ((p1 &&& (1 : Int32)) = (0 : Int32))))), .unset, .unset, .unset, .unset, .unset, .unset, .unset, .unset, .unset] [(.int (2 : Int32)), (.int p1)])) _
    refine XS.iand X0.here hx rfl (hb hby at_40) rfl ?_
    show Steps p.tables e below (s₁.setTop (mkF m 41 #[.val (.int p0), .val (.int p1), .val (.int p2), .val (.int (bI (¬ ((p0 &&& (1 : Int32)) = (0 : Int32))))), .val (.int (bI (¬ ((p0 &&& (2 : Int32)) = (0 : Int32))))), .val (.int (bI (¬ ((p1 &&& (1 : Int32)) = (0 : Int32))))), .unset, .unset, .unset, .unset, .unset, .unset, .unset, .unset, .unset] [(.int (p1 &&& (2 : Int32)))])) _
    by_cases hm41 : (p1 &&& (2 : Int32)) = (0 : Int32)
    · refine XS.ifYes X0.here hx rfl (pc0 := 41) (pc' := 48) rfl (hb hby at_41) rfl ((if0 _ _).trans (teq hm41).1) (by decide) (by decide) ?_
      show Steps p.tables e below (s₁.setTop (mkF m 48 #[.val (.int p0), .val (.int p1), .val (.int p2), .val (.int (bI (¬ ((p0 &&& (1 : Int32)) = (0 : Int32))))), .val (.int (bI (¬ ((p0 &&& (2 : Int32)) = (0 : Int32))))), .val (.int (bI (¬ ((p1 &&& (1 : Int32)) = (0 : Int32))))), .unset, .unset, .unset, .unset, .unset, .unset, .unset, .unset, .unset] [])) _
      refine XS.iconst X0.here hx rfl (hb hby at_48) ?_
      show Steps p.tables e below (s₁.setTop (mkF m 49 #[.val (.int p0), .val (.int p1), .val (.int p2), .val (.int (bI (¬ ((p0 &&& (1 : Int32)) = (0 : Int32))))), .val (.int (bI (¬ ((p0 &&& (2 : Int32)) = (0 : Int32))))), .val (.int (bI (¬ ((p1 &&& (1 : Int32)) = (0 : Int32))))), .unset, .unset, .unset, .unset, .unset, .unset, .unset, .unset, .unset] [(.int (0 : Int32))])) _
      rw [show (bI (¬ ((p1 &&& (2 : Int32)) = (0 : Int32)))) = (0 : Int32) from bI_neg (P := ¬ ((p1 &&& (2 : Int32)) = (0 : Int32))) (fun z => z hm41)] at kz
      exact kz
    · refine XS.ifNo X0.here hx rfl (hb hby at_41) rfl ((if0 _ _).trans (feq hm41).1) ?_
      show Steps p.tables e below (s₁.setTop (mkF m 44 #[.val (.int p0), .val (.int p1), .val (.int p2), .val (.int (bI (¬ ((p0 &&& (1 : Int32)) = (0 : Int32))))), .val (.int (bI (¬ ((p0 &&& (2 : Int32)) = (0 : Int32))))), .val (.int (bI (¬ ((p1 &&& (1 : Int32)) = (0 : Int32))))), .unset, .unset, .unset, .unset, .unset, .unset, .unset, .unset, .unset] [])) _
      refine XS.iconst X0.here hx rfl (hb hby at_44) ?_
      show Steps p.tables e below (s₁.setTop (mkF m 45 #[.val (.int p0), .val (.int p1), .val (.int p2), .val (.int (bI (¬ ((p0 &&& (1 : Int32)) = (0 : Int32))))), .val (.int (bI (¬ ((p0 &&& (2 : Int32)) = (0 : Int32))))), .val (.int (bI (¬ ((p1 &&& (1 : Int32)) = (0 : Int32))))), .unset, .unset, .unset, .unset, .unset, .unset, .unset, .unset, .unset] [(.int (1 : Int32))])) _
      refine XS.goto X0.here hx rfl (pc0 := 45) (pc' := 49) rfl (hb hby at_45) (by decide) (by decide) ?_
      show Steps p.tables e below (s₁.setTop (mkF m 49 #[.val (.int p0), .val (.int p1), .val (.int p2), .val (.int (bI (¬ ((p0 &&& (1 : Int32)) = (0 : Int32))))), .val (.int (bI (¬ ((p0 &&& (2 : Int32)) = (0 : Int32))))), .val (.int (bI (¬ ((p1 &&& (1 : Int32)) = (0 : Int32))))), .unset, .unset, .unset, .unset, .unset, .unset, .unset, .unset, .unset] [(.int (1 : Int32))])) _
      rw [show (bI (¬ ((p1 &&& (2 : Int32)) = (0 : Int32)))) = (1 : Int32) from bI_pos (P := ¬ ((p1 &&& (2 : Int32)) = (0 : Int32))) hm41] at kz
      exact kz
  refine OGH.step s7 ?_
  have s8 : ∀ tz, Steps p.tables e below (s₁.setTop (mkF m 51 #[.val (.int p0), .val (.int p1), .val (.int p2), .val (.int (bI (¬ ((p0 &&& (1 : Int32)) = (0 : Int32))))), .val (.int (bI (¬ ((p0 &&& (2 : Int32)) = (0 : Int32))))), .val (.int (bI (¬ ((p1 &&& (1 : Int32)) = (0 : Int32))))), .val (.int (bI (¬ ((p1 &&& (2 : Int32)) = (0 : Int32))))), .unset, .unset, .unset, .unset, .unset, .unset, .unset, .unset] [])) tz → Steps p.tables e below (s₁.setTop (mkF m 49 #[.val (.int p0), .val (.int p1), .val (.int p2), .val (.int (bI (¬ ((p0 &&& (1 : Int32)) = (0 : Int32))))), .val (.int (bI (¬ ((p0 &&& (2 : Int32)) = (0 : Int32))))), .val (.int (bI (¬ ((p1 &&& (1 : Int32)) = (0 : Int32))))), .unset, .unset, .unset, .unset, .unset, .unset, .unset, .unset, .unset] [(.int (bI (¬ ((p1 &&& (2 : Int32)) = (0 : Int32)))))])) tz := by
    intro tz kz
    refine XS.istore X0.here hx rfl (hb hby at_49) rfl (l' := #[.val (.int p0), .val (.int p1), .val (.int p2), .val (.int (bI (¬ ((p0 &&& (1 : Int32)) = (0 : Int32))))), .val (.int (bI (¬ ((p0 &&& (2 : Int32)) = (0 : Int32))))), .val (.int (bI (¬ ((p1 &&& (1 : Int32)) = (0 : Int32))))), .val (.int (bI (¬ ((p1 &&& (2 : Int32)) = (0 : Int32))))), .unset, .unset, .unset, .unset, .unset, .unset, .unset, .unset]) rfl ?_
    exact kz
  refine OGH.step s8 ?_
  obtain ⟨T9, h9, X9, e9, E9, A9, D9, -, st9⟩ := newO X0 hx hZ hown (hw _ (List.mem_of_getElem? (i := 0) rfl)) (hw _ (List.mem_of_getElem? (i := 1) rfl)) (hw _ (List.mem_of_getElem? (i := 2) rfl)) e0 (g := (mkF m 51 #[.val (.int p0), .val (.int p1), .val (.int p2), .val (.int (bI (¬ ((p0 &&& (1 : Int32)) = (0 : Int32))))), .val (.int (bI (¬ ((p0 &&& (2 : Int32)) = (0 : Int32))))), .val (.int (bI (¬ ((p1 &&& (1 : Int32)) = (0 : Int32))))), .val (.int (bI (¬ ((p1 &&& (2 : Int32)) = (0 : Int32))))), .unset, .unset, .unset, .unset, .unset, .unset, .unset, .unset] [])) rfl (hb hby at_51) (by decide) (by decide)
  obtain ⟨b9, g9⟩ : ∃ z, z = h0.size := ⟨_, rfl⟩
  rw [← g9] at A9 D9 st9
  have sz9 : h0.size ≤ b9 := Nat.le_trans K0.1 (Nat.le_of_eq g9.symm)
  have ge9 : n0 ≤ b9 := Nat.le_trans Z0 sz9
  refine OGH.step st9 ?_
  have f10 := hOld.ext E9
  have F9_value : Fld Z h9 b9 "com/example/mergeward/mergeward/core/Identifier" "value" "Ljava/lang/String;" .null := D9 (Or.inr (hw _ (List.mem_of_getElem? (i := 54) rfl))) (ty := (.object "java/lang/String")) (by decide)
  have F9_assigningAuthority : Fld Z h9 b9 "com/example/mergeward/mergeward/core/Identifier" "assigningAuthority" "Ljava/lang/String;" .null := D9 (Or.inr (hw _ (List.mem_of_getElem? (i := 56) rfl))) (ty := (.object "java/lang/String")) (by decide)
  have F9_typeCode : Fld Z h9 b9 "com/example/mergeward/mergeward/core/Identifier" "typeCode" "Ljava/lang/String;" .null := D9 (Or.inr (hw _ (List.mem_of_getElem? (i := 58) rfl))) (ty := (.object "java/lang/String")) (by decide)
  have K9 := K0.ext E9
  have hk11 := Nat.le_trans hk0 E9.1
  have hC12 := hC0.trans (CHr.ext E9 hC0.1)
  show OGH _ _ _ _ _ _ _ _ (T9.setTop (mkF m 54 #[.val (.int p0), .val (.int p1), .val (.int p2), .val (.int (bI (¬ ((p0 &&& (1 : Int32)) = (0 : Int32))))), .val (.int (bI (¬ ((p0 &&& (2 : Int32)) = (0 : Int32))))), .val (.int (bI (¬ ((p1 &&& (1 : Int32)) = (0 : Int32))))), .val (.int (bI (¬ ((p1 &&& (2 : Int32)) = (0 : Int32))))), .unset, .unset, .unset, .unset, .unset, .unset, .unset, .unset] [(.ref b9)]))
  have s13 : ∀ tz, Steps p.tables e below (T9.setTop (mkF m 61 #[.val (.int p0), .val (.int p1), .val (.int p2), .val (.int (bI (¬ ((p0 &&& (1 : Int32)) = (0 : Int32))))), .val (.int (bI (¬ ((p0 &&& (2 : Int32)) = (0 : Int32))))), .val (.int (bI (¬ ((p1 &&& (1 : Int32)) = (0 : Int32))))), .val (.int (bI (¬ ((p1 &&& (2 : Int32)) = (0 : Int32))))), .unset, .unset, .unset, .unset, .unset, .unset, .unset, .unset] [(.int ((p2 &&& (255 : Int32)).toUInt32.toUInt16.toUInt32.toInt32)), (.ref b9), (.ref b9)])) tz → Steps p.tables e below (T9.setTop (mkF m 54 #[.val (.int p0), .val (.int p1), .val (.int p2), .val (.int (bI (¬ ((p0 &&& (1 : Int32)) = (0 : Int32))))), .val (.int (bI (¬ ((p0 &&& (2 : Int32)) = (0 : Int32))))), .val (.int (bI (¬ ((p1 &&& (1 : Int32)) = (0 : Int32))))), .val (.int (bI (¬ ((p1 &&& (2 : Int32)) = (0 : Int32))))), .unset, .unset, .unset, .unset, .unset, .unset, .unset, .unset] [(.ref b9)])) tz := by
    intro tz kz
    refine XS.dup X9.here hx rfl (hb hby at_54) rfl rfl ?_
    show Steps p.tables e below (T9.setTop (mkF m 55 #[.val (.int p0), .val (.int p1), .val (.int p2), .val (.int (bI (¬ ((p0 &&& (1 : Int32)) = (0 : Int32))))), .val (.int (bI (¬ ((p0 &&& (2 : Int32)) = (0 : Int32))))), .val (.int (bI (¬ ((p1 &&& (1 : Int32)) = (0 : Int32))))), .val (.int (bI (¬ ((p1 &&& (2 : Int32)) = (0 : Int32))))), .unset, .unset, .unset, .unset, .unset, .unset, .unset, .unset] [(.ref b9), (.ref b9)])) _
    refine XS.iloadN X9.here hx rfl (hb hby at_55) rfl ?_
    show Steps p.tables e below (T9.setTop (mkF m 56 #[.val (.int p0), .val (.int p1), .val (.int p2), .val (.int (bI (¬ ((p0 &&& (1 : Int32)) = (0 : Int32))))), .val (.int (bI (¬ ((p0 &&& (2 : Int32)) = (0 : Int32))))), .val (.int (bI (¬ ((p1 &&& (1 : Int32)) = (0 : Int32))))), .val (.int (bI (¬ ((p1 &&& (2 : Int32)) = (0 : Int32))))), .unset, .unset, .unset, .unset, .unset, .unset, .unset, .unset] [(.int p2), (.ref b9), (.ref b9)])) _
    refine XS.sipush X9.here hx rfl (hb hby at_56) ?_
    show Steps p.tables e below (T9.setTop (mkF m 59 #[.val (.int p0), .val (.int p1), .val (.int p2), .val (.int (bI (¬ ((p0 &&& (1 : Int32)) = (0 : Int32))))), .val (.int (bI (¬ ((p0 &&& (2 : Int32)) = (0 : Int32))))), .val (.int (bI (¬ ((p1 &&& (1 : Int32)) = (0 : Int32))))), .val (.int (bI (¬ ((p1 &&& (2 : Int32)) = (0 : Int32))))), .unset, .unset, .unset, .unset, .unset, .unset, .unset, .unset] [(.int (255 : Int32)), (.int p2), (.ref b9), (.ref b9)])) _
    refine XS.iand X9.here hx rfl (hb hby at_59) rfl ?_
    show Steps p.tables e below (T9.setTop (mkF m 60 #[.val (.int p0), .val (.int p1), .val (.int p2), .val (.int (bI (¬ ((p0 &&& (1 : Int32)) = (0 : Int32))))), .val (.int (bI (¬ ((p0 &&& (2 : Int32)) = (0 : Int32))))), .val (.int (bI (¬ ((p1 &&& (1 : Int32)) = (0 : Int32))))), .val (.int (bI (¬ ((p1 &&& (2 : Int32)) = (0 : Int32))))), .unset, .unset, .unset, .unset, .unset, .unset, .unset, .unset] [(.int (p2 &&& (255 : Int32))), (.ref b9), (.ref b9)])) _
    refine XS.i2c X9.here hx rfl (hb hby at_60) rfl ?_
    exact kz
  refine OGH.step s13 ?_
  obtain ⟨_, _, ⟨T14, L14, k14, n14⟩, -, X14, ⟨Lc14, hQ14, l14, y14, z14⟩, st14⟩ := Jvm.LawKit.callS X9 hx (y := (⟨"java/lang/String", "valueOf", "(C)Ljava/lang/String;"⟩ : MethodName)) hown (mvT hZ (hw _ (List.mem_of_getElem? (i := 3) rfl))) (mvT hZ (hw _ (List.mem_of_getElem? (i := 4) rfl))) (mvT hZ (hw _ (List.mem_of_getElem? (i := 5) rfl))) (mvT hZ (hw _ (List.mem_of_getElem? (i := 6) rfl))) (by decide) (backOf (W := 2) (rm1 l Z a0 hw [] ((p2 &&& (255 : Int32)).toUInt32.toUInt16.toUInt32.toInt32) wz h9 n0 (Nat.le_trans Z0 K9.1) (hS.ext f10.2) hnz (own_chr p2)) hZ (hw _ (List.mem_of_getElem? (i := 6) rfl)) (hw _ (List.mem_of_getElem? (i := 5) rfl)) (by decide) (by decide)) (g := (mkF m 61 #[.val (.int p0), .val (.int p1), .val (.int p2), .val (.int (bI (¬ ((p0 &&& (1 : Int32)) = (0 : Int32))))), .val (.int (bI (¬ ((p0 &&& (2 : Int32)) = (0 : Int32))))), .val (.int (bI (¬ ((p1 &&& (1 : Int32)) = (0 : Int32))))), .val (.int (bI (¬ ((p1 &&& (2 : Int32)) = (0 : Int32))))), .unset, .unset, .unset, .unset, .unset, .unset, .unset, .unset] [(.int ((p2 &&& (255 : Int32)).toUInt32.toUInt16.toUInt32.toInt32)), (.ref b9), (.ref b9)])) rfl (by rw [hml]; rfl) (argsL := [(.int ((p2 &&& (255 : Int32)).toUInt32.toUInt16.toUInt32.toInt32))]) (rest := [(.ref b9), (.ref b9)]) (lenOf pd__C_Ljava_lang_String_ rfl) rfl (by show 2 * 0 + _ ≤ _; exact Nat.le_of_eq rfl) (hb hby at_61) (fun _ _ => ⟨rfl, e9, (by decide : 1 + 2 ≤ _), (by decide : 3 + 5 ≤ _)⟩)
  dsimp only [Pt.U, Pt.locs, Pt.cells, Pt.slots] at X14 l14 y14 z14 st14 hQ14
  subst l14 y14 z14
  obtain ⟨s1_14, b1_14, kb_14, w1_14, rfl, N14q, Kc14, p14_0, p14_1, p14_2, u14_0, u14_1, u14_2⟩ := hQ14
  have N14 := Fr.app N0 N14q
  refine OGH.step st14 ?_
  have f15 := f10.keep Kc14 all0
  have f16 := A9.keep Kc14
  have f17 := F9_value.keep Kc14 nin0
  have f18 := F9_assigningAuthority.keep Kc14 nin0
  have f19 := F9_typeCode.keep Kc14 nin0
  have hk20 := Nat.le_trans hk11 Kc14.1
  have hC21 := hC12.trans (CHr.keep Kc14 (fun _ hx => by cases hx) hC12.1)
  have K14 := K9.trans Kc14 all0
  obtain ⟨Lz22, X14, N14⟩ : ∃ Lz, Stand p l e room_1 (s.setVm s.vm) m #[(.int p0), (.int p1), (.int p2)] below meth c T14 Lz 3 8 ∧ Fr n0 Lz := ⟨_, X14, N14⟩
  have sz14_s1_14 : h0.size ≤ s1_14 := Nat.le_trans K9.1 u14_0
  have ge14_s1_14 : n0 ≤ s1_14 := Nat.le_trans Z0 sz14_s1_14
  have ne14_b9_s1_14 : b9 ≠ s1_14 := Nat.ne_of_lt (Nat.lt_of_lt_of_le A9.lt u14_0)
  have sz14_b1_14 : h0.size ≤ b1_14 := Nat.le_trans K9.1 u14_1
  have ge14_b1_14 : n0 ≤ b1_14 := Nat.le_trans Z0 sz14_b1_14
  have ne14_b9_b1_14 : b9 ≠ b1_14 := Nat.ne_of_lt (Nat.lt_of_lt_of_le A9.lt u14_1)
  show OGH _ _ _ _ _ _ _ _ (T14.setTop (mkF m 64 #[.val (.int p0), .val (.int p1), .val (.int p2), .val (.int (bI (¬ ((p0 &&& (1 : Int32)) = (0 : Int32))))), .val (.int (bI (¬ ((p0 &&& (2 : Int32)) = (0 : Int32))))), .val (.int (bI (¬ ((p1 &&& (1 : Int32)) = (0 : Int32))))), .val (.int (bI (¬ ((p1 &&& (2 : Int32)) = (0 : Int32))))), .unset, .unset, .unset, .unset, .unset, .unset, .unset, .unset] [(.ref s1_14), (.ref b9), (.ref b9)]))
  obtain ⟨a23, T23, h23, k23, X23, e23, E23, hS23, hk23, hZ, hown, hD23, -, st23⟩ := ldcOH X14 hx hZ hown (hw _ (List.mem_of_getElem? (i := 29) rfl)) wS rfl hS0 hk20 hEL hC21.1 (g := (mkF m 64 #[.val (.int p0), .val (.int p1), .val (.int p2), .val (.int (bI (¬ ((p0 &&& (1 : Int32)) = (0 : Int32))))), .val (.int (bI (¬ ((p0 &&& (2 : Int32)) = (0 : Int32))))), .val (.int (bI (¬ ((p1 &&& (1 : Int32)) = (0 : Int32))))), .val (.int (bI (¬ ((p1 &&& (2 : Int32)) = (0 : Int32))))), .unset, .unset, .unset, .unset, .unset, .unset, .unset, .unset] [(.ref s1_14), (.ref b9), (.ref b9)])) rfl (hb hby at_64) (n := 0) (by first | decide | decide +kernel) (by decide) (by decide) (by decide)
  refine OGH.step st23 ?_
  have f24 := f15.ext E23
  have f25 := f16.ext E23
  have f26 := f17.ext E23
  have f27 := f18.ext E23
  have f28 := f19.ext E23
  have f29 := p14_0.ext E23
  have f30 := p14_1.ext E23
  have f31 := p14_2.ext E23
  have K23 := K14.ext E23
  have hC23 := hC21.trans hD23
  show OGH _ _ _ _ _ _ _ _ (T23.setTop (mkF m 66 #[.val (.int p0), .val (.int p1), .val (.int p2), .val (.int (bI (¬ ((p0 &&& (1 : Int32)) = (0 : Int32))))), .val (.int (bI (¬ ((p0 &&& (2 : Int32)) = (0 : Int32))))), .val (.int (bI (¬ ((p1 &&& (1 : Int32)) = (0 : Int32))))), .val (.int (bI (¬ ((p1 &&& (2 : Int32)) = (0 : Int32))))), .unset, .unset, .unset, .unset, .unset, .unset, .unset, .unset] [(.ref a23), (.ref s1_14), (.ref b9), (.ref b9)]))
  obtain ⟨a32, T32, h32, k32, X32, e32, E32, hS32, hk32, hZ, hown, hD32, -, st32⟩ := ldcOH X23 hx hZ hown (hw _ (List.mem_of_getElem? (i := 29) rfl)) wS e23 hS23 hk23 hEL hC23.1 (g := (mkF m 66 #[.val (.int p0), .val (.int p1), .val (.int p2), .val (.int (bI (¬ ((p0 &&& (1 : Int32)) = (0 : Int32))))), .val (.int (bI (¬ ((p0 &&& (2 : Int32)) = (0 : Int32))))), .val (.int (bI (¬ ((p1 &&& (1 : Int32)) = (0 : Int32))))), .val (.int (bI (¬ ((p1 &&& (2 : Int32)) = (0 : Int32))))), .unset, .unset, .unset, .unset, .unset, .unset, .unset, .unset] [(.ref a23), (.ref s1_14), (.ref b9), (.ref b9)])) rfl (hb hby at_66) (n := 0) (by first | decide | decide +kernel) (by decide) (by decide) (by decide)
  refine OGH.step st32 ?_
  have f33 := f24.ext E32
  have f34 := f25.ext E32
  have f35 := f26.ext E32
  have f36 := f27.ext E32
  have f37 := f28.ext E32
  have f38 := f29.ext E32
  have f39 := f30.ext E32
  have f40 := f31.ext E32
  have K32 := K23.ext E32
  have hC32 := hC23.trans hD32
  show OGH _ _ _ _ _ _ _ _ (T32.setTop (mkF m 68 #[.val (.int p0), .val (.int p1), .val (.int p2), .val (.int (bI (¬ ((p0 &&& (1 : Int32)) = (0 : Int32))))), .val (.int (bI (¬ ((p0 &&& (2 : Int32)) = (0 : Int32))))), .val (.int (bI (¬ ((p1 &&& (1 : Int32)) = (0 : Int32))))), .val (.int (bI (¬ ((p1 &&& (2 : Int32)) = (0 : Int32))))), .unset, .unset, .unset, .unset, .unset, .unset, .unset, .unset] [(.ref a32), (.ref a23), (.ref s1_14), (.ref b9), (.ref b9)]))
  obtain ⟨_, _, ⟨T41, L41, k41, n41⟩, -, X41, hSn41, hgr41, ⟨Lc41, hQ41, l41, y41, z41, hD41⟩, st41⟩ := X32.specialBackS hx (y := (⟨"com/example/mergeward/mergeward/core/Identifier", "<init>", "(Ljava/lang/String;Ljava/lang/String;Ljava/lang/String;)V"⟩ : MethodName)) rfl hown (mvT hZ (hw _ (List.mem_of_getElem? (i := 32) rfl))) (mvT hZ (hw _ (List.mem_of_getElem? (i := 33) rfl))) (mvT hZ (hw _ (List.mem_of_getElem? (i := 34) rfl))) (by decide) (backOfSH (W := 1) (rm6 l Z a0 hw [] b9 s1_14 a23 a32 .null .null .null b1_14 kb_14 w1_14 h32 n0 (Nat.le_trans Z0 K32.1) f34 f35 f36 f37 f38 f39 f40 ne14_b9_s1_14 ne14_b9_b1_14 ge9) hZ (hw _ (List.mem_of_getElem? (i := 34) rfl)) (hw _ (List.mem_of_getElem? (i := 2) rfl)) (by decide) (by decide) hEL hC32.1) (g := (mkF m 68 #[.val (.int p0), .val (.int p1), .val (.int p2), .val (.int (bI (¬ ((p0 &&& (1 : Int32)) = (0 : Int32))))), .val (.int (bI (¬ ((p0 &&& (2 : Int32)) = (0 : Int32))))), .val (.int (bI (¬ ((p1 &&& (1 : Int32)) = (0 : Int32))))), .val (.int (bI (¬ ((p1 &&& (2 : Int32)) = (0 : Int32))))), .unset, .unset, .unset, .unset, .unset, .unset, .unset, .unset] [(.ref a32), (.ref a23), (.ref s1_14), (.ref b9), (.ref b9)])) rfl (by rw [hml]; rfl) (Steps.refl _) (a := b9) (argsL := [(.ref s1_14), (.ref a23), (.ref a32)]) (rest := [(.ref b9)]) (lenOf pd__Ljava_lang_String_Ljava_lang_String_Ljava_lang_String__V rfl) rfl (by show 2 * 0 + _ ≤ _; exact Nat.le_of_eq rfl) (hb hby at_68) (fun _ _ => ⟨rfl, e32, (by decide : 7 + 6 ≤ _), (by decide : 16 + 136 ≤ _)⟩)
  dsimp only [Pt.U, Pt.locs, Pt.cells, Pt.slots] at hSn41 hgr41 hD41
  have hC41 := hC32.trans hD41
  dsimp only [Pt.U, Pt.locs, Pt.cells, Pt.slots] at X41 l41 y41 z41 st41 hQ41
  subst l41 y41 z41
  obtain ⟨rfl, N41q, Kc41⟩ := hQ41
  have N41 := Fr.app N14 N41q
  have hkT41 : _ ≤ T32.heap.size := (by rw [e32]; exact hk32)
  obtain ⟨X41, hS41, hZ, hown⟩ := rebS hS32 hkT41 X41 hSn41 hgr41 hZ hown
  refine OGH.step (fun tz kz => st41.trans kz) ?_
  have f42 := f33.keep Kc41 (allS ge9 all0)
  have f43 := f34.keep Kc41
  have f47 := f38.keep Kc41
  have f48 := f39.keep Kc41 (ninS (Ne.symm ne14_b9_s1_14) nin0)
  have f49 := f40.keep Kc41 (ninS (Ne.symm ne14_b9_b1_14) nin0)
  have K41 := K32.trans Kc41 (allS (Or.inr sz9) all0)
  obtain ⟨Lz50, X41, N41⟩ : ∃ Lz, Stand p l e room_1 (s.setVm T41.vm) m #[(.int p0), (.int p1), (.int p2)] below meth c T41 Lz 13 152 ∧ Fr n0 Lz := ⟨_, X41, N41⟩
  show OGH _ _ _ _ _ _ _ _ (T41.setTop (mkF m 71 #[.val (.int p0), .val (.int p1), .val (.int p2), .val (.int (bI (¬ ((p0 &&& (1 : Int32)) = (0 : Int32))))), .val (.int (bI (¬ ((p0 &&& (2 : Int32)) = (0 : Int32))))), .val (.int (bI (¬ ((p1 &&& (1 : Int32)) = (0 : Int32))))), .val (.int (bI (¬ ((p1 &&& (2 : Int32)) = (0 : Int32))))), .unset, .unset, .unset, .unset, .unset, .unset, .unset, .unset] [(.ref b9)]))
  have s51 : ∀ tz, Steps p.tables e below (T41.setTop (mkF m 73 #[.val (.int p0), .val (.int p1), .val (.int p2), .val (.int (bI (¬ ((p0 &&& (1 : Int32)) = (0 : Int32))))), .val (.int (bI (¬ ((p0 &&& (2 : Int32)) = (0 : Int32))))), .val (.int (bI (¬ ((p1 &&& (1 : Int32)) = (0 : Int32))))), .val (.int (bI (¬ ((p1 &&& (2 : Int32)) = (0 : Int32))))), .val (.ref b9), .unset, .unset, .unset, .unset, .unset, .unset, .unset] [])) tz → Steps p.tables e below (T41.setTop (mkF m 71 #[.val (.int p0), .val (.int p1), .val (.int p2), .val (.int (bI (¬ ((p0 &&& (1 : Int32)) = (0 : Int32))))), .val (.int (bI (¬ ((p0 &&& (2 : Int32)) = (0 : Int32))))), .val (.int (bI (¬ ((p1 &&& (1 : Int32)) = (0 : Int32))))), .val (.int (bI (¬ ((p1 &&& (2 : Int32)) = (0 : Int32))))), .unset, .unset, .unset, .unset, .unset, .unset, .unset, .unset] [(.ref b9)])) tz := by
    intro tz kz
    refine XS.astore X41.here hx rfl (hb hby at_71) rfl rfl (l' := #[.val (.int p0), .val (.int p1), .val (.int p2), .val (.int (bI (¬ ((p0 &&& (1 : Int32)) = (0 : Int32))))), .val (.int (bI (¬ ((p0 &&& (2 : Int32)) = (0 : Int32))))), .val (.int (bI (¬ ((p1 &&& (1 : Int32)) = (0 : Int32))))), .val (.int (bI (¬ ((p1 &&& (2 : Int32)) = (0 : Int32))))), .val (.ref b9), .unset, .unset, .unset, .unset, .unset, .unset, .unset]) rfl ?_
    exact kz
  refine OGH.step s51 ?_
  obtain ⟨T52, h52, X52, e52, E52, A52, D52, -, st52⟩ := newO X41 hx hZ hown (hw _ (List.mem_of_getElem? (i := 59) rfl)) (hw _ (List.mem_of_getElem? (i := 60) rfl)) (hw _ (List.mem_of_getElem? (i := 61) rfl)) rfl (g := (mkF m 73 #[.val (.int p0), .val (.int p1), .val (.int p2), .val (.int (bI (¬ ((p0 &&& (1 : Int32)) = (0 : Int32))))), .val (.int (bI (¬ ((p0 &&& (2 : Int32)) = (0 : Int32))))), .val (.int (bI (¬ ((p1 &&& (1 : Int32)) = (0 : Int32))))), .val (.int (bI (¬ ((p1 &&& (2 : Int32)) = (0 : Int32))))), .val (.ref b9), .unset, .unset, .unset, .unset, .unset, .unset, .unset] [])) rfl (hb hby at_73) (by decide) (by decide)
  obtain ⟨b52, g52⟩ : ∃ z, z = T41.heap.size := ⟨_, rfl⟩
  rw [← g52] at A52 D52 st52
  have sz52 : h0.size ≤ b52 := Nat.le_trans K41.1 (Nat.le_of_eq g52.symm)
  have ge52 : n0 ≤ b52 := Nat.le_trans Z0 sz52
  have ne52_b9 : b9 ≠ b52 := Nat.ne_of_lt (Nat.lt_of_lt_of_le f43.lt (Nat.le_of_eq g52.symm))
  have ne52_s1_14 : s1_14 ≠ b52 := Nat.ne_of_lt (Nat.lt_of_lt_of_le f47.lt (Nat.le_of_eq g52.symm))
  have ne52_b1_14 : b1_14 ≠ b52 := Nat.ne_of_lt (Nat.lt_of_lt_of_le f49.lt (Nat.le_of_eq g52.symm))
  refine OGH.step st52 ?_
  have f53 := f42.ext E52
  have f54 := f43.ext E52
  have f55 := f47.ext E52
  have f56 := f48.ext E52
  have f57 := f49.ext E52
  have F52_patient : Fld Z h52 b52 "com/example/mergeward/mergeward/core/RecordPath" "patient" "Lcom/example/mergeward/mergeward/core/Identifier;" .null := D52 (Or.inr (hw _ (List.mem_of_getElem? (i := 69) rfl))) (ty := (.object "com/example/mergeward/mergeward/core/Identifier")) (by decide)
  have F52_account : Fld Z h52 b52 "com/example/mergeward/mergeward/core/RecordPath" "account" "Lcom/example/mergeward/mergeward/core/Identifier;" .null := D52 (Or.inr (hw _ (List.mem_of_getElem? (i := 71) rfl))) (ty := (.object "com/example/mergeward/mergeward/core/Identifier")) (by decide)
  have F52_visit : Fld Z h52 b52 "com/example/mergeward/mergeward/core/RecordPath" "visit" "Lcom/example/mergeward/mergeward/core/Identifier;" .null := D52 (Or.inr (hw _ (List.mem_of_getElem? (i := 73) rfl))) (ty := (.object "com/example/mergeward/mergeward/core/Identifier")) (by decide)
  have K52 := K41.ext E52
  have hk58 := Nat.le_trans (Nat.le_refl _) E52.1
  have hC59 := hC41.trans (CHr.ext E52 hC41.1)
  show OGH _ _ _ _ _ _ _ _ (T52.setTop (mkF m 76 #[.val (.int p0), .val (.int p1), .val (.int p2), .val (.int (bI (¬ ((p0 &&& (1 : Int32)) = (0 : Int32))))), .val (.int (bI (¬ ((p0 &&& (2 : Int32)) = (0 : Int32))))), .val (.int (bI (¬ ((p1 &&& (1 : Int32)) = (0 : Int32))))), .val (.int (bI (¬ ((p1 &&& (2 : Int32)) = (0 : Int32))))), .val (.ref b9), .unset, .unset, .unset, .unset, .unset, .unset, .unset] [(.ref b52)]))
  have s60 : ∀ tz, Steps p.tables e below (T52.setTop (mkF m 79 #[.val (.int p0), .val (.int p1), .val (.int p2), .val (.int (bI (¬ ((p0 &&& (1 : Int32)) = (0 : Int32))))), .val (.int (bI (¬ ((p0 &&& (2 : Int32)) = (0 : Int32))))), .val (.int (bI (¬ ((p1 &&& (1 : Int32)) = (0 : Int32))))), .val (.int (bI (¬ ((p1 &&& (2 : Int32)) = (0 : Int32))))), .val (.ref b9), .unset, .unset, .unset, .unset, .unset, .unset, .unset] [(.ref b9), (.ref b52), (.ref b52)])) tz → Steps p.tables e below (T52.setTop (mkF m 76 #[.val (.int p0), .val (.int p1), .val (.int p2), .val (.int (bI (¬ ((p0 &&& (1 : Int32)) = (0 : Int32))))), .val (.int (bI (¬ ((p0 &&& (2 : Int32)) = (0 : Int32))))), .val (.int (bI (¬ ((p1 &&& (1 : Int32)) = (0 : Int32))))), .val (.int (bI (¬ ((p1 &&& (2 : Int32)) = (0 : Int32))))), .val (.ref b9), .unset, .unset, .unset, .unset, .unset, .unset, .unset] [(.ref b52)])) tz := by
    intro tz kz
    refine XS.dup X52.here hx rfl (hb hby at_76) rfl rfl ?_
    show Steps p.tables e below (T52.setTop (mkF m 77 #[.val (.int p0), .val (.int p1), .val (.int p2), .val (.int (bI (¬ ((p0 &&& (1 : Int32)) = (0 : Int32))))), .val (.int (bI (¬ ((p0 &&& (2 : Int32)) = (0 : Int32))))), .val (.int (bI (¬ ((p1 &&& (1 : Int32)) = (0 : Int32))))), .val (.int (bI (¬ ((p1 &&& (2 : Int32)) = (0 : Int32))))), .val (.ref b9), .unset, .unset, .unset, .unset, .unset, .unset, .unset] [(.ref b52), (.ref b52)])) _
    refine XS.aload X52.here hx rfl (hb hby at_77) rfl rfl ?_
    exact kz
  refine OGH.step s60 ?_
  have s61 : ∀ tz, Steps p.tables e below (T52.setTop (mkF m 89 #[.val (.int p0), .val (.int p1), .val (.int p2), .val (.int (bI (¬ ((p0 &&& (1 : Int32)) = (0 : Int32))))), .val (.int (bI (¬ ((p0 &&& (2 : Int32)) = (0 : Int32))))), .val (.int (bI (¬ ((p1 &&& (1 : Int32)) = (0 : Int32))))), .val (.int (bI (¬ ((p1 &&& (2 : Int32)) = (0 : Int32))))), .val (.ref b9), .unset, .unset, .unset, .unset, .unset, .unset, .unset] [(if ¬ ((p0 &&& (1 : Int32)) = (0 : Int32)) then (.ref b9) else .null), (.ref b9), (.ref b52), (.ref b52)])) tz → Steps p.tables e below (T52.setTop (mkF m 79 #[.val (.int p0), .val (.int p1), .val (.int p2), .val (.int (bI (¬ ((p0 &&& (1 : Int32)) = (0 : Int32))))), .val (.int (bI (¬ ((p0 &&& (2 : Int32)) = (0 : Int32))))), .val (.int (bI (¬ ((p1 &&& (1 : Int32)) = (0 : Int32))))), .val (.int (bI (¬ ((p1 &&& (2 : Int32)) = (0 : Int32))))), .val (.ref b9), .unset, .unset, .unset, .unset, .unset, .unset, .unset] [(.ref b9), (.ref b52), (.ref b52)])) tz := by
    intro tz kz
    refine XS.iloadN X52.here hx rfl (hb hby at_79) rfl ?_
    show Steps p.tables e below (T52.setTop (mkF m 80 #[.val (.int p0), .val (.int p1), .val (.int p2), .val (.int (bI (¬ ((p0 &&& (1 : Int32)) = (0 : Int32))))), .val (.int (bI (¬ ((p0 &&& (2 : Int32)) = (0 : Int32))))), .val (.int (bI (¬ ((p1 &&& (1 : Int32)) = (0 : Int32))))), .val (.int (bI (¬ ((p1 &&& (2 : Int32)) = (0 : Int32))))), .val (.ref b9), .unset, .unset, .unset, .unset, .unset, .unset, .unset] [(.int (bI (¬ ((p0 &&& (1 : Int32)) = (0 : Int32))))), (.ref b9), (.ref b52), (.ref b52)])) _
    by_cases hm80 : ¬ ((p0 &&& (1 : Int32)) = (0 : Int32))
    · refine XS.ifNo X52.here hx rfl (hb hby at_80) rfl ((if0 _ _).trans (feq (bI_ne0 hm80)).1) ?_
      show Steps p.tables e below (T52.setTop (mkF m 83 #[.val (.int p0), .val (.int p1), .val (.int p2), .val (.int (bI (¬ ((p0 &&& (1 : Int32)) = (0 : Int32))))), .val (.int (bI (¬ ((p0 &&& (2 : Int32)) = (0 : Int32))))), .val (.int (bI (¬ ((p1 &&& (1 : Int32)) = (0 : Int32))))), .val (.int (bI (¬ ((p1 &&& (2 : Int32)) = (0 : Int32))))), .val (.ref b9), .unset, .unset, .unset, .unset, .unset, .unset, .unset] [(.ref b9), (.ref b52), (.ref b52)])) _
      refine XS.aload X52.here hx rfl (hb hby at_83) rfl rfl ?_
      show Steps p.tables e below (T52.setTop (mkF m 85 #[.val (.int p0), .val (.int p1), .val (.int p2), .val (.int (bI (¬ ((p0 &&& (1 : Int32)) = (0 : Int32))))), .val (.int (bI (¬ ((p0 &&& (2 : Int32)) = (0 : Int32))))), .val (.int (bI (¬ ((p1 &&& (1 : Int32)) = (0 : Int32))))), .val (.int (bI (¬ ((p1 &&& (2 : Int32)) = (0 : Int32))))), .val (.ref b9), .unset, .unset, .unset, .unset, .unset, .unset, .unset] [(.ref b9), (.ref b9), (.ref b52), (.ref b52)])) _
      refine XS.goto X52.here hx rfl (pc0 := 85) (pc' := 89) rfl (hb hby at_85) (by decide) (by decide) ?_
      show Steps p.tables e below (T52.setTop (mkF m 89 #[.val (.int p0), .val (.int p1), .val (.int p2), .val (.int (bI (¬ ((p0 &&& (1 : Int32)) = (0 : Int32))))), .val (.int (bI (¬ ((p0 &&& (2 : Int32)) = (0 : Int32))))), .val (.int (bI (¬ ((p1 &&& (1 : Int32)) = (0 : Int32))))), .val (.int (bI (¬ ((p1 &&& (2 : Int32)) = (0 : Int32))))), .val (.ref b9), .unset, .unset, .unset, .unset, .unset, .unset, .unset] [(.ref b9), (.ref b9), (.ref b52), (.ref b52)])) _
      rw [show ((if ¬ ((p0 &&& (1 : Int32)) = (0 : Int32)) then (.ref b9) else .null) : Value) = (.ref b9) from (if_pos hm80)] at kz
      exact kz
    · refine XS.ifYes X52.here hx rfl (pc0 := 80) (pc' := 88) rfl (hb hby at_80) rfl ((if0 _ _).trans (teq (bI_0 hm80)).1) (by decide) (by decide) ?_
      show Steps p.tables e below (T52.setTop (mkF m 88 #[.val (.int p0), .val (.int p1), .val (.int p2), .val (.int (bI (¬ ((p0 &&& (1 : Int32)) = (0 : Int32))))), .val (.int (bI (¬ ((p0 &&& (2 : Int32)) = (0 : Int32))))), .val (.int (bI (¬ ((p1 &&& (1 : Int32)) = (0 : Int32))))), .val (.int (bI (¬ ((p1 &&& (2 : Int32)) = (0 : Int32))))), .val (.ref b9), .unset, .unset, .unset, .unset, .unset, .unset, .unset] [(.ref b9), (.ref b52), (.ref b52)])) _
      refine XS.aconstNull X52.here hx rfl (hb hby at_88) ?_
      show Steps p.tables e below (T52.setTop (mkF m 89 #[.val (.int p0), .val (.int p1), .val (.int p2), .val (.int (bI (¬ ((p0 &&& (1 : Int32)) = (0 : Int32))))), .val (.int (bI (¬ ((p0 &&& (2 : Int32)) = (0 : Int32))))), .val (.int (bI (¬ ((p1 &&& (1 : Int32)) = (0 : Int32))))), .val (.int (bI (¬ ((p1 &&& (2 : Int32)) = (0 : Int32))))), .val (.ref b9), .unset, .unset, .unset, .unset, .unset, .unset, .unset] [.null, (.ref b9), (.ref b52), (.ref b52)])) _
      rw [show ((if ¬ ((p0 &&& (1 : Int32)) = (0 : Int32)) then (.ref b9) else .null) : Value) = .null from (if_neg hm80)] at kz
      exact kz
  refine OGH.step s61 ?_
  have s62 : ∀ tz, Steps p.tables e below (T52.setTop (mkF m 100 #[.val (.int p0), .val (.int p1), .val (.int p2), .val (.int (bI (¬ ((p0 &&& (1 : Int32)) = (0 : Int32))))), .val (.int (bI (¬ ((p0 &&& (2 : Int32)) = (0 : Int32))))), .val (.int (bI (¬ ((p1 &&& (1 : Int32)) = (0 : Int32))))), .val (.int (bI (¬ ((p1 &&& (2 : Int32)) = (0 : Int32))))), .val (.ref b9), .unset, .unset, .unset, .unset, .unset, .unset, .unset] [(if ¬ ((p0 &&& (2 : Int32)) = (0 : Int32)) then (.ref b9) else .null), (if ¬ ((p0 &&& (1 : Int32)) = (0 : Int32)) then (.ref b9) else .null), (.ref b9), (.ref b52), (.ref b52)])) tz → Steps p.tables e below (T52.setTop (mkF m 89 #[.val (.int p0), .val (.int p1), .val (.int p2), .val (.int (bI (¬ ((p0 &&& (1 : Int32)) = (0 : Int32))))), .val (.int (bI (¬ ((p0 &&& (2 : Int32)) = (0 : Int32))))), .val (.int (bI (¬ ((p1 &&& (1 : Int32)) = (0 : Int32))))), .val (.int (bI (¬ ((p1 &&& (2 : Int32)) = (0 : Int32))))), .val (.ref b9), .unset, .unset, .unset, .unset, .unset, .unset, .unset] [(if ¬ ((p0 &&& (1 : Int32)) = (0 : Int32)) then (.ref b9) else .null), (.ref b9), (.ref b52), (.ref b52)])) tz := by
    intro tz kz
    refine XS.iload X52.here hx rfl (hb hby at_89) rfl ?_
    show Steps p.tables e below (T52.setTop (mkF m 91 #[.val (.int p0), .val (.int p1), .val (.int p2), .val (.int (bI (¬ ((p0 &&& (1 : Int32)) = (0 : Int32))))), .val (.int (bI (¬ ((p0 &&& (2 : Int32)) = (0 : Int32))))), .val (.int (bI (¬ ((p1 &&& (1 : Int32)) = (0 : Int32))))), .val (.int (bI (¬ ((p1 &&& (2 : Int32)) = (0 : Int32))))), .val (.ref b9), .unset, .unset, .unset, .unset, .unset, .unset, .unset] [(.int (bI (¬ ((p0 &&& (2 : Int32)) = (0 : Int32))))), (if ¬ ((p0 &&& (1 : Int32)) = (0 : Int32)) then (.ref b9) else .null), (.ref b9), (.ref b52), (.ref b52)])) _
    by_cases hm91 : ¬ ((p0 &&& (2 : Int32)) = (0 : Int32))
    · refine XS.ifNo X52.here hx rfl (hb hby at_91) rfl ((if0 _ _).trans (feq (bI_ne0 hm91)).1) ?_
      show Steps p.tables e below (T52.setTop (mkF m 94 #[.val (.int p0), .val (.int p1), .val (.int p2), .val (.int (bI (¬ ((p0 &&& (1 : Int32)) = (0 : Int32))))), .val (.int (bI (¬ ((p0 &&& (2 : Int32)) = (0 : Int32))))), .val (.int (bI (¬ ((p1 &&& (1 : Int32)) = (0 : Int32))))), .val (.int (bI (¬ ((p1 &&& (2 : Int32)) = (0 : Int32))))), .val (.ref b9), .unset, .unset, .unset, .unset, .unset, .unset, .unset] [(if ¬ ((p0 &&& (1 : Int32)) = (0 : Int32)) then (.ref b9) else .null), (.ref b9), (.ref b52), (.ref b52)])) _
      refine XS.aload X52.here hx rfl (hb hby at_94) rfl rfl ?_
      show Steps p.tables e below (T52.setTop (mkF m 96 #[.val (.int p0), .val (.int p1), .val (.int p2), .val (.int (bI (¬ ((p0 &&& (1 : Int32)) = (0 : Int32))))), .val (.int (bI (¬ ((p0 &&& (2 : Int32)) = (0 : Int32))))), .val (.int (bI (¬ ((p1 &&& (1 : Int32)) = (0 : Int32))))), .val (.int (bI (¬ ((p1 &&& (2 : Int32)) = (0 : Int32))))), .val (.ref b9), .unset, .unset, .unset, .unset, .unset, .unset, .unset] [(.ref b9), (if ¬ ((p0 &&& (1 : Int32)) = (0 : Int32)) then (.ref b9) else .null), (.ref b9), (.ref b52), (.ref b52)])) _
      refine XS.goto X52.here hx rfl (pc0 := 96) (pc' := 100) rfl (hb hby at_96) (by decide) (by decide) ?_
      show Steps p.tables e below (T52.setTop (mkF m 100 #[.val (.int p0), .val (.int p1), .val (.int p2), .val (.int (bI (¬ ((p0 &&& (1 : Int32)) = (0 : Int32))))), .val (.int (bI (¬ ((p0 &&& (2 : Int32)) = (0 : Int32))))), .val (.int (bI (¬ ((p1 &&& (1 : Int32)) = (0 : Int32))))), .val (.int (bI (¬ ((p1 &&& (2 : Int32)) = (0 : Int32))))), .val (.ref b9), .unset, .unset, .unset, .unset, .unset, .unset, .unset] [(.ref b9), (if ¬ ((p0 &&& (1 : Int32)) = (0 : Int32)) then (.ref b9) else .null), (.ref b9), (.ref b52), (.ref b52)])) _
      rw [show ((if ¬ ((p0 &&& (2 : Int32)) = (0 : Int32)) then (.ref b9) else .null) : Value) = (.ref b9) from (if_pos hm91)] at kz
      exact kz
    · refine XS.ifYes X52.here hx rfl (pc0 := 91) (pc' := 99) rfl (hb hby at_91) rfl ((if0 _ _).trans (teq (bI_0 hm91)).1) (by decide) (by decide) ?_
      show Steps p.tables e below (T52.setTop (mkF m 99 #[.val (.int p0), .val (.int p1), .val (.int p2), .val (.int (bI (¬ ((p0 &&& (1 : Int32)) = (0 : Int32))))), .val (.int (bI (¬ ((p0 &&& (2 : Int32)) = (0 : Int32))))), .val (.int (bI (¬ ((p1 &&& (1 : Int32)) = (0 : Int32))))), .val (.int (bI (¬ ((p1 &&& (2 : Int32)) = (0 : Int32))))), .val (.ref b9), .unset, .unset, .unset, .unset, .unset, .unset, .unset] [(if ¬ ((p0 &&& (1 : Int32)) = (0 : Int32)) then (.ref b9) else .null), (.ref b9), (.ref b52), (.ref b52)])) _
      refine XS.aconstNull X52.here hx rfl (hb hby at_99) ?_
      show Steps p.tables e below (T52.setTop (mkF m 100 #[.val (.int p0), .val (.int p1), .val (.int p2), .val (.int (bI (¬ ((p0 &&& (1 : Int32)) = (0 : Int32))))), .val (.int (bI (¬ ((p0 &&& (2 : Int32)) = (0 : Int32))))), .val (.int (bI (¬ ((p1 &&& (1 : Int32)) = (0 : Int32))))), .val (.int (bI (¬ ((p1 &&& (2 : Int32)) = (0 : Int32))))), .val (.ref b9), .unset, .unset, .unset, .unset, .unset, .unset, .unset] [.null, (if ¬ ((p0 &&& (1 : Int32)) = (0 : Int32)) then (.ref b9) else .null), (.ref b9), (.ref b52), (.ref b52)])) _
      rw [show ((if ¬ ((p0 &&& (2 : Int32)) = (0 : Int32)) then (.ref b9) else .null) : Value) = .null from (if_neg hm91)] at kz
      exact kz
  refine OGH.step s62 ?_
  obtain ⟨_, _, ⟨T63, L63, k63, n63⟩, -, X63, hSn63, hgr63, ⟨Lc63, hQ63, l63, y63, z63, hD63⟩, st63⟩ := X52.specialBackS hx (y := (⟨"com/example/mergeward/mergeward/core/RecordPath", "<init>", "(Lcom/example/mergeward/mergeward/core/Identifier;Lcom/example/mergeward/mergeward/core/Identifier;Lcom/example/mergeward/mergeward/core/Identifier;)V"⟩ : MethodName)) rfl hown (mvT hZ (hw _ (List.mem_of_getElem? (i := 62) rfl))) (mvT hZ (hw _ (List.mem_of_getElem? (i := 63) rfl))) (mvT hZ (hw _ (List.mem_of_getElem? (i := 64) rfl))) (by decide) (backOfSH (W := 1) (rm10 l Z a0 hw [] b52 b9 (if ¬ ((p0 &&& (1 : Int32)) = (0 : Int32)) then (.ref b9) else .null) (if ¬ ((p0 &&& (2 : Int32)) = (0 : Int32)) then (.ref b9) else .null) .null .null .null h52 n0 (Nat.le_trans Z0 K52.1) A52 F52_patient F52_account F52_visit ge52 (own_isI _ _) (own_isI _ _)) hZ (hw _ (List.mem_of_getElem? (i := 64) rfl)) (hw _ (List.mem_of_getElem? (i := 61) rfl)) (by decide) (by decide) hEL hC59.1) (g := (mkF m 100 #[.val (.int p0), .val (.int p1), .val (.int p2), .val (.int (bI (¬ ((p0 &&& (1 : Int32)) = (0 : Int32))))), .val (.int (bI (¬ ((p0 &&& (2 : Int32)) = (0 : Int32))))), .val (.int (bI (¬ ((p1 &&& (1 : Int32)) = (0 : Int32))))), .val (.int (bI (¬ ((p1 &&& (2 : Int32)) = (0 : Int32))))), .val (.ref b9), .unset, .unset, .unset, .unset, .unset, .unset, .unset] [(if ¬ ((p0 &&& (2 : Int32)) = (0 : Int32)) then (.ref b9) else .null), (if ¬ ((p0 &&& (1 : Int32)) = (0 : Int32)) then (.ref b9) else .null), (.ref b9), (.ref b52), (.ref b52)])) rfl (by rw [hml]; rfl) (Steps.refl _) (a := b52) (argsL := [(.ref b9), (if ¬ ((p0 &&& (1 : Int32)) = (0 : Int32)) then (.ref b9) else .null), (if ¬ ((p0 &&& (2 : Int32)) = (0 : Int32)) then (.ref b9) else .null)]) (rest := [(.ref b52)]) (lenOf pd__Lcom_example_mergeward_mergeward_core_Identifier_Lcom_example_mergeward_mergeward_core_Identifier_Lcom_example_mergeward_mergeward_core_Identifier__V rfl) rfl (by show 2 * 0 + _ ≤ _; exact Nat.le_of_eq rfl) (hb hby at_100) (fun _ _ => ⟨rfl, e52, (by decide : 14 + 2 ≤ _), (by decide : 155 + 32 ≤ _)⟩)
  dsimp only [Pt.U, Pt.locs, Pt.cells, Pt.slots] at hSn63 hgr63 hD63
  have hC63 := hC59.trans hD63
  dsimp only [Pt.U, Pt.locs, Pt.cells, Pt.slots] at X63 l63 y63 z63 st63 hQ63
  subst l63 y63 z63
  obtain ⟨rfl, N63q, Kc63, p63_0, p63_1⟩ := hQ63
  have N63 := Fr.app N41 N63q
  have hkT63 : _ ≤ T52.heap.size := (by rw [e52]; exact hk58)
  obtain ⟨X63, hS63, hZ, hown⟩ := rebS hS41 hkT63 X63 hSn63 hgr63 hZ hown
  refine OGH.step (fun tz kz => st63.trans kz) ?_
  have f64 := f53.keep Kc63 (allS ge52 all0)
  have f65 := f54.keep Kc63
  have f66 := f55.keep Kc63
  have f67 := f56.keep Kc63 (ninS ne52_s1_14 nin0)
  have f68 := f57.keep Kc63 (ninS ne52_b1_14 nin0)
  have f69 := A52.keep Kc63
  have K63 := K52.trans Kc63 (allS (Or.inr sz52) all0)
  obtain ⟨Lz73, X63, N63⟩ : ∃ Lz, Stand p l e room_1 (s.setVm T63.vm) m #[(.int p0), (.int p1), (.int p2)] below meth c T63 Lz 16 187 ∧ Fr n0 Lz := ⟨_, X63, N63⟩
  show OGH _ _ _ _ _ _ _ _ (T63.setTop (mkF m 103 #[.val (.int p0), .val (.int p1), .val (.int p2), .val (.int (bI (¬ ((p0 &&& (1 : Int32)) = (0 : Int32))))), .val (.int (bI (¬ ((p0 &&& (2 : Int32)) = (0 : Int32))))), .val (.int (bI (¬ ((p1 &&& (1 : Int32)) = (0 : Int32))))), .val (.int (bI (¬ ((p1 &&& (2 : Int32)) = (0 : Int32))))), .val (.ref b9), .unset, .unset, .unset, .unset, .unset, .unset, .unset] [(.ref b52)]))
  have s74 : ∀ tz, Steps p.tables e below (T63.setTop (mkF m 105 #[.val (.int p0), .val (.int p1), .val (.int p2), .val (.int (bI (¬ ((p0 &&& (1 : Int32)) = (0 : Int32))))), .val (.int (bI (¬ ((p0 &&& (2 : Int32)) = (0 : Int32))))), .val (.int (bI (¬ ((p1 &&& (1 : Int32)) = (0 : Int32))))), .val (.int (bI (¬ ((p1 &&& (2 : Int32)) = (0 : Int32))))), .val (.ref b9), .val (.ref b52), .unset, .unset, .unset, .unset, .unset, .unset] [])) tz → Steps p.tables e below (T63.setTop (mkF m 103 #[.val (.int p0), .val (.int p1), .val (.int p2), .val (.int (bI (¬ ((p0 &&& (1 : Int32)) = (0 : Int32))))), .val (.int (bI (¬ ((p0 &&& (2 : Int32)) = (0 : Int32))))), .val (.int (bI (¬ ((p1 &&& (1 : Int32)) = (0 : Int32))))), .val (.int (bI (¬ ((p1 &&& (2 : Int32)) = (0 : Int32))))), .val (.ref b9), .unset, .unset, .unset, .unset, .unset, .unset, .unset] [(.ref b52)])) tz := by
    intro tz kz
    refine XS.astore X63.here hx rfl (hb hby at_103) rfl rfl (l' := #[.val (.int p0), .val (.int p1), .val (.int p2), .val (.int (bI (¬ ((p0 &&& (1 : Int32)) = (0 : Int32))))), .val (.int (bI (¬ ((p0 &&& (2 : Int32)) = (0 : Int32))))), .val (.int (bI (¬ ((p1 &&& (1 : Int32)) = (0 : Int32))))), .val (.int (bI (¬ ((p1 &&& (2 : Int32)) = (0 : Int32))))), .val (.ref b9), .val (.ref b52), .unset, .unset, .unset, .unset, .unset, .unset]) rfl ?_
    exact kz
  refine OGH.step s74 ?_
  obtain ⟨T75, h75, X75, e75, E75, A75, D75, -, st75⟩ := newO X63 hx hZ hown (hw _ (List.mem_of_getElem? (i := 59) rfl)) (hw _ (List.mem_of_getElem? (i := 60) rfl)) (hw _ (List.mem_of_getElem? (i := 61) rfl)) rfl (g := (mkF m 105 #[.val (.int p0), .val (.int p1), .val (.int p2), .val (.int (bI (¬ ((p0 &&& (1 : Int32)) = (0 : Int32))))), .val (.int (bI (¬ ((p0 &&& (2 : Int32)) = (0 : Int32))))), .val (.int (bI (¬ ((p1 &&& (1 : Int32)) = (0 : Int32))))), .val (.int (bI (¬ ((p1 &&& (2 : Int32)) = (0 : Int32))))), .val (.ref b9), .val (.ref b52), .unset, .unset, .unset, .unset, .unset, .unset] [])) rfl (hb hby at_105) (by decide) (by decide)
  obtain ⟨b75, g75⟩ : ∃ z, z = T63.heap.size := ⟨_, rfl⟩
  rw [← g75] at A75 D75 st75
  have sz75 : h0.size ≤ b75 := Nat.le_trans K63.1 (Nat.le_of_eq g75.symm)
  have ge75 : n0 ≤ b75 := Nat.le_trans Z0 sz75
  have ne75_b9 : b9 ≠ b75 := Nat.ne_of_lt (Nat.lt_of_lt_of_le f65.lt (Nat.le_of_eq g75.symm))
  have ne75_s1_14 : s1_14 ≠ b75 := Nat.ne_of_lt (Nat.lt_of_lt_of_le f66.lt (Nat.le_of_eq g75.symm))
  have ne75_b1_14 : b1_14 ≠ b75 := Nat.ne_of_lt (Nat.lt_of_lt_of_le f68.lt (Nat.le_of_eq g75.symm))
  have ne75_b52 : b52 ≠ b75 := Nat.ne_of_lt (Nat.lt_of_lt_of_le f69.lt (Nat.le_of_eq g75.symm))
  refine OGH.step st75 ?_
  have f76 := f64.ext E75
  have f77 := f65.ext E75
  have f78 := f66.ext E75
  have f79 := f67.ext E75
  have f80 := f68.ext E75
  have f81 := f69.ext E75
  have f82 := p63_0.ext E75
  have f83 := p63_1.ext E75
  have F75_patient : Fld Z h75 b75 "com/example/mergeward/mergeward/core/RecordPath" "patient" "Lcom/example/mergeward/mergeward/core/Identifier;" .null := D75 (Or.inr (hw _ (List.mem_of_getElem? (i := 69) rfl))) (ty := (.object "com/example/mergeward/mergeward/core/Identifier")) (by decide)
  have F75_account : Fld Z h75 b75 "com/example/mergeward/mergeward/core/RecordPath" "account" "Lcom/example/mergeward/mergeward/core/Identifier;" .null := D75 (Or.inr (hw _ (List.mem_of_getElem? (i := 71) rfl))) (ty := (.object "com/example/mergeward/mergeward/core/Identifier")) (by decide)
  have F75_visit : Fld Z h75 b75 "com/example/mergeward/mergeward/core/RecordPath" "visit" "Lcom/example/mergeward/mergeward/core/Identifier;" .null := D75 (Or.inr (hw _ (List.mem_of_getElem? (i := 73) rfl))) (ty := (.object "com/example/mergeward/mergeward/core/Identifier")) (by decide)
  have K75 := K63.ext E75
  have hk84 := Nat.le_trans (Nat.le_refl _) E75.1
  have hC85 := hC63.trans (CHr.ext E75 hC63.1)
  show OGH _ _ _ _ _ _ _ _ (T75.setTop (mkF m 108 #[.val (.int p0), .val (.int p1), .val (.int p2), .val (.int (bI (¬ ((p0 &&& (1 : Int32)) = (0 : Int32))))), .val (.int (bI (¬ ((p0 &&& (2 : Int32)) = (0 : Int32))))), .val (.int (bI (¬ ((p1 &&& (1 : Int32)) = (0 : Int32))))), .val (.int (bI (¬ ((p1 &&& (2 : Int32)) = (0 : Int32))))), .val (.ref b9), .val (.ref b52), .unset, .unset, .unset, .unset, .unset, .unset] [(.ref b75)]))
  have s86 : ∀ tz, Steps p.tables e below (T75.setTop (mkF m 111 #[.val (.int p0), .val (.int p1), .val (.int p2), .val (.int (bI (¬ ((p0 &&& (1 : Int32)) = (0 : Int32))))), .val (.int (bI (¬ ((p0 &&& (2 : Int32)) = (0 : Int32))))), .val (.int (bI (¬ ((p1 &&& (1 : Int32)) = (0 : Int32))))), .val (.int (bI (¬ ((p1 &&& (2 : Int32)) = (0 : Int32))))), .val (.ref b9), .val (.ref b52), .unset, .unset, .unset, .unset, .unset, .unset] [(.ref b9), (.ref b75), (.ref b75)])) tz → Steps p.tables e below (T75.setTop (mkF m 108 #[.val (.int p0), .val (.int p1), .val (.int p2), .val (.int (bI (¬ ((p0 &&& (1 : Int32)) = (0 : Int32))))), .val (.int (bI (¬ ((p0 &&& (2 : Int32)) = (0 : Int32))))), .val (.int (bI (¬ ((p1 &&& (1 : Int32)) = (0 : Int32))))), .val (.int (bI (¬ ((p1 &&& (2 : Int32)) = (0 : Int32))))), .val (.ref b9), .val (.ref b52), .unset, .unset, .unset, .unset, .unset, .unset] [(.ref b75)])) tz := by
    intro tz kz
    refine XS.dup X75.here hx rfl (hb hby at_108) rfl rfl ?_
    show Steps p.tables e below (T75.setTop (mkF m 109 #[.val (.int p0), .val (.int p1), .val (.int p2), .val (.int (bI (¬ ((p0 &&& (1 : Int32)) = (0 : Int32))))), .val (.int (bI (¬ ((p0 &&& (2 : Int32)) = (0 : Int32))))), .val (.int (bI (¬ ((p1 &&& (1 : Int32)) = (0 : Int32))))), .val (.int (bI (¬ ((p1 &&& (2 : Int32)) = (0 : Int32))))), .val (.ref b9), .val (.ref b52), .unset, .unset, .unset, .unset, .unset, .unset] [(.ref b75), (.ref b75)])) _
    refine XS.aload X75.here hx rfl (hb hby at_109) rfl rfl ?_
    exact kz
  refine OGH.step s86 ?_
  have s87 : ∀ tz, Steps p.tables e below (T75.setTop (mkF m 122 #[.val (.int p0), .val (.int p1), .val (.int p2), .val (.int (bI (¬ ((p0 &&& (1 : Int32)) = (0 : Int32))))), .val (.int (bI (¬ ((p0 &&& (2 : Int32)) = (0 : Int32))))), .val (.int (bI (¬ ((p1 &&& (1 : Int32)) = (0 : Int32))))), .val (.int (bI (¬ ((p1 &&& (2 : Int32)) = (0 : Int32))))), .val (.ref b9), .val (.ref b52), .unset, .unset, .unset, .unset, .unset, .unset] [(if ¬ ((p1 &&& (1 : Int32)) = (0 : Int32)) then (.ref b9) else .null), (.ref b9), (.ref b75), (.ref b75)])) tz → Steps p.tables e below (T75.setTop (mkF m 111 #[.val (.int p0), .val (.int p1), .val (.int p2), .val (.int (bI (¬ ((p0 &&& (1 : Int32)) = (0 : Int32))))), .val (.int (bI (¬ ((p0 &&& (2 : Int32)) = (0 : Int32))))), .val (.int (bI (¬ ((p1 &&& (1 : Int32)) = (0 : Int32))))), .val (.int (bI (¬ ((p1 &&& (2 : Int32)) = (0 : Int32))))), .val (.ref b9), .val (.ref b52), .unset, .unset, .unset, .unset, .unset, .unset] [(.ref b9), (.ref b75), (.ref b75)])) tz := by
    intro tz kz
    refine XS.iload X75.here hx rfl (hb hby at_111) rfl ?_
    show Steps p.tables e below (T75.setTop (mkF m 113 #[.val (.int p0), .val (.int p1), .val (.int p2), .val (.int (bI (¬ ((p0 &&& (1 : Int32)) = (0 : Int32))))), .val (.int (bI (¬ ((p0 &&& (2 : Int32)) = (0 : Int32))))), .val (.int (bI (¬ ((p1 &&& (1 : Int32)) = (0 : Int32))))), .val (.int (bI (¬ ((p1 &&& (2 : Int32)) = (0 : Int32))))), .val (.ref b9), .val (.ref b52), .unset, .unset, .unset, .unset, .unset, .unset] [(.int (bI (¬ ((p1 &&& (1 : Int32)) = (0 : Int32))))), (.ref b9), (.ref b75), (.ref b75)])) _
    by_cases hm113 : ¬ ((p1 &&& (1 : Int32)) = (0 : Int32))
    · refine XS.ifNo X75.here hx rfl (hb hby at_113) rfl ((if0 _ _).trans (feq (bI_ne0 hm113)).1) ?_
      show Steps p.tables e below (T75.setTop (mkF m 116 #[.val (.int p0), .val (.int p1), .val (.int p2), .val (.int (bI (¬ ((p0 &&& (1 : Int32)) = (0 : Int32))))), .val (.int (bI (¬ ((p0 &&& (2 : Int32)) = (0 : Int32))))), .val (.int (bI (¬ ((p1 &&& (1 : Int32)) = (0 : Int32))))), .val (.int (bI (¬ ((p1 &&& (2 : Int32)) = (0 : Int32))))), .val (.ref b9), .val (.ref b52), .unset, .unset, .unset, .unset, .unset, .unset] [(.ref b9), (.ref b75), (.ref b75)])) _
      refine XS.aload X75.here hx rfl (hb hby at_116) rfl rfl ?_
      show Steps p.tables e below (T75.setTop (mkF m 118 #[.val (.int p0), .val (.int p1), .val (.int p2), .val (.int (bI (¬ ((p0 &&& (1 : Int32)) = (0 : Int32))))), .val (.int (bI (¬ ((p0 &&& (2 : Int32)) = (0 : Int32))))), .val (.int (bI (¬ ((p1 &&& (1 : Int32)) = (0 : Int32))))), .val (.int (bI (¬ ((p1 &&& (2 : Int32)) = (0 : Int32))))), .val (.ref b9), .val (.ref b52), .unset, .unset, .unset, .unset, .unset, .unset] [(.ref b9), (.ref b9), (.ref b75), (.ref b75)])) _
      refine XS.goto X75.here hx rfl (pc0 := 118) (pc' := 122) rfl (hb hby at_118) (by decide) (by decide) ?_
      show Steps p.tables e below (T75.setTop (mkF m 122 #[.val (.int p0), .val (.int p1), .val (.int p2), .val (.int (bI (¬ ((p0 &&& (1 : Int32)) = (0 : Int32))))), .val (.int (bI (¬ ((p0 &&& (2 : Int32)) = (0 : Int32))))), .val (.int (bI (¬ ((p1 &&& (1 : Int32)) = (0 : Int32))))), .val (.int (bI (¬ ((p1 &&& (2 : Int32)) = (0 : Int32))))), .val (.ref b9), .val (.ref b52), .unset, .unset, .unset, .unset, .unset, .unset] [(.ref b9), (.ref b9), (.ref b75), (.ref b75)])) _
      rw [show ((if ¬ ((p1 &&& (1 : Int32)) = (0 : Int32)) then (.ref b9) else .null) : Value) = (.ref b9) from (if_pos hm113)] at kz
      exact kz
    · refine XS.ifYes X75.here hx rfl (pc0 := 113) (pc' := 121) rfl (hb hby at_113) rfl ((if0 _ _).trans (teq (bI_0 hm113)).1) (by decide) (by decide) ?_
      show Steps p.tables e below (T75.setTop (mkF m 121 #[.val (.int p0), .val (.int p1), .val (.int p2), .val (.int (bI (¬ ((p0 &&& (1 : Int32)) = (0 : Int32))))), .val (.int (bI (¬ ((p0 &&& (2 : Int32)) = (0 : Int32))))), .val (.int (bI (¬ ((p1 &&& (1 : Int32)) = (0 : Int32))))), .val (.int (bI (¬ ((p1 &&& (2 : Int32)) = (0 : Int32))))), .val (.ref b9), .val (.ref b52), .unset, .unset, .unset, .unset, .unset, .unset] [(.ref b9), (.ref b75), (.ref b75)])) _
      refine XS.aconstNull X75.here hx rfl (hb hby at_121) ?_
      show Steps p.tables e below (T75.setTop (mkF m 122 #[.val (.int p0), .val (.int p1), .val (.int p2), .val (.int (bI (¬ ((p0 &&& (1 : Int32)) = (0 : Int32))))), .val (.int (bI (¬ ((p0 &&& (2 : Int32)) = (0 : Int32))))), .val (.int (bI (¬ ((p1 &&& (1 : Int32)) = (0 : Int32))))), .val (.int (bI (¬ ((p1 &&& (2 : Int32)) = (0 : Int32))))), .val (.ref b9), .val (.ref b52), .unset, .unset, .unset, .unset, .unset, .unset] [.null, (.ref b9), (.ref b75), (.ref b75)])) _
      rw [show ((if ¬ ((p1 &&& (1 : Int32)) = (0 : Int32)) then (.ref b9) else .null) : Value) = .null from (if_neg hm113)] at kz
      exact kz
  refine OGH.step s87 ?_
  have s88 : ∀ tz, Steps p.tables e below (T75.setTop (mkF m 133 #[.val (.int p0), .val (.int p1), .val (.int p2), .val (.int (bI (¬ ((p0 &&& (1 : Int32)) = (0 : Int32))))), .val (.int (bI (¬ ((p0 &&& (2 : Int32)) = (0 : Int32))))), .val (.int (bI (¬ ((p1 &&& (1 : Int32)) = (0 : Int32))))), .val (.int (bI (¬ ((p1 &&& (2 : Int32)) = (0 : Int32))))), .val (.ref b9), .val (.ref b52), .unset, .unset, .unset, .unset, .unset, .unset] [(if ¬ ((p1 &&& (2 : Int32)) = (0 : Int32)) then (.ref b9) else .null), (if ¬ ((p1 &&& (1 : Int32)) = (0 : Int32)) then (.ref b9) else .null), (.ref b9), (.ref b75), (.ref b75)])) tz → Steps p.tables e below (T75.setTop (mkF m 122 #[.val (.int p0), .val (.int p1), .val (.int p2), .val (.int (bI (¬ ((p0 &&& (1 : Int32)) = (0 : Int32))))), .val (.int (bI (¬ ((p0 &&& (2 : Int32)) = (0 : Int32))))), .val (.int (bI (¬ ((p1 &&& (1 : Int32)) = (0 : Int32))))), .val (.int (bI (¬ ((p1 &&& (2 : Int32)) = (0 : Int32))))), .val (.ref b9), .val (.ref b52), .unset, .unset, .unset, .unset, .unset, .unset] [(if ¬ ((p1 &&& (1 : Int32)) = (0 : Int32)) then (.ref b9) else .null), (.ref b9), (.ref b75), (.ref b75)])) tz := by
    intro tz kz
    refine XS.iload X75.here hx rfl (hb hby at_122) rfl ?_
    show Steps p.tables e below (T75.setTop (mkF m 124 #[.val (.int p0), .val (.int p1), .val (.int p2), .val (.int (bI (¬ ((p0 &&& (1 : Int32)) = (0 : Int32))))), .val (.int (bI (¬ ((p0 &&& (2 : Int32)) = (0 : Int32))))), .val (.int (bI (¬ ((p1 &&& (1 : Int32)) = (0 : Int32))))), .val (.int (bI (¬ ((p1 &&& (2 : Int32)) = (0 : Int32))))), .val (.ref b9), .val (.ref b52), .unset, .unset, .unset, .unset, .unset, .unset] [(.int (bI (¬ ((p1 &&& (2 : Int32)) = (0 : Int32))))), (if ¬ ((p1 &&& (1 : Int32)) = (0 : Int32)) then (.ref b9) else .null), (.ref b9), (.ref b75), (.ref b75)])) _
    by_cases hm124 : ¬ ((p1 &&& (2 : Int32)) = (0 : Int32))
    · refine XS.ifNo X75.here hx rfl (hb hby at_124) rfl ((if0 _ _).trans (feq (bI_ne0 hm124)).1) ?_
      show Steps p.tables e below (T75.setTop (mkF m 127 #[.val (.int p0), .val (.int p1), .val (.int p2), .val (.int (bI (¬ ((p0 &&& (1 : Int32)) = (0 : Int32))))), .val (.int (bI (¬ ((p0 &&& (2 : Int32)) = (0 : Int32))))), .val (.int (bI (¬ ((p1 &&& (1 : Int32)) = (0 : Int32))))), .val (.int (bI (¬ ((p1 &&& (2 : Int32)) = (0 : Int32))))), .val (.ref b9), .val (.ref b52), .unset, .unset, .unset, .unset, .unset, .unset] [(if ¬ ((p1 &&& (1 : Int32)) = (0 : Int32)) then (.ref b9) else .null), (.ref b9), (.ref b75), (.ref b75)])) _
      refine XS.aload X75.here hx rfl (hb hby at_127) rfl rfl ?_
      show Steps p.tables e below (T75.setTop (mkF m 129 #[.val (.int p0), .val (.int p1), .val (.int p2), .val (.int (bI (¬ ((p0 &&& (1 : Int32)) = (0 : Int32))))), .val (.int (bI (¬ ((p0 &&& (2 : Int32)) = (0 : Int32))))), .val (.int (bI (¬ ((p1 &&& (1 : Int32)) = (0 : Int32))))), .val (.int (bI (¬ ((p1 &&& (2 : Int32)) = (0 : Int32))))), .val (.ref b9), .val (.ref b52), .unset, .unset, .unset, .unset, .unset, .unset] [(.ref b9), (if ¬ ((p1 &&& (1 : Int32)) = (0 : Int32)) then (.ref b9) else .null), (.ref b9), (.ref b75), (.ref b75)])) _
      refine XS.goto X75.here hx rfl (pc0 := 129) (pc' := 133) rfl (hb hby at_129) (by decide) (by decide) ?_
      show Steps p.tables e below (T75.setTop (mkF m 133 #[.val (.int p0), .val (.int p1), .val (.int p2), .val (.int (bI (¬ ((p0 &&& (1 : Int32)) = (0 : Int32))))), .val (.int (bI (¬ ((p0 &&& (2 : Int32)) = (0 : Int32))))), .val (.int (bI (¬ ((p1 &&& (1 : Int32)) = (0 : Int32))))), .val (.int (bI (¬ ((p1 &&& (2 : Int32)) = (0 : Int32))))), .val (.ref b9), .val (.ref b52), .unset, .unset, .unset, .unset, .unset, .unset] [(.ref b9), (if ¬ ((p1 &&& (1 : Int32)) = (0 : Int32)) then (.ref b9) else .null), (.ref b9), (.ref b75), (.ref b75)])) _
      rw [show ((if ¬ ((p1 &&& (2 : Int32)) = (0 : Int32)) then (.ref b9) else .null) : Value) = (.ref b9) from (if_pos hm124)] at kz
      exact kz
    · refine XS.ifYes X75.here hx rfl (pc0 := 124) (pc' := 132) rfl (hb hby at_124) rfl ((if0 _ _).trans (teq (bI_0 hm124)).1) (by decide) (by decide) ?_
      show Steps p.tables e below (T75.setTop (mkF m 132 #[.val (.int p0), .val (.int p1), .val (.int p2), .val (.int (bI (¬ ((p0 &&& (1 : Int32)) = (0 : Int32))))), .val (.int (bI (¬ ((p0 &&& (2 : Int32)) = (0 : Int32))))), .val (.int (bI (¬ ((p1 &&& (1 : Int32)) = (0 : Int32))))), .val (.int (bI (¬ ((p1 &&& (2 : Int32)) = (0 : Int32))))), .val (.ref b9), .val (.ref b52), .unset, .unset, .unset, .unset, .unset, .unset] [(if ¬ ((p1 &&& (1 : Int32)) = (0 : Int32)) then (.ref b9) else .null), (.ref b9), (.ref b75), (.ref b75)])) _
      refine XS.aconstNull X75.here hx rfl (hb hby at_132) ?_
      show Steps p.tables e below (T75.setTop (mkF m 133 #[.val (.int p0), .val (.int p1), .val (.int p2), .val (.int (bI (¬ ((p0 &&& (1 : Int32)) = (0 : Int32))))), .val (.int (bI (¬ ((p0 &&& (2 : Int32)) = (0 : Int32))))), .val (.int (bI (¬ ((p1 &&& (1 : Int32)) = (0 : Int32))))), .val (.int (bI (¬ ((p1 &&& (2 : Int32)) = (0 : Int32))))), .val (.ref b9), .val (.ref b52), .unset, .unset, .unset, .unset, .unset, .unset] [.null, (if ¬ ((p1 &&& (1 : Int32)) = (0 : Int32)) then (.ref b9) else .null), (.ref b9), (.ref b75), (.ref b75)])) _
      rw [show ((if ¬ ((p1 &&& (2 : Int32)) = (0 : Int32)) then (.ref b9) else .null) : Value) = .null from (if_neg hm124)] at kz
      exact kz
  refine OGH.step s88 ?_
  obtain ⟨_, _, ⟨T89, L89, k89, n89⟩, -, X89, hSn89, hgr89, ⟨Lc89, hQ89, l89, y89, z89, hD89⟩, st89⟩ := X75.specialBackS hx (y := (⟨"com/example/mergeward/mergeward/core/RecordPath", "<init>", "(Lcom/example/mergeward/mergeward/core/Identifier;Lcom/example/mergeward/mergeward/core/Identifier;Lcom/example/mergeward/mergeward/core/Identifier;)V"⟩ : MethodName)) rfl hown (mvT hZ (hw _ (List.mem_of_getElem? (i := 62) rfl))) (mvT hZ (hw _ (List.mem_of_getElem? (i := 63) rfl))) (mvT hZ (hw _ (List.mem_of_getElem? (i := 64) rfl))) (by decide) (backOfSH (W := 1) (rm10 l Z a0 hw [] b75 b9 (if ¬ ((p1 &&& (1 : Int32)) = (0 : Int32)) then (.ref b9) else .null) (if ¬ ((p1 &&& (2 : Int32)) = (0 : Int32)) then (.ref b9) else .null) .null .null .null h75 n0 (Nat.le_trans Z0 K75.1) A75 F75_patient F75_account F75_visit ge75 (own_isI _ _) (own_isI _ _)) hZ (hw _ (List.mem_of_getElem? (i := 64) rfl)) (hw _ (List.mem_of_getElem? (i := 61) rfl)) (by decide) (by decide) hEL hC85.1) (g := (mkF m 133 #[.val (.int p0), .val (.int p1), .val (.int p2), .val (.int (bI (¬ ((p0 &&& (1 : Int32)) = (0 : Int32))))), .val (.int (bI (¬ ((p0 &&& (2 : Int32)) = (0 : Int32))))), .val (.int (bI (¬ ((p1 &&& (1 : Int32)) = (0 : Int32))))), .val (.int (bI (¬ ((p1 &&& (2 : Int32)) = (0 : Int32))))), .val (.ref b9), .val (.ref b52), .unset, .unset, .unset, .unset, .unset, .unset] [(if ¬ ((p1 &&& (2 : Int32)) = (0 : Int32)) then (.ref b9) else .null), (if ¬ ((p1 &&& (1 : Int32)) = (0 : Int32)) then (.ref b9) else .null), (.ref b9), (.ref b75), (.ref b75)])) rfl (by rw [hml]; rfl) (Steps.refl _) (a := b75) (argsL := [(.ref b9), (if ¬ ((p1 &&& (1 : Int32)) = (0 : Int32)) then (.ref b9) else .null), (if ¬ ((p1 &&& (2 : Int32)) = (0 : Int32)) then (.ref b9) else .null)]) (rest := [(.ref b75)]) (lenOf pd__Lcom_example_mergeward_mergeward_core_Identifier_Lcom_example_mergeward_mergeward_core_Identifier_Lcom_example_mergeward_mergeward_core_Identifier__V rfl) rfl (by show 2 * 0 + _ ≤ _; exact Nat.le_of_eq rfl) (hb hby at_133) (fun _ _ => ⟨rfl, e75, (by decide : 17 + 2 ≤ _), (by decide : 190 + 32 ≤ _)⟩)
  dsimp only [Pt.U, Pt.locs, Pt.cells, Pt.slots] at hSn89 hgr89 hD89
  have hC89 := hC85.trans hD89
  dsimp only [Pt.U, Pt.locs, Pt.cells, Pt.slots] at X89 l89 y89 z89 st89 hQ89
  subst l89 y89 z89
  obtain ⟨rfl, N89q, Kc89, p89_0, p89_1⟩ := hQ89
  have N89 := Fr.app N63 N89q
  have hkT89 : _ ≤ T75.heap.size := (by rw [e75]; exact hk84)
  obtain ⟨X89, hS89, hZ, hown⟩ := rebS hS63 hkT89 X89 hSn89 hgr89 hZ hown
  refine OGH.step (fun tz kz => st89.trans kz) ?_
  have f90 := f76.keep Kc89 (allS ge75 all0)
  have f91 := f77.keep Kc89
  have f92 := f78.keep Kc89
  have f93 := f79.keep Kc89 (ninS ne75_s1_14 nin0)
  have f94 := f80.keep Kc89 (ninS ne75_b1_14 nin0)
  have f95 := f81.keep Kc89
  have f96 := f82.keep Kc89 (ninS ne75_b52 nin0)
  have f97 := f83.keep Kc89 (ninS ne75_b52 nin0)
  have f98 := A75.keep Kc89
  have K89 := K75.trans Kc89 (allS (Or.inr sz75) all0)
  obtain ⟨Lz102, X89, N89⟩ : ∃ Lz, Stand p l e room_1 (s.setVm T89.vm) m #[(.int p0), (.int p1), (.int p2)] below meth c T89 Lz 19 222 ∧ Fr n0 Lz := ⟨_, X89, N89⟩
  show OGH _ _ _ _ _ _ _ _ (T89.setTop (mkF m 136 #[.val (.int p0), .val (.int p1), .val (.int p2), .val (.int (bI (¬ ((p0 &&& (1 : Int32)) = (0 : Int32))))), .val (.int (bI (¬ ((p0 &&& (2 : Int32)) = (0 : Int32))))), .val (.int (bI (¬ ((p1 &&& (1 : Int32)) = (0 : Int32))))), .val (.int (bI (¬ ((p1 &&& (2 : Int32)) = (0 : Int32))))), .val (.ref b9), .val (.ref b52), .unset, .unset, .unset, .unset, .unset, .unset] [(.ref b75)]))
  have s103 : ∀ tz, Steps p.tables e below (T89.setTop (mkF m 140 #[.val (.int p0), .val (.int p1), .val (.int p2), .val (.int (bI (¬ ((p0 &&& (1 : Int32)) = (0 : Int32))))), .val (.int (bI (¬ ((p0 &&& (2 : Int32)) = (0 : Int32))))), .val (.int (bI (¬ ((p1 &&& (1 : Int32)) = (0 : Int32))))), .val (.int (bI (¬ ((p1 &&& (2 : Int32)) = (0 : Int32))))), .val (.ref b9), .val (.ref b52), .val (.ref b75), .unset, .unset, .unset, .unset, .unset] [(.ref b52)])) tz → Steps p.tables e below (T89.setTop (mkF m 136 #[.val (.int p0), .val (.int p1), .val (.int p2), .val (.int (bI (¬ ((p0 &&& (1 : Int32)) = (0 : Int32))))), .val (.int (bI (¬ ((p0 &&& (2 : Int32)) = (0 : Int32))))), .val (.int (bI (¬ ((p1 &&& (1 : Int32)) = (0 : Int32))))), .val (.int (bI (¬ ((p1 &&& (2 : Int32)) = (0 : Int32))))), .val (.ref b9), .val (.ref b52), .unset, .unset, .unset, .unset, .unset, .unset] [(.ref b75)])) tz := by
    intro tz kz
    refine XS.astore X89.here hx rfl (hb hby at_136) rfl rfl (l' := #[.val (.int p0), .val (.int p1), .val (.int p2), .val (.int (bI (¬ ((p0 &&& (1 : Int32)) = (0 : Int32))))), .val (.int (bI (¬ ((p0 &&& (2 : Int32)) = (0 : Int32))))), .val (.int (bI (¬ ((p1 &&& (1 : Int32)) = (0 : Int32))))), .val (.int (bI (¬ ((p1 &&& (2 : Int32)) = (0 : Int32))))), .val (.ref b9), .val (.ref b52), .val (.ref b75), .unset, .unset, .unset, .unset, .unset]) rfl ?_
    show Steps p.tables e below (T89.setTop (mkF m 138 #[.val (.int p0), .val (.int p1), .val (.int p2), .val (.int (bI (¬ ((p0 &&& (1 : Int32)) = (0 : Int32))))), .val (.int (bI (¬ ((p0 &&& (2 : Int32)) = (0 : Int32))))), .val (.int (bI (¬ ((p1 &&& (1 : Int32)) = (0 : Int32))))), .val (.int (bI (¬ ((p1 &&& (2 : Int32)) = (0 : Int32))))), .val (.ref b9), .val (.ref b52), .val (.ref b75), .unset, .unset, .unset, .unset, .unset] [])) _
    refine XS.aload X89.here hx rfl (hb hby at_138) rfl rfl ?_
    exact kz
  refine OGH.step s103 ?_
  obtain ⟨cq104, kq104, q104a, q104b, q104c⟩ := isOf hZ rfl f95
  obtain ⟨_, _, ⟨T104, L104, k104, n104⟩, -, X104, hSn104, hgr104, ⟨Lc104, hQ104, l104, y104, z104, hD104⟩, st104⟩ := X89.virtualBackS hx (y := (⟨"com/example/mergeward/mergeward/core/RecordPath", "level", "()Ljava/lang/String;"⟩ : MethodName)) (z := (⟨"com/example/mergeward/mergeward/core/RecordPath", "level", "()Ljava/lang/String;"⟩ : MethodName)) hown (mvT hZ (hw _ (List.mem_of_getElem? (i := 74) rfl))) (mvT hZ (hw _ (List.mem_of_getElem? (i := 75) rfl))) (notFace_of_selects (args := #[]) (mvT hZ (hw _ (List.mem_of_getElem? (i := 77) rfl)))) (mvT hZ (hw _ (List.mem_of_getElem? (i := 77) rfl))) (mvT hZ (hw _ (List.mem_of_getElem? (i := 76) rfl))) (by decide) (backOfSH (W := 0) (rm11 l Z a0 hw [] b52 (if ¬ ((p0 &&& (2 : Int32)) = (0 : Int32)) then (.ref b9) else .null) (if ¬ ((p0 &&& (1 : Int32)) = (0 : Int32)) then (.ref b9) else .null) T89.heap n0 (Nat.le_trans Z0 K89.1) f97 f96 (own_irI _ _) (own_irI _ _)) hZ (hw _ (List.mem_of_getElem? (i := 78) rfl)) (hw _ (List.mem_of_getElem? (i := 61) rfl)) (by decide) (by decide) hEL hC89.1) q104a q104c (g := (mkF m 140 #[.val (.int p0), .val (.int p1), .val (.int p2), .val (.int (bI (¬ ((p0 &&& (1 : Int32)) = (0 : Int32))))), .val (.int (bI (¬ ((p0 &&& (2 : Int32)) = (0 : Int32))))), .val (.int (bI (¬ ((p1 &&& (1 : Int32)) = (0 : Int32))))), .val (.int (bI (¬ ((p1 &&& (2 : Int32)) = (0 : Int32))))), .val (.ref b9), .val (.ref b52), .val (.ref b75), .unset, .unset, .unset, .unset, .unset] [(.ref b52)])) rfl (by rw [hml]; rfl) (Steps.refl _) (argsL := []) (rest := []) (lenOf pd___Ljava_lang_String_ rfl) rfl (by show 2 * 0 + _ ≤ _; exact Nat.le_of_eq rfl) (hb hby at_140) (fun _ _ => ⟨rfl, rfl, (by decide : 19 + 2 ≤ _), (by decide : 222 + 32 ≤ _)⟩)
  dsimp only [Pt.U, Pt.locs, Pt.cells, Pt.slots] at hSn104 hgr104 hD104
  have hC104 := hC89.trans hD104
  dsimp only [Pt.U, Pt.locs, Pt.cells, Pt.slots] at X104 l104 y104 z104 st104 hQ104
  subst l104 y104 z104
  obtain ⟨s1_104, b1_104, kb_104, rfl, N104q, Kc104, p104_0, p104_1, p104_2, p104_3⟩ := hQ104
  have N104 := Fr.app N89 N104q
  have hkT104 : _ ≤ T89.heap.size := (Nat.le_refl _)
  obtain ⟨X104, hS104, hZ, hown⟩ := rebS hS89 hkT104 X104 hSn104 hgr104 hZ hown
  refine OGH.step (fun tz kz => st104.trans kz) ?_
  have f105 := f90.keep Kc104 all0
  have f106 := f91.keep Kc104
  have f107 := f92.keep Kc104
  have f108 := f93.keep Kc104 nin0
  have f109 := f94.keep Kc104 nin0
  have f110 := f95.keep Kc104
  have f111 := f96.keep Kc104 nin0
  have f112 := f97.keep Kc104 nin0
  have f113 := f98.keep Kc104
  have f114 := p89_0.keep Kc104 nin0
  have f115 := p89_1.keep Kc104 nin0
  have K104 := K89.trans Kc104 all0
  obtain ⟨Lz116, X104, N104⟩ : ∃ Lz, Stand p l e room_1 (s.setVm T104.vm) m #[(.int p0), (.int p1), (.int p2)] below meth c T104 Lz 21 254 ∧ Fr n0 Lz := ⟨_, X104, N104⟩
  show OGH _ _ _ _ _ _ _ _ (T104.setTop (mkF m 143 #[.val (.int p0), .val (.int p1), .val (.int p2), .val (.int (bI (¬ ((p0 &&& (1 : Int32)) = (0 : Int32))))), .val (.int (bI (¬ ((p0 &&& (2 : Int32)) = (0 : Int32))))), .val (.int (bI (¬ ((p1 &&& (1 : Int32)) = (0 : Int32))))), .val (.int (bI (¬ ((p1 &&& (2 : Int32)) = (0 : Int32))))), .val (.ref b9), .val (.ref b52), .val (.ref b75), .unset, .unset, .unset, .unset, .unset] [(.ref s1_104)]))
  have s117 : ∀ tz, Steps p.tables e below (T104.setTop (mkF m 147 #[.val (.int p0), .val (.int p1), .val (.int p2), .val (.int (bI (¬ ((p0 &&& (1 : Int32)) = (0 : Int32))))), .val (.int (bI (¬ ((p0 &&& (2 : Int32)) = (0 : Int32))))), .val (.int (bI (¬ ((p1 &&& (1 : Int32)) = (0 : Int32))))), .val (.int (bI (¬ ((p1 &&& (2 : Int32)) = (0 : Int32))))), .val (.ref b9), .val (.ref b52), .val (.ref b75), .val (.ref s1_104), .unset, .unset, .unset, .unset] [(.ref b75)])) tz → Steps p.tables e below (T104.setTop (mkF m 143 #[.val (.int p0), .val (.int p1), .val (.int p2), .val (.int (bI (¬ ((p0 &&& (1 : Int32)) = (0 : Int32))))), .val (.int (bI (¬ ((p0 &&& (2 : Int32)) = (0 : Int32))))), .val (.int (bI (¬ ((p1 &&& (1 : Int32)) = (0 : Int32))))), .val (.int (bI (¬ ((p1 &&& (2 : Int32)) = (0 : Int32))))), .val (.ref b9), .val (.ref b52), .val (.ref b75), .unset, .unset, .unset, .unset, .unset] [(.ref s1_104)])) tz := by
    intro tz kz
    refine XS.astore X104.here hx rfl (hb hby at_143) rfl rfl (l' := #[.val (.int p0), .val (.int p1), .val (.int p2), .val (.int (bI (¬ ((p0 &&& (1 : Int32)) = (0 : Int32))))), .val (.int (bI (¬ ((p0 &&& (2 : Int32)) = (0 : Int32))))), .val (.int (bI (¬ ((p1 &&& (1 : Int32)) = (0 : Int32))))), .val (.int (bI (¬ ((p1 &&& (2 : Int32)) = (0 : Int32))))), .val (.ref b9), .val (.ref b52), .val (.ref b75), .val (.ref s1_104), .unset, .unset, .unset, .unset]) rfl ?_
    show Steps p.tables e below (T104.setTop (mkF m 145 #[.val (.int p0), .val (.int p1), .val (.int p2), .val (.int (bI (¬ ((p0 &&& (1 : Int32)) = (0 : Int32))))), .val (.int (bI (¬ ((p0 &&& (2 : Int32)) = (0 : Int32))))), .val (.int (bI (¬ ((p1 &&& (1 : Int32)) = (0 : Int32))))), .val (.int (bI (¬ ((p1 &&& (2 : Int32)) = (0 : Int32))))), .val (.ref b9), .val (.ref b52), .val (.ref b75), .val (.ref s1_104), .unset, .unset, .unset, .unset] [])) _
    refine XS.aload X104.here hx rfl (hb hby at_145) rfl rfl ?_
    exact kz
  refine OGH.step s117 ?_
  obtain ⟨cq118, kq118, q118a, q118b, q118c⟩ := isOf hZ rfl f113
  obtain ⟨_, _, ⟨T118, L118, k118, n118⟩, -, X118, hSn118, hgr118, ⟨Lc118, hQ118, l118, y118, z118, hD118⟩, st118⟩ := X104.virtualBackS hx (y := (⟨"com/example/mergeward/mergeward/core/RecordPath", "level", "()Ljava/lang/String;"⟩ : MethodName)) (z := (⟨"com/example/mergeward/mergeward/core/RecordPath", "level", "()Ljava/lang/String;"⟩ : MethodName)) hown (mvT hZ (hw _ (List.mem_of_getElem? (i := 74) rfl))) (mvT hZ (hw _ (List.mem_of_getElem? (i := 75) rfl))) (notFace_of_selects (args := #[]) (mvT hZ (hw _ (List.mem_of_getElem? (i := 77) rfl)))) (mvT hZ (hw _ (List.mem_of_getElem? (i := 77) rfl))) (mvT hZ (hw _ (List.mem_of_getElem? (i := 76) rfl))) (by decide) (backOfSH (W := 0) (rm11 l Z a0 hw [] b75 (if ¬ ((p1 &&& (2 : Int32)) = (0 : Int32)) then (.ref b9) else .null) (if ¬ ((p1 &&& (1 : Int32)) = (0 : Int32)) then (.ref b9) else .null) T104.heap n0 (Nat.le_trans Z0 K104.1) f115 f114 (own_irI _ _) (own_irI _ _)) hZ (hw _ (List.mem_of_getElem? (i := 78) rfl)) (hw _ (List.mem_of_getElem? (i := 61) rfl)) (by decide) (by decide) hEL hC104.1) q118a q118c (g := (mkF m 147 #[.val (.int p0), .val (.int p1), .val (.int p2), .val (.int (bI (¬ ((p0 &&& (1 : Int32)) = (0 : Int32))))), .val (.int (bI (¬ ((p0 &&& (2 : Int32)) = (0 : Int32))))), .val (.int (bI (¬ ((p1 &&& (1 : Int32)) = (0 : Int32))))), .val (.int (bI (¬ ((p1 &&& (2 : Int32)) = (0 : Int32))))), .val (.ref b9), .val (.ref b52), .val (.ref b75), .val (.ref s1_104), .unset, .unset, .unset, .unset] [(.ref b75)])) rfl (by rw [hml]; rfl) (Steps.refl _) (argsL := []) (rest := []) (lenOf pd___Ljava_lang_String_ rfl) rfl (by show 2 * 0 + _ ≤ _; exact Nat.le_of_eq rfl) (hb hby at_147) (fun _ _ => ⟨rfl, rfl, (by decide : 21 + 2 ≤ _), (by decide : 254 + 32 ≤ _)⟩)
  dsimp only [Pt.U, Pt.locs, Pt.cells, Pt.slots] at hSn118 hgr118 hD118
  have hC118 := hC104.trans hD118
  dsimp only [Pt.U, Pt.locs, Pt.cells, Pt.slots] at X118 l118 y118 z118 st118 hQ118
  subst l118 y118 z118
  obtain ⟨s1_118, b1_118, kb_118, rfl, N118q, Kc118, p118_0, p118_1, p118_2, p118_3⟩ := hQ118
  have N118 := Fr.app N104 N118q
  have hkT118 : _ ≤ T104.heap.size := (Nat.le_refl _)
  obtain ⟨X118, hS118, hZ, hown⟩ := rebS hS104 hkT118 X118 hSn118 hgr118 hZ hown
  refine OGH.step (fun tz kz => st118.trans kz) ?_
  have f119 := f105.keep Kc118 all0
  have f120 := f106.keep Kc118
  have f121 := f107.keep Kc118
  have f122 := f108.keep Kc118 nin0
  have f123 := f109.keep Kc118 nin0
  have f124 := f110.keep Kc118
  have f125 := f111.keep Kc118 nin0
  have f126 := f112.keep Kc118 nin0
  have f127 := f113.keep Kc118
  have f128 := f114.keep Kc118 nin0
  have f129 := f115.keep Kc118 nin0
  have f130 := p104_0.keep Kc118
  have f131 := p104_1.keep Kc118 nin0
  have f132 := p104_2.keep Kc118 nin0
  have f133 := p104_3.keep Kc118 nin0
  have K118 := K104.trans Kc118 all0
  obtain ⟨Lz134, X118, N118⟩ : ∃ Lz, Stand p l e room_1 (s.setVm T118.vm) m #[(.int p0), (.int p1), (.int p2)] below meth c T118 Lz 23 286 ∧ Fr n0 Lz := ⟨_, X118, N118⟩
  show OGH _ _ _ _ _ _ _ _ (T118.setTop (mkF m 150 #[.val (.int p0), .val (.int p1), .val (.int p2), .val (.int (bI (¬ ((p0 &&& (1 : Int32)) = (0 : Int32))))), .val (.int (bI (¬ ((p0 &&& (2 : Int32)) = (0 : Int32))))), .val (.int (bI (¬ ((p1 &&& (1 : Int32)) = (0 : Int32))))), .val (.int (bI (¬ ((p1 &&& (2 : Int32)) = (0 : Int32))))), .val (.ref b9), .val (.ref b52), .val (.ref b75), .val (.ref s1_104), .unset, .unset, .unset, .unset] [(.ref s1_118)]))
  have s135 : ∀ tz, Steps p.tables e below (T118.setTop (mkF m 157 #[.val (.int p0), .val (.int p1), .val (.int p2), .val (.int (bI (¬ ((p0 &&& (1 : Int32)) = (0 : Int32))))), .val (.int (bI (¬ ((p0 &&& (2 : Int32)) = (0 : Int32))))), .val (.int (bI (¬ ((p1 &&& (1 : Int32)) = (0 : Int32))))), .val (.int (bI (¬ ((p1 &&& (2 : Int32)) = (0 : Int32))))), .val (.ref b9), .val (.ref b52), .val (.ref b75), .val (.ref s1_104), .val (.ref s1_118), .unset, .unset, .unset] [(.int (bI (¬ ((p0 &&& (2 : Int32)) = (0 : Int32))))), (.int (bI (¬ ((p0 &&& (1 : Int32)) = (0 : Int32))))), (.ref s1_104)])) tz → Steps p.tables e below (T118.setTop (mkF m 150 #[.val (.int p0), .val (.int p1), .val (.int p2), .val (.int (bI (¬ ((p0 &&& (1 : Int32)) = (0 : Int32))))), .val (.int (bI (¬ ((p0 &&& (2 : Int32)) = (0 : Int32))))), .val (.int (bI (¬ ((p1 &&& (1 : Int32)) = (0 : Int32))))), .val (.int (bI (¬ ((p1 &&& (2 : Int32)) = (0 : Int32))))), .val (.ref b9), .val (.ref b52), .val (.ref b75), .val (.ref s1_104), .unset, .unset, .unset, .unset] [(.ref s1_118)])) tz := by
    intro tz kz
    refine XS.astore X118.here hx rfl (hb hby at_150) rfl rfl (l' := #[.val (.int p0), .val (.int p1), .val (.int p2), .val (.int (bI (¬ ((p0 &&& (1 : Int32)) = (0 : Int32))))), .val (.int (bI (¬ ((p0 &&& (2 : Int32)) = (0 : Int32))))), .val (.int (bI (¬ ((p1 &&& (1 : Int32)) = (0 : Int32))))), .val (.int (bI (¬ ((p1 &&& (2 : Int32)) = (0 : Int32))))), .val (.ref b9), .val (.ref b52), .val (.ref b75), .val (.ref s1_104), .val (.ref s1_118), .unset, .unset, .unset]) rfl ?_
    show Steps p.tables e below (T118.setTop (mkF m 152 #[.val (.int p0), .val (.int p1), .val (.int p2), .val (.int (bI (¬ ((p0 &&& (1 : Int32)) = (0 : Int32))))), .val (.int (bI (¬ ((p0 &&& (2 : Int32)) = (0 : Int32))))), .val (.int (bI (¬ ((p1 &&& (1 : Int32)) = (0 : Int32))))), .val (.int (bI (¬ ((p1 &&& (2 : Int32)) = (0 : Int32))))), .val (.ref b9), .val (.ref b52), .val (.ref b75), .val (.ref s1_104), .val (.ref s1_118), .unset, .unset, .unset] [])) _
    refine XS.aload X118.here hx rfl (hb hby at_152) rfl rfl ?_
    show Steps p.tables e below (T118.setTop (mkF m 154 #[.val (.int p0), .val (.int p1), .val (.int p2), .val (.int (bI (¬ ((p0 &&& (1 : Int32)) = (0 : Int32))))), .val (.int (bI (¬ ((p0 &&& (2 : Int32)) = (0 : Int32))))), .val (.int (bI (¬ ((p1 &&& (1 : Int32)) = (0 : Int32))))), .val (.int (bI (¬ ((p1 &&& (2 : Int32)) = (0 : Int32))))), .val (.ref b9), .val (.ref b52), .val (.ref b75), .val (.ref s1_104), .val (.ref s1_118), .unset, .unset, .unset] [(.ref s1_104)])) _
    refine XS.iloadN X118.here hx rfl (hb hby at_154) rfl ?_
    show Steps p.tables e below (T118.setTop (mkF m 155 #[.val (.int p0), .val (.int p1), .val (.int p2), .val (.int (bI (¬ ((p0 &&& (1 : Int32)) = (0 : Int32))))), .val (.int (bI (¬ ((p0 &&& (2 : Int32)) = (0 : Int32))))), .val (.int (bI (¬ ((p1 &&& (1 : Int32)) = (0 : Int32))))), .val (.int (bI (¬ ((p1 &&& (2 : Int32)) = (0 : Int32))))), .val (.ref b9), .val (.ref b52), .val (.ref b75), .val (.ref s1_104), .val (.ref s1_118), .unset, .unset, .unset] [(.int (bI (¬ ((p0 &&& (1 : Int32)) = (0 : Int32))))), (.ref s1_104)])) _
    refine XS.iload X118.here hx rfl (hb hby at_155) rfl ?_
    exact kz
  refine OGH.step s135 ?_
  obtain ⟨_, _, ⟨T136, L136, k136, n136⟩, -, X136, hSn136, hgr136, ⟨Lc136, hQ136, l136, y136, z136, hD136⟩, st136⟩ := Jvm.RoadKit.callSS X118 hx (y := (⟨"com/example/mergeward/mergeward/core/RecordPathLevelPinLaw", "expected", "(ZZ)Ljava/lang/String;"⟩ : MethodName)) hown (mvT hZ (hw _ (List.mem_of_getElem? (i := 80) rfl))) (mvT hZ (hw _ (List.mem_of_getElem? (i := 81) rfl))) (mvT hZ (hw _ (List.mem_of_getElem? (i := 82) rfl))) (mvT hZ (hw _ (List.mem_of_getElem? (i := 83) rfl))) (by decide) (backOfSH (W := 1) (rm12 l Z a0 hw [] (bI (¬ ((p0 &&& (1 : Int32)) = (0 : Int32)))) (bI (¬ ((p0 &&& (2 : Int32)) = (0 : Int32)))) T118.heap n0 (Nat.le_trans Z0 K118.1)) hZ (hw _ (List.mem_of_getElem? (i := 83) rfl)) (hw _ (List.mem_of_getElem? (i := 82) rfl)) (by decide) (by decide) hEL hC118.1) (g := (mkF m 157 #[.val (.int p0), .val (.int p1), .val (.int p2), .val (.int (bI (¬ ((p0 &&& (1 : Int32)) = (0 : Int32))))), .val (.int (bI (¬ ((p0 &&& (2 : Int32)) = (0 : Int32))))), .val (.int (bI (¬ ((p1 &&& (1 : Int32)) = (0 : Int32))))), .val (.int (bI (¬ ((p1 &&& (2 : Int32)) = (0 : Int32))))), .val (.ref b9), .val (.ref b52), .val (.ref b75), .val (.ref s1_104), .val (.ref s1_118), .unset, .unset, .unset] [(.int (bI (¬ ((p0 &&& (2 : Int32)) = (0 : Int32))))), (.int (bI (¬ ((p0 &&& (1 : Int32)) = (0 : Int32))))), (.ref s1_104)])) rfl (by rw [hml]; rfl) (argsL := [(.int (bI (¬ ((p0 &&& (1 : Int32)) = (0 : Int32))))), (.int (bI (¬ ((p0 &&& (2 : Int32)) = (0 : Int32)))))]) (rest := [(.ref s1_104)]) (lenOf pd__ZZ_Ljava_lang_String_ rfl) rfl (by show 2 * 0 + _ ≤ _; exact Nat.le_of_eq rfl) (hb hby at_157) (fun _ _ => ⟨rfl, rfl, (by decide : 23 + 2 ≤ _), (by decide : 286 + 32 ≤ _)⟩)
  dsimp only [Pt.U, Pt.locs, Pt.cells, Pt.slots] at hSn136 hgr136 hD136
  have hC136 := hC118.trans hD136
  dsimp only [Pt.U, Pt.locs, Pt.cells, Pt.slots] at X136 l136 y136 z136 st136 hQ136
  subst l136 y136 z136
  obtain ⟨s1_136, b1_136, kb_136, rfl, N136q, Kc136, p136_0, p136_1, p136_2, p136_3⟩ := hQ136
  have N136 := Fr.app N118 N136q
  have hkT136 : _ ≤ T118.heap.size := (Nat.le_refl _)
  obtain ⟨X136, hS136, hZ, hown⟩ := rebS hS118 hkT136 X136 hSn136 hgr136 hZ hown
  refine OGH.step (fun tz kz => st136.trans kz) ?_
  have f137 := f119.keep Kc136 all0
  have f138 := f120.keep Kc136
  have f139 := f121.keep Kc136
  have f140 := f122.keep Kc136 nin0
  have f141 := f123.keep Kc136 nin0
  have f142 := f124.keep Kc136
  have f143 := f125.keep Kc136 nin0
  have f144 := f126.keep Kc136 nin0
  have f145 := f127.keep Kc136
  have f146 := f128.keep Kc136 nin0
  have f147 := f129.keep Kc136 nin0
  have f148 := f130.keep Kc136
  have f149 := f131.keep Kc136 nin0
  have f150 := f132.keep Kc136 nin0
  have f151 := f133.keep Kc136 nin0
  have f152 := p118_0.keep Kc136
  have f153 := p118_1.keep Kc136 nin0
  have f154 := p118_2.keep Kc136 nin0
  have f155 := p118_3.keep Kc136 nin0
  have K136 := K118.trans Kc136 all0
  obtain ⟨Lz156, X136, N136⟩ : ∃ Lz, Stand p l e room_1 (s.setVm T136.vm) m #[(.int p0), (.int p1), (.int p2)] below meth c T136 Lz 25 318 ∧ Fr n0 Lz := ⟨_, X136, N136⟩
  show OGH _ _ _ _ _ _ _ _ (T136.setTop (mkF m 160 #[.val (.int p0), .val (.int p1), .val (.int p2), .val (.int (bI (¬ ((p0 &&& (1 : Int32)) = (0 : Int32))))), .val (.int (bI (¬ ((p0 &&& (2 : Int32)) = (0 : Int32))))), .val (.int (bI (¬ ((p1 &&& (1 : Int32)) = (0 : Int32))))), .val (.int (bI (¬ ((p1 &&& (2 : Int32)) = (0 : Int32))))), .val (.ref b9), .val (.ref b52), .val (.ref b75), .val (.ref s1_104), .val (.ref s1_118), .unset, .unset, .unset] [(.ref s1_136), (.ref s1_104)]))
  obtain ⟨cq157, kq157, q157a, q157b, q157c⟩ := isOf hZ rfl f148
  obtain ⟨_, _, ⟨T157, L157, k157, n157⟩, -, X157, ⟨Lc157, hQ157, l157, y157, z157⟩, st157⟩ := X136.virtualBack hx (y := (⟨"java/lang/String", "equals", "(Ljava/lang/Object;)Z"⟩ : MethodName)) (z := (⟨"java/lang/String", "equals", "(Ljava/lang/Object;)Z"⟩ : MethodName)) hown (mvT hZ (hw _ (List.mem_of_getElem? (i := 85) rfl))) (mvT hZ (hw _ (List.mem_of_getElem? (i := 86) rfl))) (notFace_of_selects (args := #[]) (mvT hZ (hw _ (List.mem_of_getElem? (i := 88) rfl)))) (mvT hZ (hw _ (List.mem_of_getElem? (i := 88) rfl))) (mvT hZ (hw _ (List.mem_of_getElem? (i := 87) rfl))) (by decide) (backOf (W := 0) (rm13 l Z a0 hw [] s1_104 s1_136 b1_104 kb_104 b1_136 kb_136 (own_l (if ¬ ((p0 &&& (2 : Int32)) = (0 : Int32)) then (.ref b9) else .null) (if ¬ ((p0 &&& (1 : Int32)) = (0 : Int32)) then (.ref b9) else .null)) (own_e (bI (¬ ((p0 &&& (1 : Int32)) = (0 : Int32)))) (bI (¬ ((p0 &&& (2 : Int32)) = (0 : Int32))))) wz T136.heap n0 (Nat.le_trans Z0 K136.1) f149 f150 f151 p136_0 p136_1 p136_2 p136_3 (own_l3 _ _) (own_e3 _ _) (hS.ext f137.2) hnz) hZ (hw _ (List.mem_of_getElem? (i := 89) rfl)) (hw _ (List.mem_of_getElem? (i := 5) rfl)) (by decide) (by decide)) q157a q157c (g := (mkF m 160 #[.val (.int p0), .val (.int p1), .val (.int p2), .val (.int (bI (¬ ((p0 &&& (1 : Int32)) = (0 : Int32))))), .val (.int (bI (¬ ((p0 &&& (2 : Int32)) = (0 : Int32))))), .val (.int (bI (¬ ((p1 &&& (1 : Int32)) = (0 : Int32))))), .val (.int (bI (¬ ((p1 &&& (2 : Int32)) = (0 : Int32))))), .val (.ref b9), .val (.ref b52), .val (.ref b75), .val (.ref s1_104), .val (.ref s1_118), .unset, .unset, .unset] [(.ref s1_136), (.ref s1_104)])) rfl (by rw [hml]; rfl) (Steps.refl _) (argsL := [(.ref s1_136)]) (rest := []) (lenOf pd__Ljava_lang_Object__Z rfl) rfl (by show 2 * 0 + _ ≤ _; exact Nat.le_of_eq rfl) (hb hby at_160) (fun _ _ => ⟨rfl, rfl, (by decide : 25 + 0 ≤ _), (by decide : 318 + 0 ≤ _)⟩)
  dsimp only [Pt.U, Pt.locs, Pt.cells, Pt.slots] at X157 l157 y157 z157 st157 hQ157
  subst l157 y157 z157
  obtain ⟨rfl, N157q, e157⟩ := hQ157
  have N157 := Fr.app N136 N157q
  refine OGH.step (fun tz kz => st157.trans kz) ?_
  obtain ⟨Lz158, X157, N157⟩ : ∃ Lz, Stand p l e room_1 (s.setVm T136.vm) m #[(.int p0), (.int p1), (.int p2)] below meth c T157 Lz 25 318 ∧ Fr n0 Lz := ⟨_, X157, N157⟩
  show OGH _ _ _ _ _ _ _ _ (T157.setTop (mkF m 163 #[.val (.int p0), .val (.int p1), .val (.int p2), .val (.int (bI (¬ ((p0 &&& (1 : Int32)) = (0 : Int32))))), .val (.int (bI (¬ ((p0 &&& (2 : Int32)) = (0 : Int32))))), .val (.int (bI (¬ ((p1 &&& (1 : Int32)) = (0 : Int32))))), .val (.int (bI (¬ ((p1 &&& (2 : Int32)) = (0 : Int32))))), .val (.ref b9), .val (.ref b52), .val (.ref b75), .val (.ref s1_104), .val (.ref s1_118), .unset, .unset, .unset] [(.int (bI ((own_l (if ¬ ((p0 &&& (2 : Int32)) = (0 : Int32)) then (.ref b9) else .null) (if ¬ ((p0 &&& (1 : Int32)) = (0 : Int32)) then (.ref b9) else .null)) = (own_e (bI (¬ ((p0 &&& (1 : Int32)) = (0 : Int32)))) (bI (¬ ((p0 &&& (2 : Int32)) = (0 : Int32))))))))]))
  have s159 : ∀ tz, Steps p.tables e below (T157.setTop (mkF m 171 #[.val (.int p0), .val (.int p1), .val (.int p2), .val (.int (bI (¬ ((p0 &&& (1 : Int32)) = (0 : Int32))))), .val (.int (bI (¬ ((p0 &&& (2 : Int32)) = (0 : Int32))))), .val (.int (bI (¬ ((p1 &&& (1 : Int32)) = (0 : Int32))))), .val (.int (bI (¬ ((p1 &&& (2 : Int32)) = (0 : Int32))))), .val (.ref b9), .val (.ref b52), .val (.ref b75), .val (.ref s1_104), .val (.ref s1_118), .val (.int (bI ((own_l (if ¬ ((p0 &&& (2 : Int32)) = (0 : Int32)) then (.ref b9) else .null) (if ¬ ((p0 &&& (1 : Int32)) = (0 : Int32)) then (.ref b9) else .null)) = (own_e (bI (¬ ((p0 &&& (1 : Int32)) = (0 : Int32)))) (bI (¬ ((p0 &&& (2 : Int32)) = (0 : Int32)))))))), .unset, .unset] [(.int (bI (¬ ((p1 &&& (2 : Int32)) = (0 : Int32))))), (.int (bI (¬ ((p1 &&& (1 : Int32)) = (0 : Int32))))), (.ref s1_118)])) tz → Steps p.tables e below (T157.setTop (mkF m 163 #[.val (.int p0), .val (.int p1), .val (.int p2), .val (.int (bI (¬ ((p0 &&& (1 : Int32)) = (0 : Int32))))), .val (.int (bI (¬ ((p0 &&& (2 : Int32)) = (0 : Int32))))), .val (.int (bI (¬ ((p1 &&& (1 : Int32)) = (0 : Int32))))), .val (.int (bI (¬ ((p1 &&& (2 : Int32)) = (0 : Int32))))), .val (.ref b9), .val (.ref b52), .val (.ref b75), .val (.ref s1_104), .val (.ref s1_118), .unset, .unset, .unset] [(.int (bI ((own_l (if ¬ ((p0 &&& (2 : Int32)) = (0 : Int32)) then (.ref b9) else .null) (if ¬ ((p0 &&& (1 : Int32)) = (0 : Int32)) then (.ref b9) else .null)) = (own_e (bI (¬ ((p0 &&& (1 : Int32)) = (0 : Int32)))) (bI (¬ ((p0 &&& (2 : Int32)) = (0 : Int32))))))))])) tz := by
    intro tz kz
    refine XS.istore X157.here hx rfl (hb hby at_163) rfl (l' := #[.val (.int p0), .val (.int p1), .val (.int p2), .val (.int (bI (¬ ((p0 &&& (1 : Int32)) = (0 : Int32))))), .val (.int (bI (¬ ((p0 &&& (2 : Int32)) = (0 : Int32))))), .val (.int (bI (¬ ((p1 &&& (1 : Int32)) = (0 : Int32))))), .val (.int (bI (¬ ((p1 &&& (2 : Int32)) = (0 : Int32))))), .val (.ref b9), .val (.ref b52), .val (.ref b75), .val (.ref s1_104), .val (.ref s1_118), .val (.int (bI ((own_l (if ¬ ((p0 &&& (2 : Int32)) = (0 : Int32)) then (.ref b9) else .null) (if ¬ ((p0 &&& (1 : Int32)) = (0 : Int32)) then (.ref b9) else .null)) = (own_e (bI (¬ ((p0 &&& (1 : Int32)) = (0 : Int32)))) (bI (¬ ((p0 &&& (2 : Int32)) = (0 : Int32)))))))), .unset, .unset]) rfl ?_
    show Steps p.tables e below (T157.setTop (mkF m 165 #[.val (.int p0), .val (.int p1), .val (.int p2), .val (.int (bI (¬ ((p0 &&& (1 : Int32)) = (0 : Int32))))), .val (.int (bI (¬ ((p0 &&& (2 : Int32)) = (0 : Int32))))), .val (.int (bI (¬ ((p1 &&& (1 : Int32)) = (0 : Int32))))), .val (.int (bI (¬ ((p1 &&& (2 : Int32)) = (0 : Int32))))), .val (.ref b9), .val (.ref b52), .val (.ref b75), .val (.ref s1_104), .val (.ref s1_118), .val (.int (bI ((own_l (if ¬ ((p0 &&& (2 : Int32)) = (0 : Int32)) then (.ref b9) else .null) (if ¬ ((p0 &&& (1 : Int32)) = (0 : Int32)) then (.ref b9) else .null)) = (own_e (bI (¬ ((p0 &&& (1 : Int32)) = (0 : Int32)))) (bI (¬ ((p0 &&& (2 : Int32)) = (0 : Int32)))))))), .unset, .unset] [])) _
    refine XS.aload X157.here hx rfl (hb hby at_165) rfl rfl ?_
    show Steps p.tables e below (T157.setTop (mkF m 167 #[.val (.int p0), .val (.int p1), .val (.int p2), .val (.int (bI (¬ ((p0 &&& (1 : Int32)) = (0 : Int32))))), .val (.int (bI (¬ ((p0 &&& (2 : Int32)) = (0 : Int32))))), .val (.int (bI (¬ ((p1 &&& (1 : Int32)) = (0 : Int32))))), .val (.int (bI (¬ ((p1 &&& (2 : Int32)) = (0 : Int32))))), .val (.ref b9), .val (.ref b52), .val (.ref b75), .val (.ref s1_104), .val (.ref s1_118), .val (.int (bI ((own_l (if ¬ ((p0 &&& (2 : Int32)) = (0 : Int32)) then (.ref b9) else .null) (if ¬ ((p0 &&& (1 : Int32)) = (0 : Int32)) then (.ref b9) else .null)) = (own_e (bI (¬ ((p0 &&& (1 : Int32)) = (0 : Int32)))) (bI (¬ ((p0 &&& (2 : Int32)) = (0 : Int32)))))))), .unset, .unset] [(.ref s1_118)])) _
    refine XS.iload X157.here hx rfl (hb hby at_167) rfl ?_
    show Steps p.tables e below (T157.setTop (mkF m 169 #[.val (.int p0), .val (.int p1), .val (.int p2), .val (.int (bI (¬ ((p0 &&& (1 : Int32)) = (0 : Int32))))), .val (.int (bI (¬ ((p0 &&& (2 : Int32)) = (0 : Int32))))), .val (.int (bI (¬ ((p1 &&& (1 : Int32)) = (0 : Int32))))), .val (.int (bI (¬ ((p1 &&& (2 : Int32)) = (0 : Int32))))), .val (.ref b9), .val (.ref b52), .val (.ref b75), .val (.ref s1_104), .val (.ref s1_118), .val (.int (bI ((own_l (if ¬ ((p0 &&& (2 : Int32)) = (0 : Int32)) then (.ref b9) else .null) (if ¬ ((p0 &&& (1 : Int32)) = (0 : Int32)) then (.ref b9) else .null)) = (own_e (bI (¬ ((p0 &&& (1 : Int32)) = (0 : Int32)))) (bI (¬ ((p0 &&& (2 : Int32)) = (0 : Int32)))))))), .unset, .unset] [(.int (bI (¬ ((p1 &&& (1 : Int32)) = (0 : Int32))))), (.ref s1_118)])) _
    refine XS.iload X157.here hx rfl (hb hby at_169) rfl ?_
    exact kz
  refine OGH.step s159 ?_
  obtain ⟨_, _, ⟨T160, L160, k160, n160⟩, -, X160, hSn160, hgr160, ⟨Lc160, hQ160, l160, y160, z160, hD160⟩, st160⟩ := Jvm.RoadKit.callSS X157 hx (y := (⟨"com/example/mergeward/mergeward/core/RecordPathLevelPinLaw", "expected", "(ZZ)Ljava/lang/String;"⟩ : MethodName)) hown (mvT hZ (hw _ (List.mem_of_getElem? (i := 80) rfl))) (mvT hZ (hw _ (List.mem_of_getElem? (i := 81) rfl))) (mvT hZ (hw _ (List.mem_of_getElem? (i := 82) rfl))) (mvT hZ (hw _ (List.mem_of_getElem? (i := 83) rfl))) (by decide) (backOfSH (W := 1) (rm12 l Z a0 hw [] (bI (¬ ((p1 &&& (1 : Int32)) = (0 : Int32)))) (bI (¬ ((p1 &&& (2 : Int32)) = (0 : Int32)))) T136.heap n0 (Nat.le_trans Z0 K136.1)) hZ (hw _ (List.mem_of_getElem? (i := 83) rfl)) (hw _ (List.mem_of_getElem? (i := 82) rfl)) (by decide) (by decide) hEL hC136.1) (g := (mkF m 171 #[.val (.int p0), .val (.int p1), .val (.int p2), .val (.int (bI (¬ ((p0 &&& (1 : Int32)) = (0 : Int32))))), .val (.int (bI (¬ ((p0 &&& (2 : Int32)) = (0 : Int32))))), .val (.int (bI (¬ ((p1 &&& (1 : Int32)) = (0 : Int32))))), .val (.int (bI (¬ ((p1 &&& (2 : Int32)) = (0 : Int32))))), .val (.ref b9), .val (.ref b52), .val (.ref b75), .val (.ref s1_104), .val (.ref s1_118), .val (.int (bI ((own_l (if ¬ ((p0 &&& (2 : Int32)) = (0 : Int32)) then (.ref b9) else .null) (if ¬ ((p0 &&& (1 : Int32)) = (0 : Int32)) then (.ref b9) else .null)) = (own_e (bI (¬ ((p0 &&& (1 : Int32)) = (0 : Int32)))) (bI (¬ ((p0 &&& (2 : Int32)) = (0 : Int32)))))))), .unset, .unset] [(.int (bI (¬ ((p1 &&& (2 : Int32)) = (0 : Int32))))), (.int (bI (¬ ((p1 &&& (1 : Int32)) = (0 : Int32))))), (.ref s1_118)])) rfl (by rw [hml]; rfl) (argsL := [(.int (bI (¬ ((p1 &&& (1 : Int32)) = (0 : Int32))))), (.int (bI (¬ ((p1 &&& (2 : Int32)) = (0 : Int32)))))]) (rest := [(.ref s1_118)]) (lenOf pd__ZZ_Ljava_lang_String_ rfl) rfl (by show 2 * 0 + _ ≤ _; exact Nat.le_of_eq rfl) (hb hby at_171) (fun _ _ => ⟨rfl, e157, (by decide : 25 + 2 ≤ _), (by decide : 318 + 32 ≤ _)⟩)
  dsimp only [Pt.U, Pt.locs, Pt.cells, Pt.slots] at hSn160 hgr160 hD160
  have hC160 := hC136.trans hD160
  dsimp only [Pt.U, Pt.locs, Pt.cells, Pt.slots] at X160 l160 y160 z160 st160 hQ160
  subst l160 y160 z160
  obtain ⟨s1_160, b1_160, kb_160, rfl, N160q, Kc160, p160_0, p160_1, p160_2, p160_3⟩ := hQ160
  have N160 := Fr.app N157 N160q
  have hkT160 : _ ≤ T157.heap.size := (by rw [e157]; exact (Nat.le_refl _))
  obtain ⟨X160, hS160, hZ, hown⟩ := rebS hS136 hkT160 X160 hSn160 hgr160 hZ hown
  refine OGH.step (fun tz kz => st160.trans kz) ?_
  have f161 := f137.keep Kc160 all0
  have f162 := f138.keep Kc160
  have f163 := f139.keep Kc160
  have f164 := f140.keep Kc160 nin0
  have f165 := f141.keep Kc160 nin0
  have f166 := f142.keep Kc160
  have f167 := f143.keep Kc160 nin0
  have f168 := f144.keep Kc160 nin0
  have f169 := f145.keep Kc160
  have f170 := f146.keep Kc160 nin0
  have f171 := f147.keep Kc160 nin0
  have f172 := f148.keep Kc160
  have f173 := f149.keep Kc160 nin0
  have f174 := f150.keep Kc160 nin0
  have f175 := f151.keep Kc160 nin0
  have f176 := f152.keep Kc160
  have f177 := f153.keep Kc160 nin0
  have f178 := f154.keep Kc160 nin0
  have f179 := f155.keep Kc160 nin0
  have f180 := p136_0.keep Kc160
  have f181 := p136_1.keep Kc160 nin0
  have f182 := p136_2.keep Kc160 nin0
  have f183 := p136_3.keep Kc160 nin0
  have K160 := K136.trans Kc160 all0
  obtain ⟨Lz184, X160, N160⟩ : ∃ Lz, Stand p l e room_1 (s.setVm T160.vm) m #[(.int p0), (.int p1), (.int p2)] below meth c T160 Lz 27 350 ∧ Fr n0 Lz := ⟨_, X160, N160⟩
  show OGH _ _ _ _ _ _ _ _ (T160.setTop (mkF m 174 #[.val (.int p0), .val (.int p1), .val (.int p2), .val (.int (bI (¬ ((p0 &&& (1 : Int32)) = (0 : Int32))))), .val (.int (bI (¬ ((p0 &&& (2 : Int32)) = (0 : Int32))))), .val (.int (bI (¬ ((p1 &&& (1 : Int32)) = (0 : Int32))))), .val (.int (bI (¬ ((p1 &&& (2 : Int32)) = (0 : Int32))))), .val (.ref b9), .val (.ref b52), .val (.ref b75), .val (.ref s1_104), .val (.ref s1_118), .val (.int (bI ((own_l (if ¬ ((p0 &&& (2 : Int32)) = (0 : Int32)) then (.ref b9) else .null) (if ¬ ((p0 &&& (1 : Int32)) = (0 : Int32)) then (.ref b9) else .null)) = (own_e (bI (¬ ((p0 &&& (1 : Int32)) = (0 : Int32)))) (bI (¬ ((p0 &&& (2 : Int32)) = (0 : Int32)))))))), .unset, .unset] [(.ref s1_160), (.ref s1_118)]))
  obtain ⟨cq185, kq185, q185a, q185b, q185c⟩ := isOf hZ rfl f176
  obtain ⟨_, _, ⟨T185, L185, k185, n185⟩, -, X185, ⟨Lc185, hQ185, l185, y185, z185⟩, st185⟩ := X160.virtualBack hx (y := (⟨"java/lang/String", "equals", "(Ljava/lang/Object;)Z"⟩ : MethodName)) (z := (⟨"java/lang/String", "equals", "(Ljava/lang/Object;)Z"⟩ : MethodName)) hown (mvT hZ (hw _ (List.mem_of_getElem? (i := 85) rfl))) (mvT hZ (hw _ (List.mem_of_getElem? (i := 86) rfl))) (notFace_of_selects (args := #[]) (mvT hZ (hw _ (List.mem_of_getElem? (i := 88) rfl)))) (mvT hZ (hw _ (List.mem_of_getElem? (i := 88) rfl))) (mvT hZ (hw _ (List.mem_of_getElem? (i := 87) rfl))) (by decide) (backOf (W := 0) (rm13 l Z a0 hw [] s1_118 s1_160 b1_118 kb_118 b1_160 kb_160 (own_l (if ¬ ((p1 &&& (2 : Int32)) = (0 : Int32)) then (.ref b9) else .null) (if ¬ ((p1 &&& (1 : Int32)) = (0 : Int32)) then (.ref b9) else .null)) (own_e (bI (¬ ((p1 &&& (1 : Int32)) = (0 : Int32)))) (bI (¬ ((p1 &&& (2 : Int32)) = (0 : Int32))))) wz T160.heap n0 (Nat.le_trans Z0 K160.1) f177 f178 f179 p160_0 p160_1 p160_2 p160_3 (own_l3 _ _) (own_e3 _ _) (hS.ext f161.2) hnz) hZ (hw _ (List.mem_of_getElem? (i := 89) rfl)) (hw _ (List.mem_of_getElem? (i := 5) rfl)) (by decide) (by decide)) q185a q185c (g := (mkF m 174 #[.val (.int p0), .val (.int p1), .val (.int p2), .val (.int (bI (¬ ((p0 &&& (1 : Int32)) = (0 : Int32))))), .val (.int (bI (¬ ((p0 &&& (2 : Int32)) = (0 : Int32))))), .val (.int (bI (¬ ((p1 &&& (1 : Int32)) = (0 : Int32))))), .val (.int (bI (¬ ((p1 &&& (2 : Int32)) = (0 : Int32))))), .val (.ref b9), .val (.ref b52), .val (.ref b75), .val (.ref s1_104), .val (.ref s1_118), .val (.int (bI ((own_l (if ¬ ((p0 &&& (2 : Int32)) = (0 : Int32)) then (.ref b9) else .null) (if ¬ ((p0 &&& (1 : Int32)) = (0 : Int32)) then (.ref b9) else .null)) = (own_e (bI (¬ ((p0 &&& (1 : Int32)) = (0 : Int32)))) (bI (¬ ((p0 &&& (2 : Int32)) = (0 : Int32)))))))), .unset, .unset] [(.ref s1_160), (.ref s1_118)])) rfl (by rw [hml]; rfl) (Steps.refl _) (argsL := [(.ref s1_160)]) (rest := []) (lenOf pd__Ljava_lang_Object__Z rfl) rfl (by show 2 * 0 + _ ≤ _; exact Nat.le_of_eq rfl) (hb hby at_174) (fun _ _ => ⟨rfl, rfl, (by decide : 27 + 0 ≤ _), (by decide : 350 + 0 ≤ _)⟩)
  dsimp only [Pt.U, Pt.locs, Pt.cells, Pt.slots] at X185 l185 y185 z185 st185 hQ185
  subst l185 y185 z185
  obtain ⟨rfl, N185q, e185⟩ := hQ185
  have N185 := Fr.app N160 N185q
  refine OGH.step (fun tz kz => st185.trans kz) ?_
  obtain ⟨Lz186, X185, N185⟩ : ∃ Lz, Stand p l e room_1 (s.setVm T160.vm) m #[(.int p0), (.int p1), (.int p2)] below meth c T185 Lz 27 350 ∧ Fr n0 Lz := ⟨_, X185, N185⟩
  show OGH _ _ _ _ _ _ _ _ (T185.setTop (mkF m 177 #[.val (.int p0), .val (.int p1), .val (.int p2), .val (.int (bI (¬ ((p0 &&& (1 : Int32)) = (0 : Int32))))), .val (.int (bI (¬ ((p0 &&& (2 : Int32)) = (0 : Int32))))), .val (.int (bI (¬ ((p1 &&& (1 : Int32)) = (0 : Int32))))), .val (.int (bI (¬ ((p1 &&& (2 : Int32)) = (0 : Int32))))), .val (.ref b9), .val (.ref b52), .val (.ref b75), .val (.ref s1_104), .val (.ref s1_118), .val (.int (bI ((own_l (if ¬ ((p0 &&& (2 : Int32)) = (0 : Int32)) then (.ref b9) else .null) (if ¬ ((p0 &&& (1 : Int32)) = (0 : Int32)) then (.ref b9) else .null)) = (own_e (bI (¬ ((p0 &&& (1 : Int32)) = (0 : Int32)))) (bI (¬ ((p0 &&& (2 : Int32)) = (0 : Int32)))))))), .unset, .unset] [(.int (bI ((own_l (if ¬ ((p1 &&& (2 : Int32)) = (0 : Int32)) then (.ref b9) else .null) (if ¬ ((p1 &&& (1 : Int32)) = (0 : Int32)) then (.ref b9) else .null)) = (own_e (bI (¬ ((p1 &&& (1 : Int32)) = (0 : Int32)))) (bI (¬ ((p1 &&& (2 : Int32)) = (0 : Int32))))))))]))
  have s187 : ∀ tz, Steps p.tables e below (T185.setTop (mkF m 183 #[.val (.int p0), .val (.int p1), .val (.int p2), .val (.int (bI (¬ ((p0 &&& (1 : Int32)) = (0 : Int32))))), .val (.int (bI (¬ ((p0 &&& (2 : Int32)) = (0 : Int32))))), .val (.int (bI (¬ ((p1 &&& (1 : Int32)) = (0 : Int32))))), .val (.int (bI (¬ ((p1 &&& (2 : Int32)) = (0 : Int32))))), .val (.ref b9), .val (.ref b52), .val (.ref b75), .val (.ref s1_104), .val (.ref s1_118), .val (.int (bI ((own_l (if ¬ ((p0 &&& (2 : Int32)) = (0 : Int32)) then (.ref b9) else .null) (if ¬ ((p0 &&& (1 : Int32)) = (0 : Int32)) then (.ref b9) else .null)) = (own_e (bI (¬ ((p0 &&& (1 : Int32)) = (0 : Int32)))) (bI (¬ ((p0 &&& (2 : Int32)) = (0 : Int32)))))))), .val (.int (bI ((own_l (if ¬ ((p1 &&& (2 : Int32)) = (0 : Int32)) then (.ref b9) else .null) (if ¬ ((p1 &&& (1 : Int32)) = (0 : Int32)) then (.ref b9) else .null)) = (own_e (bI (¬ ((p1 &&& (1 : Int32)) = (0 : Int32)))) (bI (¬ ((p1 &&& (2 : Int32)) = (0 : Int32)))))))), .unset] [(.ref b75), (.ref b52)])) tz → Steps p.tables e below (T185.setTop (mkF m 177 #[.val (.int p0), .val (.int p1), .val (.int p2), .val (.int (bI (¬ ((p0 &&& (1 : Int32)) = (0 : Int32))))), .val (.int (bI (¬ ((p0 &&& (2 : Int32)) = (0 : Int32))))), .val (.int (bI (¬ ((p1 &&& (1 : Int32)) = (0 : Int32))))), .val (.int (bI (¬ ((p1 &&& (2 : Int32)) = (0 : Int32))))), .val (.ref b9), .val (.ref b52), .val (.ref b75), .val (.ref s1_104), .val (.ref s1_118), .val (.int (bI ((own_l (if ¬ ((p0 &&& (2 : Int32)) = (0 : Int32)) then (.ref b9) else .null) (if ¬ ((p0 &&& (1 : Int32)) = (0 : Int32)) then (.ref b9) else .null)) = (own_e (bI (¬ ((p0 &&& (1 : Int32)) = (0 : Int32)))) (bI (¬ ((p0 &&& (2 : Int32)) = (0 : Int32)))))))), .unset, .unset] [(.int (bI ((own_l (if ¬ ((p1 &&& (2 : Int32)) = (0 : Int32)) then (.ref b9) else .null) (if ¬ ((p1 &&& (1 : Int32)) = (0 : Int32)) then (.ref b9) else .null)) = (own_e (bI (¬ ((p1 &&& (1 : Int32)) = (0 : Int32)))) (bI (¬ ((p1 &&& (2 : Int32)) = (0 : Int32))))))))])) tz := by
    intro tz kz
    refine XS.istore X185.here hx rfl (hb hby at_177) rfl (l' := #[.val (.int p0), .val (.int p1), .val (.int p2), .val (.int (bI (¬ ((p0 &&& (1 : Int32)) = (0 : Int32))))), .val (.int (bI (¬ ((p0 &&& (2 : Int32)) = (0 : Int32))))), .val (.int (bI (¬ ((p1 &&& (1 : Int32)) = (0 : Int32))))), .val (.int (bI (¬ ((p1 &&& (2 : Int32)) = (0 : Int32))))), .val (.ref b9), .val (.ref b52), .val (.ref b75), .val (.ref s1_104), .val (.ref s1_118), .val (.int (bI ((own_l (if ¬ ((p0 &&& (2 : Int32)) = (0 : Int32)) then (.ref b9) else .null) (if ¬ ((p0 &&& (1 : Int32)) = (0 : Int32)) then (.ref b9) else .null)) = (own_e (bI (¬ ((p0 &&& (1 : Int32)) = (0 : Int32)))) (bI (¬ ((p0 &&& (2 : Int32)) = (0 : Int32)))))))), .val (.int (bI ((own_l (if ¬ ((p1 &&& (2 : Int32)) = (0 : Int32)) then (.ref b9) else .null) (if ¬ ((p1 &&& (1 : Int32)) = (0 : Int32)) then (.ref b9) else .null)) = (own_e (bI (¬ ((p1 &&& (1 : Int32)) = (0 : Int32)))) (bI (¬ ((p1 &&& (2 : Int32)) = (0 : Int32)))))))), .unset]) rfl ?_
    show Steps p.tables e below (T185.setTop (mkF m 179 #[.val (.int p0), .val (.int p1), .val (.int p2), .val (.int (bI (¬ ((p0 &&& (1 : Int32)) = (0 : Int32))))), .val (.int (bI (¬ ((p0 &&& (2 : Int32)) = (0 : Int32))))), .val (.int (bI (¬ ((p1 &&& (1 : Int32)) = (0 : Int32))))), .val (.int (bI (¬ ((p1 &&& (2 : Int32)) = (0 : Int32))))), .val (.ref b9), .val (.ref b52), .val (.ref b75), .val (.ref s1_104), .val (.ref s1_118), .val (.int (bI ((own_l (if ¬ ((p0 &&& (2 : Int32)) = (0 : Int32)) then (.ref b9) else .null) (if ¬ ((p0 &&& (1 : Int32)) = (0 : Int32)) then (.ref b9) else .null)) = (own_e (bI (¬ ((p0 &&& (1 : Int32)) = (0 : Int32)))) (bI (¬ ((p0 &&& (2 : Int32)) = (0 : Int32)))))))), .val (.int (bI ((own_l (if ¬ ((p1 &&& (2 : Int32)) = (0 : Int32)) then (.ref b9) else .null) (if ¬ ((p1 &&& (1 : Int32)) = (0 : Int32)) then (.ref b9) else .null)) = (own_e (bI (¬ ((p1 &&& (1 : Int32)) = (0 : Int32)))) (bI (¬ ((p1 &&& (2 : Int32)) = (0 : Int32)))))))), .unset] [])) _
    refine XS.aload X185.here hx rfl (hb hby at_179) rfl rfl ?_
    show Steps p.tables e below (T185.setTop (mkF m 181 #[.val (.int p0), .val (.int p1), .val (.int p2), .val (.int (bI (¬ ((p0 &&& (1 : Int32)) = (0 : Int32))))), .val (.int (bI (¬ ((p0 &&& (2 : Int32)) = (0 : Int32))))), .val (.int (bI (¬ ((p1 &&& (1 : Int32)) = (0 : Int32))))), .val (.int (bI (¬ ((p1 &&& (2 : Int32)) = (0 : Int32))))), .val (.ref b9), .val (.ref b52), .val (.ref b75), .val (.ref s1_104), .val (.ref s1_118), .val (.int (bI ((own_l (if ¬ ((p0 &&& (2 : Int32)) = (0 : Int32)) then (.ref b9) else .null) (if ¬ ((p0 &&& (1 : Int32)) = (0 : Int32)) then (.ref b9) else .null)) = (own_e (bI (¬ ((p0 &&& (1 : Int32)) = (0 : Int32)))) (bI (¬ ((p0 &&& (2 : Int32)) = (0 : Int32)))))))), .val (.int (bI ((own_l (if ¬ ((p1 &&& (2 : Int32)) = (0 : Int32)) then (.ref b9) else .null) (if ¬ ((p1 &&& (1 : Int32)) = (0 : Int32)) then (.ref b9) else .null)) = (own_e (bI (¬ ((p1 &&& (1 : Int32)) = (0 : Int32)))) (bI (¬ ((p1 &&& (2 : Int32)) = (0 : Int32)))))))), .unset] [(.ref b52)])) _
    refine XS.aload X185.here hx rfl (hb hby at_181) rfl rfl ?_
    exact kz
  refine OGH.step s187 ?_
  obtain ⟨cq188, kq188, q188a, q188b, q188c⟩ := isOf hZ e185 f166
  obtain ⟨_, _, ⟨T188, L188, k188, n188⟩, -, X188, ⟨Lc188, hQ188, l188, y188, z188⟩, st188⟩ := X185.virtualBack hx (y := (⟨"com/example/mergeward/mergeward/core/RecordPath", "sameLevelAs", "(Lcom/example/mergeward/mergeward/core/RecordPath;)Z"⟩ : MethodName)) (z := (⟨"com/example/mergeward/mergeward/core/RecordPath", "sameLevelAs", "(Lcom/example/mergeward/mergeward/core/RecordPath;)Z"⟩ : MethodName)) hown (mvT hZ (hw _ (List.mem_of_getElem? (i := 91) rfl))) (mvT hZ (hw _ (List.mem_of_getElem? (i := 92) rfl))) (notFace_of_selects (args := #[]) (mvT hZ (hw _ (List.mem_of_getElem? (i := 94) rfl)))) (mvT hZ (hw _ (List.mem_of_getElem? (i := 94) rfl))) (mvT hZ (hw _ (List.mem_of_getElem? (i := 93) rfl))) (by decide) (backOf (W := 0) (rm14 l Z a0 hw [] b52 b75 (if ¬ ((p0 &&& (2 : Int32)) = (0 : Int32)) then (.ref b9) else .null) (if ¬ ((p0 &&& (1 : Int32)) = (0 : Int32)) then (.ref b9) else .null) (if ¬ ((p1 &&& (2 : Int32)) = (0 : Int32)) then (.ref b9) else .null) (if ¬ ((p1 &&& (1 : Int32)) = (0 : Int32)) then (.ref b9) else .null) T160.heap n0 (Nat.le_trans Z0 K160.1) f168 f167 f171 f170 (own_irI _ _) (own_irI _ _) (own_irI _ _) (own_irI _ _)) hZ (hw _ (List.mem_of_getElem? (i := 95) rfl)) (hw _ (List.mem_of_getElem? (i := 61) rfl)) (by decide) (by decide)) q188a q188c (g := (mkF m 183 #[.val (.int p0), .val (.int p1), .val (.int p2), .val (.int (bI (¬ ((p0 &&& (1 : Int32)) = (0 : Int32))))), .val (.int (bI (¬ ((p0 &&& (2 : Int32)) = (0 : Int32))))), .val (.int (bI (¬ ((p1 &&& (1 : Int32)) = (0 : Int32))))), .val (.int (bI (¬ ((p1 &&& (2 : Int32)) = (0 : Int32))))), .val (.ref b9), .val (.ref b52), .val (.ref b75), .val (.ref s1_104), .val (.ref s1_118), .val (.int (bI ((own_l (if ¬ ((p0 &&& (2 : Int32)) = (0 : Int32)) then (.ref b9) else .null) (if ¬ ((p0 &&& (1 : Int32)) = (0 : Int32)) then (.ref b9) else .null)) = (own_e (bI (¬ ((p0 &&& (1 : Int32)) = (0 : Int32)))) (bI (¬ ((p0 &&& (2 : Int32)) = (0 : Int32)))))))), .val (.int (bI ((own_l (if ¬ ((p1 &&& (2 : Int32)) = (0 : Int32)) then (.ref b9) else .null) (if ¬ ((p1 &&& (1 : Int32)) = (0 : Int32)) then (.ref b9) else .null)) = (own_e (bI (¬ ((p1 &&& (1 : Int32)) = (0 : Int32)))) (bI (¬ ((p1 &&& (2 : Int32)) = (0 : Int32)))))))), .unset] [(.ref b75), (.ref b52)])) rfl (by rw [hml]; rfl) (Steps.refl _) (argsL := [(.ref b75)]) (rest := []) (lenOf pd__Lcom_example_mergeward_mergeward_core_RecordPath__Z rfl) rfl (by show 2 * 0 + _ ≤ _; exact Nat.le_of_eq rfl) (hb hby at_183) (fun _ _ => ⟨rfl, e185, (by decide : 27 + 0 ≤ _), (by decide : 350 + 0 ≤ _)⟩)
  dsimp only [Pt.U, Pt.locs, Pt.cells, Pt.slots] at X188 l188 y188 z188 st188 hQ188
  subst l188 y188 z188
  obtain ⟨rfl, N188q, e188⟩ := hQ188
  have N188 := Fr.app N185 N188q
  refine OGH.step (fun tz kz => st188.trans kz) ?_
  obtain ⟨Lz189, X188, N188⟩ : ∃ Lz, Stand p l e room_1 (s.setVm T160.vm) m #[(.int p0), (.int p1), (.int p2)] below meth c T188 Lz 27 350 ∧ Fr n0 Lz := ⟨_, X188, N188⟩
  show OGH _ _ _ _ _ _ _ _ (T188.setTop (mkF m 186 #[.val (.int p0), .val (.int p1), .val (.int p2), .val (.int (bI (¬ ((p0 &&& (1 : Int32)) = (0 : Int32))))), .val (.int (bI (¬ ((p0 &&& (2 : Int32)) = (0 : Int32))))), .val (.int (bI (¬ ((p1 &&& (1 : Int32)) = (0 : Int32))))), .val (.int (bI (¬ ((p1 &&& (2 : Int32)) = (0 : Int32))))), .val (.ref b9), .val (.ref b52), .val (.ref b75), .val (.ref s1_104), .val (.ref s1_118), .val (.int (bI ((own_l (if ¬ ((p0 &&& (2 : Int32)) = (0 : Int32)) then (.ref b9) else .null) (if ¬ ((p0 &&& (1 : Int32)) = (0 : Int32)) then (.ref b9) else .null)) = (own_e (bI (¬ ((p0 &&& (1 : Int32)) = (0 : Int32)))) (bI (¬ ((p0 &&& (2 : Int32)) = (0 : Int32)))))))), .val (.int (bI ((own_l (if ¬ ((p1 &&& (2 : Int32)) = (0 : Int32)) then (.ref b9) else .null) (if ¬ ((p1 &&& (1 : Int32)) = (0 : Int32)) then (.ref b9) else .null)) = (own_e (bI (¬ ((p1 &&& (1 : Int32)) = (0 : Int32)))) (bI (¬ ((p1 &&& (2 : Int32)) = (0 : Int32)))))))), .unset] [(.int (bI (own_sl (if ¬ ((p0 &&& (2 : Int32)) = (0 : Int32)) then (.ref b9) else .null) (if ¬ ((p0 &&& (1 : Int32)) = (0 : Int32)) then (.ref b9) else .null) (if ¬ ((p1 &&& (2 : Int32)) = (0 : Int32)) then (.ref b9) else .null) (if ¬ ((p1 &&& (1 : Int32)) = (0 : Int32)) then (.ref b9) else .null) = true)))]))
  have s190 : ∀ tz, Steps p.tables e below (T188.setTop (mkF m 190 #[.val (.int p0), .val (.int p1), .val (.int p2), .val (.int (bI (¬ ((p0 &&& (1 : Int32)) = (0 : Int32))))), .val (.int (bI (¬ ((p0 &&& (2 : Int32)) = (0 : Int32))))), .val (.int (bI (¬ ((p1 &&& (1 : Int32)) = (0 : Int32))))), .val (.int (bI (¬ ((p1 &&& (2 : Int32)) = (0 : Int32))))), .val (.ref b9), .val (.ref b52), .val (.ref b75), .val (.ref s1_104), .val (.ref s1_118), .val (.int (bI ((own_l (if ¬ ((p0 &&& (2 : Int32)) = (0 : Int32)) then (.ref b9) else .null) (if ¬ ((p0 &&& (1 : Int32)) = (0 : Int32)) then (.ref b9) else .null)) = (own_e (bI (¬ ((p0 &&& (1 : Int32)) = (0 : Int32)))) (bI (¬ ((p0 &&& (2 : Int32)) = (0 : Int32)))))))), .val (.int (bI ((own_l (if ¬ ((p1 &&& (2 : Int32)) = (0 : Int32)) then (.ref b9) else .null) (if ¬ ((p1 &&& (1 : Int32)) = (0 : Int32)) then (.ref b9) else .null)) = (own_e (bI (¬ ((p1 &&& (1 : Int32)) = (0 : Int32)))) (bI (¬ ((p1 &&& (2 : Int32)) = (0 : Int32)))))))), .unset] [(.ref s1_118), (.ref s1_104), (.int (bI (own_sl (if ¬ ((p0 &&& (2 : Int32)) = (0 : Int32)) then (.ref b9) else .null) (if ¬ ((p0 &&& (1 : Int32)) = (0 : Int32)) then (.ref b9) else .null) (if ¬ ((p1 &&& (2 : Int32)) = (0 : Int32)) then (.ref b9) else .null) (if ¬ ((p1 &&& (1 : Int32)) = (0 : Int32)) then (.ref b9) else .null) = true)))])) tz → Steps p.tables e below (T188.setTop (mkF m 186 #[.val (.int p0), .val (.int p1), .val (.int p2), .val (.int (bI (¬ ((p0 &&& (1 : Int32)) = (0 : Int32))))), .val (.int (bI (¬ ((p0 &&& (2 : Int32)) = (0 : Int32))))), .val (.int (bI (¬ ((p1 &&& (1 : Int32)) = (0 : Int32))))), .val (.int (bI (¬ ((p1 &&& (2 : Int32)) = (0 : Int32))))), .val (.ref b9), .val (.ref b52), .val (.ref b75), .val (.ref s1_104), .val (.ref s1_118), .val (.int (bI ((own_l (if ¬ ((p0 &&& (2 : Int32)) = (0 : Int32)) then (.ref b9) else .null) (if ¬ ((p0 &&& (1 : Int32)) = (0 : Int32)) then (.ref b9) else .null)) = (own_e (bI (¬ ((p0 &&& (1 : Int32)) = (0 : Int32)))) (bI (¬ ((p0 &&& (2 : Int32)) = (0 : Int32)))))))), .val (.int (bI ((own_l (if ¬ ((p1 &&& (2 : Int32)) = (0 : Int32)) then (.ref b9) else .null) (if ¬ ((p1 &&& (1 : Int32)) = (0 : Int32)) then (.ref b9) else .null)) = (own_e (bI (¬ ((p1 &&& (1 : Int32)) = (0 : Int32)))) (bI (¬ ((p1 &&& (2 : Int32)) = (0 : Int32)))))))), .unset] [(.int (bI (own_sl (if ¬ ((p0 &&& (2 : Int32)) = (0 : Int32)) then (.ref b9) else .null) (if ¬ ((p0 &&& (1 : Int32)) = (0 : Int32)) then (.ref b9) else .null) (if ¬ ((p1 &&& (2 : Int32)) = (0 : Int32)) then (.ref b9) else .null) (if ¬ ((p1 &&& (1 : Int32)) = (0 : Int32)) then (.ref b9) else .null) = true)))])) tz := by
    intro tz kz
    refine XS.aload X188.here hx rfl (hb hby at_186) rfl rfl ?_
    show Steps p.tables e below (T188.setTop (mkF m 188 #[.val (.int p0), .val (.int p1), .val (.int p2), .val (.int (bI (¬ ((p0 &&& (1 : Int32)) = (0 : Int32))))), .val (.int (bI (¬ ((p0 &&& (2 : Int32)) = (0 : Int32))))), .val (.int (bI (¬ ((p1 &&& (1 : Int32)) = (0 : Int32))))), .val (.int (bI (¬ ((p1 &&& (2 : Int32)) = (0 : Int32))))), .val (.ref b9), .val (.ref b52), .val (.ref b75), .val (.ref s1_104), .val (.ref s1_118), .val (.int (bI ((own_l (if ¬ ((p0 &&& (2 : Int32)) = (0 : Int32)) then (.ref b9) else .null) (if ¬ ((p0 &&& (1 : Int32)) = (0 : Int32)) then (.ref b9) else .null)) = (own_e (bI (¬ ((p0 &&& (1 : Int32)) = (0 : Int32)))) (bI (¬ ((p0 &&& (2 : Int32)) = (0 : Int32)))))))), .val (.int (bI ((own_l (if ¬ ((p1 &&& (2 : Int32)) = (0 : Int32)) then (.ref b9) else .null) (if ¬ ((p1 &&& (1 : Int32)) = (0 : Int32)) then (.ref b9) else .null)) = (own_e (bI (¬ ((p1 &&& (1 : Int32)) = (0 : Int32)))) (bI (¬ ((p1 &&& (2 : Int32)) = (0 : Int32)))))))), .unset] [(.ref s1_104), (.int (bI (own_sl (if ¬ ((p0 &&& (2 : Int32)) = (0 : Int32)) then (.ref b9) else .null) (if ¬ ((p0 &&& (1 : Int32)) = (0 : Int32)) then (.ref b9) else .null) (if ¬ ((p1 &&& (2 : Int32)) = (0 : Int32)) then (.ref b9) else .null) (if ¬ ((p1 &&& (1 : Int32)) = (0 : Int32)) then (.ref b9) else .null) = true)))])) _
    refine XS.aload X188.here hx rfl (hb hby at_188) rfl rfl ?_
    exact kz
  refine OGH.step s190 ?_
  obtain ⟨cq191, kq191, q191a, q191b, q191c⟩ := isOf hZ e188 f172
  obtain ⟨_, _, ⟨T191, L191, k191, n191⟩, -, X191, ⟨Lc191, hQ191, l191, y191, z191⟩, st191⟩ := X188.virtualBack hx (y := (⟨"java/lang/String", "equals", "(Ljava/lang/Object;)Z"⟩ : MethodName)) (z := (⟨"java/lang/String", "equals", "(Ljava/lang/Object;)Z"⟩ : MethodName)) hown (mvT hZ (hw _ (List.mem_of_getElem? (i := 85) rfl))) (mvT hZ (hw _ (List.mem_of_getElem? (i := 86) rfl))) (notFace_of_selects (args := #[]) (mvT hZ (hw _ (List.mem_of_getElem? (i := 88) rfl)))) (mvT hZ (hw _ (List.mem_of_getElem? (i := 88) rfl))) (mvT hZ (hw _ (List.mem_of_getElem? (i := 87) rfl))) (by decide) (backOf (W := 1) (rm13 l Z a0 hw [] s1_104 s1_118 b1_104 kb_104 b1_118 kb_118 (own_l (if ¬ ((p0 &&& (2 : Int32)) = (0 : Int32)) then (.ref b9) else .null) (if ¬ ((p0 &&& (1 : Int32)) = (0 : Int32)) then (.ref b9) else .null)) (own_l (if ¬ ((p1 &&& (2 : Int32)) = (0 : Int32)) then (.ref b9) else .null) (if ¬ ((p1 &&& (1 : Int32)) = (0 : Int32)) then (.ref b9) else .null)) wz T160.heap n0 (Nat.le_trans Z0 K160.1) f173 f174 f175 f176 f177 f178 f179 (own_l3 _ _) (own_l3 _ _) (hS.ext f161.2) hnz) hZ (hw _ (List.mem_of_getElem? (i := 89) rfl)) (hw _ (List.mem_of_getElem? (i := 5) rfl)) (by decide) (by decide)) q191a q191c (g := (mkF m 190 #[.val (.int p0), .val (.int p1), .val (.int p2), .val (.int (bI (¬ ((p0 &&& (1 : Int32)) = (0 : Int32))))), .val (.int (bI (¬ ((p0 &&& (2 : Int32)) = (0 : Int32))))), .val (.int (bI (¬ ((p1 &&& (1 : Int32)) = (0 : Int32))))), .val (.int (bI (¬ ((p1 &&& (2 : Int32)) = (0 : Int32))))), .val (.ref b9), .val (.ref b52), .val (.ref b75), .val (.ref s1_104), .val (.ref s1_118), .val (.int (bI ((own_l (if ¬ ((p0 &&& (2 : Int32)) = (0 : Int32)) then (.ref b9) else .null) (if ¬ ((p0 &&& (1 : Int32)) = (0 : Int32)) then (.ref b9) else .null)) = (own_e (bI (¬ ((p0 &&& (1 : Int32)) = (0 : Int32)))) (bI (¬ ((p0 &&& (2 : Int32)) = (0 : Int32)))))))), .val (.int (bI ((own_l (if ¬ ((p1 &&& (2 : Int32)) = (0 : Int32)) then (.ref b9) else .null) (if ¬ ((p1 &&& (1 : Int32)) = (0 : Int32)) then (.ref b9) else .null)) = (own_e (bI (¬ ((p1 &&& (1 : Int32)) = (0 : Int32)))) (bI (¬ ((p1 &&& (2 : Int32)) = (0 : Int32)))))))), .unset] [(.ref s1_118), (.ref s1_104), (.int (bI (own_sl (if ¬ ((p0 &&& (2 : Int32)) = (0 : Int32)) then (.ref b9) else .null) (if ¬ ((p0 &&& (1 : Int32)) = (0 : Int32)) then (.ref b9) else .null) (if ¬ ((p1 &&& (2 : Int32)) = (0 : Int32)) then (.ref b9) else .null) (if ¬ ((p1 &&& (1 : Int32)) = (0 : Int32)) then (.ref b9) else .null) = true)))])) rfl (by rw [hml]; rfl) (Steps.refl _) (argsL := [(.ref s1_118)]) (rest := [(.int (bI (own_sl (if ¬ ((p0 &&& (2 : Int32)) = (0 : Int32)) then (.ref b9) else .null) (if ¬ ((p0 &&& (1 : Int32)) = (0 : Int32)) then (.ref b9) else .null) (if ¬ ((p1 &&& (2 : Int32)) = (0 : Int32)) then (.ref b9) else .null) (if ¬ ((p1 &&& (1 : Int32)) = (0 : Int32)) then (.ref b9) else .null) = true)))]) (lenOf pd__Ljava_lang_Object__Z rfl) rfl (by show 2 * 0 + _ ≤ _; exact Nat.le_of_eq rfl) (hb hby at_190) (fun _ _ => ⟨rfl, e188, (by decide : 27 + 0 ≤ _), (by decide : 350 + 0 ≤ _)⟩)
  dsimp only [Pt.U, Pt.locs, Pt.cells, Pt.slots] at X191 l191 y191 z191 st191 hQ191
  subst l191 y191 z191
  obtain ⟨rfl, N191q, e191⟩ := hQ191
  have N191 := Fr.app N188 N191q
  refine OGH.step (fun tz kz => st191.trans kz) ?_
  obtain ⟨Lz192, X191, N191⟩ : ∃ Lz, Stand p l e room_1 (s.setVm T160.vm) m #[(.int p0), (.int p1), (.int p2)] below meth c T191 Lz 27 350 ∧ Fr n0 Lz := ⟨_, X191, N191⟩
  show OGH _ _ _ _ _ _ _ _ (T191.setTop (mkF m 193 #[.val (.int p0), .val (.int p1), .val (.int p2), .val (.int (bI (¬ ((p0 &&& (1 : Int32)) = (0 : Int32))))), .val (.int (bI (¬ ((p0 &&& (2 : Int32)) = (0 : Int32))))), .val (.int (bI (¬ ((p1 &&& (1 : Int32)) = (0 : Int32))))), .val (.int (bI (¬ ((p1 &&& (2 : Int32)) = (0 : Int32))))), .val (.ref b9), .val (.ref b52), .val (.ref b75), .val (.ref s1_104), .val (.ref s1_118), .val (.int (bI ((own_l (if ¬ ((p0 &&& (2 : Int32)) = (0 : Int32)) then (.ref b9) else .null) (if ¬ ((p0 &&& (1 : Int32)) = (0 : Int32)) then (.ref b9) else .null)) = (own_e (bI (¬ ((p0 &&& (1 : Int32)) = (0 : Int32)))) (bI (¬ ((p0 &&& (2 : Int32)) = (0 : Int32)))))))), .val (.int (bI ((own_l (if ¬ ((p1 &&& (2 : Int32)) = (0 : Int32)) then (.ref b9) else .null) (if ¬ ((p1 &&& (1 : Int32)) = (0 : Int32)) then (.ref b9) else .null)) = (own_e (bI (¬ ((p1 &&& (1 : Int32)) = (0 : Int32)))) (bI (¬ ((p1 &&& (2 : Int32)) = (0 : Int32)))))))), .unset] [(.int (bI ((own_l (if ¬ ((p0 &&& (2 : Int32)) = (0 : Int32)) then (.ref b9) else .null) (if ¬ ((p0 &&& (1 : Int32)) = (0 : Int32)) then (.ref b9) else .null)) = (own_l (if ¬ ((p1 &&& (2 : Int32)) = (0 : Int32)) then (.ref b9) else .null) (if ¬ ((p1 &&& (1 : Int32)) = (0 : Int32)) then (.ref b9) else .null))))), (.int (bI (own_sl (if ¬ ((p0 &&& (2 : Int32)) = (0 : Int32)) then (.ref b9) else .null) (if ¬ ((p0 &&& (1 : Int32)) = (0 : Int32)) then (.ref b9) else .null) (if ¬ ((p1 &&& (2 : Int32)) = (0 : Int32)) then (.ref b9) else .null) (if ¬ ((p1 &&& (1 : Int32)) = (0 : Int32)) then (.ref b9) else .null) = true)))]))
  have s193 : ∀ tz, Steps p.tables e below (T191.setTop (mkF m 223 #[.val (.int p0), .val (.int p1), .val (.int p2), .val (.int (bI (¬ ((p0 &&& (1 : Int32)) = (0 : Int32))))), .val (.int (bI (¬ ((p0 &&& (2 : Int32)) = (0 : Int32))))), .val (.int (bI (¬ ((p1 &&& (1 : Int32)) = (0 : Int32))))), .val (.int (bI (¬ ((p1 &&& (2 : Int32)) = (0 : Int32))))), .val (.ref b9), .val (.ref b52), .val (.ref b75), .val (.ref s1_104), .val (.ref s1_118), .val (.int (bI ((own_l (if ¬ ((p0 &&& (2 : Int32)) = (0 : Int32)) then (.ref b9) else .null) (if ¬ ((p0 &&& (1 : Int32)) = (0 : Int32)) then (.ref b9) else .null)) = (own_e (bI (¬ ((p0 &&& (1 : Int32)) = (0 : Int32)))) (bI (¬ ((p0 &&& (2 : Int32)) = (0 : Int32)))))))), .val (.int (bI ((own_l (if ¬ ((p1 &&& (2 : Int32)) = (0 : Int32)) then (.ref b9) else .null) (if ¬ ((p1 &&& (1 : Int32)) = (0 : Int32)) then (.ref b9) else .null)) = (own_e (bI (¬ ((p1 &&& (1 : Int32)) = (0 : Int32)))) (bI (¬ ((p1 &&& (2 : Int32)) = (0 : Int32)))))))), .val (.int (1 : Int32))] [(.int (1 : Int32))])) tz → Steps p.tables e below (T191.setTop (mkF m 193 #[.val (.int p0), .val (.int p1), .val (.int p2), .val (.int (bI (¬ ((p0 &&& (1 : Int32)) = (0 : Int32))))), .val (.int (bI (¬ ((p0 &&& (2 : Int32)) = (0 : Int32))))), .val (.int (bI (¬ ((p1 &&& (1 : Int32)) = (0 : Int32))))), .val (.int (bI (¬ ((p1 &&& (2 : Int32)) = (0 : Int32))))), .val (.ref b9), .val (.ref b52), .val (.ref b75), .val (.ref s1_104), .val (.ref s1_118), .val (.int (bI ((own_l (if ¬ ((p0 &&& (2 : Int32)) = (0 : Int32)) then (.ref b9) else .null) (if ¬ ((p0 &&& (1 : Int32)) = (0 : Int32)) then (.ref b9) else .null)) = (own_e (bI (¬ ((p0 &&& (1 : Int32)) = (0 : Int32)))) (bI (¬ ((p0 &&& (2 : Int32)) = (0 : Int32)))))))), .val (.int (bI ((own_l (if ¬ ((p1 &&& (2 : Int32)) = (0 : Int32)) then (.ref b9) else .null) (if ¬ ((p1 &&& (1 : Int32)) = (0 : Int32)) then (.ref b9) else .null)) = (own_e (bI (¬ ((p1 &&& (1 : Int32)) = (0 : Int32)))) (bI (¬ ((p1 &&& (2 : Int32)) = (0 : Int32)))))))), .unset] [(.int (bI ((own_l (if ¬ ((p0 &&& (2 : Int32)) = (0 : Int32)) then (.ref b9) else .null) (if ¬ ((p0 &&& (1 : Int32)) = (0 : Int32)) then (.ref b9) else .null)) = (own_l (if ¬ ((p1 &&& (2 : Int32)) = (0 : Int32)) then (.ref b9) else .null) (if ¬ ((p1 &&& (1 : Int32)) = (0 : Int32)) then (.ref b9) else .null))))), (.int (bI (own_sl (if ¬ ((p0 &&& (2 : Int32)) = (0 : Int32)) then (.ref b9) else .null) (if ¬ ((p0 &&& (1 : Int32)) = (0 : Int32)) then (.ref b9) else .null) (if ¬ ((p1 &&& (2 : Int32)) = (0 : Int32)) then (.ref b9) else .null) (if ¬ ((p1 &&& (1 : Int32)) = (0 : Int32)) then (.ref b9) else .null) = true)))])) tz := by
    intro tz kz
    refine XS.icmpNo X191.here hx rfl (hb hby at_193) rfl (teq (bI_iff.mpr (own_key _ _ _ _ _ _ _ _))).2 ?_
    show Steps p.tables e below (T191.setTop (mkF m 196 #[.val (.int p0), .val (.int p1), .val (.int p2), .val (.int (bI (¬ ((p0 &&& (1 : Int32)) = (0 : Int32))))), .val (.int (bI (¬ ((p0 &&& (2 : Int32)) = (0 : Int32))))), .val (.int (bI (¬ ((p1 &&& (1 : Int32)) = (0 : Int32))))), .val (.int (bI (¬ ((p1 &&& (2 : Int32)) = (0 : Int32))))), .val (.ref b9), .val (.ref b52), .val (.ref b75), .val (.ref s1_104), .val (.ref s1_118), .val (.int (bI ((own_l (if ¬ ((p0 &&& (2 : Int32)) = (0 : Int32)) then (.ref b9) else .null) (if ¬ ((p0 &&& (1 : Int32)) = (0 : Int32)) then (.ref b9) else .null)) = (own_e (bI (¬ ((p0 &&& (1 : Int32)) = (0 : Int32)))) (bI (¬ ((p0 &&& (2 : Int32)) = (0 : Int32)))))))), .val (.int (bI ((own_l (if ¬ ((p1 &&& (2 : Int32)) = (0 : Int32)) then (.ref b9) else .null) (if ¬ ((p1 &&& (1 : Int32)) = (0 : Int32)) then (.ref b9) else .null)) = (own_e (bI (¬ ((p1 &&& (1 : Int32)) = (0 : Int32)))) (bI (¬ ((p1 &&& (2 : Int32)) = (0 : Int32)))))))), .unset] [])) _
    refine XS.iconst X191.here hx rfl (hb hby at_196) ?_
    show Steps p.tables e below (T191.setTop (mkF m 197 #[.val (.int p0), .val (.int p1), .val (.int p2), .val (.int (bI (¬ ((p0 &&& (1 : Int32)) = (0 : Int32))))), .val (.int (bI (¬ ((p0 &&& (2 : Int32)) = (0 : Int32))))), .val (.int (bI (¬ ((p1 &&& (1 : Int32)) = (0 : Int32))))), .val (.int (bI (¬ ((p1 &&& (2 : Int32)) = (0 : Int32))))), .val (.ref b9), .val (.ref b52), .val (.ref b75), .val (.ref s1_104), .val (.ref s1_118), .val (.int (bI ((own_l (if ¬ ((p0 &&& (2 : Int32)) = (0 : Int32)) then (.ref b9) else .null) (if ¬ ((p0 &&& (1 : Int32)) = (0 : Int32)) then (.ref b9) else .null)) = (own_e (bI (¬ ((p0 &&& (1 : Int32)) = (0 : Int32)))) (bI (¬ ((p0 &&& (2 : Int32)) = (0 : Int32)))))))), .val (.int (bI ((own_l (if ¬ ((p1 &&& (2 : Int32)) = (0 : Int32)) then (.ref b9) else .null) (if ¬ ((p1 &&& (1 : Int32)) = (0 : Int32)) then (.ref b9) else .null)) = (own_e (bI (¬ ((p1 &&& (1 : Int32)) = (0 : Int32)))) (bI (¬ ((p1 &&& (2 : Int32)) = (0 : Int32)))))))), .unset] [(.int (1 : Int32))])) _
    refine XS.goto X191.here hx rfl (pc0 := 197) (pc' := 201) rfl (hb hby at_197) (by decide) (by decide) ?_
    show Steps p.tables e below (T191.setTop (mkF m 201 #[.val (.int p0), .val (.int p1), .val (.int p2), .val (.int (bI (¬ ((p0 &&& (1 : Int32)) = (0 : Int32))))), .val (.int (bI (¬ ((p0 &&& (2 : Int32)) = (0 : Int32))))), .val (.int (bI (¬ ((p1 &&& (1 : Int32)) = (0 : Int32))))), .val (.int (bI (¬ ((p1 &&& (2 : Int32)) = (0 : Int32))))), .val (.ref b9), .val (.ref b52), .val (.ref b75), .val (.ref s1_104), .val (.ref s1_118), .val (.int (bI ((own_l (if ¬ ((p0 &&& (2 : Int32)) = (0 : Int32)) then (.ref b9) else .null) (if ¬ ((p0 &&& (1 : Int32)) = (0 : Int32)) then (.ref b9) else .null)) = (own_e (bI (¬ ((p0 &&& (1 : Int32)) = (0 : Int32)))) (bI (¬ ((p0 &&& (2 : Int32)) = (0 : Int32)))))))), .val (.int (bI ((own_l (if ¬ ((p1 &&& (2 : Int32)) = (0 : Int32)) then (.ref b9) else .null) (if ¬ ((p1 &&& (1 : Int32)) = (0 : Int32)) then (.ref b9) else .null)) = (own_e (bI (¬ ((p1 &&& (1 : Int32)) = (0 : Int32)))) (bI (¬ ((p1 &&& (2 : Int32)) = (0 : Int32)))))))), .unset] [(.int (1 : Int32))])) _
    refine XS.istore X191.here hx rfl (hb hby at_201) rfl (l' := #[.val (.int p0), .val (.int p1), .val (.int p2), .val (.int (bI (¬ ((p0 &&& (1 : Int32)) = (0 : Int32))))), .val (.int (bI (¬ ((p0 &&& (2 : Int32)) = (0 : Int32))))), .val (.int (bI (¬ ((p1 &&& (1 : Int32)) = (0 : Int32))))), .val (.int (bI (¬ ((p1 &&& (2 : Int32)) = (0 : Int32))))), .val (.ref b9), .val (.ref b52), .val (.ref b75), .val (.ref s1_104), .val (.ref s1_118), .val (.int (bI ((own_l (if ¬ ((p0 &&& (2 : Int32)) = (0 : Int32)) then (.ref b9) else .null) (if ¬ ((p0 &&& (1 : Int32)) = (0 : Int32)) then (.ref b9) else .null)) = (own_e (bI (¬ ((p0 &&& (1 : Int32)) = (0 : Int32)))) (bI (¬ ((p0 &&& (2 : Int32)) = (0 : Int32)))))))), .val (.int (bI ((own_l (if ¬ ((p1 &&& (2 : Int32)) = (0 : Int32)) then (.ref b9) else .null) (if ¬ ((p1 &&& (1 : Int32)) = (0 : Int32)) then (.ref b9) else .null)) = (own_e (bI (¬ ((p1 &&& (1 : Int32)) = (0 : Int32)))) (bI (¬ ((p1 &&& (2 : Int32)) = (0 : Int32)))))))), .val (.int (1 : Int32))]) rfl ?_
    show Steps p.tables e below (T191.setTop (mkF m 203 #[.val (.int p0), .val (.int p1), .val (.int p2), .val (.int (bI (¬ ((p0 &&& (1 : Int32)) = (0 : Int32))))), .val (.int (bI (¬ ((p0 &&& (2 : Int32)) = (0 : Int32))))), .val (.int (bI (¬ ((p1 &&& (1 : Int32)) = (0 : Int32))))), .val (.int (bI (¬ ((p1 &&& (2 : Int32)) = (0 : Int32))))), .val (.ref b9), .val (.ref b52), .val (.ref b75), .val (.ref s1_104), .val (.ref s1_118), .val (.int (bI ((own_l (if ¬ ((p0 &&& (2 : Int32)) = (0 : Int32)) then (.ref b9) else .null) (if ¬ ((p0 &&& (1 : Int32)) = (0 : Int32)) then (.ref b9) else .null)) = (own_e (bI (¬ ((p0 &&& (1 : Int32)) = (0 : Int32)))) (bI (¬ ((p0 &&& (2 : Int32)) = (0 : Int32)))))))), .val (.int (bI ((own_l (if ¬ ((p1 &&& (2 : Int32)) = (0 : Int32)) then (.ref b9) else .null) (if ¬ ((p1 &&& (1 : Int32)) = (0 : Int32)) then (.ref b9) else .null)) = (own_e (bI (¬ ((p1 &&& (1 : Int32)) = (0 : Int32)))) (bI (¬ ((p1 &&& (2 : Int32)) = (0 : Int32)))))))), .val (.int (1 : Int32))] [])) _
    refine XS.iload X191.here hx rfl (hb hby at_203) rfl ?_
    show Steps p.tables e below (T191.setTop (mkF m 205 #[.val (.int p0), .val (.int p1), .val (.int p2), .val (.int (bI (¬ ((p0 &&& (1 : Int32)) = (0 : Int32))))), .val (.int (bI (¬ ((p0 &&& (2 : Int32)) = (0 : Int32))))), .val (.int (bI (¬ ((p1 &&& (1 : Int32)) = (0 : Int32))))), .val (.int (bI (¬ ((p1 &&& (2 : Int32)) = (0 : Int32))))), .val (.ref b9), .val (.ref b52), .val (.ref b75), .val (.ref s1_104), .val (.ref s1_118), .val (.int (bI ((own_l (if ¬ ((p0 &&& (2 : Int32)) = (0 : Int32)) then (.ref b9) else .null) (if ¬ ((p0 &&& (1 : Int32)) = (0 : Int32)) then (.ref b9) else .null)) = (own_e (bI (¬ ((p0 &&& (1 : Int32)) = (0 : Int32)))) (bI (¬ ((p0 &&& (2 : Int32)) = (0 : Int32)))))))), .val (.int (bI ((own_l (if ¬ ((p1 &&& (2 : Int32)) = (0 : Int32)) then (.ref b9) else .null) (if ¬ ((p1 &&& (1 : Int32)) = (0 : Int32)) then (.ref b9) else .null)) = (own_e (bI (¬ ((p1 &&& (1 : Int32)) = (0 : Int32)))) (bI (¬ ((p1 &&& (2 : Int32)) = (0 : Int32)))))))), .val (.int (1 : Int32))] [(.int (bI ((own_l (if ¬ ((p0 &&& (2 : Int32)) = (0 : Int32)) then (.ref b9) else .null) (if ¬ ((p0 &&& (1 : Int32)) = (0 : Int32)) then (.ref b9) else .null)) = (own_e (bI (¬ ((p0 &&& (1 : Int32)) = (0 : Int32)))) (bI (¬ ((p0 &&& (2 : Int32)) = (0 : Int32))))))))])) _
    refine XS.ifNo X191.here hx rfl (hb hby at_205) rfl ((if0 _ _).trans (feq (bI_ne0 (own_k1 _ _ _ _))).1) ?_
    show Steps p.tables e below (T191.setTop (mkF m 208 #[.val (.int p0), .val (.int p1), .val (.int p2), .val (.int (bI (¬ ((p0 &&& (1 : Int32)) = (0 : Int32))))), .val (.int (bI (¬ ((p0 &&& (2 : Int32)) = (0 : Int32))))), .val (.int (bI (¬ ((p1 &&& (1 : Int32)) = (0 : Int32))))), .val (.int (bI (¬ ((p1 &&& (2 : Int32)) = (0 : Int32))))), .val (.ref b9), .val (.ref b52), .val (.ref b75), .val (.ref s1_104), .val (.ref s1_118), .val (.int (bI ((own_l (if ¬ ((p0 &&& (2 : Int32)) = (0 : Int32)) then (.ref b9) else .null) (if ¬ ((p0 &&& (1 : Int32)) = (0 : Int32)) then (.ref b9) else .null)) = (own_e (bI (¬ ((p0 &&& (1 : Int32)) = (0 : Int32)))) (bI (¬ ((p0 &&& (2 : Int32)) = (0 : Int32)))))))), .val (.int (bI ((own_l (if ¬ ((p1 &&& (2 : Int32)) = (0 : Int32)) then (.ref b9) else .null) (if ¬ ((p1 &&& (1 : Int32)) = (0 : Int32)) then (.ref b9) else .null)) = (own_e (bI (¬ ((p1 &&& (1 : Int32)) = (0 : Int32)))) (bI (¬ ((p1 &&& (2 : Int32)) = (0 : Int32)))))))), .val (.int (1 : Int32))] [])) _
    refine XS.iload X191.here hx rfl (hb hby at_208) rfl ?_
    show Steps p.tables e below (T191.setTop (mkF m 210 #[.val (.int p0), .val (.int p1), .val (.int p2), .val (.int (bI (¬ ((p0 &&& (1 : Int32)) = (0 : Int32))))), .val (.int (bI (¬ ((p0 &&& (2 : Int32)) = (0 : Int32))))), .val (.int (bI (¬ ((p1 &&& (1 : Int32)) = (0 : Int32))))), .val (.int (bI (¬ ((p1 &&& (2 : Int32)) = (0 : Int32))))), .val (.ref b9), .val (.ref b52), .val (.ref b75), .val (.ref s1_104), .val (.ref s1_118), .val (.int (bI ((own_l (if ¬ ((p0 &&& (2 : Int32)) = (0 : Int32)) then (.ref b9) else .null) (if ¬ ((p0 &&& (1 : Int32)) = (0 : Int32)) then (.ref b9) else .null)) = (own_e (bI (¬ ((p0 &&& (1 : Int32)) = (0 : Int32)))) (bI (¬ ((p0 &&& (2 : Int32)) = (0 : Int32)))))))), .val (.int (bI ((own_l (if ¬ ((p1 &&& (2 : Int32)) = (0 : Int32)) then (.ref b9) else .null) (if ¬ ((p1 &&& (1 : Int32)) = (0 : Int32)) then (.ref b9) else .null)) = (own_e (bI (¬ ((p1 &&& (1 : Int32)) = (0 : Int32)))) (bI (¬ ((p1 &&& (2 : Int32)) = (0 : Int32)))))))), .val (.int (1 : Int32))] [(.int (bI ((own_l (if ¬ ((p1 &&& (2 : Int32)) = (0 : Int32)) then (.ref b9) else .null) (if ¬ ((p1 &&& (1 : Int32)) = (0 : Int32)) then (.ref b9) else .null)) = (own_e (bI (¬ ((p1 &&& (1 : Int32)) = (0 : Int32)))) (bI (¬ ((p1 &&& (2 : Int32)) = (0 : Int32))))))))])) _
    refine XS.ifNo X191.here hx rfl (hb hby at_210) rfl ((if0 _ _).trans (feq (bI_ne0 (own_k1 _ _ _ _))).1) ?_
    show Steps p.tables e below (T191.setTop (mkF m 213 #[.val (.int p0), .val (.int p1), .val (.int p2), .val (.int (bI (¬ ((p0 &&& (1 : Int32)) = (0 : Int32))))), .val (.int (bI (¬ ((p0 &&& (2 : Int32)) = (0 : Int32))))), .val (.int (bI (¬ ((p1 &&& (1 : Int32)) = (0 : Int32))))), .val (.int (bI (¬ ((p1 &&& (2 : Int32)) = (0 : Int32))))), .val (.ref b9), .val (.ref b52), .val (.ref b75), .val (.ref s1_104), .val (.ref s1_118), .val (.int (bI ((own_l (if ¬ ((p0 &&& (2 : Int32)) = (0 : Int32)) then (.ref b9) else .null) (if ¬ ((p0 &&& (1 : Int32)) = (0 : Int32)) then (.ref b9) else .null)) = (own_e (bI (¬ ((p0 &&& (1 : Int32)) = (0 : Int32)))) (bI (¬ ((p0 &&& (2 : Int32)) = (0 : Int32)))))))), .val (.int (bI ((own_l (if ¬ ((p1 &&& (2 : Int32)) = (0 : Int32)) then (.ref b9) else .null) (if ¬ ((p1 &&& (1 : Int32)) = (0 : Int32)) then (.ref b9) else .null)) = (own_e (bI (¬ ((p1 &&& (1 : Int32)) = (0 : Int32)))) (bI (¬ ((p1 &&& (2 : Int32)) = (0 : Int32)))))))), .val (.int (1 : Int32))] [])) _
    refine XS.iload X191.here hx rfl (hb hby at_213) rfl ?_
    show Steps p.tables e below (T191.setTop (mkF m 215 #[.val (.int p0), .val (.int p1), .val (.int p2), .val (.int (bI (¬ ((p0 &&& (1 : Int32)) = (0 : Int32))))), .val (.int (bI (¬ ((p0 &&& (2 : Int32)) = (0 : Int32))))), .val (.int (bI (¬ ((p1 &&& (1 : Int32)) = (0 : Int32))))), .val (.int (bI (¬ ((p1 &&& (2 : Int32)) = (0 : Int32))))), .val (.ref b9), .val (.ref b52), .val (.ref b75), .val (.ref s1_104), .val (.ref s1_118), .val (.int (bI ((own_l (if ¬ ((p0 &&& (2 : Int32)) = (0 : Int32)) then (.ref b9) else .null) (if ¬ ((p0 &&& (1 : Int32)) = (0 : Int32)) then (.ref b9) else .null)) = (own_e (bI (¬ ((p0 &&& (1 : Int32)) = (0 : Int32)))) (bI (¬ ((p0 &&& (2 : Int32)) = (0 : Int32)))))))), .val (.int (bI ((own_l (if ¬ ((p1 &&& (2 : Int32)) = (0 : Int32)) then (.ref b9) else .null) (if ¬ ((p1 &&& (1 : Int32)) = (0 : Int32)) then (.ref b9) else .null)) = (own_e (bI (¬ ((p1 &&& (1 : Int32)) = (0 : Int32)))) (bI (¬ ((p1 &&& (2 : Int32)) = (0 : Int32)))))))), .val (.int (1 : Int32))] [(.int (1 : Int32))])) _
    refine XS.ifNo X191.here hx rfl (hb hby at_215) rfl ((if0 _ _).trans (feq (by decide)).1) ?_
    show Steps p.tables e below (T191.setTop (mkF m 218 #[.val (.int p0), .val (.int p1), .val (.int p2), .val (.int (bI (¬ ((p0 &&& (1 : Int32)) = (0 : Int32))))), .val (.int (bI (¬ ((p0 &&& (2 : Int32)) = (0 : Int32))))), .val (.int (bI (¬ ((p1 &&& (1 : Int32)) = (0 : Int32))))), .val (.int (bI (¬ ((p1 &&& (2 : Int32)) = (0 : Int32))))), .val (.ref b9), .val (.ref b52), .val (.ref b75), .val (.ref s1_104), .val (.ref s1_118), .val (.int (bI ((own_l (if ¬ ((p0 &&& (2 : Int32)) = (0 : Int32)) then (.ref b9) else .null) (if ¬ ((p0 &&& (1 : Int32)) = (0 : Int32)) then (.ref b9) else .null)) = (own_e (bI (¬ ((p0 &&& (1 : Int32)) = (0 : Int32)))) (bI (¬ ((p0 &&& (2 : Int32)) = (0 : Int32)))))))), .val (.int (bI ((own_l (if ¬ ((p1 &&& (2 : Int32)) = (0 : Int32)) then (.ref b9) else .null) (if ¬ ((p1 &&& (1 : Int32)) = (0 : Int32)) then (.ref b9) else .null)) = (own_e (bI (¬ ((p1 &&& (1 : Int32)) = (0 : Int32)))) (bI (¬ ((p1 &&& (2 : Int32)) = (0 : Int32)))))))), .val (.int (1 : Int32))] [])) _
    refine XS.iconst X191.here hx rfl (hb hby at_218) ?_
    show Steps p.tables e below (T191.setTop (mkF m 219 #[.val (.int p0), .val (.int p1), .val (.int p2), .val (.int (bI (¬ ((p0 &&& (1 : Int32)) = (0 : Int32))))), .val (.int (bI (¬ ((p0 &&& (2 : Int32)) = (0 : Int32))))), .val (.int (bI (¬ ((p1 &&& (1 : Int32)) = (0 : Int32))))), .val (.int (bI (¬ ((p1 &&& (2 : Int32)) = (0 : Int32))))), .val (.ref b9), .val (.ref b52), .val (.ref b75), .val (.ref s1_104), .val (.ref s1_118), .val (.int (bI ((own_l (if ¬ ((p0 &&& (2 : Int32)) = (0 : Int32)) then (.ref b9) else .null) (if ¬ ((p0 &&& (1 : Int32)) = (0 : Int32)) then (.ref b9) else .null)) = (own_e (bI (¬ ((p0 &&& (1 : Int32)) = (0 : Int32)))) (bI (¬ ((p0 &&& (2 : Int32)) = (0 : Int32)))))))), .val (.int (bI ((own_l (if ¬ ((p1 &&& (2 : Int32)) = (0 : Int32)) then (.ref b9) else .null) (if ¬ ((p1 &&& (1 : Int32)) = (0 : Int32)) then (.ref b9) else .null)) = (own_e (bI (¬ ((p1 &&& (1 : Int32)) = (0 : Int32)))) (bI (¬ ((p1 &&& (2 : Int32)) = (0 : Int32)))))))), .val (.int (1 : Int32))] [(.int (1 : Int32))])) _
    refine XS.goto X191.here hx rfl (pc0 := 219) (pc' := 223) rfl (hb hby at_219) (by decide) (by decide) ?_
    exact kz
  refine OGH.step s193 ?_
  exact OGH.retZ X191 hS160 (Nat.le_refl _) hZ hEL hh hC160 hx hlk Bd.returns (hb hby at_223) (nar_1) e191 ⟨rfl, N191⟩ (by decide) (by decide)
set_option maxRecDepth 65536 in
set_option maxHeartbeats 40000000 in
theorem comes_1 {Post : Tables → Env → Array Value → State → Outcome → State → Prop} (hpost : ∀ tb e args s v u, (limb_1_1.after args s (.returned v) u = true ∧ limb_1_2.after args s (.returned v) u = true ∧ True) → ReturnedEndW s (.returned v) u (Jvm.fieldLocs frame_1_writes args s ++ Jvm.arrayLocs frame_1_arrays args s ++ Jvm.staticLocs frame_1_statics s) 40 10432 → Post tb e args s (.returned v) u) :
    ArmFor flags0 classFile x code maxLocals ret World_1 tables_1 room_1 Calls_1 rest_1 Pre_1 Post := by
  intro l hfl _ _ p e ha hc hk s m args below hf hA hF happ hP
  obtain ⟨hcalls, hrest, hpre⟩ := hP
  obtain ⟨-, -, -, hnamed, -, -, -, hat⟩ := (Spec.applies_iff hf).mp happ
  obtain ⟨hg, hn⟩ := and_e (Cond.before_iff.mp (show (Jvm.Cond.and given_1 narrow_1).before args s = true from hpre))
  obtain ⟨hcount, hg0⟩ := and_e hg
  obtain ⟨ha0, hg1⟩ := and_e hg0
  obtain ⟨ha1, hg2⟩ := and_e hg1
  obtain ⟨w0, w1, w2, rfl⟩ : ∃ w0 w1 w2 : Value, args = #[w0, w1, w2] := by
    have hs : args.size = 3 := by simpa [Cond.value, given_1] using hcount
    obtain ⟨L⟩ := args
    match L, hs with
    | [w0, w1, w2], _ => exact ⟨w0, w1, w2, rfl⟩
  have hw := fun d (hd : d ∈ tables_1) => atoms_spec (ws := Jvm.Cond.code x code maxLocals ret :: tables_1) hat d (List.mem_cons_of_mem _ hd)
  obtain ⟨i0, ei0⟩ := is_v ha0
  obtain rfl : w0 = (.int i0) := Option.some.inj ei0
  obtain ⟨i1, ei1⟩ := is_v ha1
  obtain rfl : w1 = (.int i1) := Option.some.inj ei1
  obtain ⟨i2, ei2⟩ := is_v hg2
  obtain rfl : w2 = (.int i2) := Option.some.inj ei2
  obtain ⟨hsets, hown0⟩ := atoms_of _ (rest_1_c_eq ▸ (show rest_1_c.before _ s = true from hrest))
  obtain ⟨wz, ewz⟩ := is_v (Cond.before_iff.mp (hsets _ (List.mem_of_getElem? (i := 1) rfl)))
  have hS0 : Sta s s.heap "java/lang/String" "COMPACT_STRINGS" "Z" (.int wz) := Sta.start ewz (Or.inl (hsets _ (List.mem_of_getElem? (i := 0) rfl)))
  have hnz : ¬ wz = (0 : Int32) := fun q => by
    have w := not_v (Cond.before_iff.mp (hsets _ (List.mem_of_getElem? (i := 2) rfl)))
    subst q
    have u := eq_i ewz (Term.int_eval (0)) rfl
    exact absurd (w.symm.trans u) (by decide)
  have hH0 : CHv s own_EL s.vm s.heap := CHv.start (own_EW hw) (fun q hq => hcalls.1 q (own_sub q hq)) (hsets _ (List.mem_of_getElem? (i := 2) rfl)) (own_wS hw _ (List.mem_of_getElem? (i := 2) rfl)) (own_wS hw _ (List.mem_of_getElem? (i := 1) rfl))
  obtain ⟨n, o, h1, h2, h3, _, L, rfl, ⟨rfl, N⟩, -, hq⟩ := rm0 l s _ hw tables_1 i0 i1 i2 wz s.heap s.heap.size (Nat.le_refl _) (Old.start s) hS0 hnz p e ha hc hk s m _ below hf ((Spec.applies_iff_loose hf).mp happ).1 ⟨rfl, State.Warmed39.refl s, rfl, hH0⟩ trivial
  refine ⟨n, _, h1, h2, h3, hpost _ _ _ _ _ _ ⟨Cond.after_iff.mpr rfl, Cond.after_iff.mpr (eq_i res_at (Term.int_eval (1)) rfl), trivial⟩ ⟨hq.1, hq.2.1, hq.2.2.1, (hq.2.2.2.sift fun y hy => Or.inr (N y hy)).mono (by decide) (by decide)⟩⟩
theorem main_1_1 : Claimed_1_1 := comes_1 fun _ _ _ _ _ _ h hF => ⟨h.1, hF⟩
theorem main_1_2 : Claimed_1_2 := comes_1 fun _ _ _ _ _ _ h hF => ⟨h.2.1, hF⟩
end Jvm.Pilot.@@N@@
namespace Jvm.Pilot.@@N@@
open Jvm Jvm.ClassFile Sem Op Lib Jvm.Free Jvm.Stand Jvm.Pilot.@@N@@.Jvm.D
/-! MADE BY PROGRAM (witnessworld.py) out of the Statement's table words and the real class files: 20 classes; the members and pool entries that the words name. The judged class is class 1, her method 2. -/
namespace start1
open Jvm.ClassFile
def u (s : String) : CpInfo := .utf8 (stringToUtf16 s)
/-- a pool by its gaps: so many unusable entries, then the entry; so many at the end -/
def gap : Nat → List CpInfo → List CpInfo
  | 0, r => r
  | n + 1, r => .unusable :: gap n r
def poolList (es : List (Nat × CpInfo)) (last : Nat) : List CpInfo := es.foldr (fun e r => gap e.1 (e.2 :: r)) (gap last [])
def pool (es : List (Nat × CpInfo)) (last : Nat) : Array CpInfo := ⟨poolList es last⟩
def fileOf (pool : Array CpInfo) (this : Nat) (attrs : Array Attribute := #[]) (ms : Array MethodInfo := #[]) (fl : Nat := 33) (sup : Nat := 0) (ifs : Array Nat := #[]) (fds : Array FieldInfo := #[]) : ClassFile where
  minorVersion := 0
  majorVersion := 65
  constantPool := pool
  accessFlags := fl
  thisClass := this
  superClass := sup
  interfaces := ifs
  fields := fds
  methods := ms
  attributes := attrs
def plain (name : String) (sup : Option ClassId) : Class where
  name := name
  kind := .ordinary
  loader := none
  accessFlags := 33
  super := sup
  interfaces := #[]
  cf := none
  fields := #[]
  methods := #[]
  instanceTypes := #[]
  staticTypes := #[]
  resolved := #[]
  callSites := []
  init := .initialized
  statics := none
  mirror := none

def pool0 : Array CpInfo := pool [(5, u "<init>"), (0, u "()V"), (1, .class_ 10), (1, u "java/lang/Object")] 113

def k0c0 : Code := { maxStack := 0, maxLocals := 1, code := object_method_1_code, exceptionTable := #[], attributes := #[] }
def k0m0 : Method := { name := "<init>", desc := "()V", sig := { parameters := [], returnType := none }, accessFlags := 1, code := some k0c0 }
/-- java/lang/Object -/
def k0 : Class := { plain "java/lang/Object" none with
  accessFlags := 33
  interfaces := #[]
  cf := some (fileOf pool0 8 #[] #[{ accessFlags := 1, nameIndex := 5, descriptorIndex := 6, attributes := #[] }] 33 0 #[] #[])
  fields := #[]
  methods := #[k0m0]
  instanceTypes := #[]
  staticTypes := #[]
  resolved := Array.replicate 124 none
  statics := none }

def pool1 : Array CpInfo := pool [(2, .class_ 4), (1, u "java/lang/Object"), (0, u "<init>"), (0, u "()V"), (0, .string 8), (0, u "visit"), (0, .string 10), (0, u "account"), (0, .string 12), (0, u "patient"), (0, .class_ 14), (0, u "com/example/mergeward/mergeward/core/Identifier"), (0, .methodref 16 17), (0, .class_ 18), (0, .nameAndType 19 20), (0, u "java/lang/String"), (0, u "valueOf"), (0, u "(C)Ljava/lang/String;"), (0, .string 22), (0, u ""), (0, .methodref 13 24), (0, .nameAndType 5 25), (0, u "(Ljava/lang/String;Ljava/lang/String;Ljava/lang/String;)V"), (0, .class_ 27), (0, u "com/example/mergeward/mergeward/core/RecordPath"), (0, .methodref 26 29), (0, .nameAndType 5 30), (0, u "(Lcom/example/mergeward/mergeward/core/Identifier;Lcom/example/mergeward/mergeward/core/Identifier;Lcom/example/mergeward/mergeward/core/Identifier;)V"), (0, .methodref 26 32), (0, .nameAndType 33 34), (0, u "level"), (0, u "()Ljava/lang/String;"), (0, .methodref 36 37), (0, .class_ 38), (0, .nameAndType 39 40), (0, u "com/example/mergeward/mergeward/core/RecordPathLevelPinLaw"), (0, u "expected"), (0, u "(ZZ)Ljava/lang/String;"), (0, .methodref 16 42), (0, .nameAndType 43 44), (0, u "equals"), (0, u "(Ljava/lang/Object;)Z"), (0, .methodref 26 46), (0, .nameAndType 47 48), (0, u "sameLevelAs"), (0, u "(Lcom/example/mergeward/mergeward/core/RecordPath;)Z"), (3, u "law"), (0, u "(III)Z")] 2

def k1m0 : Method := { name := "<init>", desc := "()V", sig := { parameters := [], returnType := none }, accessFlags := 1, code := none }
def k1c1 : Code := { maxStack := 1, maxLocals := 2, code := method_2_code, exceptionTable := #[], attributes := #[] }
def k1m1 : Method := { name := "expected", desc := "(ZZ)Ljava/lang/String;", sig := { parameters := [.boolean, .boolean], returnType := some (.object "java/lang/String") }, accessFlags := 10, code := some k1c1 }
def k1c2 : Code := { maxStack := 5, maxLocals := 15, code := code, exceptionTable := #[], attributes := #[] }
def k1m2 : Method := { name := "law", desc := "(III)Z", sig := { parameters := [.int, .int, .int], returnType := some .boolean }, accessFlags := 9, code := some k1c2 }
/-- com/example/mergeward/mergeward/core/RecordPathLevelPinLaw -/
def k1 : Class := { plain "com/example/mergeward/mergeward/core/RecordPathLevelPinLaw" (some 0) with
  accessFlags := 49
  interfaces := #[]
  cf := some (fileOf pool1 36 #[] #[{ accessFlags := 1, nameIndex := 5, descriptorIndex := 6, attributes := #[] }, { accessFlags := 10, nameIndex := 39, descriptorIndex := 40, attributes := #[] }, { accessFlags := 9, nameIndex := 52, descriptorIndex := 53, attributes := #[] }] 49 2 #[] #[])
  fields := #[]
  methods := #[k1m0, k1m1, k1m2]
  instanceTypes := #[]
  staticTypes := #[]
  resolved := Array.replicate 56 none
  statics := none }

def pool2 : Array CpInfo := pool [(1, .methodref 2 3), (0, .class_ 4), (0, .nameAndType 5 6), (0, u "java/lang/Object"), (0, u "<init>"), (0, u "()V"), (0, .class_ 8), (0, u "java/lang/Record")] 13

def k2c0 : Code := { maxStack := 1, maxLocals := 1, code := jdk_30_method_1_code, exceptionTable := #[], attributes := #[] }
def k2m0 : Method := { name := "<init>", desc := "()V", sig := { parameters := [], returnType := none }, accessFlags := 4, code := some k2c0 }
/-- java/lang/Record -/
def k2 : Class := { plain "java/lang/Record" (some 0) with
  accessFlags := 1057
  interfaces := #[]
  cf := some (fileOf pool2 7 #[] #[{ accessFlags := 4, nameIndex := 5, descriptorIndex := 6, attributes := #[] }] 1057 2 #[] #[])
  fields := #[]
  methods := #[k2m0]
  instanceTypes := #[]
  staticTypes := #[]
  resolved := Array.replicate 22 none
  statics := none }

def pool3 : Array CpInfo := pool [(1, .methodref 2 3), (0, .class_ 4), (0, .nameAndType 5 6), (0, u "java/lang/Record"), (0, u "<init>"), (0, u "()V"), (0, .string 8), (0, u "value"), (0, .methodref 10 11), (0, .class_ 12), (0, .nameAndType 13 14), (0, u "java/util/Objects"), (0, u "requireNonNull"), (0, u "(Ljava/lang/Object;Ljava/lang/String;)Ljava/lang/Object;"), (0, .string 16), (0, u "assigningAuthority"), (0, .string 18), (0, u "typeCode"), (0, .methodref 20 21), (0, .class_ 22), (0, .nameAndType 23 24), (0, u "java/lang/String"), (0, u "isEmpty"), (0, u "()Z"), (7, .fieldref 33 34), (0, .class_ 35), (0, .nameAndType 8 36), (0, u "com/example/mergeward/mergeward/core/Identifier"), (0, u "Ljava/lang/String;"), (0, .fieldref 33 38), (0, .nameAndType 16 36), (0, .fieldref 33 40), (0, .nameAndType 18 36), (71, u "(Ljava/lang/String;Ljava/lang/String;Ljava/lang/String;)V")] 64

def k3c0 : Code := { maxStack := 3, maxLocals := 4, code := prog_32_method_1_code, exceptionTable := #[], attributes := #[] }
def k3m0 : Method := { name := "<init>", desc := "(Ljava/lang/String;Ljava/lang/String;Ljava/lang/String;)V", sig := { parameters := [(.object "java/lang/String"), (.object "java/lang/String"), (.object "java/lang/String")], returnType := none }, accessFlags := 1, code := some k3c0 }
/-- com/example/mergeward/mergeward/core/Identifier -/
def k3 : Class := { plain "com/example/mergeward/mergeward/core/Identifier" (some 2) with
  accessFlags := 49
  interfaces := #[]
  cf := some (fileOf pool3 33 #[] #[{ accessFlags := 1, nameIndex := 5, descriptorIndex := 112, attributes := #[] }] 49 2 #[] #[{ accessFlags := 18, nameIndex := 8, descriptorIndex := 36, attributes := #[] }, { accessFlags := 18, nameIndex := 16, descriptorIndex := 36, attributes := #[] }, { accessFlags := 18, nameIndex := 18, descriptorIndex := 36, attributes := #[] }])
  fields := #[{ name := "value", type := (.object "java/lang/String"), accessFlags := 18, slot := 0, constantValue := 0 }, { name := "assigningAuthority", type := (.object "java/lang/String"), accessFlags := 18, slot := 1, constantValue := 0 }, { name := "typeCode", type := (.object "java/lang/String"), accessFlags := 18, slot := 2, constantValue := 0 }]
  methods := #[k3m0]
  instanceTypes := #[(.object "java/lang/String"), (.object "java/lang/String"), (.object "java/lang/String")]
  staticTypes := #[]
  resolved := Array.replicate 177 none
  statics := none }

def pool4 : Array CpInfo := pool [(1, .class_ 2), (0, u "java/io/Serializable"), (0, .class_ 4), (0, u "java/lang/Object")] 2

/-- java/io/Serializable -/
def k4 : Class := { plain "java/io/Serializable" (some 0) with
  accessFlags := 1537
  interfaces := #[]
  cf := some (fileOf pool4 1 #[] #[] 1537 3 #[] #[])
  fields := #[]
  methods := #[]
  instanceTypes := #[]
  staticTypes := #[]
  resolved := Array.replicate 7 none
  statics := none }

def pool5 : Array CpInfo := pool [(1, .class_ 2), (0, u "java/lang/Comparable"), (0, .class_ 4), (0, u "java/lang/Object")] 7

/-- java/lang/Comparable -/
def k5 : Class := { plain "java/lang/Comparable" (some 0) with
  accessFlags := 1537
  interfaces := #[]
  cf := some (fileOf pool5 1 #[] #[] 1537 3 #[] #[])
  fields := #[]
  methods := #[]
  instanceTypes := #[]
  staticTypes := #[]
  resolved := Array.replicate 12 none
  statics := none }

def pool6 : Array CpInfo := pool [(2, .class_ 4), (1, u "java/lang/CharSequence"), (42, .class_ 48), (0, u "java/lang/CharSequence$1CodePointIterator"), (10, .class_ 60), (0, u "java/lang/CharSequence$1CharIterator"), (5, .class_ 67), (0, u "java/lang/Object")] 63

/-- java/lang/CharSequence -/
def k6 : Class := { plain "java/lang/CharSequence" (some 0) with
  accessFlags := 1537
  interfaces := #[]
  cf := some (fileOf pool6 2 #[.nestMembers #[47, 59]] #[] 1537 66 #[] #[])
  fields := #[]
  methods := #[]
  instanceTypes := #[]
  staticTypes := #[]
  resolved := Array.replicate 131 none
  statics := none }

def pool7 : Array CpInfo := pool [(1, .class_ 2), (0, u "java/lang/constant/Constable"), (0, .class_ 4), (0, u "java/lang/Object")] 6

/-- java/lang/constant/Constable -/
def k7 : Class := { plain "java/lang/constant/Constable" (some 0) with
  accessFlags := 1537
  interfaces := #[]
  cf := some (fileOf pool7 1 #[] #[] 1537 3 #[] #[])
  fields := #[]
  methods := #[]
  instanceTypes := #[]
  staticTypes := #[]
  resolved := Array.replicate 11 none
  statics := none }

def pool8 : Array CpInfo := pool [(1, .class_ 2), (0, u "java/lang/constant/ConstantDesc"), (0, .class_ 4), (0, u "java/lang/Object")] 32

/-- java/lang/constant/ConstantDesc -/
def k8 : Class := { plain "java/lang/constant/ConstantDesc" (some 0) with
  accessFlags := 1537
  interfaces := #[]
  cf := some (fileOf pool8 1 #[] #[] 1537 3 #[] #[])
  fields := #[]
  methods := #[]
  instanceTypes := #[]
  staticTypes := #[]
  resolved := Array.replicate 37 none
  statics := none }

def pool9 : Array CpInfo := pool [(1, .methodref 2 3), (0, .class_ 4), (0, .nameAndType 5 6), (0, u "java/lang/Object"), (0, u "<init>"), (0, u "()V"), (2, .fieldref 10 11), (0, .class_ 12), (0, .nameAndType 13 14), (0, u "java/lang/String"), (0, u "value"), (0, u "[B"), (0, .fieldref 10 16), (0, .nameAndType 17 18), (0, u "coder"), (0, u "B"), (2, u "hash"), (0, u "I"), (2, u "hashIsZero"), (0, u "Z"), (11, .fieldref 10 39), (0, .nameAndType 40 26), (0, u "COMPACT_STRINGS"), (12, u "toBytes"), (53, .class_ 109), (1, u "java/lang/StringLatin1"), (32, u "()Z"), (66, .methodref 10 210), (0, .nameAndType 5 211), (0, u "([BB)V"), (157, u "(C)Z"), (171, .methodref 107 542), (0, .nameAndType 543 544), (0, u "equals"), (0, u "([B[B)Z"), (28, u "(Ljava/lang/Object;)Z"), (1, .class_ 576), (0, u "java/lang/CharSequence"), (22, u "CASE_INSENSITIVE_ORDER"), (0, u "Ljava/util/Comparator;"), (91, u "isEmpty"), (89, u "valueOf"), (0, u "(C)Ljava/lang/String;"), (231, .methodref 107 1016), (0, .nameAndType 1017 369), (0, u "canEncode"), (0, .methodref 107 1019), (0, .nameAndType 53 1020), (0, u "(C)[B"), (80, u "serialPersistentFields"), (0, u "[Ljava/io/ObjectStreamField;"), (0, .class_ 1104), (0, u "java/lang/String$CaseInsensitiveComparator"), (1, .class_ 1107), (0, u "java/io/Serializable"), (0, .class_ 1109), (0, u "java/lang/Comparable"), (0, .class_ 1111), (0, u "java/lang/constant/Constable"), (0, .class_ 1113), (0, u "java/lang/constant/ConstantDesc"), (2, u "serialVersionUID"), (0, u "J"), (3, u "REPL"), (0, u "C"), (2, u "LATIN1"), (1, u "UTF16")] 323

def k9m0 : Method := { name := "<init>", desc := "()V", sig := { parameters := [], returnType := none }, accessFlags := 1, code := none }
def k9c1 : Code := { maxStack := 1, maxLocals := 1, code := jdk_42_method_55_code, exceptionTable := #[], attributes := #[] }
def k9m1 : Method := { name := "isEmpty", desc := "()Z", sig := { parameters := [], returnType := some .boolean }, accessFlags := 1, code := some k9c1 }
def k9c2 : Code := { maxStack := 2, maxLocals := 3, code := jdk_42_method_66_code, exceptionTable := #[], attributes := #[] }
def k9m2 : Method := { name := "equals", desc := "(Ljava/lang/Object;)Z", sig := { parameters := [(.object "java/lang/Object")], returnType := some .boolean }, accessFlags := 1, code := some k9c2 }
def k9c3 : Code := { maxStack := 4, maxLocals := 1, code := jdk_42_method_139_code, exceptionTable := #[], attributes := #[] }
def k9m3 : Method := { name := "valueOf", desc := "(C)Ljava/lang/String;", sig := { parameters := [.char], returnType := some (.object "java/lang/String") }, accessFlags := 9, code := some k9c3 }
def k9c4 : Code := { maxStack := 2, maxLocals := 3, code := jdk_42_method_151_code, exceptionTable := #[], attributes := #[] }
def k9m4 : Method := { name := "<init>", desc := "([BB)V", sig := { parameters := [(.array .byte), .byte], returnType := none }, accessFlags := 0, code := some k9c4 }
/-- java/lang/String -/
def k9 : Class := { plain "java/lang/String" (some 0) with
  accessFlags := 49
  interfaces := #[4, 5, 6, 7, 8]
  cf := some (fileOf pool9 10 #[.nestMembers #[1103]] #[{ accessFlags := 1, nameIndex := 5, descriptorIndex := 6, attributes := #[] }, { accessFlags := 1, nameIndex := 692, descriptorIndex := 142, attributes := #[] }, { accessFlags := 1, nameIndex := 543, descriptorIndex := 573, attributes := #[] }, { accessFlags := 9, nameIndex := 782, descriptorIndex := 783, attributes := #[] }, { accessFlags := 0, nameIndex := 5, descriptorIndex := 211, attributes := #[] }] 49 2 #[1106, 1108, 575, 1110, 1112] #[{ accessFlags := 18, nameIndex := 13, descriptorIndex := 14, attributes := #[] }, { accessFlags := 18, nameIndex := 17, descriptorIndex := 18, attributes := #[] }, { accessFlags := 2, nameIndex := 21, descriptorIndex := 22, attributes := #[] }, { accessFlags := 2, nameIndex := 25, descriptorIndex := 26, attributes := #[] }, { accessFlags := 26, nameIndex := 1116, descriptorIndex := 1117, attributes := #[] }, { accessFlags := 24, nameIndex := 40, descriptorIndex := 26, attributes := #[] }, { accessFlags := 26, nameIndex := 1101, descriptorIndex := 1102, attributes := #[] }, { accessFlags := 26, nameIndex := 1121, descriptorIndex := 1122, attributes := #[] }, { accessFlags := 25, nameIndex := 599, descriptorIndex := 600, attributes := #[] }, { accessFlags := 24, nameIndex := 1125, descriptorIndex := 18, attributes := #[] }, { accessFlags := 24, nameIndex := 1127, descriptorIndex := 18, attributes := #[] }])
  fields := #[{ name := "value", type := (.array .byte), accessFlags := 18, slot := 0, constantValue := 0 }, { name := "coder", type := .byte, accessFlags := 18, slot := 1, constantValue := 0 }, { name := "hash", type := .int, accessFlags := 2, slot := 2, constantValue := 0 }, { name := "hashIsZero", type := .boolean, accessFlags := 2, slot := 3, constantValue := 0 }, { name := "serialVersionUID", type := .long, accessFlags := 26, slot := 0, constantValue := 0 }, { name := "COMPACT_STRINGS", type := .boolean, accessFlags := 24, slot := 1, constantValue := 0 }, { name := "serialPersistentFields", type := (.array (.object "java/io/ObjectStreamField")), accessFlags := 26, slot := 2, constantValue := 0 }, { name := "REPL", type := .char, accessFlags := 26, slot := 3, constantValue := 0 }, { name := "CASE_INSENSITIVE_ORDER", type := (.object "java/util/Comparator"), accessFlags := 25, slot := 4, constantValue := 0 }, { name := "LATIN1", type := .byte, accessFlags := 24, slot := 5, constantValue := 0 }, { name := "UTF16", type := .byte, accessFlags := 24, slot := 6, constantValue := 0 }]
  methods := #[k9m0, k9m1, k9m2, k9m3, k9m4]
  instanceTypes := #[(.array .byte), .byte, .int, .boolean]
  staticTypes := #[.long, .boolean, (.array (.object "java/io/ObjectStreamField")), .char, (.object "java/util/Comparator"), .byte, .byte]
  resolved := Array.replicate 1451 none
  statics := some 0 }

def pool10 : Array CpInfo := pool [(4, .class_ 6), (1, u "java/lang/Object"), (0, u "<init>"), (0, u "()V"), (5, .class_ 16), (1, u "java/lang/StringLatin1"), (73, u "canEncode"), (14, u "(C)Z"), (15, u "$assertionsDisabled"), (0, u "Z"), (98, .class_ 223), (1, u "java/lang/StringLatin1$LinesSpliterator"), (57, u "equals"), (0, u "([B[B)Z"), (97, u "toBytes"), (1, u "(C)[B"), (7, .class_ 391), (0, u "java/lang/StringLatin1$CharsSpliterator")] 3

def k10m0 : Method := { name := "<init>", desc := "()V", sig := { parameters := [], returnType := none }, accessFlags := 0, code := none }
def k10c1 : Code := { maxStack := 2, maxLocals := 1, code := jdk_43_method_3_code, exceptionTable := #[], attributes := #[] }
def k10m1 : Method := { name := "canEncode", desc := "(C)Z", sig := { parameters := [.char], returnType := some .boolean }, accessFlags := 9, code := some k10c1 }
def k10c2 : Code := { maxStack := 3, maxLocals := 3, code := jdk_43_method_13_code, exceptionTable := #[], attributes := #[] }
def k10m2 : Method := { name := "equals", desc := "([B[B)Z", sig := { parameters := [(.array .byte), (.array .byte)], returnType := some .boolean }, accessFlags := 9, code := some k10c2 }
def k10c3 : Code := { maxStack := 4, maxLocals := 1, code := jdk_43_method_46_code, exceptionTable := #[], attributes := #[] }
def k10m3 : Method := { name := "toBytes", desc := "(C)[B", sig := { parameters := [.char], returnType := some (.array .byte) }, accessFlags := 9, code := some k10c3 }
/-- java/lang/StringLatin1 -/
def k10 : Class := { plain "java/lang/StringLatin1" (some 0) with
  accessFlags := 48
  interfaces := #[]
  cf := some (fileOf pool10 14 #[.nestMembers #[390, 221]] #[{ accessFlags := 0, nameIndex := 7, descriptorIndex := 8, attributes := #[] }, { accessFlags := 9, nameIndex := 90, descriptorIndex := 105, attributes := #[] }, { accessFlags := 9, nameIndex := 281, descriptorIndex := 282, attributes := #[] }, { accessFlags := 9, nameIndex := 380, descriptorIndex := 382, attributes := #[] }] 48 4 #[] #[{ accessFlags := 4120, nameIndex := 121, descriptorIndex := 122, attributes := #[] }])
  fields := #[{ name := "$assertionsDisabled", type := .boolean, accessFlags := 4120, slot := 0, constantValue := 0 }]
  methods := #[k10m0, k10m1, k10m2, k10m3]
  instanceTypes := #[]
  staticTypes := #[.boolean]
  resolved := Array.replicate 395 none
  statics := none }

def pool11 : Array CpInfo := pool [(2, .class_ 4), (1, u "java/lang/Object"), (0, u "<init>"), (0, u "()V"), (35, .class_ 44), (1, u "java/util/Objects"), (0, u "requireNonNull"), (48, u "(Ljava/lang/Object;Ljava/lang/String;)Ljava/lang/Object;")] 89

def k11m0 : Method := { name := "<init>", desc := "()V", sig := { parameters := [], returnType := none }, accessFlags := 2, code := none }
def k11c1 : Code := { maxStack := 3, maxLocals := 2, code := jdk_31_method_11_code, exceptionTable := #[], attributes := #[] }
def k11m1 : Method := { name := "requireNonNull", desc := "(Ljava/lang/Object;Ljava/lang/String;)Ljava/lang/Object;", sig := { parameters := [(.object "java/lang/Object"), (.object "java/lang/String")], returnType := some (.object "java/lang/Object") }, accessFlags := 9, code := some k11c1 }
/-- java/util/Objects -/
def k11 : Class := { plain "java/util/Objects" (some 0) with
  accessFlags := 49
  interfaces := #[]
  cf := some (fileOf pool11 42 #[] #[{ accessFlags := 2, nameIndex := 5, descriptorIndex := 6, attributes := #[] }, { accessFlags := 9, nameIndex := 45, descriptorIndex := 94, attributes := #[] }] 49 2 #[] #[])
  fields := #[]
  methods := #[k11m0, k11m1]
  instanceTypes := #[]
  staticTypes := #[]
  resolved := Array.replicate 184 none
  statics := none }

def pool12 : Array CpInfo := pool [(1, .methodref 2 3), (0, .class_ 4), (0, .nameAndType 5 6), (0, u "java/lang/Record"), (0, u "<init>"), (0, u "()V"), (0, .string 8), (0, u "patient"), (0, .methodref 10 11), (0, .class_ 12), (0, .nameAndType 13 14), (0, u "java/util/Objects"), (0, u "requireNonNull"), (0, u "(Ljava/lang/Object;Ljava/lang/String;)Ljava/lang/Object;"), (0, .fieldref 16 17), (0, .class_ 18), (0, .nameAndType 8 19), (0, u "com/example/mergeward/mergeward/core/RecordPath"), (0, u "Lcom/example/mergeward/mergeward/core/Identifier;"), (0, .fieldref 16 21), (0, .nameAndType 22 19), (0, u "account"), (0, .fieldref 16 24), (0, .nameAndType 25 19), (0, u "visit"), (2, u "(Lcom/example/mergeward/mergeward/core/Identifier;Lcom/example/mergeward/mergeward/core/Identifier;Lcom/example/mergeward/mergeward/core/Identifier;)V"), (11, .string 25), (0, .string 22), (65, u "IDENTIFIER_ORDER"), (0, u "Ljava/util/Comparator;"), (14, u "DEPTH_FIRST"), (11, u "sameLevelAs"), (0, u "(Lcom/example/mergeward/mergeward/core/RecordPath;)Z"), (0, u "level"), (0, u "()Ljava/lang/String;")] 79

def k12c0 : Code := { maxStack := 2, maxLocals := 4, code := prog_84_method_1_code, exceptionTable := #[], attributes := #[] }
def k12m0 : Method := { name := "<init>", desc := "(Lcom/example/mergeward/mergeward/core/Identifier;Lcom/example/mergeward/mergeward/core/Identifier;Lcom/example/mergeward/mergeward/core/Identifier;)V", sig := { parameters := [(.object "com/example/mergeward/mergeward/core/Identifier"), (.object "com/example/mergeward/mergeward/core/Identifier"), (.object "com/example/mergeward/mergeward/core/Identifier")], returnType := none }, accessFlags := 1, code := some k12c0 }
def k12c1 : Code := { maxStack := 2, maxLocals := 2, code := prog_84_method_6_code, exceptionTable := #[], attributes := #[] }
def k12m1 : Method := { name := "sameLevelAs", desc := "(Lcom/example/mergeward/mergeward/core/RecordPath;)Z", sig := { parameters := [(.object "com/example/mergeward/mergeward/core/RecordPath")], returnType := some .boolean }, accessFlags := 0, code := some k12c1 }
def k12c2 : Code := { maxStack := 1, maxLocals := 1, code := prog_84_method_7_code, exceptionTable := #[], attributes := #[] }
def k12m2 : Method := { name := "level", desc := "()Ljava/lang/String;", sig := { parameters := [], returnType := some (.object "java/lang/String") }, accessFlags := 0, code := some k12c2 }
/-- com/example/mergeward/mergeward/core/RecordPath -/
def k12 : Class := { plain "com/example/mergeward/mergeward/core/RecordPath" (some 2) with
  accessFlags := 49
  interfaces := #[]
  cf := some (fileOf pool12 16 #[] #[{ accessFlags := 1, nameIndex := 5, descriptorIndex := 28, attributes := #[] }, { accessFlags := 0, nameIndex := 135, descriptorIndex := 136, attributes := #[] }, { accessFlags := 0, nameIndex := 137, descriptorIndex := 138, attributes := #[] }] 49 2 #[] #[{ accessFlags := 18, nameIndex := 8, descriptorIndex := 19, attributes := #[] }, { accessFlags := 18, nameIndex := 22, descriptorIndex := 19, attributes := #[] }, { accessFlags := 18, nameIndex := 25, descriptorIndex := 19, attributes := #[] }, { accessFlags := 26, nameIndex := 107, descriptorIndex := 108, attributes := #[] }, { accessFlags := 24, nameIndex := 123, descriptorIndex := 108, attributes := #[] }])
  fields := #[{ name := "patient", type := (.object "com/example/mergeward/mergeward/core/Identifier"), accessFlags := 18, slot := 0, constantValue := 0 }, { name := "account", type := (.object "com/example/mergeward/mergeward/core/Identifier"), accessFlags := 18, slot := 1, constantValue := 0 }, { name := "visit", type := (.object "com/example/mergeward/mergeward/core/Identifier"), accessFlags := 18, slot := 2, constantValue := 0 }, { name := "IDENTIFIER_ORDER", type := (.object "java/util/Comparator"), accessFlags := 26, slot := 0, constantValue := 0 }, { name := "DEPTH_FIRST", type := (.object "java/util/Comparator"), accessFlags := 24, slot := 1, constantValue := 0 }]
  methods := #[k12m0, k12m1, k12m2]
  instanceTypes := #[(.object "com/example/mergeward/mergeward/core/Identifier"), (.object "com/example/mergeward/mergeward/core/Identifier"), (.object "com/example/mergeward/mergeward/core/Identifier")]
  staticTypes := #[(.object "java/util/Comparator"), (.object "java/util/Comparator")]
  resolved := Array.replicate 218 none
  statics := none }

def pool13 : Array CpInfo := pool [(2, .class_ 4), (1, u "java/lang/Object"), (0, u "<init>"), (0, u "()V"), (17, .class_ 26), (1, u "jdk/internal/util/Preconditions"), (28, .class_ 56), (0, u "jdk/internal/util/Preconditions$4"), (57, .class_ 115), (0, u "jdk/internal/util/Preconditions$1"), (7, u "SIOOBE_FORMATTER"), (0, u "Ljava/util/function/BiFunction;"), (0, .class_ 126), (0, u "jdk/internal/util/Preconditions$2"), (3, u "AIOOBE_FORMATTER"), (0, .class_ 132), (0, u "jdk/internal/util/Preconditions$3"), (3, u "IOOBE_FORMATTER")] 57

def k13m0 : Method := { name := "<init>", desc := "()V", sig := { parameters := [], returnType := none }, accessFlags := 1, code := none }
/-- jdk/internal/util/Preconditions -/
def k13 : Class := { plain "jdk/internal/util/Preconditions" (some 0) with
  accessFlags := 33
  interfaces := #[]
  cf := some (fileOf pool13 24 #[.nestMembers #[55, 131, 125, 114]] #[{ accessFlags := 1, nameIndex := 5, descriptorIndex := 6, attributes := #[] }] 33 2 #[] #[{ accessFlags := 25, nameIndex := 123, descriptorIndex := 124, attributes := #[] }, { accessFlags := 25, nameIndex := 130, descriptorIndex := 124, attributes := #[] }, { accessFlags := 25, nameIndex := 136, descriptorIndex := 124, attributes := #[] }])
  fields := #[{ name := "SIOOBE_FORMATTER", type := (.object "java/util/function/BiFunction"), accessFlags := 25, slot := 0, constantValue := 0 }, { name := "AIOOBE_FORMATTER", type := (.object "java/util/function/BiFunction"), accessFlags := 25, slot := 1, constantValue := 0 }, { name := "IOOBE_FORMATTER", type := (.object "java/util/function/BiFunction"), accessFlags := 25, slot := 2, constantValue := 0 }]
  methods := #[k13m0]
  instanceTypes := #[]
  staticTypes := #[(.object "java/util/function/BiFunction"), (.object "java/util/function/BiFunction"), (.object "java/util/function/BiFunction")]
  resolved := Array.replicate 194 none
  statics := some 1 }

def pool14 : Array CpInfo := pool [(9, u "<init>"), (6, .class_ 18), (1, u "java/lang/Object"), (0, u "()V"), (1, .class_ 23), (1, u "jdk/internal/util/ArraysSupport"), (0, u "LOG2_ARRAY_LONG_INDEX_SCALE"), (0, u "I"), (2, u "U"), (0, u "Ljdk/internal/misc/Unsafe;"), (8, u "BIG_ENDIAN"), (0, u "Z"), (8, u "LOG2_BYTE_BIT_SIZE"), (4, u "LOG2_ARRAY_INT_INDEX_SCALE"), (54, u "JLA"), (0, u "Ljdk/internal/access/JavaLangAccess;"), (11, u "LOG2_ARRAY_BOOLEAN_INDEX_SCALE"), (9, u "LOG2_ARRAY_BYTE_INDEX_SCALE"), (5, u "LOG2_ARRAY_CHAR_INDEX_SCALE"), (5, u "LOG2_ARRAY_SHORT_INDEX_SCALE"), (18, u "LOG2_ARRAY_FLOAT_INDEX_SCALE"), (24, u "LOG2_ARRAY_DOUBLE_INDEX_SCALE"), (89, u "T_BOOLEAN"), (2, u "T_CHAR"), (1, u "T_FLOAT"), (1, u "T_DOUBLE"), (1, u "T_BYTE"), (1, u "T_SHORT"), (1, u "T_INT"), (1, u "T_LONG"), (1, u "SOFT_MAX_ARRAY_LENGTH")] 83

def k14m0 : Method := { name := "<init>", desc := "()V", sig := { parameters := [], returnType := none }, accessFlags := 2, code := none }
/-- jdk/internal/util/ArraysSupport -/
def k14 : Class := { plain "jdk/internal/util/ArraysSupport" (some 0) with
  accessFlags := 33
  interfaces := #[]
  cf := some (fileOf pool14 21 #[] #[{ accessFlags := 2, nameIndex := 9, descriptorIndex := 19, attributes := #[] }] 33 16 #[] #[{ accessFlags := 24, nameIndex := 28, descriptorIndex := 29, attributes := #[] }, { accessFlags := 26, nameIndex := 38, descriptorIndex := 39, attributes := #[] }, { accessFlags := 25, nameIndex := 121, descriptorIndex := 25, attributes := #[] }, { accessFlags := 25, nameIndex := 131, descriptorIndex := 25, attributes := #[] }, { accessFlags := 25, nameIndex := 137, descriptorIndex := 25, attributes := #[] }, { accessFlags := 25, nameIndex := 143, descriptorIndex := 25, attributes := #[] }, { accessFlags := 25, nameIndex := 53, descriptorIndex := 25, attributes := #[] }, { accessFlags := 25, nameIndex := 24, descriptorIndex := 25, attributes := #[] }, { accessFlags := 25, nameIndex := 162, descriptorIndex := 25, attributes := #[] }, { accessFlags := 25, nameIndex := 187, descriptorIndex := 25, attributes := #[] }, { accessFlags := 26, nameIndex := 48, descriptorIndex := 25, attributes := #[] }, { accessFlags := 25, nameIndex := 277, descriptorIndex := 25, attributes := #[] }, { accessFlags := 25, nameIndex := 280, descriptorIndex := 25, attributes := #[] }, { accessFlags := 25, nameIndex := 282, descriptorIndex := 25, attributes := #[] }, { accessFlags := 25, nameIndex := 284, descriptorIndex := 25, attributes := #[] }, { accessFlags := 25, nameIndex := 286, descriptorIndex := 25, attributes := #[] }, { accessFlags := 25, nameIndex := 288, descriptorIndex := 25, attributes := #[] }, { accessFlags := 25, nameIndex := 290, descriptorIndex := 25, attributes := #[] }, { accessFlags := 25, nameIndex := 292, descriptorIndex := 25, attributes := #[] }, { accessFlags := 26, nameIndex := 108, descriptorIndex := 109, attributes := #[] }, { accessFlags := 25, nameIndex := 294, descriptorIndex := 25, attributes := #[] }])
  fields := #[{ name := "U", type := (.object "jdk/internal/misc/Unsafe"), accessFlags := 24, slot := 0, constantValue := 0 }, { name := "BIG_ENDIAN", type := .boolean, accessFlags := 26, slot := 1, constantValue := 0 }, { name := "LOG2_ARRAY_BOOLEAN_INDEX_SCALE", type := .int, accessFlags := 25, slot := 2, constantValue := 0 }, { name := "LOG2_ARRAY_BYTE_INDEX_SCALE", type := .int, accessFlags := 25, slot := 3, constantValue := 0 }, { name := "LOG2_ARRAY_CHAR_INDEX_SCALE", type := .int, accessFlags := 25, slot := 4, constantValue := 0 }, { name := "LOG2_ARRAY_SHORT_INDEX_SCALE", type := .int, accessFlags := 25, slot := 5, constantValue := 0 }, { name := "LOG2_ARRAY_INT_INDEX_SCALE", type := .int, accessFlags := 25, slot := 6, constantValue := 0 }, { name := "LOG2_ARRAY_LONG_INDEX_SCALE", type := .int, accessFlags := 25, slot := 7, constantValue := 0 }, { name := "LOG2_ARRAY_FLOAT_INDEX_SCALE", type := .int, accessFlags := 25, slot := 8, constantValue := 0 }, { name := "LOG2_ARRAY_DOUBLE_INDEX_SCALE", type := .int, accessFlags := 25, slot := 9, constantValue := 0 }, { name := "LOG2_BYTE_BIT_SIZE", type := .int, accessFlags := 26, slot := 10, constantValue := 0 }, { name := "T_BOOLEAN", type := .int, accessFlags := 25, slot := 11, constantValue := 0 }, { name := "T_CHAR", type := .int, accessFlags := 25, slot := 12, constantValue := 0 }, { name := "T_FLOAT", type := .int, accessFlags := 25, slot := 13, constantValue := 0 }, { name := "T_DOUBLE", type := .int, accessFlags := 25, slot := 14, constantValue := 0 }, { name := "T_BYTE", type := .int, accessFlags := 25, slot := 15, constantValue := 0 }, { name := "T_SHORT", type := .int, accessFlags := 25, slot := 16, constantValue := 0 }, { name := "T_INT", type := .int, accessFlags := 25, slot := 17, constantValue := 0 }, { name := "T_LONG", type := .int, accessFlags := 25, slot := 18, constantValue := 0 }, { name := "JLA", type := (.object "jdk/internal/access/JavaLangAccess"), accessFlags := 26, slot := 19, constantValue := 0 }, { name := "SOFT_MAX_ARRAY_LENGTH", type := .int, accessFlags := 25, slot := 20, constantValue := 0 }]
  methods := #[k14m0]
  instanceTypes := #[]
  staticTypes := #[(.object "jdk/internal/misc/Unsafe"), .boolean, .int, .int, .int, .int, .int, .int, .int, .int, .int, .int, .int, .int, .int, .int, .int, .int, .int, (.object "jdk/internal/access/JavaLangAccess"), .int]
  resolved := Array.replicate 378 none
  statics := none }

def pool15 : Array CpInfo := pool [(1, u "java/lang/Cloneable"), (0, .class_ 1), (0, u "java/lang/Object"), (0, .class_ 3)] 3

/-- java/lang/Cloneable -/
def k15 : Class := { plain "java/lang/Cloneable" (some 0) with
  accessFlags := 1537
  interfaces := #[]
  cf := some (fileOf pool15 2 #[] #[] 1537 4 #[] #[])
  fields := #[]
  methods := #[]
  instanceTypes := #[]
  staticTypes := #[]
  resolved := Array.replicate 8 none
  statics := none }

/-- the primitive byte -/
def k16 : Class := { plain "byte" none with kind := .primitive 'B', accessFlags := 0x411 }
/-- [B -/
def k17 : Class := { plain "[B" (some 0) with kind := .array 16 .byte, interfaces := #[15, 4], accessFlags := 1041 }

/-- the primitive int -/
def k18 : Class := { plain "int" none with kind := .primitive 'I', accessFlags := 0x411 }
/-- [I -/
def k19 : Class := { plain "[I" (some 0) with kind := .array 18 .int, interfaces := #[15, 4], accessFlags := 1041 }

def heap : Heap := #[{ cls := 9, slots := #[.long 0, .int 1, .null, .int 0, .null, .int 0, .int 0], vm := .statics 9 },
  { cls := 13, slots := #[.null, .null, .null], vm := .statics 13 }]
def classes : Array Class := #[k0, k1, k2, k3, k4, k5, k6, k7, k8, k9, k10, k11, k12, k13, k14, k15, k16, k17, k18, k19]
def interned : List (Array UInt16 × Addr) := []
def slotsUsed : Nat := 10
def theMethod : MethodId := ⟨1, 2⟩
def args0 : Array Value := #[.int 1, .int 2, .int 3]
def aboutOver (below : List Frame) : State where
  vm := { classes := classes, interned := interned.toArray }
  heap := heap
  slotsUsed := slotsUsed
  threads := #[{ frames := .invoking theMethod args0 :: below }]
def below0 : List Frame := [.native { method := ⟨0, 0⟩, args := #[] }]
def about1 : State := aboutOver below0
def p0 : Program := .bare "" "" ""
def e0 : Env := launch0.env 0 0 0
theorem w_frames : about1.frames = Frame.invoking theMethod args0 :: below0 := rfl
set_option maxRecDepth 65536 in
theorem w_args : argsFit about1.vm theMethod args0 = true := by decide +kernel
set_option maxRecDepth 65536 in
theorem w_heap : heapFits about1 = true := by decide +kernel
set_option maxRecDepth 65536 in
theorem w_runnable : about1.curStatus? = some .runnable := by decide +kernel
set_option maxRecDepth 65536 in
theorem w_alone : about1.alone = true := by decide +kernel
set_option maxRecDepth 65536 in
theorem w_named : about1.methodNamed? x = some theMethod := by decide +kernel
set_option maxRecDepth 65536 in
theorem w_hears : about1.hears theMethod below0 = true := by decide +kernel
set_option maxRecDepth 65536 in
theorem w_ripe : about1.ripe theMethod args0 below0 = true := by decide +kernel
theorem w_running : about1.status = .running := rfl
set_option maxRecDepth 65536 in
theorem w_room : about1.hasRoom e0.platform room_1 = true :=
  launch0.hasRoom_least _ room_1 (by decide +kernel) (by decide +kernel) (by decide +kernel) (by decide +kernel) (by decide +kernel) (by decide +kernel)
theorem allAtoms_all (ts : List Jvm.Cond) (a : Array Jvm.Value) (st : Jvm.State) : (allAtoms ts).before a st = ts.all (fun c => c.before a st) := by
  induction ts with
  | nil => rfl
  | cons c t ih =>
    show (Jvm.Cond.and c (allAtoms t)).before a st = _
    rw [Jvm.Cond.before_and, ih, List.all_cons]
def words1 : List Jvm.Cond := Jvm.Cond.code x code maxLocals ret :: tables_1
/-- a 'code' word, met by the world's own term for the bytes: nothing is compared byte by byte -/
theorem code_word {y : MethodName} {bytes : ByteArray} {mx : Nat} {rt : Option FieldType} {a : Array Value} {s : State} {m : MethodId} {meth : Method} {c : Code} (h1 : s.methodNamed? y = some m) (h2 : s.vm.method? m = some meth) (h3 : meth.code = some c) (h4 : c.code = bytes)
    (h5 : (c.maxLocals == mx && c.exceptionTable.isEmpty && decide (c.maxStack ≤ mostOperands) && decide (meth.sig.returnType = rt) && !meth.locks && decide (parseMethodDescriptor y.desc = some meth.sig)) = true) : (Jvm.Cond.code y bytes mx rt).before a s = true := by
  simp only [Bool.and_eq_true, beq_iff_eq, Bool.not_eq_true', decide_eq_true_eq] at h5
  obtain ⟨⟨⟨⟨⟨g1, g2⟩, g3⟩, g4⟩, g5⟩, g6⟩ := h5
  simp [Cond.before, Cond.holds, Cond.value, h1, h2, h3, h4, g1, g2, g3, g4, g5, g6]
def isCode : Jvm.Cond → Bool
  | .code _ _ _ _ => true
  | _ => false
theorem all_split {L : List Jvm.Cond} {P : Jvm.Cond → Bool} (h1 : L.all (fun c => isCode c || P c) = true) (h2 : ∀ c ∈ L.filter isCode, P c = true) : L.all P = true := by
  refine List.all_eq_true.mpr fun c hc => ?_
  have h := List.all_eq_true.mp h1 c hc
  rcases Bool.eq_false_or_eq_true (isCode c) with hi | hi
  · exact h2 c (List.mem_filter.mpr ⟨hc, hi⟩)
  · simpa [hi] using h
set_option maxRecDepth 65536 in
theorem w_c0 : (Jvm.Cond.code x code maxLocals ret).before args0 about1 = true := code_word (m := ⟨1, 2⟩) (meth := k1m2) (c := k1c2) (by decide +kernel) rfl rfl rfl (by decide +kernel)
set_option maxRecDepth 65536 in
theorem w_c1 : (Jvm.Cond.code ({ cls := "java/lang/String", name := "valueOf", desc := "(C)Ljava/lang/String;" } : Jvm.MethodName) jdk_42_method_139_code (1 : Nat) (Option.some (Jvm.ClassFile.FieldType.object "java/lang/String"))).before args0 about1 = true := code_word (m := ⟨9, 3⟩) (meth := k9m3) (c := k9c3) (by decide +kernel) rfl rfl rfl (by decide +kernel)
set_option maxRecDepth 65536 in
theorem w_c2 : (Jvm.Cond.code ({ cls := "java/lang/StringLatin1", name := "canEncode", desc := "(C)Z" } : Jvm.MethodName) jdk_43_method_3_code (1 : Nat) (Option.some Jvm.ClassFile.FieldType.boolean)).before args0 about1 = true := code_word (m := ⟨10, 1⟩) (meth := k10m1) (c := k10c1) (by decide +kernel) rfl rfl rfl (by decide +kernel)
set_option maxRecDepth 65536 in
theorem w_c3 : (Jvm.Cond.code ({ cls := "java/lang/StringLatin1", name := "toBytes", desc := "(C)[B" } : Jvm.MethodName) jdk_43_method_46_code (1 : Nat) (Option.some (Jvm.ClassFile.FieldType.array Jvm.ClassFile.FieldType.byte))).before args0 about1 = true := code_word (m := ⟨10, 3⟩) (meth := k10m3) (c := k10c3) (by decide +kernel) rfl rfl rfl (by decide +kernel)
set_option maxRecDepth 65536 in
theorem w_c4 : (Jvm.Cond.code ({ cls := "java/lang/String", name := "<init>", desc := "([BB)V" } : Jvm.MethodName) jdk_42_method_151_code (3 : Nat) (Option.none : Option Jvm.ClassFile.FieldType)).before args0 about1 = true := code_word (m := ⟨9, 4⟩) (meth := k9m4) (c := k9c4) (by decide +kernel) rfl rfl rfl (by decide +kernel)
set_option maxRecDepth 65536 in
theorem w_c5 : (Jvm.Cond.code ({ cls := "java/lang/Object", name := "<init>", desc := "()V" } : Jvm.MethodName) object_method_1_code (1 : Nat) (Option.none : Option Jvm.ClassFile.FieldType)).before args0 about1 = true := code_word (m := ⟨0, 0⟩) (meth := k0m0) (c := k0c0) (by decide +kernel) rfl rfl rfl (by decide +kernel)
set_option maxRecDepth 65536 in
theorem w_c6 : (Jvm.Cond.code ({ cls := "com/example/mergeward/mergeward/core/Identifier", name := "<init>", desc := "(Ljava/lang/String;Ljava/lang/String;Ljava/lang/String;)V" } : Jvm.MethodName) prog_32_method_1_code (4 : Nat) (Option.none : Option Jvm.ClassFile.FieldType)).before args0 about1 = true := code_word (m := ⟨3, 0⟩) (meth := k3m0) (c := k3c0) (by decide +kernel) rfl rfl rfl (by decide +kernel)
set_option maxRecDepth 65536 in
theorem w_c7 : (Jvm.Cond.code ({ cls := "java/lang/Record", name := "<init>", desc := "()V" } : Jvm.MethodName) jdk_30_method_1_code (1 : Nat) (Option.none : Option Jvm.ClassFile.FieldType)).before args0 about1 = true := code_word (m := ⟨2, 0⟩) (meth := k2m0) (c := k2c0) (by decide +kernel) rfl rfl rfl (by decide +kernel)
set_option maxRecDepth 65536 in
theorem w_c8 : (Jvm.Cond.code ({ cls := "java/util/Objects", name := "requireNonNull", desc := "(Ljava/lang/Object;Ljava/lang/String;)Ljava/lang/Object;" } : Jvm.MethodName) jdk_31_method_11_code (2 : Nat) (Option.some (Jvm.ClassFile.FieldType.object "java/lang/Object"))).before args0 about1 = true := code_word (m := ⟨11, 1⟩) (meth := k11m1) (c := k11c1) (by decide +kernel) rfl rfl rfl (by decide +kernel)
set_option maxRecDepth 65536 in
theorem w_c9 : (Jvm.Cond.code ({ cls := "java/lang/String", name := "isEmpty", desc := "()Z" } : Jvm.MethodName) jdk_42_method_55_code (1 : Nat) (Option.some Jvm.ClassFile.FieldType.boolean)).before args0 about1 = true := code_word (m := ⟨9, 1⟩) (meth := k9m1) (c := k9c1) (by decide +kernel) rfl rfl rfl (by decide +kernel)
set_option maxRecDepth 65536 in
theorem w_c10 : (Jvm.Cond.code ({ cls := "com/example/mergeward/mergeward/core/RecordPath", name := "<init>", desc := "(Lcom/example/mergeward/mergeward/core/Identifier;Lcom/example/mergeward/mergeward/core/Identifier;Lcom/example/mergeward/mergeward/core/Identifier;)V" } : Jvm.MethodName) prog_84_method_1_code (4 : Nat) (Option.none : Option Jvm.ClassFile.FieldType)).before args0 about1 = true := code_word (m := ⟨12, 0⟩) (meth := k12m0) (c := k12c0) (by decide +kernel) rfl rfl rfl (by decide +kernel)
set_option maxRecDepth 65536 in
theorem w_c11 : (Jvm.Cond.code ({ cls := "com/example/mergeward/mergeward/core/RecordPath", name := "level", desc := "()Ljava/lang/String;" } : Jvm.MethodName) prog_84_method_7_code (1 : Nat) (Option.some (Jvm.ClassFile.FieldType.object "java/lang/String"))).before args0 about1 = true := code_word (m := ⟨12, 2⟩) (meth := k12m2) (c := k12c2) (by decide +kernel) rfl rfl rfl (by decide +kernel)
set_option maxRecDepth 65536 in
theorem w_c12 : (Jvm.Cond.code ({ cls := "com/example/mergeward/mergeward/core/RecordPathLevelPinLaw", name := "expected", desc := "(ZZ)Ljava/lang/String;" } : Jvm.MethodName) method_2_code (2 : Nat) (Option.some (Jvm.ClassFile.FieldType.object "java/lang/String"))).before args0 about1 = true := code_word (m := ⟨1, 1⟩) (meth := k1m1) (c := k1c1) (by decide +kernel) rfl rfl rfl (by decide +kernel)
set_option maxRecDepth 65536 in
theorem w_c13 : (Jvm.Cond.code ({ cls := "java/lang/String", name := "equals", desc := "(Ljava/lang/Object;)Z" } : Jvm.MethodName) jdk_42_method_66_code (3 : Nat) (Option.some Jvm.ClassFile.FieldType.boolean)).before args0 about1 = true := code_word (m := ⟨9, 2⟩) (meth := k9m2) (c := k9c2) (by decide +kernel) rfl rfl rfl (by decide +kernel)
set_option maxRecDepth 65536 in
theorem w_c14 : (Jvm.Cond.code ({ cls := "com/example/mergeward/mergeward/core/RecordPath", name := "sameLevelAs", desc := "(Lcom/example/mergeward/mergeward/core/RecordPath;)Z" } : Jvm.MethodName) prog_84_method_6_code (2 : Nat) (Option.some Jvm.ClassFile.FieldType.boolean)).before args0 about1 = true := code_word (m := ⟨12, 1⟩) (meth := k12m1) (c := k12c1) (by decide +kernel) rfl rfl rfl (by decide +kernel)
set_option maxRecDepth 65536 in
theorem w_c15 : (Jvm.Cond.code ({ cls := "java/lang/StringLatin1", name := "equals", desc := "([B[B)Z" } : Jvm.MethodName) jdk_43_method_13_code (3 : Nat) (Option.some Jvm.ClassFile.FieldType.boolean)).before args0 about1 = true := code_word (m := ⟨10, 2⟩) (meth := k10m2) (c := k10c2) (by decide +kernel) rfl rfl rfl (by decide +kernel)
def codes1 : List Jvm.Cond := [Jvm.Cond.code x code maxLocals ret, Jvm.Cond.code ({ cls := "java/lang/String", name := "valueOf", desc := "(C)Ljava/lang/String;" } : Jvm.MethodName) jdk_42_method_139_code (1 : Nat) (Option.some (Jvm.ClassFile.FieldType.object "java/lang/String")), Jvm.Cond.code ({ cls := "java/lang/StringLatin1", name := "canEncode", desc := "(C)Z" } : Jvm.MethodName) jdk_43_method_3_code (1 : Nat) (Option.some Jvm.ClassFile.FieldType.boolean), Jvm.Cond.code ({ cls := "java/lang/StringLatin1", name := "toBytes", desc := "(C)[B" } : Jvm.MethodName) jdk_43_method_46_code (1 : Nat) (Option.some (Jvm.ClassFile.FieldType.array Jvm.ClassFile.FieldType.byte)), Jvm.Cond.code ({ cls := "java/lang/String", name := "<init>", desc := "([BB)V" } : Jvm.MethodName) jdk_42_method_151_code (3 : Nat) (Option.none : Option Jvm.ClassFile.FieldType), Jvm.Cond.code ({ cls := "java/lang/Object", name := "<init>", desc := "()V" } : Jvm.MethodName) object_method_1_code (1 : Nat) (Option.none : Option Jvm.ClassFile.FieldType), Jvm.Cond.code ({ cls := "com/example/mergeward/mergeward/core/Identifier", name := "<init>", desc := "(Ljava/lang/String;Ljava/lang/String;Ljava/lang/String;)V" } : Jvm.MethodName) prog_32_method_1_code (4 : Nat) (Option.none : Option Jvm.ClassFile.FieldType), Jvm.Cond.code ({ cls := "java/lang/Record", name := "<init>", desc := "()V" } : Jvm.MethodName) jdk_30_method_1_code (1 : Nat) (Option.none : Option Jvm.ClassFile.FieldType), Jvm.Cond.code ({ cls := "java/util/Objects", name := "requireNonNull", desc := "(Ljava/lang/Object;Ljava/lang/String;)Ljava/lang/Object;" } : Jvm.MethodName) jdk_31_method_11_code (2 : Nat) (Option.some (Jvm.ClassFile.FieldType.object "java/lang/Object")), Jvm.Cond.code ({ cls := "java/lang/String", name := "isEmpty", desc := "()Z" } : Jvm.MethodName) jdk_42_method_55_code (1 : Nat) (Option.some Jvm.ClassFile.FieldType.boolean), Jvm.Cond.code ({ cls := "com/example/mergeward/mergeward/core/RecordPath", name := "<init>", desc := "(Lcom/example/mergeward/mergeward/core/Identifier;Lcom/example/mergeward/mergeward/core/Identifier;Lcom/example/mergeward/mergeward/core/Identifier;)V" } : Jvm.MethodName) prog_84_method_1_code (4 : Nat) (Option.none : Option Jvm.ClassFile.FieldType), Jvm.Cond.code ({ cls := "com/example/mergeward/mergeward/core/RecordPath", name := "level", desc := "()Ljava/lang/String;" } : Jvm.MethodName) prog_84_method_7_code (1 : Nat) (Option.some (Jvm.ClassFile.FieldType.object "java/lang/String")), Jvm.Cond.code ({ cls := "com/example/mergeward/mergeward/core/RecordPathLevelPinLaw", name := "expected", desc := "(ZZ)Ljava/lang/String;" } : Jvm.MethodName) method_2_code (2 : Nat) (Option.some (Jvm.ClassFile.FieldType.object "java/lang/String")), Jvm.Cond.code ({ cls := "java/lang/String", name := "equals", desc := "(Ljava/lang/Object;)Z" } : Jvm.MethodName) jdk_42_method_66_code (3 : Nat) (Option.some Jvm.ClassFile.FieldType.boolean), Jvm.Cond.code ({ cls := "com/example/mergeward/mergeward/core/RecordPath", name := "sameLevelAs", desc := "(Lcom/example/mergeward/mergeward/core/RecordPath;)Z" } : Jvm.MethodName) prog_84_method_6_code (2 : Nat) (Option.some Jvm.ClassFile.FieldType.boolean), Jvm.Cond.code ({ cls := "java/lang/StringLatin1", name := "equals", desc := "([B[B)Z" } : Jvm.MethodName) jdk_43_method_13_code (3 : Nat) (Option.some Jvm.ClassFile.FieldType.boolean)]
set_option maxRecDepth 65536 in
theorem codes_eq : words1.filter isCode = codes1 := rfl
theorem w_codes : ∀ c ∈ words1.filter isCode, c.before args0 about1 = true := by
  rw [codes_eq]
  intro c hc
  simp only [codes1, List.mem_cons, List.not_mem_nil, or_false] at hc
  rcases hc with rfl | rfl | rfl | rfl | rfl | rfl | rfl | rfl | rfl | rfl | rfl | rfl | rfl | rfl | rfl | rfl
  · exact w_c0
  · exact w_c1
  · exact w_c2
  · exact w_c3
  · exact w_c4
  · exact w_c5
  · exact w_c6
  · exact w_c7
  · exact w_c8
  · exact w_c9
  · exact w_c10
  · exact w_c11
  · exact w_c12
  · exact w_c13
  · exact w_c14
  · exact w_c15
set_option maxRecDepth 65536 in
theorem w_t1 : (words1.take 24).all (fun c => isCode c || c.before args0 about1) = true := by decide +kernel
set_option maxRecDepth 65536 in
theorem w_t2 : ((words1.drop 24).take 24).all (fun c => isCode c || c.before args0 about1) = true := by decide +kernel
set_option maxRecDepth 65536 in
theorem w_t3 : (((words1.drop 24).drop 24).take 24).all (fun c => isCode c || c.before args0 about1) = true := by decide +kernel
set_option maxRecDepth 65536 in
theorem w_t4 : ((((words1.drop 24).drop 24).drop 24).take 24).all (fun c => isCode c || c.before args0 about1) = true := by decide +kernel
set_option maxRecDepth 65536 in
theorem w_t5 : ((((words1.drop 24).drop 24).drop 24).drop 24).all (fun c => isCode c || c.before args0 about1) = true := by decide +kernel
theorem w_tables : (allAtoms (Jvm.Cond.code x code maxLocals ret :: tables_1)).before args0 about1 = true := by
  rw [allAtoms_all]
  show words1.all (fun c => c.before args0 about1) = true
  refine all_split ?_ w_codes
  rw [← List.take_append_drop 24 words1, List.all_append, w_t1, ← List.take_append_drop 24 (words1.drop 24), List.all_append, w_t2, ← List.take_append_drop 24 ((words1.drop 24).drop 24), List.all_append, w_t3, ← List.take_append_drop 24 (((words1.drop 24).drop 24).drop 24), List.all_append, w_t4, w_t5]
  rfl
set_option maxRecDepth 65536 in
theorem w_rest : rest_1_c.before args0 about1 = true := by decide +kernel
set_option maxRecDepth 65536 in
theorem w_case : (Jvm.Cond.and given_1 narrow_1).before args0 about1 = true := by decide +kernel
set_option maxRecDepth 65536 in
theorem w_consts : constsHeld consts_1 about1 := Jvm.Lit.constsHeldB_iff.mp (by decide +kernel)
theorem w_applies : (headSpec (Jvm.Cond.code x code maxLocals ret :: tables_1) room_1).applies x e0.platform about1 = true :=
  (Spec.applies_iff w_frames).mpr ⟨w_running, w_runnable, w_alone, w_named, w_hears, w_ripe, w_room, w_tables⟩
theorem atStart : AtStart classFile x code maxLocals ret World_1 tables_1 room_1 Calls_1 rest_1 Pre_1 launch0 p0 e0 about1 theMethod args0 below0 :=
  ⟨lists_1, trivial, launch0.admits_env _ _ _, launch0.least_env, fairChoices_fair.cas, fairChoices_fair.clock, w_frames, w_args, w_heap, w_applies, ⟨w_consts, trivial⟩, w_rest, w_case⟩
end start1
theorem witness_1 : WitnessClaimed_1 := ⟨start1.p0, start1.e0, start1.about1, start1.theMethod, start1.args0, start1.below0, start1.atStart⟩
end Jvm.Pilot.@@N@@
