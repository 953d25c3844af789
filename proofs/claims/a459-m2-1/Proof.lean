import JvmDerived
import JvmDerived.Pilot.@@N@@Statement
import JvmDerived.Pilot.@@N@@Code
set_option linter.unusedVariables false
set_option linter.unusedSimpArgs false
namespace Jvm.RoadKit
open Sem ClassFile Op Lib Jvm.Stand Jvm.Free Jvm.LawKit
section New
variable {p : Program} {l : Launch} {e : Env} {R : Room} {s : State} {m : MethodId} {args : Array Value} {below : List Frame} {meth : Method} {c : Code} {T : State} {locs : List Loc} {cells slots : Nat}
theorem retI (X : Stand p l e R s m args below meth c T locs cells slots) (hx : p.tables.exec = Jvm.exec) {pc : Nat} {Ls : Array Slot} {z : Int32} {rest : List Value} (hret : meth.sig.returnType = some .int) (hd : decode c.code pc = .ok (.ireturn, 1)) {fs : List Frame}
    (hl : ∀ (f : JFrame) (acts : List Action), f.method = m → f.locked = none → f.entered = [] → (doReturn e (T.setTop f) acts (some (.int z))).1 = T.setFrames fs) : Steps p.tables e below (T.setTop (mkF m pc Ls (.int z :: rest))) (T.setFrames fs) := by
  have hm' : T.vm.method? m = some meth := X.method'
  have hn : narrow .int (.int z) = .int z := rfl
  show Steps p.tables e below (T.setTop { method := m, pc := pc, locals := Ls, stack := _ :: rest, locked := none }) _
  jvm_step X.here [X.here.top, hx, hd, hm', hret, hn]
  first | (intro acts; rw [hl _ acts rfl rfl rfl]) | rw [hl _ _ rfl rfl rfl]
  exact Steps.refl _
theorem retJ (X : Stand p l e R s m args below meth c T locs cells slots) (hx : p.tables.exec = Jvm.exec) {pc : Nat} {Ls : Array Slot} {z : Int64} {rest : List Value} (hret : meth.sig.returnType = some .long) (hd : decode c.code pc = .ok (.lreturn, 1)) {fs : List Frame}
    (hl : ∀ (f : JFrame) (acts : List Action), f.method = m → f.locked = none → f.entered = [] → (doReturn e (T.setTop f) acts (some (.long z))).1 = T.setFrames fs) : Steps p.tables e below (T.setTop (mkF m pc Ls (.long z :: rest))) (T.setFrames fs) := by
  have hm' : T.vm.method? m = some meth := X.method'
  have hn : narrow .long (.long z) = .long z := rfl
  show Steps p.tables e below (T.setTop { method := m, pc := pc, locals := Ls, stack := _ :: rest, locked := none }) _
  jvm_step X.here [X.here.top, hx, hd, hm', hret, hn, narrow]
  first | (intro acts; rw [hl _ acts rfl rfl rfl]) | rw [hl _ _ rfl rfl rfl]
  exact Steps.refl _
theorem retR (X : Stand p l e R s m args below meth c T locs cells slots) (hx : p.tables.exec = Jvm.exec) {pc : Nat} {Ls : Array Slot} {z : Addr} {rest : List Value} {ty : FieldType} (hret : meth.sig.returnType = some ty) (hty : ty.isReference = true) (hd : decode c.code pc = .ok (.areturn, 1)) {fs : List Frame}
    (hl : ∀ (f : JFrame) (acts : List Action), f.method = m → f.locked = none → f.entered = [] → (doReturn e (T.setTop f) acts (some (.ref z))).1 = T.setFrames fs) : Steps p.tables e below (T.setTop (mkF m pc Ls (.ref z :: rest))) (T.setFrames fs) := by
  have hm' : T.vm.method? m = some meth := X.method'
  show Steps p.tables e below (T.setTop { method := m, pc := pc, locals := Ls, stack := _ :: rest, locked := none }) _
  jvm_step X.here [X.here.top, hx, hd, hm', hret, hty, Value.isRef]
  first | (intro acts; rw [hl _ acts rfl rfl rfl]) | rw [hl _ _ rfl rfl rfl]
  exact Steps.refl _
theorem lremM {tb : Tables} [Ours tb] {target : State} {g : JFrame} (h : At T m c below) (hx : tb.exec = Jvm.exec) (hg : g.method = m) {x y : Int64} {rest : List Value} (hd : decode c.code g.pc = .ok (.lrem, 1)) (hs : g.stack = .long y :: .long x :: rest) (hy : y ≠ 0)
    (hr : Steps tb e below (T.setTop { g with pc := g.pc + 1, stack := .long (x % y) :: rest }) target) : Steps tb e below (T.setTop g) target := by
  rw [← lrem_mod] at hr
  exact XS.lrem h hx hg hd hs hy hr
end New
end Jvm.RoadKit
namespace Jvm.Pilot.@@N@@
open Jvm Jvm.ClassFile Sem Op Lib Jvm.Free Jvm.Stand Jvm.LawKit Jvm.RoadKit Bundle Jvm.Pilot.@@N@@.Jvm.D
/-- a Java boolean -/
def bI (P : Prop) [Decidable P] : Int32 := if P then 1 else 0
theorem bI_pos {P : Prop} [Decidable P] (h : P) : bI P = (1 : Int32) := if_pos h
theorem bI_neg {P : Prop} [Decidable P] (h : ¬ P) : bI P = (0 : Int32) := if_neg h
theorem bI_0 {P : Prop} [Decidable P] (h : ¬ P) : bI P = 0 := if_neg h
theorem bI_ne0 {P : Prop} [Decidable P] (h : P) : ¬ bI P = 0 := by rw [bI_pos h]; decide
theorem bI_iff {P Q : Prop} [Decidable P] [Decidable Q] : bI P = bI Q ↔ (P ↔ Q) := by
  by_cases p : P <;> by_cases q : Q <;> simp [bI, p, q]
theorem nar_0 : nar .boolean (0 : Int32) = 0 := by decide
theorem nar_1 : nar .boolean (1 : Int32) = 1 := by decide
theorem nar_bI (P : Prop) [Decidable P] : nar .boolean (bI P) = bI P := by by_cases p : P <;> simp [bI, p] <;> decide
/-- the run from st ends, and Q holds of what it returns and leaves -/
def OG (p : Program) (e : Env) (below : List Frame) (s : State) (Q : Option Value → Heap → List Loc → Prop) (cc ss : Nat) (st : State) : Prop :=
  ∃ s₂ o, Steps p.tables e below st s₂ ∧ s₂.status = .running ∧ Ended s₂ below o ∧ ∃ v L, o = .returned v ∧ Q v s₂.heap L ∧ FrameEnd s o s₂ L cc ss
section Out
variable {p : Program} {l : Launch} {e : Env} {R : Room} {s : State} {m : MethodId} {args : Array Value} {below : List Frame} {meth : Method} {c : Code} {T : State} {locs : List Loc} {cells slots : Nat} {Q : Option Value → Heap → List Loc → Prop} {cc ss : Nat} {h : Heap}
theorem OG.step {st st' : State} (h : ∀ t, Steps p.tables e below st' t → Steps p.tables e below st t) (g : OG p e below s Q cc ss st') : OG p e below s Q cc ss st := by
  obtain ⟨s₂, o, h1, r⟩ := g
  exact ⟨s₂, o, h _ h1, r⟩
theorem OG.out (X : Stand p l e R s m args below meth c T locs cells slots) {v : Option Value} (hv : meth.sig.returnType = none → v = none) (hlk : meth.locks = false) {g : JFrame} (eT : T.heap = h)
    (hs : ∀ fs, (∀ (f : JFrame) (acts : List Action), f.method = m → f.locked = none → f.entered = [] → (doReturn e (T.setTop f) acts v).1 = T.setFrames fs) → Steps p.tables e below (T.setTop g) (T.setFrames fs))
    (hQ : Q v h locs) (hc : cells ≤ cc) (hl : slots ≤ ss) : OG p e below s Q cc ss (T.setTop g) := by
  obtain ⟨fs, hr, hrun, hended, hW, hsame⟩ := X.leave (v := v) hv hlk
  exact ⟨_, _, hs fs hr, hrun, hended, _, _, rfl, by show Q v T.heap locs; rw [eT]; exact hQ, ⟨_, rfl⟩, hW, hsame.mono hc hl⟩
theorem OG.retV (X : Stand p l e R s m args below meth c T locs cells slots) (hx : p.tables.exec = Jvm.exec) (hlk : meth.locks = false) (hret : meth.sig.returnType = none) {pc : Nat} {Ls : Array Slot} (hd : decode c.code pc = .ok (.return_, 1)) (eT : T.heap = h) (hQ : Q none h locs) (hc : cells ≤ cc) (hl : slots ≤ ss) : OG p e below s Q cc ss (T.setTop (mkF m pc Ls [])) :=
  OG.out X (fun _ => rfl) hlk eT (fun _ hr => X.returnOut hx hret hd hr) hQ hc hl
theorem OG.retI (X : Stand p l e R s m args below meth c T locs cells slots) (hx : p.tables.exec = Jvm.exec) (hlk : meth.locks = false) (hret : meth.sig.returnType = some .int) {pc : Nat} {Ls : Array Slot} {z : Int32} {rest : List Value} (hd : decode c.code pc = .ok (.ireturn, 1)) (eT : T.heap = h) (hQ : Q (some (.int z)) h locs) (hc : cells ≤ cc) (hl : slots ≤ ss) : OG p e below s Q cc ss (T.setTop (mkF m pc Ls (.int z :: rest))) :=
  OG.out X (fun h => by rw [hret] at h; cases h) hlk eT (fun _ hr => Jvm.RoadKit.retI X hx hret hd hr) hQ hc hl
theorem OG.retJ (X : Stand p l e R s m args below meth c T locs cells slots) (hx : p.tables.exec = Jvm.exec) (hlk : meth.locks = false) (hret : meth.sig.returnType = some .long) {pc : Nat} {Ls : Array Slot} {z : Int64} {rest : List Value} (hd : decode c.code pc = .ok (.lreturn, 1)) (eT : T.heap = h) (hQ : Q (some (.long z)) h locs) (hc : cells ≤ cc) (hl : slots ≤ ss) : OG p e below s Q cc ss (T.setTop (mkF m pc Ls (.long z :: rest))) :=
  OG.out X (fun h => by rw [hret] at h; cases h) hlk eT (fun _ hr => Jvm.RoadKit.retJ X hx hret hd hr) hQ hc hl
theorem OG.retR (X : Stand p l e R s m args below meth c T locs cells slots) (hx : p.tables.exec = Jvm.exec) (hlk : meth.locks = false) {ty : FieldType} (hret : meth.sig.returnType = some ty) (hty : ty.isReference = true) {pc : Nat} {Ls : Array Slot} {z : Addr} {rest : List Value} (hd : decode c.code pc = .ok (.areturn, 1)) (eT : T.heap = h) (hQ : Q (some (.ref z)) h locs) (hc : cells ≤ cc) (hl : slots ≤ ss) : OG p e below s Q cc ss (T.setTop (mkF m pc Ls (.ref z :: rest))) :=
  OG.out X (fun h => by rw [hret] at h; cases h) hlk eT (fun _ hr => Jvm.RoadKit.retR X hx hret hty hd hr) hQ hc hl
theorem OG.retZ (X : Stand p l e R s m args below meth c T locs cells slots) (hx : p.tables.exec = Jvm.exec) (hlk : meth.locks = false) (hret : meth.sig.returnType = some .boolean) {pc : Nat} {Ls : Array Slot} {z z' : Int32} {rest : List Value} (hd : decode c.code pc = .ok (.ireturn, 1)) (hz : nar .boolean z = z') (eT : T.heap = h) (hQ : Q (some (.int z')) h locs) (hc : cells ≤ cc) (hl : slots ≤ ss) : OG p e below s Q cc ss (T.setTop (mkF m pc Ls (.int z :: rest))) := by
  subst hz
  exact OG.out X (fun h => by rw [hret] at h; cases h) hlk eT (fun _ hr => retN X hx (t := .boolean) hret (by simp) hd hr) hQ hc hl
end Out
def own_exp (j a c s r0 r1 r2 : Int32) : Int32 := if (j - a) < (0 : Int32) then s else if (j - a) < c then (if (j - a) = (0 : Int32) then r0 else if (j - a) = (1 : Int32) then r1 else r2) else s
def own_bs (f : Nat → Int32) : List Value := (List.range 64).map fun i => .int (f i)
def own_is (f : Nat → Int32) : List Value := [.int (f 0), .int (f 1), .int (f 2), .int (f 3), .int (f 4), .int (f 5), .int (f 6), .int (f 7)]
def own_ws (W : Nat → Int64) : List Value := [.long (W 0), .long (W 1), .long (W 2), .long (W 3), .long (W 4), .long (W 5), .long (W 6), .long (W 7)]
def own_z : Nat → Int32 := fun _ => 0
def own_upd (f : Nat → Int32) (i : Nat) (v : Int32) : Nat → Int32 := fun j => if j = i then v else f j
def own_byte (v : Int64) : Nat → Int32
  | 0 => nar .byte ((v.toInt32).toInt8.toInt32)
  | k + 1 => nar .byte ((((v.toUInt64 >>> ((Int32.ofNat (8 * (k + 1))) &&& 0x3f).toInt64.toUInt64).toInt64).toInt32).toInt8.toInt32)
def own_put (f : Nat → Int32) (o : Nat) (v : Int64) : Nat → Int32 := own_upd (own_upd (own_upd (own_upd (own_upd (own_upd (own_upd (own_upd f (o + 0) (own_byte v 0)) (o + 1) (own_byte v 1)) (o + 2) (own_byte v 2)) (o + 3) (own_byte v 3)) (o + 4) (own_byte v 4)) (o + 5) (own_byte v 5)) (o + 6) (own_byte v 6)) (o + 7) (own_byte v 7)
def own_W (a b c d : Int64) : Nat → Int64
  | 0 => a
  | 1 => b
  | 2 => c
  | 3 => d
  | 4 => a ^^^ (-1 : Int64)
  | 5 => b ^^^ (-1 : Int64)
  | 6 => c ^^^ (-1 : Int64)
  | _ => d ^^^ (-1 : Int64)
def own_B (W : Nat → Int64) (j : Nat) : Bool := (W (j / 64)).toBitVec.getLsbD (j % 64)
def own_has (B : Nat → Bool) (x : Int64) (p h : Nat) : Prop := ∀ i, i < 64 → x.toBitVec.getLsbD i = (decide (i < h) && B (p + i))
def own_Bytes (f : Nat → Int32) (B : Nat → Bool) : Prop := ∀ y, y < 64 → ∀ i, i < 64 → (((f y).toInt64) &&& (255 : Int64)).toBitVec.getLsbD i = (decide (i < 8) && B (8 * y + i))
def own_mask (nb : Nat) : Int64 := (((1 : Int64) <<< ((Int32.ofNat nb) &&& 0x3f).toInt64) - (1 : Int64))
def own_fill (t : Nat → Int32) (ia : Nat) (R : Nat → Int64) (c : Nat) : Nat → Int32 := fun j => if ia ≤ j ∧ j < ia + c then ((R (j - ia)).toInt32) + (1 : Int32) else t j
def own_R (a b c : Int64) : Nat → Int64
  | 0 => a
  | 1 => b
  | _ => c
theorem own_ti {n : Nat} (h : n < 2147483648) : (Int32.ofNat n).toInt = n := Int32.toInt_ofNat_of_lt h
theorem own_cl {n : Nat} (h : n < 2147483648) : (Int32.ofNat n).toNatClampNeg = n := by
  show (Int32.ofNat n).toInt.toNat = n
  rw [own_ti h]; rfl
theorem own_add (a b : Nat) : Int32.ofNat a + Int32.ofNat b = Int32.ofNat (a + b) := (Int32.ofNat_add a b).symm
theorem own_inc {n : Nat} : Int32.ofNat n + (1 : Int32) = Int32.ofNat (n + 1) := own_add n 1
theorem own_inc8 {n : Nat} : Int32.ofNat n + (8 : Int32) = Int32.ofNat (n + 8) := own_add n 8
theorem own_sub {a b : Nat} (h : b ≤ a) : Int32.ofNat a - Int32.ofNat b = Int32.ofNat (a - b) := by
  have e : Int32.ofNat a = Int32.ofNat (a - b) + Int32.ofNat b := by rw [own_add, Nat.sub_add_cancel h]
  rw [e, Int32.add_sub_cancel]
theorem own_mul (a b : Nat) : Int32.ofNat a * Int32.ofNat b = Int32.ofNat (a * b) := (Int32.ofNat_mul a b).symm
theorem own_lt {a b : Nat} (ha : a < 2147483648) (hb : b < 2147483648) : Int32.ofNat a < Int32.ofNat b ↔ a < b := by
  rw [Int32.lt_iff_toInt_lt, own_ti ha, own_ti hb]; omega
theorem own_i3 {n z : Nat} (h : n < z) (hz : z < 2147483648) : ¬ Int32.ofNat n < 0 ∧ Int32.ofNat n < Int32.ofNat z ∧ (Int32.ofNat n).toNatClampNeg = n := by
  refine ⟨?_, (own_lt (by omega) hz).mpr h, own_cl (by omega)⟩
  rw [Int32.lt_iff_toInt_lt, own_ti (by omega)]
  have : (0 : Int32).toInt = 0 := by decide
  omega
theorem own_ix0 {o : Nat} (h : o + 8 ≤ 64) : ¬ Int32.ofNat o < 0 ∧ Int32.ofNat o < (64 : Int32) ∧ (Int32.ofNat o).toNatClampNeg = o + 0 := own_i3 (z := 64) (by omega) (by decide)
theorem own_ix {o : Nat} (h : o + 8 ≤ 64) (k : Nat) (hk : k < 8) (z : Int32) (hz : z = Int32.ofNat k) : ¬ (Int32.ofNat o + z) < 0 ∧ (Int32.ofNat o + z) < (64 : Int32) ∧ (Int32.ofNat o + z).toNatClampNeg = o + k := by
  rw [hz, own_add]
  exact own_i3 (z := 64) (by omega) (by decide)
theorem own_blen (g : Nat → Int32) {i : Nat} (h : i < 64) : i < (own_bs g).length := by simp [own_bs, h]
theorem own_bset (g : Nat → Int32) {i : Nat} (h : i < 64) (v : Int32) : (own_bs g).set i (.int v) = own_bs (own_upd g i v) := by
  apply List.ext_getElem
  · simp [own_bs]
  · intro n h1 h2
    simp only [own_bs, List.getElem_set, List.getElem_map, List.getElem_range, own_upd]
    by_cases e : i = n
    · subst e; simp
    · rw [if_neg e, if_neg (fun q => e q.symm)]
theorem own_bz : List.replicate 64 (Value.int (0 : Int32)) = own_bs own_z := by
  apply List.ext_getElem
  · simp [own_bs]
  · intro n h1 h2
    rw [List.getElem_replicate]
    simp only [own_bs, List.getElem_map, own_z]
theorem own_bget (g : Nat → Int32) {i : Nat} (h : i < 64) : (own_bs g).getD (Int32.ofNat i).toNatClampNeg (.int (0 : Int32)) = .int (g i) := by
  rw [own_cl (by omega)]
  simp [own_bs, h]
theorem own_b64 {i : Nat} (h : i < 64) : ¬ Int32.ofNat i < 0 ∧ Int32.ofNat i < (64 : Int32) ∧ (Int32.ofNat i).toNatClampNeg = i := own_i3 (z := 64) h (by decide)
theorem own_w8 {i : Nat} (h : i < 8) : ¬ Int32.ofNat i < 0 ∧ Int32.ofNat i < (8 : Int32) ∧ (Int32.ofNat i).toNatClampNeg = i := own_i3 (z := 8) h (by decide)
theorem own_w8b {i : Nat} (h : i + 1 < 8) : ¬ (Int32.ofNat i + (1 : Int32)) < 0 ∧ (Int32.ofNat i + (1 : Int32)) < (8 : Int32) ∧ (Int32.ofNat i + (1 : Int32)).toNatClampNeg = i + 1 := by
  rw [own_inc]; exact own_i3 (z := 8) h (by decide)
theorem own_wget (W : Nat → Int64) {x : Nat} {j : Int32} (h : x < 8) (hj : j.toNatClampNeg = x) : (own_ws W).getD j.toNatClampNeg (.long (0 : Int64)) = .long (W x) := by
  rw [hj]
  match x, h with
  | 0, _ => rfl
  | 1, _ => rfl
  | 2, _ => rfl
  | 3, _ => rfl
  | 4, _ => rfl
  | 5, _ => rfl
  | 6, _ => rfl
  | 7, _ => rfl
theorem own_iget (f : Nat → Int32) {x : Nat} {j : Int32} (h : x < 8) (hj : j.toNatClampNeg = x) : (own_is f).getD j.toNatClampNeg (.int (0 : Int32)) = .int (f x) := by
  rw [hj]
  match x, h with
  | 0, _ => rfl
  | 1, _ => rfl
  | 2, _ => rfl
  | 3, _ => rfl
  | 4, _ => rfl
  | 5, _ => rfl
  | 6, _ => rfl
  | 7, _ => rfl
theorem own_isx (f : Nat → Int32) : own_is f = (List.range 8).map fun i => .int (f i) := rfl
theorem own_ia8 {t : Nat → Int32} {R : Nat → Int64} {ia i cnt : Nat} (hia : ia ≤ 3) (hi : i ≤ cnt) (hcnt : cnt ≤ 3) (hc : Int32.ofNat i < Int32.ofNat cnt) : ¬ (Int32.ofNat ia + Int32.ofNat i) < 0 ∧ (Int32.ofNat ia + Int32.ofNat i) < (8 : Int32) ∧ (Int32.ofNat ia + Int32.ofNat i).toNatClampNeg = ia + i ∧ ia + i < (own_is (own_fill t ia R i)).length := by
  rw [own_lt (by omega) (by omega)] at hc
  rw [own_add]
  have := own_i3 (n := ia + i) (z := 8) (by omega) (by decide)
  exact ⟨this.1, this.2.1, this.2.2, by show ia + i < 8; omega⟩
theorem own_iset {t : Nat → Int32} {R : Nat → Int64} {ia i : Nat} (q : ¬ (Int32.ofNat ia + Int32.ofNat i) < 0 ∧ (Int32.ofNat ia + Int32.ofNat i) < (8 : Int32) ∧ (Int32.ofNat ia + Int32.ofNat i).toNatClampNeg = ia + i ∧ ia + i < (own_is (own_fill t ia R i)).length) :
    (own_is (own_fill t ia R i)).set (ia + i) (.int (((R i).toInt32) + (1 : Int32))) = own_is (own_fill t ia R (i + 1)) := by
  rw [own_isx, own_isx]
  apply List.ext_getElem
  · simp
  · intro n h1 h2
    simp only [List.getElem_set, List.getElem_map, List.getElem_range, own_fill]
    by_cases e : ia + i = n
    · rw [if_pos e, if_pos (by omega), ← e, Nat.add_sub_cancel_left]
    · rw [if_neg e]
      by_cases u : ia ≤ n ∧ n < ia + i
      · rw [if_pos u, if_pos (by omega)]
      · rw [if_neg u, if_neg (by omega)]
theorem own_fill0 (t : Nat → Int32) (ia : Nat) (R : Nat → Int64) : own_is t = own_is (own_fill t ia R 0) := by
  have e : own_fill t ia R 0 = t := by
    funext j; unfold own_fill; rw [if_neg (by omega)]
  rw [e]
-- bits
theorem own_amt {h : Nat} (hh : h < 64) : (Int32.ofNat h).toBitVec.toNat % 64 = h := by
  show (BitVec.ofNat 32 h).toNat % 64 = h
  rw [BitVec.toNat_ofNat]; omega
theorem own_shl (x : Int64) {h : Nat} (hh : h < 64) : (x <<< ((Int32.ofNat h) &&& 0x3f).toInt64).toBitVec = x.toBitVec <<< h := by
  rw [Int64.toBitVec_shiftLeft, (sm64 (Int32.ofNat h) h (own_amt hh)).1]
  show x.toBitVec <<< ((BitVec.ofNat 64 h).smod 64).toNat = _
  rw [smod64 h hh]
theorem own_shr (x : Int64) {h : Nat} (hh : h < 64) : ((x.toUInt64 >>> ((Int32.ofNat h) &&& 0x3f).toInt64.toUInt64).toInt64).toBitVec = x.toBitVec >>> h := by
  show (x.toUInt64 >>> ((Int32.ofNat h) &&& 0x3f).toInt64.toUInt64).toBitVec = _
  rw [UInt64.toBitVec_shiftRight]
  have e : (((Int32.ofNat h) &&& 0x3f).toInt64.toUInt64).toBitVec = BitVec.ofNat 64 h := (sm64 (Int32.ofNat h) h (own_amt hh)).1
  rw [e]
  show x.toBitVec >>> (BitVec.ofNat 64 h % 64#64) = _
  have e2 : BitVec.ofNat 64 h % 64#64 = BitVec.ofNat 64 h := by
    apply BitVec.eq_of_toNat_eq
    rw [BitVec.toNat_umod, BitVec.toNat_ofNat]
    show _ % 2 ^ 64 % 64 = _ % 2 ^ 64
    omega
  rw [e2]
  show x.toBitVec >>> (BitVec.ofNat 64 h).toNat = _
  rw [BitVec.toNat_ofNat, Nat.mod_eq_of_lt (by omega)]
theorem own_mb : ∀ nb : Fin 32, ∀ i : Fin 64, (own_mask nb.val).toBitVec.getLsbD i.val = decide (i.val < nb.val) := by decide +kernel
theorem own_mbit {nb i : Nat} (h : nb ≤ 31) (hi : i < 64) : (own_mask nb).toBitVec.getLsbD i = decide (i < nb) := own_mb ⟨nb, by omega⟩ ⟨i, hi⟩
theorem own_has_eq {B : Nat → Bool} {x y : Int64} {p h : Nat} (a : own_has B x p h) (b : own_has B y p h) : x = y := by
  apply Int64.toBitVec_inj.mp
  apply BitVec.eq_of_getLsbD_eq
  intro i hi
  rw [a i hi, b i hi]
theorem own_has0 (B : Nat → Bool) (p : Nat) : own_has B (0 : Int64) p 0 := fun i hi => by
  show (0#64).getLsbD i = _
  simp
theorem own_hand {B : Nat → Bool} {g : Int64} {p h nb : Nat} (hnb : nb ≤ 31) (hh : nb ≤ h) (hg : own_has B g p h) : own_has B (g &&& own_mask nb) p nb := fun i hi => by
  rw [Int64.toBitVec_and, BitVec.getLsbD_and, hg i hi, own_mbit hnb hi]
  by_cases q : i < nb
  · have : i < h := by omega
    simp [q, this]
  · simp [q]
-- field
theorem own_q8 {p nb : Nat} (hp : p + nb ≤ 461) (hnb : nb ≤ 31) : p / 64 < 8 := by omega
theorem own_gt64 {p nb : Nat} (hnb : nb ≤ 31) : (64 : Int32) < (Int32.ofNat (p % 64)) + (Int32.ofNat nb) ↔ 64 < p % 64 + nb := by
  rw [own_add]
  exact own_lt (a := 64) (by decide) (by omega)
theorem own_q9 {p nb : Nat} (hp : p + nb ≤ 461) (hnb : nb ≤ 31) (hc : (64 : Int32) < (Int32.ofNat (p % 64)) + (Int32.ofNat nb)) : p / 64 + 1 < 8 := by
  rw [own_gt64 hnb] at hc; omega
theorem own_sq {p : Nat} (h : p < 512) : (((Int32.ofNat p).toUInt32 >>> ((6 : Int32) &&& 31).toUInt32).toInt32) = Int32.ofNat (p / 64) := by
  apply Int32.toInt_inj.mp
  rw [c_iushr (Int32.ofNat p) (6 : Int32) 6 (by decide) (by decide), own_ti (by omega), own_ti (by omega)]
  show ((p : Int) % 4294967296) / 64 = _
  omega
theorem own_sr {p : Nat} (h : p < 512) : (Int32.ofNat p &&& (63 : Int32)) = Int32.ofNat (p % 64) := by
  apply Int32.toInt_inj.mp
  rw [c_mask (Int32.ofNat p) (63 : Int32) 6 (by decide) (by decide), own_ti (by omega), own_ti (by omega)]
  show (p : Int) % 64 = _
  omega
theorem own_fa {W : Nat → Int64} {p nb : Nat} (hp : p + nb ≤ 461) (hnb : nb ≤ 31) (hc : ¬ (64 : Int32) < (Int32.ofNat (p % 64)) + (Int32.ofNat nb)) :
    own_has (own_B W) ((((W (p / 64)).toUInt64 >>> ((Int32.ofNat (p % 64)) &&& 0x3f).toInt64.toUInt64).toInt64) &&& own_mask nb) p nb := fun i hi => by
  rw [own_gt64 hnb] at hc
  rw [Int64.toBitVec_and, BitVec.getLsbD_and, own_shr _ (by omega), BitVec.getLsbD_ushiftRight, own_mbit hnb hi]
  by_cases q : i < nb
  · have e1 : (p + i) / 64 = p / 64 := by omega
    have e2 : (p + i) % 64 = p % 64 + i := by omega
    simp [q, own_B, e1, e2]
  · simp [q]
theorem own_fb {W : Nat → Int64} {p nb : Nat} (hp : p + nb ≤ 461) (hnb : nb ≤ 31) (hc : (64 : Int32) < (Int32.ofNat (p % 64)) + (Int32.ofNat nb)) :
    own_has (own_B W) (((((W (p / 64)).toUInt64 >>> ((Int32.ofNat (p % 64)) &&& 0x3f).toInt64.toUInt64).toInt64) ||| ((W (p / 64 + 1)) <<< (((64 : Int32) - (Int32.ofNat (p % 64))) &&& 0x3f).toInt64)) &&& own_mask nb) p nb := fun i hi => by
  rw [own_gt64 hnb] at hc
  have e0 : (64 : Int32) - Int32.ofNat (p % 64) = Int32.ofNat (64 - p % 64) := own_sub (a := 64) (by omega)
  rw [e0, Int64.toBitVec_and, BitVec.getLsbD_and, Int64.toBitVec_or, BitVec.getLsbD_or, own_shr _ (by omega), BitVec.getLsbD_ushiftRight, own_shl _ (by omega), BitVec.getLsbD_shiftLeft, own_mbit hnb hi]
  by_cases q : i < nb
  · by_cases r : p % 64 + i < 64
    · have e1 : (p + i) / 64 = p / 64 := by omega
      have e2 : (p + i) % 64 = p % 64 + i := by omega
      have e3 : i < 64 - p % 64 := by omega
      simp [q, own_B, e1, e2, e3]
    · have e1 : (p + i) / 64 = p / 64 + 1 := by omega
      have e2 : (p + i) % 64 = i - (64 - p % 64) := by omega
      have e3 : ¬ i < 64 - p % 64 := by omega
      have e4 : (W (p / 64)).toBitVec.getLsbD (p % 64 + i) = false := BitVec.getLsbD_of_ge _ _ (by omega)
      simp [q, own_B, e1, e2, e3, e4, hi]
  · simp [q]
-- unpack
theorem own_y0 {at_ nb fr : Nat} (hat : at_ ≤ 15) (hnb : nb ≤ 31) (hfr : fr = 0 ∨ fr = 8) : Int32.ofNat at_ + (((((Int32.ofNat fr).toInt64 * (Int32.ofNat nb).toInt64).toUInt64 >>> ((3 : Int32) &&& 0x3f).toInt64.toUInt64).toInt64).toInt32) = Int32.ofNat (at_ + fr * nb / 8) := by
  have key : ∀ f : Fin 2, ∀ n : Fin 32, (((((Int32.ofNat (8 * f.val)).toInt64 * (Int32.ofNat n.val).toInt64).toUInt64 >>> ((3 : Int32) &&& 0x3f).toInt64.toUInt64).toInt64).toInt32) = Int32.ofNat ((8 * f.val) * n.val / 8) := by decide +kernel
  have e : (((((Int32.ofNat fr).toInt64 * (Int32.ofNat nb).toInt64).toUInt64 >>> ((3 : Int32) &&& 0x3f).toInt64.toUInt64).toInt64).toInt32) = Int32.ofNat (fr * nb / 8) := by
    rcases hfr with rfl | rfl
    · exact key 0 ⟨nb, by omega⟩
    · exact key 1 ⟨nb, by omega⟩
  rw [e, own_add]
theorem own_y00 {at_ nb fr : Nat} (hfr : fr = 0 ∨ fr = 8) : 8 * (at_ + fr * nb / 8) = 8 * at_ + fr * nb + 0 * nb + 0 := by
  rcases hfr with rfl | rfl
  · omega
  · omega
theorem own_ilt {i cnt : Nat} (hi : i ≤ cnt) (hcnt : cnt ≤ 3) (hc : Int32.ofNat i < Int32.ofNat cnt) : i < cnt := (own_lt (by omega) (by omega)).mp hc
theorem own_ile {i cnt : Nat} (hi : i ≤ cnt) (hcnt : cnt ≤ 3) (hc : Int32.ofNat i < Int32.ofNat cnt) : i + 1 ≤ cnt := own_ilt hi hcnt hc
theorem own_icnt {i cnt : Nat} (hi : i ≤ cnt) (hcnt : cnt ≤ 3) (hc : ¬ Int32.ofNat i < Int32.ofNat cnt) : i = cnt := by
  rw [own_lt (by omega) (by omega)] at hc; omega
theorem own_dec1 {i cnt fu : Nat} (hfu : cnt - i = fu) (hi : i ≤ cnt) (hcnt : cnt ≤ 3) (hc : Int32.ofNat i < Int32.ofNat cnt) : cnt - (i + 1) < fu := by
  have := own_ilt hi hcnt hc; omega
theorem own_hlt {h nb : Nat} (hnb : nb ≤ 31) (hh : h < nb + 8) : Int32.ofNat h < Int32.ofNat nb ↔ h < nb := own_lt (by omega) (by omega)
theorem own_hsub {h nb : Nat} (hnb : nb ≤ 31) (hc : ¬ Int32.ofNat h < Int32.ofNat nb) (hh : h < nb + 8) : Int32.ofNat h - Int32.ofNat nb = Int32.ofNat (h - nb) := by
  rw [own_hlt hnb hh] at hc; exact own_sub (by omega)
theorem own_hnext {h nb : Nat} (hnb : nb ≤ 31) (hc : ¬ Int32.ofNat h < Int32.ofNat nb) (hh : h < nb + 8) : h - nb < 8 := by
  rw [own_hlt hnb hh] at hc; omega
theorem own_ynext {P i h nb y : Nat} (hnb : nb ≤ 31) (hc : ¬ Int32.ofNat h < Int32.ofNat nb) (hy : 8 * y = P + i * nb + h) (hh : h < nb + 8 := by assumption) : 8 * y = P + (i + 1) * nb + (h - nb) := by
  rw [own_hlt hnb hh] at hc
  rw [Nat.add_mul, Nat.one_mul]; omega
theorem own_hshr {B : Nat → Bool} {g : Int64} {P i h nb : Nat} (hnb : nb ≤ 31) (hc : ¬ Int32.ofNat h < Int32.ofNat nb) (hg : own_has B g (P + i * nb) h) (hh : h < nb + 8) : own_has B ((g.toUInt64 >>> ((Int32.ofNat nb) &&& 0x3f).toInt64.toUInt64).toInt64) (P + (i + 1) * nb) (h - nb) := fun j hj => by
  rw [own_hlt hnb hh] at hc
  rw [own_shr _ (by omega), BitVec.getLsbD_ushiftRight]
  have e : P + (i + 1) * nb + j = P + i * nb + (nb + j) := by rw [Nat.add_mul, Nat.one_mul]; omega
  rw [e]
  by_cases q : nb + j < 64
  · rw [hg _ q]
    by_cases r : nb + j < h
    · have : j < h - nb := by omega
      simp [r, this]
    · have : ¬ j < h - nb := by omega
      simp [r, this]
  · rw [BitVec.getLsbD_of_ge _ _ (by omega)]
    have : ¬ j < h - nb := by omega
    simp [this]
theorem own_y64 {at_ nb fr cnt i h y : Nat} (hat : at_ ≤ 15) (hnb : nb ≤ 31) (hfr : fr = 0 ∨ fr = 8) (hi : i ≤ cnt) (hcnt : cnt ≤ 3) (hc : Int32.ofNat i < Int32.ofNat cnt) (hd : Int32.ofNat h < Int32.ofNat nb) (hy : 8 * y = 8 * at_ + fr * nb + i * nb + h) (hh : h < nb + 8) : y < 64 := by
  have h1 := own_ilt hi hcnt hc
  rw [own_hlt hnb hh] at hd
  have h2 : i * nb ≤ 2 * nb := Nat.mul_le_mul_right _ (by omega)
  have h3 : fr * nb ≤ 8 * nb := Nat.mul_le_mul_right _ (by omega)
  omega
theorem own_y8 {P h y : Nat} (hy : 8 * y = P + h) : 8 * (y + 1) = P + (h + 8) := by omega
theorem own_h8 {h nb : Nat} (hnb : nb ≤ 31) (hd : Int32.ofNat h < Int32.ofNat nb) (hh : h < nb + 8) : h + 8 < nb + 8 := by
  rw [own_hlt hnb hh] at hd; omega
theorem own_dec2 {h nb fu : Nat} (hnb : nb ≤ 31) (hfu : nb + 8 - h = fu) (hd : Int32.ofNat h < Int32.ofNat nb) (hh : h < nb + 8) : nb + 8 - (h + 8) < fu := by
  rw [own_hlt hnb hh] at hd; omega
theorem own_horb {B : Nat → Bool} {f : Nat → Int32} {g : Int64} {p h y nb : Nat} (hnb : nb ≤ 31) (hB : own_Bytes f B) (hy64 : y < 64) (hd : Int32.ofNat h < Int32.ofNat nb) (hg : own_has B g p h) (hy : 8 * y = p + h) (hh : h < nb + 8) :
    own_has B (g ||| ((((f y).toInt64) &&& (255 : Int64)) <<< ((Int32.ofNat h) &&& 0x3f).toInt64)) p (h + 8) := fun i hi => by
  rw [own_hlt hnb hh] at hd
  rw [Int64.toBitVec_or, BitVec.getLsbD_or, hg i hi, own_shl _ (by omega), BitVec.getLsbD_shiftLeft]
  by_cases q : i < h
  · have : i < h + 8 := by omega
    simp [q, this]
  · rw [hB y hy64 (i - h) (by omega)]
    have e : 8 * y + (i - h) = p + i := by omega
    rw [e]
    by_cases r : i < h + 8
    · have : i - h < 8 := by omega
      simp [q, r, this, hi]
    · have : ¬ i - h < 8 := by omega
      simp [q, r, this]
theorem own_gm {B : Nat → Bool} {g r : Int64} {p h nb : Nat} (hnb : nb ≤ 31) (hc : ¬ Int32.ofNat h < Int32.ofNat nb) (hg : own_has B g p h) (hh : h < nb + 8) (hr : own_has B r p nb) : (g &&& own_mask nb) = r := by
  rw [own_hlt hnb hh] at hc
  exact own_has_eq (own_hand hnb (by omega) hg) hr
-- the bytes
theorem own_put_at (f : Nat → Int32) (o : Nat) (v : Int64) (j : Nat) : own_put f o v j = if o ≤ j ∧ j < o + 8 then own_byte v (j - o) else f j := by
  unfold own_put own_upd
  by_cases h : o ≤ j ∧ j < o + 8
  · rw [if_pos h]
    obtain ⟨k, rfl⟩ : ∃ k, j = o + k := ⟨j - o, by omega⟩
    have hk : k < 8 := by omega
    rw [Nat.add_sub_cancel_left]
    match k, hk with
    | 0, _ => simp
    | 1, _ => simp
    | 2, _ => simp
    | 3, _ => simp
    | 4, _ => simp
    | 5, _ => simp
    | 6, _ => simp
    | 7, _ => simp
  · rw [if_neg h, if_neg (by omega), if_neg (by omega), if_neg (by omega), if_neg (by omega), if_neg (by omega), if_neg (by omega), if_neg (by omega), if_neg (by omega)]
theorem own_se {w v : Nat} (x : BitVec w) (j : Nat) (h1 : j < w) (h2 : j < v) : (x.signExtend v).getLsbD j = x.getLsbD j := by
  rw [BitVec.getLsbD_signExtend]; simp only [h1, h2, decide_true, Bool.true_and, if_true]
theorem own_narb (x : Int32) (i : Nat) (hi : i < 64) : (((nar .byte (x.toInt8.toInt32)).toInt64) &&& (255 : Int64)).toBitVec.getLsbD i = (decide (i < 8) && x.toBitVec.getLsbD i) := by
  have h255 : ∀ i : Fin 64, ((255 : Int64).toBitVec).getLsbD i.val = decide (i.val < 8) := by decide +kernel
  rw [Int64.toBitVec_and, BitVec.getLsbD_and, h255 ⟨i, hi⟩]
  by_cases q : i < 8
  · have e : (nar .byte (x.toInt8.toInt32)) = (x.toInt8.toInt32).toInt8.toInt32 := rfl
    rw [e]
    simp only [Int32.toBitVec_toInt64, Int8.toBitVec_toInt32, Int32.toBitVec_toInt8]
    rw [own_se _ i (by omega) (by omega), own_se _ i (by omega) (by omega), own_se _ i (by omega) (by omega), own_se _ i (by omega) (by omega), own_se _ i (by omega) (by omega)]
    rw [Bool.and_comm]
  · simp [q]
theorem own_bytev (v : Int64) (k : Nat) (hk : k < 8) (i : Nat) (hi : i < 64) : (((own_byte v k).toInt64) &&& (255 : Int64)).toBitVec.getLsbD i = (decide (i < 8) && v.toBitVec.getLsbD (8 * k + i)) := by
  have l2i : ∀ x : Int64, ∀ j, j < 8 → x.toInt32.toBitVec.getLsbD j = x.toBitVec.getLsbD j := fun x j hj => by
    rw [Int64.toBitVec_toInt32]
    exact own_se _ j (by omega) (by omega)
  match k, hk with
  | 0, _ =>
    show (((nar .byte ((v.toInt32).toInt8.toInt32)).toInt64) &&& (255 : Int64)).toBitVec.getLsbD i = _
    rw [own_narb _ i hi]
    by_cases q : i < 8
    · rw [l2i v i q]; simp
    · simp [q]
  | k + 1, hk =>
    show (((nar .byte ((((v.toUInt64 >>> ((Int32.ofNat (8 * (k + 1))) &&& 0x3f).toInt64.toUInt64).toInt64).toInt32).toInt8.toInt32)).toInt64) &&& (255 : Int64)).toBitVec.getLsbD i = _
    rw [own_narb _ i hi]
    by_cases q : i < 8
    · rw [l2i _ i q, own_shr _ (by omega), BitVec.getLsbD_ushiftRight]
    · simp [q]
def own_F (a b c d : Int64) : Nat → Int32 := own_put (own_put (own_put (own_put (own_put (own_put (own_put (own_put own_z 0 (own_W a b c d 0)) 8 (own_W a b c d 1)) 16 (own_W a b c d 2)) 24 (own_W a b c d 3)) 32 (own_W a b c d 4)) 40 (own_W a b c d 5)) 48 (own_W a b c d 6)) 56 (own_W a b c d 7)
theorem own_Fat (a b c d : Int64) (j : Nat) (h : j < 64) : own_F a b c d j = own_byte (own_W a b c d (j / 8)) (j % 8) := by
  unfold own_F
  simp only [own_put_at]
  have hq : j / 8 < 8 := by omega
  rcases (by omega : j / 8 = 0 ∨ j / 8 = 1 ∨ j / 8 = 2 ∨ j / 8 = 3 ∨ j / 8 = 4 ∨ j / 8 = 5 ∨ j / 8 = 6 ∨ j / 8 = 7) with e | e | e | e | e | e | e | e
  · rw [if_neg (by omega), if_neg (by omega), if_neg (by omega), if_neg (by omega), if_neg (by omega), if_neg (by omega), if_neg (by omega), if_pos (by omega), e]; congr 1; omega
  · rw [if_neg (by omega), if_neg (by omega), if_neg (by omega), if_neg (by omega), if_neg (by omega), if_neg (by omega), if_pos (by omega), e]; congr 1; omega
  · rw [if_neg (by omega), if_neg (by omega), if_neg (by omega), if_neg (by omega), if_neg (by omega), if_pos (by omega), e]; congr 1; omega
  · rw [if_neg (by omega), if_neg (by omega), if_neg (by omega), if_neg (by omega), if_pos (by omega), e]; congr 1; omega
  · rw [if_neg (by omega), if_neg (by omega), if_neg (by omega), if_pos (by omega), e]; congr 1; omega
  · rw [if_neg (by omega), if_neg (by omega), if_pos (by omega), e]; congr 1; omega
  · rw [if_neg (by omega), if_pos (by omega), e]; congr 1; omega
  · rw [if_pos (by omega), e]; congr 1; omega
theorem own_Bf (a b c d : Int64) : own_Bytes (own_F a b c d) (own_B (own_W a b c d)) := fun y hy i hi => by
  rw [own_Fat a b c d y hy, own_bytev _ _ (by omega) i hi]
  by_cases q : i < 8
  · unfold own_B
    have e1 : (8 * y + i) / 64 = y / 8 := by omega
    have e2 : (8 * y + i) % 64 = 8 * (y % 8) + i := by omega
    rw [e1, e2]
  · simp [q]
-- the law's own numbers
theorem own_pk (z m : Int32) (k : Nat) (hk : k ≤ 31) (hm : m.toBitVec.toNat = 2 ^ k - 1) (hk4 : k ≤ 5) : ∃ n : Nat, n < 2 ^ k ∧ (z &&& m) = Int32.ofNat n := by
  have e := c_mask z m k hk hm
  have hp : (0 : Int) < ((2 ^ k : Nat) : Int) := by have := Nat.two_pow_pos k; omega
  have h32 : 2 ^ k ≤ 2 ^ 5 := Nat.pow_le_pow_right (by decide) hk4
  have l := Int.emod_lt_of_pos z.toInt hp
  have g := Int.emod_nonneg z.toInt (b := ((2 ^ k : Nat) : Int)) (by omega)
  refine ⟨(z &&& m).toInt.toNat, by omega, ?_⟩
  apply Int32.toInt_inj.mp
  rw [own_ti (by omega)]; omega
theorem own_m31 (c : Int32) : ∃ n : Nat, n ≤ 31 ∧ (c &&& (31 : Int32)) = Int32.ofNat n := by
  obtain ⟨n, h, e⟩ := own_pk c (31 : Int32) 5 (by decide) (by decide) (by decide)
  exact ⟨n, by omega, e⟩
theorem own_m8 (c : Int32) : ∃ n : Nat, (n = 0 ∨ n = 8) ∧ ((8 : Int32) * ((((c).toUInt32 >>> ((5 : Int32) &&& 31).toUInt32).toInt32) &&& (1 : Int32))) = Int32.ofNat n := by
  obtain ⟨n, h, e⟩ := own_pk (((c).toUInt32 >>> ((5 : Int32) &&& 31).toUInt32).toInt32) (1 : Int32) 1 (by decide) (by decide) (by decide)
  refine ⟨8 * n, by omega, ?_⟩
  rw [e]; exact own_mul 8 n
theorem own_mc (c : Int32) : ∃ n : Nat, n ≤ 3 ∧ ((((c).toUInt32 >>> ((6 : Int32) &&& 31).toUInt32).toInt32) &&& (3 : Int32)) = Int32.ofNat n := by
  obtain ⟨n, h, e⟩ := own_pk (((c).toUInt32 >>> ((6 : Int32) &&& 31).toUInt32).toInt32) (3 : Int32) 2 (by decide) (by decide) (by decide)
  exact ⟨n, by omega, e⟩
theorem own_mi (c : Int32) : ∃ n : Nat, n ≤ 3 ∧ ((((c).toUInt32 >>> ((8 : Int32) &&& 31).toUInt32).toInt32) &&& (3 : Int32)) = Int32.ofNat n := by
  obtain ⟨n, h, e⟩ := own_pk (((c).toUInt32 >>> ((8 : Int32) &&& 31).toUInt32).toInt32) (3 : Int32) 2 (by decide) (by decide) (by decide)
  exact ⟨n, by omega, e⟩
theorem own_ma (c : Int32) : ∃ n : Nat, n ≤ 15 ∧ ((((c).toUInt32 >>> ((10 : Int32) &&& 31).toUInt32).toInt32) &&& (15 : Int32)) = Int32.ofNat n := by
  obtain ⟨n, h, e⟩ := own_pk (((c).toUInt32 >>> ((10 : Int32) &&& 31).toUInt32).toInt32) (15 : Int32) 4 (by decide) (by decide) (by decide)
  exact ⟨n, by omega, e⟩
section Px
variable {nb fr at_ : Nat}
theorem own_px (k : Nat) : (((8 : Int32) * (Int32.ofNat at_)) + ((Int32.ofNat (fr + k)) * (Int32.ofNat nb))) = Int32.ofNat (8 * at_ + (fr + k) * nb) := by
  rw [show (8 : Int32) * Int32.ofNat at_ = Int32.ofNat (8 * at_) from own_mul 8 at_, own_mul, own_add]
theorem own_px0 (hnb : nb ≤ 31) (hfr : fr = 0 ∨ fr = 8) (hat : at_ ≤ 15) : (((8 : Int32) * (Int32.ofNat at_)) + ((Int32.ofNat fr) * (Int32.ofNat nb))) = Int32.ofNat (8 * at_ + (fr + 0) * nb) := own_px 0
theorem own_px1 (hnb : nb ≤ 31) (hfr : fr = 0 ∨ fr = 8) (hat : at_ ≤ 15) : (((8 : Int32) * (Int32.ofNat at_)) + (((Int32.ofNat fr) + (1 : Int32)) * (Int32.ofNat nb))) = Int32.ofNat (8 * at_ + (fr + 1) * nb) := by
  rw [own_inc]; exact own_px 1
theorem own_px2 (hnb : nb ≤ 31) (hfr : fr = 0 ∨ fr = 8) (hat : at_ ≤ 15) : (((8 : Int32) * (Int32.ofNat at_)) + (((Int32.ofNat fr) + (2 : Int32)) * (Int32.ofNat nb))) = Int32.ofNat (8 * at_ + (fr + 2) * nb) := by
  rw [show Int32.ofNat fr + (2 : Int32) = Int32.ofNat (fr + 2) from own_add fr 2]; exact own_px 2
theorem own_pbk {k : Nat} (hk : k ≤ 2) (hnb : nb ≤ 31) (hfr : fr = 0 ∨ fr = 8) (hat : at_ ≤ 15) : 8 * at_ + (fr + k) * nb + nb ≤ 461 := by
  have h3 : (fr + k) * nb ≤ 10 * nb := Nat.mul_le_mul_right _ (by omega)
  omega
theorem own_pb0 (hnb : nb ≤ 31) (hfr : fr = 0 ∨ fr = 8) (hat : at_ ≤ 15) : 8 * at_ + (fr + 0) * nb + nb ≤ 461 := own_pbk (by decide) hnb hfr hat
theorem own_pb1 (hnb : nb ≤ 31) (hfr : fr = 0 ∨ fr = 8) (hat : at_ ≤ 15) : 8 * at_ + (fr + 1) * nb + nb ≤ 461 := own_pbk (by decide) hnb hfr hat
theorem own_pb2 (hnb : nb ≤ 31) (hfr : fr = 0 ∨ fr = 8) (hat : at_ ≤ 15) : 8 * at_ + (fr + 2) * nb + nb ≤ 461 := own_pbk (by decide) hnb hfr hat
theorem own_hR {B : Nat → Bool} {cnt : Nat} {r0 r1 r2 : Int64} (hcnt : cnt ≤ 3) (h0 : own_has B r0 (8 * at_ + (fr + 0) * nb) nb) (h1 : own_has B r1 (8 * at_ + (fr + 1) * nb) nb) (h2 : own_has B r2 (8 * at_ + (fr + 2) * nb) nb) : ∀ i, i < cnt → own_has B (own_R r0 r1 r2 i) (8 * at_ + fr * nb + i * nb) nb := fun i hi => by
  have e : 8 * at_ + fr * nb + i * nb = 8 * at_ + (fr + i) * nb := by rw [Nat.add_mul]; omega
  rw [e]
  match i, (by omega : i < 3) with
  | 0, _ => exact h0
  | 1, _ => exact h1
  | 2, _ => exact h2
end Px
theorem own_fin {cnt ia : Nat} {s : Int32} {r0 r1 r2 : Int64} (hcnt : cnt ≤ 3) (hia : ia ≤ 3) (k : Nat) (hk : k < 8) : own_fill (fun _ => s) ia (own_R r0 r1 r2) cnt k = own_exp (Int32.ofNat k) (Int32.ofNat ia) (Int32.ofNat cnt) s ((r0.toInt32) + (1 : Int32)) ((r1.toInt32) + (1 : Int32)) ((r2.toInt32) + (1 : Int32)) := by
  have o0 : (0 : Int32).toInt = 0 := by decide
  have o1 : (1 : Int32).toInt = 1 := by decide
  have e := c_isub (Int32.ofNat k) (Int32.ofNat ia)
  have r := rng32 (Int32.ofNat k - Int32.ofNat ia)
  rw [own_ti (by omega), own_ti (by omega)] at e
  have ed : (Int32.ofNat k - Int32.ofNat ia).toInt = (k : Int) - ia := by omega
  unfold own_fill own_exp
  by_cases h1 : (Int32.ofNat k - Int32.ofNat ia) < (0 : Int32)
  · rw [if_pos h1]
    rw [Int32.lt_iff_toInt_lt, ed, o0] at h1
    rw [if_neg (by omega)]
  · rw [if_neg h1]
    rw [Int32.lt_iff_toInt_lt, ed, o0] at h1
    by_cases h2 : (Int32.ofNat k - Int32.ofNat ia) < Int32.ofNat cnt
    · rw [if_pos h2]
      rw [Int32.lt_iff_toInt_lt, ed, own_ti (by omega)] at h2
      rw [if_pos (by omega)]
      by_cases h3 : (Int32.ofNat k - Int32.ofNat ia) = (0 : Int32)
      · rw [if_pos h3]
        have := congrArg Int32.toInt h3
        rw [ed, o0] at this
        have z : k - ia = 0 := by omega
        rw [z]; rfl
      · rw [if_neg h3]
        have n3 : (k : Int) - ia ≠ 0 := fun z => h3 (Int32.toInt_inj.mp (by rw [ed, o0, z]))
        by_cases h4 : (Int32.ofNat k - Int32.ofNat ia) = (1 : Int32)
        · rw [if_pos h4]
          have := congrArg Int32.toInt h4
          rw [ed, o1] at this
          have z : k - ia = 1 := by omega
          rw [z]; rfl
        · rw [if_neg h4]
          have n4 : (k : Int) - ia ≠ 1 := fun z => h4 (Int32.toInt_inj.mp (by rw [ed, o1, z]))
          have z : k - ia = 2 := by omega
          rw [z]; rfl
    · rw [if_neg h2]
      rw [Int32.lt_iff_toInt_lt, ed, own_ti (by omega)] at h2
      rw [if_neg (by omega)]

theorem d1_0 : decode method_3_code 0 = .ok (.aload_n 0, 1) := by decide +kernel
theorem d1_1 : decode method_3_code 1 = .ok (.iload_n 1, 1) := by decide +kernel
theorem d1_2 : decode method_3_code 2 = .ok (.lload_n 2, 1) := by decide +kernel
theorem d1_3 : decode method_3_code 3 = .ok (.l2i, 1) := by decide +kernel
theorem d1_4 : decode method_3_code 4 = .ok (.i2b, 1) := by decide +kernel
theorem d1_5 : decode method_3_code 5 = .ok (.bastore, 1) := by decide +kernel
theorem d1_6 : decode method_3_code 6 = .ok (.aload_n 0, 1) := by decide +kernel
theorem d1_7 : decode method_3_code 7 = .ok (.iload_n 1, 1) := by decide +kernel
theorem d1_8 : decode method_3_code 8 = .ok (.iconst 1, 1) := by decide +kernel
theorem d1_9 : decode method_3_code 9 = .ok (.iadd, 1) := by decide +kernel
theorem d1_10 : decode method_3_code 10 = .ok (.lload_n 2, 1) := by decide +kernel
theorem d1_11 : decode method_3_code 11 = .ok (.bipush 8, 2) := by decide +kernel
theorem d1_13 : decode method_3_code 13 = .ok (.lushr, 1) := by decide +kernel
theorem d1_14 : decode method_3_code 14 = .ok (.l2i, 1) := by decide +kernel
theorem d1_15 : decode method_3_code 15 = .ok (.i2b, 1) := by decide +kernel
theorem d1_16 : decode method_3_code 16 = .ok (.bastore, 1) := by decide +kernel
theorem d1_17 : decode method_3_code 17 = .ok (.aload_n 0, 1) := by decide +kernel
theorem d1_18 : decode method_3_code 18 = .ok (.iload_n 1, 1) := by decide +kernel
theorem d1_19 : decode method_3_code 19 = .ok (.iconst 2, 1) := by decide +kernel
theorem d1_20 : decode method_3_code 20 = .ok (.iadd, 1) := by decide +kernel
theorem d1_21 : decode method_3_code 21 = .ok (.lload_n 2, 1) := by decide +kernel
theorem d1_22 : decode method_3_code 22 = .ok (.bipush 16, 2) := by decide +kernel
theorem d1_24 : decode method_3_code 24 = .ok (.lushr, 1) := by decide +kernel
theorem d1_25 : decode method_3_code 25 = .ok (.l2i, 1) := by decide +kernel
theorem d1_26 : decode method_3_code 26 = .ok (.i2b, 1) := by decide +kernel
theorem d1_27 : decode method_3_code 27 = .ok (.bastore, 1) := by decide +kernel
theorem d1_28 : decode method_3_code 28 = .ok (.aload_n 0, 1) := by decide +kernel
theorem d1_29 : decode method_3_code 29 = .ok (.iload_n 1, 1) := by decide +kernel
theorem d1_30 : decode method_3_code 30 = .ok (.iconst 3, 1) := by decide +kernel
theorem d1_31 : decode method_3_code 31 = .ok (.iadd, 1) := by decide +kernel
theorem d1_32 : decode method_3_code 32 = .ok (.lload_n 2, 1) := by decide +kernel
theorem d1_33 : decode method_3_code 33 = .ok (.bipush 24, 2) := by decide +kernel
theorem d1_35 : decode method_3_code 35 = .ok (.lushr, 1) := by decide +kernel
theorem d1_36 : decode method_3_code 36 = .ok (.l2i, 1) := by decide +kernel
theorem d1_37 : decode method_3_code 37 = .ok (.i2b, 1) := by decide +kernel
theorem d1_38 : decode method_3_code 38 = .ok (.bastore, 1) := by decide +kernel
theorem d1_39 : decode method_3_code 39 = .ok (.aload_n 0, 1) := by decide +kernel
theorem d1_40 : decode method_3_code 40 = .ok (.iload_n 1, 1) := by decide +kernel
theorem d1_41 : decode method_3_code 41 = .ok (.iconst 4, 1) := by decide +kernel
theorem d1_42 : decode method_3_code 42 = .ok (.iadd, 1) := by decide +kernel
theorem d1_43 : decode method_3_code 43 = .ok (.lload_n 2, 1) := by decide +kernel
theorem d1_44 : decode method_3_code 44 = .ok (.bipush 32, 2) := by decide +kernel
theorem d1_46 : decode method_3_code 46 = .ok (.lushr, 1) := by decide +kernel
theorem d1_47 : decode method_3_code 47 = .ok (.l2i, 1) := by decide +kernel
theorem d1_48 : decode method_3_code 48 = .ok (.i2b, 1) := by decide +kernel
theorem d1_49 : decode method_3_code 49 = .ok (.bastore, 1) := by decide +kernel
theorem d1_50 : decode method_3_code 50 = .ok (.aload_n 0, 1) := by decide +kernel
theorem d1_51 : decode method_3_code 51 = .ok (.iload_n 1, 1) := by decide +kernel
theorem d1_52 : decode method_3_code 52 = .ok (.iconst 5, 1) := by decide +kernel
theorem d1_53 : decode method_3_code 53 = .ok (.iadd, 1) := by decide +kernel
theorem d1_54 : decode method_3_code 54 = .ok (.lload_n 2, 1) := by decide +kernel
theorem d1_55 : decode method_3_code 55 = .ok (.bipush 40, 2) := by decide +kernel
theorem d1_57 : decode method_3_code 57 = .ok (.lushr, 1) := by decide +kernel
theorem d1_58 : decode method_3_code 58 = .ok (.l2i, 1) := by decide +kernel
theorem d1_59 : decode method_3_code 59 = .ok (.i2b, 1) := by decide +kernel
theorem d1_60 : decode method_3_code 60 = .ok (.bastore, 1) := by decide +kernel
theorem d1_61 : decode method_3_code 61 = .ok (.aload_n 0, 1) := by decide +kernel
theorem d1_62 : decode method_3_code 62 = .ok (.iload_n 1, 1) := by decide +kernel
theorem d1_63 : decode method_3_code 63 = .ok (.bipush 6, 2) := by decide +kernel
theorem d1_65 : decode method_3_code 65 = .ok (.iadd, 1) := by decide +kernel
theorem d1_66 : decode method_3_code 66 = .ok (.lload_n 2, 1) := by decide +kernel
theorem d1_67 : decode method_3_code 67 = .ok (.bipush 48, 2) := by decide +kernel
theorem d1_69 : decode method_3_code 69 = .ok (.lushr, 1) := by decide +kernel
theorem d1_70 : decode method_3_code 70 = .ok (.l2i, 1) := by decide +kernel
theorem d1_71 : decode method_3_code 71 = .ok (.i2b, 1) := by decide +kernel
theorem d1_72 : decode method_3_code 72 = .ok (.bastore, 1) := by decide +kernel
theorem d1_73 : decode method_3_code 73 = .ok (.aload_n 0, 1) := by decide +kernel
theorem d1_74 : decode method_3_code 74 = .ok (.iload_n 1, 1) := by decide +kernel
theorem d1_75 : decode method_3_code 75 = .ok (.bipush 7, 2) := by decide +kernel
theorem d1_77 : decode method_3_code 77 = .ok (.iadd, 1) := by decide +kernel
theorem d1_78 : decode method_3_code 78 = .ok (.lload_n 2, 1) := by decide +kernel
theorem d1_79 : decode method_3_code 79 = .ok (.bipush 56, 2) := by decide +kernel
theorem d1_81 : decode method_3_code 81 = .ok (.lushr, 1) := by decide +kernel
theorem d1_82 : decode method_3_code 82 = .ok (.l2i, 1) := by decide +kernel
theorem d1_83 : decode method_3_code 83 = .ok (.i2b, 1) := by decide +kernel
theorem d1_84 : decode method_3_code 84 = .ok (.bastore, 1) := by decide +kernel
theorem d1_85 : decode method_3_code 85 = .ok (.return_, 1) := by decide +kernel
theorem pn_com_example_strata_strata_PostingsUnpackTimesPinLaw : plainName "com/example/strata/strata/PostingsUnpackTimesPinLaw" = true := by first | (simp [plainName, overriddenIn]; done) | decide +kernel
theorem ef_1 (m : MethodId) (x0 : Addr) (x1 : Int32) (x2 : Int64) : entryFrame m #[(.ref x0), (.int x1), (.long x2)] 4 = mkF m 0 #[.val (.ref x0), .val (.int x1), .val (.long x2), .second] [] := by first | (simp [entryFrame, mkF, argsToLocals, Value.category]; done) | rfl
def Q1 (Z : State) (ab : Addr) (q2 : Int64) (oo : Nat) (kb : ClassId) (f : Nat → Int32) (h0 : Heap) (n0 : Nat) (v : Option Value) (h : Heap) (L : List Loc) : Prop := (v = none) ∧ (Fr n0 L) ∧ (Keep h0 h [ab]) ∧ (Arv Z h ab kb .byte (64 : Int32) (own_bs (own_put f oo q2)) (.int (0 : Int32)))
abbrev rom_1 : Room := { frames := 0, cells := 0, slots := 0, locals := 0 }
set_option maxRecDepth 65536 in
set_option maxHeartbeats 40000000 in
theorem rm1 (l : Launch) (Z : State) (a0 : Array Value) (hw : ∀ d ∈ tables_1, d.before a0 Z = true) (ws : List Jvm.Cond) (ab : Addr) (q2 : Int64) (oo : Nat) (kb : ClassId) (f : Nat → Int32) (h0 : Heap) (n0 : Nat) (Z0 : n0 ≤ h0.size) (F0_ab : Arv Z h0 ab kb .byte (64 : Int32) (own_bs f) (.int (0 : Int32))) (g_ab : n0 ≤ ab) (ho : oo + 8 ≤ 64) :
    MetFree l (⟨"com/example/strata/strata/PostingsUnpackTimesPinLaw", "put", "([BIJ)V"⟩ : MethodName) (head1 (Jvm.Cond.code (⟨"com/example/strata/strata/PostingsUnpackTimesPinLaw", "put", "([BIJ)V"⟩ : MethodName) method_3_code 4 none :: ws) rom_1) (fun a U => a = #[(.ref ab), (.int (Int32.ofNat oo)), (.long q2)] ∧ Z.Warmed39 U.vm ∧ U.heap = h0) (fun _ _ _ _ _ => True) (fun _ U o U' => ∃ v L, o = .returned v ∧ Q1 Z ab q2 oo kb f h0 n0 v U'.heap L ∧ FrameEnd U o U' L rom_1.cells rom_1.slots) := by
  refine MetFree.of_bodySF (plainFor_of_name pn_com_example_strata_strata_PostingsUnpackTimesPinLaw) hisR ?_
  intro p e s m args below meth c s₁ Bd hml0 hP hK
  obtain ⟨rfl, hZ, hh⟩ := hP
  have hx := Bd.exec
  have hby := Bd.bytes
  have hlk := Bd.notSynchronized
  have hml : c.maxLocals = 4 := hml0
  have hown : s.vm.findClass "com/example/strata/strata/PostingsUnpackTimesPinLaw" = some m.cls := findClass_of_methodNamed Bd.named
  have hnm := (name_of_methodNamed Bd.named Bd.method).1
  have X0 : Stand p l e rom_1 s m #[(.ref ab), (.int (Int32.ofNat oo)), (.long q2)] below meth c s₁ [] 0 0 := Stand.of_body Bd
  have e0 : s₁.heap = h0 := by rw [← hh, Bd.state]; rfl
  have N0 := Fr.nil n0
  have K0 : Keep h0 h0 [ab] := Keep.refl _ _
  refine (?_ : OG p e below s (Q1 Z ab q2 oo kb f h0 n0) rom_1.cells rom_1.slots _)
  rw [ef_1]
  have s1 : ∀ tz, Steps p.tables e below (s₁.setTop (mkF m 5 #[.val (.ref ab), .val (.int (Int32.ofNat oo)), .val (.long q2), .second] [(.int ((q2.toInt32).toInt8.toInt32)), (.int (Int32.ofNat oo)), (.ref ab)])) tz → Steps p.tables e below (s₁.setTop (mkF m 0 #[.val (.ref ab), .val (.int (Int32.ofNat oo)), .val (.long q2), .second] [])) tz := by
    intro tz kz
    refine XS.aloadN X0.here hx rfl (hb hby d1_0) rfl rfl ?_
    show Steps p.tables e below (s₁.setTop (mkF m 1 #[.val (.ref ab), .val (.int (Int32.ofNat oo)), .val (.long q2), .second] [(.ref ab)])) _
    refine XS.iloadN X0.here hx rfl (hb hby d1_1) rfl ?_
    show Steps p.tables e below (s₁.setTop (mkF m 2 #[.val (.ref ab), .val (.int (Int32.ofNat oo)), .val (.long q2), .second] [(.int (Int32.ofNat oo)), (.ref ab)])) _
    refine XS.lloadN X0.here hx rfl (hb hby d1_2) rfl ?_
    show Steps p.tables e below (s₁.setTop (mkF m 3 #[.val (.ref ab), .val (.int (Int32.ofNat oo)), .val (.long q2), .second] [(.long q2), (.int (Int32.ofNat oo)), (.ref ab)])) _
    refine XS.l2i X0.here hx rfl (hb hby d1_3) rfl ?_
    show Steps p.tables e below (s₁.setTop (mkF m 4 #[.val (.ref ab), .val (.int (Int32.ofNat oo)), .val (.long q2), .second] [(.int (q2.toInt32)), (.int (Int32.ofNat oo)), (.ref ab)])) _
    refine XS.i2b X0.here hx rfl (hb hby d1_4) rfl ?_
    exact kz
  refine OG.step s1 ?_
  have av2 := F0_ab
  obtain ⟨cl2, Ar2, qa_2, Sa_2, Nn_2, Ha_2, Ga_2⟩ := av2
  have hin2 : ¬ ((Int32.ofNat oo) < 0 ∨ cl2.slots.size ≤ ((Int32.ofNat oo)).toNatClampNeg) := inb_of Sa_2 ⟨(own_ix0 ho).1, (own_ix0 ho).2.1⟩
  obtain ⟨T3, h3, X3, e3, W3, st3⟩ := stB X0 hx hZ e0 Ar2 (j := (Int32.ofNat oo)) hin2 (g := (mkF m 5 #[.val (.ref ab), .val (.int (Int32.ofNat oo)), .val (.long q2), .second] [(.int ((q2.toInt32).toInt8.toInt32)), (.int (Int32.ofNat oo)), (.ref ab)])) rfl rfl (hb hby d1_5)
  refine OG.step st3 ?_
  have Va3 := Arv.set Ar2 qa_2 Sa_2 Nn_2 Ha_2 Ga_2 (fits_nar_byte _) W3 ((oo + 0)) (own_ix0 ho).2.2 (own_blen f (by omega))
  have Va3 : Arv Z h3 ab kb .byte (64 : Int32) ((own_bs f).set (oo + 0) (.int (own_byte q2 0))) (.int (0 : Int32)) := Va3
  have V3 : Arv Z h3 ab kb .byte (64 : Int32) (own_bs (own_upd f (oo + 0) (own_byte q2 0))) (.int (0 : Int32)) := by rw [own_bset f (i := (oo + 0)) (by omega) (own_byte q2 0)] at Va3; exact Va3
  have K3 := K0.wr W3 (Or.inl (List.mem_of_getElem? (i := 0) rfl))
  have N3 := Fr.snoc X3 N0 g_ab
  obtain ⟨Lz4, X3, N3⟩ : ∃ Lz, Stand p l e rom_1 s m #[(.ref ab), (.int (Int32.ofNat oo)), (.long q2)] below meth c T3 Lz 0 0 ∧ Fr n0 Lz := ⟨_, X3, N3⟩
  show OG _ _ _ _ _ _ _ (T3.setTop (mkF m 6 #[.val (.ref ab), .val (.int (Int32.ofNat oo)), .val (.long q2), .second] []))
  have s5 : ∀ tz, Steps p.tables e below (T3.setTop (mkF m 16 #[.val (.ref ab), .val (.int (Int32.ofNat oo)), .val (.long q2), .second] [(.int ((((q2.toUInt64 >>> ((8 : Int32) &&& 0x3f).toInt64.toUInt64).toInt64).toInt32).toInt8.toInt32)), (.int ((Int32.ofNat oo) + (1 : Int32))), (.ref ab)])) tz → Steps p.tables e below (T3.setTop (mkF m 6 #[.val (.ref ab), .val (.int (Int32.ofNat oo)), .val (.long q2), .second] [])) tz := by
    intro tz kz
    refine XS.aloadN X3.here hx rfl (hb hby d1_6) rfl rfl ?_
    show Steps p.tables e below (T3.setTop (mkF m 7 #[.val (.ref ab), .val (.int (Int32.ofNat oo)), .val (.long q2), .second] [(.ref ab)])) _
    refine XS.iloadN X3.here hx rfl (hb hby d1_7) rfl ?_
    show Steps p.tables e below (T3.setTop (mkF m 8 #[.val (.ref ab), .val (.int (Int32.ofNat oo)), .val (.long q2), .second] [(.int (Int32.ofNat oo)), (.ref ab)])) _
    refine XS.iconst X3.here hx rfl (hb hby d1_8) ?_
    show Steps p.tables e below (T3.setTop (mkF m 9 #[.val (.ref ab), .val (.int (Int32.ofNat oo)), .val (.long q2), .second] [(.int (1 : Int32)), (.int (Int32.ofNat oo)), (.ref ab)])) _
    refine XS.iadd X3.here hx rfl (hb hby d1_9) rfl ?_
    show Steps p.tables e below (T3.setTop (mkF m 10 #[.val (.ref ab), .val (.int (Int32.ofNat oo)), .val (.long q2), .second] [(.int ((Int32.ofNat oo) + (1 : Int32))), (.ref ab)])) _
    refine XS.lloadN X3.here hx rfl (hb hby d1_10) rfl ?_
    show Steps p.tables e below (T3.setTop (mkF m 11 #[.val (.ref ab), .val (.int (Int32.ofNat oo)), .val (.long q2), .second] [(.long q2), (.int ((Int32.ofNat oo) + (1 : Int32))), (.ref ab)])) _
    refine XS.bipush X3.here hx rfl (hb hby d1_11) ?_
    show Steps p.tables e below (T3.setTop (mkF m 13 #[.val (.ref ab), .val (.int (Int32.ofNat oo)), .val (.long q2), .second] [(.int (8 : Int32)), (.long q2), (.int ((Int32.ofNat oo) + (1 : Int32))), (.ref ab)])) _
    refine XS.lushr X3.here hx rfl (hb hby d1_13) rfl ?_
    show Steps p.tables e below (T3.setTop (mkF m 14 #[.val (.ref ab), .val (.int (Int32.ofNat oo)), .val (.long q2), .second] [(.long ((q2.toUInt64 >>> ((8 : Int32) &&& 0x3f).toInt64.toUInt64).toInt64)), (.int ((Int32.ofNat oo) + (1 : Int32))), (.ref ab)])) _
    refine XS.l2i X3.here hx rfl (hb hby d1_14) rfl ?_
    show Steps p.tables e below (T3.setTop (mkF m 15 #[.val (.ref ab), .val (.int (Int32.ofNat oo)), .val (.long q2), .second] [(.int (((q2.toUInt64 >>> ((8 : Int32) &&& 0x3f).toInt64.toUInt64).toInt64).toInt32)), (.int ((Int32.ofNat oo) + (1 : Int32))), (.ref ab)])) _
    refine XS.i2b X3.here hx rfl (hb hby d1_15) rfl ?_
    exact kz
  refine OG.step s5 ?_
  have av6 := V3
  obtain ⟨cl6, Ar6, qa_6, Sa_6, Nn_6, Ha_6, Ga_6⟩ := av6
  have hin6 : ¬ (((Int32.ofNat oo) + (1 : Int32)) < 0 ∨ cl6.slots.size ≤ (((Int32.ofNat oo) + (1 : Int32))).toNatClampNeg) := inb_of Sa_6 ⟨(own_ix ho 1 (by decide) (1 : Int32) (by decide)).1, (own_ix ho 1 (by decide) (1 : Int32) (by decide)).2.1⟩
  obtain ⟨T7, h7, X7, e7, W7, st7⟩ := stB X3 hx hZ e3 Ar6 (j := ((Int32.ofNat oo) + (1 : Int32))) hin6 (g := (mkF m 16 #[.val (.ref ab), .val (.int (Int32.ofNat oo)), .val (.long q2), .second] [(.int ((((q2.toUInt64 >>> ((8 : Int32) &&& 0x3f).toInt64.toUInt64).toInt64).toInt32).toInt8.toInt32)), (.int ((Int32.ofNat oo) + (1 : Int32))), (.ref ab)])) rfl rfl (hb hby d1_16)
  refine OG.step st7 ?_
  have Va7 := Arv.set Ar6 qa_6 Sa_6 Nn_6 Ha_6 Ga_6 (fits_nar_byte _) W7 ((oo + 1)) (own_ix ho 1 (by decide) (1 : Int32) (by decide)).2.2 (own_blen (own_upd f (oo + 0) (own_byte q2 0)) (by omega))
  have Va7 : Arv Z h7 ab kb .byte (64 : Int32) ((own_bs (own_upd f (oo + 0) (own_byte q2 0))).set (oo + 1) (.int (own_byte q2 1))) (.int (0 : Int32)) := Va7
  have V7 : Arv Z h7 ab kb .byte (64 : Int32) (own_bs (own_upd (own_upd f (oo + 0) (own_byte q2 0)) (oo + 1) (own_byte q2 1))) (.int (0 : Int32)) := by rw [own_bset (own_upd f (oo + 0) (own_byte q2 0)) (i := (oo + 1)) (by omega) (own_byte q2 1)] at Va7; exact Va7
  have K7 := K3.wr W7 (Or.inl (List.mem_of_getElem? (i := 0) rfl))
  have N7 := Fr.snoc X7 N3 g_ab
  obtain ⟨Lz8, X7, N7⟩ : ∃ Lz, Stand p l e rom_1 s m #[(.ref ab), (.int (Int32.ofNat oo)), (.long q2)] below meth c T7 Lz 0 0 ∧ Fr n0 Lz := ⟨_, X7, N7⟩
  show OG _ _ _ _ _ _ _ (T7.setTop (mkF m 17 #[.val (.ref ab), .val (.int (Int32.ofNat oo)), .val (.long q2), .second] []))
  have s9 : ∀ tz, Steps p.tables e below (T7.setTop (mkF m 27 #[.val (.ref ab), .val (.int (Int32.ofNat oo)), .val (.long q2), .second] [(.int ((((q2.toUInt64 >>> ((16 : Int32) &&& 0x3f).toInt64.toUInt64).toInt64).toInt32).toInt8.toInt32)), (.int ((Int32.ofNat oo) + (2 : Int32))), (.ref ab)])) tz → Steps p.tables e below (T7.setTop (mkF m 17 #[.val (.ref ab), .val (.int (Int32.ofNat oo)), .val (.long q2), .second] [])) tz := by
    intro tz kz
    refine XS.aloadN X7.here hx rfl (hb hby d1_17) rfl rfl ?_
    show Steps p.tables e below (T7.setTop (mkF m 18 #[.val (.ref ab), .val (.int (Int32.ofNat oo)), .val (.long q2), .second] [(.ref ab)])) _
    refine XS.iloadN X7.here hx rfl (hb hby d1_18) rfl ?_
    show Steps p.tables e below (T7.setTop (mkF m 19 #[.val (.ref ab), .val (.int (Int32.ofNat oo)), .val (.long q2), .second] [(.int (Int32.ofNat oo)), (.ref ab)])) _
    refine XS.iconst X7.here hx rfl (hb hby d1_19) ?_
    show Steps p.tables e below (T7.setTop (mkF m 20 #[.val (.ref ab), .val (.int (Int32.ofNat oo)), .val (.long q2), .second] [(.int (2 : Int32)), (.int (Int32.ofNat oo)), (.ref ab)])) _
    refine XS.iadd X7.here hx rfl (hb hby d1_20) rfl ?_
    show Steps p.tables e below (T7.setTop (mkF m 21 #[.val (.ref ab), .val (.int (Int32.ofNat oo)), .val (.long q2), .second] [(.int ((Int32.ofNat oo) + (2 : Int32))), (.ref ab)])) _
    refine XS.lloadN X7.here hx rfl (hb hby d1_21) rfl ?_
    show Steps p.tables e below (T7.setTop (mkF m 22 #[.val (.ref ab), .val (.int (Int32.ofNat oo)), .val (.long q2), .second] [(.long q2), (.int ((Int32.ofNat oo) + (2 : Int32))), (.ref ab)])) _
    refine XS.bipush X7.here hx rfl (hb hby d1_22) ?_
    show Steps p.tables e below (T7.setTop (mkF m 24 #[.val (.ref ab), .val (.int (Int32.ofNat oo)), .val (.long q2), .second] [(.int (16 : Int32)), (.long q2), (.int ((Int32.ofNat oo) + (2 : Int32))), (.ref ab)])) _
    refine XS.lushr X7.here hx rfl (hb hby d1_24) rfl ?_
    show Steps p.tables e below (T7.setTop (mkF m 25 #[.val (.ref ab), .val (.int (Int32.ofNat oo)), .val (.long q2), .second] [(.long ((q2.toUInt64 >>> ((16 : Int32) &&& 0x3f).toInt64.toUInt64).toInt64)), (.int ((Int32.ofNat oo) + (2 : Int32))), (.ref ab)])) _
    refine XS.l2i X7.here hx rfl (hb hby d1_25) rfl ?_
    show Steps p.tables e below (T7.setTop (mkF m 26 #[.val (.ref ab), .val (.int (Int32.ofNat oo)), .val (.long q2), .second] [(.int (((q2.toUInt64 >>> ((16 : Int32) &&& 0x3f).toInt64.toUInt64).toInt64).toInt32)), (.int ((Int32.ofNat oo) + (2 : Int32))), (.ref ab)])) _
    refine XS.i2b X7.here hx rfl (hb hby d1_26) rfl ?_
    exact kz
  refine OG.step s9 ?_
  have av10 := V7
  obtain ⟨cl10, Ar10, qa_10, Sa_10, Nn_10, Ha_10, Ga_10⟩ := av10
  have hin10 : ¬ (((Int32.ofNat oo) + (2 : Int32)) < 0 ∨ cl10.slots.size ≤ (((Int32.ofNat oo) + (2 : Int32))).toNatClampNeg) := inb_of Sa_10 ⟨(own_ix ho 2 (by decide) (2 : Int32) (by decide)).1, (own_ix ho 2 (by decide) (2 : Int32) (by decide)).2.1⟩
  obtain ⟨T11, h11, X11, e11, W11, st11⟩ := stB X7 hx hZ e7 Ar10 (j := ((Int32.ofNat oo) + (2 : Int32))) hin10 (g := (mkF m 27 #[.val (.ref ab), .val (.int (Int32.ofNat oo)), .val (.long q2), .second] [(.int ((((q2.toUInt64 >>> ((16 : Int32) &&& 0x3f).toInt64.toUInt64).toInt64).toInt32).toInt8.toInt32)), (.int ((Int32.ofNat oo) + (2 : Int32))), (.ref ab)])) rfl rfl (hb hby d1_27)
  refine OG.step st11 ?_
  have Va11 := Arv.set Ar10 qa_10 Sa_10 Nn_10 Ha_10 Ga_10 (fits_nar_byte _) W11 ((oo + 2)) (own_ix ho 2 (by decide) (2 : Int32) (by decide)).2.2 (own_blen (own_upd (own_upd f (oo + 0) (own_byte q2 0)) (oo + 1) (own_byte q2 1)) (by omega))
  have Va11 : Arv Z h11 ab kb .byte (64 : Int32) ((own_bs (own_upd (own_upd f (oo + 0) (own_byte q2 0)) (oo + 1) (own_byte q2 1))).set (oo + 2) (.int (own_byte q2 2))) (.int (0 : Int32)) := Va11
  have V11 : Arv Z h11 ab kb .byte (64 : Int32) (own_bs (own_upd (own_upd (own_upd f (oo + 0) (own_byte q2 0)) (oo + 1) (own_byte q2 1)) (oo + 2) (own_byte q2 2))) (.int (0 : Int32)) := by rw [own_bset (own_upd (own_upd f (oo + 0) (own_byte q2 0)) (oo + 1) (own_byte q2 1)) (i := (oo + 2)) (by omega) (own_byte q2 2)] at Va11; exact Va11
  have K11 := K7.wr W11 (Or.inl (List.mem_of_getElem? (i := 0) rfl))
  have N11 := Fr.snoc X11 N7 g_ab
  obtain ⟨Lz12, X11, N11⟩ : ∃ Lz, Stand p l e rom_1 s m #[(.ref ab), (.int (Int32.ofNat oo)), (.long q2)] below meth c T11 Lz 0 0 ∧ Fr n0 Lz := ⟨_, X11, N11⟩
  show OG _ _ _ _ _ _ _ (T11.setTop (mkF m 28 #[.val (.ref ab), .val (.int (Int32.ofNat oo)), .val (.long q2), .second] []))
  have s13 : ∀ tz, Steps p.tables e below (T11.setTop (mkF m 38 #[.val (.ref ab), .val (.int (Int32.ofNat oo)), .val (.long q2), .second] [(.int ((((q2.toUInt64 >>> ((24 : Int32) &&& 0x3f).toInt64.toUInt64).toInt64).toInt32).toInt8.toInt32)), (.int ((Int32.ofNat oo) + (3 : Int32))), (.ref ab)])) tz → Steps p.tables e below (T11.setTop (mkF m 28 #[.val (.ref ab), .val (.int (Int32.ofNat oo)), .val (.long q2), .second] [])) tz := by
    intro tz kz
    refine XS.aloadN X11.here hx rfl (hb hby d1_28) rfl rfl ?_
    show Steps p.tables e below (T11.setTop (mkF m 29 #[.val (.ref ab), .val (.int (Int32.ofNat oo)), .val (.long q2), .second] [(.ref ab)])) _
    refine XS.iloadN X11.here hx rfl (hb hby d1_29) rfl ?_
    show Steps p.tables e below (T11.setTop (mkF m 30 #[.val (.ref ab), .val (.int (Int32.ofNat oo)), .val (.long q2), .second] [(.int (Int32.ofNat oo)), (.ref ab)])) _
    refine XS.iconst X11.here hx rfl (hb hby d1_30) ?_
    show Steps p.tables e below (T11.setTop (mkF m 31 #[.val (.ref ab), .val (.int (Int32.ofNat oo)), .val (.long q2), .second] [(.int (3 : Int32)), (.int (Int32.ofNat oo)), (.ref ab)])) _
    refine XS.iadd X11.here hx rfl (hb hby d1_31) rfl ?_
    show Steps p.tables e below (T11.setTop (mkF m 32 #[.val (.ref ab), .val (.int (Int32.ofNat oo)), .val (.long q2), .second] [(.int ((Int32.ofNat oo) + (3 : Int32))), (.ref ab)])) _
    refine XS.lloadN X11.here hx rfl (hb hby d1_32) rfl ?_
    show Steps p.tables e below (T11.setTop (mkF m 33 #[.val (.ref ab), .val (.int (Int32.ofNat oo)), .val (.long q2), .second] [(.long q2), (.int ((Int32.ofNat oo) + (3 : Int32))), (.ref ab)])) _
    refine XS.bipush X11.here hx rfl (hb hby d1_33) ?_
    show Steps p.tables e below (T11.setTop (mkF m 35 #[.val (.ref ab), .val (.int (Int32.ofNat oo)), .val (.long q2), .second] [(.int (24 : Int32)), (.long q2), (.int ((Int32.ofNat oo) + (3 : Int32))), (.ref ab)])) _
    refine XS.lushr X11.here hx rfl (hb hby d1_35) rfl ?_
    show Steps p.tables e below (T11.setTop (mkF m 36 #[.val (.ref ab), .val (.int (Int32.ofNat oo)), .val (.long q2), .second] [(.long ((q2.toUInt64 >>> ((24 : Int32) &&& 0x3f).toInt64.toUInt64).toInt64)), (.int ((Int32.ofNat oo) + (3 : Int32))), (.ref ab)])) _
    refine XS.l2i X11.here hx rfl (hb hby d1_36) rfl ?_
    show Steps p.tables e below (T11.setTop (mkF m 37 #[.val (.ref ab), .val (.int (Int32.ofNat oo)), .val (.long q2), .second] [(.int (((q2.toUInt64 >>> ((24 : Int32) &&& 0x3f).toInt64.toUInt64).toInt64).toInt32)), (.int ((Int32.ofNat oo) + (3 : Int32))), (.ref ab)])) _
    refine XS.i2b X11.here hx rfl (hb hby d1_37) rfl ?_
    exact kz
  refine OG.step s13 ?_
  have av14 := V11
  obtain ⟨cl14, Ar14, qa_14, Sa_14, Nn_14, Ha_14, Ga_14⟩ := av14
  have hin14 : ¬ (((Int32.ofNat oo) + (3 : Int32)) < 0 ∨ cl14.slots.size ≤ (((Int32.ofNat oo) + (3 : Int32))).toNatClampNeg) := inb_of Sa_14 ⟨(own_ix ho 3 (by decide) (3 : Int32) (by decide)).1, (own_ix ho 3 (by decide) (3 : Int32) (by decide)).2.1⟩
  obtain ⟨T15, h15, X15, e15, W15, st15⟩ := stB X11 hx hZ e11 Ar14 (j := ((Int32.ofNat oo) + (3 : Int32))) hin14 (g := (mkF m 38 #[.val (.ref ab), .val (.int (Int32.ofNat oo)), .val (.long q2), .second] [(.int ((((q2.toUInt64 >>> ((24 : Int32) &&& 0x3f).toInt64.toUInt64).toInt64).toInt32).toInt8.toInt32)), (.int ((Int32.ofNat oo) + (3 : Int32))), (.ref ab)])) rfl rfl (hb hby d1_38)
  refine OG.step st15 ?_
  have Va15 := Arv.set Ar14 qa_14 Sa_14 Nn_14 Ha_14 Ga_14 (fits_nar_byte _) W15 ((oo + 3)) (own_ix ho 3 (by decide) (3 : Int32) (by decide)).2.2 (own_blen (own_upd (own_upd (own_upd f (oo + 0) (own_byte q2 0)) (oo + 1) (own_byte q2 1)) (oo + 2) (own_byte q2 2)) (by omega))
  have Va15 : Arv Z h15 ab kb .byte (64 : Int32) ((own_bs (own_upd (own_upd (own_upd f (oo + 0) (own_byte q2 0)) (oo + 1) (own_byte q2 1)) (oo + 2) (own_byte q2 2))).set (oo + 3) (.int (own_byte q2 3))) (.int (0 : Int32)) := Va15
  have V15 : Arv Z h15 ab kb .byte (64 : Int32) (own_bs (own_upd (own_upd (own_upd (own_upd f (oo + 0) (own_byte q2 0)) (oo + 1) (own_byte q2 1)) (oo + 2) (own_byte q2 2)) (oo + 3) (own_byte q2 3))) (.int (0 : Int32)) := by rw [own_bset (own_upd (own_upd (own_upd f (oo + 0) (own_byte q2 0)) (oo + 1) (own_byte q2 1)) (oo + 2) (own_byte q2 2)) (i := (oo + 3)) (by omega) (own_byte q2 3)] at Va15; exact Va15
  have K15 := K11.wr W15 (Or.inl (List.mem_of_getElem? (i := 0) rfl))
  have N15 := Fr.snoc X15 N11 g_ab
  obtain ⟨Lz16, X15, N15⟩ : ∃ Lz, Stand p l e rom_1 s m #[(.ref ab), (.int (Int32.ofNat oo)), (.long q2)] below meth c T15 Lz 0 0 ∧ Fr n0 Lz := ⟨_, X15, N15⟩
  show OG _ _ _ _ _ _ _ (T15.setTop (mkF m 39 #[.val (.ref ab), .val (.int (Int32.ofNat oo)), .val (.long q2), .second] []))
  have s17 : ∀ tz, Steps p.tables e below (T15.setTop (mkF m 49 #[.val (.ref ab), .val (.int (Int32.ofNat oo)), .val (.long q2), .second] [(.int ((((q2.toUInt64 >>> ((32 : Int32) &&& 0x3f).toInt64.toUInt64).toInt64).toInt32).toInt8.toInt32)), (.int ((Int32.ofNat oo) + (4 : Int32))), (.ref ab)])) tz → Steps p.tables e below (T15.setTop (mkF m 39 #[.val (.ref ab), .val (.int (Int32.ofNat oo)), .val (.long q2), .second] [])) tz := by
    intro tz kz
    refine XS.aloadN X15.here hx rfl (hb hby d1_39) rfl rfl ?_
    show Steps p.tables e below (T15.setTop (mkF m 40 #[.val (.ref ab), .val (.int (Int32.ofNat oo)), .val (.long q2), .second] [(.ref ab)])) _
    refine XS.iloadN X15.here hx rfl (hb hby d1_40) rfl ?_
    show Steps p.tables e below (T15.setTop (mkF m 41 #[.val (.ref ab), .val (.int (Int32.ofNat oo)), .val (.long q2), .second] [(.int (Int32.ofNat oo)), (.ref ab)])) _
    refine XS.iconst X15.here hx rfl (hb hby d1_41) ?_
    show Steps p.tables e below (T15.setTop (mkF m 42 #[.val (.ref ab), .val (.int (Int32.ofNat oo)), .val (.long q2), .second] [(.int (4 : Int32)), (.int (Int32.ofNat oo)), (.ref ab)])) _
    refine XS.iadd X15.here hx rfl (hb hby d1_42) rfl ?_
    show Steps p.tables e below (T15.setTop (mkF m 43 #[.val (.ref ab), .val (.int (Int32.ofNat oo)), .val (.long q2), .second] [(.int ((Int32.ofNat oo) + (4 : Int32))), (.ref ab)])) _
    refine XS.lloadN X15.here hx rfl (hb hby d1_43) rfl ?_
    show Steps p.tables e below (T15.setTop (mkF m 44 #[.val (.ref ab), .val (.int (Int32.ofNat oo)), .val (.long q2), .second] [(.long q2), (.int ((Int32.ofNat oo) + (4 : Int32))), (.ref ab)])) _
    refine XS.bipush X15.here hx rfl (hb hby d1_44) ?_
    show Steps p.tables e below (T15.setTop (mkF m 46 #[.val (.ref ab), .val (.int (Int32.ofNat oo)), .val (.long q2), .second] [(.int (32 : Int32)), (.long q2), (.int ((Int32.ofNat oo) + (4 : Int32))), (.ref ab)])) _
    refine XS.lushr X15.here hx rfl (hb hby d1_46) rfl ?_
    show Steps p.tables e below (T15.setTop (mkF m 47 #[.val (.ref ab), .val (.int (Int32.ofNat oo)), .val (.long q2), .second] [(.long ((q2.toUInt64 >>> ((32 : Int32) &&& 0x3f).toInt64.toUInt64).toInt64)), (.int ((Int32.ofNat oo) + (4 : Int32))), (.ref ab)])) _
    refine XS.l2i X15.here hx rfl (hb hby d1_47) rfl ?_
    show Steps p.tables e below (T15.setTop (mkF m 48 #[.val (.ref ab), .val (.int (Int32.ofNat oo)), .val (.long q2), .second] [(.int (((q2.toUInt64 >>> ((32 : Int32) &&& 0x3f).toInt64.toUInt64).toInt64).toInt32)), (.int ((Int32.ofNat oo) + (4 : Int32))), (.ref ab)])) _
    refine XS.i2b X15.here hx rfl (hb hby d1_48) rfl ?_
    exact kz
  refine OG.step s17 ?_
  have av18 := V15
  obtain ⟨cl18, Ar18, qa_18, Sa_18, Nn_18, Ha_18, Ga_18⟩ := av18
  have hin18 : ¬ (((Int32.ofNat oo) + (4 : Int32)) < 0 ∨ cl18.slots.size ≤ (((Int32.ofNat oo) + (4 : Int32))).toNatClampNeg) := inb_of Sa_18 ⟨(own_ix ho 4 (by decide) (4 : Int32) (by decide)).1, (own_ix ho 4 (by decide) (4 : Int32) (by decide)).2.1⟩
  obtain ⟨T19, h19, X19, e19, W19, st19⟩ := stB X15 hx hZ e15 Ar18 (j := ((Int32.ofNat oo) + (4 : Int32))) hin18 (g := (mkF m 49 #[.val (.ref ab), .val (.int (Int32.ofNat oo)), .val (.long q2), .second] [(.int ((((q2.toUInt64 >>> ((32 : Int32) &&& 0x3f).toInt64.toUInt64).toInt64).toInt32).toInt8.toInt32)), (.int ((Int32.ofNat oo) + (4 : Int32))), (.ref ab)])) rfl rfl (hb hby d1_49)
  refine OG.step st19 ?_
  have Va19 := Arv.set Ar18 qa_18 Sa_18 Nn_18 Ha_18 Ga_18 (fits_nar_byte _) W19 ((oo + 4)) (own_ix ho 4 (by decide) (4 : Int32) (by decide)).2.2 (own_blen (own_upd (own_upd (own_upd (own_upd f (oo + 0) (own_byte q2 0)) (oo + 1) (own_byte q2 1)) (oo + 2) (own_byte q2 2)) (oo + 3) (own_byte q2 3)) (by omega))
  have Va19 : Arv Z h19 ab kb .byte (64 : Int32) ((own_bs (own_upd (own_upd (own_upd (own_upd f (oo + 0) (own_byte q2 0)) (oo + 1) (own_byte q2 1)) (oo + 2) (own_byte q2 2)) (oo + 3) (own_byte q2 3))).set (oo + 4) (.int (own_byte q2 4))) (.int (0 : Int32)) := Va19
  have V19 : Arv Z h19 ab kb .byte (64 : Int32) (own_bs (own_upd (own_upd (own_upd (own_upd (own_upd f (oo + 0) (own_byte q2 0)) (oo + 1) (own_byte q2 1)) (oo + 2) (own_byte q2 2)) (oo + 3) (own_byte q2 3)) (oo + 4) (own_byte q2 4))) (.int (0 : Int32)) := by rw [own_bset (own_upd (own_upd (own_upd (own_upd f (oo + 0) (own_byte q2 0)) (oo + 1) (own_byte q2 1)) (oo + 2) (own_byte q2 2)) (oo + 3) (own_byte q2 3)) (i := (oo + 4)) (by omega) (own_byte q2 4)] at Va19; exact Va19
  have K19 := K15.wr W19 (Or.inl (List.mem_of_getElem? (i := 0) rfl))
  have N19 := Fr.snoc X19 N15 g_ab
  obtain ⟨Lz20, X19, N19⟩ : ∃ Lz, Stand p l e rom_1 s m #[(.ref ab), (.int (Int32.ofNat oo)), (.long q2)] below meth c T19 Lz 0 0 ∧ Fr n0 Lz := ⟨_, X19, N19⟩
  show OG _ _ _ _ _ _ _ (T19.setTop (mkF m 50 #[.val (.ref ab), .val (.int (Int32.ofNat oo)), .val (.long q2), .second] []))
  have s21 : ∀ tz, Steps p.tables e below (T19.setTop (mkF m 60 #[.val (.ref ab), .val (.int (Int32.ofNat oo)), .val (.long q2), .second] [(.int ((((q2.toUInt64 >>> ((40 : Int32) &&& 0x3f).toInt64.toUInt64).toInt64).toInt32).toInt8.toInt32)), (.int ((Int32.ofNat oo) + (5 : Int32))), (.ref ab)])) tz → Steps p.tables e below (T19.setTop (mkF m 50 #[.val (.ref ab), .val (.int (Int32.ofNat oo)), .val (.long q2), .second] [])) tz := by
    intro tz kz
    refine XS.aloadN X19.here hx rfl (hb hby d1_50) rfl rfl ?_
    show Steps p.tables e below (T19.setTop (mkF m 51 #[.val (.ref ab), .val (.int (Int32.ofNat oo)), .val (.long q2), .second] [(.ref ab)])) _
    refine XS.iloadN X19.here hx rfl (hb hby d1_51) rfl ?_
    show Steps p.tables e below (T19.setTop (mkF m 52 #[.val (.ref ab), .val (.int (Int32.ofNat oo)), .val (.long q2), .second] [(.int (Int32.ofNat oo)), (.ref ab)])) _
    refine XS.iconst X19.here hx rfl (hb hby d1_52) ?_
    show Steps p.tables e below (T19.setTop (mkF m 53 #[.val (.ref ab), .val (.int (Int32.ofNat oo)), .val (.long q2), .second] [(.int (5 : Int32)), (.int (Int32.ofNat oo)), (.ref ab)])) _
    refine XS.iadd X19.here hx rfl (hb hby d1_53) rfl ?_
    show Steps p.tables e below (T19.setTop (mkF m 54 #[.val (.ref ab), .val (.int (Int32.ofNat oo)), .val (.long q2), .second] [(.int ((Int32.ofNat oo) + (5 : Int32))), (.ref ab)])) _
    refine XS.lloadN X19.here hx rfl (hb hby d1_54) rfl ?_
    show Steps p.tables e below (T19.setTop (mkF m 55 #[.val (.ref ab), .val (.int (Int32.ofNat oo)), .val (.long q2), .second] [(.long q2), (.int ((Int32.ofNat oo) + (5 : Int32))), (.ref ab)])) _
    refine XS.bipush X19.here hx rfl (hb hby d1_55) ?_
    show Steps p.tables e below (T19.setTop (mkF m 57 #[.val (.ref ab), .val (.int (Int32.ofNat oo)), .val (.long q2), .second] [(.int (40 : Int32)), (.long q2), (.int ((Int32.ofNat oo) + (5 : Int32))), (.ref ab)])) _
    refine XS.lushr X19.here hx rfl (hb hby d1_57) rfl ?_
    show Steps p.tables e below (T19.setTop (mkF m 58 #[.val (.ref ab), .val (.int (Int32.ofNat oo)), .val (.long q2), .second] [(.long ((q2.toUInt64 >>> ((40 : Int32) &&& 0x3f).toInt64.toUInt64).toInt64)), (.int ((Int32.ofNat oo) + (5 : Int32))), (.ref ab)])) _
    refine XS.l2i X19.here hx rfl (hb hby d1_58) rfl ?_
    show Steps p.tables e below (T19.setTop (mkF m 59 #[.val (.ref ab), .val (.int (Int32.ofNat oo)), .val (.long q2), .second] [(.int (((q2.toUInt64 >>> ((40 : Int32) &&& 0x3f).toInt64.toUInt64).toInt64).toInt32)), (.int ((Int32.ofNat oo) + (5 : Int32))), (.ref ab)])) _
    refine XS.i2b X19.here hx rfl (hb hby d1_59) rfl ?_
    exact kz
  refine OG.step s21 ?_
  have av22 := V19
  obtain ⟨cl22, Ar22, qa_22, Sa_22, Nn_22, Ha_22, Ga_22⟩ := av22
  have hin22 : ¬ (((Int32.ofNat oo) + (5 : Int32)) < 0 ∨ cl22.slots.size ≤ (((Int32.ofNat oo) + (5 : Int32))).toNatClampNeg) := inb_of Sa_22 ⟨(own_ix ho 5 (by decide) (5 : Int32) (by decide)).1, (own_ix ho 5 (by decide) (5 : Int32) (by decide)).2.1⟩
  obtain ⟨T23, h23, X23, e23, W23, st23⟩ := stB X19 hx hZ e19 Ar22 (j := ((Int32.ofNat oo) + (5 : Int32))) hin22 (g := (mkF m 60 #[.val (.ref ab), .val (.int (Int32.ofNat oo)), .val (.long q2), .second] [(.int ((((q2.toUInt64 >>> ((40 : Int32) &&& 0x3f).toInt64.toUInt64).toInt64).toInt32).toInt8.toInt32)), (.int ((Int32.ofNat oo) + (5 : Int32))), (.ref ab)])) rfl rfl (hb hby d1_60)
  refine OG.step st23 ?_
  have Va23 := Arv.set Ar22 qa_22 Sa_22 Nn_22 Ha_22 Ga_22 (fits_nar_byte _) W23 ((oo + 5)) (own_ix ho 5 (by decide) (5 : Int32) (by decide)).2.2 (own_blen (own_upd (own_upd (own_upd (own_upd (own_upd f (oo + 0) (own_byte q2 0)) (oo + 1) (own_byte q2 1)) (oo + 2) (own_byte q2 2)) (oo + 3) (own_byte q2 3)) (oo + 4) (own_byte q2 4)) (by omega))
  have Va23 : Arv Z h23 ab kb .byte (64 : Int32) ((own_bs (own_upd (own_upd (own_upd (own_upd (own_upd f (oo + 0) (own_byte q2 0)) (oo + 1) (own_byte q2 1)) (oo + 2) (own_byte q2 2)) (oo + 3) (own_byte q2 3)) (oo + 4) (own_byte q2 4))).set (oo + 5) (.int (own_byte q2 5))) (.int (0 : Int32)) := Va23
  have V23 : Arv Z h23 ab kb .byte (64 : Int32) (own_bs (own_upd (own_upd (own_upd (own_upd (own_upd (own_upd f (oo + 0) (own_byte q2 0)) (oo + 1) (own_byte q2 1)) (oo + 2) (own_byte q2 2)) (oo + 3) (own_byte q2 3)) (oo + 4) (own_byte q2 4)) (oo + 5) (own_byte q2 5))) (.int (0 : Int32)) := by rw [own_bset (own_upd (own_upd (own_upd (own_upd (own_upd f (oo + 0) (own_byte q2 0)) (oo + 1) (own_byte q2 1)) (oo + 2) (own_byte q2 2)) (oo + 3) (own_byte q2 3)) (oo + 4) (own_byte q2 4)) (i := (oo + 5)) (by omega) (own_byte q2 5)] at Va23; exact Va23
  have K23 := K19.wr W23 (Or.inl (List.mem_of_getElem? (i := 0) rfl))
  have N23 := Fr.snoc X23 N19 g_ab
  obtain ⟨Lz24, X23, N23⟩ : ∃ Lz, Stand p l e rom_1 s m #[(.ref ab), (.int (Int32.ofNat oo)), (.long q2)] below meth c T23 Lz 0 0 ∧ Fr n0 Lz := ⟨_, X23, N23⟩
  show OG _ _ _ _ _ _ _ (T23.setTop (mkF m 61 #[.val (.ref ab), .val (.int (Int32.ofNat oo)), .val (.long q2), .second] []))
  have s25 : ∀ tz, Steps p.tables e below (T23.setTop (mkF m 72 #[.val (.ref ab), .val (.int (Int32.ofNat oo)), .val (.long q2), .second] [(.int ((((q2.toUInt64 >>> ((48 : Int32) &&& 0x3f).toInt64.toUInt64).toInt64).toInt32).toInt8.toInt32)), (.int ((Int32.ofNat oo) + (6 : Int32))), (.ref ab)])) tz → Steps p.tables e below (T23.setTop (mkF m 61 #[.val (.ref ab), .val (.int (Int32.ofNat oo)), .val (.long q2), .second] [])) tz := by
    intro tz kz
    refine XS.aloadN X23.here hx rfl (hb hby d1_61) rfl rfl ?_
    show Steps p.tables e below (T23.setTop (mkF m 62 #[.val (.ref ab), .val (.int (Int32.ofNat oo)), .val (.long q2), .second] [(.ref ab)])) _
    refine XS.iloadN X23.here hx rfl (hb hby d1_62) rfl ?_
    show Steps p.tables e below (T23.setTop (mkF m 63 #[.val (.ref ab), .val (.int (Int32.ofNat oo)), .val (.long q2), .second] [(.int (Int32.ofNat oo)), (.ref ab)])) _
    refine XS.bipush X23.here hx rfl (hb hby d1_63) ?_
    show Steps p.tables e below (T23.setTop (mkF m 65 #[.val (.ref ab), .val (.int (Int32.ofNat oo)), .val (.long q2), .second] [(.int (6 : Int32)), (.int (Int32.ofNat oo)), (.ref ab)])) _
    refine XS.iadd X23.here hx rfl (hb hby d1_65) rfl ?_
    show Steps p.tables e below (T23.setTop (mkF m 66 #[.val (.ref ab), .val (.int (Int32.ofNat oo)), .val (.long q2), .second] [(.int ((Int32.ofNat oo) + (6 : Int32))), (.ref ab)])) _
    refine XS.lloadN X23.here hx rfl (hb hby d1_66) rfl ?_
    show Steps p.tables e below (T23.setTop (mkF m 67 #[.val (.ref ab), .val (.int (Int32.ofNat oo)), .val (.long q2), .second] [(.long q2), (.int ((Int32.ofNat oo) + (6 : Int32))), (.ref ab)])) _
    refine XS.bipush X23.here hx rfl (hb hby d1_67) ?_
    show Steps p.tables e below (T23.setTop (mkF m 69 #[.val (.ref ab), .val (.int (Int32.ofNat oo)), .val (.long q2), .second] [(.int (48 : Int32)), (.long q2), (.int ((Int32.ofNat oo) + (6 : Int32))), (.ref ab)])) _
    refine XS.lushr X23.here hx rfl (hb hby d1_69) rfl ?_
    show Steps p.tables e below (T23.setTop (mkF m 70 #[.val (.ref ab), .val (.int (Int32.ofNat oo)), .val (.long q2), .second] [(.long ((q2.toUInt64 >>> ((48 : Int32) &&& 0x3f).toInt64.toUInt64).toInt64)), (.int ((Int32.ofNat oo) + (6 : Int32))), (.ref ab)])) _
    refine XS.l2i X23.here hx rfl (hb hby d1_70) rfl ?_
    show Steps p.tables e below (T23.setTop (mkF m 71 #[.val (.ref ab), .val (.int (Int32.ofNat oo)), .val (.long q2), .second] [(.int (((q2.toUInt64 >>> ((48 : Int32) &&& 0x3f).toInt64.toUInt64).toInt64).toInt32)), (.int ((Int32.ofNat oo) + (6 : Int32))), (.ref ab)])) _
    refine XS.i2b X23.here hx rfl (hb hby d1_71) rfl ?_
    exact kz
  refine OG.step s25 ?_
  have av26 := V23
  obtain ⟨cl26, Ar26, qa_26, Sa_26, Nn_26, Ha_26, Ga_26⟩ := av26
  have hin26 : ¬ (((Int32.ofNat oo) + (6 : Int32)) < 0 ∨ cl26.slots.size ≤ (((Int32.ofNat oo) + (6 : Int32))).toNatClampNeg) := inb_of Sa_26 ⟨(own_ix ho 6 (by decide) (6 : Int32) (by decide)).1, (own_ix ho 6 (by decide) (6 : Int32) (by decide)).2.1⟩
  obtain ⟨T27, h27, X27, e27, W27, st27⟩ := stB X23 hx hZ e23 Ar26 (j := ((Int32.ofNat oo) + (6 : Int32))) hin26 (g := (mkF m 72 #[.val (.ref ab), .val (.int (Int32.ofNat oo)), .val (.long q2), .second] [(.int ((((q2.toUInt64 >>> ((48 : Int32) &&& 0x3f).toInt64.toUInt64).toInt64).toInt32).toInt8.toInt32)), (.int ((Int32.ofNat oo) + (6 : Int32))), (.ref ab)])) rfl rfl (hb hby d1_72)
  refine OG.step st27 ?_
  have Va27 := Arv.set Ar26 qa_26 Sa_26 Nn_26 Ha_26 Ga_26 (fits_nar_byte _) W27 ((oo + 6)) (own_ix ho 6 (by decide) (6 : Int32) (by decide)).2.2 (own_blen (own_upd (own_upd (own_upd (own_upd (own_upd (own_upd f (oo + 0) (own_byte q2 0)) (oo + 1) (own_byte q2 1)) (oo + 2) (own_byte q2 2)) (oo + 3) (own_byte q2 3)) (oo + 4) (own_byte q2 4)) (oo + 5) (own_byte q2 5)) (by omega))
  have Va27 : Arv Z h27 ab kb .byte (64 : Int32) ((own_bs (own_upd (own_upd (own_upd (own_upd (own_upd (own_upd f (oo + 0) (own_byte q2 0)) (oo + 1) (own_byte q2 1)) (oo + 2) (own_byte q2 2)) (oo + 3) (own_byte q2 3)) (oo + 4) (own_byte q2 4)) (oo + 5) (own_byte q2 5))).set (oo + 6) (.int (own_byte q2 6))) (.int (0 : Int32)) := Va27
  have V27 : Arv Z h27 ab kb .byte (64 : Int32) (own_bs (own_upd (own_upd (own_upd (own_upd (own_upd (own_upd (own_upd f (oo + 0) (own_byte q2 0)) (oo + 1) (own_byte q2 1)) (oo + 2) (own_byte q2 2)) (oo + 3) (own_byte q2 3)) (oo + 4) (own_byte q2 4)) (oo + 5) (own_byte q2 5)) (oo + 6) (own_byte q2 6))) (.int (0 : Int32)) := by rw [own_bset (own_upd (own_upd (own_upd (own_upd (own_upd (own_upd f (oo + 0) (own_byte q2 0)) (oo + 1) (own_byte q2 1)) (oo + 2) (own_byte q2 2)) (oo + 3) (own_byte q2 3)) (oo + 4) (own_byte q2 4)) (oo + 5) (own_byte q2 5)) (i := (oo + 6)) (by omega) (own_byte q2 6)] at Va27; exact Va27
  have K27 := K23.wr W27 (Or.inl (List.mem_of_getElem? (i := 0) rfl))
  have N27 := Fr.snoc X27 N23 g_ab
  obtain ⟨Lz28, X27, N27⟩ : ∃ Lz, Stand p l e rom_1 s m #[(.ref ab), (.int (Int32.ofNat oo)), (.long q2)] below meth c T27 Lz 0 0 ∧ Fr n0 Lz := ⟨_, X27, N27⟩
  show OG _ _ _ _ _ _ _ (T27.setTop (mkF m 73 #[.val (.ref ab), .val (.int (Int32.ofNat oo)), .val (.long q2), .second] []))
  have s29 : ∀ tz, Steps p.tables e below (T27.setTop (mkF m 84 #[.val (.ref ab), .val (.int (Int32.ofNat oo)), .val (.long q2), .second] [(.int ((((q2.toUInt64 >>> ((56 : Int32) &&& 0x3f).toInt64.toUInt64).toInt64).toInt32).toInt8.toInt32)), (.int ((Int32.ofNat oo) + (7 : Int32))), (.ref ab)])) tz → Steps p.tables e below (T27.setTop (mkF m 73 #[.val (.ref ab), .val (.int (Int32.ofNat oo)), .val (.long q2), .second] [])) tz := by
    intro tz kz
    refine XS.aloadN X27.here hx rfl (hb hby d1_73) rfl rfl ?_
    show Steps p.tables e below (T27.setTop (mkF m 74 #[.val (.ref ab), .val (.int (Int32.ofNat oo)), .val (.long q2), .second] [(.ref ab)])) _
    refine XS.iloadN X27.here hx rfl (hb hby d1_74) rfl ?_
    show Steps p.tables e below (T27.setTop (mkF m 75 #[.val (.ref ab), .val (.int (Int32.ofNat oo)), .val (.long q2), .second] [(.int (Int32.ofNat oo)), (.ref ab)])) _
    refine XS.bipush X27.here hx rfl (hb hby d1_75) ?_
    show Steps p.tables e below (T27.setTop (mkF m 77 #[.val (.ref ab), .val (.int (Int32.ofNat oo)), .val (.long q2), .second] [(.int (7 : Int32)), (.int (Int32.ofNat oo)), (.ref ab)])) _
    refine XS.iadd X27.here hx rfl (hb hby d1_77) rfl ?_
    show Steps p.tables e below (T27.setTop (mkF m 78 #[.val (.ref ab), .val (.int (Int32.ofNat oo)), .val (.long q2), .second] [(.int ((Int32.ofNat oo) + (7 : Int32))), (.ref ab)])) _
    refine XS.lloadN X27.here hx rfl (hb hby d1_78) rfl ?_
    show Steps p.tables e below (T27.setTop (mkF m 79 #[.val (.ref ab), .val (.int (Int32.ofNat oo)), .val (.long q2), .second] [(.long q2), (.int ((Int32.ofNat oo) + (7 : Int32))), (.ref ab)])) _
    refine XS.bipush X27.here hx rfl (hb hby d1_79) ?_
    show Steps p.tables e below (T27.setTop (mkF m 81 #[.val (.ref ab), .val (.int (Int32.ofNat oo)), .val (.long q2), .second] [(.int (56 : Int32)), (.long q2), (.int ((Int32.ofNat oo) + (7 : Int32))), (.ref ab)])) _
    refine XS.lushr X27.here hx rfl (hb hby d1_81) rfl ?_
    show Steps p.tables e below (T27.setTop (mkF m 82 #[.val (.ref ab), .val (.int (Int32.ofNat oo)), .val (.long q2), .second] [(.long ((q2.toUInt64 >>> ((56 : Int32) &&& 0x3f).toInt64.toUInt64).toInt64)), (.int ((Int32.ofNat oo) + (7 : Int32))), (.ref ab)])) _
    refine XS.l2i X27.here hx rfl (hb hby d1_82) rfl ?_
    show Steps p.tables e below (T27.setTop (mkF m 83 #[.val (.ref ab), .val (.int (Int32.ofNat oo)), .val (.long q2), .second] [(.int (((q2.toUInt64 >>> ((56 : Int32) &&& 0x3f).toInt64.toUInt64).toInt64).toInt32)), (.int ((Int32.ofNat oo) + (7 : Int32))), (.ref ab)])) _
    refine XS.i2b X27.here hx rfl (hb hby d1_83) rfl ?_
    exact kz
  refine OG.step s29 ?_
  have av30 := V27
  obtain ⟨cl30, Ar30, qa_30, Sa_30, Nn_30, Ha_30, Ga_30⟩ := av30
  have hin30 : ¬ (((Int32.ofNat oo) + (7 : Int32)) < 0 ∨ cl30.slots.size ≤ (((Int32.ofNat oo) + (7 : Int32))).toNatClampNeg) := inb_of Sa_30 ⟨(own_ix ho 7 (by decide) (7 : Int32) (by decide)).1, (own_ix ho 7 (by decide) (7 : Int32) (by decide)).2.1⟩
  obtain ⟨T31, h31, X31, e31, W31, st31⟩ := stB X27 hx hZ e27 Ar30 (j := ((Int32.ofNat oo) + (7 : Int32))) hin30 (g := (mkF m 84 #[.val (.ref ab), .val (.int (Int32.ofNat oo)), .val (.long q2), .second] [(.int ((((q2.toUInt64 >>> ((56 : Int32) &&& 0x3f).toInt64.toUInt64).toInt64).toInt32).toInt8.toInt32)), (.int ((Int32.ofNat oo) + (7 : Int32))), (.ref ab)])) rfl rfl (hb hby d1_84)
  refine OG.step st31 ?_
  have Va31 := Arv.set Ar30 qa_30 Sa_30 Nn_30 Ha_30 Ga_30 (fits_nar_byte _) W31 ((oo + 7)) (own_ix ho 7 (by decide) (7 : Int32) (by decide)).2.2 (own_blen (own_upd (own_upd (own_upd (own_upd (own_upd (own_upd (own_upd f (oo + 0) (own_byte q2 0)) (oo + 1) (own_byte q2 1)) (oo + 2) (own_byte q2 2)) (oo + 3) (own_byte q2 3)) (oo + 4) (own_byte q2 4)) (oo + 5) (own_byte q2 5)) (oo + 6) (own_byte q2 6)) (by omega))
  have Va31 : Arv Z h31 ab kb .byte (64 : Int32) ((own_bs (own_upd (own_upd (own_upd (own_upd (own_upd (own_upd (own_upd f (oo + 0) (own_byte q2 0)) (oo + 1) (own_byte q2 1)) (oo + 2) (own_byte q2 2)) (oo + 3) (own_byte q2 3)) (oo + 4) (own_byte q2 4)) (oo + 5) (own_byte q2 5)) (oo + 6) (own_byte q2 6))).set (oo + 7) (.int (own_byte q2 7))) (.int (0 : Int32)) := Va31
  have V31 : Arv Z h31 ab kb .byte (64 : Int32) (own_bs (own_upd (own_upd (own_upd (own_upd (own_upd (own_upd (own_upd (own_upd f (oo + 0) (own_byte q2 0)) (oo + 1) (own_byte q2 1)) (oo + 2) (own_byte q2 2)) (oo + 3) (own_byte q2 3)) (oo + 4) (own_byte q2 4)) (oo + 5) (own_byte q2 5)) (oo + 6) (own_byte q2 6)) (oo + 7) (own_byte q2 7))) (.int (0 : Int32)) := by rw [own_bset (own_upd (own_upd (own_upd (own_upd (own_upd (own_upd (own_upd f (oo + 0) (own_byte q2 0)) (oo + 1) (own_byte q2 1)) (oo + 2) (own_byte q2 2)) (oo + 3) (own_byte q2 3)) (oo + 4) (own_byte q2 4)) (oo + 5) (own_byte q2 5)) (oo + 6) (own_byte q2 6)) (i := (oo + 7)) (by omega) (own_byte q2 7)] at Va31; exact Va31
  have K31 := K27.wr W31 (Or.inl (List.mem_of_getElem? (i := 0) rfl))
  have N31 := Fr.snoc X31 N27 g_ab
  obtain ⟨Lz32, X31, N31⟩ : ∃ Lz, Stand p l e rom_1 s m #[(.ref ab), (.int (Int32.ofNat oo)), (.long q2)] below meth c T31 Lz 0 0 ∧ Fr n0 Lz := ⟨_, X31, N31⟩
  show OG _ _ _ _ _ _ _ (T31.setTop (mkF m 85 #[.val (.ref ab), .val (.int (Int32.ofNat oo)), .val (.long q2), .second] []))
  have Vz : Arv Z h31 ab kb .byte (64 : Int32) (own_bs (own_put f oo q2)) (.int (0 : Int32)) := V31
  exact OG.retV X31 hx hlk Bd.returns (hb hby d1_85) e31 ⟨rfl, N31, K31, Vz⟩ (by decide) (by decide)
theorem d2_0 : decode method_4_code 0 = .ok (.iload_n 1, 1) := by decide +kernel
theorem d2_1 : decode method_4_code 1 = .ok (.bipush 6, 2) := by decide +kernel
theorem d2_3 : decode method_4_code 3 = .ok (.iushr, 1) := by decide +kernel
theorem d2_4 : decode method_4_code 4 = .ok (.istore_n 3, 1) := by decide +kernel
theorem d2_5 : decode method_4_code 5 = .ok (.iload_n 1, 1) := by decide +kernel
theorem d2_6 : decode method_4_code 6 = .ok (.bipush 63, 2) := by decide +kernel
theorem d2_8 : decode method_4_code 8 = .ok (.iand, 1) := by decide +kernel
theorem d2_9 : decode method_4_code 9 = .ok (.istore 4, 2) := by decide +kernel
theorem d2_11 : decode method_4_code 11 = .ok (.aload_n 0, 1) := by decide +kernel
theorem d2_12 : decode method_4_code 12 = .ok (.iload_n 3, 1) := by decide +kernel
theorem d2_13 : decode method_4_code 13 = .ok (.laload, 1) := by decide +kernel
theorem d2_14 : decode method_4_code 14 = .ok (.iload 4, 2) := by decide +kernel
theorem d2_16 : decode method_4_code 16 = .ok (.lushr, 1) := by decide +kernel
theorem d2_17 : decode method_4_code 17 = .ok (.lstore 5, 2) := by decide +kernel
theorem d2_19 : decode method_4_code 19 = .ok (.iload 4, 2) := by decide +kernel
theorem d2_21 : decode method_4_code 21 = .ok (.iload_n 2, 1) := by decide +kernel
theorem d2_22 : decode method_4_code 22 = .ok (.iadd, 1) := by decide +kernel
theorem d2_23 : decode method_4_code 23 = .ok (.bipush 64, 2) := by decide +kernel
theorem d2_25 : decode method_4_code 25 = .ok (.if_icmp .le 19, 3) := by decide +kernel
theorem d2_28 : decode method_4_code 28 = .ok (.lload 5, 2) := by decide +kernel
theorem d2_30 : decode method_4_code 30 = .ok (.aload_n 0, 1) := by decide +kernel
theorem d2_31 : decode method_4_code 31 = .ok (.iload_n 3, 1) := by decide +kernel
theorem d2_32 : decode method_4_code 32 = .ok (.iconst 1, 1) := by decide +kernel
theorem d2_33 : decode method_4_code 33 = .ok (.iadd, 1) := by decide +kernel
theorem d2_34 : decode method_4_code 34 = .ok (.laload, 1) := by decide +kernel
theorem d2_35 : decode method_4_code 35 = .ok (.bipush 64, 2) := by decide +kernel
theorem d2_37 : decode method_4_code 37 = .ok (.iload 4, 2) := by decide +kernel
theorem d2_39 : decode method_4_code 39 = .ok (.isub, 1) := by decide +kernel
theorem d2_40 : decode method_4_code 40 = .ok (.lshl, 1) := by decide +kernel
theorem d2_41 : decode method_4_code 41 = .ok (.lor, 1) := by decide +kernel
theorem d2_42 : decode method_4_code 42 = .ok (.lstore 5, 2) := by decide +kernel
theorem d2_44 : decode method_4_code 44 = .ok (.lload 5, 2) := by decide +kernel
theorem d2_46 : decode method_4_code 46 = .ok (.lconst 1, 1) := by decide +kernel
theorem d2_47 : decode method_4_code 47 = .ok (.iload_n 2, 1) := by decide +kernel
theorem d2_48 : decode method_4_code 48 = .ok (.lshl, 1) := by decide +kernel
theorem d2_49 : decode method_4_code 49 = .ok (.lconst 1, 1) := by decide +kernel
theorem d2_50 : decode method_4_code 50 = .ok (.lsub, 1) := by decide +kernel
theorem d2_51 : decode method_4_code 51 = .ok (.land, 1) := by decide +kernel
theorem d2_52 : decode method_4_code 52 = .ok (.lreturn, 1) := by decide +kernel
theorem ef_2 (m : MethodId) (x0 : Addr) (x1 : Int32) (x2 : Int32) : entryFrame m #[(.ref x0), (.int x1), (.int x2)] 7 = mkF m 0 #[.val (.ref x0), .val (.int x1), .val (.int x2), .unset, .unset, .unset, .unset] [] := by first | (simp [entryFrame, mkF, argsToLocals, Value.category]; done) | rfl
def Q2 (Z : State) (aw : Addr) (pp : Nat) (nb : Nat) (kw : ClassId) (W : Nat → Int64) (h0 : Heap) (n0 : Nat) (v : Option Value) (h : Heap) (L : List Loc) : Prop := ∃ (r : Int64), (v = some (.long r)) ∧ (Fr n0 L) ∧ (h = h0) ∧ (own_has (own_B W) r pp nb)
abbrev rom_2 : Room := { frames := 0, cells := 0, slots := 0, locals := 0 }
set_option maxRecDepth 65536 in
set_option maxHeartbeats 40000000 in
theorem rm2 (l : Launch) (Z : State) (a0 : Array Value) (hw : ∀ d ∈ tables_1, d.before a0 Z = true) (ws : List Jvm.Cond) (aw : Addr) (pp : Nat) (nb : Nat) (kw : ClassId) (W : Nat → Int64) (h0 : Heap) (n0 : Nat) (Z0 : n0 ≤ h0.size) (F0_aw : Arv Z h0 aw kw .long (8 : Int32) (own_ws W) (.long (0 : Int64))) (hp : pp + nb ≤ 461) (hnb : nb ≤ 31) :
    MetFree l (⟨"com/example/strata/strata/PostingsUnpackTimesPinLaw", "field", "([JII)J"⟩ : MethodName) (head1 (Jvm.Cond.code (⟨"com/example/strata/strata/PostingsUnpackTimesPinLaw", "field", "([JII)J"⟩ : MethodName) method_4_code 7 (some .long) :: ws) rom_2) (fun a U => a = #[(.ref aw), (.int (Int32.ofNat pp)), (.int (Int32.ofNat nb))] ∧ Z.Warmed39 U.vm ∧ U.heap = h0) (fun _ _ _ _ _ => True) (fun _ U o U' => ∃ v L, o = .returned v ∧ Q2 Z aw pp nb kw W h0 n0 v U'.heap L ∧ FrameEnd U o U' L rom_2.cells rom_2.slots) := by
  refine MetFree.of_bodySF (plainFor_of_name pn_com_example_strata_strata_PostingsUnpackTimesPinLaw) hisR ?_
  intro p e s m args below meth c s₁ Bd hml0 hP hK
  obtain ⟨rfl, hZ, hh⟩ := hP
  have hx := Bd.exec
  have hby := Bd.bytes
  have hlk := Bd.notSynchronized
  have hml : c.maxLocals = 7 := hml0
  have hown : s.vm.findClass "com/example/strata/strata/PostingsUnpackTimesPinLaw" = some m.cls := findClass_of_methodNamed Bd.named
  have hnm := (name_of_methodNamed Bd.named Bd.method).1
  have X0 : Stand p l e rom_2 s m #[(.ref aw), (.int (Int32.ofNat pp)), (.int (Int32.ofNat nb))] below meth c s₁ [] 0 0 := Stand.of_body Bd
  have e0 : s₁.heap = h0 := by rw [← hh, Bd.state]; rfl
  have N0 := Fr.nil n0
  have K0 : Keep h0 h0 [] := Keep.refl _ _
  refine (?_ : OG p e below s (Q2 Z aw pp nb kw W h0 n0) rom_2.cells rom_2.slots _)
  rw [ef_2]
  have s1 : ∀ tz, Steps p.tables e below (s₁.setTop (mkF m 5 #[.val (.ref aw), .val (.int (Int32.ofNat pp)), .val (.int (Int32.ofNat nb)), .val (.int (((Int32.ofNat pp).toUInt32 >>> ((6 : Int32) &&& 31).toUInt32).toInt32)), .unset, .unset, .unset] [])) tz → Steps p.tables e below (s₁.setTop (mkF m 0 #[.val (.ref aw), .val (.int (Int32.ofNat pp)), .val (.int (Int32.ofNat nb)), .unset, .unset, .unset, .unset] [])) tz := by
    intro tz kz
    refine XS.iloadN X0.here hx rfl (hb hby d2_0) rfl ?_
    show Steps p.tables e below (s₁.setTop (mkF m 1 #[.val (.ref aw), .val (.int (Int32.ofNat pp)), .val (.int (Int32.ofNat nb)), .unset, .unset, .unset, .unset] [(.int (Int32.ofNat pp))])) _
    refine XS.bipush X0.here hx rfl (hb hby d2_1) ?_
    show Steps p.tables e below (s₁.setTop (mkF m 3 #[.val (.ref aw), .val (.int (Int32.ofNat pp)), .val (.int (Int32.ofNat nb)), .unset, .unset, .unset, .unset] [(.int (6 : Int32)), (.int (Int32.ofNat pp))])) _
    refine XS.iushr X0.here hx rfl (hb hby d2_3) rfl ?_
    show Steps p.tables e below (s₁.setTop (mkF m 4 #[.val (.ref aw), .val (.int (Int32.ofNat pp)), .val (.int (Int32.ofNat nb)), .unset, .unset, .unset, .unset] [(.int (((Int32.ofNat pp).toUInt32 >>> ((6 : Int32) &&& 31).toUInt32).toInt32))])) _
    refine XS.istoreN X0.here hx rfl (hb hby d2_4) rfl (l' := #[.val (.ref aw), .val (.int (Int32.ofNat pp)), .val (.int (Int32.ofNat nb)), .val (.int (((Int32.ofNat pp).toUInt32 >>> ((6 : Int32) &&& 31).toUInt32).toInt32)), .unset, .unset, .unset]) rfl ?_
    exact kz
  refine OG.step s1 ?_
  rw [own_sq (p := pp) (by omega)]
  show OG _ _ _ _ _ _ _ (s₁.setTop (mkF m 5 #[.val (.ref aw), .val (.int (Int32.ofNat pp)), .val (.int (Int32.ofNat nb)), .val (.int (Int32.ofNat (pp / 64))), .unset, .unset, .unset] []))
  have s2 : ∀ tz, Steps p.tables e below (s₁.setTop (mkF m 11 #[.val (.ref aw), .val (.int (Int32.ofNat pp)), .val (.int (Int32.ofNat nb)), .val (.int (Int32.ofNat (pp / 64))), .val (.int ((Int32.ofNat pp) &&& (63 : Int32))), .unset, .unset] [])) tz → Steps p.tables e below (s₁.setTop (mkF m 5 #[.val (.ref aw), .val (.int (Int32.ofNat pp)), .val (.int (Int32.ofNat nb)), .val (.int (Int32.ofNat (pp / 64))), .unset, .unset, .unset] [])) tz := by
    intro tz kz
    refine XS.iloadN X0.here hx rfl (hb hby d2_5) rfl ?_
    show Steps p.tables e below (s₁.setTop (mkF m 6 #[.val (.ref aw), .val (.int (Int32.ofNat pp)), .val (.int (Int32.ofNat nb)), .val (.int (Int32.ofNat (pp / 64))), .unset, .unset, .unset] [(.int (Int32.ofNat pp))])) _
    refine XS.bipush X0.here hx rfl (hb hby d2_6) ?_
    show Steps p.tables e below (s₁.setTop (mkF m 8 #[.val (.ref aw), .val (.int (Int32.ofNat pp)), .val (.int (Int32.ofNat nb)), .val (.int (Int32.ofNat (pp / 64))), .unset, .unset, .unset] [(.int (63 : Int32)), (.int (Int32.ofNat pp))])) _
    refine XS.iand X0.here hx rfl (hb hby d2_8) rfl ?_
    show Steps p.tables e below (s₁.setTop (mkF m 9 #[.val (.ref aw), .val (.int (Int32.ofNat pp)), .val (.int (Int32.ofNat nb)), .val (.int (Int32.ofNat (pp / 64))), .unset, .unset, .unset] [(.int ((Int32.ofNat pp) &&& (63 : Int32)))])) _
    refine XS.istore X0.here hx rfl (hb hby d2_9) rfl (l' := #[.val (.ref aw), .val (.int (Int32.ofNat pp)), .val (.int (Int32.ofNat nb)), .val (.int (Int32.ofNat (pp / 64))), .val (.int ((Int32.ofNat pp) &&& (63 : Int32))), .unset, .unset]) rfl ?_
    exact kz
  refine OG.step s2 ?_
  rw [own_sr (p := pp) (by omega)]
  show OG _ _ _ _ _ _ _ (s₁.setTop (mkF m 11 #[.val (.ref aw), .val (.int (Int32.ofNat pp)), .val (.int (Int32.ofNat nb)), .val (.int (Int32.ofNat (pp / 64))), .val (.int (Int32.ofNat (pp % 64))), .unset, .unset] []))
  have s3 : ∀ tz, Steps p.tables e below (s₁.setTop (mkF m 13 #[.val (.ref aw), .val (.int (Int32.ofNat pp)), .val (.int (Int32.ofNat nb)), .val (.int (Int32.ofNat (pp / 64))), .val (.int (Int32.ofNat (pp % 64))), .unset, .unset] [(.int (Int32.ofNat (pp / 64))), (.ref aw)])) tz → Steps p.tables e below (s₁.setTop (mkF m 11 #[.val (.ref aw), .val (.int (Int32.ofNat pp)), .val (.int (Int32.ofNat nb)), .val (.int (Int32.ofNat (pp / 64))), .val (.int (Int32.ofNat (pp % 64))), .unset, .unset] [])) tz := by
    intro tz kz
    refine XS.aloadN X0.here hx rfl (hb hby d2_11) rfl rfl ?_
    show Steps p.tables e below (s₁.setTop (mkF m 12 #[.val (.ref aw), .val (.int (Int32.ofNat pp)), .val (.int (Int32.ofNat nb)), .val (.int (Int32.ofNat (pp / 64))), .val (.int (Int32.ofNat (pp % 64))), .unset, .unset] [(.ref aw)])) _
    refine XS.iloadN X0.here hx rfl (hb hby d2_12) rfl ?_
    exact kz
  refine OG.step s3 ?_
  have av4 := F0_aw
  obtain ⟨cl4, Ar4, qa_4, Sa_4, Nn_4, Ha_4, Ga_4⟩ := av4
  have hin4 : ¬ ((Int32.ofNat (pp / 64)) < 0 ∨ cl4.slots.size ≤ ((Int32.ofNat (pp / 64))).toNatClampNeg) := inb_of Sa_4 ⟨(own_w8 (own_q8 hp hnb)).1, (own_w8 (own_q8 hp hnb)).2.1⟩
  have hat4 : cl4.slots[((Int32.ofNat (pp / 64))).toNatClampNeg]? = some (.long (W (pp / 64))) := Ha_4.at hin4 (own_wget W (own_q8 hp hnb) (own_w8 (own_q8 hp hnb)).2.2)
  refine OG.step (X0.laload hx (j := (Int32.ofNat (pp / 64))) (v := (.long (W (pp / 64)))) (by rw [e0]; exact Ar4.1) (State.isArrayOf_alike hZ.alike Ar4.2.1) Ar4.2.2 hin4 hat4 (g := (mkF m 13 #[.val (.ref aw), .val (.int (Int32.ofNat pp)), .val (.int (Int32.ofNat nb)), .val (.int (Int32.ofNat (pp / 64))), .val (.int (Int32.ofNat (pp % 64))), .unset, .unset] [(.int (Int32.ofNat (pp / 64))), (.ref aw)])) rfl rfl (hb hby d2_13)) ?_
  show OG _ _ _ _ _ _ _ (s₁.setTop (mkF m 14 #[.val (.ref aw), .val (.int (Int32.ofNat pp)), .val (.int (Int32.ofNat nb)), .val (.int (Int32.ofNat (pp / 64))), .val (.int (Int32.ofNat (pp % 64))), .unset, .unset] [(.long (W (pp / 64)))]))
  have s5 : ∀ tz, Steps p.tables e below (s₁.setTop (mkF m 25 #[.val (.ref aw), .val (.int (Int32.ofNat pp)), .val (.int (Int32.ofNat nb)), .val (.int (Int32.ofNat (pp / 64))), .val (.int (Int32.ofNat (pp % 64))), .val (.long (((W (pp / 64)).toUInt64 >>> ((Int32.ofNat (pp % 64)) &&& 0x3f).toInt64.toUInt64).toInt64)), .second] [(.int (64 : Int32)), (.int ((Int32.ofNat (pp % 64)) + (Int32.ofNat nb)))])) tz → Steps p.tables e below (s₁.setTop (mkF m 14 #[.val (.ref aw), .val (.int (Int32.ofNat pp)), .val (.int (Int32.ofNat nb)), .val (.int (Int32.ofNat (pp / 64))), .val (.int (Int32.ofNat (pp % 64))), .unset, .unset] [(.long (W (pp / 64)))])) tz := by
    intro tz kz
    refine XS.iload X0.here hx rfl (hb hby d2_14) rfl ?_
    show Steps p.tables e below (s₁.setTop (mkF m 16 #[.val (.ref aw), .val (.int (Int32.ofNat pp)), .val (.int (Int32.ofNat nb)), .val (.int (Int32.ofNat (pp / 64))), .val (.int (Int32.ofNat (pp % 64))), .unset, .unset] [(.int (Int32.ofNat (pp % 64))), (.long (W (pp / 64)))])) _
    refine XS.lushr X0.here hx rfl (hb hby d2_16) rfl ?_
    show Steps p.tables e below (s₁.setTop (mkF m 17 #[.val (.ref aw), .val (.int (Int32.ofNat pp)), .val (.int (Int32.ofNat nb)), .val (.int (Int32.ofNat (pp / 64))), .val (.int (Int32.ofNat (pp % 64))), .unset, .unset] [(.long (((W (pp / 64)).toUInt64 >>> ((Int32.ofNat (pp % 64)) &&& 0x3f).toInt64.toUInt64).toInt64))])) _
    refine XS.lstore X0.here hx rfl (hb hby d2_17) rfl (l' := #[.val (.ref aw), .val (.int (Int32.ofNat pp)), .val (.int (Int32.ofNat nb)), .val (.int (Int32.ofNat (pp / 64))), .val (.int (Int32.ofNat (pp % 64))), .val (.long (((W (pp / 64)).toUInt64 >>> ((Int32.ofNat (pp % 64)) &&& 0x3f).toInt64.toUInt64).toInt64)), .second]) rfl ?_
    show Steps p.tables e below (s₁.setTop (mkF m 19 #[.val (.ref aw), .val (.int (Int32.ofNat pp)), .val (.int (Int32.ofNat nb)), .val (.int (Int32.ofNat (pp / 64))), .val (.int (Int32.ofNat (pp % 64))), .val (.long (((W (pp / 64)).toUInt64 >>> ((Int32.ofNat (pp % 64)) &&& 0x3f).toInt64.toUInt64).toInt64)), .second] [])) _
    refine XS.iload X0.here hx rfl (hb hby d2_19) rfl ?_
    show Steps p.tables e below (s₁.setTop (mkF m 21 #[.val (.ref aw), .val (.int (Int32.ofNat pp)), .val (.int (Int32.ofNat nb)), .val (.int (Int32.ofNat (pp / 64))), .val (.int (Int32.ofNat (pp % 64))), .val (.long (((W (pp / 64)).toUInt64 >>> ((Int32.ofNat (pp % 64)) &&& 0x3f).toInt64.toUInt64).toInt64)), .second] [(.int (Int32.ofNat (pp % 64)))])) _
    refine XS.iloadN X0.here hx rfl (hb hby d2_21) rfl ?_
    show Steps p.tables e below (s₁.setTop (mkF m 22 #[.val (.ref aw), .val (.int (Int32.ofNat pp)), .val (.int (Int32.ofNat nb)), .val (.int (Int32.ofNat (pp / 64))), .val (.int (Int32.ofNat (pp % 64))), .val (.long (((W (pp / 64)).toUInt64 >>> ((Int32.ofNat (pp % 64)) &&& 0x3f).toInt64.toUInt64).toInt64)), .second] [(.int (Int32.ofNat nb)), (.int (Int32.ofNat (pp % 64)))])) _
    refine XS.iadd X0.here hx rfl (hb hby d2_22) rfl ?_
    show Steps p.tables e below (s₁.setTop (mkF m 23 #[.val (.ref aw), .val (.int (Int32.ofNat pp)), .val (.int (Int32.ofNat nb)), .val (.int (Int32.ofNat (pp / 64))), .val (.int (Int32.ofNat (pp % 64))), .val (.long (((W (pp / 64)).toUInt64 >>> ((Int32.ofNat (pp % 64)) &&& 0x3f).toInt64.toUInt64).toInt64)), .second] [(.int ((Int32.ofNat (pp % 64)) + (Int32.ofNat nb)))])) _
    refine XS.bipush X0.here hx rfl (hb hby d2_23) ?_
    exact kz
  refine OG.step s5 ?_
  by_cases hc25 : (64 : Int32) < ((Int32.ofNat (pp % 64)) + (Int32.ofNat nb))
  · have s6 : ∀ tz, Steps p.tables e below (s₁.setTop (mkF m 34 #[.val (.ref aw), .val (.int (Int32.ofNat pp)), .val (.int (Int32.ofNat nb)), .val (.int (Int32.ofNat (pp / 64))), .val (.int (Int32.ofNat (pp % 64))), .val (.long (((W (pp / 64)).toUInt64 >>> ((Int32.ofNat (pp % 64)) &&& 0x3f).toInt64.toUInt64).toInt64)), .second] [(.int ((Int32.ofNat (pp / 64)) + (1 : Int32))), (.ref aw), (.long (((W (pp / 64)).toUInt64 >>> ((Int32.ofNat (pp % 64)) &&& 0x3f).toInt64.toUInt64).toInt64))])) tz → Steps p.tables e below (s₁.setTop (mkF m 25 #[.val (.ref aw), .val (.int (Int32.ofNat pp)), .val (.int (Int32.ofNat nb)), .val (.int (Int32.ofNat (pp / 64))), .val (.int (Int32.ofNat (pp % 64))), .val (.long (((W (pp / 64)).toUInt64 >>> ((Int32.ofNat (pp % 64)) &&& 0x3f).toInt64.toUInt64).toInt64)), .second] [(.int (64 : Int32)), (.int ((Int32.ofNat (pp % 64)) + (Int32.ofNat nb)))])) tz := by
      intro tz kz
      refine XS.icmpNo X0.here hx rfl (hb hby d2_25) rfl (tlt hc25).2.2.2 ?_
      show Steps p.tables e below (s₁.setTop (mkF m 28 #[.val (.ref aw), .val (.int (Int32.ofNat pp)), .val (.int (Int32.ofNat nb)), .val (.int (Int32.ofNat (pp / 64))), .val (.int (Int32.ofNat (pp % 64))), .val (.long (((W (pp / 64)).toUInt64 >>> ((Int32.ofNat (pp % 64)) &&& 0x3f).toInt64.toUInt64).toInt64)), .second] [])) _
      refine XS.lload X0.here hx rfl (hb hby d2_28) rfl ?_
      show Steps p.tables e below (s₁.setTop (mkF m 30 #[.val (.ref aw), .val (.int (Int32.ofNat pp)), .val (.int (Int32.ofNat nb)), .val (.int (Int32.ofNat (pp / 64))), .val (.int (Int32.ofNat (pp % 64))), .val (.long (((W (pp / 64)).toUInt64 >>> ((Int32.ofNat (pp % 64)) &&& 0x3f).toInt64.toUInt64).toInt64)), .second] [(.long (((W (pp / 64)).toUInt64 >>> ((Int32.ofNat (pp % 64)) &&& 0x3f).toInt64.toUInt64).toInt64))])) _
      refine XS.aloadN X0.here hx rfl (hb hby d2_30) rfl rfl ?_
      show Steps p.tables e below (s₁.setTop (mkF m 31 #[.val (.ref aw), .val (.int (Int32.ofNat pp)), .val (.int (Int32.ofNat nb)), .val (.int (Int32.ofNat (pp / 64))), .val (.int (Int32.ofNat (pp % 64))), .val (.long (((W (pp / 64)).toUInt64 >>> ((Int32.ofNat (pp % 64)) &&& 0x3f).toInt64.toUInt64).toInt64)), .second] [(.ref aw), (.long (((W (pp / 64)).toUInt64 >>> ((Int32.ofNat (pp % 64)) &&& 0x3f).toInt64.toUInt64).toInt64))])) _
      refine XS.iloadN X0.here hx rfl (hb hby d2_31) rfl ?_
      show Steps p.tables e below (s₁.setTop (mkF m 32 #[.val (.ref aw), .val (.int (Int32.ofNat pp)), .val (.int (Int32.ofNat nb)), .val (.int (Int32.ofNat (pp / 64))), .val (.int (Int32.ofNat (pp % 64))), .val (.long (((W (pp / 64)).toUInt64 >>> ((Int32.ofNat (pp % 64)) &&& 0x3f).toInt64.toUInt64).toInt64)), .second] [(.int (Int32.ofNat (pp / 64))), (.ref aw), (.long (((W (pp / 64)).toUInt64 >>> ((Int32.ofNat (pp % 64)) &&& 0x3f).toInt64.toUInt64).toInt64))])) _
      refine XS.iconst X0.here hx rfl (hb hby d2_32) ?_
      show Steps p.tables e below (s₁.setTop (mkF m 33 #[.val (.ref aw), .val (.int (Int32.ofNat pp)), .val (.int (Int32.ofNat nb)), .val (.int (Int32.ofNat (pp / 64))), .val (.int (Int32.ofNat (pp % 64))), .val (.long (((W (pp / 64)).toUInt64 >>> ((Int32.ofNat (pp % 64)) &&& 0x3f).toInt64.toUInt64).toInt64)), .second] [(.int (1 : Int32)), (.int (Int32.ofNat (pp / 64))), (.ref aw), (.long (((W (pp / 64)).toUInt64 >>> ((Int32.ofNat (pp % 64)) &&& 0x3f).toInt64.toUInt64).toInt64))])) _
      refine XS.iadd X0.here hx rfl (hb hby d2_33) rfl ?_
      exact kz
    refine OG.step s6 ?_
    have av7 := F0_aw
    obtain ⟨cl7, Ar7, qa_7, Sa_7, Nn_7, Ha_7, Ga_7⟩ := av7
    have hin7 : ¬ (((Int32.ofNat (pp / 64)) + (1 : Int32)) < 0 ∨ cl7.slots.size ≤ (((Int32.ofNat (pp / 64)) + (1 : Int32))).toNatClampNeg) := inb_of Sa_7 ⟨(own_w8b (own_q9 hp hnb hc25)).1, (own_w8b (own_q9 hp hnb hc25)).2.1⟩
    have hat7 : cl7.slots[(((Int32.ofNat (pp / 64)) + (1 : Int32))).toNatClampNeg]? = some (.long (W (pp / 64 + 1))) := Ha_7.at hin7 (own_wget W (own_q9 hp hnb hc25) (own_w8b (own_q9 hp hnb hc25)).2.2)
    refine OG.step (X0.laload hx (j := ((Int32.ofNat (pp / 64)) + (1 : Int32))) (v := (.long (W (pp / 64 + 1)))) (by rw [e0]; exact Ar7.1) (State.isArrayOf_alike hZ.alike Ar7.2.1) Ar7.2.2 hin7 hat7 (g := (mkF m 34 #[.val (.ref aw), .val (.int (Int32.ofNat pp)), .val (.int (Int32.ofNat nb)), .val (.int (Int32.ofNat (pp / 64))), .val (.int (Int32.ofNat (pp % 64))), .val (.long (((W (pp / 64)).toUInt64 >>> ((Int32.ofNat (pp % 64)) &&& 0x3f).toInt64.toUInt64).toInt64)), .second] [(.int ((Int32.ofNat (pp / 64)) + (1 : Int32))), (.ref aw), (.long (((W (pp / 64)).toUInt64 >>> ((Int32.ofNat (pp % 64)) &&& 0x3f).toInt64.toUInt64).toInt64))])) rfl rfl (hb hby d2_34)) ?_
    show OG _ _ _ _ _ _ _ (s₁.setTop (mkF m 35 #[.val (.ref aw), .val (.int (Int32.ofNat pp)), .val (.int (Int32.ofNat nb)), .val (.int (Int32.ofNat (pp / 64))), .val (.int (Int32.ofNat (pp % 64))), .val (.long (((W (pp / 64)).toUInt64 >>> ((Int32.ofNat (pp % 64)) &&& 0x3f).toInt64.toUInt64).toInt64)), .second] [(.long (W (pp / 64 + 1))), (.long (((W (pp / 64)).toUInt64 >>> ((Int32.ofNat (pp % 64)) &&& 0x3f).toInt64.toUInt64).toInt64))]))
    have s8 : ∀ tz, Steps p.tables e below (s₁.setTop (mkF m 52 #[.val (.ref aw), .val (.int (Int32.ofNat pp)), .val (.int (Int32.ofNat nb)), .val (.int (Int32.ofNat (pp / 64))), .val (.int (Int32.ofNat (pp % 64))), .val (.long ((((W (pp / 64)).toUInt64 >>> ((Int32.ofNat (pp % 64)) &&& 0x3f).toInt64.toUInt64).toInt64) ||| ((W (pp / 64 + 1)) <<< (((64 : Int32) - (Int32.ofNat (pp % 64))) &&& 0x3f).toInt64))), .second] [(.long (((((W (pp / 64)).toUInt64 >>> ((Int32.ofNat (pp % 64)) &&& 0x3f).toInt64.toUInt64).toInt64) ||| ((W (pp / 64 + 1)) <<< (((64 : Int32) - (Int32.ofNat (pp % 64))) &&& 0x3f).toInt64)) &&& (((1 : Int64) <<< ((Int32.ofNat nb) &&& 0x3f).toInt64) - (1 : Int64))))])) tz → Steps p.tables e below (s₁.setTop (mkF m 35 #[.val (.ref aw), .val (.int (Int32.ofNat pp)), .val (.int (Int32.ofNat nb)), .val (.int (Int32.ofNat (pp / 64))), .val (.int (Int32.ofNat (pp % 64))), .val (.long (((W (pp / 64)).toUInt64 >>> ((Int32.ofNat (pp % 64)) &&& 0x3f).toInt64.toUInt64).toInt64)), .second] [(.long (W (pp / 64 + 1))), (.long (((W (pp / 64)).toUInt64 >>> ((Int32.ofNat (pp % 64)) &&& 0x3f).toInt64.toUInt64).toInt64))])) tz := by
      intro tz kz
      refine XS.bipush X0.here hx rfl (hb hby d2_35) ?_
      show Steps p.tables e below (s₁.setTop (mkF m 37 #[.val (.ref aw), .val (.int (Int32.ofNat pp)), .val (.int (Int32.ofNat nb)), .val (.int (Int32.ofNat (pp / 64))), .val (.int (Int32.ofNat (pp % 64))), .val (.long (((W (pp / 64)).toUInt64 >>> ((Int32.ofNat (pp % 64)) &&& 0x3f).toInt64.toUInt64).toInt64)), .second] [(.int (64 : Int32)), (.long (W (pp / 64 + 1))), (.long (((W (pp / 64)).toUInt64 >>> ((Int32.ofNat (pp % 64)) &&& 0x3f).toInt64.toUInt64).toInt64))])) _
      refine XS.iload X0.here hx rfl (hb hby d2_37) rfl ?_
      show Steps p.tables e below (s₁.setTop (mkF m 39 #[.val (.ref aw), .val (.int (Int32.ofNat pp)), .val (.int (Int32.ofNat nb)), .val (.int (Int32.ofNat (pp / 64))), .val (.int (Int32.ofNat (pp % 64))), .val (.long (((W (pp / 64)).toUInt64 >>> ((Int32.ofNat (pp % 64)) &&& 0x3f).toInt64.toUInt64).toInt64)), .second] [(.int (Int32.ofNat (pp % 64))), (.int (64 : Int32)), (.long (W (pp / 64 + 1))), (.long (((W (pp / 64)).toUInt64 >>> ((Int32.ofNat (pp % 64)) &&& 0x3f).toInt64.toUInt64).toInt64))])) _
      refine XS.isub X0.here hx rfl (hb hby d2_39) rfl ?_
      show Steps p.tables e below (s₁.setTop (mkF m 40 #[.val (.ref aw), .val (.int (Int32.ofNat pp)), .val (.int (Int32.ofNat nb)), .val (.int (Int32.ofNat (pp / 64))), .val (.int (Int32.ofNat (pp % 64))), .val (.long (((W (pp / 64)).toUInt64 >>> ((Int32.ofNat (pp % 64)) &&& 0x3f).toInt64.toUInt64).toInt64)), .second] [(.int ((64 : Int32) - (Int32.ofNat (pp % 64)))), (.long (W (pp / 64 + 1))), (.long (((W (pp / 64)).toUInt64 >>> ((Int32.ofNat (pp % 64)) &&& 0x3f).toInt64.toUInt64).toInt64))])) _
      refine XS.lshl X0.here hx rfl (hb hby d2_40) rfl ?_
      show Steps p.tables e below (s₁.setTop (mkF m 41 #[.val (.ref aw), .val (.int (Int32.ofNat pp)), .val (.int (Int32.ofNat nb)), .val (.int (Int32.ofNat (pp / 64))), .val (.int (Int32.ofNat (pp % 64))), .val (.long (((W (pp / 64)).toUInt64 >>> ((Int32.ofNat (pp % 64)) &&& 0x3f).toInt64.toUInt64).toInt64)), .second] [(.long ((W (pp / 64 + 1)) <<< (((64 : Int32) - (Int32.ofNat (pp % 64))) &&& 0x3f).toInt64)), (.long (((W (pp / 64)).toUInt64 >>> ((Int32.ofNat (pp % 64)) &&& 0x3f).toInt64.toUInt64).toInt64))])) _
      refine XS.lor X0.here hx rfl (hb hby d2_41) rfl ?_
      show Steps p.tables e below (s₁.setTop (mkF m 42 #[.val (.ref aw), .val (.int (Int32.ofNat pp)), .val (.int (Int32.ofNat nb)), .val (.int (Int32.ofNat (pp / 64))), .val (.int (Int32.ofNat (pp % 64))), .val (.long (((W (pp / 64)).toUInt64 >>> ((Int32.ofNat (pp % 64)) &&& 0x3f).toInt64.toUInt64).toInt64)), .second] [(.long ((((W (pp / 64)).toUInt64 >>> ((Int32.ofNat (pp % 64)) &&& 0x3f).toInt64.toUInt64).toInt64) ||| ((W (pp / 64 + 1)) <<< (((64 : Int32) - (Int32.ofNat (pp % 64))) &&& 0x3f).toInt64)))])) _
      refine XS.lstore X0.here hx rfl (hb hby d2_42) rfl (l' := #[.val (.ref aw), .val (.int (Int32.ofNat pp)), .val (.int (Int32.ofNat nb)), .val (.int (Int32.ofNat (pp / 64))), .val (.int (Int32.ofNat (pp % 64))), .val (.long ((((W (pp / 64)).toUInt64 >>> ((Int32.ofNat (pp % 64)) &&& 0x3f).toInt64.toUInt64).toInt64) ||| ((W (pp / 64 + 1)) <<< (((64 : Int32) - (Int32.ofNat (pp % 64))) &&& 0x3f).toInt64))), .second]) rfl ?_
      show Steps p.tables e below (s₁.setTop (mkF m 44 #[.val (.ref aw), .val (.int (Int32.ofNat pp)), .val (.int (Int32.ofNat nb)), .val (.int (Int32.ofNat (pp / 64))), .val (.int (Int32.ofNat (pp % 64))), .val (.long ((((W (pp / 64)).toUInt64 >>> ((Int32.ofNat (pp % 64)) &&& 0x3f).toInt64.toUInt64).toInt64) ||| ((W (pp / 64 + 1)) <<< (((64 : Int32) - (Int32.ofNat (pp % 64))) &&& 0x3f).toInt64))), .second] [])) _
      refine XS.lload X0.here hx rfl (hb hby d2_44) rfl ?_
      show Steps p.tables e below (s₁.setTop (mkF m 46 #[.val (.ref aw), .val (.int (Int32.ofNat pp)), .val (.int (Int32.ofNat nb)), .val (.int (Int32.ofNat (pp / 64))), .val (.int (Int32.ofNat (pp % 64))), .val (.long ((((W (pp / 64)).toUInt64 >>> ((Int32.ofNat (pp % 64)) &&& 0x3f).toInt64.toUInt64).toInt64) ||| ((W (pp / 64 + 1)) <<< (((64 : Int32) - (Int32.ofNat (pp % 64))) &&& 0x3f).toInt64))), .second] [(.long ((((W (pp / 64)).toUInt64 >>> ((Int32.ofNat (pp % 64)) &&& 0x3f).toInt64.toUInt64).toInt64) ||| ((W (pp / 64 + 1)) <<< (((64 : Int32) - (Int32.ofNat (pp % 64))) &&& 0x3f).toInt64)))])) _
      refine XS.lconst X0.here hx rfl (hb hby d2_46) ?_
      show Steps p.tables e below (s₁.setTop (mkF m 47 #[.val (.ref aw), .val (.int (Int32.ofNat pp)), .val (.int (Int32.ofNat nb)), .val (.int (Int32.ofNat (pp / 64))), .val (.int (Int32.ofNat (pp % 64))), .val (.long ((((W (pp / 64)).toUInt64 >>> ((Int32.ofNat (pp % 64)) &&& 0x3f).toInt64.toUInt64).toInt64) ||| ((W (pp / 64 + 1)) <<< (((64 : Int32) - (Int32.ofNat (pp % 64))) &&& 0x3f).toInt64))), .second] [(.long (1 : Int64)), (.long ((((W (pp / 64)).toUInt64 >>> ((Int32.ofNat (pp % 64)) &&& 0x3f).toInt64.toUInt64).toInt64) ||| ((W (pp / 64 + 1)) <<< (((64 : Int32) - (Int32.ofNat (pp % 64))) &&& 0x3f).toInt64)))])) _
      refine XS.iloadN X0.here hx rfl (hb hby d2_47) rfl ?_
      show Steps p.tables e below (s₁.setTop (mkF m 48 #[.val (.ref aw), .val (.int (Int32.ofNat pp)), .val (.int (Int32.ofNat nb)), .val (.int (Int32.ofNat (pp / 64))), .val (.int (Int32.ofNat (pp % 64))), .val (.long ((((W (pp / 64)).toUInt64 >>> ((Int32.ofNat (pp % 64)) &&& 0x3f).toInt64.toUInt64).toInt64) ||| ((W (pp / 64 + 1)) <<< (((64 : Int32) - (Int32.ofNat (pp % 64))) &&& 0x3f).toInt64))), .second] [(.int (Int32.ofNat nb)), (.long (1 : Int64)), (.long ((((W (pp / 64)).toUInt64 >>> ((Int32.ofNat (pp % 64)) &&& 0x3f).toInt64.toUInt64).toInt64) ||| ((W (pp / 64 + 1)) <<< (((64 : Int32) - (Int32.ofNat (pp % 64))) &&& 0x3f).toInt64)))])) _
      refine XS.lshl X0.here hx rfl (hb hby d2_48) rfl ?_
      show Steps p.tables e below (s₁.setTop (mkF m 49 #[.val (.ref aw), .val (.int (Int32.ofNat pp)), .val (.int (Int32.ofNat nb)), .val (.int (Int32.ofNat (pp / 64))), .val (.int (Int32.ofNat (pp % 64))), .val (.long ((((W (pp / 64)).toUInt64 >>> ((Int32.ofNat (pp % 64)) &&& 0x3f).toInt64.toUInt64).toInt64) ||| ((W (pp / 64 + 1)) <<< (((64 : Int32) - (Int32.ofNat (pp % 64))) &&& 0x3f).toInt64))), .second] [(.long ((1 : Int64) <<< ((Int32.ofNat nb) &&& 0x3f).toInt64)), (.long ((((W (pp / 64)).toUInt64 >>> ((Int32.ofNat (pp % 64)) &&& 0x3f).toInt64.toUInt64).toInt64) ||| ((W (pp / 64 + 1)) <<< (((64 : Int32) - (Int32.ofNat (pp % 64))) &&& 0x3f).toInt64)))])) _
      refine XS.lconst X0.here hx rfl (hb hby d2_49) ?_
      show Steps p.tables e below (s₁.setTop (mkF m 50 #[.val (.ref aw), .val (.int (Int32.ofNat pp)), .val (.int (Int32.ofNat nb)), .val (.int (Int32.ofNat (pp / 64))), .val (.int (Int32.ofNat (pp % 64))), .val (.long ((((W (pp / 64)).toUInt64 >>> ((Int32.ofNat (pp % 64)) &&& 0x3f).toInt64.toUInt64).toInt64) ||| ((W (pp / 64 + 1)) <<< (((64 : Int32) - (Int32.ofNat (pp % 64))) &&& 0x3f).toInt64))), .second] [(.long (1 : Int64)), (.long ((1 : Int64) <<< ((Int32.ofNat nb) &&& 0x3f).toInt64)), (.long ((((W (pp / 64)).toUInt64 >>> ((Int32.ofNat (pp % 64)) &&& 0x3f).toInt64.toUInt64).toInt64) ||| ((W (pp / 64 + 1)) <<< (((64 : Int32) - (Int32.ofNat (pp % 64))) &&& 0x3f).toInt64)))])) _
      refine XS.lsub X0.here hx rfl (hb hby d2_50) rfl ?_
      show Steps p.tables e below (s₁.setTop (mkF m 51 #[.val (.ref aw), .val (.int (Int32.ofNat pp)), .val (.int (Int32.ofNat nb)), .val (.int (Int32.ofNat (pp / 64))), .val (.int (Int32.ofNat (pp % 64))), .val (.long ((((W (pp / 64)).toUInt64 >>> ((Int32.ofNat (pp % 64)) &&& 0x3f).toInt64.toUInt64).toInt64) ||| ((W (pp / 64 + 1)) <<< (((64 : Int32) - (Int32.ofNat (pp % 64))) &&& 0x3f).toInt64))), .second] [(.long (((1 : Int64) <<< ((Int32.ofNat nb) &&& 0x3f).toInt64) - (1 : Int64))), (.long ((((W (pp / 64)).toUInt64 >>> ((Int32.ofNat (pp % 64)) &&& 0x3f).toInt64.toUInt64).toInt64) ||| ((W (pp / 64 + 1)) <<< (((64 : Int32) - (Int32.ofNat (pp % 64))) &&& 0x3f).toInt64)))])) _
      refine XS.land X0.here hx rfl (hb hby d2_51) rfl ?_
      exact kz
    refine OG.step s8 ?_
    exact OG.retJ X0 hx hlk Bd.returns (hb hby d2_52) e0 ⟨(((((W (pp / 64)).toUInt64 >>> ((Int32.ofNat (pp % 64)) &&& 0x3f).toInt64.toUInt64).toInt64) ||| ((W (pp / 64 + 1)) <<< (((64 : Int32) - (Int32.ofNat (pp % 64))) &&& 0x3f).toInt64)) &&& (((1 : Int64) <<< ((Int32.ofNat nb) &&& 0x3f).toInt64) - (1 : Int64))), rfl, N0, rfl, (own_fb hp hnb hc25)⟩ (by decide) (by decide)
  · have s9 : ∀ tz, Steps p.tables e below (s₁.setTop (mkF m 52 #[.val (.ref aw), .val (.int (Int32.ofNat pp)), .val (.int (Int32.ofNat nb)), .val (.int (Int32.ofNat (pp / 64))), .val (.int (Int32.ofNat (pp % 64))), .val (.long (((W (pp / 64)).toUInt64 >>> ((Int32.ofNat (pp % 64)) &&& 0x3f).toInt64.toUInt64).toInt64)), .second] [(.long ((((W (pp / 64)).toUInt64 >>> ((Int32.ofNat (pp % 64)) &&& 0x3f).toInt64.toUInt64).toInt64) &&& (((1 : Int64) <<< ((Int32.ofNat nb) &&& 0x3f).toInt64) - (1 : Int64))))])) tz → Steps p.tables e below (s₁.setTop (mkF m 25 #[.val (.ref aw), .val (.int (Int32.ofNat pp)), .val (.int (Int32.ofNat nb)), .val (.int (Int32.ofNat (pp / 64))), .val (.int (Int32.ofNat (pp % 64))), .val (.long (((W (pp / 64)).toUInt64 >>> ((Int32.ofNat (pp % 64)) &&& 0x3f).toInt64.toUInt64).toInt64)), .second] [(.int (64 : Int32)), (.int ((Int32.ofNat (pp % 64)) + (Int32.ofNat nb)))])) tz := by
      intro tz kz
      refine XS.icmpYes X0.here hx rfl (pc0 := 25) (pc' := 44) rfl (hb hby d2_25) rfl (flt hc25).2.2.2 (by decide) (by decide) ?_
      show Steps p.tables e below (s₁.setTop (mkF m 44 #[.val (.ref aw), .val (.int (Int32.ofNat pp)), .val (.int (Int32.ofNat nb)), .val (.int (Int32.ofNat (pp / 64))), .val (.int (Int32.ofNat (pp % 64))), .val (.long (((W (pp / 64)).toUInt64 >>> ((Int32.ofNat (pp % 64)) &&& 0x3f).toInt64.toUInt64).toInt64)), .second] [])) _
      refine XS.lload X0.here hx rfl (hb hby d2_44) rfl ?_
      show Steps p.tables e below (s₁.setTop (mkF m 46 #[.val (.ref aw), .val (.int (Int32.ofNat pp)), .val (.int (Int32.ofNat nb)), .val (.int (Int32.ofNat (pp / 64))), .val (.int (Int32.ofNat (pp % 64))), .val (.long (((W (pp / 64)).toUInt64 >>> ((Int32.ofNat (pp % 64)) &&& 0x3f).toInt64.toUInt64).toInt64)), .second] [(.long (((W (pp / 64)).toUInt64 >>> ((Int32.ofNat (pp % 64)) &&& 0x3f).toInt64.toUInt64).toInt64))])) _
      refine XS.lconst X0.here hx rfl (hb hby d2_46) ?_
      show Steps p.tables e below (s₁.setTop (mkF m 47 #[.val (.ref aw), .val (.int (Int32.ofNat pp)), .val (.int (Int32.ofNat nb)), .val (.int (Int32.ofNat (pp / 64))), .val (.int (Int32.ofNat (pp % 64))), .val (.long (((W (pp / 64)).toUInt64 >>> ((Int32.ofNat (pp % 64)) &&& 0x3f).toInt64.toUInt64).toInt64)), .second] [(.long (1 : Int64)), (.long (((W (pp / 64)).toUInt64 >>> ((Int32.ofNat (pp % 64)) &&& 0x3f).toInt64.toUInt64).toInt64))])) _
      refine XS.iloadN X0.here hx rfl (hb hby d2_47) rfl ?_
      show Steps p.tables e below (s₁.setTop (mkF m 48 #[.val (.ref aw), .val (.int (Int32.ofNat pp)), .val (.int (Int32.ofNat nb)), .val (.int (Int32.ofNat (pp / 64))), .val (.int (Int32.ofNat (pp % 64))), .val (.long (((W (pp / 64)).toUInt64 >>> ((Int32.ofNat (pp % 64)) &&& 0x3f).toInt64.toUInt64).toInt64)), .second] [(.int (Int32.ofNat nb)), (.long (1 : Int64)), (.long (((W (pp / 64)).toUInt64 >>> ((Int32.ofNat (pp % 64)) &&& 0x3f).toInt64.toUInt64).toInt64))])) _
      refine XS.lshl X0.here hx rfl (hb hby d2_48) rfl ?_
      show Steps p.tables e below (s₁.setTop (mkF m 49 #[.val (.ref aw), .val (.int (Int32.ofNat pp)), .val (.int (Int32.ofNat nb)), .val (.int (Int32.ofNat (pp / 64))), .val (.int (Int32.ofNat (pp % 64))), .val (.long (((W (pp / 64)).toUInt64 >>> ((Int32.ofNat (pp % 64)) &&& 0x3f).toInt64.toUInt64).toInt64)), .second] [(.long ((1 : Int64) <<< ((Int32.ofNat nb) &&& 0x3f).toInt64)), (.long (((W (pp / 64)).toUInt64 >>> ((Int32.ofNat (pp % 64)) &&& 0x3f).toInt64.toUInt64).toInt64))])) _
      refine XS.lconst X0.here hx rfl (hb hby d2_49) ?_
      show Steps p.tables e below (s₁.setTop (mkF m 50 #[.val (.ref aw), .val (.int (Int32.ofNat pp)), .val (.int (Int32.ofNat nb)), .val (.int (Int32.ofNat (pp / 64))), .val (.int (Int32.ofNat (pp % 64))), .val (.long (((W (pp / 64)).toUInt64 >>> ((Int32.ofNat (pp % 64)) &&& 0x3f).toInt64.toUInt64).toInt64)), .second] [(.long (1 : Int64)), (.long ((1 : Int64) <<< ((Int32.ofNat nb) &&& 0x3f).toInt64)), (.long (((W (pp / 64)).toUInt64 >>> ((Int32.ofNat (pp % 64)) &&& 0x3f).toInt64.toUInt64).toInt64))])) _
      refine XS.lsub X0.here hx rfl (hb hby d2_50) rfl ?_
      show Steps p.tables e below (s₁.setTop (mkF m 51 #[.val (.ref aw), .val (.int (Int32.ofNat pp)), .val (.int (Int32.ofNat nb)), .val (.int (Int32.ofNat (pp / 64))), .val (.int (Int32.ofNat (pp % 64))), .val (.long (((W (pp / 64)).toUInt64 >>> ((Int32.ofNat (pp % 64)) &&& 0x3f).toInt64.toUInt64).toInt64)), .second] [(.long (((1 : Int64) <<< ((Int32.ofNat nb) &&& 0x3f).toInt64) - (1 : Int64))), (.long (((W (pp / 64)).toUInt64 >>> ((Int32.ofNat (pp % 64)) &&& 0x3f).toInt64.toUInt64).toInt64))])) _
      refine XS.land X0.here hx rfl (hb hby d2_51) rfl ?_
      exact kz
    refine OG.step s9 ?_
    exact OG.retJ X0 hx hlk Bd.returns (hb hby d2_52) e0 ⟨((((W (pp / 64)).toUInt64 >>> ((Int32.ofNat (pp % 64)) &&& 0x3f).toInt64.toUInt64).toInt64) &&& (((1 : Int64) <<< ((Int32.ofNat nb) &&& 0x3f).toInt64) - (1 : Int64))), rfl, N0, rfl, (own_fa hp hnb hc25)⟩ (by decide) (by decide)
theorem d4_0 : decode method_5_code 0 = .ok (.iload_n 0, 1) := by decide +kernel
theorem d4_1 : decode method_5_code 1 = .ok (.iload_n 1, 1) := by decide +kernel
theorem d4_2 : decode method_5_code 2 = .ok (.isub, 1) := by decide +kernel
theorem d4_3 : decode method_5_code 3 = .ok (.istore 7, 2) := by decide +kernel
theorem d4_5 : decode method_5_code 5 = .ok (.iload 7, 2) := by decide +kernel
theorem d4_7 : decode method_5_code 7 = .ok (.ifCond .lt 9, 3) := by decide +kernel
theorem d4_10 : decode method_5_code 10 = .ok (.iload 7, 2) := by decide +kernel
theorem d4_12 : decode method_5_code 12 = .ok (.iload_n 2, 1) := by decide +kernel
theorem d4_13 : decode method_5_code 13 = .ok (.if_icmp .lt 5, 3) := by decide +kernel
theorem d4_16 : decode method_5_code 16 = .ok (.iload_n 3, 1) := by decide +kernel
theorem d4_17 : decode method_5_code 17 = .ok (.ireturn, 1) := by decide +kernel
theorem d4_18 : decode method_5_code 18 = .ok (.iload 7, 2) := by decide +kernel
theorem d4_20 : decode method_5_code 20 = .ok (.ifCond .ne 6, 3) := by decide +kernel
theorem d4_23 : decode method_5_code 23 = .ok (.iload 4, 2) := by decide +kernel
theorem d4_25 : decode method_5_code 25 = .ok (.ireturn, 1) := by decide +kernel
theorem d4_26 : decode method_5_code 26 = .ok (.iload 7, 2) := by decide +kernel
theorem d4_28 : decode method_5_code 28 = .ok (.iconst 1, 1) := by decide +kernel
theorem d4_29 : decode method_5_code 29 = .ok (.if_icmp .ne 6, 3) := by decide +kernel
theorem d4_32 : decode method_5_code 32 = .ok (.iload 5, 2) := by decide +kernel
theorem d4_34 : decode method_5_code 34 = .ok (.ireturn, 1) := by decide +kernel
theorem d4_35 : decode method_5_code 35 = .ok (.iload 6, 2) := by decide +kernel
theorem d4_37 : decode method_5_code 37 = .ok (.ireturn, 1) := by decide +kernel
theorem ef_4 (m : MethodId) (x0 : Int32) (x1 : Int32) (x2 : Int32) (x3 : Int32) (x4 : Int32) (x5 : Int32) (x6 : Int32) : entryFrame m #[(.int x0), (.int x1), (.int x2), (.int x3), (.int x4), (.int x5), (.int x6)] 8 = mkF m 0 #[.val (.int x0), .val (.int x1), .val (.int x2), .val (.int x3), .val (.int x4), .val (.int x5), .val (.int x6), .unset] [] := by first | (simp [entryFrame, mkF, argsToLocals, Value.category]; done) | rfl
def Q4 (Z : State) (p0 : Int32) (p1 : Int32) (p2 : Int32) (p3 : Int32) (p4 : Int32) (p5 : Int32) (p6 : Int32) (h0 : Heap) (n0 : Nat) (v : Option Value) (h : Heap) (L : List Loc) : Prop := (v = some (.int (own_exp p0 p1 p2 p3 p4 p5 p6))) ∧ (Fr n0 L) ∧ (h = h0)
abbrev rom_4 : Room := { frames := 0, cells := 0, slots := 0, locals := 0 }
set_option maxRecDepth 65536 in
set_option maxHeartbeats 40000000 in
theorem rm4 (l : Launch) (Z : State) (a0 : Array Value) (hw : ∀ d ∈ tables_1, d.before a0 Z = true) (ws : List Jvm.Cond) (p0 : Int32) (p1 : Int32) (p2 : Int32) (p3 : Int32) (p4 : Int32) (p5 : Int32) (p6 : Int32) (h0 : Heap) (n0 : Nat) (Z0 : n0 ≤ h0.size) :
    MetFree l (⟨"com/example/strata/strata/PostingsUnpackTimesPinLaw", "expected", "(IIIIIII)I"⟩ : MethodName) (head1 (Jvm.Cond.code (⟨"com/example/strata/strata/PostingsUnpackTimesPinLaw", "expected", "(IIIIIII)I"⟩ : MethodName) method_5_code 8 (some .int) :: ws) rom_4) (fun a U => a = #[(.int p0), (.int p1), (.int p2), (.int p3), (.int p4), (.int p5), (.int p6)] ∧ Z.Warmed39 U.vm ∧ U.heap = h0) (fun _ _ _ _ _ => True) (fun _ U o U' => ∃ v L, o = .returned v ∧ Q4 Z p0 p1 p2 p3 p4 p5 p6 h0 n0 v U'.heap L ∧ FrameEnd U o U' L rom_4.cells rom_4.slots) := by
  refine MetFree.of_bodySF (plainFor_of_name pn_com_example_strata_strata_PostingsUnpackTimesPinLaw) hisR ?_
  intro p e s m args below meth c s₁ Bd hml0 hP hK
  obtain ⟨rfl, hZ, hh⟩ := hP
  have hx := Bd.exec
  have hby := Bd.bytes
  have hlk := Bd.notSynchronized
  have hml : c.maxLocals = 8 := hml0
  have hown : s.vm.findClass "com/example/strata/strata/PostingsUnpackTimesPinLaw" = some m.cls := findClass_of_methodNamed Bd.named
  have hnm := (name_of_methodNamed Bd.named Bd.method).1
  have X0 : Stand p l e rom_4 s m #[(.int p0), (.int p1), (.int p2), (.int p3), (.int p4), (.int p5), (.int p6)] below meth c s₁ [] 0 0 := Stand.of_body Bd
  have e0 : s₁.heap = h0 := by rw [← hh, Bd.state]; rfl
  have N0 := Fr.nil n0
  have K0 : Keep h0 h0 [] := Keep.refl _ _
  refine (?_ : OG p e below s (Q4 Z p0 p1 p2 p3 p4 p5 p6 h0 n0) rom_4.cells rom_4.slots _)
  rw [ef_4]
  have s1 : ∀ tz, Steps p.tables e below (s₁.setTop (mkF m 7 #[.val (.int p0), .val (.int p1), .val (.int p2), .val (.int p3), .val (.int p4), .val (.int p5), .val (.int p6), .val (.int (p0 - p1))] [(.int (p0 - p1))])) tz → Steps p.tables e below (s₁.setTop (mkF m 0 #[.val (.int p0), .val (.int p1), .val (.int p2), .val (.int p3), .val (.int p4), .val (.int p5), .val (.int p6), .unset] [])) tz := by
    intro tz kz
    refine XS.iloadN X0.here hx rfl (hb hby d4_0) rfl ?_
    show Steps p.tables e below (s₁.setTop (mkF m 1 #[.val (.int p0), .val (.int p1), .val (.int p2), .val (.int p3), .val (.int p4), .val (.int p5), .val (.int p6), .unset] [(.int p0)])) _
    refine XS.iloadN X0.here hx rfl (hb hby d4_1) rfl ?_
    show Steps p.tables e below (s₁.setTop (mkF m 2 #[.val (.int p0), .val (.int p1), .val (.int p2), .val (.int p3), .val (.int p4), .val (.int p5), .val (.int p6), .unset] [(.int p1), (.int p0)])) _
    refine XS.isub X0.here hx rfl (hb hby d4_2) rfl ?_
    show Steps p.tables e below (s₁.setTop (mkF m 3 #[.val (.int p0), .val (.int p1), .val (.int p2), .val (.int p3), .val (.int p4), .val (.int p5), .val (.int p6), .unset] [(.int (p0 - p1))])) _
    refine XS.istore X0.here hx rfl (hb hby d4_3) rfl (l' := #[.val (.int p0), .val (.int p1), .val (.int p2), .val (.int p3), .val (.int p4), .val (.int p5), .val (.int p6), .val (.int (p0 - p1))]) rfl ?_
    show Steps p.tables e below (s₁.setTop (mkF m 5 #[.val (.int p0), .val (.int p1), .val (.int p2), .val (.int p3), .val (.int p4), .val (.int p5), .val (.int p6), .val (.int (p0 - p1))] [])) _
    refine XS.iload X0.here hx rfl (hb hby d4_5) rfl ?_
    exact kz
  refine OG.step s1 ?_
  by_cases hc7 : (p0 - p1) < (0 : Int32)
  · have s2 : ∀ tz, Steps p.tables e below (s₁.setTop (mkF m 17 #[.val (.int p0), .val (.int p1), .val (.int p2), .val (.int p3), .val (.int p4), .val (.int p5), .val (.int p6), .val (.int (p0 - p1))] [(.int p3)])) tz → Steps p.tables e below (s₁.setTop (mkF m 7 #[.val (.int p0), .val (.int p1), .val (.int p2), .val (.int p3), .val (.int p4), .val (.int p5), .val (.int p6), .val (.int (p0 - p1))] [(.int (p0 - p1))])) tz := by
      intro tz kz
      refine XS.ifYes X0.here hx rfl (pc0 := 7) (pc' := 16) rfl (hb hby d4_7) rfl ((if0 _ _).trans (tlt hc7).1) (by decide) (by decide) ?_
      show Steps p.tables e below (s₁.setTop (mkF m 16 #[.val (.int p0), .val (.int p1), .val (.int p2), .val (.int p3), .val (.int p4), .val (.int p5), .val (.int p6), .val (.int (p0 - p1))] [])) _
      refine XS.iloadN X0.here hx rfl (hb hby d4_16) rfl ?_
      exact kz
    refine OG.step s2 ?_
    exact OG.retI X0 hx hlk Bd.returns (hb hby d4_17) e0 ⟨(congrArg some (congrArg Value.int (if_pos hc7).symm)), N0, rfl⟩ (by decide) (by decide)
  · have s3 : ∀ tz, Steps p.tables e below (s₁.setTop (mkF m 13 #[.val (.int p0), .val (.int p1), .val (.int p2), .val (.int p3), .val (.int p4), .val (.int p5), .val (.int p6), .val (.int (p0 - p1))] [(.int p2), (.int (p0 - p1))])) tz → Steps p.tables e below (s₁.setTop (mkF m 7 #[.val (.int p0), .val (.int p1), .val (.int p2), .val (.int p3), .val (.int p4), .val (.int p5), .val (.int p6), .val (.int (p0 - p1))] [(.int (p0 - p1))])) tz := by
      intro tz kz
      refine XS.ifNo X0.here hx rfl (hb hby d4_7) rfl ((if0 _ _).trans (flt hc7).1) ?_
      show Steps p.tables e below (s₁.setTop (mkF m 10 #[.val (.int p0), .val (.int p1), .val (.int p2), .val (.int p3), .val (.int p4), .val (.int p5), .val (.int p6), .val (.int (p0 - p1))] [])) _
      refine XS.iload X0.here hx rfl (hb hby d4_10) rfl ?_
      show Steps p.tables e below (s₁.setTop (mkF m 12 #[.val (.int p0), .val (.int p1), .val (.int p2), .val (.int p3), .val (.int p4), .val (.int p5), .val (.int p6), .val (.int (p0 - p1))] [(.int (p0 - p1))])) _
      refine XS.iloadN X0.here hx rfl (hb hby d4_12) rfl ?_
      exact kz
    refine OG.step s3 ?_
    by_cases hc13 : (p0 - p1) < p2
    · have s4 : ∀ tz, Steps p.tables e below (s₁.setTop (mkF m 20 #[.val (.int p0), .val (.int p1), .val (.int p2), .val (.int p3), .val (.int p4), .val (.int p5), .val (.int p6), .val (.int (p0 - p1))] [(.int (p0 - p1))])) tz → Steps p.tables e below (s₁.setTop (mkF m 13 #[.val (.int p0), .val (.int p1), .val (.int p2), .val (.int p3), .val (.int p4), .val (.int p5), .val (.int p6), .val (.int (p0 - p1))] [(.int p2), (.int (p0 - p1))])) tz := by
        intro tz kz
        refine XS.icmpYes X0.here hx rfl (pc0 := 13) (pc' := 18) rfl (hb hby d4_13) rfl (tlt hc13).1 (by decide) (by decide) ?_
        show Steps p.tables e below (s₁.setTop (mkF m 18 #[.val (.int p0), .val (.int p1), .val (.int p2), .val (.int p3), .val (.int p4), .val (.int p5), .val (.int p6), .val (.int (p0 - p1))] [])) _
        refine XS.iload X0.here hx rfl (hb hby d4_18) rfl ?_
        exact kz
      refine OG.step s4 ?_
      by_cases hc20 : (p0 - p1) = (0 : Int32)
      · have s5 : ∀ tz, Steps p.tables e below (s₁.setTop (mkF m 25 #[.val (.int p0), .val (.int p1), .val (.int p2), .val (.int p3), .val (.int p4), .val (.int p5), .val (.int p6), .val (.int (p0 - p1))] [(.int p4)])) tz → Steps p.tables e below (s₁.setTop (mkF m 20 #[.val (.int p0), .val (.int p1), .val (.int p2), .val (.int p3), .val (.int p4), .val (.int p5), .val (.int p6), .val (.int (p0 - p1))] [(.int (p0 - p1))])) tz := by
          intro tz kz
          refine XS.ifNo X0.here hx rfl (hb hby d4_20) rfl ((if0 _ _).trans (teq hc20).2) ?_
          show Steps p.tables e below (s₁.setTop (mkF m 23 #[.val (.int p0), .val (.int p1), .val (.int p2), .val (.int p3), .val (.int p4), .val (.int p5), .val (.int p6), .val (.int (p0 - p1))] [])) _
          refine XS.iload X0.here hx rfl (hb hby d4_23) rfl ?_
          exact kz
        refine OG.step s5 ?_
        exact OG.retI X0 hx hlk Bd.returns (hb hby d4_25) e0 ⟨(congrArg some (congrArg Value.int ((if_neg hc7).trans ((if_pos hc13).trans (if_pos hc20))).symm)), N0, rfl⟩ (by decide) (by decide)
      · have s6 : ∀ tz, Steps p.tables e below (s₁.setTop (mkF m 29 #[.val (.int p0), .val (.int p1), .val (.int p2), .val (.int p3), .val (.int p4), .val (.int p5), .val (.int p6), .val (.int (p0 - p1))] [(.int (1 : Int32)), (.int (p0 - p1))])) tz → Steps p.tables e below (s₁.setTop (mkF m 20 #[.val (.int p0), .val (.int p1), .val (.int p2), .val (.int p3), .val (.int p4), .val (.int p5), .val (.int p6), .val (.int (p0 - p1))] [(.int (p0 - p1))])) tz := by
          intro tz kz
          refine XS.ifYes X0.here hx rfl (pc0 := 20) (pc' := 26) rfl (hb hby d4_20) rfl ((if0 _ _).trans (feq hc20).2) (by decide) (by decide) ?_
          show Steps p.tables e below (s₁.setTop (mkF m 26 #[.val (.int p0), .val (.int p1), .val (.int p2), .val (.int p3), .val (.int p4), .val (.int p5), .val (.int p6), .val (.int (p0 - p1))] [])) _
          refine XS.iload X0.here hx rfl (hb hby d4_26) rfl ?_
          show Steps p.tables e below (s₁.setTop (mkF m 28 #[.val (.int p0), .val (.int p1), .val (.int p2), .val (.int p3), .val (.int p4), .val (.int p5), .val (.int p6), .val (.int (p0 - p1))] [(.int (p0 - p1))])) _
          refine XS.iconst X0.here hx rfl (hb hby d4_28) ?_
          exact kz
        refine OG.step s6 ?_
        by_cases hc29 : (p0 - p1) = (1 : Int32)
        · have s7 : ∀ tz, Steps p.tables e below (s₁.setTop (mkF m 34 #[.val (.int p0), .val (.int p1), .val (.int p2), .val (.int p3), .val (.int p4), .val (.int p5), .val (.int p6), .val (.int (p0 - p1))] [(.int p5)])) tz → Steps p.tables e below (s₁.setTop (mkF m 29 #[.val (.int p0), .val (.int p1), .val (.int p2), .val (.int p3), .val (.int p4), .val (.int p5), .val (.int p6), .val (.int (p0 - p1))] [(.int (1 : Int32)), (.int (p0 - p1))])) tz := by
            intro tz kz
            refine XS.icmpNo X0.here hx rfl (hb hby d4_29) rfl (teq hc29).2 ?_
            show Steps p.tables e below (s₁.setTop (mkF m 32 #[.val (.int p0), .val (.int p1), .val (.int p2), .val (.int p3), .val (.int p4), .val (.int p5), .val (.int p6), .val (.int (p0 - p1))] [])) _
            refine XS.iload X0.here hx rfl (hb hby d4_32) rfl ?_
            exact kz
          refine OG.step s7 ?_
          exact OG.retI X0 hx hlk Bd.returns (hb hby d4_34) e0 ⟨(congrArg some (congrArg Value.int ((if_neg hc7).trans ((if_pos hc13).trans ((if_neg hc20).trans (if_pos hc29)))).symm)), N0, rfl⟩ (by decide) (by decide)
        · have s8 : ∀ tz, Steps p.tables e below (s₁.setTop (mkF m 37 #[.val (.int p0), .val (.int p1), .val (.int p2), .val (.int p3), .val (.int p4), .val (.int p5), .val (.int p6), .val (.int (p0 - p1))] [(.int p6)])) tz → Steps p.tables e below (s₁.setTop (mkF m 29 #[.val (.int p0), .val (.int p1), .val (.int p2), .val (.int p3), .val (.int p4), .val (.int p5), .val (.int p6), .val (.int (p0 - p1))] [(.int (1 : Int32)), (.int (p0 - p1))])) tz := by
            intro tz kz
            refine XS.icmpYes X0.here hx rfl (pc0 := 29) (pc' := 35) rfl (hb hby d4_29) rfl (feq hc29).2 (by decide) (by decide) ?_
            show Steps p.tables e below (s₁.setTop (mkF m 35 #[.val (.int p0), .val (.int p1), .val (.int p2), .val (.int p3), .val (.int p4), .val (.int p5), .val (.int p6), .val (.int (p0 - p1))] [])) _
            refine XS.iload X0.here hx rfl (hb hby d4_35) rfl ?_
            exact kz
          refine OG.step s8 ?_
          exact OG.retI X0 hx hlk Bd.returns (hb hby d4_37) e0 ⟨(congrArg some (congrArg Value.int ((if_neg hc7).trans ((if_pos hc13).trans ((if_neg hc20).trans (if_neg hc29)))).symm)), N0, rfl⟩ (by decide) (by decide)
    · have s9 : ∀ tz, Steps p.tables e below (s₁.setTop (mkF m 17 #[.val (.int p0), .val (.int p1), .val (.int p2), .val (.int p3), .val (.int p4), .val (.int p5), .val (.int p6), .val (.int (p0 - p1))] [(.int p3)])) tz → Steps p.tables e below (s₁.setTop (mkF m 13 #[.val (.int p0), .val (.int p1), .val (.int p2), .val (.int p3), .val (.int p4), .val (.int p5), .val (.int p6), .val (.int (p0 - p1))] [(.int p2), (.int (p0 - p1))])) tz := by
        intro tz kz
        refine XS.icmpNo X0.here hx rfl (hb hby d4_13) rfl (flt hc13).1 ?_
        show Steps p.tables e below (s₁.setTop (mkF m 16 #[.val (.int p0), .val (.int p1), .val (.int p2), .val (.int p3), .val (.int p4), .val (.int p5), .val (.int p6), .val (.int (p0 - p1))] [])) _
        refine XS.iloadN X0.here hx rfl (hb hby d4_16) rfl ?_
        exact kz
      refine OG.step s9 ?_
      exact OG.retI X0 hx hlk Bd.returns (hb hby d4_17) e0 ⟨(congrArg some (congrArg Value.int ((if_neg hc7).trans (if_neg hc13)).symm)), N0, rfl⟩ (by decide) (by decide)
theorem d3_0 : decode prog_89_method_11_code 0 = .ok (.lconst 1, 1) := by decide +kernel
theorem d3_1 : decode prog_89_method_11_code 1 = .ok (.iload_n 2, 1) := by decide +kernel
theorem d3_2 : decode prog_89_method_11_code 2 = .ok (.lshl, 1) := by decide +kernel
theorem d3_3 : decode prog_89_method_11_code 3 = .ok (.lconst 1, 1) := by decide +kernel
theorem d3_4 : decode prog_89_method_11_code 4 = .ok (.lsub, 1) := by decide +kernel
theorem d3_5 : decode prog_89_method_11_code 5 = .ok (.lstore 7, 2) := by decide +kernel
theorem d3_7 : decode prog_89_method_11_code 7 = .ok (.lconst 0, 1) := by decide +kernel
theorem d3_8 : decode prog_89_method_11_code 8 = .ok (.lstore 9, 2) := by decide +kernel
theorem d3_10 : decode prog_89_method_11_code 10 = .ok (.iconst 0, 1) := by decide +kernel
theorem d3_11 : decode prog_89_method_11_code 11 = .ok (.istore 11, 2) := by decide +kernel
theorem d3_13 : decode prog_89_method_11_code 13 = .ok (.iload_n 1, 1) := by decide +kernel
theorem d3_14 : decode prog_89_method_11_code 14 = .ok (.iload_n 3, 1) := by decide +kernel
theorem d3_15 : decode prog_89_method_11_code 15 = .ok (.i2l, 1) := by decide +kernel
theorem d3_16 : decode prog_89_method_11_code 16 = .ok (.iload_n 2, 1) := by decide +kernel
theorem d3_17 : decode prog_89_method_11_code 17 = .ok (.i2l, 1) := by decide +kernel
theorem d3_18 : decode prog_89_method_11_code 18 = .ok (.lmul, 1) := by decide +kernel
theorem d3_19 : decode prog_89_method_11_code 19 = .ok (.iconst 3, 1) := by decide +kernel
theorem d3_20 : decode prog_89_method_11_code 20 = .ok (.lushr, 1) := by decide +kernel
theorem d3_21 : decode prog_89_method_11_code 21 = .ok (.l2i, 1) := by decide +kernel
theorem d3_22 : decode prog_89_method_11_code 22 = .ok (.iadd, 1) := by decide +kernel
theorem d3_23 : decode prog_89_method_11_code 23 = .ok (.istore 12, 2) := by decide +kernel
theorem d3_25 : decode prog_89_method_11_code 25 = .ok (.iconst 0, 1) := by decide +kernel
theorem d3_26 : decode prog_89_method_11_code 26 = .ok (.istore 13, 2) := by decide +kernel
theorem d3_28 : decode prog_89_method_11_code 28 = .ok (.iload 13, 2) := by decide +kernel
theorem d3_30 : decode prog_89_method_11_code 30 = .ok (.iload 4, 2) := by decide +kernel
theorem d3_32 : decode prog_89_method_11_code 32 = .ok (.if_icmp .ge 69, 3) := by decide +kernel
theorem d3_35 : decode prog_89_method_11_code 35 = .ok (.iload 11, 2) := by decide +kernel
theorem d3_37 : decode prog_89_method_11_code 37 = .ok (.iload_n 2, 1) := by decide +kernel
theorem d3_38 : decode prog_89_method_11_code 38 = .ok (.if_icmp .ge 29, 3) := by decide +kernel
theorem d3_41 : decode prog_89_method_11_code 41 = .ok (.lload 9, 2) := by decide +kernel
theorem d3_43 : decode prog_89_method_11_code 43 = .ok (.aload_n 0, 1) := by decide +kernel
theorem d3_44 : decode prog_89_method_11_code 44 = .ok (.iload 12, 2) := by decide +kernel
theorem d3_46 : decode prog_89_method_11_code 46 = .ok (.iinc 12 1, 3) := by decide +kernel
theorem d3_49 : decode prog_89_method_11_code 49 = .ok (.baload, 1) := by decide +kernel
theorem d3_50 : decode prog_89_method_11_code 50 = .ok (.i2l, 1) := by decide +kernel
theorem d3_51 : decode prog_89_method_11_code 51 = .ok (.ldc2_w 50, 3) := by decide +kernel
theorem d3_54 : decode prog_89_method_11_code 54 = .ok (.land, 1) := by decide +kernel
theorem d3_55 : decode prog_89_method_11_code 55 = .ok (.iload 11, 2) := by decide +kernel
theorem d3_57 : decode prog_89_method_11_code 57 = .ok (.lshl, 1) := by decide +kernel
theorem d3_58 : decode prog_89_method_11_code 58 = .ok (.lor, 1) := by decide +kernel
theorem d3_59 : decode prog_89_method_11_code 59 = .ok (.lstore 9, 2) := by decide +kernel
theorem d3_61 : decode prog_89_method_11_code 61 = .ok (.iinc 11 8, 3) := by decide +kernel
theorem d3_64 : decode prog_89_method_11_code 64 = .ok (.goto (-29), 3) := by decide +kernel
theorem d3_67 : decode prog_89_method_11_code 67 = .ok (.aload 5, 2) := by decide +kernel
theorem d3_69 : decode prog_89_method_11_code 69 = .ok (.iload 6, 2) := by decide +kernel
theorem d3_71 : decode prog_89_method_11_code 71 = .ok (.iload 13, 2) := by decide +kernel
theorem d3_73 : decode prog_89_method_11_code 73 = .ok (.iadd, 1) := by decide +kernel
theorem d3_74 : decode prog_89_method_11_code 74 = .ok (.lload 9, 2) := by decide +kernel
theorem d3_76 : decode prog_89_method_11_code 76 = .ok (.lload 7, 2) := by decide +kernel
theorem d3_78 : decode prog_89_method_11_code 78 = .ok (.land, 1) := by decide +kernel
theorem d3_79 : decode prog_89_method_11_code 79 = .ok (.l2i, 1) := by decide +kernel
theorem d3_80 : decode prog_89_method_11_code 80 = .ok (.iconst 1, 1) := by decide +kernel
theorem d3_81 : decode prog_89_method_11_code 81 = .ok (.iadd, 1) := by decide +kernel
theorem d3_82 : decode prog_89_method_11_code 82 = .ok (.iastore, 1) := by decide +kernel
theorem d3_83 : decode prog_89_method_11_code 83 = .ok (.lload 9, 2) := by decide +kernel
theorem d3_85 : decode prog_89_method_11_code 85 = .ok (.iload_n 2, 1) := by decide +kernel
theorem d3_86 : decode prog_89_method_11_code 86 = .ok (.lushr, 1) := by decide +kernel
theorem d3_87 : decode prog_89_method_11_code 87 = .ok (.lstore 9, 2) := by decide +kernel
theorem d3_89 : decode prog_89_method_11_code 89 = .ok (.iload 11, 2) := by decide +kernel
theorem d3_91 : decode prog_89_method_11_code 91 = .ok (.iload_n 2, 1) := by decide +kernel
theorem d3_92 : decode prog_89_method_11_code 92 = .ok (.isub, 1) := by decide +kernel
theorem d3_93 : decode prog_89_method_11_code 93 = .ok (.istore 11, 2) := by decide +kernel
theorem d3_95 : decode prog_89_method_11_code 95 = .ok (.iinc 13 1, 3) := by decide +kernel
theorem d3_98 : decode prog_89_method_11_code 98 = .ok (.goto (-70), 3) := by decide +kernel
theorem d3_101 : decode prog_89_method_11_code 101 = .ok (.return_, 1) := by decide +kernel
theorem pn_com_example_strata_strata_Postings : plainName "com/example/strata/strata/Postings" = true := by first | (simp [plainName, overriddenIn]; done) | decide +kernel
theorem ef_3 (m : MethodId) (x0 : Addr) (x1 : Int32) (x2 : Int32) (x3 : Int32) (x4 : Int32) (x5 : Addr) (x6 : Int32) : entryFrame m #[(.ref x0), (.int x1), (.int x2), (.int x3), (.int x4), (.ref x5), (.int x6)] 14 = mkF m 0 #[.val (.ref x0), .val (.int x1), .val (.int x2), .val (.int x3), .val (.int x4), .val (.ref x5), .val (.int x6), .unset, .unset, .unset, .unset, .unset, .unset, .unset] [] := by first | (simp [entryFrame, mkF, argsToLocals, Value.category]; done) | rfl
def Q3 (Z : State) (ab : Addr) (ai : Addr) (at_ : Nat) (nb : Nat) (fr : Nat) (cnt : Nat) (ia : Nat) (kb : ClassId) (ki : ClassId) (f : Nat → Int32) (t : Nat → Int32) (B : Nat → Bool) (R : Nat → Int64) (h0 : Heap) (n0 : Nat) (v : Option Value) (h : Heap) (L : List Loc) : Prop := (v = none) ∧ (Fr n0 L) ∧ (Keep h0 h [ai]) ∧ (Arv Z h ai ki .int (8 : Int32) (own_is (own_fill t ia R cnt)) (.int (0 : Int32)))
abbrev rom_3 : Room := { frames := 0, cells := 0, slots := 0, locals := 0 }
set_option maxRecDepth 65536 in
set_option maxHeartbeats 40000000 in
theorem rm3 (l : Launch) (Z : State) (a0 : Array Value) (hw : ∀ d ∈ tables_1, d.before a0 Z = true) (ws : List Jvm.Cond) (ab : Addr) (ai : Addr) (at_ : Nat) (nb : Nat) (fr : Nat) (cnt : Nat) (ia : Nat) (kb : ClassId) (ki : ClassId) (f : Nat → Int32) (t : Nat → Int32) (B : Nat → Bool) (R : Nat → Int64) (h0 : Heap) (n0 : Nat) (Z0 : n0 ≤ h0.size) (F0_ab : Arv Z h0 ab kb .byte (64 : Int32) (own_bs f) (.int (0 : Int32))) (F1_ai : Arv Z h0 ai ki .int (8 : Int32) (own_is t) (.int (0 : Int32))) (ne_ab_ai : ab ≠ ai) (g_ai : n0 ≤ ai) (hat : at_ ≤ 15) (hnb : nb ≤ 31) (hfr : fr = 0 ∨ fr = 8) (hcnt : cnt ≤ 3) (hia : ia ≤ 3) (hB : own_Bytes f B) (hR : ∀ i, i < cnt → own_has B (R i) ((8 * at_ + fr * nb) + i * nb) nb) :
    MetFree l (⟨"com/example/strata/strata/Postings", "unpackTimes", "([BIIII[II)V"⟩ : MethodName) (head1 (Jvm.Cond.code (⟨"com/example/strata/strata/Postings", "unpackTimes", "([BIIII[II)V"⟩ : MethodName) prog_89_method_11_code 14 none :: ws) rom_3) (fun a U => a = #[(.ref ab), (.int (Int32.ofNat at_)), (.int (Int32.ofNat nb)), (.int (Int32.ofNat fr)), (.int (Int32.ofNat cnt)), (.ref ai), (.int (Int32.ofNat ia))] ∧ Z.Warmed39 U.vm ∧ U.heap = h0) (fun _ _ _ _ _ => True) (fun _ U o U' => ∃ v L, o = .returned v ∧ Q3 Z ab ai at_ nb fr cnt ia kb ki f t B R h0 n0 v U'.heap L ∧ FrameEnd U o U' L rom_3.cells rom_3.slots) := by
  refine MetFree.of_bodySF (plainFor_of_name pn_com_example_strata_strata_Postings) hisR ?_
  intro p e s m args below meth c s₁ Bd hml0 hP hK
  obtain ⟨rfl, hZ, hh⟩ := hP
  have hx := Bd.exec
  have hby := Bd.bytes
  have hlk := Bd.notSynchronized
  have hml : c.maxLocals = 14 := hml0
  have hown : s.vm.findClass "com/example/strata/strata/Postings" = some m.cls := findClass_of_methodNamed Bd.named
  have hnm := (name_of_methodNamed Bd.named Bd.method).1
  have X0 : Stand p l e rom_3 s m #[(.ref ab), (.int (Int32.ofNat at_)), (.int (Int32.ofNat nb)), (.int (Int32.ofNat fr)), (.int (Int32.ofNat cnt)), (.ref ai), (.int (Int32.ofNat ia))] below meth c s₁ [] 0 0 := Stand.of_body Bd
  have e0 : s₁.heap = h0 := by rw [← hh, Bd.state]; rfl
  have N0 := Fr.nil n0
  have K0 : Keep h0 h0 [ai] := Keep.refl _ _
  refine (?_ : OG p e below s (Q3 Z ab ai at_ nb fr cnt ia kb ki f t B R h0 n0) rom_3.cells rom_3.slots _)
  rw [ef_3]
  have s1 : ∀ tz, Steps p.tables e below (s₁.setTop (mkF m 25 #[.val (.ref ab), .val (.int (Int32.ofNat at_)), .val (.int (Int32.ofNat nb)), .val (.int (Int32.ofNat fr)), .val (.int (Int32.ofNat cnt)), .val (.ref ai), .val (.int (Int32.ofNat ia)), .val (.long (own_mask nb)), .second, .val (.long (0 : Int64)), .second, .val (.int (0 : Int32)), .val (.int ((Int32.ofNat at_) + ((((((Int32.ofNat fr).toInt64) * ((Int32.ofNat nb).toInt64)).toUInt64 >>> ((3 : Int32) &&& 0x3f).toInt64.toUInt64).toInt64).toInt32))), .unset] [])) tz → Steps p.tables e below (s₁.setTop (mkF m 0 #[.val (.ref ab), .val (.int (Int32.ofNat at_)), .val (.int (Int32.ofNat nb)), .val (.int (Int32.ofNat fr)), .val (.int (Int32.ofNat cnt)), .val (.ref ai), .val (.int (Int32.ofNat ia)), .unset, .unset, .unset, .unset, .unset, .unset, .unset] [])) tz := by
    intro tz kz
    refine XS.lconst X0.here hx rfl (hb hby d3_0) ?_
    show Steps p.tables e below (s₁.setTop (mkF m 1 #[.val (.ref ab), .val (.int (Int32.ofNat at_)), .val (.int (Int32.ofNat nb)), .val (.int (Int32.ofNat fr)), .val (.int (Int32.ofNat cnt)), .val (.ref ai), .val (.int (Int32.ofNat ia)), .unset, .unset, .unset, .unset, .unset, .unset, .unset] [(.long (1 : Int64))])) _
    refine XS.iloadN X0.here hx rfl (hb hby d3_1) rfl ?_
    show Steps p.tables e below (s₁.setTop (mkF m 2 #[.val (.ref ab), .val (.int (Int32.ofNat at_)), .val (.int (Int32.ofNat nb)), .val (.int (Int32.ofNat fr)), .val (.int (Int32.ofNat cnt)), .val (.ref ai), .val (.int (Int32.ofNat ia)), .unset, .unset, .unset, .unset, .unset, .unset, .unset] [(.int (Int32.ofNat nb)), (.long (1 : Int64))])) _
    refine XS.lshl X0.here hx rfl (hb hby d3_2) rfl ?_
    show Steps p.tables e below (s₁.setTop (mkF m 3 #[.val (.ref ab), .val (.int (Int32.ofNat at_)), .val (.int (Int32.ofNat nb)), .val (.int (Int32.ofNat fr)), .val (.int (Int32.ofNat cnt)), .val (.ref ai), .val (.int (Int32.ofNat ia)), .unset, .unset, .unset, .unset, .unset, .unset, .unset] [(.long ((1 : Int64) <<< ((Int32.ofNat nb) &&& 0x3f).toInt64))])) _
    refine XS.lconst X0.here hx rfl (hb hby d3_3) ?_
    show Steps p.tables e below (s₁.setTop (mkF m 4 #[.val (.ref ab), .val (.int (Int32.ofNat at_)), .val (.int (Int32.ofNat nb)), .val (.int (Int32.ofNat fr)), .val (.int (Int32.ofNat cnt)), .val (.ref ai), .val (.int (Int32.ofNat ia)), .unset, .unset, .unset, .unset, .unset, .unset, .unset] [(.long (1 : Int64)), (.long ((1 : Int64) <<< ((Int32.ofNat nb) &&& 0x3f).toInt64))])) _
    refine XS.lsub X0.here hx rfl (hb hby d3_4) rfl ?_
    show Steps p.tables e below (s₁.setTop (mkF m 5 #[.val (.ref ab), .val (.int (Int32.ofNat at_)), .val (.int (Int32.ofNat nb)), .val (.int (Int32.ofNat fr)), .val (.int (Int32.ofNat cnt)), .val (.ref ai), .val (.int (Int32.ofNat ia)), .unset, .unset, .unset, .unset, .unset, .unset, .unset] [(.long (((1 : Int64) <<< ((Int32.ofNat nb) &&& 0x3f).toInt64) - (1 : Int64)))])) _
    refine XS.lstore X0.here hx rfl (hb hby d3_5) rfl (l' := #[.val (.ref ab), .val (.int (Int32.ofNat at_)), .val (.int (Int32.ofNat nb)), .val (.int (Int32.ofNat fr)), .val (.int (Int32.ofNat cnt)), .val (.ref ai), .val (.int (Int32.ofNat ia)), .val (.long (own_mask nb)), .second, .unset, .unset, .unset, .unset, .unset]) rfl ?_
    show Steps p.tables e below (s₁.setTop (mkF m 7 #[.val (.ref ab), .val (.int (Int32.ofNat at_)), .val (.int (Int32.ofNat nb)), .val (.int (Int32.ofNat fr)), .val (.int (Int32.ofNat cnt)), .val (.ref ai), .val (.int (Int32.ofNat ia)), .val (.long (own_mask nb)), .second, .unset, .unset, .unset, .unset, .unset] [])) _
    refine XS.lconst X0.here hx rfl (hb hby d3_7) ?_
    show Steps p.tables e below (s₁.setTop (mkF m 8 #[.val (.ref ab), .val (.int (Int32.ofNat at_)), .val (.int (Int32.ofNat nb)), .val (.int (Int32.ofNat fr)), .val (.int (Int32.ofNat cnt)), .val (.ref ai), .val (.int (Int32.ofNat ia)), .val (.long (own_mask nb)), .second, .unset, .unset, .unset, .unset, .unset] [(.long (0 : Int64))])) _
    refine XS.lstore X0.here hx rfl (hb hby d3_8) rfl (l' := #[.val (.ref ab), .val (.int (Int32.ofNat at_)), .val (.int (Int32.ofNat nb)), .val (.int (Int32.ofNat fr)), .val (.int (Int32.ofNat cnt)), .val (.ref ai), .val (.int (Int32.ofNat ia)), .val (.long (own_mask nb)), .second, .val (.long (0 : Int64)), .second, .unset, .unset, .unset]) rfl ?_
    show Steps p.tables e below (s₁.setTop (mkF m 10 #[.val (.ref ab), .val (.int (Int32.ofNat at_)), .val (.int (Int32.ofNat nb)), .val (.int (Int32.ofNat fr)), .val (.int (Int32.ofNat cnt)), .val (.ref ai), .val (.int (Int32.ofNat ia)), .val (.long (own_mask nb)), .second, .val (.long (0 : Int64)), .second, .unset, .unset, .unset] [])) _
    refine XS.iconst X0.here hx rfl (hb hby d3_10) ?_
    show Steps p.tables e below (s₁.setTop (mkF m 11 #[.val (.ref ab), .val (.int (Int32.ofNat at_)), .val (.int (Int32.ofNat nb)), .val (.int (Int32.ofNat fr)), .val (.int (Int32.ofNat cnt)), .val (.ref ai), .val (.int (Int32.ofNat ia)), .val (.long (own_mask nb)), .second, .val (.long (0 : Int64)), .second, .unset, .unset, .unset] [(.int (0 : Int32))])) _
    refine XS.istore X0.here hx rfl (hb hby d3_11) rfl (l' := #[.val (.ref ab), .val (.int (Int32.ofNat at_)), .val (.int (Int32.ofNat nb)), .val (.int (Int32.ofNat fr)), .val (.int (Int32.ofNat cnt)), .val (.ref ai), .val (.int (Int32.ofNat ia)), .val (.long (own_mask nb)), .second, .val (.long (0 : Int64)), .second, .val (.int (0 : Int32)), .unset, .unset]) rfl ?_
    show Steps p.tables e below (s₁.setTop (mkF m 13 #[.val (.ref ab), .val (.int (Int32.ofNat at_)), .val (.int (Int32.ofNat nb)), .val (.int (Int32.ofNat fr)), .val (.int (Int32.ofNat cnt)), .val (.ref ai), .val (.int (Int32.ofNat ia)), .val (.long (own_mask nb)), .second, .val (.long (0 : Int64)), .second, .val (.int (0 : Int32)), .unset, .unset] [])) _
    refine XS.iloadN X0.here hx rfl (hb hby d3_13) rfl ?_
    show Steps p.tables e below (s₁.setTop (mkF m 14 #[.val (.ref ab), .val (.int (Int32.ofNat at_)), .val (.int (Int32.ofNat nb)), .val (.int (Int32.ofNat fr)), .val (.int (Int32.ofNat cnt)), .val (.ref ai), .val (.int (Int32.ofNat ia)), .val (.long (own_mask nb)), .second, .val (.long (0 : Int64)), .second, .val (.int (0 : Int32)), .unset, .unset] [(.int (Int32.ofNat at_))])) _
    refine XS.iloadN X0.here hx rfl (hb hby d3_14) rfl ?_
    show Steps p.tables e below (s₁.setTop (mkF m 15 #[.val (.ref ab), .val (.int (Int32.ofNat at_)), .val (.int (Int32.ofNat nb)), .val (.int (Int32.ofNat fr)), .val (.int (Int32.ofNat cnt)), .val (.ref ai), .val (.int (Int32.ofNat ia)), .val (.long (own_mask nb)), .second, .val (.long (0 : Int64)), .second, .val (.int (0 : Int32)), .unset, .unset] [(.int (Int32.ofNat fr)), (.int (Int32.ofNat at_))])) _
    refine XS.i2l X0.here hx rfl (hb hby d3_15) rfl ?_
    show Steps p.tables e below (s₁.setTop (mkF m 16 #[.val (.ref ab), .val (.int (Int32.ofNat at_)), .val (.int (Int32.ofNat nb)), .val (.int (Int32.ofNat fr)), .val (.int (Int32.ofNat cnt)), .val (.ref ai), .val (.int (Int32.ofNat ia)), .val (.long (own_mask nb)), .second, .val (.long (0 : Int64)), .second, .val (.int (0 : Int32)), .unset, .unset] [(.long ((Int32.ofNat fr).toInt64)), (.int (Int32.ofNat at_))])) _
    refine XS.iloadN X0.here hx rfl (hb hby d3_16) rfl ?_
    show Steps p.tables e below (s₁.setTop (mkF m 17 #[.val (.ref ab), .val (.int (Int32.ofNat at_)), .val (.int (Int32.ofNat nb)), .val (.int (Int32.ofNat fr)), .val (.int (Int32.ofNat cnt)), .val (.ref ai), .val (.int (Int32.ofNat ia)), .val (.long (own_mask nb)), .second, .val (.long (0 : Int64)), .second, .val (.int (0 : Int32)), .unset, .unset] [(.int (Int32.ofNat nb)), (.long ((Int32.ofNat fr).toInt64)), (.int (Int32.ofNat at_))])) _
    refine XS.i2l X0.here hx rfl (hb hby d3_17) rfl ?_
    show Steps p.tables e below (s₁.setTop (mkF m 18 #[.val (.ref ab), .val (.int (Int32.ofNat at_)), .val (.int (Int32.ofNat nb)), .val (.int (Int32.ofNat fr)), .val (.int (Int32.ofNat cnt)), .val (.ref ai), .val (.int (Int32.ofNat ia)), .val (.long (own_mask nb)), .second, .val (.long (0 : Int64)), .second, .val (.int (0 : Int32)), .unset, .unset] [(.long ((Int32.ofNat nb).toInt64)), (.long ((Int32.ofNat fr).toInt64)), (.int (Int32.ofNat at_))])) _
    refine XS.lmul X0.here hx rfl (hb hby d3_18) rfl ?_
    show Steps p.tables e below (s₁.setTop (mkF m 19 #[.val (.ref ab), .val (.int (Int32.ofNat at_)), .val (.int (Int32.ofNat nb)), .val (.int (Int32.ofNat fr)), .val (.int (Int32.ofNat cnt)), .val (.ref ai), .val (.int (Int32.ofNat ia)), .val (.long (own_mask nb)), .second, .val (.long (0 : Int64)), .second, .val (.int (0 : Int32)), .unset, .unset] [(.long (((Int32.ofNat fr).toInt64) * ((Int32.ofNat nb).toInt64))), (.int (Int32.ofNat at_))])) _
    refine XS.iconst X0.here hx rfl (hb hby d3_19) ?_
    show Steps p.tables e below (s₁.setTop (mkF m 20 #[.val (.ref ab), .val (.int (Int32.ofNat at_)), .val (.int (Int32.ofNat nb)), .val (.int (Int32.ofNat fr)), .val (.int (Int32.ofNat cnt)), .val (.ref ai), .val (.int (Int32.ofNat ia)), .val (.long (own_mask nb)), .second, .val (.long (0 : Int64)), .second, .val (.int (0 : Int32)), .unset, .unset] [(.int (3 : Int32)), (.long (((Int32.ofNat fr).toInt64) * ((Int32.ofNat nb).toInt64))), (.int (Int32.ofNat at_))])) _
    refine XS.lushr X0.here hx rfl (hb hby d3_20) rfl ?_
    show Steps p.tables e below (s₁.setTop (mkF m 21 #[.val (.ref ab), .val (.int (Int32.ofNat at_)), .val (.int (Int32.ofNat nb)), .val (.int (Int32.ofNat fr)), .val (.int (Int32.ofNat cnt)), .val (.ref ai), .val (.int (Int32.ofNat ia)), .val (.long (own_mask nb)), .second, .val (.long (0 : Int64)), .second, .val (.int (0 : Int32)), .unset, .unset] [(.long (((((Int32.ofNat fr).toInt64) * ((Int32.ofNat nb).toInt64)).toUInt64 >>> ((3 : Int32) &&& 0x3f).toInt64.toUInt64).toInt64)), (.int (Int32.ofNat at_))])) _
    refine XS.l2i X0.here hx rfl (hb hby d3_21) rfl ?_
    show Steps p.tables e below (s₁.setTop (mkF m 22 #[.val (.ref ab), .val (.int (Int32.ofNat at_)), .val (.int (Int32.ofNat nb)), .val (.int (Int32.ofNat fr)), .val (.int (Int32.ofNat cnt)), .val (.ref ai), .val (.int (Int32.ofNat ia)), .val (.long (own_mask nb)), .second, .val (.long (0 : Int64)), .second, .val (.int (0 : Int32)), .unset, .unset] [(.int ((((((Int32.ofNat fr).toInt64) * ((Int32.ofNat nb).toInt64)).toUInt64 >>> ((3 : Int32) &&& 0x3f).toInt64.toUInt64).toInt64).toInt32)), (.int (Int32.ofNat at_))])) _
    refine XS.iadd X0.here hx rfl (hb hby d3_22) rfl ?_
    show Steps p.tables e below (s₁.setTop (mkF m 23 #[.val (.ref ab), .val (.int (Int32.ofNat at_)), .val (.int (Int32.ofNat nb)), .val (.int (Int32.ofNat fr)), .val (.int (Int32.ofNat cnt)), .val (.ref ai), .val (.int (Int32.ofNat ia)), .val (.long (own_mask nb)), .second, .val (.long (0 : Int64)), .second, .val (.int (0 : Int32)), .unset, .unset] [(.int ((Int32.ofNat at_) + ((((((Int32.ofNat fr).toInt64) * ((Int32.ofNat nb).toInt64)).toUInt64 >>> ((3 : Int32) &&& 0x3f).toInt64.toUInt64).toInt64).toInt32)))])) _
    refine XS.istore X0.here hx rfl (hb hby d3_23) rfl (l' := #[.val (.ref ab), .val (.int (Int32.ofNat at_)), .val (.int (Int32.ofNat nb)), .val (.int (Int32.ofNat fr)), .val (.int (Int32.ofNat cnt)), .val (.ref ai), .val (.int (Int32.ofNat ia)), .val (.long (own_mask nb)), .second, .val (.long (0 : Int64)), .second, .val (.int (0 : Int32)), .val (.int ((Int32.ofNat at_) + ((((((Int32.ofNat fr).toInt64) * ((Int32.ofNat nb).toInt64)).toUInt64 >>> ((3 : Int32) &&& 0x3f).toInt64.toUInt64).toInt64).toInt32))), .unset]) rfl ?_
    exact kz
  refine OG.step s1 ?_
  rw [own_y0 hat hnb hfr]
  show OG _ _ _ _ _ _ _ (s₁.setTop (mkF m 25 #[.val (.ref ab), .val (.int (Int32.ofNat at_)), .val (.int (Int32.ofNat nb)), .val (.int (Int32.ofNat fr)), .val (.int (Int32.ofNat cnt)), .val (.ref ai), .val (.int (Int32.ofNat ia)), .val (.long (own_mask nb)), .second, .val (.long (0 : Int64)), .second, .val (.int (0 : Int32)), .val (.int (Int32.ofNat (at_ + fr * nb / 8))), .unset] []))
  have s2 : ∀ tz, Steps p.tables e below (s₁.setTop (mkF m 28 #[.val (.ref ab), .val (.int (Int32.ofNat at_)), .val (.int (Int32.ofNat nb)), .val (.int (Int32.ofNat fr)), .val (.int (Int32.ofNat cnt)), .val (.ref ai), .val (.int (Int32.ofNat ia)), .val (.long (own_mask nb)), .second, .val (.long (0 : Int64)), .second, .val (.int (0 : Int32)), .val (.int (Int32.ofNat (at_ + fr * nb / 8))), .val (.int (0 : Int32))] [])) tz → Steps p.tables e below (s₁.setTop (mkF m 25 #[.val (.ref ab), .val (.int (Int32.ofNat at_)), .val (.int (Int32.ofNat nb)), .val (.int (Int32.ofNat fr)), .val (.int (Int32.ofNat cnt)), .val (.ref ai), .val (.int (Int32.ofNat ia)), .val (.long (own_mask nb)), .second, .val (.long (0 : Int64)), .second, .val (.int (0 : Int32)), .val (.int (Int32.ofNat (at_ + fr * nb / 8))), .unset] [])) tz := by
    intro tz kz
    refine XS.iconst X0.here hx rfl (hb hby d3_25) ?_
    show Steps p.tables e below (s₁.setTop (mkF m 26 #[.val (.ref ab), .val (.int (Int32.ofNat at_)), .val (.int (Int32.ofNat nb)), .val (.int (Int32.ofNat fr)), .val (.int (Int32.ofNat cnt)), .val (.ref ai), .val (.int (Int32.ofNat ia)), .val (.long (own_mask nb)), .second, .val (.long (0 : Int64)), .second, .val (.int (0 : Int32)), .val (.int (Int32.ofNat (at_ + fr * nb / 8))), .unset] [(.int (0 : Int32))])) _
    refine XS.istore X0.here hx rfl (hb hby d3_26) rfl (l' := #[.val (.ref ab), .val (.int (Int32.ofNat at_)), .val (.int (Int32.ofNat nb)), .val (.int (Int32.ofNat fr)), .val (.int (Int32.ofNat cnt)), .val (.ref ai), .val (.int (Int32.ofNat ia)), .val (.long (own_mask nb)), .second, .val (.long (0 : Int64)), .second, .val (.int (0 : Int32)), .val (.int (Int32.ofNat (at_ + fr * nb / 8))), .val (.int (0 : Int32))]) rfl ?_
    exact kz
  refine OG.step s2 ?_
  have Vi0 : Arv Z h0 ai ki .int (8 : Int32) (own_is (own_fill t ia R 0)) (.int (0 : Int32)) := own_fill0 t ia R ▸ F1_ai
  have J3 : ∀ (fu : Nat) (i : Nat) (g : Int64) (h : Nat) (y : Nat) (Hj3 : Heap) (Tj3 : State) (Lj3 : List Loc), Stand p l e rom_3 s m #[(.ref ab), (.int (Int32.ofNat at_)), (.int (Int32.ofNat nb)), (.int (Int32.ofNat fr)), (.int (Int32.ofNat cnt)), (.ref ai), (.int (Int32.ofNat ia))] below meth c Tj3 Lj3 0 0 → Tj3.heap = Hj3 → Fr n0 Lj3 → (Keep h0 Hj3 [ai]) → (Arv Z Hj3 ab kb .byte (64 : Int32) (own_bs f) (.int (0 : Int32))) → (Arv Z Hj3 ai ki .int (8 : Int32) (own_is (own_fill t ia R i)) (.int (0 : Int32))) → (cnt - i = fu) → (i ≤ cnt) → (own_has B g ((8 * at_ + fr * nb) + i * nb) h) → (8 * y = (8 * at_ + fr * nb) + i * nb + h) → (h < 8) → OG p e below s (Q3 Z ab ai at_ nb fr cnt ia kb ki f t B R h0 n0) rom_3.cells rom_3.slots (Tj3.setTop (mkF m 28 #[.val (.ref ab), .val (.int (Int32.ofNat at_)), .val (.int (Int32.ofNat nb)), .val (.int (Int32.ofNat fr)), .val (.int (Int32.ofNat cnt)), .val (.ref ai), .val (.int (Int32.ofNat ia)), .val (.long (own_mask nb)), .second, .val (.long g), .second, .val (.int (Int32.ofNat h)), .val (.int (Int32.ofNat y)), .val (.int (Int32.ofNat i))] [])) := by
    intro fu
    induction fu using Nat.strongRecOn with
    | _ fu ih3 =>
      intro i g h y Hj3 Tj3 Lj3 Xj3 ej3 Nj3 Kj3 fj3_0 fj3_1 hfu hi hg hy hh8
      have s4 : ∀ tz, Steps p.tables e below (Tj3.setTop (mkF m 32 #[.val (.ref ab), .val (.int (Int32.ofNat at_)), .val (.int (Int32.ofNat nb)), .val (.int (Int32.ofNat fr)), .val (.int (Int32.ofNat cnt)), .val (.ref ai), .val (.int (Int32.ofNat ia)), .val (.long (own_mask nb)), .second, .val (.long g), .second, .val (.int (Int32.ofNat h)), .val (.int (Int32.ofNat y)), .val (.int (Int32.ofNat i))] [(.int (Int32.ofNat cnt)), (.int (Int32.ofNat i))])) tz → Steps p.tables e below (Tj3.setTop (mkF m 28 #[.val (.ref ab), .val (.int (Int32.ofNat at_)), .val (.int (Int32.ofNat nb)), .val (.int (Int32.ofNat fr)), .val (.int (Int32.ofNat cnt)), .val (.ref ai), .val (.int (Int32.ofNat ia)), .val (.long (own_mask nb)), .second, .val (.long g), .second, .val (.int (Int32.ofNat h)), .val (.int (Int32.ofNat y)), .val (.int (Int32.ofNat i))] [])) tz := by
        intro tz kz
        refine XS.iload Xj3.here hx rfl (hb hby d3_28) rfl ?_
        show Steps p.tables e below (Tj3.setTop (mkF m 30 #[.val (.ref ab), .val (.int (Int32.ofNat at_)), .val (.int (Int32.ofNat nb)), .val (.int (Int32.ofNat fr)), .val (.int (Int32.ofNat cnt)), .val (.ref ai), .val (.int (Int32.ofNat ia)), .val (.long (own_mask nb)), .second, .val (.long g), .second, .val (.int (Int32.ofNat h)), .val (.int (Int32.ofNat y)), .val (.int (Int32.ofNat i))] [(.int (Int32.ofNat i))])) _
        refine XS.iload Xj3.here hx rfl (hb hby d3_30) rfl ?_
        exact kz
      refine OG.step s4 ?_
      by_cases hc32 : (Int32.ofNat i) < (Int32.ofNat cnt)
      · have s5 : ∀ tz, Steps p.tables e below (Tj3.setTop (mkF m 35 #[.val (.ref ab), .val (.int (Int32.ofNat at_)), .val (.int (Int32.ofNat nb)), .val (.int (Int32.ofNat fr)), .val (.int (Int32.ofNat cnt)), .val (.ref ai), .val (.int (Int32.ofNat ia)), .val (.long (own_mask nb)), .second, .val (.long g), .second, .val (.int (Int32.ofNat h)), .val (.int (Int32.ofNat y)), .val (.int (Int32.ofNat i))] [])) tz → Steps p.tables e below (Tj3.setTop (mkF m 32 #[.val (.ref ab), .val (.int (Int32.ofNat at_)), .val (.int (Int32.ofNat nb)), .val (.int (Int32.ofNat fr)), .val (.int (Int32.ofNat cnt)), .val (.ref ai), .val (.int (Int32.ofNat ia)), .val (.long (own_mask nb)), .second, .val (.long g), .second, .val (.int (Int32.ofNat h)), .val (.int (Int32.ofNat y)), .val (.int (Int32.ofNat i))] [(.int (Int32.ofNat cnt)), (.int (Int32.ofNat i))])) tz := by
          intro tz kz
          refine XS.icmpNo Xj3.here hx rfl (hb hby d3_32) rfl (tlt hc32).2.1 ?_
          exact kz
        refine OG.step s5 ?_
        have J6 : ∀ (fu : Nat) (g2 : Int64) (h2 : Nat) (y2 : Nat) (Hj6 : Heap) (Tj6 : State) (Lj6 : List Loc), Stand p l e rom_3 s m #[(.ref ab), (.int (Int32.ofNat at_)), (.int (Int32.ofNat nb)), (.int (Int32.ofNat fr)), (.int (Int32.ofNat cnt)), (.ref ai), (.int (Int32.ofNat ia))] below meth c Tj6 Lj6 0 0 → Tj6.heap = Hj6 → Fr n0 Lj6 → (Keep h0 Hj6 [ai]) → (Arv Z Hj6 ab kb .byte (64 : Int32) (own_bs f) (.int (0 : Int32))) → (Arv Z Hj6 ai ki .int (8 : Int32) (own_is (own_fill t ia R i)) (.int (0 : Int32))) → (nb + 8 - h2 = fu) → (own_has B g2 ((8 * at_ + fr * nb) + i * nb) h2) → (8 * y2 = (8 * at_ + fr * nb) + i * nb + h2) → (h2 < nb + 8) → OG p e below s (Q3 Z ab ai at_ nb fr cnt ia kb ki f t B R h0 n0) rom_3.cells rom_3.slots (Tj6.setTop (mkF m 35 #[.val (.ref ab), .val (.int (Int32.ofNat at_)), .val (.int (Int32.ofNat nb)), .val (.int (Int32.ofNat fr)), .val (.int (Int32.ofNat cnt)), .val (.ref ai), .val (.int (Int32.ofNat ia)), .val (.long (own_mask nb)), .second, .val (.long g2), .second, .val (.int (Int32.ofNat h2)), .val (.int (Int32.ofNat y2)), .val (.int (Int32.ofNat i))] [])) := by
          intro fu
          induction fu using Nat.strongRecOn with
          | _ fu ih6 =>
            intro g2 h2 y2 Hj6 Tj6 Lj6 Xj6 ej6 Nj6 Kj6 fj6_0 fj6_1 hfu2 hg2 hy2 hh2
            have s7 : ∀ tz, Steps p.tables e below (Tj6.setTop (mkF m 38 #[.val (.ref ab), .val (.int (Int32.ofNat at_)), .val (.int (Int32.ofNat nb)), .val (.int (Int32.ofNat fr)), .val (.int (Int32.ofNat cnt)), .val (.ref ai), .val (.int (Int32.ofNat ia)), .val (.long (own_mask nb)), .second, .val (.long g2), .second, .val (.int (Int32.ofNat h2)), .val (.int (Int32.ofNat y2)), .val (.int (Int32.ofNat i))] [(.int (Int32.ofNat nb)), (.int (Int32.ofNat h2))])) tz → Steps p.tables e below (Tj6.setTop (mkF m 35 #[.val (.ref ab), .val (.int (Int32.ofNat at_)), .val (.int (Int32.ofNat nb)), .val (.int (Int32.ofNat fr)), .val (.int (Int32.ofNat cnt)), .val (.ref ai), .val (.int (Int32.ofNat ia)), .val (.long (own_mask nb)), .second, .val (.long g2), .second, .val (.int (Int32.ofNat h2)), .val (.int (Int32.ofNat y2)), .val (.int (Int32.ofNat i))] [])) tz := by
              intro tz kz
              refine XS.iload Xj6.here hx rfl (hb hby d3_35) rfl ?_
              show Steps p.tables e below (Tj6.setTop (mkF m 37 #[.val (.ref ab), .val (.int (Int32.ofNat at_)), .val (.int (Int32.ofNat nb)), .val (.int (Int32.ofNat fr)), .val (.int (Int32.ofNat cnt)), .val (.ref ai), .val (.int (Int32.ofNat ia)), .val (.long (own_mask nb)), .second, .val (.long g2), .second, .val (.int (Int32.ofNat h2)), .val (.int (Int32.ofNat y2)), .val (.int (Int32.ofNat i))] [(.int (Int32.ofNat h2))])) _
              refine XS.iloadN Xj6.here hx rfl (hb hby d3_37) rfl ?_
              exact kz
            refine OG.step s7 ?_
            by_cases hc38 : (Int32.ofNat h2) < (Int32.ofNat nb)
            · have s8 : ∀ tz, Steps p.tables e below (Tj6.setTop (mkF m 49 #[.val (.ref ab), .val (.int (Int32.ofNat at_)), .val (.int (Int32.ofNat nb)), .val (.int (Int32.ofNat fr)), .val (.int (Int32.ofNat cnt)), .val (.ref ai), .val (.int (Int32.ofNat ia)), .val (.long (own_mask nb)), .second, .val (.long g2), .second, .val (.int (Int32.ofNat h2)), .val (.int ((Int32.ofNat y2) + (1 : Int32))), .val (.int (Int32.ofNat i))] [(.int (Int32.ofNat y2)), (.ref ab), (.long g2)])) tz → Steps p.tables e below (Tj6.setTop (mkF m 38 #[.val (.ref ab), .val (.int (Int32.ofNat at_)), .val (.int (Int32.ofNat nb)), .val (.int (Int32.ofNat fr)), .val (.int (Int32.ofNat cnt)), .val (.ref ai), .val (.int (Int32.ofNat ia)), .val (.long (own_mask nb)), .second, .val (.long g2), .second, .val (.int (Int32.ofNat h2)), .val (.int (Int32.ofNat y2)), .val (.int (Int32.ofNat i))] [(.int (Int32.ofNat nb)), (.int (Int32.ofNat h2))])) tz := by
                intro tz kz
                refine XS.icmpNo Xj6.here hx rfl (hb hby d3_38) rfl (tlt hc38).2.1 ?_
                show Steps p.tables e below (Tj6.setTop (mkF m 41 #[.val (.ref ab), .val (.int (Int32.ofNat at_)), .val (.int (Int32.ofNat nb)), .val (.int (Int32.ofNat fr)), .val (.int (Int32.ofNat cnt)), .val (.ref ai), .val (.int (Int32.ofNat ia)), .val (.long (own_mask nb)), .second, .val (.long g2), .second, .val (.int (Int32.ofNat h2)), .val (.int (Int32.ofNat y2)), .val (.int (Int32.ofNat i))] [])) _
                refine XS.lload Xj6.here hx rfl (hb hby d3_41) rfl ?_
                show Steps p.tables e below (Tj6.setTop (mkF m 43 #[.val (.ref ab), .val (.int (Int32.ofNat at_)), .val (.int (Int32.ofNat nb)), .val (.int (Int32.ofNat fr)), .val (.int (Int32.ofNat cnt)), .val (.ref ai), .val (.int (Int32.ofNat ia)), .val (.long (own_mask nb)), .second, .val (.long g2), .second, .val (.int (Int32.ofNat h2)), .val (.int (Int32.ofNat y2)), .val (.int (Int32.ofNat i))] [(.long g2)])) _
                refine XS.aloadN Xj6.here hx rfl (hb hby d3_43) rfl rfl ?_
                show Steps p.tables e below (Tj6.setTop (mkF m 44 #[.val (.ref ab), .val (.int (Int32.ofNat at_)), .val (.int (Int32.ofNat nb)), .val (.int (Int32.ofNat fr)), .val (.int (Int32.ofNat cnt)), .val (.ref ai), .val (.int (Int32.ofNat ia)), .val (.long (own_mask nb)), .second, .val (.long g2), .second, .val (.int (Int32.ofNat h2)), .val (.int (Int32.ofNat y2)), .val (.int (Int32.ofNat i))] [(.ref ab), (.long g2)])) _
                refine XS.iload Xj6.here hx rfl (hb hby d3_44) rfl ?_
                show Steps p.tables e below (Tj6.setTop (mkF m 46 #[.val (.ref ab), .val (.int (Int32.ofNat at_)), .val (.int (Int32.ofNat nb)), .val (.int (Int32.ofNat fr)), .val (.int (Int32.ofNat cnt)), .val (.ref ai), .val (.int (Int32.ofNat ia)), .val (.long (own_mask nb)), .second, .val (.long g2), .second, .val (.int (Int32.ofNat h2)), .val (.int (Int32.ofNat y2)), .val (.int (Int32.ofNat i))] [(.int (Int32.ofNat y2)), (.ref ab), (.long g2)])) _
                refine XS.iinc Xj6.here hx rfl (hb hby d3_46) rfl (l' := #[.val (.ref ab), .val (.int (Int32.ofNat at_)), .val (.int (Int32.ofNat nb)), .val (.int (Int32.ofNat fr)), .val (.int (Int32.ofNat cnt)), .val (.ref ai), .val (.int (Int32.ofNat ia)), .val (.long (own_mask nb)), .second, .val (.long g2), .second, .val (.int (Int32.ofNat h2)), .val (.int ((Int32.ofNat y2) + (1 : Int32))), .val (.int (Int32.ofNat i))]) rfl ?_
                exact kz
              refine OG.step s8 ?_
              rw [own_inc]
              show OG _ _ _ _ _ _ _ (Tj6.setTop (mkF m 49 #[.val (.ref ab), .val (.int (Int32.ofNat at_)), .val (.int (Int32.ofNat nb)), .val (.int (Int32.ofNat fr)), .val (.int (Int32.ofNat cnt)), .val (.ref ai), .val (.int (Int32.ofNat ia)), .val (.long (own_mask nb)), .second, .val (.long g2), .second, .val (.int (Int32.ofNat h2)), .val (.int (Int32.ofNat (y2 + 1))), .val (.int (Int32.ofNat i))] [(.int (Int32.ofNat y2)), (.ref ab), (.long g2)]))
              have av9 := fj6_0
              obtain ⟨cl9, Ar9, qa_9, Sa_9, Nn_9, Ha_9, Ga_9⟩ := av9
              have hin9 : ¬ ((Int32.ofNat y2) < 0 ∨ cl9.slots.size ≤ ((Int32.ofNat y2)).toNatClampNeg) := inb_of Sa_9 ⟨(own_b64 (own_y64 hat hnb hfr hi hcnt hc32 hc38 hy2 hh2)).1, (own_b64 (own_y64 hat hnb hfr hi hcnt hc32 hc38 hy2 hh2)).2.1⟩
              have hat9 : cl9.slots[((Int32.ofNat y2)).toNatClampNeg]? = some (.int (f y2)) := Ha_9.at hin9 (own_bget f (own_y64 hat hnb hfr hi hcnt hc32 hc38 hy2 hh2))
              refine OG.step (Xj6.baloadBytes hx (j := (Int32.ofNat y2)) (v := (.int (f y2))) (by rw [ej6]; exact Ar9.1) (State.isArrayOf_alike hZ.alike Ar9.2.1) Ar9.2.2 hin9 hat9 (g := (mkF m 49 #[.val (.ref ab), .val (.int (Int32.ofNat at_)), .val (.int (Int32.ofNat nb)), .val (.int (Int32.ofNat fr)), .val (.int (Int32.ofNat cnt)), .val (.ref ai), .val (.int (Int32.ofNat ia)), .val (.long (own_mask nb)), .second, .val (.long g2), .second, .val (.int (Int32.ofNat h2)), .val (.int (Int32.ofNat (y2 + 1))), .val (.int (Int32.ofNat i))] [(.int (Int32.ofNat y2)), (.ref ab), (.long g2)])) rfl rfl (hb hby d3_49)) ?_
              show OG _ _ _ _ _ _ _ (Tj6.setTop (mkF m 50 #[.val (.ref ab), .val (.int (Int32.ofNat at_)), .val (.int (Int32.ofNat nb)), .val (.int (Int32.ofNat fr)), .val (.int (Int32.ofNat cnt)), .val (.ref ai), .val (.int (Int32.ofNat ia)), .val (.long (own_mask nb)), .second, .val (.long g2), .second, .val (.int (Int32.ofNat h2)), .val (.int (Int32.ofNat (y2 + 1))), .val (.int (Int32.ofNat i))] [(.int (f y2)), (.long g2)]))
              have s10 : ∀ tz, Steps p.tables e below (Tj6.setTop (mkF m 64 #[.val (.ref ab), .val (.int (Int32.ofNat at_)), .val (.int (Int32.ofNat nb)), .val (.int (Int32.ofNat fr)), .val (.int (Int32.ofNat cnt)), .val (.ref ai), .val (.int (Int32.ofNat ia)), .val (.long (own_mask nb)), .second, .val (.long (g2 ||| ((((f y2).toInt64) &&& (255 : Int64)) <<< ((Int32.ofNat h2) &&& 0x3f).toInt64))), .second, .val (.int ((Int32.ofNat h2) + (8 : Int32))), .val (.int (Int32.ofNat (y2 + 1))), .val (.int (Int32.ofNat i))] [])) tz → Steps p.tables e below (Tj6.setTop (mkF m 50 #[.val (.ref ab), .val (.int (Int32.ofNat at_)), .val (.int (Int32.ofNat nb)), .val (.int (Int32.ofNat fr)), .val (.int (Int32.ofNat cnt)), .val (.ref ai), .val (.int (Int32.ofNat ia)), .val (.long (own_mask nb)), .second, .val (.long g2), .second, .val (.int (Int32.ofNat h2)), .val (.int (Int32.ofNat (y2 + 1))), .val (.int (Int32.ofNat i))] [(.int (f y2)), (.long g2)])) tz := by
                intro tz kz
                refine XS.i2l Xj6.here hx rfl (hb hby d3_50) rfl ?_
                show Steps p.tables e below (Tj6.setTop (mkF m 51 #[.val (.ref ab), .val (.int (Int32.ofNat at_)), .val (.int (Int32.ofNat nb)), .val (.int (Int32.ofNat fr)), .val (.int (Int32.ofNat cnt)), .val (.ref ai), .val (.int (Int32.ofNat ia)), .val (.long (own_mask nb)), .second, .val (.long g2), .second, .val (.int (Int32.ofNat h2)), .val (.int (Int32.ofNat (y2 + 1))), .val (.int (Int32.ofNat i))] [(.long ((f y2).toInt64)), (.long g2)])) _
                refine Xj6.ldc2Long hx hown (mvT hZ (hw _ (List.mem_of_getElem? (i := 18) rfl))) (g := (mkF m 51 #[.val (.ref ab), .val (.int (Int32.ofNat at_)), .val (.int (Int32.ofNat nb)), .val (.int (Int32.ofNat fr)), .val (.int (Int32.ofNat cnt)), .val (.ref ai), .val (.int (Int32.ofNat ia)), .val (.long (own_mask nb)), .second, .val (.long g2), .second, .val (.int (Int32.ofNat h2)), .val (.int (Int32.ofNat (y2 + 1))), .val (.int (Int32.ofNat i))] [(.long ((f y2).toInt64)), (.long g2)])) rfl (hb hby d3_51) _ ?_
                show Steps p.tables e below (Tj6.setTop (mkF m 54 #[.val (.ref ab), .val (.int (Int32.ofNat at_)), .val (.int (Int32.ofNat nb)), .val (.int (Int32.ofNat fr)), .val (.int (Int32.ofNat cnt)), .val (.ref ai), .val (.int (Int32.ofNat ia)), .val (.long (own_mask nb)), .second, .val (.long g2), .second, .val (.int (Int32.ofNat h2)), .val (.int (Int32.ofNat (y2 + 1))), .val (.int (Int32.ofNat i))] [(.long (255 : Int64)), (.long ((f y2).toInt64)), (.long g2)])) _
                refine XS.land Xj6.here hx rfl (hb hby d3_54) rfl ?_
                show Steps p.tables e below (Tj6.setTop (mkF m 55 #[.val (.ref ab), .val (.int (Int32.ofNat at_)), .val (.int (Int32.ofNat nb)), .val (.int (Int32.ofNat fr)), .val (.int (Int32.ofNat cnt)), .val (.ref ai), .val (.int (Int32.ofNat ia)), .val (.long (own_mask nb)), .second, .val (.long g2), .second, .val (.int (Int32.ofNat h2)), .val (.int (Int32.ofNat (y2 + 1))), .val (.int (Int32.ofNat i))] [(.long (((f y2).toInt64) &&& (255 : Int64))), (.long g2)])) _
                refine XS.iload Xj6.here hx rfl (hb hby d3_55) rfl ?_
                show Steps p.tables e below (Tj6.setTop (mkF m 57 #[.val (.ref ab), .val (.int (Int32.ofNat at_)), .val (.int (Int32.ofNat nb)), .val (.int (Int32.ofNat fr)), .val (.int (Int32.ofNat cnt)), .val (.ref ai), .val (.int (Int32.ofNat ia)), .val (.long (own_mask nb)), .second, .val (.long g2), .second, .val (.int (Int32.ofNat h2)), .val (.int (Int32.ofNat (y2 + 1))), .val (.int (Int32.ofNat i))] [(.int (Int32.ofNat h2)), (.long (((f y2).toInt64) &&& (255 : Int64))), (.long g2)])) _
                refine XS.lshl Xj6.here hx rfl (hb hby d3_57) rfl ?_
                show Steps p.tables e below (Tj6.setTop (mkF m 58 #[.val (.ref ab), .val (.int (Int32.ofNat at_)), .val (.int (Int32.ofNat nb)), .val (.int (Int32.ofNat fr)), .val (.int (Int32.ofNat cnt)), .val (.ref ai), .val (.int (Int32.ofNat ia)), .val (.long (own_mask nb)), .second, .val (.long g2), .second, .val (.int (Int32.ofNat h2)), .val (.int (Int32.ofNat (y2 + 1))), .val (.int (Int32.ofNat i))] [(.long ((((f y2).toInt64) &&& (255 : Int64)) <<< ((Int32.ofNat h2) &&& 0x3f).toInt64)), (.long g2)])) _
                refine XS.lor Xj6.here hx rfl (hb hby d3_58) rfl ?_
                show Steps p.tables e below (Tj6.setTop (mkF m 59 #[.val (.ref ab), .val (.int (Int32.ofNat at_)), .val (.int (Int32.ofNat nb)), .val (.int (Int32.ofNat fr)), .val (.int (Int32.ofNat cnt)), .val (.ref ai), .val (.int (Int32.ofNat ia)), .val (.long (own_mask nb)), .second, .val (.long g2), .second, .val (.int (Int32.ofNat h2)), .val (.int (Int32.ofNat (y2 + 1))), .val (.int (Int32.ofNat i))] [(.long (g2 ||| ((((f y2).toInt64) &&& (255 : Int64)) <<< ((Int32.ofNat h2) &&& 0x3f).toInt64)))])) _
                refine XS.lstore Xj6.here hx rfl (hb hby d3_59) rfl (l' := #[.val (.ref ab), .val (.int (Int32.ofNat at_)), .val (.int (Int32.ofNat nb)), .val (.int (Int32.ofNat fr)), .val (.int (Int32.ofNat cnt)), .val (.ref ai), .val (.int (Int32.ofNat ia)), .val (.long (own_mask nb)), .second, .val (.long (g2 ||| ((((f y2).toInt64) &&& (255 : Int64)) <<< ((Int32.ofNat h2) &&& 0x3f).toInt64))), .second, .val (.int (Int32.ofNat h2)), .val (.int (Int32.ofNat (y2 + 1))), .val (.int (Int32.ofNat i))]) rfl ?_
                show Steps p.tables e below (Tj6.setTop (mkF m 61 #[.val (.ref ab), .val (.int (Int32.ofNat at_)), .val (.int (Int32.ofNat nb)), .val (.int (Int32.ofNat fr)), .val (.int (Int32.ofNat cnt)), .val (.ref ai), .val (.int (Int32.ofNat ia)), .val (.long (own_mask nb)), .second, .val (.long (g2 ||| ((((f y2).toInt64) &&& (255 : Int64)) <<< ((Int32.ofNat h2) &&& 0x3f).toInt64))), .second, .val (.int (Int32.ofNat h2)), .val (.int (Int32.ofNat (y2 + 1))), .val (.int (Int32.ofNat i))] [])) _
                refine XS.iinc Xj6.here hx rfl (hb hby d3_61) rfl (l' := #[.val (.ref ab), .val (.int (Int32.ofNat at_)), .val (.int (Int32.ofNat nb)), .val (.int (Int32.ofNat fr)), .val (.int (Int32.ofNat cnt)), .val (.ref ai), .val (.int (Int32.ofNat ia)), .val (.long (own_mask nb)), .second, .val (.long (g2 ||| ((((f y2).toInt64) &&& (255 : Int64)) <<< ((Int32.ofNat h2) &&& 0x3f).toInt64))), .second, .val (.int ((Int32.ofNat h2) + (8 : Int32))), .val (.int (Int32.ofNat (y2 + 1))), .val (.int (Int32.ofNat i))]) rfl ?_
                exact kz
              refine OG.step s10 ?_
              rw [own_inc8]
              show OG _ _ _ _ _ _ _ (Tj6.setTop (mkF m 64 #[.val (.ref ab), .val (.int (Int32.ofNat at_)), .val (.int (Int32.ofNat nb)), .val (.int (Int32.ofNat fr)), .val (.int (Int32.ofNat cnt)), .val (.ref ai), .val (.int (Int32.ofNat ia)), .val (.long (own_mask nb)), .second, .val (.long (g2 ||| ((((f y2).toInt64) &&& (255 : Int64)) <<< ((Int32.ofNat h2) &&& 0x3f).toInt64))), .second, .val (.int (Int32.ofNat (h2 + 8))), .val (.int (Int32.ofNat (y2 + 1))), .val (.int (Int32.ofNat i))] []))
              have s11 : ∀ tz, Steps p.tables e below (Tj6.setTop (mkF m 35 #[.val (.ref ab), .val (.int (Int32.ofNat at_)), .val (.int (Int32.ofNat nb)), .val (.int (Int32.ofNat fr)), .val (.int (Int32.ofNat cnt)), .val (.ref ai), .val (.int (Int32.ofNat ia)), .val (.long (own_mask nb)), .second, .val (.long (g2 ||| ((((f y2).toInt64) &&& (255 : Int64)) <<< ((Int32.ofNat h2) &&& 0x3f).toInt64))), .second, .val (.int (Int32.ofNat (h2 + 8))), .val (.int (Int32.ofNat (y2 + 1))), .val (.int (Int32.ofNat i))] [])) tz → Steps p.tables e below (Tj6.setTop (mkF m 64 #[.val (.ref ab), .val (.int (Int32.ofNat at_)), .val (.int (Int32.ofNat nb)), .val (.int (Int32.ofNat fr)), .val (.int (Int32.ofNat cnt)), .val (.ref ai), .val (.int (Int32.ofNat ia)), .val (.long (own_mask nb)), .second, .val (.long (g2 ||| ((((f y2).toInt64) &&& (255 : Int64)) <<< ((Int32.ofNat h2) &&& 0x3f).toInt64))), .second, .val (.int (Int32.ofNat (h2 + 8))), .val (.int (Int32.ofNat (y2 + 1))), .val (.int (Int32.ofNat i))] [])) tz := by
                intro tz kz
                refine XS.goto Xj6.here hx rfl (pc0 := 64) (pc' := 35) rfl (hb hby d3_64) (by decide) (by decide) ?_
                exact kz
              refine OG.step s11 ?_
              exact ih6 _ (own_dec2 hnb hfu2 hc38 hh2) (g2 ||| ((((f y2).toInt64) &&& (255 : Int64)) <<< ((Int32.ofNat h2) &&& 0x3f).toInt64)) (h2 + 8) (y2 + 1) _ _ _ Xj6 ej6 Nj6 Kj6 fj6_0 fj6_1 rfl (own_horb hnb hB (own_y64 hat hnb hfr hi hcnt hc32 hc38 hy2 hh2) hc38 hg2 hy2 hh2) (own_y8 hy2) (own_h8 hnb hc38 hh2)
            · have s12 : ∀ tz, Steps p.tables e below (Tj6.setTop (mkF m 82 #[.val (.ref ab), .val (.int (Int32.ofNat at_)), .val (.int (Int32.ofNat nb)), .val (.int (Int32.ofNat fr)), .val (.int (Int32.ofNat cnt)), .val (.ref ai), .val (.int (Int32.ofNat ia)), .val (.long (own_mask nb)), .second, .val (.long g2), .second, .val (.int (Int32.ofNat h2)), .val (.int (Int32.ofNat y2)), .val (.int (Int32.ofNat i))] [(.int (((g2 &&& (own_mask nb)).toInt32) + (1 : Int32))), (.int ((Int32.ofNat ia) + (Int32.ofNat i))), (.ref ai)])) tz → Steps p.tables e below (Tj6.setTop (mkF m 38 #[.val (.ref ab), .val (.int (Int32.ofNat at_)), .val (.int (Int32.ofNat nb)), .val (.int (Int32.ofNat fr)), .val (.int (Int32.ofNat cnt)), .val (.ref ai), .val (.int (Int32.ofNat ia)), .val (.long (own_mask nb)), .second, .val (.long g2), .second, .val (.int (Int32.ofNat h2)), .val (.int (Int32.ofNat y2)), .val (.int (Int32.ofNat i))] [(.int (Int32.ofNat nb)), (.int (Int32.ofNat h2))])) tz := by
                intro tz kz
                refine XS.icmpYes Xj6.here hx rfl (pc0 := 38) (pc' := 67) rfl (hb hby d3_38) rfl (flt hc38).2.1 (by decide) (by decide) ?_
                show Steps p.tables e below (Tj6.setTop (mkF m 67 #[.val (.ref ab), .val (.int (Int32.ofNat at_)), .val (.int (Int32.ofNat nb)), .val (.int (Int32.ofNat fr)), .val (.int (Int32.ofNat cnt)), .val (.ref ai), .val (.int (Int32.ofNat ia)), .val (.long (own_mask nb)), .second, .val (.long g2), .second, .val (.int (Int32.ofNat h2)), .val (.int (Int32.ofNat y2)), .val (.int (Int32.ofNat i))] [])) _
                refine XS.aload Xj6.here hx rfl (hb hby d3_67) rfl rfl ?_
                show Steps p.tables e below (Tj6.setTop (mkF m 69 #[.val (.ref ab), .val (.int (Int32.ofNat at_)), .val (.int (Int32.ofNat nb)), .val (.int (Int32.ofNat fr)), .val (.int (Int32.ofNat cnt)), .val (.ref ai), .val (.int (Int32.ofNat ia)), .val (.long (own_mask nb)), .second, .val (.long g2), .second, .val (.int (Int32.ofNat h2)), .val (.int (Int32.ofNat y2)), .val (.int (Int32.ofNat i))] [(.ref ai)])) _
                refine XS.iload Xj6.here hx rfl (hb hby d3_69) rfl ?_
                show Steps p.tables e below (Tj6.setTop (mkF m 71 #[.val (.ref ab), .val (.int (Int32.ofNat at_)), .val (.int (Int32.ofNat nb)), .val (.int (Int32.ofNat fr)), .val (.int (Int32.ofNat cnt)), .val (.ref ai), .val (.int (Int32.ofNat ia)), .val (.long (own_mask nb)), .second, .val (.long g2), .second, .val (.int (Int32.ofNat h2)), .val (.int (Int32.ofNat y2)), .val (.int (Int32.ofNat i))] [(.int (Int32.ofNat ia)), (.ref ai)])) _
                refine XS.iload Xj6.here hx rfl (hb hby d3_71) rfl ?_
                show Steps p.tables e below (Tj6.setTop (mkF m 73 #[.val (.ref ab), .val (.int (Int32.ofNat at_)), .val (.int (Int32.ofNat nb)), .val (.int (Int32.ofNat fr)), .val (.int (Int32.ofNat cnt)), .val (.ref ai), .val (.int (Int32.ofNat ia)), .val (.long (own_mask nb)), .second, .val (.long g2), .second, .val (.int (Int32.ofNat h2)), .val (.int (Int32.ofNat y2)), .val (.int (Int32.ofNat i))] [(.int (Int32.ofNat i)), (.int (Int32.ofNat ia)), (.ref ai)])) _
                refine XS.iadd Xj6.here hx rfl (hb hby d3_73) rfl ?_
                show Steps p.tables e below (Tj6.setTop (mkF m 74 #[.val (.ref ab), .val (.int (Int32.ofNat at_)), .val (.int (Int32.ofNat nb)), .val (.int (Int32.ofNat fr)), .val (.int (Int32.ofNat cnt)), .val (.ref ai), .val (.int (Int32.ofNat ia)), .val (.long (own_mask nb)), .second, .val (.long g2), .second, .val (.int (Int32.ofNat h2)), .val (.int (Int32.ofNat y2)), .val (.int (Int32.ofNat i))] [(.int ((Int32.ofNat ia) + (Int32.ofNat i))), (.ref ai)])) _
                refine XS.lload Xj6.here hx rfl (hb hby d3_74) rfl ?_
                show Steps p.tables e below (Tj6.setTop (mkF m 76 #[.val (.ref ab), .val (.int (Int32.ofNat at_)), .val (.int (Int32.ofNat nb)), .val (.int (Int32.ofNat fr)), .val (.int (Int32.ofNat cnt)), .val (.ref ai), .val (.int (Int32.ofNat ia)), .val (.long (own_mask nb)), .second, .val (.long g2), .second, .val (.int (Int32.ofNat h2)), .val (.int (Int32.ofNat y2)), .val (.int (Int32.ofNat i))] [(.long g2), (.int ((Int32.ofNat ia) + (Int32.ofNat i))), (.ref ai)])) _
                refine XS.lload Xj6.here hx rfl (hb hby d3_76) rfl ?_
                show Steps p.tables e below (Tj6.setTop (mkF m 78 #[.val (.ref ab), .val (.int (Int32.ofNat at_)), .val (.int (Int32.ofNat nb)), .val (.int (Int32.ofNat fr)), .val (.int (Int32.ofNat cnt)), .val (.ref ai), .val (.int (Int32.ofNat ia)), .val (.long (own_mask nb)), .second, .val (.long g2), .second, .val (.int (Int32.ofNat h2)), .val (.int (Int32.ofNat y2)), .val (.int (Int32.ofNat i))] [(.long (own_mask nb)), (.long g2), (.int ((Int32.ofNat ia) + (Int32.ofNat i))), (.ref ai)])) _
                refine XS.land Xj6.here hx rfl (hb hby d3_78) rfl ?_
                show Steps p.tables e below (Tj6.setTop (mkF m 79 #[.val (.ref ab), .val (.int (Int32.ofNat at_)), .val (.int (Int32.ofNat nb)), .val (.int (Int32.ofNat fr)), .val (.int (Int32.ofNat cnt)), .val (.ref ai), .val (.int (Int32.ofNat ia)), .val (.long (own_mask nb)), .second, .val (.long g2), .second, .val (.int (Int32.ofNat h2)), .val (.int (Int32.ofNat y2)), .val (.int (Int32.ofNat i))] [(.long (g2 &&& (own_mask nb))), (.int ((Int32.ofNat ia) + (Int32.ofNat i))), (.ref ai)])) _
                refine XS.l2i Xj6.here hx rfl (hb hby d3_79) rfl ?_
                show Steps p.tables e below (Tj6.setTop (mkF m 80 #[.val (.ref ab), .val (.int (Int32.ofNat at_)), .val (.int (Int32.ofNat nb)), .val (.int (Int32.ofNat fr)), .val (.int (Int32.ofNat cnt)), .val (.ref ai), .val (.int (Int32.ofNat ia)), .val (.long (own_mask nb)), .second, .val (.long g2), .second, .val (.int (Int32.ofNat h2)), .val (.int (Int32.ofNat y2)), .val (.int (Int32.ofNat i))] [(.int ((g2 &&& (own_mask nb)).toInt32)), (.int ((Int32.ofNat ia) + (Int32.ofNat i))), (.ref ai)])) _
                refine XS.iconst Xj6.here hx rfl (hb hby d3_80) ?_
                show Steps p.tables e below (Tj6.setTop (mkF m 81 #[.val (.ref ab), .val (.int (Int32.ofNat at_)), .val (.int (Int32.ofNat nb)), .val (.int (Int32.ofNat fr)), .val (.int (Int32.ofNat cnt)), .val (.ref ai), .val (.int (Int32.ofNat ia)), .val (.long (own_mask nb)), .second, .val (.long g2), .second, .val (.int (Int32.ofNat h2)), .val (.int (Int32.ofNat y2)), .val (.int (Int32.ofNat i))] [(.int (1 : Int32)), (.int ((g2 &&& (own_mask nb)).toInt32)), (.int ((Int32.ofNat ia) + (Int32.ofNat i))), (.ref ai)])) _
                refine XS.iadd Xj6.here hx rfl (hb hby d3_81) rfl ?_
                exact kz
              refine OG.step s12 ?_
              rw [own_gm hnb hc38 hg2 hh2 (hR i (own_ilt hi hcnt hc32))]
              show OG _ _ _ _ _ _ _ (Tj6.setTop (mkF m 82 #[.val (.ref ab), .val (.int (Int32.ofNat at_)), .val (.int (Int32.ofNat nb)), .val (.int (Int32.ofNat fr)), .val (.int (Int32.ofNat cnt)), .val (.ref ai), .val (.int (Int32.ofNat ia)), .val (.long (own_mask nb)), .second, .val (.long g2), .second, .val (.int (Int32.ofNat h2)), .val (.int (Int32.ofNat y2)), .val (.int (Int32.ofNat i))] [(.int (((R i).toInt32) + (1 : Int32))), (.int ((Int32.ofNat ia) + (Int32.ofNat i))), (.ref ai)]))
              have av13 := fj6_1
              obtain ⟨cl13, Ar13, qa_13, Sa_13, Nn_13, Ha_13, Ga_13⟩ := av13
              have hin13 : ¬ (((Int32.ofNat ia) + (Int32.ofNat i)) < 0 ∨ cl13.slots.size ≤ (((Int32.ofNat ia) + (Int32.ofNat i))).toNatClampNeg) := inb_of Sa_13 ⟨(own_ia8 (t := t) (R := R) hia hi hcnt hc32).1, (own_ia8 (t := t) (R := R) hia hi hcnt hc32).2.1⟩
              obtain ⟨T14, h14, X14, e14, W14, st14⟩ := stI Xj6 hx hZ ej6 Ar13 (j := ((Int32.ofNat ia) + (Int32.ofNat i))) hin13 (g := (mkF m 82 #[.val (.ref ab), .val (.int (Int32.ofNat at_)), .val (.int (Int32.ofNat nb)), .val (.int (Int32.ofNat fr)), .val (.int (Int32.ofNat cnt)), .val (.ref ai), .val (.int (Int32.ofNat ia)), .val (.long (own_mask nb)), .second, .val (.long g2), .second, .val (.int (Int32.ofNat h2)), .val (.int (Int32.ofNat y2)), .val (.int (Int32.ofNat i))] [(.int (((R i).toInt32) + (1 : Int32))), (.int ((Int32.ofNat ia) + (Int32.ofNat i))), (.ref ai)])) rfl rfl (hb hby d3_82)
              refine OG.step st14 ?_
              have Va14 := Arv.set Ar13 qa_13 Sa_13 Nn_13 Ha_13 Ga_13 rfl W14 ((ia + i)) (own_ia8 (t := t) (R := R) hia hi hcnt hc32).2.2.1 (own_ia8 (t := t) (R := R) hia hi hcnt hc32).2.2.2
              have Va14 : Arv Z h14 ai ki .int (8 : Int32) ((own_is (own_fill t ia R i)).set (ia + i) (.int (((R i).toInt32) + (1 : Int32)))) (.int (0 : Int32)) := Va14
              have V14 : Arv Z h14 ai ki .int (8 : Int32) (own_is (own_fill t ia R (i + 1))) (.int (0 : Int32)) := by rw [own_iset (own_ia8 (t := t) (R := R) hia hi hcnt hc32)] at Va14; exact Va14
              have f15 := fj6_0.other W14 ne_ab_ai
              have K14 := Kj6.wr W14 (Or.inl (List.mem_of_getElem? (i := 0) rfl))
              have N14 := Fr.snoc X14 Nj6 g_ai
              obtain ⟨Lz16, X14, N14⟩ : ∃ Lz, Stand p l e rom_3 s m #[(.ref ab), (.int (Int32.ofNat at_)), (.int (Int32.ofNat nb)), (.int (Int32.ofNat fr)), (.int (Int32.ofNat cnt)), (.ref ai), (.int (Int32.ofNat ia))] below meth c T14 Lz 0 0 ∧ Fr n0 Lz := ⟨_, X14, N14⟩
              show OG _ _ _ _ _ _ _ (T14.setTop (mkF m 83 #[.val (.ref ab), .val (.int (Int32.ofNat at_)), .val (.int (Int32.ofNat nb)), .val (.int (Int32.ofNat fr)), .val (.int (Int32.ofNat cnt)), .val (.ref ai), .val (.int (Int32.ofNat ia)), .val (.long (own_mask nb)), .second, .val (.long g2), .second, .val (.int (Int32.ofNat h2)), .val (.int (Int32.ofNat y2)), .val (.int (Int32.ofNat i))] []))
              have s17 : ∀ tz, Steps p.tables e below (T14.setTop (mkF m 95 #[.val (.ref ab), .val (.int (Int32.ofNat at_)), .val (.int (Int32.ofNat nb)), .val (.int (Int32.ofNat fr)), .val (.int (Int32.ofNat cnt)), .val (.ref ai), .val (.int (Int32.ofNat ia)), .val (.long (own_mask nb)), .second, .val (.long ((g2.toUInt64 >>> ((Int32.ofNat nb) &&& 0x3f).toInt64.toUInt64).toInt64)), .second, .val (.int ((Int32.ofNat h2) - (Int32.ofNat nb))), .val (.int (Int32.ofNat y2)), .val (.int (Int32.ofNat i))] [])) tz → Steps p.tables e below (T14.setTop (mkF m 83 #[.val (.ref ab), .val (.int (Int32.ofNat at_)), .val (.int (Int32.ofNat nb)), .val (.int (Int32.ofNat fr)), .val (.int (Int32.ofNat cnt)), .val (.ref ai), .val (.int (Int32.ofNat ia)), .val (.long (own_mask nb)), .second, .val (.long g2), .second, .val (.int (Int32.ofNat h2)), .val (.int (Int32.ofNat y2)), .val (.int (Int32.ofNat i))] [])) tz := by
                intro tz kz
                refine XS.lload X14.here hx rfl (hb hby d3_83) rfl ?_
                show Steps p.tables e below (T14.setTop (mkF m 85 #[.val (.ref ab), .val (.int (Int32.ofNat at_)), .val (.int (Int32.ofNat nb)), .val (.int (Int32.ofNat fr)), .val (.int (Int32.ofNat cnt)), .val (.ref ai), .val (.int (Int32.ofNat ia)), .val (.long (own_mask nb)), .second, .val (.long g2), .second, .val (.int (Int32.ofNat h2)), .val (.int (Int32.ofNat y2)), .val (.int (Int32.ofNat i))] [(.long g2)])) _
                refine XS.iloadN X14.here hx rfl (hb hby d3_85) rfl ?_
                show Steps p.tables e below (T14.setTop (mkF m 86 #[.val (.ref ab), .val (.int (Int32.ofNat at_)), .val (.int (Int32.ofNat nb)), .val (.int (Int32.ofNat fr)), .val (.int (Int32.ofNat cnt)), .val (.ref ai), .val (.int (Int32.ofNat ia)), .val (.long (own_mask nb)), .second, .val (.long g2), .second, .val (.int (Int32.ofNat h2)), .val (.int (Int32.ofNat y2)), .val (.int (Int32.ofNat i))] [(.int (Int32.ofNat nb)), (.long g2)])) _
                refine XS.lushr X14.here hx rfl (hb hby d3_86) rfl ?_
                show Steps p.tables e below (T14.setTop (mkF m 87 #[.val (.ref ab), .val (.int (Int32.ofNat at_)), .val (.int (Int32.ofNat nb)), .val (.int (Int32.ofNat fr)), .val (.int (Int32.ofNat cnt)), .val (.ref ai), .val (.int (Int32.ofNat ia)), .val (.long (own_mask nb)), .second, .val (.long g2), .second, .val (.int (Int32.ofNat h2)), .val (.int (Int32.ofNat y2)), .val (.int (Int32.ofNat i))] [(.long ((g2.toUInt64 >>> ((Int32.ofNat nb) &&& 0x3f).toInt64.toUInt64).toInt64))])) _
                refine XS.lstore X14.here hx rfl (hb hby d3_87) rfl (l' := #[.val (.ref ab), .val (.int (Int32.ofNat at_)), .val (.int (Int32.ofNat nb)), .val (.int (Int32.ofNat fr)), .val (.int (Int32.ofNat cnt)), .val (.ref ai), .val (.int (Int32.ofNat ia)), .val (.long (own_mask nb)), .second, .val (.long ((g2.toUInt64 >>> ((Int32.ofNat nb) &&& 0x3f).toInt64.toUInt64).toInt64)), .second, .val (.int (Int32.ofNat h2)), .val (.int (Int32.ofNat y2)), .val (.int (Int32.ofNat i))]) rfl ?_
                show Steps p.tables e below (T14.setTop (mkF m 89 #[.val (.ref ab), .val (.int (Int32.ofNat at_)), .val (.int (Int32.ofNat nb)), .val (.int (Int32.ofNat fr)), .val (.int (Int32.ofNat cnt)), .val (.ref ai), .val (.int (Int32.ofNat ia)), .val (.long (own_mask nb)), .second, .val (.long ((g2.toUInt64 >>> ((Int32.ofNat nb) &&& 0x3f).toInt64.toUInt64).toInt64)), .second, .val (.int (Int32.ofNat h2)), .val (.int (Int32.ofNat y2)), .val (.int (Int32.ofNat i))] [])) _
                refine XS.iload X14.here hx rfl (hb hby d3_89) rfl ?_
                show Steps p.tables e below (T14.setTop (mkF m 91 #[.val (.ref ab), .val (.int (Int32.ofNat at_)), .val (.int (Int32.ofNat nb)), .val (.int (Int32.ofNat fr)), .val (.int (Int32.ofNat cnt)), .val (.ref ai), .val (.int (Int32.ofNat ia)), .val (.long (own_mask nb)), .second, .val (.long ((g2.toUInt64 >>> ((Int32.ofNat nb) &&& 0x3f).toInt64.toUInt64).toInt64)), .second, .val (.int (Int32.ofNat h2)), .val (.int (Int32.ofNat y2)), .val (.int (Int32.ofNat i))] [(.int (Int32.ofNat h2))])) _
                refine XS.iloadN X14.here hx rfl (hb hby d3_91) rfl ?_
                show Steps p.tables e below (T14.setTop (mkF m 92 #[.val (.ref ab), .val (.int (Int32.ofNat at_)), .val (.int (Int32.ofNat nb)), .val (.int (Int32.ofNat fr)), .val (.int (Int32.ofNat cnt)), .val (.ref ai), .val (.int (Int32.ofNat ia)), .val (.long (own_mask nb)), .second, .val (.long ((g2.toUInt64 >>> ((Int32.ofNat nb) &&& 0x3f).toInt64.toUInt64).toInt64)), .second, .val (.int (Int32.ofNat h2)), .val (.int (Int32.ofNat y2)), .val (.int (Int32.ofNat i))] [(.int (Int32.ofNat nb)), (.int (Int32.ofNat h2))])) _
                refine XS.isub X14.here hx rfl (hb hby d3_92) rfl ?_
                show Steps p.tables e below (T14.setTop (mkF m 93 #[.val (.ref ab), .val (.int (Int32.ofNat at_)), .val (.int (Int32.ofNat nb)), .val (.int (Int32.ofNat fr)), .val (.int (Int32.ofNat cnt)), .val (.ref ai), .val (.int (Int32.ofNat ia)), .val (.long (own_mask nb)), .second, .val (.long ((g2.toUInt64 >>> ((Int32.ofNat nb) &&& 0x3f).toInt64.toUInt64).toInt64)), .second, .val (.int (Int32.ofNat h2)), .val (.int (Int32.ofNat y2)), .val (.int (Int32.ofNat i))] [(.int ((Int32.ofNat h2) - (Int32.ofNat nb)))])) _
                refine XS.istore X14.here hx rfl (hb hby d3_93) rfl (l' := #[.val (.ref ab), .val (.int (Int32.ofNat at_)), .val (.int (Int32.ofNat nb)), .val (.int (Int32.ofNat fr)), .val (.int (Int32.ofNat cnt)), .val (.ref ai), .val (.int (Int32.ofNat ia)), .val (.long (own_mask nb)), .second, .val (.long ((g2.toUInt64 >>> ((Int32.ofNat nb) &&& 0x3f).toInt64.toUInt64).toInt64)), .second, .val (.int ((Int32.ofNat h2) - (Int32.ofNat nb))), .val (.int (Int32.ofNat y2)), .val (.int (Int32.ofNat i))]) rfl ?_
                exact kz
              refine OG.step s17 ?_
              rw [own_hsub hnb hc38 hh2]
              show OG _ _ _ _ _ _ _ (T14.setTop (mkF m 95 #[.val (.ref ab), .val (.int (Int32.ofNat at_)), .val (.int (Int32.ofNat nb)), .val (.int (Int32.ofNat fr)), .val (.int (Int32.ofNat cnt)), .val (.ref ai), .val (.int (Int32.ofNat ia)), .val (.long (own_mask nb)), .second, .val (.long ((g2.toUInt64 >>> ((Int32.ofNat nb) &&& 0x3f).toInt64.toUInt64).toInt64)), .second, .val (.int (Int32.ofNat (h2 - nb))), .val (.int (Int32.ofNat y2)), .val (.int (Int32.ofNat i))] []))
              have s18 : ∀ tz, Steps p.tables e below (T14.setTop (mkF m 98 #[.val (.ref ab), .val (.int (Int32.ofNat at_)), .val (.int (Int32.ofNat nb)), .val (.int (Int32.ofNat fr)), .val (.int (Int32.ofNat cnt)), .val (.ref ai), .val (.int (Int32.ofNat ia)), .val (.long (own_mask nb)), .second, .val (.long ((g2.toUInt64 >>> ((Int32.ofNat nb) &&& 0x3f).toInt64.toUInt64).toInt64)), .second, .val (.int (Int32.ofNat (h2 - nb))), .val (.int (Int32.ofNat y2)), .val (.int ((Int32.ofNat i) + (1 : Int32)))] [])) tz → Steps p.tables e below (T14.setTop (mkF m 95 #[.val (.ref ab), .val (.int (Int32.ofNat at_)), .val (.int (Int32.ofNat nb)), .val (.int (Int32.ofNat fr)), .val (.int (Int32.ofNat cnt)), .val (.ref ai), .val (.int (Int32.ofNat ia)), .val (.long (own_mask nb)), .second, .val (.long ((g2.toUInt64 >>> ((Int32.ofNat nb) &&& 0x3f).toInt64.toUInt64).toInt64)), .second, .val (.int (Int32.ofNat (h2 - nb))), .val (.int (Int32.ofNat y2)), .val (.int (Int32.ofNat i))] [])) tz := by
                intro tz kz
                refine XS.iinc X14.here hx rfl (hb hby d3_95) rfl (l' := #[.val (.ref ab), .val (.int (Int32.ofNat at_)), .val (.int (Int32.ofNat nb)), .val (.int (Int32.ofNat fr)), .val (.int (Int32.ofNat cnt)), .val (.ref ai), .val (.int (Int32.ofNat ia)), .val (.long (own_mask nb)), .second, .val (.long ((g2.toUInt64 >>> ((Int32.ofNat nb) &&& 0x3f).toInt64.toUInt64).toInt64)), .second, .val (.int (Int32.ofNat (h2 - nb))), .val (.int (Int32.ofNat y2)), .val (.int ((Int32.ofNat i) + (1 : Int32)))]) rfl ?_
                exact kz
              refine OG.step s18 ?_
              rw [own_inc]
              show OG _ _ _ _ _ _ _ (T14.setTop (mkF m 98 #[.val (.ref ab), .val (.int (Int32.ofNat at_)), .val (.int (Int32.ofNat nb)), .val (.int (Int32.ofNat fr)), .val (.int (Int32.ofNat cnt)), .val (.ref ai), .val (.int (Int32.ofNat ia)), .val (.long (own_mask nb)), .second, .val (.long ((g2.toUInt64 >>> ((Int32.ofNat nb) &&& 0x3f).toInt64.toUInt64).toInt64)), .second, .val (.int (Int32.ofNat (h2 - nb))), .val (.int (Int32.ofNat y2)), .val (.int (Int32.ofNat (i + 1)))] []))
              have s19 : ∀ tz, Steps p.tables e below (T14.setTop (mkF m 28 #[.val (.ref ab), .val (.int (Int32.ofNat at_)), .val (.int (Int32.ofNat nb)), .val (.int (Int32.ofNat fr)), .val (.int (Int32.ofNat cnt)), .val (.ref ai), .val (.int (Int32.ofNat ia)), .val (.long (own_mask nb)), .second, .val (.long ((g2.toUInt64 >>> ((Int32.ofNat nb) &&& 0x3f).toInt64.toUInt64).toInt64)), .second, .val (.int (Int32.ofNat (h2 - nb))), .val (.int (Int32.ofNat y2)), .val (.int (Int32.ofNat (i + 1)))] [])) tz → Steps p.tables e below (T14.setTop (mkF m 98 #[.val (.ref ab), .val (.int (Int32.ofNat at_)), .val (.int (Int32.ofNat nb)), .val (.int (Int32.ofNat fr)), .val (.int (Int32.ofNat cnt)), .val (.ref ai), .val (.int (Int32.ofNat ia)), .val (.long (own_mask nb)), .second, .val (.long ((g2.toUInt64 >>> ((Int32.ofNat nb) &&& 0x3f).toInt64.toUInt64).toInt64)), .second, .val (.int (Int32.ofNat (h2 - nb))), .val (.int (Int32.ofNat y2)), .val (.int (Int32.ofNat (i + 1)))] [])) tz := by
                intro tz kz
                refine XS.goto X14.here hx rfl (pc0 := 98) (pc' := 28) rfl (hb hby d3_98) (by decide) (by decide) ?_
                exact kz
              refine OG.step s19 ?_
              exact ih3 _ (own_dec1 hfu hi hcnt hc32) (i + 1) ((g2.toUInt64 >>> ((Int32.ofNat nb) &&& 0x3f).toInt64.toUInt64).toInt64) (h2 - nb) y2 _ _ _ X14 e14 N14 K14 f15 V14 rfl (own_ile hi hcnt hc32) (own_hshr hnb hc38 hg2 hh2) (own_ynext hnb hc38 hy2) (own_hnext hnb hc38 hh2)
        exact J6 _ g h y _ _ _ Xj3 ej3 Nj3 Kj3 fj3_0 fj3_1 rfl hg hy (by omega)
      · have s20 : ∀ tz, Steps p.tables e below (Tj3.setTop (mkF m 101 #[.val (.ref ab), .val (.int (Int32.ofNat at_)), .val (.int (Int32.ofNat nb)), .val (.int (Int32.ofNat fr)), .val (.int (Int32.ofNat cnt)), .val (.ref ai), .val (.int (Int32.ofNat ia)), .val (.long (own_mask nb)), .second, .val (.long g), .second, .val (.int (Int32.ofNat h)), .val (.int (Int32.ofNat y)), .val (.int (Int32.ofNat i))] [])) tz → Steps p.tables e below (Tj3.setTop (mkF m 32 #[.val (.ref ab), .val (.int (Int32.ofNat at_)), .val (.int (Int32.ofNat nb)), .val (.int (Int32.ofNat fr)), .val (.int (Int32.ofNat cnt)), .val (.ref ai), .val (.int (Int32.ofNat ia)), .val (.long (own_mask nb)), .second, .val (.long g), .second, .val (.int (Int32.ofNat h)), .val (.int (Int32.ofNat y)), .val (.int (Int32.ofNat i))] [(.int (Int32.ofNat cnt)), (.int (Int32.ofNat i))])) tz := by
          intro tz kz
          refine XS.icmpYes Xj3.here hx rfl (pc0 := 32) (pc' := 101) rfl (hb hby d3_32) rfl (flt hc32).2.1 (by decide) (by decide) ?_
          exact kz
        refine OG.step s20 ?_
        have hic : i = cnt := own_icnt hi hcnt hc32
        have Vf : Arv Z Hj3 ai ki .int (8 : Int32) (own_is (own_fill t ia R cnt)) (.int (0 : Int32)) := hic ▸ fj3_1
        exact OG.retV Xj3 hx hlk Bd.returns (hb hby d3_101) ej3 ⟨rfl, Nj3, Kj3, Vf⟩ (by decide) (by decide)
  exact J3 cnt 0 _ 0 _ _ _ _ X0 e0 N0 K0 F0_ab Vi0 rfl (Nat.zero_le _) (own_has0 B _) (own_y00 hfr) (by decide)
theorem ef_0 (m : MethodId) (x0 : Int64) (x1 : Int64) (x2 : Int64) (x3 : Int64) (x4 : Int32) (x5 : Int32) : entryFrame m #[(.long x0), (.long x1), (.long x2), (.long x3), (.int x4), (.int x5)] maxLocals = mkF m 0 #[.val (.long x0), .second, .val (.long x1), .second, .val (.long x2), .second, .val (.long x3), .second, .val (.int x4), .val (.int x5), .unset, .unset, .unset, .unset, .unset, .unset, .unset, .unset, .unset, .unset, .unset, .unset] [] := by first | (simp [entryFrame, mkF, argsToLocals, Value.category, maxLocals]; done) | rfl
def Q0 (Z : State) (q0 : Int64) (q1 : Int64) (q2 : Int64) (q3 : Int64) (p4 : Int32) (p5 : Int32) (h0 : Heap) (n0 : Nat) (v : Option Value) (h : Heap) (L : List Loc) : Prop := (v = some (.int (1 : Int32))) ∧ (Fr n0 L)
theorem pd___BIJ_V : parseMethodDescriptor "([BIJ)V" = some ⟨[(.array .byte), .int, .long], none⟩ := by decide +kernel
theorem pd___JII_J : parseMethodDescriptor "([JII)J" = some ⟨[(.array .long), .int, .int], some .long⟩ := by decide +kernel
theorem pd___BIIII_II_V : parseMethodDescriptor "([BIIII[II)V" = some ⟨[(.array .byte), .int, .int, .int, .int, (.array .int), .int], none⟩ := by decide +kernel
theorem pd__IIIIIII_I : parseMethodDescriptor "(IIIIIII)I" = some ⟨[.int, .int, .int, .int, .int, .int, .int], some .int⟩ := by decide +kernel
set_option maxRecDepth 65536 in
set_option maxHeartbeats 40000000 in
theorem rm0 (l : Launch) (Z : State) (a0 : Array Value) (hw : ∀ d ∈ tables_1, d.before a0 Z = true) (ws : List Jvm.Cond) (q0 : Int64) (q1 : Int64) (q2 : Int64) (q3 : Int64) (p4 : Int32) (p5 : Int32) (h0 : Heap) (n0 : Nat) (Z0 : n0 ≤ h0.size) :
    MetFree l x (head1 (Jvm.Cond.code x code maxLocals ret :: ws) room_1) (fun a U => a = #[(.long q0), (.long q1), (.long q2), (.long q3), (.int p4), (.int p5)] ∧ Z.Warmed39 U.vm ∧ U.heap = h0) (fun _ _ _ _ _ => True) (fun _ U o U' => ∃ v L, o = .returned v ∧ Q0 Z q0 q1 q2 q3 p4 p5 h0 n0 v U'.heap L ∧ FrameEnd U o U' L room_1.cells room_1.slots) := by
  refine MetFree.of_bodySF (plainFor_of_name pn_com_example_strata_strata_PostingsUnpackTimesPinLaw) hisR ?_
  intro p e s m args below meth c s₁ Bd hml0 hP hK
  obtain ⟨rfl, hZ, hh⟩ := hP
  have hx := Bd.exec
  have hby := Bd.bytes
  have hlk := Bd.notSynchronized
  have hml : c.maxLocals = 22 := hml0
  have hown : s.vm.findClass "com/example/strata/strata/PostingsUnpackTimesPinLaw" = some m.cls := findClass_of_methodNamed Bd.named
  have hnm := (name_of_methodNamed Bd.named Bd.method).1
  have X0 : Stand p l e room_1 s m #[(.long q0), (.long q1), (.long q2), (.long q3), (.int p4), (.int p5)] below meth c s₁ [] 0 0 := Stand.of_body Bd
  have e0 : s₁.heap = h0 := by rw [← hh, Bd.state]; rfl
  have N0 := Fr.nil n0
  have K0 : Keep h0 h0 [] := Keep.refl _ _
  refine (?_ : OG p e below s (Q0 Z q0 q1 q2 q3 p4 p5 h0 n0) room_1.cells room_1.slots _)
  rw [ef_0]
  have s1 : ∀ tz, Steps p.tables e below (s₁.setTop (mkF m 46 #[.val (.long q0), .second, .val (.long q1), .second, .val (.long q2), .second, .val (.long q3), .second, .val (.int p4), .val (.int p5), .val (.int (p4 &&& (31 : Int32))), .val (.int ((8 : Int32) * (((p4.toUInt32 >>> ((5 : Int32) &&& 31).toUInt32).toInt32) &&& (1 : Int32)))), .val (.int (((p4.toUInt32 >>> ((6 : Int32) &&& 31).toUInt32).toInt32) &&& (3 : Int32))), .val (.int (((p4.toUInt32 >>> ((8 : Int32) &&& 31).toUInt32).toInt32) &&& (3 : Int32))), .val (.int (((p4.toUInt32 >>> ((10 : Int32) &&& 31).toUInt32).toInt32) &&& (15 : Int32))), .unset, .unset, .unset, .unset, .unset, .unset, .unset] [])) tz → Steps p.tables e below (s₁.setTop (mkF m 0 #[.val (.long q0), .second, .val (.long q1), .second, .val (.long q2), .second, .val (.long q3), .second, .val (.int p4), .val (.int p5), .unset, .unset, .unset, .unset, .unset, .unset, .unset, .unset, .unset, .unset, .unset, .unset] [])) tz := by
    intro tz kz
    refine XS.iload X0.here hx rfl (hb hby at_0) rfl ?_
    show Steps p.tables e below (s₁.setTop (mkF m 2 #[.val (.long q0), .second, .val (.long q1), .second, .val (.long q2), .second, .val (.long q3), .second, .val (.int p4), .val (.int p5), .unset, .unset, .unset, .unset, .unset, .unset, .unset, .unset, .unset, .unset, .unset, .unset] [(.int p4)])) _
    refine XS.bipush X0.here hx rfl (hb hby at_2) ?_
    show Steps p.tables e below (s₁.setTop (mkF m 4 #[.val (.long q0), .second, .val (.long q1), .second, .val (.long q2), .second, .val (.long q3), .second, .val (.int p4), .val (.int p5), .unset, .unset, .unset, .unset, .unset, .unset, .unset, .unset, .unset, .unset, .unset, .unset] [(.int (31 : Int32)), (.int p4)])) _
    refine XS.iand X0.here hx rfl (hb hby at_4) rfl ?_
    show Steps p.tables e below (s₁.setTop (mkF m 5 #[.val (.long q0), .second, .val (.long q1), .second, .val (.long q2), .second, .val (.long q3), .second, .val (.int p4), .val (.int p5), .unset, .unset, .unset, .unset, .unset, .unset, .unset, .unset, .unset, .unset, .unset, .unset] [(.int (p4 &&& (31 : Int32)))])) _
    refine XS.istore X0.here hx rfl (hb hby at_5) rfl (l' := #[.val (.long q0), .second, .val (.long q1), .second, .val (.long q2), .second, .val (.long q3), .second, .val (.int p4), .val (.int p5), .val (.int (p4 &&& (31 : Int32))), .unset, .unset, .unset, .unset, .unset, .unset, .unset, .unset, .unset, .unset, .unset]) rfl ?_
    show Steps p.tables e below (s₁.setTop (mkF m 7 #[.val (.long q0), .second, .val (.long q1), .second, .val (.long q2), .second, .val (.long q3), .second, .val (.int p4), .val (.int p5), .val (.int (p4 &&& (31 : Int32))), .unset, .unset, .unset, .unset, .unset, .unset, .unset, .unset, .unset, .unset, .unset] [])) _
    refine XS.bipush X0.here hx rfl (hb hby at_7) ?_
    show Steps p.tables e below (s₁.setTop (mkF m 9 #[.val (.long q0), .second, .val (.long q1), .second, .val (.long q2), .second, .val (.long q3), .second, .val (.int p4), .val (.int p5), .val (.int (p4 &&& (31 : Int32))), .unset, .unset, .unset, .unset, .unset, .unset, .unset, .unset, .unset, .unset, .unset] [(.int (8 : Int32))])) _
    refine XS.iload X0.here hx rfl (hb hby at_9) rfl ?_
    show Steps p.tables e below (s₁.setTop (mkF m 11 #[.val (.long q0), .second, .val (.long q1), .second, .val (.long q2), .second, .val (.long q3), .second, .val (.int p4), .val (.int p5), .val (.int (p4 &&& (31 : Int32))), .unset, .unset, .unset, .unset, .unset, .unset, .unset, .unset, .unset, .unset, .unset] [(.int p4), (.int (8 : Int32))])) _
    refine XS.iconst X0.here hx rfl (hb hby at_11) ?_
    show Steps p.tables e below (s₁.setTop (mkF m 12 #[.val (.long q0), .second, .val (.long q1), .second, .val (.long q2), .second, .val (.long q3), .second, .val (.int p4), .val (.int p5), .val (.int (p4 &&& (31 : Int32))), .unset, .unset, .unset, .unset, .unset, .unset, .unset, .unset, .unset, .unset, .unset] [(.int (5 : Int32)), (.int p4), (.int (8 : Int32))])) _
    refine XS.iushr X0.here hx rfl (hb hby at_12) rfl ?_
    show Steps p.tables e below (s₁.setTop (mkF m 13 #[.val (.long q0), .second, .val (.long q1), .second, .val (.long q2), .second, .val (.long q3), .second, .val (.int p4), .val (.int p5), .val (.int (p4 &&& (31 : Int32))), .unset, .unset, .unset, .unset, .unset, .unset, .unset, .unset, .unset, .unset, .unset] [(.int ((p4.toUInt32 >>> ((5 : Int32) &&& 31).toUInt32).toInt32)), (.int (8 : Int32))])) _
    refine XS.iconst X0.here hx rfl (hb hby at_13) ?_
    show Steps p.tables e below (s₁.setTop (mkF m 14 #[.val (.long q0), .second, .val (.long q1), .second, .val (.long q2), .second, .val (.long q3), .second, .val (.int p4), .val (.int p5), .val (.int (p4 &&& (31 : Int32))), .unset, .unset, .unset, .unset, .unset, .unset, .unset, .unset, .unset, .unset, .unset] [(.int (1 : Int32)), (.int ((p4.toUInt32 >>> ((5 : Int32) &&& 31).toUInt32).toInt32)), (.int (8 : Int32))])) _
    refine XS.iand X0.here hx rfl (hb hby at_14) rfl ?_
    show Steps p.tables e below (s₁.setTop (mkF m 15 #[.val (.long q0), .second, .val (.long q1), .second, .val (.long q2), .second, .val (.long q3), .second, .val (.int p4), .val (.int p5), .val (.int (p4 &&& (31 : Int32))), .unset, .unset, .unset, .unset, .unset, .unset, .unset, .unset, .unset, .unset, .unset] [(.int (((p4.toUInt32 >>> ((5 : Int32) &&& 31).toUInt32).toInt32) &&& (1 : Int32))), (.int (8 : Int32))])) _
    refine XS.imul X0.here hx rfl (hb hby at_15) rfl ?_
    show Steps p.tables e below (s₁.setTop (mkF m 16 #[.val (.long q0), .second, .val (.long q1), .second, .val (.long q2), .second, .val (.long q3), .second, .val (.int p4), .val (.int p5), .val (.int (p4 &&& (31 : Int32))), .unset, .unset, .unset, .unset, .unset, .unset, .unset, .unset, .unset, .unset, .unset] [(.int ((8 : Int32) * (((p4.toUInt32 >>> ((5 : Int32) &&& 31).toUInt32).toInt32) &&& (1 : Int32))))])) _
    refine XS.istore X0.here hx rfl (hb hby at_16) rfl (l' := #[.val (.long q0), .second, .val (.long q1), .second, .val (.long q2), .second, .val (.long q3), .second, .val (.int p4), .val (.int p5), .val (.int (p4 &&& (31 : Int32))), .val (.int ((8 : Int32) * (((p4.toUInt32 >>> ((5 : Int32) &&& 31).toUInt32).toInt32) &&& (1 : Int32)))), .unset, .unset, .unset, .unset, .unset, .unset, .unset, .unset, .unset, .unset]) rfl ?_
    show Steps p.tables e below (s₁.setTop (mkF m 18 #[.val (.long q0), .second, .val (.long q1), .second, .val (.long q2), .second, .val (.long q3), .second, .val (.int p4), .val (.int p5), .val (.int (p4 &&& (31 : Int32))), .val (.int ((8 : Int32) * (((p4.toUInt32 >>> ((5 : Int32) &&& 31).toUInt32).toInt32) &&& (1 : Int32)))), .unset, .unset, .unset, .unset, .unset, .unset, .unset, .unset, .unset, .unset] [])) _
    refine XS.iload X0.here hx rfl (hb hby at_18) rfl ?_
    show Steps p.tables e below (s₁.setTop (mkF m 20 #[.val (.long q0), .second, .val (.long q1), .second, .val (.long q2), .second, .val (.long q3), .second, .val (.int p4), .val (.int p5), .val (.int (p4 &&& (31 : Int32))), .val (.int ((8 : Int32) * (((p4.toUInt32 >>> ((5 : Int32) &&& 31).toUInt32).toInt32) &&& (1 : Int32)))), .unset, .unset, .unset, .unset, .unset, .unset, .unset, .unset, .unset, .unset] [(.int p4)])) _
    refine XS.bipush X0.here hx rfl (hb hby at_20) ?_
    show Steps p.tables e below (s₁.setTop (mkF m 22 #[.val (.long q0), .second, .val (.long q1), .second, .val (.long q2), .second, .val (.long q3), .second, .val (.int p4), .val (.int p5), .val (.int (p4 &&& (31 : Int32))), .val (.int ((8 : Int32) * (((p4.toUInt32 >>> ((5 : Int32) &&& 31).toUInt32).toInt32) &&& (1 : Int32)))), .unset, .unset, .unset, .unset, .unset, .unset, .unset, .unset, .unset, .unset] [(.int (6 : Int32)), (.int p4)])) _
    refine XS.iushr X0.here hx rfl (hb hby at_22) rfl ?_
    show Steps p.tables e below (s₁.setTop (mkF m 23 #[.val (.long q0), .second, .val (.long q1), .second, .val (.long q2), .second, .val (.long q3), .second, .val (.int p4), .val (.int p5), .val (.int (p4 &&& (31 : Int32))), .val (.int ((8 : Int32) * (((p4.toUInt32 >>> ((5 : Int32) &&& 31).toUInt32).toInt32) &&& (1 : Int32)))), .unset, .unset, .unset, .unset, .unset, .unset, .unset, .unset, .unset, .unset] [(.int ((p4.toUInt32 >>> ((6 : Int32) &&& 31).toUInt32).toInt32))])) _
    refine XS.iconst X0.here hx rfl (hb hby at_23) ?_
    show Steps p.tables e below (s₁.setTop (mkF m 24 #[.val (.long q0), .second, .val (.long q1), .second, .val (.long q2), .second, .val (.long q3), .second, .val (.int p4), .val (.int p5), .val (.int (p4 &&& (31 : Int32))), .val (.int ((8 : Int32) * (((p4.toUInt32 >>> ((5 : Int32) &&& 31).toUInt32).toInt32) &&& (1 : Int32)))), .unset, .unset, .unset, .unset, .unset, .unset, .unset, .unset, .unset, .unset] [(.int (3 : Int32)), (.int ((p4.toUInt32 >>> ((6 : Int32) &&& 31).toUInt32).toInt32))])) _
    refine XS.iand X0.here hx rfl (hb hby at_24) rfl ?_
    show Steps p.tables e below (s₁.setTop (mkF m 25 #[.val (.long q0), .second, .val (.long q1), .second, .val (.long q2), .second, .val (.long q3), .second, .val (.int p4), .val (.int p5), .val (.int (p4 &&& (31 : Int32))), .val (.int ((8 : Int32) * (((p4.toUInt32 >>> ((5 : Int32) &&& 31).toUInt32).toInt32) &&& (1 : Int32)))), .unset, .unset, .unset, .unset, .unset, .unset, .unset, .unset, .unset, .unset] [(.int (((p4.toUInt32 >>> ((6 : Int32) &&& 31).toUInt32).toInt32) &&& (3 : Int32)))])) _
    refine XS.istore X0.here hx rfl (hb hby at_25) rfl (l' := #[.val (.long q0), .second, .val (.long q1), .second, .val (.long q2), .second, .val (.long q3), .second, .val (.int p4), .val (.int p5), .val (.int (p4 &&& (31 : Int32))), .val (.int ((8 : Int32) * (((p4.toUInt32 >>> ((5 : Int32) &&& 31).toUInt32).toInt32) &&& (1 : Int32)))), .val (.int (((p4.toUInt32 >>> ((6 : Int32) &&& 31).toUInt32).toInt32) &&& (3 : Int32))), .unset, .unset, .unset, .unset, .unset, .unset, .unset, .unset, .unset]) rfl ?_
    show Steps p.tables e below (s₁.setTop (mkF m 27 #[.val (.long q0), .second, .val (.long q1), .second, .val (.long q2), .second, .val (.long q3), .second, .val (.int p4), .val (.int p5), .val (.int (p4 &&& (31 : Int32))), .val (.int ((8 : Int32) * (((p4.toUInt32 >>> ((5 : Int32) &&& 31).toUInt32).toInt32) &&& (1 : Int32)))), .val (.int (((p4.toUInt32 >>> ((6 : Int32) &&& 31).toUInt32).toInt32) &&& (3 : Int32))), .unset, .unset, .unset, .unset, .unset, .unset, .unset, .unset, .unset] [])) _
    refine XS.iload X0.here hx rfl (hb hby at_27) rfl ?_
    show Steps p.tables e below (s₁.setTop (mkF m 29 #[.val (.long q0), .second, .val (.long q1), .second, .val (.long q2), .second, .val (.long q3), .second, .val (.int p4), .val (.int p5), .val (.int (p4 &&& (31 : Int32))), .val (.int ((8 : Int32) * (((p4.toUInt32 >>> ((5 : Int32) &&& 31).toUInt32).toInt32) &&& (1 : Int32)))), .val (.int (((p4.toUInt32 >>> ((6 : Int32) &&& 31).toUInt32).toInt32) &&& (3 : Int32))), .unset, .unset, .unset, .unset, .unset, .unset, .unset, .unset, .unset] [(.int p4)])) _
    refine XS.bipush X0.here hx rfl (hb hby at_29) ?_
    show Steps p.tables e below (s₁.setTop (mkF m 31 #[.val (.long q0), .second, .val (.long q1), .second, .val (.long q2), .second, .val (.long q3), .second, .val (.int p4), .val (.int p5), .val (.int (p4 &&& (31 : Int32))), .val (.int ((8 : Int32) * (((p4.toUInt32 >>> ((5 : Int32) &&& 31).toUInt32).toInt32) &&& (1 : Int32)))), .val (.int (((p4.toUInt32 >>> ((6 : Int32) &&& 31).toUInt32).toInt32) &&& (3 : Int32))), .unset, .unset, .unset, .unset, .unset, .unset, .unset, .unset, .unset] [(.int (8 : Int32)), (.int p4)])) _
    refine XS.iushr X0.here hx rfl (hb hby at_31) rfl ?_
    show Steps p.tables e below (s₁.setTop (mkF m 32 #[.val (.long q0), .second, .val (.long q1), .second, .val (.long q2), .second, .val (.long q3), .second, .val (.int p4), .val (.int p5), .val (.int (p4 &&& (31 : Int32))), .val (.int ((8 : Int32) * (((p4.toUInt32 >>> ((5 : Int32) &&& 31).toUInt32).toInt32) &&& (1 : Int32)))), .val (.int (((p4.toUInt32 >>> ((6 : Int32) &&& 31).toUInt32).toInt32) &&& (3 : Int32))), .unset, .unset, .unset, .unset, .unset, .unset, .unset, .unset, .unset] [(.int ((p4.toUInt32 >>> ((8 : Int32) &&& 31).toUInt32).toInt32))])) _
    refine XS.iconst X0.here hx rfl (hb hby at_32) ?_
    show Steps p.tables e below (s₁.setTop (mkF m 33 #[.val (.long q0), .second, .val (.long q1), .second, .val (.long q2), .second, .val (.long q3), .second, .val (.int p4), .val (.int p5), .val (.int (p4 &&& (31 : Int32))), .val (.int ((8 : Int32) * (((p4.toUInt32 >>> ((5 : Int32) &&& 31).toUInt32).toInt32) &&& (1 : Int32)))), .val (.int (((p4.toUInt32 >>> ((6 : Int32) &&& 31).toUInt32).toInt32) &&& (3 : Int32))), .unset, .unset, .unset, .unset, .unset, .unset, .unset, .unset, .unset] [(.int (3 : Int32)), (.int ((p4.toUInt32 >>> ((8 : Int32) &&& 31).toUInt32).toInt32))])) _
    refine XS.iand X0.here hx rfl (hb hby at_33) rfl ?_
    show Steps p.tables e below (s₁.setTop (mkF m 34 #[.val (.long q0), .second, .val (.long q1), .second, .val (.long q2), .second, .val (.long q3), .second, .val (.int p4), .val (.int p5), .val (.int (p4 &&& (31 : Int32))), .val (.int ((8 : Int32) * (((p4.toUInt32 >>> ((5 : Int32) &&& 31).toUInt32).toInt32) &&& (1 : Int32)))), .val (.int (((p4.toUInt32 >>> ((6 : Int32) &&& 31).toUInt32).toInt32) &&& (3 : Int32))), .unset, .unset, .unset, .unset, .unset, .unset, .unset, .unset, .unset] [(.int (((p4.toUInt32 >>> ((8 : Int32) &&& 31).toUInt32).toInt32) &&& (3 : Int32)))])) _
    refine XS.istore X0.here hx rfl (hb hby at_34) rfl (l' := #[.val (.long q0), .second, .val (.long q1), .second, .val (.long q2), .second, .val (.long q3), .second, .val (.int p4), .val (.int p5), .val (.int (p4 &&& (31 : Int32))), .val (.int ((8 : Int32) * (((p4.toUInt32 >>> ((5 : Int32) &&& 31).toUInt32).toInt32) &&& (1 : Int32)))), .val (.int (((p4.toUInt32 >>> ((6 : Int32) &&& 31).toUInt32).toInt32) &&& (3 : Int32))), .val (.int (((p4.toUInt32 >>> ((8 : Int32) &&& 31).toUInt32).toInt32) &&& (3 : Int32))), .unset, .unset, .unset, .unset, .unset, .unset, .unset, .unset]) rfl ?_
    show Steps p.tables e below (s₁.setTop (mkF m 36 #[.val (.long q0), .second, .val (.long q1), .second, .val (.long q2), .second, .val (.long q3), .second, .val (.int p4), .val (.int p5), .val (.int (p4 &&& (31 : Int32))), .val (.int ((8 : Int32) * (((p4.toUInt32 >>> ((5 : Int32) &&& 31).toUInt32).toInt32) &&& (1 : Int32)))), .val (.int (((p4.toUInt32 >>> ((6 : Int32) &&& 31).toUInt32).toInt32) &&& (3 : Int32))), .val (.int (((p4.toUInt32 >>> ((8 : Int32) &&& 31).toUInt32).toInt32) &&& (3 : Int32))), .unset, .unset, .unset, .unset, .unset, .unset, .unset, .unset] [])) _
    refine XS.iload X0.here hx rfl (hb hby at_36) rfl ?_
    show Steps p.tables e below (s₁.setTop (mkF m 38 #[.val (.long q0), .second, .val (.long q1), .second, .val (.long q2), .second, .val (.long q3), .second, .val (.int p4), .val (.int p5), .val (.int (p4 &&& (31 : Int32))), .val (.int ((8 : Int32) * (((p4.toUInt32 >>> ((5 : Int32) &&& 31).toUInt32).toInt32) &&& (1 : Int32)))), .val (.int (((p4.toUInt32 >>> ((6 : Int32) &&& 31).toUInt32).toInt32) &&& (3 : Int32))), .val (.int (((p4.toUInt32 >>> ((8 : Int32) &&& 31).toUInt32).toInt32) &&& (3 : Int32))), .unset, .unset, .unset, .unset, .unset, .unset, .unset, .unset] [(.int p4)])) _
    refine XS.bipush X0.here hx rfl (hb hby at_38) ?_
    show Steps p.tables e below (s₁.setTop (mkF m 40 #[.val (.long q0), .second, .val (.long q1), .second, .val (.long q2), .second, .val (.long q3), .second, .val (.int p4), .val (.int p5), .val (.int (p4 &&& (31 : Int32))), .val (.int ((8 : Int32) * (((p4.toUInt32 >>> ((5 : Int32) &&& 31).toUInt32).toInt32) &&& (1 : Int32)))), .val (.int (((p4.toUInt32 >>> ((6 : Int32) &&& 31).toUInt32).toInt32) &&& (3 : Int32))), .val (.int (((p4.toUInt32 >>> ((8 : Int32) &&& 31).toUInt32).toInt32) &&& (3 : Int32))), .unset, .unset, .unset, .unset, .unset, .unset, .unset, .unset] [(.int (10 : Int32)), (.int p4)])) _
    refine XS.iushr X0.here hx rfl (hb hby at_40) rfl ?_
    show Steps p.tables e below (s₁.setTop (mkF m 41 #[.val (.long q0), .second, .val (.long q1), .second, .val (.long q2), .second, .val (.long q3), .second, .val (.int p4), .val (.int p5), .val (.int (p4 &&& (31 : Int32))), .val (.int ((8 : Int32) * (((p4.toUInt32 >>> ((5 : Int32) &&& 31).toUInt32).toInt32) &&& (1 : Int32)))), .val (.int (((p4.toUInt32 >>> ((6 : Int32) &&& 31).toUInt32).toInt32) &&& (3 : Int32))), .val (.int (((p4.toUInt32 >>> ((8 : Int32) &&& 31).toUInt32).toInt32) &&& (3 : Int32))), .unset, .unset, .unset, .unset, .unset, .unset, .unset, .unset] [(.int ((p4.toUInt32 >>> ((10 : Int32) &&& 31).toUInt32).toInt32))])) _
    refine XS.bipush X0.here hx rfl (hb hby at_41) ?_
    show Steps p.tables e below (s₁.setTop (mkF m 43 #[.val (.long q0), .second, .val (.long q1), .second, .val (.long q2), .second, .val (.long q3), .second, .val (.int p4), .val (.int p5), .val (.int (p4 &&& (31 : Int32))), .val (.int ((8 : Int32) * (((p4.toUInt32 >>> ((5 : Int32) &&& 31).toUInt32).toInt32) &&& (1 : Int32)))), .val (.int (((p4.toUInt32 >>> ((6 : Int32) &&& 31).toUInt32).toInt32) &&& (3 : Int32))), .val (.int (((p4.toUInt32 >>> ((8 : Int32) &&& 31).toUInt32).toInt32) &&& (3 : Int32))), .unset, .unset, .unset, .unset, .unset, .unset, .unset, .unset] [(.int (15 : Int32)), (.int ((p4.toUInt32 >>> ((10 : Int32) &&& 31).toUInt32).toInt32))])) _
    refine XS.iand X0.here hx rfl (hb hby at_43) rfl ?_
    show Steps p.tables e below (s₁.setTop (mkF m 44 #[.val (.long q0), .second, .val (.long q1), .second, .val (.long q2), .second, .val (.long q3), .second, .val (.int p4), .val (.int p5), .val (.int (p4 &&& (31 : Int32))), .val (.int ((8 : Int32) * (((p4.toUInt32 >>> ((5 : Int32) &&& 31).toUInt32).toInt32) &&& (1 : Int32)))), .val (.int (((p4.toUInt32 >>> ((6 : Int32) &&& 31).toUInt32).toInt32) &&& (3 : Int32))), .val (.int (((p4.toUInt32 >>> ((8 : Int32) &&& 31).toUInt32).toInt32) &&& (3 : Int32))), .unset, .unset, .unset, .unset, .unset, .unset, .unset, .unset] [(.int (((p4.toUInt32 >>> ((10 : Int32) &&& 31).toUInt32).toInt32) &&& (15 : Int32)))])) _
    refine XS.istore X0.here hx rfl (hb hby at_44) rfl (l' := #[.val (.long q0), .second, .val (.long q1), .second, .val (.long q2), .second, .val (.long q3), .second, .val (.int p4), .val (.int p5), .val (.int (p4 &&& (31 : Int32))), .val (.int ((8 : Int32) * (((p4.toUInt32 >>> ((5 : Int32) &&& 31).toUInt32).toInt32) &&& (1 : Int32)))), .val (.int (((p4.toUInt32 >>> ((6 : Int32) &&& 31).toUInt32).toInt32) &&& (3 : Int32))), .val (.int (((p4.toUInt32 >>> ((8 : Int32) &&& 31).toUInt32).toInt32) &&& (3 : Int32))), .val (.int (((p4.toUInt32 >>> ((10 : Int32) &&& 31).toUInt32).toInt32) &&& (15 : Int32))), .unset, .unset, .unset, .unset, .unset, .unset, .unset]) rfl ?_
    exact kz
  refine OG.step s1 ?_
  obtain ⟨nb, hnb, enb⟩ := own_m31 p4
  rw [enb]
  obtain ⟨fr, hfr, efr⟩ := own_m8 p4
  rw [efr]
  obtain ⟨cnt, hcnt, ecnt⟩ := own_mc p4
  rw [ecnt]
  obtain ⟨ia, hia, eia⟩ := own_mi p4
  rw [eia]
  obtain ⟨at_, hat_, eat_⟩ := own_ma p4
  rw [eat_]
  show OG _ _ _ _ _ _ _ (s₁.setTop (mkF m 46 #[.val (.long q0), .second, .val (.long q1), .second, .val (.long q2), .second, .val (.long q3), .second, .val (.int p4), .val (.int p5), .val (.int (Int32.ofNat nb)), .val (.int (Int32.ofNat fr)), .val (.int (Int32.ofNat cnt)), .val (.int (Int32.ofNat ia)), .val (.int (Int32.ofNat at_)), .unset, .unset, .unset, .unset, .unset, .unset, .unset] []))
  have s2 : ∀ tz, Steps p.tables e below (s₁.setTop (mkF m 48 #[.val (.long q0), .second, .val (.long q1), .second, .val (.long q2), .second, .val (.long q3), .second, .val (.int p4), .val (.int p5), .val (.int (Int32.ofNat nb)), .val (.int (Int32.ofNat fr)), .val (.int (Int32.ofNat cnt)), .val (.int (Int32.ofNat ia)), .val (.int (Int32.ofNat at_)), .unset, .unset, .unset, .unset, .unset, .unset, .unset] [(.int (8 : Int32))])) tz → Steps p.tables e below (s₁.setTop (mkF m 46 #[.val (.long q0), .second, .val (.long q1), .second, .val (.long q2), .second, .val (.long q3), .second, .val (.int p4), .val (.int p5), .val (.int (Int32.ofNat nb)), .val (.int (Int32.ofNat fr)), .val (.int (Int32.ofNat cnt)), .val (.int (Int32.ofNat ia)), .val (.int (Int32.ofNat at_)), .unset, .unset, .unset, .unset, .unset, .unset, .unset] [])) tz := by
    intro tz kz
    refine XS.bipush X0.here hx rfl (hb hby at_46) ?_
    exact kz
  refine OG.step s2 ?_
  obtain ⟨T3, h3, k3, X3, e3, E3, A3, st3⟩ := newP X0 hx hZ (hw _ (List.mem_of_getElem? (i := 0) rfl)) e0 (g := (mkF m 48 #[.val (.long q0), .second, .val (.long q1), .second, .val (.long q2), .second, .val (.long q3), .second, .val (.int p4), .val (.int p5), .val (.int (Int32.ofNat nb)), .val (.int (Int32.ofNat fr)), .val (.int (Int32.ofNat cnt)), .val (.int (Int32.ofNat ia)), .val (.int (Int32.ofNat at_)), .unset, .unset, .unset, .unset, .unset, .unset, .unset] [(.int (8 : Int32))])) rfl (hb hby at_48) rfl (by decide) (cap := 8) (by decide) (by decide) (by decide) (by decide)
  obtain ⟨b3, g3⟩ : ∃ z, z = h0.size := ⟨_, rfl⟩
  rw [← g3] at A3 st3
  have sz3 : h0.size ≤ b3 := Nat.le_trans K0.1 (Nat.le_of_eq g3.symm)
  have ge3 : n0 ≤ b3 := Nat.le_trans Z0 sz3
  refine OG.step st3 ?_
  have V3 : Arv Z h3 b3 k3 .long (8 : Int32) [(.long (0 : Int64)), (.long (0 : Int64)), (.long (0 : Int64)), (.long (0 : Int64)), (.long (0 : Int64)), (.long (0 : Int64)), (.long (0 : Int64)), (.long (0 : Int64))] (.long (0 : Int64)) := (Arv.new A3 (by decide)).pad (pad_rep [] (.long (0 : Int64)) 8)
  have K3 := K0.ext E3
  show OG _ _ _ _ _ _ _ (T3.setTop (mkF m 50 #[.val (.long q0), .second, .val (.long q1), .second, .val (.long q2), .second, .val (.long q3), .second, .val (.int p4), .val (.int p5), .val (.int (Int32.ofNat nb)), .val (.int (Int32.ofNat fr)), .val (.int (Int32.ofNat cnt)), .val (.int (Int32.ofNat ia)), .val (.int (Int32.ofNat at_)), .unset, .unset, .unset, .unset, .unset, .unset, .unset] [(.ref b3)]))
  have s4 : ∀ tz, Steps p.tables e below (T3.setTop (mkF m 56 #[.val (.long q0), .second, .val (.long q1), .second, .val (.long q2), .second, .val (.long q3), .second, .val (.int p4), .val (.int p5), .val (.int (Int32.ofNat nb)), .val (.int (Int32.ofNat fr)), .val (.int (Int32.ofNat cnt)), .val (.int (Int32.ofNat ia)), .val (.int (Int32.ofNat at_)), .val (.ref b3), .unset, .unset, .unset, .unset, .unset, .unset] [(.long q0), (.int (0 : Int32)), (.ref b3)])) tz → Steps p.tables e below (T3.setTop (mkF m 50 #[.val (.long q0), .second, .val (.long q1), .second, .val (.long q2), .second, .val (.long q3), .second, .val (.int p4), .val (.int p5), .val (.int (Int32.ofNat nb)), .val (.int (Int32.ofNat fr)), .val (.int (Int32.ofNat cnt)), .val (.int (Int32.ofNat ia)), .val (.int (Int32.ofNat at_)), .unset, .unset, .unset, .unset, .unset, .unset, .unset] [(.ref b3)])) tz := by
    intro tz kz
    refine XS.astore X3.here hx rfl (hb hby at_50) rfl rfl (l' := #[.val (.long q0), .second, .val (.long q1), .second, .val (.long q2), .second, .val (.long q3), .second, .val (.int p4), .val (.int p5), .val (.int (Int32.ofNat nb)), .val (.int (Int32.ofNat fr)), .val (.int (Int32.ofNat cnt)), .val (.int (Int32.ofNat ia)), .val (.int (Int32.ofNat at_)), .val (.ref b3), .unset, .unset, .unset, .unset, .unset, .unset]) rfl ?_
    show Steps p.tables e below (T3.setTop (mkF m 52 #[.val (.long q0), .second, .val (.long q1), .second, .val (.long q2), .second, .val (.long q3), .second, .val (.int p4), .val (.int p5), .val (.int (Int32.ofNat nb)), .val (.int (Int32.ofNat fr)), .val (.int (Int32.ofNat cnt)), .val (.int (Int32.ofNat ia)), .val (.int (Int32.ofNat at_)), .val (.ref b3), .unset, .unset, .unset, .unset, .unset, .unset] [])) _
    refine XS.aload X3.here hx rfl (hb hby at_52) rfl rfl ?_
    show Steps p.tables e below (T3.setTop (mkF m 54 #[.val (.long q0), .second, .val (.long q1), .second, .val (.long q2), .second, .val (.long q3), .second, .val (.int p4), .val (.int p5), .val (.int (Int32.ofNat nb)), .val (.int (Int32.ofNat fr)), .val (.int (Int32.ofNat cnt)), .val (.int (Int32.ofNat ia)), .val (.int (Int32.ofNat at_)), .val (.ref b3), .unset, .unset, .unset, .unset, .unset, .unset] [(.ref b3)])) _
    refine XS.iconst X3.here hx rfl (hb hby at_54) ?_
    show Steps p.tables e below (T3.setTop (mkF m 55 #[.val (.long q0), .second, .val (.long q1), .second, .val (.long q2), .second, .val (.long q3), .second, .val (.int p4), .val (.int p5), .val (.int (Int32.ofNat nb)), .val (.int (Int32.ofNat fr)), .val (.int (Int32.ofNat cnt)), .val (.int (Int32.ofNat ia)), .val (.int (Int32.ofNat at_)), .val (.ref b3), .unset, .unset, .unset, .unset, .unset, .unset] [(.int (0 : Int32)), (.ref b3)])) _
    refine XS.lloadN X3.here hx rfl (hb hby at_55) rfl ?_
    exact kz
  refine OG.step s4 ?_
  have av5 := V3
  obtain ⟨cl5, Ar5, qa_5, Sa_5, Nn_5, Ha_5, Ga_5⟩ := av5
  have hin5 : ¬ ((0 : Int32) < 0 ∨ cl5.slots.size ≤ ((0 : Int32)).toNatClampNeg) := inb_of Sa_5 ⟨(by decide), (by decide)⟩
  obtain ⟨T6, h6, X6, e6, W6, st6⟩ := stJ X3 hx hZ e3 Ar5 (j := (0 : Int32)) hin5 (g := (mkF m 56 #[.val (.long q0), .second, .val (.long q1), .second, .val (.long q2), .second, .val (.long q3), .second, .val (.int p4), .val (.int p5), .val (.int (Int32.ofNat nb)), .val (.int (Int32.ofNat fr)), .val (.int (Int32.ofNat cnt)), .val (.int (Int32.ofNat ia)), .val (.int (Int32.ofNat at_)), .val (.ref b3), .unset, .unset, .unset, .unset, .unset, .unset] [(.long q0), (.int (0 : Int32)), (.ref b3)])) rfl rfl (hb hby at_56)
  refine OG.step st6 ?_
  have Va6 := Arv.set Ar5 qa_5 Sa_5 Nn_5 Ha_5 Ga_5 rfl W6 (0) (by decide) (Nat.le_of_ble_eq_true rfl)
  have V6 : Arv Z h6 b3 k3 .long (8 : Int32) [(.long q0), (.long (0 : Int64)), (.long (0 : Int64)), (.long (0 : Int64)), (.long (0 : Int64)), (.long (0 : Int64)), (.long (0 : Int64)), (.long (0 : Int64))] (.long (0 : Int64)) := Va6
  have K6 := K3.wr W6 (Or.inr sz3)
  have N6 := Fr.snoc X6 N0 ge3
  obtain ⟨Lz7, X6, N6⟩ : ∃ Lz, Stand p l e room_1 s m #[(.long q0), (.long q1), (.long q2), (.long q3), (.int p4), (.int p5)] below meth c T6 Lz 1 8 ∧ Fr n0 Lz := ⟨_, X6, N6⟩
  show OG _ _ _ _ _ _ _ (T6.setTop (mkF m 57 #[.val (.long q0), .second, .val (.long q1), .second, .val (.long q2), .second, .val (.long q3), .second, .val (.int p4), .val (.int p5), .val (.int (Int32.ofNat nb)), .val (.int (Int32.ofNat fr)), .val (.int (Int32.ofNat cnt)), .val (.int (Int32.ofNat ia)), .val (.int (Int32.ofNat at_)), .val (.ref b3), .unset, .unset, .unset, .unset, .unset, .unset] []))
  have s8 : ∀ tz, Steps p.tables e below (T6.setTop (mkF m 61 #[.val (.long q0), .second, .val (.long q1), .second, .val (.long q2), .second, .val (.long q3), .second, .val (.int p4), .val (.int p5), .val (.int (Int32.ofNat nb)), .val (.int (Int32.ofNat fr)), .val (.int (Int32.ofNat cnt)), .val (.int (Int32.ofNat ia)), .val (.int (Int32.ofNat at_)), .val (.ref b3), .unset, .unset, .unset, .unset, .unset, .unset] [(.long q1), (.int (1 : Int32)), (.ref b3)])) tz → Steps p.tables e below (T6.setTop (mkF m 57 #[.val (.long q0), .second, .val (.long q1), .second, .val (.long q2), .second, .val (.long q3), .second, .val (.int p4), .val (.int p5), .val (.int (Int32.ofNat nb)), .val (.int (Int32.ofNat fr)), .val (.int (Int32.ofNat cnt)), .val (.int (Int32.ofNat ia)), .val (.int (Int32.ofNat at_)), .val (.ref b3), .unset, .unset, .unset, .unset, .unset, .unset] [])) tz := by
    intro tz kz
    refine XS.aload X6.here hx rfl (hb hby at_57) rfl rfl ?_
    show Steps p.tables e below (T6.setTop (mkF m 59 #[.val (.long q0), .second, .val (.long q1), .second, .val (.long q2), .second, .val (.long q3), .second, .val (.int p4), .val (.int p5), .val (.int (Int32.ofNat nb)), .val (.int (Int32.ofNat fr)), .val (.int (Int32.ofNat cnt)), .val (.int (Int32.ofNat ia)), .val (.int (Int32.ofNat at_)), .val (.ref b3), .unset, .unset, .unset, .unset, .unset, .unset] [(.ref b3)])) _
    refine XS.iconst X6.here hx rfl (hb hby at_59) ?_
    show Steps p.tables e below (T6.setTop (mkF m 60 #[.val (.long q0), .second, .val (.long q1), .second, .val (.long q2), .second, .val (.long q3), .second, .val (.int p4), .val (.int p5), .val (.int (Int32.ofNat nb)), .val (.int (Int32.ofNat fr)), .val (.int (Int32.ofNat cnt)), .val (.int (Int32.ofNat ia)), .val (.int (Int32.ofNat at_)), .val (.ref b3), .unset, .unset, .unset, .unset, .unset, .unset] [(.int (1 : Int32)), (.ref b3)])) _
    refine XS.lloadN X6.here hx rfl (hb hby at_60) rfl ?_
    exact kz
  refine OG.step s8 ?_
  have av9 := V6
  obtain ⟨cl9, Ar9, qa_9, Sa_9, Nn_9, Ha_9, Ga_9⟩ := av9
  have hin9 : ¬ ((1 : Int32) < 0 ∨ cl9.slots.size ≤ ((1 : Int32)).toNatClampNeg) := inb_of Sa_9 ⟨(by decide), (by decide)⟩
  obtain ⟨T10, h10, X10, e10, W10, st10⟩ := stJ X6 hx hZ e6 Ar9 (j := (1 : Int32)) hin9 (g := (mkF m 61 #[.val (.long q0), .second, .val (.long q1), .second, .val (.long q2), .second, .val (.long q3), .second, .val (.int p4), .val (.int p5), .val (.int (Int32.ofNat nb)), .val (.int (Int32.ofNat fr)), .val (.int (Int32.ofNat cnt)), .val (.int (Int32.ofNat ia)), .val (.int (Int32.ofNat at_)), .val (.ref b3), .unset, .unset, .unset, .unset, .unset, .unset] [(.long q1), (.int (1 : Int32)), (.ref b3)])) rfl rfl (hb hby at_61)
  refine OG.step st10 ?_
  have Va10 := Arv.set Ar9 qa_9 Sa_9 Nn_9 Ha_9 Ga_9 rfl W10 (1) (by decide) (Nat.le_of_ble_eq_true rfl)
  have V10 : Arv Z h10 b3 k3 .long (8 : Int32) [(.long q0), (.long q1), (.long (0 : Int64)), (.long (0 : Int64)), (.long (0 : Int64)), (.long (0 : Int64)), (.long (0 : Int64)), (.long (0 : Int64))] (.long (0 : Int64)) := Va10
  have K10 := K6.wr W10 (Or.inr sz3)
  have N10 := Fr.snoc X10 N6 ge3
  obtain ⟨Lz11, X10, N10⟩ : ∃ Lz, Stand p l e room_1 s m #[(.long q0), (.long q1), (.long q2), (.long q3), (.int p4), (.int p5)] below meth c T10 Lz 1 8 ∧ Fr n0 Lz := ⟨_, X10, N10⟩
  show OG _ _ _ _ _ _ _ (T10.setTop (mkF m 62 #[.val (.long q0), .second, .val (.long q1), .second, .val (.long q2), .second, .val (.long q3), .second, .val (.int p4), .val (.int p5), .val (.int (Int32.ofNat nb)), .val (.int (Int32.ofNat fr)), .val (.int (Int32.ofNat cnt)), .val (.int (Int32.ofNat ia)), .val (.int (Int32.ofNat at_)), .val (.ref b3), .unset, .unset, .unset, .unset, .unset, .unset] []))
  have s12 : ∀ tz, Steps p.tables e below (T10.setTop (mkF m 67 #[.val (.long q0), .second, .val (.long q1), .second, .val (.long q2), .second, .val (.long q3), .second, .val (.int p4), .val (.int p5), .val (.int (Int32.ofNat nb)), .val (.int (Int32.ofNat fr)), .val (.int (Int32.ofNat cnt)), .val (.int (Int32.ofNat ia)), .val (.int (Int32.ofNat at_)), .val (.ref b3), .unset, .unset, .unset, .unset, .unset, .unset] [(.long q2), (.int (2 : Int32)), (.ref b3)])) tz → Steps p.tables e below (T10.setTop (mkF m 62 #[.val (.long q0), .second, .val (.long q1), .second, .val (.long q2), .second, .val (.long q3), .second, .val (.int p4), .val (.int p5), .val (.int (Int32.ofNat nb)), .val (.int (Int32.ofNat fr)), .val (.int (Int32.ofNat cnt)), .val (.int (Int32.ofNat ia)), .val (.int (Int32.ofNat at_)), .val (.ref b3), .unset, .unset, .unset, .unset, .unset, .unset] [])) tz := by
    intro tz kz
    refine XS.aload X10.here hx rfl (hb hby at_62) rfl rfl ?_
    show Steps p.tables e below (T10.setTop (mkF m 64 #[.val (.long q0), .second, .val (.long q1), .second, .val (.long q2), .second, .val (.long q3), .second, .val (.int p4), .val (.int p5), .val (.int (Int32.ofNat nb)), .val (.int (Int32.ofNat fr)), .val (.int (Int32.ofNat cnt)), .val (.int (Int32.ofNat ia)), .val (.int (Int32.ofNat at_)), .val (.ref b3), .unset, .unset, .unset, .unset, .unset, .unset] [(.ref b3)])) _
    refine XS.iconst X10.here hx rfl (hb hby at_64) ?_
    show Steps p.tables e below (T10.setTop (mkF m 65 #[.val (.long q0), .second, .val (.long q1), .second, .val (.long q2), .second, .val (.long q3), .second, .val (.int p4), .val (.int p5), .val (.int (Int32.ofNat nb)), .val (.int (Int32.ofNat fr)), .val (.int (Int32.ofNat cnt)), .val (.int (Int32.ofNat ia)), .val (.int (Int32.ofNat at_)), .val (.ref b3), .unset, .unset, .unset, .unset, .unset, .unset] [(.int (2 : Int32)), (.ref b3)])) _
    refine XS.lload X10.here hx rfl (hb hby at_65) rfl ?_
    exact kz
  refine OG.step s12 ?_
  have av13 := V10
  obtain ⟨cl13, Ar13, qa_13, Sa_13, Nn_13, Ha_13, Ga_13⟩ := av13
  have hin13 : ¬ ((2 : Int32) < 0 ∨ cl13.slots.size ≤ ((2 : Int32)).toNatClampNeg) := inb_of Sa_13 ⟨(by decide), (by decide)⟩
  obtain ⟨T14, h14, X14, e14, W14, st14⟩ := stJ X10 hx hZ e10 Ar13 (j := (2 : Int32)) hin13 (g := (mkF m 67 #[.val (.long q0), .second, .val (.long q1), .second, .val (.long q2), .second, .val (.long q3), .second, .val (.int p4), .val (.int p5), .val (.int (Int32.ofNat nb)), .val (.int (Int32.ofNat fr)), .val (.int (Int32.ofNat cnt)), .val (.int (Int32.ofNat ia)), .val (.int (Int32.ofNat at_)), .val (.ref b3), .unset, .unset, .unset, .unset, .unset, .unset] [(.long q2), (.int (2 : Int32)), (.ref b3)])) rfl rfl (hb hby at_67)
  refine OG.step st14 ?_
  have Va14 := Arv.set Ar13 qa_13 Sa_13 Nn_13 Ha_13 Ga_13 rfl W14 (2) (by decide) (Nat.le_of_ble_eq_true rfl)
  have V14 : Arv Z h14 b3 k3 .long (8 : Int32) [(.long q0), (.long q1), (.long q2), (.long (0 : Int64)), (.long (0 : Int64)), (.long (0 : Int64)), (.long (0 : Int64)), (.long (0 : Int64))] (.long (0 : Int64)) := Va14
  have K14 := K10.wr W14 (Or.inr sz3)
  have N14 := Fr.snoc X14 N10 ge3
  obtain ⟨Lz15, X14, N14⟩ : ∃ Lz, Stand p l e room_1 s m #[(.long q0), (.long q1), (.long q2), (.long q3), (.int p4), (.int p5)] below meth c T14 Lz 1 8 ∧ Fr n0 Lz := ⟨_, X14, N14⟩
  show OG _ _ _ _ _ _ _ (T14.setTop (mkF m 68 #[.val (.long q0), .second, .val (.long q1), .second, .val (.long q2), .second, .val (.long q3), .second, .val (.int p4), .val (.int p5), .val (.int (Int32.ofNat nb)), .val (.int (Int32.ofNat fr)), .val (.int (Int32.ofNat cnt)), .val (.int (Int32.ofNat ia)), .val (.int (Int32.ofNat at_)), .val (.ref b3), .unset, .unset, .unset, .unset, .unset, .unset] []))
  have s16 : ∀ tz, Steps p.tables e below (T14.setTop (mkF m 73 #[.val (.long q0), .second, .val (.long q1), .second, .val (.long q2), .second, .val (.long q3), .second, .val (.int p4), .val (.int p5), .val (.int (Int32.ofNat nb)), .val (.int (Int32.ofNat fr)), .val (.int (Int32.ofNat cnt)), .val (.int (Int32.ofNat ia)), .val (.int (Int32.ofNat at_)), .val (.ref b3), .unset, .unset, .unset, .unset, .unset, .unset] [(.long q3), (.int (3 : Int32)), (.ref b3)])) tz → Steps p.tables e below (T14.setTop (mkF m 68 #[.val (.long q0), .second, .val (.long q1), .second, .val (.long q2), .second, .val (.long q3), .second, .val (.int p4), .val (.int p5), .val (.int (Int32.ofNat nb)), .val (.int (Int32.ofNat fr)), .val (.int (Int32.ofNat cnt)), .val (.int (Int32.ofNat ia)), .val (.int (Int32.ofNat at_)), .val (.ref b3), .unset, .unset, .unset, .unset, .unset, .unset] [])) tz := by
    intro tz kz
    refine XS.aload X14.here hx rfl (hb hby at_68) rfl rfl ?_
    show Steps p.tables e below (T14.setTop (mkF m 70 #[.val (.long q0), .second, .val (.long q1), .second, .val (.long q2), .second, .val (.long q3), .second, .val (.int p4), .val (.int p5), .val (.int (Int32.ofNat nb)), .val (.int (Int32.ofNat fr)), .val (.int (Int32.ofNat cnt)), .val (.int (Int32.ofNat ia)), .val (.int (Int32.ofNat at_)), .val (.ref b3), .unset, .unset, .unset, .unset, .unset, .unset] [(.ref b3)])) _
    refine XS.iconst X14.here hx rfl (hb hby at_70) ?_
    show Steps p.tables e below (T14.setTop (mkF m 71 #[.val (.long q0), .second, .val (.long q1), .second, .val (.long q2), .second, .val (.long q3), .second, .val (.int p4), .val (.int p5), .val (.int (Int32.ofNat nb)), .val (.int (Int32.ofNat fr)), .val (.int (Int32.ofNat cnt)), .val (.int (Int32.ofNat ia)), .val (.int (Int32.ofNat at_)), .val (.ref b3), .unset, .unset, .unset, .unset, .unset, .unset] [(.int (3 : Int32)), (.ref b3)])) _
    refine XS.lload X14.here hx rfl (hb hby at_71) rfl ?_
    exact kz
  refine OG.step s16 ?_
  have av17 := V14
  obtain ⟨cl17, Ar17, qa_17, Sa_17, Nn_17, Ha_17, Ga_17⟩ := av17
  have hin17 : ¬ ((3 : Int32) < 0 ∨ cl17.slots.size ≤ ((3 : Int32)).toNatClampNeg) := inb_of Sa_17 ⟨(by decide), (by decide)⟩
  obtain ⟨T18, h18, X18, e18, W18, st18⟩ := stJ X14 hx hZ e14 Ar17 (j := (3 : Int32)) hin17 (g := (mkF m 73 #[.val (.long q0), .second, .val (.long q1), .second, .val (.long q2), .second, .val (.long q3), .second, .val (.int p4), .val (.int p5), .val (.int (Int32.ofNat nb)), .val (.int (Int32.ofNat fr)), .val (.int (Int32.ofNat cnt)), .val (.int (Int32.ofNat ia)), .val (.int (Int32.ofNat at_)), .val (.ref b3), .unset, .unset, .unset, .unset, .unset, .unset] [(.long q3), (.int (3 : Int32)), (.ref b3)])) rfl rfl (hb hby at_73)
  refine OG.step st18 ?_
  have Va18 := Arv.set Ar17 qa_17 Sa_17 Nn_17 Ha_17 Ga_17 rfl W18 (3) (by decide) (Nat.le_of_ble_eq_true rfl)
  have V18 : Arv Z h18 b3 k3 .long (8 : Int32) [(.long q0), (.long q1), (.long q2), (.long q3), (.long (0 : Int64)), (.long (0 : Int64)), (.long (0 : Int64)), (.long (0 : Int64))] (.long (0 : Int64)) := Va18
  have K18 := K14.wr W18 (Or.inr sz3)
  have N18 := Fr.snoc X18 N14 ge3
  obtain ⟨Lz19, X18, N18⟩ : ∃ Lz, Stand p l e room_1 s m #[(.long q0), (.long q1), (.long q2), (.long q3), (.int p4), (.int p5)] below meth c T18 Lz 1 8 ∧ Fr n0 Lz := ⟨_, X18, N18⟩
  show OG _ _ _ _ _ _ _ (T18.setTop (mkF m 74 #[.val (.long q0), .second, .val (.long q1), .second, .val (.long q2), .second, .val (.long q3), .second, .val (.int p4), .val (.int p5), .val (.int (Int32.ofNat nb)), .val (.int (Int32.ofNat fr)), .val (.int (Int32.ofNat cnt)), .val (.int (Int32.ofNat ia)), .val (.int (Int32.ofNat at_)), .val (.ref b3), .unset, .unset, .unset, .unset, .unset, .unset] []))
  have s20 : ∀ tz, Steps p.tables e below (T18.setTop (mkF m 82 #[.val (.long q0), .second, .val (.long q1), .second, .val (.long q2), .second, .val (.long q3), .second, .val (.int p4), .val (.int p5), .val (.int (Int32.ofNat nb)), .val (.int (Int32.ofNat fr)), .val (.int (Int32.ofNat cnt)), .val (.int (Int32.ofNat ia)), .val (.int (Int32.ofNat at_)), .val (.ref b3), .unset, .unset, .unset, .unset, .unset, .unset] [(.long (q0 ^^^ (-1 : Int64))), (.int (4 : Int32)), (.ref b3)])) tz → Steps p.tables e below (T18.setTop (mkF m 74 #[.val (.long q0), .second, .val (.long q1), .second, .val (.long q2), .second, .val (.long q3), .second, .val (.int p4), .val (.int p5), .val (.int (Int32.ofNat nb)), .val (.int (Int32.ofNat fr)), .val (.int (Int32.ofNat cnt)), .val (.int (Int32.ofNat ia)), .val (.int (Int32.ofNat at_)), .val (.ref b3), .unset, .unset, .unset, .unset, .unset, .unset] [])) tz := by
    intro tz kz
    refine XS.aload X18.here hx rfl (hb hby at_74) rfl rfl ?_
    show Steps p.tables e below (T18.setTop (mkF m 76 #[.val (.long q0), .second, .val (.long q1), .second, .val (.long q2), .second, .val (.long q3), .second, .val (.int p4), .val (.int p5), .val (.int (Int32.ofNat nb)), .val (.int (Int32.ofNat fr)), .val (.int (Int32.ofNat cnt)), .val (.int (Int32.ofNat ia)), .val (.int (Int32.ofNat at_)), .val (.ref b3), .unset, .unset, .unset, .unset, .unset, .unset] [(.ref b3)])) _
    refine XS.iconst X18.here hx rfl (hb hby at_76) ?_
    show Steps p.tables e below (T18.setTop (mkF m 77 #[.val (.long q0), .second, .val (.long q1), .second, .val (.long q2), .second, .val (.long q3), .second, .val (.int p4), .val (.int p5), .val (.int (Int32.ofNat nb)), .val (.int (Int32.ofNat fr)), .val (.int (Int32.ofNat cnt)), .val (.int (Int32.ofNat ia)), .val (.int (Int32.ofNat at_)), .val (.ref b3), .unset, .unset, .unset, .unset, .unset, .unset] [(.int (4 : Int32)), (.ref b3)])) _
    refine XS.lloadN X18.here hx rfl (hb hby at_77) rfl ?_
    show Steps p.tables e below (T18.setTop (mkF m 78 #[.val (.long q0), .second, .val (.long q1), .second, .val (.long q2), .second, .val (.long q3), .second, .val (.int p4), .val (.int p5), .val (.int (Int32.ofNat nb)), .val (.int (Int32.ofNat fr)), .val (.int (Int32.ofNat cnt)), .val (.int (Int32.ofNat ia)), .val (.int (Int32.ofNat at_)), .val (.ref b3), .unset, .unset, .unset, .unset, .unset, .unset] [(.long q0), (.int (4 : Int32)), (.ref b3)])) _
    refine X18.ldc2Long hx hown (mvT hZ (hw _ (List.mem_of_getElem? (i := 1) rfl))) (g := (mkF m 78 #[.val (.long q0), .second, .val (.long q1), .second, .val (.long q2), .second, .val (.long q3), .second, .val (.int p4), .val (.int p5), .val (.int (Int32.ofNat nb)), .val (.int (Int32.ofNat fr)), .val (.int (Int32.ofNat cnt)), .val (.int (Int32.ofNat ia)), .val (.int (Int32.ofNat at_)), .val (.ref b3), .unset, .unset, .unset, .unset, .unset, .unset] [(.long q0), (.int (4 : Int32)), (.ref b3)])) rfl (hb hby at_78) _ ?_
    show Steps p.tables e below (T18.setTop (mkF m 81 #[.val (.long q0), .second, .val (.long q1), .second, .val (.long q2), .second, .val (.long q3), .second, .val (.int p4), .val (.int p5), .val (.int (Int32.ofNat nb)), .val (.int (Int32.ofNat fr)), .val (.int (Int32.ofNat cnt)), .val (.int (Int32.ofNat ia)), .val (.int (Int32.ofNat at_)), .val (.ref b3), .unset, .unset, .unset, .unset, .unset, .unset] [(.long (-1 : Int64)), (.long q0), (.int (4 : Int32)), (.ref b3)])) _
    refine XS.lxor X18.here hx rfl (hb hby at_81) rfl ?_
    exact kz
  refine OG.step s20 ?_
  have av21 := V18
  obtain ⟨cl21, Ar21, qa_21, Sa_21, Nn_21, Ha_21, Ga_21⟩ := av21
  have hin21 : ¬ ((4 : Int32) < 0 ∨ cl21.slots.size ≤ ((4 : Int32)).toNatClampNeg) := inb_of Sa_21 ⟨(by decide), (by decide)⟩
  obtain ⟨T22, h22, X22, e22, W22, st22⟩ := stJ X18 hx hZ e18 Ar21 (j := (4 : Int32)) hin21 (g := (mkF m 82 #[.val (.long q0), .second, .val (.long q1), .second, .val (.long q2), .second, .val (.long q3), .second, .val (.int p4), .val (.int p5), .val (.int (Int32.ofNat nb)), .val (.int (Int32.ofNat fr)), .val (.int (Int32.ofNat cnt)), .val (.int (Int32.ofNat ia)), .val (.int (Int32.ofNat at_)), .val (.ref b3), .unset, .unset, .unset, .unset, .unset, .unset] [(.long (q0 ^^^ (-1 : Int64))), (.int (4 : Int32)), (.ref b3)])) rfl rfl (hb hby at_82)
  refine OG.step st22 ?_
  have Va22 := Arv.set Ar21 qa_21 Sa_21 Nn_21 Ha_21 Ga_21 rfl W22 (4) (by decide) (Nat.le_of_ble_eq_true rfl)
  have V22 : Arv Z h22 b3 k3 .long (8 : Int32) [(.long q0), (.long q1), (.long q2), (.long q3), (.long (q0 ^^^ (-1 : Int64))), (.long (0 : Int64)), (.long (0 : Int64)), (.long (0 : Int64))] (.long (0 : Int64)) := Va22
  have K22 := K18.wr W22 (Or.inr sz3)
  have N22 := Fr.snoc X22 N18 ge3
  obtain ⟨Lz23, X22, N22⟩ : ∃ Lz, Stand p l e room_1 s m #[(.long q0), (.long q1), (.long q2), (.long q3), (.int p4), (.int p5)] below meth c T22 Lz 1 8 ∧ Fr n0 Lz := ⟨_, X22, N22⟩
  show OG _ _ _ _ _ _ _ (T22.setTop (mkF m 83 #[.val (.long q0), .second, .val (.long q1), .second, .val (.long q2), .second, .val (.long q3), .second, .val (.int p4), .val (.int p5), .val (.int (Int32.ofNat nb)), .val (.int (Int32.ofNat fr)), .val (.int (Int32.ofNat cnt)), .val (.int (Int32.ofNat ia)), .val (.int (Int32.ofNat at_)), .val (.ref b3), .unset, .unset, .unset, .unset, .unset, .unset] []))
  have s24 : ∀ tz, Steps p.tables e below (T22.setTop (mkF m 91 #[.val (.long q0), .second, .val (.long q1), .second, .val (.long q2), .second, .val (.long q3), .second, .val (.int p4), .val (.int p5), .val (.int (Int32.ofNat nb)), .val (.int (Int32.ofNat fr)), .val (.int (Int32.ofNat cnt)), .val (.int (Int32.ofNat ia)), .val (.int (Int32.ofNat at_)), .val (.ref b3), .unset, .unset, .unset, .unset, .unset, .unset] [(.long (q1 ^^^ (-1 : Int64))), (.int (5 : Int32)), (.ref b3)])) tz → Steps p.tables e below (T22.setTop (mkF m 83 #[.val (.long q0), .second, .val (.long q1), .second, .val (.long q2), .second, .val (.long q3), .second, .val (.int p4), .val (.int p5), .val (.int (Int32.ofNat nb)), .val (.int (Int32.ofNat fr)), .val (.int (Int32.ofNat cnt)), .val (.int (Int32.ofNat ia)), .val (.int (Int32.ofNat at_)), .val (.ref b3), .unset, .unset, .unset, .unset, .unset, .unset] [])) tz := by
    intro tz kz
    refine XS.aload X22.here hx rfl (hb hby at_83) rfl rfl ?_
    show Steps p.tables e below (T22.setTop (mkF m 85 #[.val (.long q0), .second, .val (.long q1), .second, .val (.long q2), .second, .val (.long q3), .second, .val (.int p4), .val (.int p5), .val (.int (Int32.ofNat nb)), .val (.int (Int32.ofNat fr)), .val (.int (Int32.ofNat cnt)), .val (.int (Int32.ofNat ia)), .val (.int (Int32.ofNat at_)), .val (.ref b3), .unset, .unset, .unset, .unset, .unset, .unset] [(.ref b3)])) _
    refine XS.iconst X22.here hx rfl (hb hby at_85) ?_
    show Steps p.tables e below (T22.setTop (mkF m 86 #[.val (.long q0), .second, .val (.long q1), .second, .val (.long q2), .second, .val (.long q3), .second, .val (.int p4), .val (.int p5), .val (.int (Int32.ofNat nb)), .val (.int (Int32.ofNat fr)), .val (.int (Int32.ofNat cnt)), .val (.int (Int32.ofNat ia)), .val (.int (Int32.ofNat at_)), .val (.ref b3), .unset, .unset, .unset, .unset, .unset, .unset] [(.int (5 : Int32)), (.ref b3)])) _
    refine XS.lloadN X22.here hx rfl (hb hby at_86) rfl ?_
    show Steps p.tables e below (T22.setTop (mkF m 87 #[.val (.long q0), .second, .val (.long q1), .second, .val (.long q2), .second, .val (.long q3), .second, .val (.int p4), .val (.int p5), .val (.int (Int32.ofNat nb)), .val (.int (Int32.ofNat fr)), .val (.int (Int32.ofNat cnt)), .val (.int (Int32.ofNat ia)), .val (.int (Int32.ofNat at_)), .val (.ref b3), .unset, .unset, .unset, .unset, .unset, .unset] [(.long q1), (.int (5 : Int32)), (.ref b3)])) _
    refine X22.ldc2Long hx hown (mvT hZ (hw _ (List.mem_of_getElem? (i := 1) rfl))) (g := (mkF m 87 #[.val (.long q0), .second, .val (.long q1), .second, .val (.long q2), .second, .val (.long q3), .second, .val (.int p4), .val (.int p5), .val (.int (Int32.ofNat nb)), .val (.int (Int32.ofNat fr)), .val (.int (Int32.ofNat cnt)), .val (.int (Int32.ofNat ia)), .val (.int (Int32.ofNat at_)), .val (.ref b3), .unset, .unset, .unset, .unset, .unset, .unset] [(.long q1), (.int (5 : Int32)), (.ref b3)])) rfl (hb hby at_87) _ ?_
    show Steps p.tables e below (T22.setTop (mkF m 90 #[.val (.long q0), .second, .val (.long q1), .second, .val (.long q2), .second, .val (.long q3), .second, .val (.int p4), .val (.int p5), .val (.int (Int32.ofNat nb)), .val (.int (Int32.ofNat fr)), .val (.int (Int32.ofNat cnt)), .val (.int (Int32.ofNat ia)), .val (.int (Int32.ofNat at_)), .val (.ref b3), .unset, .unset, .unset, .unset, .unset, .unset] [(.long (-1 : Int64)), (.long q1), (.int (5 : Int32)), (.ref b3)])) _
    refine XS.lxor X22.here hx rfl (hb hby at_90) rfl ?_
    exact kz
  refine OG.step s24 ?_
  have av25 := V22
  obtain ⟨cl25, Ar25, qa_25, Sa_25, Nn_25, Ha_25, Ga_25⟩ := av25
  have hin25 : ¬ ((5 : Int32) < 0 ∨ cl25.slots.size ≤ ((5 : Int32)).toNatClampNeg) := inb_of Sa_25 ⟨(by decide), (by decide)⟩
  obtain ⟨T26, h26, X26, e26, W26, st26⟩ := stJ X22 hx hZ e22 Ar25 (j := (5 : Int32)) hin25 (g := (mkF m 91 #[.val (.long q0), .second, .val (.long q1), .second, .val (.long q2), .second, .val (.long q3), .second, .val (.int p4), .val (.int p5), .val (.int (Int32.ofNat nb)), .val (.int (Int32.ofNat fr)), .val (.int (Int32.ofNat cnt)), .val (.int (Int32.ofNat ia)), .val (.int (Int32.ofNat at_)), .val (.ref b3), .unset, .unset, .unset, .unset, .unset, .unset] [(.long (q1 ^^^ (-1 : Int64))), (.int (5 : Int32)), (.ref b3)])) rfl rfl (hb hby at_91)
  refine OG.step st26 ?_
  have Va26 := Arv.set Ar25 qa_25 Sa_25 Nn_25 Ha_25 Ga_25 rfl W26 (5) (by decide) (Nat.le_of_ble_eq_true rfl)
  have V26 : Arv Z h26 b3 k3 .long (8 : Int32) [(.long q0), (.long q1), (.long q2), (.long q3), (.long (q0 ^^^ (-1 : Int64))), (.long (q1 ^^^ (-1 : Int64))), (.long (0 : Int64)), (.long (0 : Int64))] (.long (0 : Int64)) := Va26
  have K26 := K22.wr W26 (Or.inr sz3)
  have N26 := Fr.snoc X26 N22 ge3
  obtain ⟨Lz27, X26, N26⟩ : ∃ Lz, Stand p l e room_1 s m #[(.long q0), (.long q1), (.long q2), (.long q3), (.int p4), (.int p5)] below meth c T26 Lz 1 8 ∧ Fr n0 Lz := ⟨_, X26, N26⟩
  show OG _ _ _ _ _ _ _ (T26.setTop (mkF m 92 #[.val (.long q0), .second, .val (.long q1), .second, .val (.long q2), .second, .val (.long q3), .second, .val (.int p4), .val (.int p5), .val (.int (Int32.ofNat nb)), .val (.int (Int32.ofNat fr)), .val (.int (Int32.ofNat cnt)), .val (.int (Int32.ofNat ia)), .val (.int (Int32.ofNat at_)), .val (.ref b3), .unset, .unset, .unset, .unset, .unset, .unset] []))
  have s28 : ∀ tz, Steps p.tables e below (T26.setTop (mkF m 102 #[.val (.long q0), .second, .val (.long q1), .second, .val (.long q2), .second, .val (.long q3), .second, .val (.int p4), .val (.int p5), .val (.int (Int32.ofNat nb)), .val (.int (Int32.ofNat fr)), .val (.int (Int32.ofNat cnt)), .val (.int (Int32.ofNat ia)), .val (.int (Int32.ofNat at_)), .val (.ref b3), .unset, .unset, .unset, .unset, .unset, .unset] [(.long (q2 ^^^ (-1 : Int64))), (.int (6 : Int32)), (.ref b3)])) tz → Steps p.tables e below (T26.setTop (mkF m 92 #[.val (.long q0), .second, .val (.long q1), .second, .val (.long q2), .second, .val (.long q3), .second, .val (.int p4), .val (.int p5), .val (.int (Int32.ofNat nb)), .val (.int (Int32.ofNat fr)), .val (.int (Int32.ofNat cnt)), .val (.int (Int32.ofNat ia)), .val (.int (Int32.ofNat at_)), .val (.ref b3), .unset, .unset, .unset, .unset, .unset, .unset] [])) tz := by
    intro tz kz
    refine XS.aload X26.here hx rfl (hb hby at_92) rfl rfl ?_
    show Steps p.tables e below (T26.setTop (mkF m 94 #[.val (.long q0), .second, .val (.long q1), .second, .val (.long q2), .second, .val (.long q3), .second, .val (.int p4), .val (.int p5), .val (.int (Int32.ofNat nb)), .val (.int (Int32.ofNat fr)), .val (.int (Int32.ofNat cnt)), .val (.int (Int32.ofNat ia)), .val (.int (Int32.ofNat at_)), .val (.ref b3), .unset, .unset, .unset, .unset, .unset, .unset] [(.ref b3)])) _
    refine XS.bipush X26.here hx rfl (hb hby at_94) ?_
    show Steps p.tables e below (T26.setTop (mkF m 96 #[.val (.long q0), .second, .val (.long q1), .second, .val (.long q2), .second, .val (.long q3), .second, .val (.int p4), .val (.int p5), .val (.int (Int32.ofNat nb)), .val (.int (Int32.ofNat fr)), .val (.int (Int32.ofNat cnt)), .val (.int (Int32.ofNat ia)), .val (.int (Int32.ofNat at_)), .val (.ref b3), .unset, .unset, .unset, .unset, .unset, .unset] [(.int (6 : Int32)), (.ref b3)])) _
    refine XS.lload X26.here hx rfl (hb hby at_96) rfl ?_
    show Steps p.tables e below (T26.setTop (mkF m 98 #[.val (.long q0), .second, .val (.long q1), .second, .val (.long q2), .second, .val (.long q3), .second, .val (.int p4), .val (.int p5), .val (.int (Int32.ofNat nb)), .val (.int (Int32.ofNat fr)), .val (.int (Int32.ofNat cnt)), .val (.int (Int32.ofNat ia)), .val (.int (Int32.ofNat at_)), .val (.ref b3), .unset, .unset, .unset, .unset, .unset, .unset] [(.long q2), (.int (6 : Int32)), (.ref b3)])) _
    refine X26.ldc2Long hx hown (mvT hZ (hw _ (List.mem_of_getElem? (i := 1) rfl))) (g := (mkF m 98 #[.val (.long q0), .second, .val (.long q1), .second, .val (.long q2), .second, .val (.long q3), .second, .val (.int p4), .val (.int p5), .val (.int (Int32.ofNat nb)), .val (.int (Int32.ofNat fr)), .val (.int (Int32.ofNat cnt)), .val (.int (Int32.ofNat ia)), .val (.int (Int32.ofNat at_)), .val (.ref b3), .unset, .unset, .unset, .unset, .unset, .unset] [(.long q2), (.int (6 : Int32)), (.ref b3)])) rfl (hb hby at_98) _ ?_
    show Steps p.tables e below (T26.setTop (mkF m 101 #[.val (.long q0), .second, .val (.long q1), .second, .val (.long q2), .second, .val (.long q3), .second, .val (.int p4), .val (.int p5), .val (.int (Int32.ofNat nb)), .val (.int (Int32.ofNat fr)), .val (.int (Int32.ofNat cnt)), .val (.int (Int32.ofNat ia)), .val (.int (Int32.ofNat at_)), .val (.ref b3), .unset, .unset, .unset, .unset, .unset, .unset] [(.long (-1 : Int64)), (.long q2), (.int (6 : Int32)), (.ref b3)])) _
    refine XS.lxor X26.here hx rfl (hb hby at_101) rfl ?_
    exact kz
  refine OG.step s28 ?_
  have av29 := V26
  obtain ⟨cl29, Ar29, qa_29, Sa_29, Nn_29, Ha_29, Ga_29⟩ := av29
  have hin29 : ¬ ((6 : Int32) < 0 ∨ cl29.slots.size ≤ ((6 : Int32)).toNatClampNeg) := inb_of Sa_29 ⟨(by decide), (by decide)⟩
  obtain ⟨T30, h30, X30, e30, W30, st30⟩ := stJ X26 hx hZ e26 Ar29 (j := (6 : Int32)) hin29 (g := (mkF m 102 #[.val (.long q0), .second, .val (.long q1), .second, .val (.long q2), .second, .val (.long q3), .second, .val (.int p4), .val (.int p5), .val (.int (Int32.ofNat nb)), .val (.int (Int32.ofNat fr)), .val (.int (Int32.ofNat cnt)), .val (.int (Int32.ofNat ia)), .val (.int (Int32.ofNat at_)), .val (.ref b3), .unset, .unset, .unset, .unset, .unset, .unset] [(.long (q2 ^^^ (-1 : Int64))), (.int (6 : Int32)), (.ref b3)])) rfl rfl (hb hby at_102)
  refine OG.step st30 ?_
  have Va30 := Arv.set Ar29 qa_29 Sa_29 Nn_29 Ha_29 Ga_29 rfl W30 (6) (by decide) (Nat.le_of_ble_eq_true rfl)
  have V30 : Arv Z h30 b3 k3 .long (8 : Int32) [(.long q0), (.long q1), (.long q2), (.long q3), (.long (q0 ^^^ (-1 : Int64))), (.long (q1 ^^^ (-1 : Int64))), (.long (q2 ^^^ (-1 : Int64))), (.long (0 : Int64))] (.long (0 : Int64)) := Va30
  have K30 := K26.wr W30 (Or.inr sz3)
  have N30 := Fr.snoc X30 N26 ge3
  obtain ⟨Lz31, X30, N30⟩ : ∃ Lz, Stand p l e room_1 s m #[(.long q0), (.long q1), (.long q2), (.long q3), (.int p4), (.int p5)] below meth c T30 Lz 1 8 ∧ Fr n0 Lz := ⟨_, X30, N30⟩
  show OG _ _ _ _ _ _ _ (T30.setTop (mkF m 103 #[.val (.long q0), .second, .val (.long q1), .second, .val (.long q2), .second, .val (.long q3), .second, .val (.int p4), .val (.int p5), .val (.int (Int32.ofNat nb)), .val (.int (Int32.ofNat fr)), .val (.int (Int32.ofNat cnt)), .val (.int (Int32.ofNat ia)), .val (.int (Int32.ofNat at_)), .val (.ref b3), .unset, .unset, .unset, .unset, .unset, .unset] []))
  have s32 : ∀ tz, Steps p.tables e below (T30.setTop (mkF m 113 #[.val (.long q0), .second, .val (.long q1), .second, .val (.long q2), .second, .val (.long q3), .second, .val (.int p4), .val (.int p5), .val (.int (Int32.ofNat nb)), .val (.int (Int32.ofNat fr)), .val (.int (Int32.ofNat cnt)), .val (.int (Int32.ofNat ia)), .val (.int (Int32.ofNat at_)), .val (.ref b3), .unset, .unset, .unset, .unset, .unset, .unset] [(.long (q3 ^^^ (-1 : Int64))), (.int (7 : Int32)), (.ref b3)])) tz → Steps p.tables e below (T30.setTop (mkF m 103 #[.val (.long q0), .second, .val (.long q1), .second, .val (.long q2), .second, .val (.long q3), .second, .val (.int p4), .val (.int p5), .val (.int (Int32.ofNat nb)), .val (.int (Int32.ofNat fr)), .val (.int (Int32.ofNat cnt)), .val (.int (Int32.ofNat ia)), .val (.int (Int32.ofNat at_)), .val (.ref b3), .unset, .unset, .unset, .unset, .unset, .unset] [])) tz := by
    intro tz kz
    refine XS.aload X30.here hx rfl (hb hby at_103) rfl rfl ?_
    show Steps p.tables e below (T30.setTop (mkF m 105 #[.val (.long q0), .second, .val (.long q1), .second, .val (.long q2), .second, .val (.long q3), .second, .val (.int p4), .val (.int p5), .val (.int (Int32.ofNat nb)), .val (.int (Int32.ofNat fr)), .val (.int (Int32.ofNat cnt)), .val (.int (Int32.ofNat ia)), .val (.int (Int32.ofNat at_)), .val (.ref b3), .unset, .unset, .unset, .unset, .unset, .unset] [(.ref b3)])) _
    refine XS.bipush X30.here hx rfl (hb hby at_105) ?_
    show Steps p.tables e below (T30.setTop (mkF m 107 #[.val (.long q0), .second, .val (.long q1), .second, .val (.long q2), .second, .val (.long q3), .second, .val (.int p4), .val (.int p5), .val (.int (Int32.ofNat nb)), .val (.int (Int32.ofNat fr)), .val (.int (Int32.ofNat cnt)), .val (.int (Int32.ofNat ia)), .val (.int (Int32.ofNat at_)), .val (.ref b3), .unset, .unset, .unset, .unset, .unset, .unset] [(.int (7 : Int32)), (.ref b3)])) _
    refine XS.lload X30.here hx rfl (hb hby at_107) rfl ?_
    show Steps p.tables e below (T30.setTop (mkF m 109 #[.val (.long q0), .second, .val (.long q1), .second, .val (.long q2), .second, .val (.long q3), .second, .val (.int p4), .val (.int p5), .val (.int (Int32.ofNat nb)), .val (.int (Int32.ofNat fr)), .val (.int (Int32.ofNat cnt)), .val (.int (Int32.ofNat ia)), .val (.int (Int32.ofNat at_)), .val (.ref b3), .unset, .unset, .unset, .unset, .unset, .unset] [(.long q3), (.int (7 : Int32)), (.ref b3)])) _
    refine X30.ldc2Long hx hown (mvT hZ (hw _ (List.mem_of_getElem? (i := 1) rfl))) (g := (mkF m 109 #[.val (.long q0), .second, .val (.long q1), .second, .val (.long q2), .second, .val (.long q3), .second, .val (.int p4), .val (.int p5), .val (.int (Int32.ofNat nb)), .val (.int (Int32.ofNat fr)), .val (.int (Int32.ofNat cnt)), .val (.int (Int32.ofNat ia)), .val (.int (Int32.ofNat at_)), .val (.ref b3), .unset, .unset, .unset, .unset, .unset, .unset] [(.long q3), (.int (7 : Int32)), (.ref b3)])) rfl (hb hby at_109) _ ?_
    show Steps p.tables e below (T30.setTop (mkF m 112 #[.val (.long q0), .second, .val (.long q1), .second, .val (.long q2), .second, .val (.long q3), .second, .val (.int p4), .val (.int p5), .val (.int (Int32.ofNat nb)), .val (.int (Int32.ofNat fr)), .val (.int (Int32.ofNat cnt)), .val (.int (Int32.ofNat ia)), .val (.int (Int32.ofNat at_)), .val (.ref b3), .unset, .unset, .unset, .unset, .unset, .unset] [(.long (-1 : Int64)), (.long q3), (.int (7 : Int32)), (.ref b3)])) _
    refine XS.lxor X30.here hx rfl (hb hby at_112) rfl ?_
    exact kz
  refine OG.step s32 ?_
  have av33 := V30
  obtain ⟨cl33, Ar33, qa_33, Sa_33, Nn_33, Ha_33, Ga_33⟩ := av33
  have hin33 : ¬ ((7 : Int32) < 0 ∨ cl33.slots.size ≤ ((7 : Int32)).toNatClampNeg) := inb_of Sa_33 ⟨(by decide), (by decide)⟩
  obtain ⟨T34, h34, X34, e34, W34, st34⟩ := stJ X30 hx hZ e30 Ar33 (j := (7 : Int32)) hin33 (g := (mkF m 113 #[.val (.long q0), .second, .val (.long q1), .second, .val (.long q2), .second, .val (.long q3), .second, .val (.int p4), .val (.int p5), .val (.int (Int32.ofNat nb)), .val (.int (Int32.ofNat fr)), .val (.int (Int32.ofNat cnt)), .val (.int (Int32.ofNat ia)), .val (.int (Int32.ofNat at_)), .val (.ref b3), .unset, .unset, .unset, .unset, .unset, .unset] [(.long (q3 ^^^ (-1 : Int64))), (.int (7 : Int32)), (.ref b3)])) rfl rfl (hb hby at_113)
  refine OG.step st34 ?_
  have Va34 := Arv.set Ar33 qa_33 Sa_33 Nn_33 Ha_33 Ga_33 rfl W34 (7) (by decide) (Nat.le_of_ble_eq_true rfl)
  have V34 : Arv Z h34 b3 k3 .long (8 : Int32) [(.long q0), (.long q1), (.long q2), (.long q3), (.long (q0 ^^^ (-1 : Int64))), (.long (q1 ^^^ (-1 : Int64))), (.long (q2 ^^^ (-1 : Int64))), (.long (q3 ^^^ (-1 : Int64)))] (.long (0 : Int64)) := Va34
  have K34 := K30.wr W34 (Or.inr sz3)
  have N34 := Fr.snoc X34 N30 ge3
  obtain ⟨Lz35, X34, N34⟩ : ∃ Lz, Stand p l e room_1 s m #[(.long q0), (.long q1), (.long q2), (.long q3), (.int p4), (.int p5)] below meth c T34 Lz 1 8 ∧ Fr n0 Lz := ⟨_, X34, N34⟩
  show OG _ _ _ _ _ _ _ (T34.setTop (mkF m 114 #[.val (.long q0), .second, .val (.long q1), .second, .val (.long q2), .second, .val (.long q3), .second, .val (.int p4), .val (.int p5), .val (.int (Int32.ofNat nb)), .val (.int (Int32.ofNat fr)), .val (.int (Int32.ofNat cnt)), .val (.int (Int32.ofNat ia)), .val (.int (Int32.ofNat at_)), .val (.ref b3), .unset, .unset, .unset, .unset, .unset, .unset] []))
  have Vw : Arv Z h34 b3 k3 .long (8 : Int32) (own_ws (own_W q0 q1 q2 q3)) (.long (0 : Int64)) := V34
  have s36 : ∀ tz, Steps p.tables e below (T34.setTop (mkF m 116 #[.val (.long q0), .second, .val (.long q1), .second, .val (.long q2), .second, .val (.long q3), .second, .val (.int p4), .val (.int p5), .val (.int (Int32.ofNat nb)), .val (.int (Int32.ofNat fr)), .val (.int (Int32.ofNat cnt)), .val (.int (Int32.ofNat ia)), .val (.int (Int32.ofNat at_)), .val (.ref b3), .unset, .unset, .unset, .unset, .unset, .unset] [(.int (64 : Int32))])) tz → Steps p.tables e below (T34.setTop (mkF m 114 #[.val (.long q0), .second, .val (.long q1), .second, .val (.long q2), .second, .val (.long q3), .second, .val (.int p4), .val (.int p5), .val (.int (Int32.ofNat nb)), .val (.int (Int32.ofNat fr)), .val (.int (Int32.ofNat cnt)), .val (.int (Int32.ofNat ia)), .val (.int (Int32.ofNat at_)), .val (.ref b3), .unset, .unset, .unset, .unset, .unset, .unset] [])) tz := by
    intro tz kz
    refine XS.bipush X34.here hx rfl (hb hby at_114) ?_
    exact kz
  refine OG.step s36 ?_
  obtain ⟨T37, h37, k37, X37, e37, E37, A37, st37⟩ := newP X34 hx hZ (hw _ (List.mem_of_getElem? (i := 2) rfl)) e34 (g := (mkF m 116 #[.val (.long q0), .second, .val (.long q1), .second, .val (.long q2), .second, .val (.long q3), .second, .val (.int p4), .val (.int p5), .val (.int (Int32.ofNat nb)), .val (.int (Int32.ofNat fr)), .val (.int (Int32.ofNat cnt)), .val (.int (Int32.ofNat ia)), .val (.int (Int32.ofNat at_)), .val (.ref b3), .unset, .unset, .unset, .unset, .unset, .unset] [(.int (64 : Int32))])) rfl (hb hby at_116) rfl (by decide) (cap := 64) (by decide) (by decide) (by decide) (by decide)
  obtain ⟨b37, g37⟩ : ∃ z, z = h34.size := ⟨_, rfl⟩
  rw [← g37] at A37 st37
  have sz37 : h0.size ≤ b37 := Nat.le_trans K34.1 (Nat.le_of_eq g37.symm)
  have ge37 : n0 ≤ b37 := Nat.le_trans Z0 sz37
  have ne37_b3 : b3 ≠ b37 := Nat.ne_of_lt (Nat.lt_of_lt_of_le Vw.lt (Nat.le_of_eq g37.symm))
  refine OG.step st37 ?_
  have f38 := Vw.ext E37
  have V37 : Arv Z h37 b37 k37 .byte (64 : Int32) (List.replicate 64 (.int (0 : Int32))) (.int (0 : Int32)) := (Arv.new A37 (by decide)).pad (pad_rep [] (.int (0 : Int32)) 64)
  have K37 := K34.ext E37
  show OG _ _ _ _ _ _ _ (T37.setTop (mkF m 118 #[.val (.long q0), .second, .val (.long q1), .second, .val (.long q2), .second, .val (.long q3), .second, .val (.int p4), .val (.int p5), .val (.int (Int32.ofNat nb)), .val (.int (Int32.ofNat fr)), .val (.int (Int32.ofNat cnt)), .val (.int (Int32.ofNat ia)), .val (.int (Int32.ofNat at_)), .val (.ref b3), .unset, .unset, .unset, .unset, .unset, .unset] [(.ref b37)]))
  have Vb : Arv Z h37 b37 k37 .byte (64 : Int32) (own_bs own_z) (.int (0 : Int32)) := own_bz ▸ V37
  have s39 : ∀ tz, Steps p.tables e below (T37.setTop (mkF m 126 #[.val (.long q0), .second, .val (.long q1), .second, .val (.long q2), .second, .val (.long q3), .second, .val (.int p4), .val (.int p5), .val (.int (Int32.ofNat nb)), .val (.int (Int32.ofNat fr)), .val (.int (Int32.ofNat cnt)), .val (.int (Int32.ofNat ia)), .val (.int (Int32.ofNat at_)), .val (.ref b3), .val (.ref b37), .unset, .unset, .unset, .unset, .unset] [(.int (0 : Int32)), (.ref b3), (.int (0 : Int32)), (.ref b37)])) tz → Steps p.tables e below (T37.setTop (mkF m 118 #[.val (.long q0), .second, .val (.long q1), .second, .val (.long q2), .second, .val (.long q3), .second, .val (.int p4), .val (.int p5), .val (.int (Int32.ofNat nb)), .val (.int (Int32.ofNat fr)), .val (.int (Int32.ofNat cnt)), .val (.int (Int32.ofNat ia)), .val (.int (Int32.ofNat at_)), .val (.ref b3), .unset, .unset, .unset, .unset, .unset, .unset] [(.ref b37)])) tz := by
    intro tz kz
    refine XS.astore X37.here hx rfl (hb hby at_118) rfl rfl (l' := #[.val (.long q0), .second, .val (.long q1), .second, .val (.long q2), .second, .val (.long q3), .second, .val (.int p4), .val (.int p5), .val (.int (Int32.ofNat nb)), .val (.int (Int32.ofNat fr)), .val (.int (Int32.ofNat cnt)), .val (.int (Int32.ofNat ia)), .val (.int (Int32.ofNat at_)), .val (.ref b3), .val (.ref b37), .unset, .unset, .unset, .unset, .unset]) rfl ?_
    show Steps p.tables e below (T37.setTop (mkF m 120 #[.val (.long q0), .second, .val (.long q1), .second, .val (.long q2), .second, .val (.long q3), .second, .val (.int p4), .val (.int p5), .val (.int (Int32.ofNat nb)), .val (.int (Int32.ofNat fr)), .val (.int (Int32.ofNat cnt)), .val (.int (Int32.ofNat ia)), .val (.int (Int32.ofNat at_)), .val (.ref b3), .val (.ref b37), .unset, .unset, .unset, .unset, .unset] [])) _
    refine XS.aload X37.here hx rfl (hb hby at_120) rfl rfl ?_
    show Steps p.tables e below (T37.setTop (mkF m 122 #[.val (.long q0), .second, .val (.long q1), .second, .val (.long q2), .second, .val (.long q3), .second, .val (.int p4), .val (.int p5), .val (.int (Int32.ofNat nb)), .val (.int (Int32.ofNat fr)), .val (.int (Int32.ofNat cnt)), .val (.int (Int32.ofNat ia)), .val (.int (Int32.ofNat at_)), .val (.ref b3), .val (.ref b37), .unset, .unset, .unset, .unset, .unset] [(.ref b37)])) _
    refine XS.iconst X37.here hx rfl (hb hby at_122) ?_
    show Steps p.tables e below (T37.setTop (mkF m 123 #[.val (.long q0), .second, .val (.long q1), .second, .val (.long q2), .second, .val (.long q3), .second, .val (.int p4), .val (.int p5), .val (.int (Int32.ofNat nb)), .val (.int (Int32.ofNat fr)), .val (.int (Int32.ofNat cnt)), .val (.int (Int32.ofNat ia)), .val (.int (Int32.ofNat at_)), .val (.ref b3), .val (.ref b37), .unset, .unset, .unset, .unset, .unset] [(.int (0 : Int32)), (.ref b37)])) _
    refine XS.aload X37.here hx rfl (hb hby at_123) rfl rfl ?_
    show Steps p.tables e below (T37.setTop (mkF m 125 #[.val (.long q0), .second, .val (.long q1), .second, .val (.long q2), .second, .val (.long q3), .second, .val (.int p4), .val (.int p5), .val (.int (Int32.ofNat nb)), .val (.int (Int32.ofNat fr)), .val (.int (Int32.ofNat cnt)), .val (.int (Int32.ofNat ia)), .val (.int (Int32.ofNat at_)), .val (.ref b3), .val (.ref b37), .unset, .unset, .unset, .unset, .unset] [(.ref b3), (.int (0 : Int32)), (.ref b37)])) _
    refine XS.iconst X37.here hx rfl (hb hby at_125) ?_
    exact kz
  refine OG.step s39 ?_
  have av40 := f38
  obtain ⟨cl40, Ar40, qa_40, Sa_40, Nn_40, Ha_40, Ga_40⟩ := av40
  have hin40 : ¬ ((0 : Int32) < 0 ∨ cl40.slots.size ≤ ((0 : Int32)).toNatClampNeg) := inb_of Sa_40 ⟨(by decide), (by decide)⟩
  have hat40 : cl40.slots[((0 : Int32)).toNatClampNeg]? = some (.long (own_W q0 q1 q2 q3 0)) := Ha_40.at hin40 (own_wget (own_W q0 q1 q2 q3) (x := 0) (by decide) (by decide))
  refine OG.step (X37.laload hx (j := (0 : Int32)) (v := (.long (own_W q0 q1 q2 q3 0))) (by rw [e37]; exact Ar40.1) (State.isArrayOf_alike hZ.alike Ar40.2.1) Ar40.2.2 hin40 hat40 (g := (mkF m 126 #[.val (.long q0), .second, .val (.long q1), .second, .val (.long q2), .second, .val (.long q3), .second, .val (.int p4), .val (.int p5), .val (.int (Int32.ofNat nb)), .val (.int (Int32.ofNat fr)), .val (.int (Int32.ofNat cnt)), .val (.int (Int32.ofNat ia)), .val (.int (Int32.ofNat at_)), .val (.ref b3), .val (.ref b37), .unset, .unset, .unset, .unset, .unset] [(.int (0 : Int32)), (.ref b3), (.int (0 : Int32)), (.ref b37)])) rfl rfl (hb hby at_126)) ?_
  show OG _ _ _ _ _ _ _ (T37.setTop (mkF m 127 #[.val (.long q0), .second, .val (.long q1), .second, .val (.long q2), .second, .val (.long q3), .second, .val (.int p4), .val (.int p5), .val (.int (Int32.ofNat nb)), .val (.int (Int32.ofNat fr)), .val (.int (Int32.ofNat cnt)), .val (.int (Int32.ofNat ia)), .val (.int (Int32.ofNat at_)), .val (.ref b3), .val (.ref b37), .unset, .unset, .unset, .unset, .unset] [(.long (own_W q0 q1 q2 q3 0)), (.int (0 : Int32)), (.ref b37)]))
  obtain ⟨_, _, ⟨T41, L41, k41, n41⟩, -, X41, ⟨Lc41, hQ41, l41, y41, z41⟩, st41⟩ := Jvm.LawKit.callS X37 hx (y := (⟨"com/example/strata/strata/PostingsUnpackTimesPinLaw", "put", "([BIJ)V"⟩ : MethodName)) hown (mvT hZ (hw _ (List.mem_of_getElem? (i := 3) rfl))) (mvT hZ (hw _ (List.mem_of_getElem? (i := 4) rfl))) (mvT hZ (hw _ (List.mem_of_getElem? (i := 5) rfl))) (mvT hZ (hw _ (List.mem_of_getElem? (i := 6) rfl))) (by decide) (backOf (W := 0) (rm1 l Z a0 hw [] b37 (own_W q0 q1 q2 q3 0) 0 k37 own_z h37 n0 (Nat.le_trans Z0 K37.1) Vb ge37 (by decide)) hZ (hw _ (List.mem_of_getElem? (i := 6) rfl)) (hw _ (List.mem_of_getElem? (i := 5) rfl)) (by decide) (by decide)) (g := (mkF m 127 #[.val (.long q0), .second, .val (.long q1), .second, .val (.long q2), .second, .val (.long q3), .second, .val (.int p4), .val (.int p5), .val (.int (Int32.ofNat nb)), .val (.int (Int32.ofNat fr)), .val (.int (Int32.ofNat cnt)), .val (.int (Int32.ofNat ia)), .val (.int (Int32.ofNat at_)), .val (.ref b3), .val (.ref b37), .unset, .unset, .unset, .unset, .unset] [(.long (own_W q0 q1 q2 q3 0)), (.int (0 : Int32)), (.ref b37)])) rfl (by rw [hml]; rfl) (argsL := [(.ref b37), (.int (0 : Int32)), (.long (own_W q0 q1 q2 q3 0))]) (rest := []) (lenOf pd___BIJ_V rfl) rfl (by show 2 * 0 + _ ≤ _; exact Nat.le_of_eq rfl) (hb hby at_127) (fun _ _ => ⟨rfl, e37, (by decide : 2 + 0 ≤ _), (by decide : 72 + 0 ≤ _)⟩)
  dsimp only [Pt.U, Pt.locs, Pt.cells, Pt.slots] at X41 l41 y41 z41 st41 hQ41
  subst l41 y41 z41
  obtain ⟨rfl, N41q, Kc41, p41_0⟩ := hQ41
  have N41 := Fr.app N34 N41q
  refine OG.step st41 ?_
  have f42 := f38.keep Kc41 (ninS ne37_b3 nin0)
  have K41 := K37.trans Kc41 (allS (Or.inr sz37) all0)
  obtain ⟨Lz44, X41, N41⟩ : ∃ Lz, Stand p l e room_1 s m #[(.long q0), (.long q1), (.long q2), (.long q3), (.int p4), (.int p5)] below meth c T41 Lz 2 72 ∧ Fr n0 Lz := ⟨_, X41, N41⟩
  show OG _ _ _ _ _ _ _ (T41.setTop (mkF m 130 #[.val (.long q0), .second, .val (.long q1), .second, .val (.long q2), .second, .val (.long q3), .second, .val (.int p4), .val (.int p5), .val (.int (Int32.ofNat nb)), .val (.int (Int32.ofNat fr)), .val (.int (Int32.ofNat cnt)), .val (.int (Int32.ofNat ia)), .val (.int (Int32.ofNat at_)), .val (.ref b3), .val (.ref b37), .unset, .unset, .unset, .unset, .unset] []))
  have s45 : ∀ tz, Steps p.tables e below (T41.setTop (mkF m 137 #[.val (.long q0), .second, .val (.long q1), .second, .val (.long q2), .second, .val (.long q3), .second, .val (.int p4), .val (.int p5), .val (.int (Int32.ofNat nb)), .val (.int (Int32.ofNat fr)), .val (.int (Int32.ofNat cnt)), .val (.int (Int32.ofNat ia)), .val (.int (Int32.ofNat at_)), .val (.ref b3), .val (.ref b37), .unset, .unset, .unset, .unset, .unset] [(.int (1 : Int32)), (.ref b3), (.int (8 : Int32)), (.ref b37)])) tz → Steps p.tables e below (T41.setTop (mkF m 130 #[.val (.long q0), .second, .val (.long q1), .second, .val (.long q2), .second, .val (.long q3), .second, .val (.int p4), .val (.int p5), .val (.int (Int32.ofNat nb)), .val (.int (Int32.ofNat fr)), .val (.int (Int32.ofNat cnt)), .val (.int (Int32.ofNat ia)), .val (.int (Int32.ofNat at_)), .val (.ref b3), .val (.ref b37), .unset, .unset, .unset, .unset, .unset] [])) tz := by
    intro tz kz
    refine XS.aload X41.here hx rfl (hb hby at_130) rfl rfl ?_
    show Steps p.tables e below (T41.setTop (mkF m 132 #[.val (.long q0), .second, .val (.long q1), .second, .val (.long q2), .second, .val (.long q3), .second, .val (.int p4), .val (.int p5), .val (.int (Int32.ofNat nb)), .val (.int (Int32.ofNat fr)), .val (.int (Int32.ofNat cnt)), .val (.int (Int32.ofNat ia)), .val (.int (Int32.ofNat at_)), .val (.ref b3), .val (.ref b37), .unset, .unset, .unset, .unset, .unset] [(.ref b37)])) _
    refine XS.bipush X41.here hx rfl (hb hby at_132) ?_
    show Steps p.tables e below (T41.setTop (mkF m 134 #[.val (.long q0), .second, .val (.long q1), .second, .val (.long q2), .second, .val (.long q3), .second, .val (.int p4), .val (.int p5), .val (.int (Int32.ofNat nb)), .val (.int (Int32.ofNat fr)), .val (.int (Int32.ofNat cnt)), .val (.int (Int32.ofNat ia)), .val (.int (Int32.ofNat at_)), .val (.ref b3), .val (.ref b37), .unset, .unset, .unset, .unset, .unset] [(.int (8 : Int32)), (.ref b37)])) _
    refine XS.aload X41.here hx rfl (hb hby at_134) rfl rfl ?_
    show Steps p.tables e below (T41.setTop (mkF m 136 #[.val (.long q0), .second, .val (.long q1), .second, .val (.long q2), .second, .val (.long q3), .second, .val (.int p4), .val (.int p5), .val (.int (Int32.ofNat nb)), .val (.int (Int32.ofNat fr)), .val (.int (Int32.ofNat cnt)), .val (.int (Int32.ofNat ia)), .val (.int (Int32.ofNat at_)), .val (.ref b3), .val (.ref b37), .unset, .unset, .unset, .unset, .unset] [(.ref b3), (.int (8 : Int32)), (.ref b37)])) _
    refine XS.iconst X41.here hx rfl (hb hby at_136) ?_
    exact kz
  refine OG.step s45 ?_
  have av46 := f42
  obtain ⟨cl46, Ar46, qa_46, Sa_46, Nn_46, Ha_46, Ga_46⟩ := av46
  have hin46 : ¬ ((1 : Int32) < 0 ∨ cl46.slots.size ≤ ((1 : Int32)).toNatClampNeg) := inb_of Sa_46 ⟨(by decide), (by decide)⟩
  have hat46 : cl46.slots[((1 : Int32)).toNatClampNeg]? = some (.long (own_W q0 q1 q2 q3 1)) := Ha_46.at hin46 (own_wget (own_W q0 q1 q2 q3) (x := 1) (by decide) (by decide))
  refine OG.step (X41.laload hx (j := (1 : Int32)) (v := (.long (own_W q0 q1 q2 q3 1))) Ar46.1 (State.isArrayOf_alike hZ.alike Ar46.2.1) Ar46.2.2 hin46 hat46 (g := (mkF m 137 #[.val (.long q0), .second, .val (.long q1), .second, .val (.long q2), .second, .val (.long q3), .second, .val (.int p4), .val (.int p5), .val (.int (Int32.ofNat nb)), .val (.int (Int32.ofNat fr)), .val (.int (Int32.ofNat cnt)), .val (.int (Int32.ofNat ia)), .val (.int (Int32.ofNat at_)), .val (.ref b3), .val (.ref b37), .unset, .unset, .unset, .unset, .unset] [(.int (1 : Int32)), (.ref b3), (.int (8 : Int32)), (.ref b37)])) rfl rfl (hb hby at_137)) ?_
  show OG _ _ _ _ _ _ _ (T41.setTop (mkF m 138 #[.val (.long q0), .second, .val (.long q1), .second, .val (.long q2), .second, .val (.long q3), .second, .val (.int p4), .val (.int p5), .val (.int (Int32.ofNat nb)), .val (.int (Int32.ofNat fr)), .val (.int (Int32.ofNat cnt)), .val (.int (Int32.ofNat ia)), .val (.int (Int32.ofNat at_)), .val (.ref b3), .val (.ref b37), .unset, .unset, .unset, .unset, .unset] [(.long (own_W q0 q1 q2 q3 1)), (.int (8 : Int32)), (.ref b37)]))
  obtain ⟨_, _, ⟨T47, L47, k47, n47⟩, -, X47, ⟨Lc47, hQ47, l47, y47, z47⟩, st47⟩ := Jvm.LawKit.callS X41 hx (y := (⟨"com/example/strata/strata/PostingsUnpackTimesPinLaw", "put", "([BIJ)V"⟩ : MethodName)) hown (mvT hZ (hw _ (List.mem_of_getElem? (i := 3) rfl))) (mvT hZ (hw _ (List.mem_of_getElem? (i := 4) rfl))) (mvT hZ (hw _ (List.mem_of_getElem? (i := 5) rfl))) (mvT hZ (hw _ (List.mem_of_getElem? (i := 6) rfl))) (by decide) (backOf (W := 0) (rm1 l Z a0 hw [] b37 (own_W q0 q1 q2 q3 1) 8 k37 (own_put own_z 0 (own_W q0 q1 q2 q3 0)) T41.heap n0 (Nat.le_trans Z0 K41.1) p41_0 ge37 (by decide)) hZ (hw _ (List.mem_of_getElem? (i := 6) rfl)) (hw _ (List.mem_of_getElem? (i := 5) rfl)) (by decide) (by decide)) (g := (mkF m 138 #[.val (.long q0), .second, .val (.long q1), .second, .val (.long q2), .second, .val (.long q3), .second, .val (.int p4), .val (.int p5), .val (.int (Int32.ofNat nb)), .val (.int (Int32.ofNat fr)), .val (.int (Int32.ofNat cnt)), .val (.int (Int32.ofNat ia)), .val (.int (Int32.ofNat at_)), .val (.ref b3), .val (.ref b37), .unset, .unset, .unset, .unset, .unset] [(.long (own_W q0 q1 q2 q3 1)), (.int (8 : Int32)), (.ref b37)])) rfl (by rw [hml]; rfl) (argsL := [(.ref b37), (.int (8 : Int32)), (.long (own_W q0 q1 q2 q3 1))]) (rest := []) (lenOf pd___BIJ_V rfl) rfl (by show 2 * 0 + _ ≤ _; exact Nat.le_of_eq rfl) (hb hby at_138) (fun _ _ => ⟨rfl, rfl, (by decide : 2 + 0 ≤ _), (by decide : 72 + 0 ≤ _)⟩)
  dsimp only [Pt.U, Pt.locs, Pt.cells, Pt.slots] at X47 l47 y47 z47 st47 hQ47
  subst l47 y47 z47
  obtain ⟨rfl, N47q, Kc47, p47_0⟩ := hQ47
  have N47 := Fr.app N41 N47q
  refine OG.step st47 ?_
  have f48 := f42.keep Kc47 (ninS ne37_b3 nin0)
  have K47 := K41.trans Kc47 (allS (Or.inr sz37) all0)
  obtain ⟨Lz50, X47, N47⟩ : ∃ Lz, Stand p l e room_1 s m #[(.long q0), (.long q1), (.long q2), (.long q3), (.int p4), (.int p5)] below meth c T47 Lz 2 72 ∧ Fr n0 Lz := ⟨_, X47, N47⟩
  show OG _ _ _ _ _ _ _ (T47.setTop (mkF m 141 #[.val (.long q0), .second, .val (.long q1), .second, .val (.long q2), .second, .val (.long q3), .second, .val (.int p4), .val (.int p5), .val (.int (Int32.ofNat nb)), .val (.int (Int32.ofNat fr)), .val (.int (Int32.ofNat cnt)), .val (.int (Int32.ofNat ia)), .val (.int (Int32.ofNat at_)), .val (.ref b3), .val (.ref b37), .unset, .unset, .unset, .unset, .unset] []))
  have s51 : ∀ tz, Steps p.tables e below (T47.setTop (mkF m 148 #[.val (.long q0), .second, .val (.long q1), .second, .val (.long q2), .second, .val (.long q3), .second, .val (.int p4), .val (.int p5), .val (.int (Int32.ofNat nb)), .val (.int (Int32.ofNat fr)), .val (.int (Int32.ofNat cnt)), .val (.int (Int32.ofNat ia)), .val (.int (Int32.ofNat at_)), .val (.ref b3), .val (.ref b37), .unset, .unset, .unset, .unset, .unset] [(.int (2 : Int32)), (.ref b3), (.int (16 : Int32)), (.ref b37)])) tz → Steps p.tables e below (T47.setTop (mkF m 141 #[.val (.long q0), .second, .val (.long q1), .second, .val (.long q2), .second, .val (.long q3), .second, .val (.int p4), .val (.int p5), .val (.int (Int32.ofNat nb)), .val (.int (Int32.ofNat fr)), .val (.int (Int32.ofNat cnt)), .val (.int (Int32.ofNat ia)), .val (.int (Int32.ofNat at_)), .val (.ref b3), .val (.ref b37), .unset, .unset, .unset, .unset, .unset] [])) tz := by
    intro tz kz
    refine XS.aload X47.here hx rfl (hb hby at_141) rfl rfl ?_
    show Steps p.tables e below (T47.setTop (mkF m 143 #[.val (.long q0), .second, .val (.long q1), .second, .val (.long q2), .second, .val (.long q3), .second, .val (.int p4), .val (.int p5), .val (.int (Int32.ofNat nb)), .val (.int (Int32.ofNat fr)), .val (.int (Int32.ofNat cnt)), .val (.int (Int32.ofNat ia)), .val (.int (Int32.ofNat at_)), .val (.ref b3), .val (.ref b37), .unset, .unset, .unset, .unset, .unset] [(.ref b37)])) _
    refine XS.bipush X47.here hx rfl (hb hby at_143) ?_
    show Steps p.tables e below (T47.setTop (mkF m 145 #[.val (.long q0), .second, .val (.long q1), .second, .val (.long q2), .second, .val (.long q3), .second, .val (.int p4), .val (.int p5), .val (.int (Int32.ofNat nb)), .val (.int (Int32.ofNat fr)), .val (.int (Int32.ofNat cnt)), .val (.int (Int32.ofNat ia)), .val (.int (Int32.ofNat at_)), .val (.ref b3), .val (.ref b37), .unset, .unset, .unset, .unset, .unset] [(.int (16 : Int32)), (.ref b37)])) _
    refine XS.aload X47.here hx rfl (hb hby at_145) rfl rfl ?_
    show Steps p.tables e below (T47.setTop (mkF m 147 #[.val (.long q0), .second, .val (.long q1), .second, .val (.long q2), .second, .val (.long q3), .second, .val (.int p4), .val (.int p5), .val (.int (Int32.ofNat nb)), .val (.int (Int32.ofNat fr)), .val (.int (Int32.ofNat cnt)), .val (.int (Int32.ofNat ia)), .val (.int (Int32.ofNat at_)), .val (.ref b3), .val (.ref b37), .unset, .unset, .unset, .unset, .unset] [(.ref b3), (.int (16 : Int32)), (.ref b37)])) _
    refine XS.iconst X47.here hx rfl (hb hby at_147) ?_
    exact kz
  refine OG.step s51 ?_
  have av52 := f48
  obtain ⟨cl52, Ar52, qa_52, Sa_52, Nn_52, Ha_52, Ga_52⟩ := av52
  have hin52 : ¬ ((2 : Int32) < 0 ∨ cl52.slots.size ≤ ((2 : Int32)).toNatClampNeg) := inb_of Sa_52 ⟨(by decide), (by decide)⟩
  have hat52 : cl52.slots[((2 : Int32)).toNatClampNeg]? = some (.long (own_W q0 q1 q2 q3 2)) := Ha_52.at hin52 (own_wget (own_W q0 q1 q2 q3) (x := 2) (by decide) (by decide))
  refine OG.step (X47.laload hx (j := (2 : Int32)) (v := (.long (own_W q0 q1 q2 q3 2))) Ar52.1 (State.isArrayOf_alike hZ.alike Ar52.2.1) Ar52.2.2 hin52 hat52 (g := (mkF m 148 #[.val (.long q0), .second, .val (.long q1), .second, .val (.long q2), .second, .val (.long q3), .second, .val (.int p4), .val (.int p5), .val (.int (Int32.ofNat nb)), .val (.int (Int32.ofNat fr)), .val (.int (Int32.ofNat cnt)), .val (.int (Int32.ofNat ia)), .val (.int (Int32.ofNat at_)), .val (.ref b3), .val (.ref b37), .unset, .unset, .unset, .unset, .unset] [(.int (2 : Int32)), (.ref b3), (.int (16 : Int32)), (.ref b37)])) rfl rfl (hb hby at_148)) ?_
  show OG _ _ _ _ _ _ _ (T47.setTop (mkF m 149 #[.val (.long q0), .second, .val (.long q1), .second, .val (.long q2), .second, .val (.long q3), .second, .val (.int p4), .val (.int p5), .val (.int (Int32.ofNat nb)), .val (.int (Int32.ofNat fr)), .val (.int (Int32.ofNat cnt)), .val (.int (Int32.ofNat ia)), .val (.int (Int32.ofNat at_)), .val (.ref b3), .val (.ref b37), .unset, .unset, .unset, .unset, .unset] [(.long (own_W q0 q1 q2 q3 2)), (.int (16 : Int32)), (.ref b37)]))
  obtain ⟨_, _, ⟨T53, L53, k53, n53⟩, -, X53, ⟨Lc53, hQ53, l53, y53, z53⟩, st53⟩ := Jvm.LawKit.callS X47 hx (y := (⟨"com/example/strata/strata/PostingsUnpackTimesPinLaw", "put", "([BIJ)V"⟩ : MethodName)) hown (mvT hZ (hw _ (List.mem_of_getElem? (i := 3) rfl))) (mvT hZ (hw _ (List.mem_of_getElem? (i := 4) rfl))) (mvT hZ (hw _ (List.mem_of_getElem? (i := 5) rfl))) (mvT hZ (hw _ (List.mem_of_getElem? (i := 6) rfl))) (by decide) (backOf (W := 0) (rm1 l Z a0 hw [] b37 (own_W q0 q1 q2 q3 2) 16 k37 (own_put (own_put own_z 0 (own_W q0 q1 q2 q3 0)) 8 (own_W q0 q1 q2 q3 1)) T47.heap n0 (Nat.le_trans Z0 K47.1) p47_0 ge37 (by decide)) hZ (hw _ (List.mem_of_getElem? (i := 6) rfl)) (hw _ (List.mem_of_getElem? (i := 5) rfl)) (by decide) (by decide)) (g := (mkF m 149 #[.val (.long q0), .second, .val (.long q1), .second, .val (.long q2), .second, .val (.long q3), .second, .val (.int p4), .val (.int p5), .val (.int (Int32.ofNat nb)), .val (.int (Int32.ofNat fr)), .val (.int (Int32.ofNat cnt)), .val (.int (Int32.ofNat ia)), .val (.int (Int32.ofNat at_)), .val (.ref b3), .val (.ref b37), .unset, .unset, .unset, .unset, .unset] [(.long (own_W q0 q1 q2 q3 2)), (.int (16 : Int32)), (.ref b37)])) rfl (by rw [hml]; rfl) (argsL := [(.ref b37), (.int (16 : Int32)), (.long (own_W q0 q1 q2 q3 2))]) (rest := []) (lenOf pd___BIJ_V rfl) rfl (by show 2 * 0 + _ ≤ _; exact Nat.le_of_eq rfl) (hb hby at_149) (fun _ _ => ⟨rfl, rfl, (by decide : 2 + 0 ≤ _), (by decide : 72 + 0 ≤ _)⟩)
  dsimp only [Pt.U, Pt.locs, Pt.cells, Pt.slots] at X53 l53 y53 z53 st53 hQ53
  subst l53 y53 z53
  obtain ⟨rfl, N53q, Kc53, p53_0⟩ := hQ53
  have N53 := Fr.app N47 N53q
  refine OG.step st53 ?_
  have f54 := f48.keep Kc53 (ninS ne37_b3 nin0)
  have K53 := K47.trans Kc53 (allS (Or.inr sz37) all0)
  obtain ⟨Lz56, X53, N53⟩ : ∃ Lz, Stand p l e room_1 s m #[(.long q0), (.long q1), (.long q2), (.long q3), (.int p4), (.int p5)] below meth c T53 Lz 2 72 ∧ Fr n0 Lz := ⟨_, X53, N53⟩
  show OG _ _ _ _ _ _ _ (T53.setTop (mkF m 152 #[.val (.long q0), .second, .val (.long q1), .second, .val (.long q2), .second, .val (.long q3), .second, .val (.int p4), .val (.int p5), .val (.int (Int32.ofNat nb)), .val (.int (Int32.ofNat fr)), .val (.int (Int32.ofNat cnt)), .val (.int (Int32.ofNat ia)), .val (.int (Int32.ofNat at_)), .val (.ref b3), .val (.ref b37), .unset, .unset, .unset, .unset, .unset] []))
  have s57 : ∀ tz, Steps p.tables e below (T53.setTop (mkF m 159 #[.val (.long q0), .second, .val (.long q1), .second, .val (.long q2), .second, .val (.long q3), .second, .val (.int p4), .val (.int p5), .val (.int (Int32.ofNat nb)), .val (.int (Int32.ofNat fr)), .val (.int (Int32.ofNat cnt)), .val (.int (Int32.ofNat ia)), .val (.int (Int32.ofNat at_)), .val (.ref b3), .val (.ref b37), .unset, .unset, .unset, .unset, .unset] [(.int (3 : Int32)), (.ref b3), (.int (24 : Int32)), (.ref b37)])) tz → Steps p.tables e below (T53.setTop (mkF m 152 #[.val (.long q0), .second, .val (.long q1), .second, .val (.long q2), .second, .val (.long q3), .second, .val (.int p4), .val (.int p5), .val (.int (Int32.ofNat nb)), .val (.int (Int32.ofNat fr)), .val (.int (Int32.ofNat cnt)), .val (.int (Int32.ofNat ia)), .val (.int (Int32.ofNat at_)), .val (.ref b3), .val (.ref b37), .unset, .unset, .unset, .unset, .unset] [])) tz := by
    intro tz kz
    refine XS.aload X53.here hx rfl (hb hby at_152) rfl rfl ?_
    show Steps p.tables e below (T53.setTop (mkF m 154 #[.val (.long q0), .second, .val (.long q1), .second, .val (.long q2), .second, .val (.long q3), .second, .val (.int p4), .val (.int p5), .val (.int (Int32.ofNat nb)), .val (.int (Int32.ofNat fr)), .val (.int (Int32.ofNat cnt)), .val (.int (Int32.ofNat ia)), .val (.int (Int32.ofNat at_)), .val (.ref b3), .val (.ref b37), .unset, .unset, .unset, .unset, .unset] [(.ref b37)])) _
    refine XS.bipush X53.here hx rfl (hb hby at_154) ?_
    show Steps p.tables e below (T53.setTop (mkF m 156 #[.val (.long q0), .second, .val (.long q1), .second, .val (.long q2), .second, .val (.long q3), .second, .val (.int p4), .val (.int p5), .val (.int (Int32.ofNat nb)), .val (.int (Int32.ofNat fr)), .val (.int (Int32.ofNat cnt)), .val (.int (Int32.ofNat ia)), .val (.int (Int32.ofNat at_)), .val (.ref b3), .val (.ref b37), .unset, .unset, .unset, .unset, .unset] [(.int (24 : Int32)), (.ref b37)])) _
    refine XS.aload X53.here hx rfl (hb hby at_156) rfl rfl ?_
    show Steps p.tables e below (T53.setTop (mkF m 158 #[.val (.long q0), .second, .val (.long q1), .second, .val (.long q2), .second, .val (.long q3), .second, .val (.int p4), .val (.int p5), .val (.int (Int32.ofNat nb)), .val (.int (Int32.ofNat fr)), .val (.int (Int32.ofNat cnt)), .val (.int (Int32.ofNat ia)), .val (.int (Int32.ofNat at_)), .val (.ref b3), .val (.ref b37), .unset, .unset, .unset, .unset, .unset] [(.ref b3), (.int (24 : Int32)), (.ref b37)])) _
    refine XS.iconst X53.here hx rfl (hb hby at_158) ?_
    exact kz
  refine OG.step s57 ?_
  have av58 := f54
  obtain ⟨cl58, Ar58, qa_58, Sa_58, Nn_58, Ha_58, Ga_58⟩ := av58
  have hin58 : ¬ ((3 : Int32) < 0 ∨ cl58.slots.size ≤ ((3 : Int32)).toNatClampNeg) := inb_of Sa_58 ⟨(by decide), (by decide)⟩
  have hat58 : cl58.slots[((3 : Int32)).toNatClampNeg]? = some (.long (own_W q0 q1 q2 q3 3)) := Ha_58.at hin58 (own_wget (own_W q0 q1 q2 q3) (x := 3) (by decide) (by decide))
  refine OG.step (X53.laload hx (j := (3 : Int32)) (v := (.long (own_W q0 q1 q2 q3 3))) Ar58.1 (State.isArrayOf_alike hZ.alike Ar58.2.1) Ar58.2.2 hin58 hat58 (g := (mkF m 159 #[.val (.long q0), .second, .val (.long q1), .second, .val (.long q2), .second, .val (.long q3), .second, .val (.int p4), .val (.int p5), .val (.int (Int32.ofNat nb)), .val (.int (Int32.ofNat fr)), .val (.int (Int32.ofNat cnt)), .val (.int (Int32.ofNat ia)), .val (.int (Int32.ofNat at_)), .val (.ref b3), .val (.ref b37), .unset, .unset, .unset, .unset, .unset] [(.int (3 : Int32)), (.ref b3), (.int (24 : Int32)), (.ref b37)])) rfl rfl (hb hby at_159)) ?_
  show OG _ _ _ _ _ _ _ (T53.setTop (mkF m 160 #[.val (.long q0), .second, .val (.long q1), .second, .val (.long q2), .second, .val (.long q3), .second, .val (.int p4), .val (.int p5), .val (.int (Int32.ofNat nb)), .val (.int (Int32.ofNat fr)), .val (.int (Int32.ofNat cnt)), .val (.int (Int32.ofNat ia)), .val (.int (Int32.ofNat at_)), .val (.ref b3), .val (.ref b37), .unset, .unset, .unset, .unset, .unset] [(.long (own_W q0 q1 q2 q3 3)), (.int (24 : Int32)), (.ref b37)]))
  obtain ⟨_, _, ⟨T59, L59, k59, n59⟩, -, X59, ⟨Lc59, hQ59, l59, y59, z59⟩, st59⟩ := Jvm.LawKit.callS X53 hx (y := (⟨"com/example/strata/strata/PostingsUnpackTimesPinLaw", "put", "([BIJ)V"⟩ : MethodName)) hown (mvT hZ (hw _ (List.mem_of_getElem? (i := 3) rfl))) (mvT hZ (hw _ (List.mem_of_getElem? (i := 4) rfl))) (mvT hZ (hw _ (List.mem_of_getElem? (i := 5) rfl))) (mvT hZ (hw _ (List.mem_of_getElem? (i := 6) rfl))) (by decide) (backOf (W := 0) (rm1 l Z a0 hw [] b37 (own_W q0 q1 q2 q3 3) 24 k37 (own_put (own_put (own_put own_z 0 (own_W q0 q1 q2 q3 0)) 8 (own_W q0 q1 q2 q3 1)) 16 (own_W q0 q1 q2 q3 2)) T53.heap n0 (Nat.le_trans Z0 K53.1) p53_0 ge37 (by decide)) hZ (hw _ (List.mem_of_getElem? (i := 6) rfl)) (hw _ (List.mem_of_getElem? (i := 5) rfl)) (by decide) (by decide)) (g := (mkF m 160 #[.val (.long q0), .second, .val (.long q1), .second, .val (.long q2), .second, .val (.long q3), .second, .val (.int p4), .val (.int p5), .val (.int (Int32.ofNat nb)), .val (.int (Int32.ofNat fr)), .val (.int (Int32.ofNat cnt)), .val (.int (Int32.ofNat ia)), .val (.int (Int32.ofNat at_)), .val (.ref b3), .val (.ref b37), .unset, .unset, .unset, .unset, .unset] [(.long (own_W q0 q1 q2 q3 3)), (.int (24 : Int32)), (.ref b37)])) rfl (by rw [hml]; rfl) (argsL := [(.ref b37), (.int (24 : Int32)), (.long (own_W q0 q1 q2 q3 3))]) (rest := []) (lenOf pd___BIJ_V rfl) rfl (by show 2 * 0 + _ ≤ _; exact Nat.le_of_eq rfl) (hb hby at_160) (fun _ _ => ⟨rfl, rfl, (by decide : 2 + 0 ≤ _), (by decide : 72 + 0 ≤ _)⟩)
  dsimp only [Pt.U, Pt.locs, Pt.cells, Pt.slots] at X59 l59 y59 z59 st59 hQ59
  subst l59 y59 z59
  obtain ⟨rfl, N59q, Kc59, p59_0⟩ := hQ59
  have N59 := Fr.app N53 N59q
  refine OG.step st59 ?_
  have f60 := f54.keep Kc59 (ninS ne37_b3 nin0)
  have K59 := K53.trans Kc59 (allS (Or.inr sz37) all0)
  obtain ⟨Lz62, X59, N59⟩ : ∃ Lz, Stand p l e room_1 s m #[(.long q0), (.long q1), (.long q2), (.long q3), (.int p4), (.int p5)] below meth c T59 Lz 2 72 ∧ Fr n0 Lz := ⟨_, X59, N59⟩
  show OG _ _ _ _ _ _ _ (T59.setTop (mkF m 163 #[.val (.long q0), .second, .val (.long q1), .second, .val (.long q2), .second, .val (.long q3), .second, .val (.int p4), .val (.int p5), .val (.int (Int32.ofNat nb)), .val (.int (Int32.ofNat fr)), .val (.int (Int32.ofNat cnt)), .val (.int (Int32.ofNat ia)), .val (.int (Int32.ofNat at_)), .val (.ref b3), .val (.ref b37), .unset, .unset, .unset, .unset, .unset] []))
  have s63 : ∀ tz, Steps p.tables e below (T59.setTop (mkF m 170 #[.val (.long q0), .second, .val (.long q1), .second, .val (.long q2), .second, .val (.long q3), .second, .val (.int p4), .val (.int p5), .val (.int (Int32.ofNat nb)), .val (.int (Int32.ofNat fr)), .val (.int (Int32.ofNat cnt)), .val (.int (Int32.ofNat ia)), .val (.int (Int32.ofNat at_)), .val (.ref b3), .val (.ref b37), .unset, .unset, .unset, .unset, .unset] [(.int (4 : Int32)), (.ref b3), (.int (32 : Int32)), (.ref b37)])) tz → Steps p.tables e below (T59.setTop (mkF m 163 #[.val (.long q0), .second, .val (.long q1), .second, .val (.long q2), .second, .val (.long q3), .second, .val (.int p4), .val (.int p5), .val (.int (Int32.ofNat nb)), .val (.int (Int32.ofNat fr)), .val (.int (Int32.ofNat cnt)), .val (.int (Int32.ofNat ia)), .val (.int (Int32.ofNat at_)), .val (.ref b3), .val (.ref b37), .unset, .unset, .unset, .unset, .unset] [])) tz := by
    intro tz kz
    refine XS.aload X59.here hx rfl (hb hby at_163) rfl rfl ?_
    show Steps p.tables e below (T59.setTop (mkF m 165 #[.val (.long q0), .second, .val (.long q1), .second, .val (.long q2), .second, .val (.long q3), .second, .val (.int p4), .val (.int p5), .val (.int (Int32.ofNat nb)), .val (.int (Int32.ofNat fr)), .val (.int (Int32.ofNat cnt)), .val (.int (Int32.ofNat ia)), .val (.int (Int32.ofNat at_)), .val (.ref b3), .val (.ref b37), .unset, .unset, .unset, .unset, .unset] [(.ref b37)])) _
    refine XS.bipush X59.here hx rfl (hb hby at_165) ?_
    show Steps p.tables e below (T59.setTop (mkF m 167 #[.val (.long q0), .second, .val (.long q1), .second, .val (.long q2), .second, .val (.long q3), .second, .val (.int p4), .val (.int p5), .val (.int (Int32.ofNat nb)), .val (.int (Int32.ofNat fr)), .val (.int (Int32.ofNat cnt)), .val (.int (Int32.ofNat ia)), .val (.int (Int32.ofNat at_)), .val (.ref b3), .val (.ref b37), .unset, .unset, .unset, .unset, .unset] [(.int (32 : Int32)), (.ref b37)])) _
    refine XS.aload X59.here hx rfl (hb hby at_167) rfl rfl ?_
    show Steps p.tables e below (T59.setTop (mkF m 169 #[.val (.long q0), .second, .val (.long q1), .second, .val (.long q2), .second, .val (.long q3), .second, .val (.int p4), .val (.int p5), .val (.int (Int32.ofNat nb)), .val (.int (Int32.ofNat fr)), .val (.int (Int32.ofNat cnt)), .val (.int (Int32.ofNat ia)), .val (.int (Int32.ofNat at_)), .val (.ref b3), .val (.ref b37), .unset, .unset, .unset, .unset, .unset] [(.ref b3), (.int (32 : Int32)), (.ref b37)])) _
    refine XS.iconst X59.here hx rfl (hb hby at_169) ?_
    exact kz
  refine OG.step s63 ?_
  have av64 := f60
  obtain ⟨cl64, Ar64, qa_64, Sa_64, Nn_64, Ha_64, Ga_64⟩ := av64
  have hin64 : ¬ ((4 : Int32) < 0 ∨ cl64.slots.size ≤ ((4 : Int32)).toNatClampNeg) := inb_of Sa_64 ⟨(by decide), (by decide)⟩
  have hat64 : cl64.slots[((4 : Int32)).toNatClampNeg]? = some (.long (own_W q0 q1 q2 q3 4)) := Ha_64.at hin64 (own_wget (own_W q0 q1 q2 q3) (x := 4) (by decide) (by decide))
  refine OG.step (X59.laload hx (j := (4 : Int32)) (v := (.long (own_W q0 q1 q2 q3 4))) Ar64.1 (State.isArrayOf_alike hZ.alike Ar64.2.1) Ar64.2.2 hin64 hat64 (g := (mkF m 170 #[.val (.long q0), .second, .val (.long q1), .second, .val (.long q2), .second, .val (.long q3), .second, .val (.int p4), .val (.int p5), .val (.int (Int32.ofNat nb)), .val (.int (Int32.ofNat fr)), .val (.int (Int32.ofNat cnt)), .val (.int (Int32.ofNat ia)), .val (.int (Int32.ofNat at_)), .val (.ref b3), .val (.ref b37), .unset, .unset, .unset, .unset, .unset] [(.int (4 : Int32)), (.ref b3), (.int (32 : Int32)), (.ref b37)])) rfl rfl (hb hby at_170)) ?_
  show OG _ _ _ _ _ _ _ (T59.setTop (mkF m 171 #[.val (.long q0), .second, .val (.long q1), .second, .val (.long q2), .second, .val (.long q3), .second, .val (.int p4), .val (.int p5), .val (.int (Int32.ofNat nb)), .val (.int (Int32.ofNat fr)), .val (.int (Int32.ofNat cnt)), .val (.int (Int32.ofNat ia)), .val (.int (Int32.ofNat at_)), .val (.ref b3), .val (.ref b37), .unset, .unset, .unset, .unset, .unset] [(.long (own_W q0 q1 q2 q3 4)), (.int (32 : Int32)), (.ref b37)]))
  obtain ⟨_, _, ⟨T65, L65, k65, n65⟩, -, X65, ⟨Lc65, hQ65, l65, y65, z65⟩, st65⟩ := Jvm.LawKit.callS X59 hx (y := (⟨"com/example/strata/strata/PostingsUnpackTimesPinLaw", "put", "([BIJ)V"⟩ : MethodName)) hown (mvT hZ (hw _ (List.mem_of_getElem? (i := 3) rfl))) (mvT hZ (hw _ (List.mem_of_getElem? (i := 4) rfl))) (mvT hZ (hw _ (List.mem_of_getElem? (i := 5) rfl))) (mvT hZ (hw _ (List.mem_of_getElem? (i := 6) rfl))) (by decide) (backOf (W := 0) (rm1 l Z a0 hw [] b37 (own_W q0 q1 q2 q3 4) 32 k37 (own_put (own_put (own_put (own_put own_z 0 (own_W q0 q1 q2 q3 0)) 8 (own_W q0 q1 q2 q3 1)) 16 (own_W q0 q1 q2 q3 2)) 24 (own_W q0 q1 q2 q3 3)) T59.heap n0 (Nat.le_trans Z0 K59.1) p59_0 ge37 (by decide)) hZ (hw _ (List.mem_of_getElem? (i := 6) rfl)) (hw _ (List.mem_of_getElem? (i := 5) rfl)) (by decide) (by decide)) (g := (mkF m 171 #[.val (.long q0), .second, .val (.long q1), .second, .val (.long q2), .second, .val (.long q3), .second, .val (.int p4), .val (.int p5), .val (.int (Int32.ofNat nb)), .val (.int (Int32.ofNat fr)), .val (.int (Int32.ofNat cnt)), .val (.int (Int32.ofNat ia)), .val (.int (Int32.ofNat at_)), .val (.ref b3), .val (.ref b37), .unset, .unset, .unset, .unset, .unset] [(.long (own_W q0 q1 q2 q3 4)), (.int (32 : Int32)), (.ref b37)])) rfl (by rw [hml]; rfl) (argsL := [(.ref b37), (.int (32 : Int32)), (.long (own_W q0 q1 q2 q3 4))]) (rest := []) (lenOf pd___BIJ_V rfl) rfl (by show 2 * 0 + _ ≤ _; exact Nat.le_of_eq rfl) (hb hby at_171) (fun _ _ => ⟨rfl, rfl, (by decide : 2 + 0 ≤ _), (by decide : 72 + 0 ≤ _)⟩)
  dsimp only [Pt.U, Pt.locs, Pt.cells, Pt.slots] at X65 l65 y65 z65 st65 hQ65
  subst l65 y65 z65
  obtain ⟨rfl, N65q, Kc65, p65_0⟩ := hQ65
  have N65 := Fr.app N59 N65q
  refine OG.step st65 ?_
  have f66 := f60.keep Kc65 (ninS ne37_b3 nin0)
  have K65 := K59.trans Kc65 (allS (Or.inr sz37) all0)
  obtain ⟨Lz68, X65, N65⟩ : ∃ Lz, Stand p l e room_1 s m #[(.long q0), (.long q1), (.long q2), (.long q3), (.int p4), (.int p5)] below meth c T65 Lz 2 72 ∧ Fr n0 Lz := ⟨_, X65, N65⟩
  show OG _ _ _ _ _ _ _ (T65.setTop (mkF m 174 #[.val (.long q0), .second, .val (.long q1), .second, .val (.long q2), .second, .val (.long q3), .second, .val (.int p4), .val (.int p5), .val (.int (Int32.ofNat nb)), .val (.int (Int32.ofNat fr)), .val (.int (Int32.ofNat cnt)), .val (.int (Int32.ofNat ia)), .val (.int (Int32.ofNat at_)), .val (.ref b3), .val (.ref b37), .unset, .unset, .unset, .unset, .unset] []))
  have s69 : ∀ tz, Steps p.tables e below (T65.setTop (mkF m 181 #[.val (.long q0), .second, .val (.long q1), .second, .val (.long q2), .second, .val (.long q3), .second, .val (.int p4), .val (.int p5), .val (.int (Int32.ofNat nb)), .val (.int (Int32.ofNat fr)), .val (.int (Int32.ofNat cnt)), .val (.int (Int32.ofNat ia)), .val (.int (Int32.ofNat at_)), .val (.ref b3), .val (.ref b37), .unset, .unset, .unset, .unset, .unset] [(.int (5 : Int32)), (.ref b3), (.int (40 : Int32)), (.ref b37)])) tz → Steps p.tables e below (T65.setTop (mkF m 174 #[.val (.long q0), .second, .val (.long q1), .second, .val (.long q2), .second, .val (.long q3), .second, .val (.int p4), .val (.int p5), .val (.int (Int32.ofNat nb)), .val (.int (Int32.ofNat fr)), .val (.int (Int32.ofNat cnt)), .val (.int (Int32.ofNat ia)), .val (.int (Int32.ofNat at_)), .val (.ref b3), .val (.ref b37), .unset, .unset, .unset, .unset, .unset] [])) tz := by
    intro tz kz
    refine XS.aload X65.here hx rfl (hb hby at_174) rfl rfl ?_
    show Steps p.tables e below (T65.setTop (mkF m 176 #[.val (.long q0), .second, .val (.long q1), .second, .val (.long q2), .second, .val (.long q3), .second, .val (.int p4), .val (.int p5), .val (.int (Int32.ofNat nb)), .val (.int (Int32.ofNat fr)), .val (.int (Int32.ofNat cnt)), .val (.int (Int32.ofNat ia)), .val (.int (Int32.ofNat at_)), .val (.ref b3), .val (.ref b37), .unset, .unset, .unset, .unset, .unset] [(.ref b37)])) _
    refine XS.bipush X65.here hx rfl (hb hby at_176) ?_
    show Steps p.tables e below (T65.setTop (mkF m 178 #[.val (.long q0), .second, .val (.long q1), .second, .val (.long q2), .second, .val (.long q3), .second, .val (.int p4), .val (.int p5), .val (.int (Int32.ofNat nb)), .val (.int (Int32.ofNat fr)), .val (.int (Int32.ofNat cnt)), .val (.int (Int32.ofNat ia)), .val (.int (Int32.ofNat at_)), .val (.ref b3), .val (.ref b37), .unset, .unset, .unset, .unset, .unset] [(.int (40 : Int32)), (.ref b37)])) _
    refine XS.aload X65.here hx rfl (hb hby at_178) rfl rfl ?_
    show Steps p.tables e below (T65.setTop (mkF m 180 #[.val (.long q0), .second, .val (.long q1), .second, .val (.long q2), .second, .val (.long q3), .second, .val (.int p4), .val (.int p5), .val (.int (Int32.ofNat nb)), .val (.int (Int32.ofNat fr)), .val (.int (Int32.ofNat cnt)), .val (.int (Int32.ofNat ia)), .val (.int (Int32.ofNat at_)), .val (.ref b3), .val (.ref b37), .unset, .unset, .unset, .unset, .unset] [(.ref b3), (.int (40 : Int32)), (.ref b37)])) _
    refine XS.iconst X65.here hx rfl (hb hby at_180) ?_
    exact kz
  refine OG.step s69 ?_
  have av70 := f66
  obtain ⟨cl70, Ar70, qa_70, Sa_70, Nn_70, Ha_70, Ga_70⟩ := av70
  have hin70 : ¬ ((5 : Int32) < 0 ∨ cl70.slots.size ≤ ((5 : Int32)).toNatClampNeg) := inb_of Sa_70 ⟨(by decide), (by decide)⟩
  have hat70 : cl70.slots[((5 : Int32)).toNatClampNeg]? = some (.long (own_W q0 q1 q2 q3 5)) := Ha_70.at hin70 (own_wget (own_W q0 q1 q2 q3) (x := 5) (by decide) (by decide))
  refine OG.step (X65.laload hx (j := (5 : Int32)) (v := (.long (own_W q0 q1 q2 q3 5))) Ar70.1 (State.isArrayOf_alike hZ.alike Ar70.2.1) Ar70.2.2 hin70 hat70 (g := (mkF m 181 #[.val (.long q0), .second, .val (.long q1), .second, .val (.long q2), .second, .val (.long q3), .second, .val (.int p4), .val (.int p5), .val (.int (Int32.ofNat nb)), .val (.int (Int32.ofNat fr)), .val (.int (Int32.ofNat cnt)), .val (.int (Int32.ofNat ia)), .val (.int (Int32.ofNat at_)), .val (.ref b3), .val (.ref b37), .unset, .unset, .unset, .unset, .unset] [(.int (5 : Int32)), (.ref b3), (.int (40 : Int32)), (.ref b37)])) rfl rfl (hb hby at_181)) ?_
  show OG _ _ _ _ _ _ _ (T65.setTop (mkF m 182 #[.val (.long q0), .second, .val (.long q1), .second, .val (.long q2), .second, .val (.long q3), .second, .val (.int p4), .val (.int p5), .val (.int (Int32.ofNat nb)), .val (.int (Int32.ofNat fr)), .val (.int (Int32.ofNat cnt)), .val (.int (Int32.ofNat ia)), .val (.int (Int32.ofNat at_)), .val (.ref b3), .val (.ref b37), .unset, .unset, .unset, .unset, .unset] [(.long (own_W q0 q1 q2 q3 5)), (.int (40 : Int32)), (.ref b37)]))
  obtain ⟨_, _, ⟨T71, L71, k71, n71⟩, -, X71, ⟨Lc71, hQ71, l71, y71, z71⟩, st71⟩ := Jvm.LawKit.callS X65 hx (y := (⟨"com/example/strata/strata/PostingsUnpackTimesPinLaw", "put", "([BIJ)V"⟩ : MethodName)) hown (mvT hZ (hw _ (List.mem_of_getElem? (i := 3) rfl))) (mvT hZ (hw _ (List.mem_of_getElem? (i := 4) rfl))) (mvT hZ (hw _ (List.mem_of_getElem? (i := 5) rfl))) (mvT hZ (hw _ (List.mem_of_getElem? (i := 6) rfl))) (by decide) (backOf (W := 0) (rm1 l Z a0 hw [] b37 (own_W q0 q1 q2 q3 5) 40 k37 (own_put (own_put (own_put (own_put (own_put own_z 0 (own_W q0 q1 q2 q3 0)) 8 (own_W q0 q1 q2 q3 1)) 16 (own_W q0 q1 q2 q3 2)) 24 (own_W q0 q1 q2 q3 3)) 32 (own_W q0 q1 q2 q3 4)) T65.heap n0 (Nat.le_trans Z0 K65.1) p65_0 ge37 (by decide)) hZ (hw _ (List.mem_of_getElem? (i := 6) rfl)) (hw _ (List.mem_of_getElem? (i := 5) rfl)) (by decide) (by decide)) (g := (mkF m 182 #[.val (.long q0), .second, .val (.long q1), .second, .val (.long q2), .second, .val (.long q3), .second, .val (.int p4), .val (.int p5), .val (.int (Int32.ofNat nb)), .val (.int (Int32.ofNat fr)), .val (.int (Int32.ofNat cnt)), .val (.int (Int32.ofNat ia)), .val (.int (Int32.ofNat at_)), .val (.ref b3), .val (.ref b37), .unset, .unset, .unset, .unset, .unset] [(.long (own_W q0 q1 q2 q3 5)), (.int (40 : Int32)), (.ref b37)])) rfl (by rw [hml]; rfl) (argsL := [(.ref b37), (.int (40 : Int32)), (.long (own_W q0 q1 q2 q3 5))]) (rest := []) (lenOf pd___BIJ_V rfl) rfl (by show 2 * 0 + _ ≤ _; exact Nat.le_of_eq rfl) (hb hby at_182) (fun _ _ => ⟨rfl, rfl, (by decide : 2 + 0 ≤ _), (by decide : 72 + 0 ≤ _)⟩)
  dsimp only [Pt.U, Pt.locs, Pt.cells, Pt.slots] at X71 l71 y71 z71 st71 hQ71
  subst l71 y71 z71
  obtain ⟨rfl, N71q, Kc71, p71_0⟩ := hQ71
  have N71 := Fr.app N65 N71q
  refine OG.step st71 ?_
  have f72 := f66.keep Kc71 (ninS ne37_b3 nin0)
  have K71 := K65.trans Kc71 (allS (Or.inr sz37) all0)
  obtain ⟨Lz74, X71, N71⟩ : ∃ Lz, Stand p l e room_1 s m #[(.long q0), (.long q1), (.long q2), (.long q3), (.int p4), (.int p5)] below meth c T71 Lz 2 72 ∧ Fr n0 Lz := ⟨_, X71, N71⟩
  show OG _ _ _ _ _ _ _ (T71.setTop (mkF m 185 #[.val (.long q0), .second, .val (.long q1), .second, .val (.long q2), .second, .val (.long q3), .second, .val (.int p4), .val (.int p5), .val (.int (Int32.ofNat nb)), .val (.int (Int32.ofNat fr)), .val (.int (Int32.ofNat cnt)), .val (.int (Int32.ofNat ia)), .val (.int (Int32.ofNat at_)), .val (.ref b3), .val (.ref b37), .unset, .unset, .unset, .unset, .unset] []))
  have s75 : ∀ tz, Steps p.tables e below (T71.setTop (mkF m 193 #[.val (.long q0), .second, .val (.long q1), .second, .val (.long q2), .second, .val (.long q3), .second, .val (.int p4), .val (.int p5), .val (.int (Int32.ofNat nb)), .val (.int (Int32.ofNat fr)), .val (.int (Int32.ofNat cnt)), .val (.int (Int32.ofNat ia)), .val (.int (Int32.ofNat at_)), .val (.ref b3), .val (.ref b37), .unset, .unset, .unset, .unset, .unset] [(.int (6 : Int32)), (.ref b3), (.int (48 : Int32)), (.ref b37)])) tz → Steps p.tables e below (T71.setTop (mkF m 185 #[.val (.long q0), .second, .val (.long q1), .second, .val (.long q2), .second, .val (.long q3), .second, .val (.int p4), .val (.int p5), .val (.int (Int32.ofNat nb)), .val (.int (Int32.ofNat fr)), .val (.int (Int32.ofNat cnt)), .val (.int (Int32.ofNat ia)), .val (.int (Int32.ofNat at_)), .val (.ref b3), .val (.ref b37), .unset, .unset, .unset, .unset, .unset] [])) tz := by
    intro tz kz
    refine XS.aload X71.here hx rfl (hb hby at_185) rfl rfl ?_
    show Steps p.tables e below (T71.setTop (mkF m 187 #[.val (.long q0), .second, .val (.long q1), .second, .val (.long q2), .second, .val (.long q3), .second, .val (.int p4), .val (.int p5), .val (.int (Int32.ofNat nb)), .val (.int (Int32.ofNat fr)), .val (.int (Int32.ofNat cnt)), .val (.int (Int32.ofNat ia)), .val (.int (Int32.ofNat at_)), .val (.ref b3), .val (.ref b37), .unset, .unset, .unset, .unset, .unset] [(.ref b37)])) _
    refine XS.bipush X71.here hx rfl (hb hby at_187) ?_
    show Steps p.tables e below (T71.setTop (mkF m 189 #[.val (.long q0), .second, .val (.long q1), .second, .val (.long q2), .second, .val (.long q3), .second, .val (.int p4), .val (.int p5), .val (.int (Int32.ofNat nb)), .val (.int (Int32.ofNat fr)), .val (.int (Int32.ofNat cnt)), .val (.int (Int32.ofNat ia)), .val (.int (Int32.ofNat at_)), .val (.ref b3), .val (.ref b37), .unset, .unset, .unset, .unset, .unset] [(.int (48 : Int32)), (.ref b37)])) _
    refine XS.aload X71.here hx rfl (hb hby at_189) rfl rfl ?_
    show Steps p.tables e below (T71.setTop (mkF m 191 #[.val (.long q0), .second, .val (.long q1), .second, .val (.long q2), .second, .val (.long q3), .second, .val (.int p4), .val (.int p5), .val (.int (Int32.ofNat nb)), .val (.int (Int32.ofNat fr)), .val (.int (Int32.ofNat cnt)), .val (.int (Int32.ofNat ia)), .val (.int (Int32.ofNat at_)), .val (.ref b3), .val (.ref b37), .unset, .unset, .unset, .unset, .unset] [(.ref b3), (.int (48 : Int32)), (.ref b37)])) _
    refine XS.bipush X71.here hx rfl (hb hby at_191) ?_
    exact kz
  refine OG.step s75 ?_
  have av76 := f72
  obtain ⟨cl76, Ar76, qa_76, Sa_76, Nn_76, Ha_76, Ga_76⟩ := av76
  have hin76 : ¬ ((6 : Int32) < 0 ∨ cl76.slots.size ≤ ((6 : Int32)).toNatClampNeg) := inb_of Sa_76 ⟨(by decide), (by decide)⟩
  have hat76 : cl76.slots[((6 : Int32)).toNatClampNeg]? = some (.long (own_W q0 q1 q2 q3 6)) := Ha_76.at hin76 (own_wget (own_W q0 q1 q2 q3) (x := 6) (by decide) (by decide))
  refine OG.step (X71.laload hx (j := (6 : Int32)) (v := (.long (own_W q0 q1 q2 q3 6))) Ar76.1 (State.isArrayOf_alike hZ.alike Ar76.2.1) Ar76.2.2 hin76 hat76 (g := (mkF m 193 #[.val (.long q0), .second, .val (.long q1), .second, .val (.long q2), .second, .val (.long q3), .second, .val (.int p4), .val (.int p5), .val (.int (Int32.ofNat nb)), .val (.int (Int32.ofNat fr)), .val (.int (Int32.ofNat cnt)), .val (.int (Int32.ofNat ia)), .val (.int (Int32.ofNat at_)), .val (.ref b3), .val (.ref b37), .unset, .unset, .unset, .unset, .unset] [(.int (6 : Int32)), (.ref b3), (.int (48 : Int32)), (.ref b37)])) rfl rfl (hb hby at_193)) ?_
  show OG _ _ _ _ _ _ _ (T71.setTop (mkF m 194 #[.val (.long q0), .second, .val (.long q1), .second, .val (.long q2), .second, .val (.long q3), .second, .val (.int p4), .val (.int p5), .val (.int (Int32.ofNat nb)), .val (.int (Int32.ofNat fr)), .val (.int (Int32.ofNat cnt)), .val (.int (Int32.ofNat ia)), .val (.int (Int32.ofNat at_)), .val (.ref b3), .val (.ref b37), .unset, .unset, .unset, .unset, .unset] [(.long (own_W q0 q1 q2 q3 6)), (.int (48 : Int32)), (.ref b37)]))
  obtain ⟨_, _, ⟨T77, L77, k77, n77⟩, -, X77, ⟨Lc77, hQ77, l77, y77, z77⟩, st77⟩ := Jvm.LawKit.callS X71 hx (y := (⟨"com/example/strata/strata/PostingsUnpackTimesPinLaw", "put", "([BIJ)V"⟩ : MethodName)) hown (mvT hZ (hw _ (List.mem_of_getElem? (i := 3) rfl))) (mvT hZ (hw _ (List.mem_of_getElem? (i := 4) rfl))) (mvT hZ (hw _ (List.mem_of_getElem? (i := 5) rfl))) (mvT hZ (hw _ (List.mem_of_getElem? (i := 6) rfl))) (by decide) (backOf (W := 0) (rm1 l Z a0 hw [] b37 (own_W q0 q1 q2 q3 6) 48 k37 (own_put (own_put (own_put (own_put (own_put (own_put own_z 0 (own_W q0 q1 q2 q3 0)) 8 (own_W q0 q1 q2 q3 1)) 16 (own_W q0 q1 q2 q3 2)) 24 (own_W q0 q1 q2 q3 3)) 32 (own_W q0 q1 q2 q3 4)) 40 (own_W q0 q1 q2 q3 5)) T71.heap n0 (Nat.le_trans Z0 K71.1) p71_0 ge37 (by decide)) hZ (hw _ (List.mem_of_getElem? (i := 6) rfl)) (hw _ (List.mem_of_getElem? (i := 5) rfl)) (by decide) (by decide)) (g := (mkF m 194 #[.val (.long q0), .second, .val (.long q1), .second, .val (.long q2), .second, .val (.long q3), .second, .val (.int p4), .val (.int p5), .val (.int (Int32.ofNat nb)), .val (.int (Int32.ofNat fr)), .val (.int (Int32.ofNat cnt)), .val (.int (Int32.ofNat ia)), .val (.int (Int32.ofNat at_)), .val (.ref b3), .val (.ref b37), .unset, .unset, .unset, .unset, .unset] [(.long (own_W q0 q1 q2 q3 6)), (.int (48 : Int32)), (.ref b37)])) rfl (by rw [hml]; rfl) (argsL := [(.ref b37), (.int (48 : Int32)), (.long (own_W q0 q1 q2 q3 6))]) (rest := []) (lenOf pd___BIJ_V rfl) rfl (by show 2 * 0 + _ ≤ _; exact Nat.le_of_eq rfl) (hb hby at_194) (fun _ _ => ⟨rfl, rfl, (by decide : 2 + 0 ≤ _), (by decide : 72 + 0 ≤ _)⟩)
  dsimp only [Pt.U, Pt.locs, Pt.cells, Pt.slots] at X77 l77 y77 z77 st77 hQ77
  subst l77 y77 z77
  obtain ⟨rfl, N77q, Kc77, p77_0⟩ := hQ77
  have N77 := Fr.app N71 N77q
  refine OG.step st77 ?_
  have f78 := f72.keep Kc77 (ninS ne37_b3 nin0)
  have K77 := K71.trans Kc77 (allS (Or.inr sz37) all0)
  obtain ⟨Lz80, X77, N77⟩ : ∃ Lz, Stand p l e room_1 s m #[(.long q0), (.long q1), (.long q2), (.long q3), (.int p4), (.int p5)] below meth c T77 Lz 2 72 ∧ Fr n0 Lz := ⟨_, X77, N77⟩
  show OG _ _ _ _ _ _ _ (T77.setTop (mkF m 197 #[.val (.long q0), .second, .val (.long q1), .second, .val (.long q2), .second, .val (.long q3), .second, .val (.int p4), .val (.int p5), .val (.int (Int32.ofNat nb)), .val (.int (Int32.ofNat fr)), .val (.int (Int32.ofNat cnt)), .val (.int (Int32.ofNat ia)), .val (.int (Int32.ofNat at_)), .val (.ref b3), .val (.ref b37), .unset, .unset, .unset, .unset, .unset] []))
  have s81 : ∀ tz, Steps p.tables e below (T77.setTop (mkF m 205 #[.val (.long q0), .second, .val (.long q1), .second, .val (.long q2), .second, .val (.long q3), .second, .val (.int p4), .val (.int p5), .val (.int (Int32.ofNat nb)), .val (.int (Int32.ofNat fr)), .val (.int (Int32.ofNat cnt)), .val (.int (Int32.ofNat ia)), .val (.int (Int32.ofNat at_)), .val (.ref b3), .val (.ref b37), .unset, .unset, .unset, .unset, .unset] [(.int (7 : Int32)), (.ref b3), (.int (56 : Int32)), (.ref b37)])) tz → Steps p.tables e below (T77.setTop (mkF m 197 #[.val (.long q0), .second, .val (.long q1), .second, .val (.long q2), .second, .val (.long q3), .second, .val (.int p4), .val (.int p5), .val (.int (Int32.ofNat nb)), .val (.int (Int32.ofNat fr)), .val (.int (Int32.ofNat cnt)), .val (.int (Int32.ofNat ia)), .val (.int (Int32.ofNat at_)), .val (.ref b3), .val (.ref b37), .unset, .unset, .unset, .unset, .unset] [])) tz := by
    intro tz kz
    refine XS.aload X77.here hx rfl (hb hby at_197) rfl rfl ?_
    show Steps p.tables e below (T77.setTop (mkF m 199 #[.val (.long q0), .second, .val (.long q1), .second, .val (.long q2), .second, .val (.long q3), .second, .val (.int p4), .val (.int p5), .val (.int (Int32.ofNat nb)), .val (.int (Int32.ofNat fr)), .val (.int (Int32.ofNat cnt)), .val (.int (Int32.ofNat ia)), .val (.int (Int32.ofNat at_)), .val (.ref b3), .val (.ref b37), .unset, .unset, .unset, .unset, .unset] [(.ref b37)])) _
    refine XS.bipush X77.here hx rfl (hb hby at_199) ?_
    show Steps p.tables e below (T77.setTop (mkF m 201 #[.val (.long q0), .second, .val (.long q1), .second, .val (.long q2), .second, .val (.long q3), .second, .val (.int p4), .val (.int p5), .val (.int (Int32.ofNat nb)), .val (.int (Int32.ofNat fr)), .val (.int (Int32.ofNat cnt)), .val (.int (Int32.ofNat ia)), .val (.int (Int32.ofNat at_)), .val (.ref b3), .val (.ref b37), .unset, .unset, .unset, .unset, .unset] [(.int (56 : Int32)), (.ref b37)])) _
    refine XS.aload X77.here hx rfl (hb hby at_201) rfl rfl ?_
    show Steps p.tables e below (T77.setTop (mkF m 203 #[.val (.long q0), .second, .val (.long q1), .second, .val (.long q2), .second, .val (.long q3), .second, .val (.int p4), .val (.int p5), .val (.int (Int32.ofNat nb)), .val (.int (Int32.ofNat fr)), .val (.int (Int32.ofNat cnt)), .val (.int (Int32.ofNat ia)), .val (.int (Int32.ofNat at_)), .val (.ref b3), .val (.ref b37), .unset, .unset, .unset, .unset, .unset] [(.ref b3), (.int (56 : Int32)), (.ref b37)])) _
    refine XS.bipush X77.here hx rfl (hb hby at_203) ?_
    exact kz
  refine OG.step s81 ?_
  have av82 := f78
  obtain ⟨cl82, Ar82, qa_82, Sa_82, Nn_82, Ha_82, Ga_82⟩ := av82
  have hin82 : ¬ ((7 : Int32) < 0 ∨ cl82.slots.size ≤ ((7 : Int32)).toNatClampNeg) := inb_of Sa_82 ⟨(by decide), (by decide)⟩
  have hat82 : cl82.slots[((7 : Int32)).toNatClampNeg]? = some (.long (own_W q0 q1 q2 q3 7)) := Ha_82.at hin82 (own_wget (own_W q0 q1 q2 q3) (x := 7) (by decide) (by decide))
  refine OG.step (X77.laload hx (j := (7 : Int32)) (v := (.long (own_W q0 q1 q2 q3 7))) Ar82.1 (State.isArrayOf_alike hZ.alike Ar82.2.1) Ar82.2.2 hin82 hat82 (g := (mkF m 205 #[.val (.long q0), .second, .val (.long q1), .second, .val (.long q2), .second, .val (.long q3), .second, .val (.int p4), .val (.int p5), .val (.int (Int32.ofNat nb)), .val (.int (Int32.ofNat fr)), .val (.int (Int32.ofNat cnt)), .val (.int (Int32.ofNat ia)), .val (.int (Int32.ofNat at_)), .val (.ref b3), .val (.ref b37), .unset, .unset, .unset, .unset, .unset] [(.int (7 : Int32)), (.ref b3), (.int (56 : Int32)), (.ref b37)])) rfl rfl (hb hby at_205)) ?_
  show OG _ _ _ _ _ _ _ (T77.setTop (mkF m 206 #[.val (.long q0), .second, .val (.long q1), .second, .val (.long q2), .second, .val (.long q3), .second, .val (.int p4), .val (.int p5), .val (.int (Int32.ofNat nb)), .val (.int (Int32.ofNat fr)), .val (.int (Int32.ofNat cnt)), .val (.int (Int32.ofNat ia)), .val (.int (Int32.ofNat at_)), .val (.ref b3), .val (.ref b37), .unset, .unset, .unset, .unset, .unset] [(.long (own_W q0 q1 q2 q3 7)), (.int (56 : Int32)), (.ref b37)]))
  obtain ⟨_, _, ⟨T83, L83, k83, n83⟩, -, X83, ⟨Lc83, hQ83, l83, y83, z83⟩, st83⟩ := Jvm.LawKit.callS X77 hx (y := (⟨"com/example/strata/strata/PostingsUnpackTimesPinLaw", "put", "([BIJ)V"⟩ : MethodName)) hown (mvT hZ (hw _ (List.mem_of_getElem? (i := 3) rfl))) (mvT hZ (hw _ (List.mem_of_getElem? (i := 4) rfl))) (mvT hZ (hw _ (List.mem_of_getElem? (i := 5) rfl))) (mvT hZ (hw _ (List.mem_of_getElem? (i := 6) rfl))) (by decide) (backOf (W := 0) (rm1 l Z a0 hw [] b37 (own_W q0 q1 q2 q3 7) 56 k37 (own_put (own_put (own_put (own_put (own_put (own_put (own_put own_z 0 (own_W q0 q1 q2 q3 0)) 8 (own_W q0 q1 q2 q3 1)) 16 (own_W q0 q1 q2 q3 2)) 24 (own_W q0 q1 q2 q3 3)) 32 (own_W q0 q1 q2 q3 4)) 40 (own_W q0 q1 q2 q3 5)) 48 (own_W q0 q1 q2 q3 6)) T77.heap n0 (Nat.le_trans Z0 K77.1) p77_0 ge37 (by decide)) hZ (hw _ (List.mem_of_getElem? (i := 6) rfl)) (hw _ (List.mem_of_getElem? (i := 5) rfl)) (by decide) (by decide)) (g := (mkF m 206 #[.val (.long q0), .second, .val (.long q1), .second, .val (.long q2), .second, .val (.long q3), .second, .val (.int p4), .val (.int p5), .val (.int (Int32.ofNat nb)), .val (.int (Int32.ofNat fr)), .val (.int (Int32.ofNat cnt)), .val (.int (Int32.ofNat ia)), .val (.int (Int32.ofNat at_)), .val (.ref b3), .val (.ref b37), .unset, .unset, .unset, .unset, .unset] [(.long (own_W q0 q1 q2 q3 7)), (.int (56 : Int32)), (.ref b37)])) rfl (by rw [hml]; rfl) (argsL := [(.ref b37), (.int (56 : Int32)), (.long (own_W q0 q1 q2 q3 7))]) (rest := []) (lenOf pd___BIJ_V rfl) rfl (by show 2 * 0 + _ ≤ _; exact Nat.le_of_eq rfl) (hb hby at_206) (fun _ _ => ⟨rfl, rfl, (by decide : 2 + 0 ≤ _), (by decide : 72 + 0 ≤ _)⟩)
  dsimp only [Pt.U, Pt.locs, Pt.cells, Pt.slots] at X83 l83 y83 z83 st83 hQ83
  subst l83 y83 z83
  obtain ⟨rfl, N83q, Kc83, p83_0⟩ := hQ83
  have N83 := Fr.app N77 N83q
  refine OG.step st83 ?_
  have f84 := f78.keep Kc83 (ninS ne37_b3 nin0)
  have K83 := K77.trans Kc83 (allS (Or.inr sz37) all0)
  obtain ⟨Lz86, X83, N83⟩ : ∃ Lz, Stand p l e room_1 s m #[(.long q0), (.long q1), (.long q2), (.long q3), (.int p4), (.int p5)] below meth c T83 Lz 2 72 ∧ Fr n0 Lz := ⟨_, X83, N83⟩
  show OG _ _ _ _ _ _ _ (T83.setTop (mkF m 209 #[.val (.long q0), .second, .val (.long q1), .second, .val (.long q2), .second, .val (.long q3), .second, .val (.int p4), .val (.int p5), .val (.int (Int32.ofNat nb)), .val (.int (Int32.ofNat fr)), .val (.int (Int32.ofNat cnt)), .val (.int (Int32.ofNat ia)), .val (.int (Int32.ofNat at_)), .val (.ref b3), .val (.ref b37), .unset, .unset, .unset, .unset, .unset] []))
  have s87 : ∀ tz, Steps p.tables e below (T83.setTop (mkF m 211 #[.val (.long q0), .second, .val (.long q1), .second, .val (.long q2), .second, .val (.long q3), .second, .val (.int p4), .val (.int p5), .val (.int (Int32.ofNat nb)), .val (.int (Int32.ofNat fr)), .val (.int (Int32.ofNat cnt)), .val (.int (Int32.ofNat ia)), .val (.int (Int32.ofNat at_)), .val (.ref b3), .val (.ref b37), .unset, .unset, .unset, .unset, .unset] [(.int (8 : Int32))])) tz → Steps p.tables e below (T83.setTop (mkF m 209 #[.val (.long q0), .second, .val (.long q1), .second, .val (.long q2), .second, .val (.long q3), .second, .val (.int p4), .val (.int p5), .val (.int (Int32.ofNat nb)), .val (.int (Int32.ofNat fr)), .val (.int (Int32.ofNat cnt)), .val (.int (Int32.ofNat ia)), .val (.int (Int32.ofNat at_)), .val (.ref b3), .val (.ref b37), .unset, .unset, .unset, .unset, .unset] [])) tz := by
    intro tz kz
    refine XS.bipush X83.here hx rfl (hb hby at_209) ?_
    exact kz
  refine OG.step s87 ?_
  obtain ⟨T88, h88, k88, X88, e88, E88, A88, st88⟩ := newP X83 hx hZ (hw _ (List.mem_of_getElem? (i := 7) rfl)) rfl (g := (mkF m 211 #[.val (.long q0), .second, .val (.long q1), .second, .val (.long q2), .second, .val (.long q3), .second, .val (.int p4), .val (.int p5), .val (.int (Int32.ofNat nb)), .val (.int (Int32.ofNat fr)), .val (.int (Int32.ofNat cnt)), .val (.int (Int32.ofNat ia)), .val (.int (Int32.ofNat at_)), .val (.ref b3), .val (.ref b37), .unset, .unset, .unset, .unset, .unset] [(.int (8 : Int32))])) rfl (hb hby at_211) rfl (by decide) (cap := 8) (by decide) (by decide) (by decide) (by decide)
  obtain ⟨b88, g88⟩ : ∃ z, z = T83.heap.size := ⟨_, rfl⟩
  rw [← g88] at A88 st88
  have sz88 : h0.size ≤ b88 := Nat.le_trans K83.1 (Nat.le_of_eq g88.symm)
  have ge88 : n0 ≤ b88 := Nat.le_trans Z0 sz88
  have ne88_b3 : b3 ≠ b88 := Nat.ne_of_lt (Nat.lt_of_lt_of_le f84.lt (Nat.le_of_eq g88.symm))
  have ne88_b37 : b37 ≠ b88 := Nat.ne_of_lt (Nat.lt_of_lt_of_le p83_0.lt (Nat.le_of_eq g88.symm))
  refine OG.step st88 ?_
  have f89 := f84.ext E88
  have f90 := p83_0.ext E88
  have V88 : Arv Z h88 b88 k88 .int (8 : Int32) [(.int (0 : Int32)), (.int (0 : Int32)), (.int (0 : Int32)), (.int (0 : Int32)), (.int (0 : Int32)), (.int (0 : Int32)), (.int (0 : Int32)), (.int (0 : Int32))] (.int (0 : Int32)) := (Arv.new A88 (by decide)).pad (pad_rep [] (.int (0 : Int32)) 8)
  have K88 := K83.ext E88
  show OG _ _ _ _ _ _ _ (T88.setTop (mkF m 213 #[.val (.long q0), .second, .val (.long q1), .second, .val (.long q2), .second, .val (.long q3), .second, .val (.int p4), .val (.int p5), .val (.int (Int32.ofNat nb)), .val (.int (Int32.ofNat fr)), .val (.int (Int32.ofNat cnt)), .val (.int (Int32.ofNat ia)), .val (.int (Int32.ofNat at_)), .val (.ref b3), .val (.ref b37), .unset, .unset, .unset, .unset, .unset] [(.ref b88)]))
  have s91 : ∀ tz, Steps p.tables e below (T88.setTop (mkF m 220 #[.val (.long q0), .second, .val (.long q1), .second, .val (.long q2), .second, .val (.long q3), .second, .val (.int p4), .val (.int p5), .val (.int (Int32.ofNat nb)), .val (.int (Int32.ofNat fr)), .val (.int (Int32.ofNat cnt)), .val (.int (Int32.ofNat ia)), .val (.int (Int32.ofNat at_)), .val (.ref b3), .val (.ref b37), .val (.ref b88), .unset, .unset, .unset, .unset] [(.int p5), (.int (0 : Int32)), (.ref b88)])) tz → Steps p.tables e below (T88.setTop (mkF m 213 #[.val (.long q0), .second, .val (.long q1), .second, .val (.long q2), .second, .val (.long q3), .second, .val (.int p4), .val (.int p5), .val (.int (Int32.ofNat nb)), .val (.int (Int32.ofNat fr)), .val (.int (Int32.ofNat cnt)), .val (.int (Int32.ofNat ia)), .val (.int (Int32.ofNat at_)), .val (.ref b3), .val (.ref b37), .unset, .unset, .unset, .unset, .unset] [(.ref b88)])) tz := by
    intro tz kz
    refine XS.astore X88.here hx rfl (hb hby at_213) rfl rfl (l' := #[.val (.long q0), .second, .val (.long q1), .second, .val (.long q2), .second, .val (.long q3), .second, .val (.int p4), .val (.int p5), .val (.int (Int32.ofNat nb)), .val (.int (Int32.ofNat fr)), .val (.int (Int32.ofNat cnt)), .val (.int (Int32.ofNat ia)), .val (.int (Int32.ofNat at_)), .val (.ref b3), .val (.ref b37), .val (.ref b88), .unset, .unset, .unset, .unset]) rfl ?_
    show Steps p.tables e below (T88.setTop (mkF m 215 #[.val (.long q0), .second, .val (.long q1), .second, .val (.long q2), .second, .val (.long q3), .second, .val (.int p4), .val (.int p5), .val (.int (Int32.ofNat nb)), .val (.int (Int32.ofNat fr)), .val (.int (Int32.ofNat cnt)), .val (.int (Int32.ofNat ia)), .val (.int (Int32.ofNat at_)), .val (.ref b3), .val (.ref b37), .val (.ref b88), .unset, .unset, .unset, .unset] [])) _
    refine XS.aload X88.here hx rfl (hb hby at_215) rfl rfl ?_
    show Steps p.tables e below (T88.setTop (mkF m 217 #[.val (.long q0), .second, .val (.long q1), .second, .val (.long q2), .second, .val (.long q3), .second, .val (.int p4), .val (.int p5), .val (.int (Int32.ofNat nb)), .val (.int (Int32.ofNat fr)), .val (.int (Int32.ofNat cnt)), .val (.int (Int32.ofNat ia)), .val (.int (Int32.ofNat at_)), .val (.ref b3), .val (.ref b37), .val (.ref b88), .unset, .unset, .unset, .unset] [(.ref b88)])) _
    refine XS.iconst X88.here hx rfl (hb hby at_217) ?_
    show Steps p.tables e below (T88.setTop (mkF m 218 #[.val (.long q0), .second, .val (.long q1), .second, .val (.long q2), .second, .val (.long q3), .second, .val (.int p4), .val (.int p5), .val (.int (Int32.ofNat nb)), .val (.int (Int32.ofNat fr)), .val (.int (Int32.ofNat cnt)), .val (.int (Int32.ofNat ia)), .val (.int (Int32.ofNat at_)), .val (.ref b3), .val (.ref b37), .val (.ref b88), .unset, .unset, .unset, .unset] [(.int (0 : Int32)), (.ref b88)])) _
    refine XS.iload X88.here hx rfl (hb hby at_218) rfl ?_
    exact kz
  refine OG.step s91 ?_
  have av92 := V88
  obtain ⟨cl92, Ar92, qa_92, Sa_92, Nn_92, Ha_92, Ga_92⟩ := av92
  have hin92 : ¬ ((0 : Int32) < 0 ∨ cl92.slots.size ≤ ((0 : Int32)).toNatClampNeg) := inb_of Sa_92 ⟨(by decide), (by decide)⟩
  obtain ⟨T93, h93, X93, e93, W93, st93⟩ := stI X88 hx hZ e88 Ar92 (j := (0 : Int32)) hin92 (g := (mkF m 220 #[.val (.long q0), .second, .val (.long q1), .second, .val (.long q2), .second, .val (.long q3), .second, .val (.int p4), .val (.int p5), .val (.int (Int32.ofNat nb)), .val (.int (Int32.ofNat fr)), .val (.int (Int32.ofNat cnt)), .val (.int (Int32.ofNat ia)), .val (.int (Int32.ofNat at_)), .val (.ref b3), .val (.ref b37), .val (.ref b88), .unset, .unset, .unset, .unset] [(.int p5), (.int (0 : Int32)), (.ref b88)])) rfl rfl (hb hby at_220)
  refine OG.step st93 ?_
  have Va93 := Arv.set Ar92 qa_92 Sa_92 Nn_92 Ha_92 Ga_92 rfl W93 (0) (by decide) (Nat.le_of_ble_eq_true rfl)
  have V93 : Arv Z h93 b88 k88 .int (8 : Int32) [(.int p5), (.int (0 : Int32)), (.int (0 : Int32)), (.int (0 : Int32)), (.int (0 : Int32)), (.int (0 : Int32)), (.int (0 : Int32)), (.int (0 : Int32))] (.int (0 : Int32)) := Va93
  have f94 := f89.other W93 ne88_b3
  have f95 := f90.other W93 ne88_b37
  have K93 := K88.wr W93 (Or.inr sz88)
  have N93 := Fr.snoc X93 N83 ge88
  obtain ⟨Lz96, X93, N93⟩ : ∃ Lz, Stand p l e room_1 s m #[(.long q0), (.long q1), (.long q2), (.long q3), (.int p4), (.int p5)] below meth c T93 Lz 3 80 ∧ Fr n0 Lz := ⟨_, X93, N93⟩
  show OG _ _ _ _ _ _ _ (T93.setTop (mkF m 221 #[.val (.long q0), .second, .val (.long q1), .second, .val (.long q2), .second, .val (.long q3), .second, .val (.int p4), .val (.int p5), .val (.int (Int32.ofNat nb)), .val (.int (Int32.ofNat fr)), .val (.int (Int32.ofNat cnt)), .val (.int (Int32.ofNat ia)), .val (.int (Int32.ofNat at_)), .val (.ref b3), .val (.ref b37), .val (.ref b88), .unset, .unset, .unset, .unset] []))
  have s97 : ∀ tz, Steps p.tables e below (T93.setTop (mkF m 226 #[.val (.long q0), .second, .val (.long q1), .second, .val (.long q2), .second, .val (.long q3), .second, .val (.int p4), .val (.int p5), .val (.int (Int32.ofNat nb)), .val (.int (Int32.ofNat fr)), .val (.int (Int32.ofNat cnt)), .val (.int (Int32.ofNat ia)), .val (.int (Int32.ofNat at_)), .val (.ref b3), .val (.ref b37), .val (.ref b88), .unset, .unset, .unset, .unset] [(.int p5), (.int (1 : Int32)), (.ref b88)])) tz → Steps p.tables e below (T93.setTop (mkF m 221 #[.val (.long q0), .second, .val (.long q1), .second, .val (.long q2), .second, .val (.long q3), .second, .val (.int p4), .val (.int p5), .val (.int (Int32.ofNat nb)), .val (.int (Int32.ofNat fr)), .val (.int (Int32.ofNat cnt)), .val (.int (Int32.ofNat ia)), .val (.int (Int32.ofNat at_)), .val (.ref b3), .val (.ref b37), .val (.ref b88), .unset, .unset, .unset, .unset] [])) tz := by
    intro tz kz
    refine XS.aload X93.here hx rfl (hb hby at_221) rfl rfl ?_
    show Steps p.tables e below (T93.setTop (mkF m 223 #[.val (.long q0), .second, .val (.long q1), .second, .val (.long q2), .second, .val (.long q3), .second, .val (.int p4), .val (.int p5), .val (.int (Int32.ofNat nb)), .val (.int (Int32.ofNat fr)), .val (.int (Int32.ofNat cnt)), .val (.int (Int32.ofNat ia)), .val (.int (Int32.ofNat at_)), .val (.ref b3), .val (.ref b37), .val (.ref b88), .unset, .unset, .unset, .unset] [(.ref b88)])) _
    refine XS.iconst X93.here hx rfl (hb hby at_223) ?_
    show Steps p.tables e below (T93.setTop (mkF m 224 #[.val (.long q0), .second, .val (.long q1), .second, .val (.long q2), .second, .val (.long q3), .second, .val (.int p4), .val (.int p5), .val (.int (Int32.ofNat nb)), .val (.int (Int32.ofNat fr)), .val (.int (Int32.ofNat cnt)), .val (.int (Int32.ofNat ia)), .val (.int (Int32.ofNat at_)), .val (.ref b3), .val (.ref b37), .val (.ref b88), .unset, .unset, .unset, .unset] [(.int (1 : Int32)), (.ref b88)])) _
    refine XS.iload X93.here hx rfl (hb hby at_224) rfl ?_
    exact kz
  refine OG.step s97 ?_
  have av98 := V93
  obtain ⟨cl98, Ar98, qa_98, Sa_98, Nn_98, Ha_98, Ga_98⟩ := av98
  have hin98 : ¬ ((1 : Int32) < 0 ∨ cl98.slots.size ≤ ((1 : Int32)).toNatClampNeg) := inb_of Sa_98 ⟨(by decide), (by decide)⟩
  obtain ⟨T99, h99, X99, e99, W99, st99⟩ := stI X93 hx hZ e93 Ar98 (j := (1 : Int32)) hin98 (g := (mkF m 226 #[.val (.long q0), .second, .val (.long q1), .second, .val (.long q2), .second, .val (.long q3), .second, .val (.int p4), .val (.int p5), .val (.int (Int32.ofNat nb)), .val (.int (Int32.ofNat fr)), .val (.int (Int32.ofNat cnt)), .val (.int (Int32.ofNat ia)), .val (.int (Int32.ofNat at_)), .val (.ref b3), .val (.ref b37), .val (.ref b88), .unset, .unset, .unset, .unset] [(.int p5), (.int (1 : Int32)), (.ref b88)])) rfl rfl (hb hby at_226)
  refine OG.step st99 ?_
  have Va99 := Arv.set Ar98 qa_98 Sa_98 Nn_98 Ha_98 Ga_98 rfl W99 (1) (by decide) (Nat.le_of_ble_eq_true rfl)
  have V99 : Arv Z h99 b88 k88 .int (8 : Int32) [(.int p5), (.int p5), (.int (0 : Int32)), (.int (0 : Int32)), (.int (0 : Int32)), (.int (0 : Int32)), (.int (0 : Int32)), (.int (0 : Int32))] (.int (0 : Int32)) := Va99
  have f100 := f94.other W99 ne88_b3
  have f101 := f95.other W99 ne88_b37
  have K99 := K93.wr W99 (Or.inr sz88)
  have N99 := Fr.snoc X99 N93 ge88
  obtain ⟨Lz102, X99, N99⟩ : ∃ Lz, Stand p l e room_1 s m #[(.long q0), (.long q1), (.long q2), (.long q3), (.int p4), (.int p5)] below meth c T99 Lz 3 80 ∧ Fr n0 Lz := ⟨_, X99, N99⟩
  show OG _ _ _ _ _ _ _ (T99.setTop (mkF m 227 #[.val (.long q0), .second, .val (.long q1), .second, .val (.long q2), .second, .val (.long q3), .second, .val (.int p4), .val (.int p5), .val (.int (Int32.ofNat nb)), .val (.int (Int32.ofNat fr)), .val (.int (Int32.ofNat cnt)), .val (.int (Int32.ofNat ia)), .val (.int (Int32.ofNat at_)), .val (.ref b3), .val (.ref b37), .val (.ref b88), .unset, .unset, .unset, .unset] []))
  have s103 : ∀ tz, Steps p.tables e below (T99.setTop (mkF m 232 #[.val (.long q0), .second, .val (.long q1), .second, .val (.long q2), .second, .val (.long q3), .second, .val (.int p4), .val (.int p5), .val (.int (Int32.ofNat nb)), .val (.int (Int32.ofNat fr)), .val (.int (Int32.ofNat cnt)), .val (.int (Int32.ofNat ia)), .val (.int (Int32.ofNat at_)), .val (.ref b3), .val (.ref b37), .val (.ref b88), .unset, .unset, .unset, .unset] [(.int p5), (.int (2 : Int32)), (.ref b88)])) tz → Steps p.tables e below (T99.setTop (mkF m 227 #[.val (.long q0), .second, .val (.long q1), .second, .val (.long q2), .second, .val (.long q3), .second, .val (.int p4), .val (.int p5), .val (.int (Int32.ofNat nb)), .val (.int (Int32.ofNat fr)), .val (.int (Int32.ofNat cnt)), .val (.int (Int32.ofNat ia)), .val (.int (Int32.ofNat at_)), .val (.ref b3), .val (.ref b37), .val (.ref b88), .unset, .unset, .unset, .unset] [])) tz := by
    intro tz kz
    refine XS.aload X99.here hx rfl (hb hby at_227) rfl rfl ?_
    show Steps p.tables e below (T99.setTop (mkF m 229 #[.val (.long q0), .second, .val (.long q1), .second, .val (.long q2), .second, .val (.long q3), .second, .val (.int p4), .val (.int p5), .val (.int (Int32.ofNat nb)), .val (.int (Int32.ofNat fr)), .val (.int (Int32.ofNat cnt)), .val (.int (Int32.ofNat ia)), .val (.int (Int32.ofNat at_)), .val (.ref b3), .val (.ref b37), .val (.ref b88), .unset, .unset, .unset, .unset] [(.ref b88)])) _
    refine XS.iconst X99.here hx rfl (hb hby at_229) ?_
    show Steps p.tables e below (T99.setTop (mkF m 230 #[.val (.long q0), .second, .val (.long q1), .second, .val (.long q2), .second, .val (.long q3), .second, .val (.int p4), .val (.int p5), .val (.int (Int32.ofNat nb)), .val (.int (Int32.ofNat fr)), .val (.int (Int32.ofNat cnt)), .val (.int (Int32.ofNat ia)), .val (.int (Int32.ofNat at_)), .val (.ref b3), .val (.ref b37), .val (.ref b88), .unset, .unset, .unset, .unset] [(.int (2 : Int32)), (.ref b88)])) _
    refine XS.iload X99.here hx rfl (hb hby at_230) rfl ?_
    exact kz
  refine OG.step s103 ?_
  have av104 := V99
  obtain ⟨cl104, Ar104, qa_104, Sa_104, Nn_104, Ha_104, Ga_104⟩ := av104
  have hin104 : ¬ ((2 : Int32) < 0 ∨ cl104.slots.size ≤ ((2 : Int32)).toNatClampNeg) := inb_of Sa_104 ⟨(by decide), (by decide)⟩
  obtain ⟨T105, h105, X105, e105, W105, st105⟩ := stI X99 hx hZ e99 Ar104 (j := (2 : Int32)) hin104 (g := (mkF m 232 #[.val (.long q0), .second, .val (.long q1), .second, .val (.long q2), .second, .val (.long q3), .second, .val (.int p4), .val (.int p5), .val (.int (Int32.ofNat nb)), .val (.int (Int32.ofNat fr)), .val (.int (Int32.ofNat cnt)), .val (.int (Int32.ofNat ia)), .val (.int (Int32.ofNat at_)), .val (.ref b3), .val (.ref b37), .val (.ref b88), .unset, .unset, .unset, .unset] [(.int p5), (.int (2 : Int32)), (.ref b88)])) rfl rfl (hb hby at_232)
  refine OG.step st105 ?_
  have Va105 := Arv.set Ar104 qa_104 Sa_104 Nn_104 Ha_104 Ga_104 rfl W105 (2) (by decide) (Nat.le_of_ble_eq_true rfl)
  have V105 : Arv Z h105 b88 k88 .int (8 : Int32) [(.int p5), (.int p5), (.int p5), (.int (0 : Int32)), (.int (0 : Int32)), (.int (0 : Int32)), (.int (0 : Int32)), (.int (0 : Int32))] (.int (0 : Int32)) := Va105
  have f106 := f100.other W105 ne88_b3
  have f107 := f101.other W105 ne88_b37
  have K105 := K99.wr W105 (Or.inr sz88)
  have N105 := Fr.snoc X105 N99 ge88
  obtain ⟨Lz108, X105, N105⟩ : ∃ Lz, Stand p l e room_1 s m #[(.long q0), (.long q1), (.long q2), (.long q3), (.int p4), (.int p5)] below meth c T105 Lz 3 80 ∧ Fr n0 Lz := ⟨_, X105, N105⟩
  show OG _ _ _ _ _ _ _ (T105.setTop (mkF m 233 #[.val (.long q0), .second, .val (.long q1), .second, .val (.long q2), .second, .val (.long q3), .second, .val (.int p4), .val (.int p5), .val (.int (Int32.ofNat nb)), .val (.int (Int32.ofNat fr)), .val (.int (Int32.ofNat cnt)), .val (.int (Int32.ofNat ia)), .val (.int (Int32.ofNat at_)), .val (.ref b3), .val (.ref b37), .val (.ref b88), .unset, .unset, .unset, .unset] []))
  have s109 : ∀ tz, Steps p.tables e below (T105.setTop (mkF m 238 #[.val (.long q0), .second, .val (.long q1), .second, .val (.long q2), .second, .val (.long q3), .second, .val (.int p4), .val (.int p5), .val (.int (Int32.ofNat nb)), .val (.int (Int32.ofNat fr)), .val (.int (Int32.ofNat cnt)), .val (.int (Int32.ofNat ia)), .val (.int (Int32.ofNat at_)), .val (.ref b3), .val (.ref b37), .val (.ref b88), .unset, .unset, .unset, .unset] [(.int p5), (.int (3 : Int32)), (.ref b88)])) tz → Steps p.tables e below (T105.setTop (mkF m 233 #[.val (.long q0), .second, .val (.long q1), .second, .val (.long q2), .second, .val (.long q3), .second, .val (.int p4), .val (.int p5), .val (.int (Int32.ofNat nb)), .val (.int (Int32.ofNat fr)), .val (.int (Int32.ofNat cnt)), .val (.int (Int32.ofNat ia)), .val (.int (Int32.ofNat at_)), .val (.ref b3), .val (.ref b37), .val (.ref b88), .unset, .unset, .unset, .unset] [])) tz := by
    intro tz kz
    refine XS.aload X105.here hx rfl (hb hby at_233) rfl rfl ?_
    show Steps p.tables e below (T105.setTop (mkF m 235 #[.val (.long q0), .second, .val (.long q1), .second, .val (.long q2), .second, .val (.long q3), .second, .val (.int p4), .val (.int p5), .val (.int (Int32.ofNat nb)), .val (.int (Int32.ofNat fr)), .val (.int (Int32.ofNat cnt)), .val (.int (Int32.ofNat ia)), .val (.int (Int32.ofNat at_)), .val (.ref b3), .val (.ref b37), .val (.ref b88), .unset, .unset, .unset, .unset] [(.ref b88)])) _
    refine XS.iconst X105.here hx rfl (hb hby at_235) ?_
    show Steps p.tables e below (T105.setTop (mkF m 236 #[.val (.long q0), .second, .val (.long q1), .second, .val (.long q2), .second, .val (.long q3), .second, .val (.int p4), .val (.int p5), .val (.int (Int32.ofNat nb)), .val (.int (Int32.ofNat fr)), .val (.int (Int32.ofNat cnt)), .val (.int (Int32.ofNat ia)), .val (.int (Int32.ofNat at_)), .val (.ref b3), .val (.ref b37), .val (.ref b88), .unset, .unset, .unset, .unset] [(.int (3 : Int32)), (.ref b88)])) _
    refine XS.iload X105.here hx rfl (hb hby at_236) rfl ?_
    exact kz
  refine OG.step s109 ?_
  have av110 := V105
  obtain ⟨cl110, Ar110, qa_110, Sa_110, Nn_110, Ha_110, Ga_110⟩ := av110
  have hin110 : ¬ ((3 : Int32) < 0 ∨ cl110.slots.size ≤ ((3 : Int32)).toNatClampNeg) := inb_of Sa_110 ⟨(by decide), (by decide)⟩
  obtain ⟨T111, h111, X111, e111, W111, st111⟩ := stI X105 hx hZ e105 Ar110 (j := (3 : Int32)) hin110 (g := (mkF m 238 #[.val (.long q0), .second, .val (.long q1), .second, .val (.long q2), .second, .val (.long q3), .second, .val (.int p4), .val (.int p5), .val (.int (Int32.ofNat nb)), .val (.int (Int32.ofNat fr)), .val (.int (Int32.ofNat cnt)), .val (.int (Int32.ofNat ia)), .val (.int (Int32.ofNat at_)), .val (.ref b3), .val (.ref b37), .val (.ref b88), .unset, .unset, .unset, .unset] [(.int p5), (.int (3 : Int32)), (.ref b88)])) rfl rfl (hb hby at_238)
  refine OG.step st111 ?_
  have Va111 := Arv.set Ar110 qa_110 Sa_110 Nn_110 Ha_110 Ga_110 rfl W111 (3) (by decide) (Nat.le_of_ble_eq_true rfl)
  have V111 : Arv Z h111 b88 k88 .int (8 : Int32) [(.int p5), (.int p5), (.int p5), (.int p5), (.int (0 : Int32)), (.int (0 : Int32)), (.int (0 : Int32)), (.int (0 : Int32))] (.int (0 : Int32)) := Va111
  have f112 := f106.other W111 ne88_b3
  have f113 := f107.other W111 ne88_b37
  have K111 := K105.wr W111 (Or.inr sz88)
  have N111 := Fr.snoc X111 N105 ge88
  obtain ⟨Lz114, X111, N111⟩ : ∃ Lz, Stand p l e room_1 s m #[(.long q0), (.long q1), (.long q2), (.long q3), (.int p4), (.int p5)] below meth c T111 Lz 3 80 ∧ Fr n0 Lz := ⟨_, X111, N111⟩
  show OG _ _ _ _ _ _ _ (T111.setTop (mkF m 239 #[.val (.long q0), .second, .val (.long q1), .second, .val (.long q2), .second, .val (.long q3), .second, .val (.int p4), .val (.int p5), .val (.int (Int32.ofNat nb)), .val (.int (Int32.ofNat fr)), .val (.int (Int32.ofNat cnt)), .val (.int (Int32.ofNat ia)), .val (.int (Int32.ofNat at_)), .val (.ref b3), .val (.ref b37), .val (.ref b88), .unset, .unset, .unset, .unset] []))
  have s115 : ∀ tz, Steps p.tables e below (T111.setTop (mkF m 244 #[.val (.long q0), .second, .val (.long q1), .second, .val (.long q2), .second, .val (.long q3), .second, .val (.int p4), .val (.int p5), .val (.int (Int32.ofNat nb)), .val (.int (Int32.ofNat fr)), .val (.int (Int32.ofNat cnt)), .val (.int (Int32.ofNat ia)), .val (.int (Int32.ofNat at_)), .val (.ref b3), .val (.ref b37), .val (.ref b88), .unset, .unset, .unset, .unset] [(.int p5), (.int (4 : Int32)), (.ref b88)])) tz → Steps p.tables e below (T111.setTop (mkF m 239 #[.val (.long q0), .second, .val (.long q1), .second, .val (.long q2), .second, .val (.long q3), .second, .val (.int p4), .val (.int p5), .val (.int (Int32.ofNat nb)), .val (.int (Int32.ofNat fr)), .val (.int (Int32.ofNat cnt)), .val (.int (Int32.ofNat ia)), .val (.int (Int32.ofNat at_)), .val (.ref b3), .val (.ref b37), .val (.ref b88), .unset, .unset, .unset, .unset] [])) tz := by
    intro tz kz
    refine XS.aload X111.here hx rfl (hb hby at_239) rfl rfl ?_
    show Steps p.tables e below (T111.setTop (mkF m 241 #[.val (.long q0), .second, .val (.long q1), .second, .val (.long q2), .second, .val (.long q3), .second, .val (.int p4), .val (.int p5), .val (.int (Int32.ofNat nb)), .val (.int (Int32.ofNat fr)), .val (.int (Int32.ofNat cnt)), .val (.int (Int32.ofNat ia)), .val (.int (Int32.ofNat at_)), .val (.ref b3), .val (.ref b37), .val (.ref b88), .unset, .unset, .unset, .unset] [(.ref b88)])) _
    refine XS.iconst X111.here hx rfl (hb hby at_241) ?_
    show Steps p.tables e below (T111.setTop (mkF m 242 #[.val (.long q0), .second, .val (.long q1), .second, .val (.long q2), .second, .val (.long q3), .second, .val (.int p4), .val (.int p5), .val (.int (Int32.ofNat nb)), .val (.int (Int32.ofNat fr)), .val (.int (Int32.ofNat cnt)), .val (.int (Int32.ofNat ia)), .val (.int (Int32.ofNat at_)), .val (.ref b3), .val (.ref b37), .val (.ref b88), .unset, .unset, .unset, .unset] [(.int (4 : Int32)), (.ref b88)])) _
    refine XS.iload X111.here hx rfl (hb hby at_242) rfl ?_
    exact kz
  refine OG.step s115 ?_
  have av116 := V111
  obtain ⟨cl116, Ar116, qa_116, Sa_116, Nn_116, Ha_116, Ga_116⟩ := av116
  have hin116 : ¬ ((4 : Int32) < 0 ∨ cl116.slots.size ≤ ((4 : Int32)).toNatClampNeg) := inb_of Sa_116 ⟨(by decide), (by decide)⟩
  obtain ⟨T117, h117, X117, e117, W117, st117⟩ := stI X111 hx hZ e111 Ar116 (j := (4 : Int32)) hin116 (g := (mkF m 244 #[.val (.long q0), .second, .val (.long q1), .second, .val (.long q2), .second, .val (.long q3), .second, .val (.int p4), .val (.int p5), .val (.int (Int32.ofNat nb)), .val (.int (Int32.ofNat fr)), .val (.int (Int32.ofNat cnt)), .val (.int (Int32.ofNat ia)), .val (.int (Int32.ofNat at_)), .val (.ref b3), .val (.ref b37), .val (.ref b88), .unset, .unset, .unset, .unset] [(.int p5), (.int (4 : Int32)), (.ref b88)])) rfl rfl (hb hby at_244)
  refine OG.step st117 ?_
  have Va117 := Arv.set Ar116 qa_116 Sa_116 Nn_116 Ha_116 Ga_116 rfl W117 (4) (by decide) (Nat.le_of_ble_eq_true rfl)
  have V117 : Arv Z h117 b88 k88 .int (8 : Int32) [(.int p5), (.int p5), (.int p5), (.int p5), (.int p5), (.int (0 : Int32)), (.int (0 : Int32)), (.int (0 : Int32))] (.int (0 : Int32)) := Va117
  have f118 := f112.other W117 ne88_b3
  have f119 := f113.other W117 ne88_b37
  have K117 := K111.wr W117 (Or.inr sz88)
  have N117 := Fr.snoc X117 N111 ge88
  obtain ⟨Lz120, X117, N117⟩ : ∃ Lz, Stand p l e room_1 s m #[(.long q0), (.long q1), (.long q2), (.long q3), (.int p4), (.int p5)] below meth c T117 Lz 3 80 ∧ Fr n0 Lz := ⟨_, X117, N117⟩
  show OG _ _ _ _ _ _ _ (T117.setTop (mkF m 245 #[.val (.long q0), .second, .val (.long q1), .second, .val (.long q2), .second, .val (.long q3), .second, .val (.int p4), .val (.int p5), .val (.int (Int32.ofNat nb)), .val (.int (Int32.ofNat fr)), .val (.int (Int32.ofNat cnt)), .val (.int (Int32.ofNat ia)), .val (.int (Int32.ofNat at_)), .val (.ref b3), .val (.ref b37), .val (.ref b88), .unset, .unset, .unset, .unset] []))
  have s121 : ∀ tz, Steps p.tables e below (T117.setTop (mkF m 250 #[.val (.long q0), .second, .val (.long q1), .second, .val (.long q2), .second, .val (.long q3), .second, .val (.int p4), .val (.int p5), .val (.int (Int32.ofNat nb)), .val (.int (Int32.ofNat fr)), .val (.int (Int32.ofNat cnt)), .val (.int (Int32.ofNat ia)), .val (.int (Int32.ofNat at_)), .val (.ref b3), .val (.ref b37), .val (.ref b88), .unset, .unset, .unset, .unset] [(.int p5), (.int (5 : Int32)), (.ref b88)])) tz → Steps p.tables e below (T117.setTop (mkF m 245 #[.val (.long q0), .second, .val (.long q1), .second, .val (.long q2), .second, .val (.long q3), .second, .val (.int p4), .val (.int p5), .val (.int (Int32.ofNat nb)), .val (.int (Int32.ofNat fr)), .val (.int (Int32.ofNat cnt)), .val (.int (Int32.ofNat ia)), .val (.int (Int32.ofNat at_)), .val (.ref b3), .val (.ref b37), .val (.ref b88), .unset, .unset, .unset, .unset] [])) tz := by
    intro tz kz
    refine XS.aload X117.here hx rfl (hb hby at_245) rfl rfl ?_
    show Steps p.tables e below (T117.setTop (mkF m 247 #[.val (.long q0), .second, .val (.long q1), .second, .val (.long q2), .second, .val (.long q3), .second, .val (.int p4), .val (.int p5), .val (.int (Int32.ofNat nb)), .val (.int (Int32.ofNat fr)), .val (.int (Int32.ofNat cnt)), .val (.int (Int32.ofNat ia)), .val (.int (Int32.ofNat at_)), .val (.ref b3), .val (.ref b37), .val (.ref b88), .unset, .unset, .unset, .unset] [(.ref b88)])) _
    refine XS.iconst X117.here hx rfl (hb hby at_247) ?_
    show Steps p.tables e below (T117.setTop (mkF m 248 #[.val (.long q0), .second, .val (.long q1), .second, .val (.long q2), .second, .val (.long q3), .second, .val (.int p4), .val (.int p5), .val (.int (Int32.ofNat nb)), .val (.int (Int32.ofNat fr)), .val (.int (Int32.ofNat cnt)), .val (.int (Int32.ofNat ia)), .val (.int (Int32.ofNat at_)), .val (.ref b3), .val (.ref b37), .val (.ref b88), .unset, .unset, .unset, .unset] [(.int (5 : Int32)), (.ref b88)])) _
    refine XS.iload X117.here hx rfl (hb hby at_248) rfl ?_
    exact kz
  refine OG.step s121 ?_
  have av122 := V117
  obtain ⟨cl122, Ar122, qa_122, Sa_122, Nn_122, Ha_122, Ga_122⟩ := av122
  have hin122 : ¬ ((5 : Int32) < 0 ∨ cl122.slots.size ≤ ((5 : Int32)).toNatClampNeg) := inb_of Sa_122 ⟨(by decide), (by decide)⟩
  obtain ⟨T123, h123, X123, e123, W123, st123⟩ := stI X117 hx hZ e117 Ar122 (j := (5 : Int32)) hin122 (g := (mkF m 250 #[.val (.long q0), .second, .val (.long q1), .second, .val (.long q2), .second, .val (.long q3), .second, .val (.int p4), .val (.int p5), .val (.int (Int32.ofNat nb)), .val (.int (Int32.ofNat fr)), .val (.int (Int32.ofNat cnt)), .val (.int (Int32.ofNat ia)), .val (.int (Int32.ofNat at_)), .val (.ref b3), .val (.ref b37), .val (.ref b88), .unset, .unset, .unset, .unset] [(.int p5), (.int (5 : Int32)), (.ref b88)])) rfl rfl (hb hby at_250)
  refine OG.step st123 ?_
  have Va123 := Arv.set Ar122 qa_122 Sa_122 Nn_122 Ha_122 Ga_122 rfl W123 (5) (by decide) (Nat.le_of_ble_eq_true rfl)
  have V123 : Arv Z h123 b88 k88 .int (8 : Int32) [(.int p5), (.int p5), (.int p5), (.int p5), (.int p5), (.int p5), (.int (0 : Int32)), (.int (0 : Int32))] (.int (0 : Int32)) := Va123
  have f124 := f118.other W123 ne88_b3
  have f125 := f119.other W123 ne88_b37
  have K123 := K117.wr W123 (Or.inr sz88)
  have N123 := Fr.snoc X123 N117 ge88
  obtain ⟨Lz126, X123, N123⟩ : ∃ Lz, Stand p l e room_1 s m #[(.long q0), (.long q1), (.long q2), (.long q3), (.int p4), (.int p5)] below meth c T123 Lz 3 80 ∧ Fr n0 Lz := ⟨_, X123, N123⟩
  show OG _ _ _ _ _ _ _ (T123.setTop (mkF m 251 #[.val (.long q0), .second, .val (.long q1), .second, .val (.long q2), .second, .val (.long q3), .second, .val (.int p4), .val (.int p5), .val (.int (Int32.ofNat nb)), .val (.int (Int32.ofNat fr)), .val (.int (Int32.ofNat cnt)), .val (.int (Int32.ofNat ia)), .val (.int (Int32.ofNat at_)), .val (.ref b3), .val (.ref b37), .val (.ref b88), .unset, .unset, .unset, .unset] []))
  have s127 : ∀ tz, Steps p.tables e below (T123.setTop (mkF m 257 #[.val (.long q0), .second, .val (.long q1), .second, .val (.long q2), .second, .val (.long q3), .second, .val (.int p4), .val (.int p5), .val (.int (Int32.ofNat nb)), .val (.int (Int32.ofNat fr)), .val (.int (Int32.ofNat cnt)), .val (.int (Int32.ofNat ia)), .val (.int (Int32.ofNat at_)), .val (.ref b3), .val (.ref b37), .val (.ref b88), .unset, .unset, .unset, .unset] [(.int p5), (.int (6 : Int32)), (.ref b88)])) tz → Steps p.tables e below (T123.setTop (mkF m 251 #[.val (.long q0), .second, .val (.long q1), .second, .val (.long q2), .second, .val (.long q3), .second, .val (.int p4), .val (.int p5), .val (.int (Int32.ofNat nb)), .val (.int (Int32.ofNat fr)), .val (.int (Int32.ofNat cnt)), .val (.int (Int32.ofNat ia)), .val (.int (Int32.ofNat at_)), .val (.ref b3), .val (.ref b37), .val (.ref b88), .unset, .unset, .unset, .unset] [])) tz := by
    intro tz kz
    refine XS.aload X123.here hx rfl (hb hby at_251) rfl rfl ?_
    show Steps p.tables e below (T123.setTop (mkF m 253 #[.val (.long q0), .second, .val (.long q1), .second, .val (.long q2), .second, .val (.long q3), .second, .val (.int p4), .val (.int p5), .val (.int (Int32.ofNat nb)), .val (.int (Int32.ofNat fr)), .val (.int (Int32.ofNat cnt)), .val (.int (Int32.ofNat ia)), .val (.int (Int32.ofNat at_)), .val (.ref b3), .val (.ref b37), .val (.ref b88), .unset, .unset, .unset, .unset] [(.ref b88)])) _
    refine XS.bipush X123.here hx rfl (hb hby at_253) ?_
    show Steps p.tables e below (T123.setTop (mkF m 255 #[.val (.long q0), .second, .val (.long q1), .second, .val (.long q2), .second, .val (.long q3), .second, .val (.int p4), .val (.int p5), .val (.int (Int32.ofNat nb)), .val (.int (Int32.ofNat fr)), .val (.int (Int32.ofNat cnt)), .val (.int (Int32.ofNat ia)), .val (.int (Int32.ofNat at_)), .val (.ref b3), .val (.ref b37), .val (.ref b88), .unset, .unset, .unset, .unset] [(.int (6 : Int32)), (.ref b88)])) _
    refine XS.iload X123.here hx rfl (hb hby at_255) rfl ?_
    exact kz
  refine OG.step s127 ?_
  have av128 := V123
  obtain ⟨cl128, Ar128, qa_128, Sa_128, Nn_128, Ha_128, Ga_128⟩ := av128
  have hin128 : ¬ ((6 : Int32) < 0 ∨ cl128.slots.size ≤ ((6 : Int32)).toNatClampNeg) := inb_of Sa_128 ⟨(by decide), (by decide)⟩
  obtain ⟨T129, h129, X129, e129, W129, st129⟩ := stI X123 hx hZ e123 Ar128 (j := (6 : Int32)) hin128 (g := (mkF m 257 #[.val (.long q0), .second, .val (.long q1), .second, .val (.long q2), .second, .val (.long q3), .second, .val (.int p4), .val (.int p5), .val (.int (Int32.ofNat nb)), .val (.int (Int32.ofNat fr)), .val (.int (Int32.ofNat cnt)), .val (.int (Int32.ofNat ia)), .val (.int (Int32.ofNat at_)), .val (.ref b3), .val (.ref b37), .val (.ref b88), .unset, .unset, .unset, .unset] [(.int p5), (.int (6 : Int32)), (.ref b88)])) rfl rfl (hb hby at_257)
  refine OG.step st129 ?_
  have Va129 := Arv.set Ar128 qa_128 Sa_128 Nn_128 Ha_128 Ga_128 rfl W129 (6) (by decide) (Nat.le_of_ble_eq_true rfl)
  have V129 : Arv Z h129 b88 k88 .int (8 : Int32) [(.int p5), (.int p5), (.int p5), (.int p5), (.int p5), (.int p5), (.int p5), (.int (0 : Int32))] (.int (0 : Int32)) := Va129
  have f130 := f124.other W129 ne88_b3
  have f131 := f125.other W129 ne88_b37
  have K129 := K123.wr W129 (Or.inr sz88)
  have N129 := Fr.snoc X129 N123 ge88
  obtain ⟨Lz132, X129, N129⟩ : ∃ Lz, Stand p l e room_1 s m #[(.long q0), (.long q1), (.long q2), (.long q3), (.int p4), (.int p5)] below meth c T129 Lz 3 80 ∧ Fr n0 Lz := ⟨_, X129, N129⟩
  show OG _ _ _ _ _ _ _ (T129.setTop (mkF m 258 #[.val (.long q0), .second, .val (.long q1), .second, .val (.long q2), .second, .val (.long q3), .second, .val (.int p4), .val (.int p5), .val (.int (Int32.ofNat nb)), .val (.int (Int32.ofNat fr)), .val (.int (Int32.ofNat cnt)), .val (.int (Int32.ofNat ia)), .val (.int (Int32.ofNat at_)), .val (.ref b3), .val (.ref b37), .val (.ref b88), .unset, .unset, .unset, .unset] []))
  have s133 : ∀ tz, Steps p.tables e below (T129.setTop (mkF m 264 #[.val (.long q0), .second, .val (.long q1), .second, .val (.long q2), .second, .val (.long q3), .second, .val (.int p4), .val (.int p5), .val (.int (Int32.ofNat nb)), .val (.int (Int32.ofNat fr)), .val (.int (Int32.ofNat cnt)), .val (.int (Int32.ofNat ia)), .val (.int (Int32.ofNat at_)), .val (.ref b3), .val (.ref b37), .val (.ref b88), .unset, .unset, .unset, .unset] [(.int p5), (.int (7 : Int32)), (.ref b88)])) tz → Steps p.tables e below (T129.setTop (mkF m 258 #[.val (.long q0), .second, .val (.long q1), .second, .val (.long q2), .second, .val (.long q3), .second, .val (.int p4), .val (.int p5), .val (.int (Int32.ofNat nb)), .val (.int (Int32.ofNat fr)), .val (.int (Int32.ofNat cnt)), .val (.int (Int32.ofNat ia)), .val (.int (Int32.ofNat at_)), .val (.ref b3), .val (.ref b37), .val (.ref b88), .unset, .unset, .unset, .unset] [])) tz := by
    intro tz kz
    refine XS.aload X129.here hx rfl (hb hby at_258) rfl rfl ?_
    show Steps p.tables e below (T129.setTop (mkF m 260 #[.val (.long q0), .second, .val (.long q1), .second, .val (.long q2), .second, .val (.long q3), .second, .val (.int p4), .val (.int p5), .val (.int (Int32.ofNat nb)), .val (.int (Int32.ofNat fr)), .val (.int (Int32.ofNat cnt)), .val (.int (Int32.ofNat ia)), .val (.int (Int32.ofNat at_)), .val (.ref b3), .val (.ref b37), .val (.ref b88), .unset, .unset, .unset, .unset] [(.ref b88)])) _
    refine XS.bipush X129.here hx rfl (hb hby at_260) ?_
    show Steps p.tables e below (T129.setTop (mkF m 262 #[.val (.long q0), .second, .val (.long q1), .second, .val (.long q2), .second, .val (.long q3), .second, .val (.int p4), .val (.int p5), .val (.int (Int32.ofNat nb)), .val (.int (Int32.ofNat fr)), .val (.int (Int32.ofNat cnt)), .val (.int (Int32.ofNat ia)), .val (.int (Int32.ofNat at_)), .val (.ref b3), .val (.ref b37), .val (.ref b88), .unset, .unset, .unset, .unset] [(.int (7 : Int32)), (.ref b88)])) _
    refine XS.iload X129.here hx rfl (hb hby at_262) rfl ?_
    exact kz
  refine OG.step s133 ?_
  have av134 := V129
  obtain ⟨cl134, Ar134, qa_134, Sa_134, Nn_134, Ha_134, Ga_134⟩ := av134
  have hin134 : ¬ ((7 : Int32) < 0 ∨ cl134.slots.size ≤ ((7 : Int32)).toNatClampNeg) := inb_of Sa_134 ⟨(by decide), (by decide)⟩
  obtain ⟨T135, h135, X135, e135, W135, st135⟩ := stI X129 hx hZ e129 Ar134 (j := (7 : Int32)) hin134 (g := (mkF m 264 #[.val (.long q0), .second, .val (.long q1), .second, .val (.long q2), .second, .val (.long q3), .second, .val (.int p4), .val (.int p5), .val (.int (Int32.ofNat nb)), .val (.int (Int32.ofNat fr)), .val (.int (Int32.ofNat cnt)), .val (.int (Int32.ofNat ia)), .val (.int (Int32.ofNat at_)), .val (.ref b3), .val (.ref b37), .val (.ref b88), .unset, .unset, .unset, .unset] [(.int p5), (.int (7 : Int32)), (.ref b88)])) rfl rfl (hb hby at_264)
  refine OG.step st135 ?_
  have Va135 := Arv.set Ar134 qa_134 Sa_134 Nn_134 Ha_134 Ga_134 rfl W135 (7) (by decide) (Nat.le_of_ble_eq_true rfl)
  have V135 : Arv Z h135 b88 k88 .int (8 : Int32) [(.int p5), (.int p5), (.int p5), (.int p5), (.int p5), (.int p5), (.int p5), (.int p5)] (.int (0 : Int32)) := Va135
  have f136 := f130.other W135 ne88_b3
  have f137 := f131.other W135 ne88_b37
  have K135 := K129.wr W135 (Or.inr sz88)
  have N135 := Fr.snoc X135 N129 ge88
  obtain ⟨Lz138, X135, N135⟩ : ∃ Lz, Stand p l e room_1 s m #[(.long q0), (.long q1), (.long q2), (.long q3), (.int p4), (.int p5)] below meth c T135 Lz 3 80 ∧ Fr n0 Lz := ⟨_, X135, N135⟩
  show OG _ _ _ _ _ _ _ (T135.setTop (mkF m 265 #[.val (.long q0), .second, .val (.long q1), .second, .val (.long q2), .second, .val (.long q3), .second, .val (.int p4), .val (.int p5), .val (.int (Int32.ofNat nb)), .val (.int (Int32.ofNat fr)), .val (.int (Int32.ofNat cnt)), .val (.int (Int32.ofNat ia)), .val (.int (Int32.ofNat at_)), .val (.ref b3), .val (.ref b37), .val (.ref b88), .unset, .unset, .unset, .unset] []))
  have Vi : Arv Z h135 b88 k88 .int (8 : Int32) (own_is (fun _ => p5)) (.int (0 : Int32)) := V135
  have s139 : ∀ tz, Steps p.tables e below (T135.setTop (mkF m 282 #[.val (.long q0), .second, .val (.long q1), .second, .val (.long q2), .second, .val (.long q3), .second, .val (.int p4), .val (.int p5), .val (.int (Int32.ofNat nb)), .val (.int (Int32.ofNat fr)), .val (.int (Int32.ofNat cnt)), .val (.int (Int32.ofNat ia)), .val (.int (Int32.ofNat at_)), .val (.ref b3), .val (.ref b37), .val (.ref b88), .val (.int ((8 : Int32) * (Int32.ofNat at_))), .unset, .unset, .unset] [(.int (((8 : Int32) * (Int32.ofNat at_)) + ((Int32.ofNat fr) * (Int32.ofNat nb)))), (.ref b3)])) tz → Steps p.tables e below (T135.setTop (mkF m 265 #[.val (.long q0), .second, .val (.long q1), .second, .val (.long q2), .second, .val (.long q3), .second, .val (.int p4), .val (.int p5), .val (.int (Int32.ofNat nb)), .val (.int (Int32.ofNat fr)), .val (.int (Int32.ofNat cnt)), .val (.int (Int32.ofNat ia)), .val (.int (Int32.ofNat at_)), .val (.ref b3), .val (.ref b37), .val (.ref b88), .unset, .unset, .unset, .unset] [])) tz := by
    intro tz kz
    refine XS.bipush X135.here hx rfl (hb hby at_265) ?_
    show Steps p.tables e below (T135.setTop (mkF m 267 #[.val (.long q0), .second, .val (.long q1), .second, .val (.long q2), .second, .val (.long q3), .second, .val (.int p4), .val (.int p5), .val (.int (Int32.ofNat nb)), .val (.int (Int32.ofNat fr)), .val (.int (Int32.ofNat cnt)), .val (.int (Int32.ofNat ia)), .val (.int (Int32.ofNat at_)), .val (.ref b3), .val (.ref b37), .val (.ref b88), .unset, .unset, .unset, .unset] [(.int (8 : Int32))])) _
    refine XS.iload X135.here hx rfl (hb hby at_267) rfl ?_
    show Steps p.tables e below (T135.setTop (mkF m 269 #[.val (.long q0), .second, .val (.long q1), .second, .val (.long q2), .second, .val (.long q3), .second, .val (.int p4), .val (.int p5), .val (.int (Int32.ofNat nb)), .val (.int (Int32.ofNat fr)), .val (.int (Int32.ofNat cnt)), .val (.int (Int32.ofNat ia)), .val (.int (Int32.ofNat at_)), .val (.ref b3), .val (.ref b37), .val (.ref b88), .unset, .unset, .unset, .unset] [(.int (Int32.ofNat at_)), (.int (8 : Int32))])) _
    refine XS.imul X135.here hx rfl (hb hby at_269) rfl ?_
    show Steps p.tables e below (T135.setTop (mkF m 270 #[.val (.long q0), .second, .val (.long q1), .second, .val (.long q2), .second, .val (.long q3), .second, .val (.int p4), .val (.int p5), .val (.int (Int32.ofNat nb)), .val (.int (Int32.ofNat fr)), .val (.int (Int32.ofNat cnt)), .val (.int (Int32.ofNat ia)), .val (.int (Int32.ofNat at_)), .val (.ref b3), .val (.ref b37), .val (.ref b88), .unset, .unset, .unset, .unset] [(.int ((8 : Int32) * (Int32.ofNat at_)))])) _
    refine XS.istore X135.here hx rfl (hb hby at_270) rfl (l' := #[.val (.long q0), .second, .val (.long q1), .second, .val (.long q2), .second, .val (.long q3), .second, .val (.int p4), .val (.int p5), .val (.int (Int32.ofNat nb)), .val (.int (Int32.ofNat fr)), .val (.int (Int32.ofNat cnt)), .val (.int (Int32.ofNat ia)), .val (.int (Int32.ofNat at_)), .val (.ref b3), .val (.ref b37), .val (.ref b88), .val (.int ((8 : Int32) * (Int32.ofNat at_))), .unset, .unset, .unset]) rfl ?_
    show Steps p.tables e below (T135.setTop (mkF m 272 #[.val (.long q0), .second, .val (.long q1), .second, .val (.long q2), .second, .val (.long q3), .second, .val (.int p4), .val (.int p5), .val (.int (Int32.ofNat nb)), .val (.int (Int32.ofNat fr)), .val (.int (Int32.ofNat cnt)), .val (.int (Int32.ofNat ia)), .val (.int (Int32.ofNat at_)), .val (.ref b3), .val (.ref b37), .val (.ref b88), .val (.int ((8 : Int32) * (Int32.ofNat at_))), .unset, .unset, .unset] [])) _
    refine XS.aload X135.here hx rfl (hb hby at_272) rfl rfl ?_
    show Steps p.tables e below (T135.setTop (mkF m 274 #[.val (.long q0), .second, .val (.long q1), .second, .val (.long q2), .second, .val (.long q3), .second, .val (.int p4), .val (.int p5), .val (.int (Int32.ofNat nb)), .val (.int (Int32.ofNat fr)), .val (.int (Int32.ofNat cnt)), .val (.int (Int32.ofNat ia)), .val (.int (Int32.ofNat at_)), .val (.ref b3), .val (.ref b37), .val (.ref b88), .val (.int ((8 : Int32) * (Int32.ofNat at_))), .unset, .unset, .unset] [(.ref b3)])) _
    refine XS.iload X135.here hx rfl (hb hby at_274) rfl ?_
    show Steps p.tables e below (T135.setTop (mkF m 276 #[.val (.long q0), .second, .val (.long q1), .second, .val (.long q2), .second, .val (.long q3), .second, .val (.int p4), .val (.int p5), .val (.int (Int32.ofNat nb)), .val (.int (Int32.ofNat fr)), .val (.int (Int32.ofNat cnt)), .val (.int (Int32.ofNat ia)), .val (.int (Int32.ofNat at_)), .val (.ref b3), .val (.ref b37), .val (.ref b88), .val (.int ((8 : Int32) * (Int32.ofNat at_))), .unset, .unset, .unset] [(.int ((8 : Int32) * (Int32.ofNat at_))), (.ref b3)])) _
    refine XS.iload X135.here hx rfl (hb hby at_276) rfl ?_
    show Steps p.tables e below (T135.setTop (mkF m 278 #[.val (.long q0), .second, .val (.long q1), .second, .val (.long q2), .second, .val (.long q3), .second, .val (.int p4), .val (.int p5), .val (.int (Int32.ofNat nb)), .val (.int (Int32.ofNat fr)), .val (.int (Int32.ofNat cnt)), .val (.int (Int32.ofNat ia)), .val (.int (Int32.ofNat at_)), .val (.ref b3), .val (.ref b37), .val (.ref b88), .val (.int ((8 : Int32) * (Int32.ofNat at_))), .unset, .unset, .unset] [(.int (Int32.ofNat fr)), (.int ((8 : Int32) * (Int32.ofNat at_))), (.ref b3)])) _
    refine XS.iload X135.here hx rfl (hb hby at_278) rfl ?_
    show Steps p.tables e below (T135.setTop (mkF m 280 #[.val (.long q0), .second, .val (.long q1), .second, .val (.long q2), .second, .val (.long q3), .second, .val (.int p4), .val (.int p5), .val (.int (Int32.ofNat nb)), .val (.int (Int32.ofNat fr)), .val (.int (Int32.ofNat cnt)), .val (.int (Int32.ofNat ia)), .val (.int (Int32.ofNat at_)), .val (.ref b3), .val (.ref b37), .val (.ref b88), .val (.int ((8 : Int32) * (Int32.ofNat at_))), .unset, .unset, .unset] [(.int (Int32.ofNat nb)), (.int (Int32.ofNat fr)), (.int ((8 : Int32) * (Int32.ofNat at_))), (.ref b3)])) _
    refine XS.imul X135.here hx rfl (hb hby at_280) rfl ?_
    show Steps p.tables e below (T135.setTop (mkF m 281 #[.val (.long q0), .second, .val (.long q1), .second, .val (.long q2), .second, .val (.long q3), .second, .val (.int p4), .val (.int p5), .val (.int (Int32.ofNat nb)), .val (.int (Int32.ofNat fr)), .val (.int (Int32.ofNat cnt)), .val (.int (Int32.ofNat ia)), .val (.int (Int32.ofNat at_)), .val (.ref b3), .val (.ref b37), .val (.ref b88), .val (.int ((8 : Int32) * (Int32.ofNat at_))), .unset, .unset, .unset] [(.int ((Int32.ofNat fr) * (Int32.ofNat nb))), (.int ((8 : Int32) * (Int32.ofNat at_))), (.ref b3)])) _
    refine XS.iadd X135.here hx rfl (hb hby at_281) rfl ?_
    exact kz
  refine OG.step s139 ?_
  rw [own_px0 hnb hfr hat_]
  show OG _ _ _ _ _ _ _ (T135.setTop (mkF m 282 #[.val (.long q0), .second, .val (.long q1), .second, .val (.long q2), .second, .val (.long q3), .second, .val (.int p4), .val (.int p5), .val (.int (Int32.ofNat nb)), .val (.int (Int32.ofNat fr)), .val (.int (Int32.ofNat cnt)), .val (.int (Int32.ofNat ia)), .val (.int (Int32.ofNat at_)), .val (.ref b3), .val (.ref b37), .val (.ref b88), .val (.int ((8 : Int32) * (Int32.ofNat at_))), .unset, .unset, .unset] [(.int (Int32.ofNat (8 * at_ + (fr + 0) * nb))), (.ref b3)]))
  have s140 : ∀ tz, Steps p.tables e below (T135.setTop (mkF m 284 #[.val (.long q0), .second, .val (.long q1), .second, .val (.long q2), .second, .val (.long q3), .second, .val (.int p4), .val (.int p5), .val (.int (Int32.ofNat nb)), .val (.int (Int32.ofNat fr)), .val (.int (Int32.ofNat cnt)), .val (.int (Int32.ofNat ia)), .val (.int (Int32.ofNat at_)), .val (.ref b3), .val (.ref b37), .val (.ref b88), .val (.int ((8 : Int32) * (Int32.ofNat at_))), .unset, .unset, .unset] [(.int (Int32.ofNat nb)), (.int (Int32.ofNat (8 * at_ + (fr + 0) * nb))), (.ref b3)])) tz → Steps p.tables e below (T135.setTop (mkF m 282 #[.val (.long q0), .second, .val (.long q1), .second, .val (.long q2), .second, .val (.long q3), .second, .val (.int p4), .val (.int p5), .val (.int (Int32.ofNat nb)), .val (.int (Int32.ofNat fr)), .val (.int (Int32.ofNat cnt)), .val (.int (Int32.ofNat ia)), .val (.int (Int32.ofNat at_)), .val (.ref b3), .val (.ref b37), .val (.ref b88), .val (.int ((8 : Int32) * (Int32.ofNat at_))), .unset, .unset, .unset] [(.int (Int32.ofNat (8 * at_ + (fr + 0) * nb))), (.ref b3)])) tz := by
    intro tz kz
    refine XS.iload X135.here hx rfl (hb hby at_282) rfl ?_
    exact kz
  refine OG.step s140 ?_
  obtain ⟨_, _, ⟨T141, L141, k141, n141⟩, -, X141, ⟨Lc141, hQ141, l141, y141, z141⟩, st141⟩ := Jvm.LawKit.callS X135 hx (y := (⟨"com/example/strata/strata/PostingsUnpackTimesPinLaw", "field", "([JII)J"⟩ : MethodName)) hown (mvT hZ (hw _ (List.mem_of_getElem? (i := 8) rfl))) (mvT hZ (hw _ (List.mem_of_getElem? (i := 9) rfl))) (mvT hZ (hw _ (List.mem_of_getElem? (i := 5) rfl))) (mvT hZ (hw _ (List.mem_of_getElem? (i := 10) rfl))) (by decide) (backOf (W := 0) (rm2 l Z a0 hw [] b3 (8 * at_ + (fr + 0) * nb) nb k3 (own_W q0 q1 q2 q3) h135 n0 (Nat.le_trans Z0 K135.1) f136 (own_pb0 hnb hfr hat_) hnb) hZ (hw _ (List.mem_of_getElem? (i := 10) rfl)) (hw _ (List.mem_of_getElem? (i := 5) rfl)) (by decide) (by decide)) (g := (mkF m 284 #[.val (.long q0), .second, .val (.long q1), .second, .val (.long q2), .second, .val (.long q3), .second, .val (.int p4), .val (.int p5), .val (.int (Int32.ofNat nb)), .val (.int (Int32.ofNat fr)), .val (.int (Int32.ofNat cnt)), .val (.int (Int32.ofNat ia)), .val (.int (Int32.ofNat at_)), .val (.ref b3), .val (.ref b37), .val (.ref b88), .val (.int ((8 : Int32) * (Int32.ofNat at_))), .unset, .unset, .unset] [(.int (Int32.ofNat nb)), (.int (Int32.ofNat (8 * at_ + (fr + 0) * nb))), (.ref b3)])) rfl (by rw [hml]; rfl) (argsL := [(.ref b3), (.int (Int32.ofNat (8 * at_ + (fr + 0) * nb))), (.int (Int32.ofNat nb))]) (rest := []) (lenOf pd___JII_J rfl) rfl (by show 2 * 0 + _ ≤ _; exact Nat.le_of_eq rfl) (hb hby at_284) (fun _ _ => ⟨rfl, e135, (by decide : 3 + 0 ≤ _), (by decide : 80 + 0 ≤ _)⟩)
  dsimp only [Pt.U, Pt.locs, Pt.cells, Pt.slots] at X141 l141 y141 z141 st141 hQ141
  subst l141 y141 z141
  obtain ⟨r_141, rfl, N141q, e141, u141_0⟩ := hQ141
  have N141 := Fr.app N135 N141q
  refine OG.step st141 ?_
  obtain ⟨Lz142, X141, N141⟩ : ∃ Lz, Stand p l e room_1 s m #[(.long q0), (.long q1), (.long q2), (.long q3), (.int p4), (.int p5)] below meth c T141 Lz 3 80 ∧ Fr n0 Lz := ⟨_, X141, N141⟩
  show OG _ _ _ _ _ _ _ (T141.setTop (mkF m 287 #[.val (.long q0), .second, .val (.long q1), .second, .val (.long q2), .second, .val (.long q3), .second, .val (.int p4), .val (.int p5), .val (.int (Int32.ofNat nb)), .val (.int (Int32.ofNat fr)), .val (.int (Int32.ofNat cnt)), .val (.int (Int32.ofNat ia)), .val (.int (Int32.ofNat at_)), .val (.ref b3), .val (.ref b37), .val (.ref b88), .val (.int ((8 : Int32) * (Int32.ofNat at_))), .unset, .unset, .unset] [(.long r_141)]))
  have s143 : ∀ tz, Steps p.tables e below (T141.setTop (mkF m 304 #[.val (.long q0), .second, .val (.long q1), .second, .val (.long q2), .second, .val (.long q3), .second, .val (.int p4), .val (.int p5), .val (.int (Int32.ofNat nb)), .val (.int (Int32.ofNat fr)), .val (.int (Int32.ofNat cnt)), .val (.int (Int32.ofNat ia)), .val (.int (Int32.ofNat at_)), .val (.ref b3), .val (.ref b37), .val (.ref b88), .val (.int ((8 : Int32) * (Int32.ofNat at_))), .val (.int ((r_141.toInt32) + (1 : Int32))), .unset, .unset] [(.int (((8 : Int32) * (Int32.ofNat at_)) + (((Int32.ofNat fr) + (1 : Int32)) * (Int32.ofNat nb)))), (.ref b3)])) tz → Steps p.tables e below (T141.setTop (mkF m 287 #[.val (.long q0), .second, .val (.long q1), .second, .val (.long q2), .second, .val (.long q3), .second, .val (.int p4), .val (.int p5), .val (.int (Int32.ofNat nb)), .val (.int (Int32.ofNat fr)), .val (.int (Int32.ofNat cnt)), .val (.int (Int32.ofNat ia)), .val (.int (Int32.ofNat at_)), .val (.ref b3), .val (.ref b37), .val (.ref b88), .val (.int ((8 : Int32) * (Int32.ofNat at_))), .unset, .unset, .unset] [(.long r_141)])) tz := by
    intro tz kz
    refine XS.l2i X141.here hx rfl (hb hby at_287) rfl ?_
    show Steps p.tables e below (T141.setTop (mkF m 288 #[.val (.long q0), .second, .val (.long q1), .second, .val (.long q2), .second, .val (.long q3), .second, .val (.int p4), .val (.int p5), .val (.int (Int32.ofNat nb)), .val (.int (Int32.ofNat fr)), .val (.int (Int32.ofNat cnt)), .val (.int (Int32.ofNat ia)), .val (.int (Int32.ofNat at_)), .val (.ref b3), .val (.ref b37), .val (.ref b88), .val (.int ((8 : Int32) * (Int32.ofNat at_))), .unset, .unset, .unset] [(.int (r_141.toInt32))])) _
    refine XS.iconst X141.here hx rfl (hb hby at_288) ?_
    show Steps p.tables e below (T141.setTop (mkF m 289 #[.val (.long q0), .second, .val (.long q1), .second, .val (.long q2), .second, .val (.long q3), .second, .val (.int p4), .val (.int p5), .val (.int (Int32.ofNat nb)), .val (.int (Int32.ofNat fr)), .val (.int (Int32.ofNat cnt)), .val (.int (Int32.ofNat ia)), .val (.int (Int32.ofNat at_)), .val (.ref b3), .val (.ref b37), .val (.ref b88), .val (.int ((8 : Int32) * (Int32.ofNat at_))), .unset, .unset, .unset] [(.int (1 : Int32)), (.int (r_141.toInt32))])) _
    refine XS.iadd X141.here hx rfl (hb hby at_289) rfl ?_
    show Steps p.tables e below (T141.setTop (mkF m 290 #[.val (.long q0), .second, .val (.long q1), .second, .val (.long q2), .second, .val (.long q3), .second, .val (.int p4), .val (.int p5), .val (.int (Int32.ofNat nb)), .val (.int (Int32.ofNat fr)), .val (.int (Int32.ofNat cnt)), .val (.int (Int32.ofNat ia)), .val (.int (Int32.ofNat at_)), .val (.ref b3), .val (.ref b37), .val (.ref b88), .val (.int ((8 : Int32) * (Int32.ofNat at_))), .unset, .unset, .unset] [(.int ((r_141.toInt32) + (1 : Int32)))])) _
    refine XS.istore X141.here hx rfl (hb hby at_290) rfl (l' := #[.val (.long q0), .second, .val (.long q1), .second, .val (.long q2), .second, .val (.long q3), .second, .val (.int p4), .val (.int p5), .val (.int (Int32.ofNat nb)), .val (.int (Int32.ofNat fr)), .val (.int (Int32.ofNat cnt)), .val (.int (Int32.ofNat ia)), .val (.int (Int32.ofNat at_)), .val (.ref b3), .val (.ref b37), .val (.ref b88), .val (.int ((8 : Int32) * (Int32.ofNat at_))), .val (.int ((r_141.toInt32) + (1 : Int32))), .unset, .unset]) rfl ?_
    show Steps p.tables e below (T141.setTop (mkF m 292 #[.val (.long q0), .second, .val (.long q1), .second, .val (.long q2), .second, .val (.long q3), .second, .val (.int p4), .val (.int p5), .val (.int (Int32.ofNat nb)), .val (.int (Int32.ofNat fr)), .val (.int (Int32.ofNat cnt)), .val (.int (Int32.ofNat ia)), .val (.int (Int32.ofNat at_)), .val (.ref b3), .val (.ref b37), .val (.ref b88), .val (.int ((8 : Int32) * (Int32.ofNat at_))), .val (.int ((r_141.toInt32) + (1 : Int32))), .unset, .unset] [])) _
    refine XS.aload X141.here hx rfl (hb hby at_292) rfl rfl ?_
    show Steps p.tables e below (T141.setTop (mkF m 294 #[.val (.long q0), .second, .val (.long q1), .second, .val (.long q2), .second, .val (.long q3), .second, .val (.int p4), .val (.int p5), .val (.int (Int32.ofNat nb)), .val (.int (Int32.ofNat fr)), .val (.int (Int32.ofNat cnt)), .val (.int (Int32.ofNat ia)), .val (.int (Int32.ofNat at_)), .val (.ref b3), .val (.ref b37), .val (.ref b88), .val (.int ((8 : Int32) * (Int32.ofNat at_))), .val (.int ((r_141.toInt32) + (1 : Int32))), .unset, .unset] [(.ref b3)])) _
    refine XS.iload X141.here hx rfl (hb hby at_294) rfl ?_
    show Steps p.tables e below (T141.setTop (mkF m 296 #[.val (.long q0), .second, .val (.long q1), .second, .val (.long q2), .second, .val (.long q3), .second, .val (.int p4), .val (.int p5), .val (.int (Int32.ofNat nb)), .val (.int (Int32.ofNat fr)), .val (.int (Int32.ofNat cnt)), .val (.int (Int32.ofNat ia)), .val (.int (Int32.ofNat at_)), .val (.ref b3), .val (.ref b37), .val (.ref b88), .val (.int ((8 : Int32) * (Int32.ofNat at_))), .val (.int ((r_141.toInt32) + (1 : Int32))), .unset, .unset] [(.int ((8 : Int32) * (Int32.ofNat at_))), (.ref b3)])) _
    refine XS.iload X141.here hx rfl (hb hby at_296) rfl ?_
    show Steps p.tables e below (T141.setTop (mkF m 298 #[.val (.long q0), .second, .val (.long q1), .second, .val (.long q2), .second, .val (.long q3), .second, .val (.int p4), .val (.int p5), .val (.int (Int32.ofNat nb)), .val (.int (Int32.ofNat fr)), .val (.int (Int32.ofNat cnt)), .val (.int (Int32.ofNat ia)), .val (.int (Int32.ofNat at_)), .val (.ref b3), .val (.ref b37), .val (.ref b88), .val (.int ((8 : Int32) * (Int32.ofNat at_))), .val (.int ((r_141.toInt32) + (1 : Int32))), .unset, .unset] [(.int (Int32.ofNat fr)), (.int ((8 : Int32) * (Int32.ofNat at_))), (.ref b3)])) _
    refine XS.iconst X141.here hx rfl (hb hby at_298) ?_
    show Steps p.tables e below (T141.setTop (mkF m 299 #[.val (.long q0), .second, .val (.long q1), .second, .val (.long q2), .second, .val (.long q3), .second, .val (.int p4), .val (.int p5), .val (.int (Int32.ofNat nb)), .val (.int (Int32.ofNat fr)), .val (.int (Int32.ofNat cnt)), .val (.int (Int32.ofNat ia)), .val (.int (Int32.ofNat at_)), .val (.ref b3), .val (.ref b37), .val (.ref b88), .val (.int ((8 : Int32) * (Int32.ofNat at_))), .val (.int ((r_141.toInt32) + (1 : Int32))), .unset, .unset] [(.int (1 : Int32)), (.int (Int32.ofNat fr)), (.int ((8 : Int32) * (Int32.ofNat at_))), (.ref b3)])) _
    refine XS.iadd X141.here hx rfl (hb hby at_299) rfl ?_
    show Steps p.tables e below (T141.setTop (mkF m 300 #[.val (.long q0), .second, .val (.long q1), .second, .val (.long q2), .second, .val (.long q3), .second, .val (.int p4), .val (.int p5), .val (.int (Int32.ofNat nb)), .val (.int (Int32.ofNat fr)), .val (.int (Int32.ofNat cnt)), .val (.int (Int32.ofNat ia)), .val (.int (Int32.ofNat at_)), .val (.ref b3), .val (.ref b37), .val (.ref b88), .val (.int ((8 : Int32) * (Int32.ofNat at_))), .val (.int ((r_141.toInt32) + (1 : Int32))), .unset, .unset] [(.int ((Int32.ofNat fr) + (1 : Int32))), (.int ((8 : Int32) * (Int32.ofNat at_))), (.ref b3)])) _
    refine XS.iload X141.here hx rfl (hb hby at_300) rfl ?_
    show Steps p.tables e below (T141.setTop (mkF m 302 #[.val (.long q0), .second, .val (.long q1), .second, .val (.long q2), .second, .val (.long q3), .second, .val (.int p4), .val (.int p5), .val (.int (Int32.ofNat nb)), .val (.int (Int32.ofNat fr)), .val (.int (Int32.ofNat cnt)), .val (.int (Int32.ofNat ia)), .val (.int (Int32.ofNat at_)), .val (.ref b3), .val (.ref b37), .val (.ref b88), .val (.int ((8 : Int32) * (Int32.ofNat at_))), .val (.int ((r_141.toInt32) + (1 : Int32))), .unset, .unset] [(.int (Int32.ofNat nb)), (.int ((Int32.ofNat fr) + (1 : Int32))), (.int ((8 : Int32) * (Int32.ofNat at_))), (.ref b3)])) _
    refine XS.imul X141.here hx rfl (hb hby at_302) rfl ?_
    show Steps p.tables e below (T141.setTop (mkF m 303 #[.val (.long q0), .second, .val (.long q1), .second, .val (.long q2), .second, .val (.long q3), .second, .val (.int p4), .val (.int p5), .val (.int (Int32.ofNat nb)), .val (.int (Int32.ofNat fr)), .val (.int (Int32.ofNat cnt)), .val (.int (Int32.ofNat ia)), .val (.int (Int32.ofNat at_)), .val (.ref b3), .val (.ref b37), .val (.ref b88), .val (.int ((8 : Int32) * (Int32.ofNat at_))), .val (.int ((r_141.toInt32) + (1 : Int32))), .unset, .unset] [(.int (((Int32.ofNat fr) + (1 : Int32)) * (Int32.ofNat nb))), (.int ((8 : Int32) * (Int32.ofNat at_))), (.ref b3)])) _
    refine XS.iadd X141.here hx rfl (hb hby at_303) rfl ?_
    exact kz
  refine OG.step s143 ?_
  rw [own_px1 hnb hfr hat_]
  show OG _ _ _ _ _ _ _ (T141.setTop (mkF m 304 #[.val (.long q0), .second, .val (.long q1), .second, .val (.long q2), .second, .val (.long q3), .second, .val (.int p4), .val (.int p5), .val (.int (Int32.ofNat nb)), .val (.int (Int32.ofNat fr)), .val (.int (Int32.ofNat cnt)), .val (.int (Int32.ofNat ia)), .val (.int (Int32.ofNat at_)), .val (.ref b3), .val (.ref b37), .val (.ref b88), .val (.int ((8 : Int32) * (Int32.ofNat at_))), .val (.int ((r_141.toInt32) + (1 : Int32))), .unset, .unset] [(.int (Int32.ofNat (8 * at_ + (fr + 1) * nb))), (.ref b3)]))
  have s144 : ∀ tz, Steps p.tables e below (T141.setTop (mkF m 306 #[.val (.long q0), .second, .val (.long q1), .second, .val (.long q2), .second, .val (.long q3), .second, .val (.int p4), .val (.int p5), .val (.int (Int32.ofNat nb)), .val (.int (Int32.ofNat fr)), .val (.int (Int32.ofNat cnt)), .val (.int (Int32.ofNat ia)), .val (.int (Int32.ofNat at_)), .val (.ref b3), .val (.ref b37), .val (.ref b88), .val (.int ((8 : Int32) * (Int32.ofNat at_))), .val (.int ((r_141.toInt32) + (1 : Int32))), .unset, .unset] [(.int (Int32.ofNat nb)), (.int (Int32.ofNat (8 * at_ + (fr + 1) * nb))), (.ref b3)])) tz → Steps p.tables e below (T141.setTop (mkF m 304 #[.val (.long q0), .second, .val (.long q1), .second, .val (.long q2), .second, .val (.long q3), .second, .val (.int p4), .val (.int p5), .val (.int (Int32.ofNat nb)), .val (.int (Int32.ofNat fr)), .val (.int (Int32.ofNat cnt)), .val (.int (Int32.ofNat ia)), .val (.int (Int32.ofNat at_)), .val (.ref b3), .val (.ref b37), .val (.ref b88), .val (.int ((8 : Int32) * (Int32.ofNat at_))), .val (.int ((r_141.toInt32) + (1 : Int32))), .unset, .unset] [(.int (Int32.ofNat (8 * at_ + (fr + 1) * nb))), (.ref b3)])) tz := by
    intro tz kz
    refine XS.iload X141.here hx rfl (hb hby at_304) rfl ?_
    exact kz
  refine OG.step s144 ?_
  obtain ⟨_, _, ⟨T145, L145, k145, n145⟩, -, X145, ⟨Lc145, hQ145, l145, y145, z145⟩, st145⟩ := Jvm.LawKit.callS X141 hx (y := (⟨"com/example/strata/strata/PostingsUnpackTimesPinLaw", "field", "([JII)J"⟩ : MethodName)) hown (mvT hZ (hw _ (List.mem_of_getElem? (i := 8) rfl))) (mvT hZ (hw _ (List.mem_of_getElem? (i := 9) rfl))) (mvT hZ (hw _ (List.mem_of_getElem? (i := 5) rfl))) (mvT hZ (hw _ (List.mem_of_getElem? (i := 10) rfl))) (by decide) (backOf (W := 0) (rm2 l Z a0 hw [] b3 (8 * at_ + (fr + 1) * nb) nb k3 (own_W q0 q1 q2 q3) h135 n0 (Nat.le_trans Z0 K135.1) f136 (own_pb1 hnb hfr hat_) hnb) hZ (hw _ (List.mem_of_getElem? (i := 10) rfl)) (hw _ (List.mem_of_getElem? (i := 5) rfl)) (by decide) (by decide)) (g := (mkF m 306 #[.val (.long q0), .second, .val (.long q1), .second, .val (.long q2), .second, .val (.long q3), .second, .val (.int p4), .val (.int p5), .val (.int (Int32.ofNat nb)), .val (.int (Int32.ofNat fr)), .val (.int (Int32.ofNat cnt)), .val (.int (Int32.ofNat ia)), .val (.int (Int32.ofNat at_)), .val (.ref b3), .val (.ref b37), .val (.ref b88), .val (.int ((8 : Int32) * (Int32.ofNat at_))), .val (.int ((r_141.toInt32) + (1 : Int32))), .unset, .unset] [(.int (Int32.ofNat nb)), (.int (Int32.ofNat (8 * at_ + (fr + 1) * nb))), (.ref b3)])) rfl (by rw [hml]; rfl) (argsL := [(.ref b3), (.int (Int32.ofNat (8 * at_ + (fr + 1) * nb))), (.int (Int32.ofNat nb))]) (rest := []) (lenOf pd___JII_J rfl) rfl (by show 2 * 0 + _ ≤ _; exact Nat.le_of_eq rfl) (hb hby at_306) (fun _ _ => ⟨rfl, e141, (by decide : 3 + 0 ≤ _), (by decide : 80 + 0 ≤ _)⟩)
  dsimp only [Pt.U, Pt.locs, Pt.cells, Pt.slots] at X145 l145 y145 z145 st145 hQ145
  subst l145 y145 z145
  obtain ⟨r_145, rfl, N145q, e145, u145_0⟩ := hQ145
  have N145 := Fr.app N141 N145q
  refine OG.step st145 ?_
  obtain ⟨Lz146, X145, N145⟩ : ∃ Lz, Stand p l e room_1 s m #[(.long q0), (.long q1), (.long q2), (.long q3), (.int p4), (.int p5)] below meth c T145 Lz 3 80 ∧ Fr n0 Lz := ⟨_, X145, N145⟩
  show OG _ _ _ _ _ _ _ (T145.setTop (mkF m 309 #[.val (.long q0), .second, .val (.long q1), .second, .val (.long q2), .second, .val (.long q3), .second, .val (.int p4), .val (.int p5), .val (.int (Int32.ofNat nb)), .val (.int (Int32.ofNat fr)), .val (.int (Int32.ofNat cnt)), .val (.int (Int32.ofNat ia)), .val (.int (Int32.ofNat at_)), .val (.ref b3), .val (.ref b37), .val (.ref b88), .val (.int ((8 : Int32) * (Int32.ofNat at_))), .val (.int ((r_141.toInt32) + (1 : Int32))), .unset, .unset] [(.long r_145)]))
  have s147 : ∀ tz, Steps p.tables e below (T145.setTop (mkF m 326 #[.val (.long q0), .second, .val (.long q1), .second, .val (.long q2), .second, .val (.long q3), .second, .val (.int p4), .val (.int p5), .val (.int (Int32.ofNat nb)), .val (.int (Int32.ofNat fr)), .val (.int (Int32.ofNat cnt)), .val (.int (Int32.ofNat ia)), .val (.int (Int32.ofNat at_)), .val (.ref b3), .val (.ref b37), .val (.ref b88), .val (.int ((8 : Int32) * (Int32.ofNat at_))), .val (.int ((r_141.toInt32) + (1 : Int32))), .val (.int ((r_145.toInt32) + (1 : Int32))), .unset] [(.int (((8 : Int32) * (Int32.ofNat at_)) + (((Int32.ofNat fr) + (2 : Int32)) * (Int32.ofNat nb)))), (.ref b3)])) tz → Steps p.tables e below (T145.setTop (mkF m 309 #[.val (.long q0), .second, .val (.long q1), .second, .val (.long q2), .second, .val (.long q3), .second, .val (.int p4), .val (.int p5), .val (.int (Int32.ofNat nb)), .val (.int (Int32.ofNat fr)), .val (.int (Int32.ofNat cnt)), .val (.int (Int32.ofNat ia)), .val (.int (Int32.ofNat at_)), .val (.ref b3), .val (.ref b37), .val (.ref b88), .val (.int ((8 : Int32) * (Int32.ofNat at_))), .val (.int ((r_141.toInt32) + (1 : Int32))), .unset, .unset] [(.long r_145)])) tz := by
    intro tz kz
    refine XS.l2i X145.here hx rfl (hb hby at_309) rfl ?_
    show Steps p.tables e below (T145.setTop (mkF m 310 #[.val (.long q0), .second, .val (.long q1), .second, .val (.long q2), .second, .val (.long q3), .second, .val (.int p4), .val (.int p5), .val (.int (Int32.ofNat nb)), .val (.int (Int32.ofNat fr)), .val (.int (Int32.ofNat cnt)), .val (.int (Int32.ofNat ia)), .val (.int (Int32.ofNat at_)), .val (.ref b3), .val (.ref b37), .val (.ref b88), .val (.int ((8 : Int32) * (Int32.ofNat at_))), .val (.int ((r_141.toInt32) + (1 : Int32))), .unset, .unset] [(.int (r_145.toInt32))])) _
    refine XS.iconst X145.here hx rfl (hb hby at_310) ?_
    show Steps p.tables e below (T145.setTop (mkF m 311 #[.val (.long q0), .second, .val (.long q1), .second, .val (.long q2), .second, .val (.long q3), .second, .val (.int p4), .val (.int p5), .val (.int (Int32.ofNat nb)), .val (.int (Int32.ofNat fr)), .val (.int (Int32.ofNat cnt)), .val (.int (Int32.ofNat ia)), .val (.int (Int32.ofNat at_)), .val (.ref b3), .val (.ref b37), .val (.ref b88), .val (.int ((8 : Int32) * (Int32.ofNat at_))), .val (.int ((r_141.toInt32) + (1 : Int32))), .unset, .unset] [(.int (1 : Int32)), (.int (r_145.toInt32))])) _
    refine XS.iadd X145.here hx rfl (hb hby at_311) rfl ?_
    show Steps p.tables e below (T145.setTop (mkF m 312 #[.val (.long q0), .second, .val (.long q1), .second, .val (.long q2), .second, .val (.long q3), .second, .val (.int p4), .val (.int p5), .val (.int (Int32.ofNat nb)), .val (.int (Int32.ofNat fr)), .val (.int (Int32.ofNat cnt)), .val (.int (Int32.ofNat ia)), .val (.int (Int32.ofNat at_)), .val (.ref b3), .val (.ref b37), .val (.ref b88), .val (.int ((8 : Int32) * (Int32.ofNat at_))), .val (.int ((r_141.toInt32) + (1 : Int32))), .unset, .unset] [(.int ((r_145.toInt32) + (1 : Int32)))])) _
    refine XS.istore X145.here hx rfl (hb hby at_312) rfl (l' := #[.val (.long q0), .second, .val (.long q1), .second, .val (.long q2), .second, .val (.long q3), .second, .val (.int p4), .val (.int p5), .val (.int (Int32.ofNat nb)), .val (.int (Int32.ofNat fr)), .val (.int (Int32.ofNat cnt)), .val (.int (Int32.ofNat ia)), .val (.int (Int32.ofNat at_)), .val (.ref b3), .val (.ref b37), .val (.ref b88), .val (.int ((8 : Int32) * (Int32.ofNat at_))), .val (.int ((r_141.toInt32) + (1 : Int32))), .val (.int ((r_145.toInt32) + (1 : Int32))), .unset]) rfl ?_
    show Steps p.tables e below (T145.setTop (mkF m 314 #[.val (.long q0), .second, .val (.long q1), .second, .val (.long q2), .second, .val (.long q3), .second, .val (.int p4), .val (.int p5), .val (.int (Int32.ofNat nb)), .val (.int (Int32.ofNat fr)), .val (.int (Int32.ofNat cnt)), .val (.int (Int32.ofNat ia)), .val (.int (Int32.ofNat at_)), .val (.ref b3), .val (.ref b37), .val (.ref b88), .val (.int ((8 : Int32) * (Int32.ofNat at_))), .val (.int ((r_141.toInt32) + (1 : Int32))), .val (.int ((r_145.toInt32) + (1 : Int32))), .unset] [])) _
    refine XS.aload X145.here hx rfl (hb hby at_314) rfl rfl ?_
    show Steps p.tables e below (T145.setTop (mkF m 316 #[.val (.long q0), .second, .val (.long q1), .second, .val (.long q2), .second, .val (.long q3), .second, .val (.int p4), .val (.int p5), .val (.int (Int32.ofNat nb)), .val (.int (Int32.ofNat fr)), .val (.int (Int32.ofNat cnt)), .val (.int (Int32.ofNat ia)), .val (.int (Int32.ofNat at_)), .val (.ref b3), .val (.ref b37), .val (.ref b88), .val (.int ((8 : Int32) * (Int32.ofNat at_))), .val (.int ((r_141.toInt32) + (1 : Int32))), .val (.int ((r_145.toInt32) + (1 : Int32))), .unset] [(.ref b3)])) _
    refine XS.iload X145.here hx rfl (hb hby at_316) rfl ?_
    show Steps p.tables e below (T145.setTop (mkF m 318 #[.val (.long q0), .second, .val (.long q1), .second, .val (.long q2), .second, .val (.long q3), .second, .val (.int p4), .val (.int p5), .val (.int (Int32.ofNat nb)), .val (.int (Int32.ofNat fr)), .val (.int (Int32.ofNat cnt)), .val (.int (Int32.ofNat ia)), .val (.int (Int32.ofNat at_)), .val (.ref b3), .val (.ref b37), .val (.ref b88), .val (.int ((8 : Int32) * (Int32.ofNat at_))), .val (.int ((r_141.toInt32) + (1 : Int32))), .val (.int ((r_145.toInt32) + (1 : Int32))), .unset] [(.int ((8 : Int32) * (Int32.ofNat at_))), (.ref b3)])) _
    refine XS.iload X145.here hx rfl (hb hby at_318) rfl ?_
    show Steps p.tables e below (T145.setTop (mkF m 320 #[.val (.long q0), .second, .val (.long q1), .second, .val (.long q2), .second, .val (.long q3), .second, .val (.int p4), .val (.int p5), .val (.int (Int32.ofNat nb)), .val (.int (Int32.ofNat fr)), .val (.int (Int32.ofNat cnt)), .val (.int (Int32.ofNat ia)), .val (.int (Int32.ofNat at_)), .val (.ref b3), .val (.ref b37), .val (.ref b88), .val (.int ((8 : Int32) * (Int32.ofNat at_))), .val (.int ((r_141.toInt32) + (1 : Int32))), .val (.int ((r_145.toInt32) + (1 : Int32))), .unset] [(.int (Int32.ofNat fr)), (.int ((8 : Int32) * (Int32.ofNat at_))), (.ref b3)])) _
    refine XS.iconst X145.here hx rfl (hb hby at_320) ?_
    show Steps p.tables e below (T145.setTop (mkF m 321 #[.val (.long q0), .second, .val (.long q1), .second, .val (.long q2), .second, .val (.long q3), .second, .val (.int p4), .val (.int p5), .val (.int (Int32.ofNat nb)), .val (.int (Int32.ofNat fr)), .val (.int (Int32.ofNat cnt)), .val (.int (Int32.ofNat ia)), .val (.int (Int32.ofNat at_)), .val (.ref b3), .val (.ref b37), .val (.ref b88), .val (.int ((8 : Int32) * (Int32.ofNat at_))), .val (.int ((r_141.toInt32) + (1 : Int32))), .val (.int ((r_145.toInt32) + (1 : Int32))), .unset] [(.int (2 : Int32)), (.int (Int32.ofNat fr)), (.int ((8 : Int32) * (Int32.ofNat at_))), (.ref b3)])) _
    refine XS.iadd X145.here hx rfl (hb hby at_321) rfl ?_
    show Steps p.tables e below (T145.setTop (mkF m 322 #[.val (.long q0), .second, .val (.long q1), .second, .val (.long q2), .second, .val (.long q3), .second, .val (.int p4), .val (.int p5), .val (.int (Int32.ofNat nb)), .val (.int (Int32.ofNat fr)), .val (.int (Int32.ofNat cnt)), .val (.int (Int32.ofNat ia)), .val (.int (Int32.ofNat at_)), .val (.ref b3), .val (.ref b37), .val (.ref b88), .val (.int ((8 : Int32) * (Int32.ofNat at_))), .val (.int ((r_141.toInt32) + (1 : Int32))), .val (.int ((r_145.toInt32) + (1 : Int32))), .unset] [(.int ((Int32.ofNat fr) + (2 : Int32))), (.int ((8 : Int32) * (Int32.ofNat at_))), (.ref b3)])) _
    refine XS.iload X145.here hx rfl (hb hby at_322) rfl ?_
    show Steps p.tables e below (T145.setTop (mkF m 324 #[.val (.long q0), .second, .val (.long q1), .second, .val (.long q2), .second, .val (.long q3), .second, .val (.int p4), .val (.int p5), .val (.int (Int32.ofNat nb)), .val (.int (Int32.ofNat fr)), .val (.int (Int32.ofNat cnt)), .val (.int (Int32.ofNat ia)), .val (.int (Int32.ofNat at_)), .val (.ref b3), .val (.ref b37), .val (.ref b88), .val (.int ((8 : Int32) * (Int32.ofNat at_))), .val (.int ((r_141.toInt32) + (1 : Int32))), .val (.int ((r_145.toInt32) + (1 : Int32))), .unset] [(.int (Int32.ofNat nb)), (.int ((Int32.ofNat fr) + (2 : Int32))), (.int ((8 : Int32) * (Int32.ofNat at_))), (.ref b3)])) _
    refine XS.imul X145.here hx rfl (hb hby at_324) rfl ?_
    show Steps p.tables e below (T145.setTop (mkF m 325 #[.val (.long q0), .second, .val (.long q1), .second, .val (.long q2), .second, .val (.long q3), .second, .val (.int p4), .val (.int p5), .val (.int (Int32.ofNat nb)), .val (.int (Int32.ofNat fr)), .val (.int (Int32.ofNat cnt)), .val (.int (Int32.ofNat ia)), .val (.int (Int32.ofNat at_)), .val (.ref b3), .val (.ref b37), .val (.ref b88), .val (.int ((8 : Int32) * (Int32.ofNat at_))), .val (.int ((r_141.toInt32) + (1 : Int32))), .val (.int ((r_145.toInt32) + (1 : Int32))), .unset] [(.int (((Int32.ofNat fr) + (2 : Int32)) * (Int32.ofNat nb))), (.int ((8 : Int32) * (Int32.ofNat at_))), (.ref b3)])) _
    refine XS.iadd X145.here hx rfl (hb hby at_325) rfl ?_
    exact kz
  refine OG.step s147 ?_
  rw [own_px2 hnb hfr hat_]
  show OG _ _ _ _ _ _ _ (T145.setTop (mkF m 326 #[.val (.long q0), .second, .val (.long q1), .second, .val (.long q2), .second, .val (.long q3), .second, .val (.int p4), .val (.int p5), .val (.int (Int32.ofNat nb)), .val (.int (Int32.ofNat fr)), .val (.int (Int32.ofNat cnt)), .val (.int (Int32.ofNat ia)), .val (.int (Int32.ofNat at_)), .val (.ref b3), .val (.ref b37), .val (.ref b88), .val (.int ((8 : Int32) * (Int32.ofNat at_))), .val (.int ((r_141.toInt32) + (1 : Int32))), .val (.int ((r_145.toInt32) + (1 : Int32))), .unset] [(.int (Int32.ofNat (8 * at_ + (fr + 2) * nb))), (.ref b3)]))
  have s148 : ∀ tz, Steps p.tables e below (T145.setTop (mkF m 328 #[.val (.long q0), .second, .val (.long q1), .second, .val (.long q2), .second, .val (.long q3), .second, .val (.int p4), .val (.int p5), .val (.int (Int32.ofNat nb)), .val (.int (Int32.ofNat fr)), .val (.int (Int32.ofNat cnt)), .val (.int (Int32.ofNat ia)), .val (.int (Int32.ofNat at_)), .val (.ref b3), .val (.ref b37), .val (.ref b88), .val (.int ((8 : Int32) * (Int32.ofNat at_))), .val (.int ((r_141.toInt32) + (1 : Int32))), .val (.int ((r_145.toInt32) + (1 : Int32))), .unset] [(.int (Int32.ofNat nb)), (.int (Int32.ofNat (8 * at_ + (fr + 2) * nb))), (.ref b3)])) tz → Steps p.tables e below (T145.setTop (mkF m 326 #[.val (.long q0), .second, .val (.long q1), .second, .val (.long q2), .second, .val (.long q3), .second, .val (.int p4), .val (.int p5), .val (.int (Int32.ofNat nb)), .val (.int (Int32.ofNat fr)), .val (.int (Int32.ofNat cnt)), .val (.int (Int32.ofNat ia)), .val (.int (Int32.ofNat at_)), .val (.ref b3), .val (.ref b37), .val (.ref b88), .val (.int ((8 : Int32) * (Int32.ofNat at_))), .val (.int ((r_141.toInt32) + (1 : Int32))), .val (.int ((r_145.toInt32) + (1 : Int32))), .unset] [(.int (Int32.ofNat (8 * at_ + (fr + 2) * nb))), (.ref b3)])) tz := by
    intro tz kz
    refine XS.iload X145.here hx rfl (hb hby at_326) rfl ?_
    exact kz
  refine OG.step s148 ?_
  obtain ⟨_, _, ⟨T149, L149, k149, n149⟩, -, X149, ⟨Lc149, hQ149, l149, y149, z149⟩, st149⟩ := Jvm.LawKit.callS X145 hx (y := (⟨"com/example/strata/strata/PostingsUnpackTimesPinLaw", "field", "([JII)J"⟩ : MethodName)) hown (mvT hZ (hw _ (List.mem_of_getElem? (i := 8) rfl))) (mvT hZ (hw _ (List.mem_of_getElem? (i := 9) rfl))) (mvT hZ (hw _ (List.mem_of_getElem? (i := 5) rfl))) (mvT hZ (hw _ (List.mem_of_getElem? (i := 10) rfl))) (by decide) (backOf (W := 0) (rm2 l Z a0 hw [] b3 (8 * at_ + (fr + 2) * nb) nb k3 (own_W q0 q1 q2 q3) h135 n0 (Nat.le_trans Z0 K135.1) f136 (own_pb2 hnb hfr hat_) hnb) hZ (hw _ (List.mem_of_getElem? (i := 10) rfl)) (hw _ (List.mem_of_getElem? (i := 5) rfl)) (by decide) (by decide)) (g := (mkF m 328 #[.val (.long q0), .second, .val (.long q1), .second, .val (.long q2), .second, .val (.long q3), .second, .val (.int p4), .val (.int p5), .val (.int (Int32.ofNat nb)), .val (.int (Int32.ofNat fr)), .val (.int (Int32.ofNat cnt)), .val (.int (Int32.ofNat ia)), .val (.int (Int32.ofNat at_)), .val (.ref b3), .val (.ref b37), .val (.ref b88), .val (.int ((8 : Int32) * (Int32.ofNat at_))), .val (.int ((r_141.toInt32) + (1 : Int32))), .val (.int ((r_145.toInt32) + (1 : Int32))), .unset] [(.int (Int32.ofNat nb)), (.int (Int32.ofNat (8 * at_ + (fr + 2) * nb))), (.ref b3)])) rfl (by rw [hml]; rfl) (argsL := [(.ref b3), (.int (Int32.ofNat (8 * at_ + (fr + 2) * nb))), (.int (Int32.ofNat nb))]) (rest := []) (lenOf pd___JII_J rfl) rfl (by show 2 * 0 + _ ≤ _; exact Nat.le_of_eq rfl) (hb hby at_328) (fun _ _ => ⟨rfl, e145, (by decide : 3 + 0 ≤ _), (by decide : 80 + 0 ≤ _)⟩)
  dsimp only [Pt.U, Pt.locs, Pt.cells, Pt.slots] at X149 l149 y149 z149 st149 hQ149
  subst l149 y149 z149
  obtain ⟨r_149, rfl, N149q, e149, u149_0⟩ := hQ149
  have N149 := Fr.app N145 N149q
  refine OG.step st149 ?_
  obtain ⟨Lz150, X149, N149⟩ : ∃ Lz, Stand p l e room_1 s m #[(.long q0), (.long q1), (.long q2), (.long q3), (.int p4), (.int p5)] below meth c T149 Lz 3 80 ∧ Fr n0 Lz := ⟨_, X149, N149⟩
  show OG _ _ _ _ _ _ _ (T149.setTop (mkF m 331 #[.val (.long q0), .second, .val (.long q1), .second, .val (.long q2), .second, .val (.long q3), .second, .val (.int p4), .val (.int p5), .val (.int (Int32.ofNat nb)), .val (.int (Int32.ofNat fr)), .val (.int (Int32.ofNat cnt)), .val (.int (Int32.ofNat ia)), .val (.int (Int32.ofNat at_)), .val (.ref b3), .val (.ref b37), .val (.ref b88), .val (.int ((8 : Int32) * (Int32.ofNat at_))), .val (.int ((r_141.toInt32) + (1 : Int32))), .val (.int ((r_145.toInt32) + (1 : Int32))), .unset] [(.long r_149)]))
  have s151 : ∀ tz, Steps p.tables e below (T149.setTop (mkF m 350 #[.val (.long q0), .second, .val (.long q1), .second, .val (.long q2), .second, .val (.long q3), .second, .val (.int p4), .val (.int p5), .val (.int (Int32.ofNat nb)), .val (.int (Int32.ofNat fr)), .val (.int (Int32.ofNat cnt)), .val (.int (Int32.ofNat ia)), .val (.int (Int32.ofNat at_)), .val (.ref b3), .val (.ref b37), .val (.ref b88), .val (.int ((8 : Int32) * (Int32.ofNat at_))), .val (.int ((r_141.toInt32) + (1 : Int32))), .val (.int ((r_145.toInt32) + (1 : Int32))), .val (.int ((r_149.toInt32) + (1 : Int32)))] [(.int (Int32.ofNat ia)), (.ref b88), (.int (Int32.ofNat cnt)), (.int (Int32.ofNat fr)), (.int (Int32.ofNat nb)), (.int (Int32.ofNat at_)), (.ref b37)])) tz → Steps p.tables e below (T149.setTop (mkF m 331 #[.val (.long q0), .second, .val (.long q1), .second, .val (.long q2), .second, .val (.long q3), .second, .val (.int p4), .val (.int p5), .val (.int (Int32.ofNat nb)), .val (.int (Int32.ofNat fr)), .val (.int (Int32.ofNat cnt)), .val (.int (Int32.ofNat ia)), .val (.int (Int32.ofNat at_)), .val (.ref b3), .val (.ref b37), .val (.ref b88), .val (.int ((8 : Int32) * (Int32.ofNat at_))), .val (.int ((r_141.toInt32) + (1 : Int32))), .val (.int ((r_145.toInt32) + (1 : Int32))), .unset] [(.long r_149)])) tz := by
    intro tz kz
    refine XS.l2i X149.here hx rfl (hb hby at_331) rfl ?_
    show Steps p.tables e below (T149.setTop (mkF m 332 #[.val (.long q0), .second, .val (.long q1), .second, .val (.long q2), .second, .val (.long q3), .second, .val (.int p4), .val (.int p5), .val (.int (Int32.ofNat nb)), .val (.int (Int32.ofNat fr)), .val (.int (Int32.ofNat cnt)), .val (.int (Int32.ofNat ia)), .val (.int (Int32.ofNat at_)), .val (.ref b3), .val (.ref b37), .val (.ref b88), .val (.int ((8 : Int32) * (Int32.ofNat at_))), .val (.int ((r_141.toInt32) + (1 : Int32))), .val (.int ((r_145.toInt32) + (1 : Int32))), .unset] [(.int (r_149.toInt32))])) _
    refine XS.iconst X149.here hx rfl (hb hby at_332) ?_
    show Steps p.tables e below (T149.setTop (mkF m 333 #[.val (.long q0), .second, .val (.long q1), .second, .val (.long q2), .second, .val (.long q3), .second, .val (.int p4), .val (.int p5), .val (.int (Int32.ofNat nb)), .val (.int (Int32.ofNat fr)), .val (.int (Int32.ofNat cnt)), .val (.int (Int32.ofNat ia)), .val (.int (Int32.ofNat at_)), .val (.ref b3), .val (.ref b37), .val (.ref b88), .val (.int ((8 : Int32) * (Int32.ofNat at_))), .val (.int ((r_141.toInt32) + (1 : Int32))), .val (.int ((r_145.toInt32) + (1 : Int32))), .unset] [(.int (1 : Int32)), (.int (r_149.toInt32))])) _
    refine XS.iadd X149.here hx rfl (hb hby at_333) rfl ?_
    show Steps p.tables e below (T149.setTop (mkF m 334 #[.val (.long q0), .second, .val (.long q1), .second, .val (.long q2), .second, .val (.long q3), .second, .val (.int p4), .val (.int p5), .val (.int (Int32.ofNat nb)), .val (.int (Int32.ofNat fr)), .val (.int (Int32.ofNat cnt)), .val (.int (Int32.ofNat ia)), .val (.int (Int32.ofNat at_)), .val (.ref b3), .val (.ref b37), .val (.ref b88), .val (.int ((8 : Int32) * (Int32.ofNat at_))), .val (.int ((r_141.toInt32) + (1 : Int32))), .val (.int ((r_145.toInt32) + (1 : Int32))), .unset] [(.int ((r_149.toInt32) + (1 : Int32)))])) _
    refine XS.istore X149.here hx rfl (hb hby at_334) rfl (l' := #[.val (.long q0), .second, .val (.long q1), .second, .val (.long q2), .second, .val (.long q3), .second, .val (.int p4), .val (.int p5), .val (.int (Int32.ofNat nb)), .val (.int (Int32.ofNat fr)), .val (.int (Int32.ofNat cnt)), .val (.int (Int32.ofNat ia)), .val (.int (Int32.ofNat at_)), .val (.ref b3), .val (.ref b37), .val (.ref b88), .val (.int ((8 : Int32) * (Int32.ofNat at_))), .val (.int ((r_141.toInt32) + (1 : Int32))), .val (.int ((r_145.toInt32) + (1 : Int32))), .val (.int ((r_149.toInt32) + (1 : Int32)))]) rfl ?_
    show Steps p.tables e below (T149.setTop (mkF m 336 #[.val (.long q0), .second, .val (.long q1), .second, .val (.long q2), .second, .val (.long q3), .second, .val (.int p4), .val (.int p5), .val (.int (Int32.ofNat nb)), .val (.int (Int32.ofNat fr)), .val (.int (Int32.ofNat cnt)), .val (.int (Int32.ofNat ia)), .val (.int (Int32.ofNat at_)), .val (.ref b3), .val (.ref b37), .val (.ref b88), .val (.int ((8 : Int32) * (Int32.ofNat at_))), .val (.int ((r_141.toInt32) + (1 : Int32))), .val (.int ((r_145.toInt32) + (1 : Int32))), .val (.int ((r_149.toInt32) + (1 : Int32)))] [])) _
    refine XS.aload X149.here hx rfl (hb hby at_336) rfl rfl ?_
    show Steps p.tables e below (T149.setTop (mkF m 338 #[.val (.long q0), .second, .val (.long q1), .second, .val (.long q2), .second, .val (.long q3), .second, .val (.int p4), .val (.int p5), .val (.int (Int32.ofNat nb)), .val (.int (Int32.ofNat fr)), .val (.int (Int32.ofNat cnt)), .val (.int (Int32.ofNat ia)), .val (.int (Int32.ofNat at_)), .val (.ref b3), .val (.ref b37), .val (.ref b88), .val (.int ((8 : Int32) * (Int32.ofNat at_))), .val (.int ((r_141.toInt32) + (1 : Int32))), .val (.int ((r_145.toInt32) + (1 : Int32))), .val (.int ((r_149.toInt32) + (1 : Int32)))] [(.ref b37)])) _
    refine XS.iload X149.here hx rfl (hb hby at_338) rfl ?_
    show Steps p.tables e below (T149.setTop (mkF m 340 #[.val (.long q0), .second, .val (.long q1), .second, .val (.long q2), .second, .val (.long q3), .second, .val (.int p4), .val (.int p5), .val (.int (Int32.ofNat nb)), .val (.int (Int32.ofNat fr)), .val (.int (Int32.ofNat cnt)), .val (.int (Int32.ofNat ia)), .val (.int (Int32.ofNat at_)), .val (.ref b3), .val (.ref b37), .val (.ref b88), .val (.int ((8 : Int32) * (Int32.ofNat at_))), .val (.int ((r_141.toInt32) + (1 : Int32))), .val (.int ((r_145.toInt32) + (1 : Int32))), .val (.int ((r_149.toInt32) + (1 : Int32)))] [(.int (Int32.ofNat at_)), (.ref b37)])) _
    refine XS.iload X149.here hx rfl (hb hby at_340) rfl ?_
    show Steps p.tables e below (T149.setTop (mkF m 342 #[.val (.long q0), .second, .val (.long q1), .second, .val (.long q2), .second, .val (.long q3), .second, .val (.int p4), .val (.int p5), .val (.int (Int32.ofNat nb)), .val (.int (Int32.ofNat fr)), .val (.int (Int32.ofNat cnt)), .val (.int (Int32.ofNat ia)), .val (.int (Int32.ofNat at_)), .val (.ref b3), .val (.ref b37), .val (.ref b88), .val (.int ((8 : Int32) * (Int32.ofNat at_))), .val (.int ((r_141.toInt32) + (1 : Int32))), .val (.int ((r_145.toInt32) + (1 : Int32))), .val (.int ((r_149.toInt32) + (1 : Int32)))] [(.int (Int32.ofNat nb)), (.int (Int32.ofNat at_)), (.ref b37)])) _
    refine XS.iload X149.here hx rfl (hb hby at_342) rfl ?_
    show Steps p.tables e below (T149.setTop (mkF m 344 #[.val (.long q0), .second, .val (.long q1), .second, .val (.long q2), .second, .val (.long q3), .second, .val (.int p4), .val (.int p5), .val (.int (Int32.ofNat nb)), .val (.int (Int32.ofNat fr)), .val (.int (Int32.ofNat cnt)), .val (.int (Int32.ofNat ia)), .val (.int (Int32.ofNat at_)), .val (.ref b3), .val (.ref b37), .val (.ref b88), .val (.int ((8 : Int32) * (Int32.ofNat at_))), .val (.int ((r_141.toInt32) + (1 : Int32))), .val (.int ((r_145.toInt32) + (1 : Int32))), .val (.int ((r_149.toInt32) + (1 : Int32)))] [(.int (Int32.ofNat fr)), (.int (Int32.ofNat nb)), (.int (Int32.ofNat at_)), (.ref b37)])) _
    refine XS.iload X149.here hx rfl (hb hby at_344) rfl ?_
    show Steps p.tables e below (T149.setTop (mkF m 346 #[.val (.long q0), .second, .val (.long q1), .second, .val (.long q2), .second, .val (.long q3), .second, .val (.int p4), .val (.int p5), .val (.int (Int32.ofNat nb)), .val (.int (Int32.ofNat fr)), .val (.int (Int32.ofNat cnt)), .val (.int (Int32.ofNat ia)), .val (.int (Int32.ofNat at_)), .val (.ref b3), .val (.ref b37), .val (.ref b88), .val (.int ((8 : Int32) * (Int32.ofNat at_))), .val (.int ((r_141.toInt32) + (1 : Int32))), .val (.int ((r_145.toInt32) + (1 : Int32))), .val (.int ((r_149.toInt32) + (1 : Int32)))] [(.int (Int32.ofNat cnt)), (.int (Int32.ofNat fr)), (.int (Int32.ofNat nb)), (.int (Int32.ofNat at_)), (.ref b37)])) _
    refine XS.aload X149.here hx rfl (hb hby at_346) rfl rfl ?_
    show Steps p.tables e below (T149.setTop (mkF m 348 #[.val (.long q0), .second, .val (.long q1), .second, .val (.long q2), .second, .val (.long q3), .second, .val (.int p4), .val (.int p5), .val (.int (Int32.ofNat nb)), .val (.int (Int32.ofNat fr)), .val (.int (Int32.ofNat cnt)), .val (.int (Int32.ofNat ia)), .val (.int (Int32.ofNat at_)), .val (.ref b3), .val (.ref b37), .val (.ref b88), .val (.int ((8 : Int32) * (Int32.ofNat at_))), .val (.int ((r_141.toInt32) + (1 : Int32))), .val (.int ((r_145.toInt32) + (1 : Int32))), .val (.int ((r_149.toInt32) + (1 : Int32)))] [(.ref b88), (.int (Int32.ofNat cnt)), (.int (Int32.ofNat fr)), (.int (Int32.ofNat nb)), (.int (Int32.ofNat at_)), (.ref b37)])) _
    refine XS.iload X149.here hx rfl (hb hby at_348) rfl ?_
    exact kz
  refine OG.step s151 ?_
  obtain ⟨_, _, ⟨T152, L152, k152, n152⟩, -, X152, ⟨Lc152, hQ152, l152, y152, z152⟩, st152⟩ := Jvm.LawKit.callS X149 hx (y := (⟨"com/example/strata/strata/Postings", "unpackTimes", "([BIIII[II)V"⟩ : MethodName)) hown (mvT hZ (hw _ (List.mem_of_getElem? (i := 11) rfl))) (mvT hZ (hw _ (List.mem_of_getElem? (i := 12) rfl))) (mvT hZ (hw _ (List.mem_of_getElem? (i := 13) rfl))) (mvT hZ (hw _ (List.mem_of_getElem? (i := 14) rfl))) (by decide) (backOf (W := 0) (rm3 l Z a0 hw [] b37 b88 at_ nb fr cnt ia k37 k88 (own_put (own_put (own_put (own_put (own_put (own_put (own_put (own_put own_z 0 (own_W q0 q1 q2 q3 0)) 8 (own_W q0 q1 q2 q3 1)) 16 (own_W q0 q1 q2 q3 2)) 24 (own_W q0 q1 q2 q3 3)) 32 (own_W q0 q1 q2 q3 4)) 40 (own_W q0 q1 q2 q3 5)) 48 (own_W q0 q1 q2 q3 6)) 56 (own_W q0 q1 q2 q3 7)) (fun _ => p5) (own_B (own_W q0 q1 q2 q3)) (own_R r_141 r_145 r_149) h135 n0 (Nat.le_trans Z0 K135.1) f137 Vi ne88_b37 ge88 hat_ hnb hfr hcnt hia (own_Bf q0 q1 q2 q3) (own_hR hcnt u141_0 u145_0 u149_0)) hZ (hw _ (List.mem_of_getElem? (i := 14) rfl)) (hw _ (List.mem_of_getElem? (i := 13) rfl)) (by decide) (by decide)) (g := (mkF m 350 #[.val (.long q0), .second, .val (.long q1), .second, .val (.long q2), .second, .val (.long q3), .second, .val (.int p4), .val (.int p5), .val (.int (Int32.ofNat nb)), .val (.int (Int32.ofNat fr)), .val (.int (Int32.ofNat cnt)), .val (.int (Int32.ofNat ia)), .val (.int (Int32.ofNat at_)), .val (.ref b3), .val (.ref b37), .val (.ref b88), .val (.int ((8 : Int32) * (Int32.ofNat at_))), .val (.int ((r_141.toInt32) + (1 : Int32))), .val (.int ((r_145.toInt32) + (1 : Int32))), .val (.int ((r_149.toInt32) + (1 : Int32)))] [(.int (Int32.ofNat ia)), (.ref b88), (.int (Int32.ofNat cnt)), (.int (Int32.ofNat fr)), (.int (Int32.ofNat nb)), (.int (Int32.ofNat at_)), (.ref b37)])) rfl (by rw [hml]; rfl) (argsL := [(.ref b37), (.int (Int32.ofNat at_)), (.int (Int32.ofNat nb)), (.int (Int32.ofNat fr)), (.int (Int32.ofNat cnt)), (.ref b88), (.int (Int32.ofNat ia))]) (rest := []) (lenOf pd___BIIII_II_V rfl) rfl (by show 2 * 0 + _ ≤ _; exact Nat.le_of_eq rfl) (hb hby at_350) (fun _ _ => ⟨rfl, e149, (by decide : 3 + 0 ≤ _), (by decide : 80 + 0 ≤ _)⟩)
  dsimp only [Pt.U, Pt.locs, Pt.cells, Pt.slots] at X152 l152 y152 z152 st152 hQ152
  subst l152 y152 z152
  obtain ⟨rfl, N152q, Kc152, p152_0⟩ := hQ152
  have N152 := Fr.app N149 N152q
  refine OG.step st152 ?_
  have f153 := f136.keep Kc152 (ninS ne88_b3 nin0)
  have f154 := f137.keep Kc152 (ninS ne88_b37 nin0)
  have K152 := K135.trans Kc152 (allS (Or.inr sz88) all0)
  obtain ⟨Lz156, X152, N152⟩ : ∃ Lz, Stand p l e room_1 s m #[(.long q0), (.long q1), (.long q2), (.long q3), (.int p4), (.int p5)] below meth c T152 Lz 3 80 ∧ Fr n0 Lz := ⟨_, X152, N152⟩
  show OG _ _ _ _ _ _ _ (T152.setTop (mkF m 353 #[.val (.long q0), .second, .val (.long q1), .second, .val (.long q2), .second, .val (.long q3), .second, .val (.int p4), .val (.int p5), .val (.int (Int32.ofNat nb)), .val (.int (Int32.ofNat fr)), .val (.int (Int32.ofNat cnt)), .val (.int (Int32.ofNat ia)), .val (.int (Int32.ofNat at_)), .val (.ref b3), .val (.ref b37), .val (.ref b88), .val (.int ((8 : Int32) * (Int32.ofNat at_))), .val (.int ((r_141.toInt32) + (1 : Int32))), .val (.int ((r_145.toInt32) + (1 : Int32))), .val (.int ((r_149.toInt32) + (1 : Int32)))] []))
  have s157 : ∀ tz, Steps p.tables e below (T152.setTop (mkF m 356 #[.val (.long q0), .second, .val (.long q1), .second, .val (.long q2), .second, .val (.long q3), .second, .val (.int p4), .val (.int p5), .val (.int (Int32.ofNat nb)), .val (.int (Int32.ofNat fr)), .val (.int (Int32.ofNat cnt)), .val (.int (Int32.ofNat ia)), .val (.int (Int32.ofNat at_)), .val (.ref b3), .val (.ref b37), .val (.ref b88), .val (.int ((8 : Int32) * (Int32.ofNat at_))), .val (.int ((r_141.toInt32) + (1 : Int32))), .val (.int ((r_145.toInt32) + (1 : Int32))), .val (.int ((r_149.toInt32) + (1 : Int32)))] [(.int (0 : Int32)), (.ref b88)])) tz → Steps p.tables e below (T152.setTop (mkF m 353 #[.val (.long q0), .second, .val (.long q1), .second, .val (.long q2), .second, .val (.long q3), .second, .val (.int p4), .val (.int p5), .val (.int (Int32.ofNat nb)), .val (.int (Int32.ofNat fr)), .val (.int (Int32.ofNat cnt)), .val (.int (Int32.ofNat ia)), .val (.int (Int32.ofNat at_)), .val (.ref b3), .val (.ref b37), .val (.ref b88), .val (.int ((8 : Int32) * (Int32.ofNat at_))), .val (.int ((r_141.toInt32) + (1 : Int32))), .val (.int ((r_145.toInt32) + (1 : Int32))), .val (.int ((r_149.toInt32) + (1 : Int32)))] [])) tz := by
    intro tz kz
    refine XS.aload X152.here hx rfl (hb hby at_353) rfl rfl ?_
    show Steps p.tables e below (T152.setTop (mkF m 355 #[.val (.long q0), .second, .val (.long q1), .second, .val (.long q2), .second, .val (.long q3), .second, .val (.int p4), .val (.int p5), .val (.int (Int32.ofNat nb)), .val (.int (Int32.ofNat fr)), .val (.int (Int32.ofNat cnt)), .val (.int (Int32.ofNat ia)), .val (.int (Int32.ofNat at_)), .val (.ref b3), .val (.ref b37), .val (.ref b88), .val (.int ((8 : Int32) * (Int32.ofNat at_))), .val (.int ((r_141.toInt32) + (1 : Int32))), .val (.int ((r_145.toInt32) + (1 : Int32))), .val (.int ((r_149.toInt32) + (1 : Int32)))] [(.ref b88)])) _
    refine XS.iconst X152.here hx rfl (hb hby at_355) ?_
    exact kz
  refine OG.step s157 ?_
  have av158 := p152_0
  obtain ⟨cl158, Ar158, qa_158, Sa_158, Nn_158, Ha_158, Ga_158⟩ := av158
  have hin158 : ¬ ((0 : Int32) < 0 ∨ cl158.slots.size ≤ ((0 : Int32)).toNatClampNeg) := inb_of Sa_158 ⟨(by decide), (by decide)⟩
  have hat158 : cl158.slots[((0 : Int32)).toNatClampNeg]? = some (.int ((own_fill (fun _ => p5) ia (own_R r_141 r_145 r_149) cnt) 0)) := Ha_158.at hin158 (own_iget (own_fill (fun _ => p5) ia (own_R r_141 r_145 r_149) cnt) (x := 0) (by decide) (by decide))
  refine OG.step (X152.iaload hx (j := (0 : Int32)) (v := (.int ((own_fill (fun _ => p5) ia (own_R r_141 r_145 r_149) cnt) 0))) Ar158.1 (State.isArrayOf_alike hZ.alike Ar158.2.1) Ar158.2.2 hin158 hat158 (g := (mkF m 356 #[.val (.long q0), .second, .val (.long q1), .second, .val (.long q2), .second, .val (.long q3), .second, .val (.int p4), .val (.int p5), .val (.int (Int32.ofNat nb)), .val (.int (Int32.ofNat fr)), .val (.int (Int32.ofNat cnt)), .val (.int (Int32.ofNat ia)), .val (.int (Int32.ofNat at_)), .val (.ref b3), .val (.ref b37), .val (.ref b88), .val (.int ((8 : Int32) * (Int32.ofNat at_))), .val (.int ((r_141.toInt32) + (1 : Int32))), .val (.int ((r_145.toInt32) + (1 : Int32))), .val (.int ((r_149.toInt32) + (1 : Int32)))] [(.int (0 : Int32)), (.ref b88)])) rfl rfl (hb hby at_356)) ?_
  show OG _ _ _ _ _ _ _ (T152.setTop (mkF m 357 #[.val (.long q0), .second, .val (.long q1), .second, .val (.long q2), .second, .val (.long q3), .second, .val (.int p4), .val (.int p5), .val (.int (Int32.ofNat nb)), .val (.int (Int32.ofNat fr)), .val (.int (Int32.ofNat cnt)), .val (.int (Int32.ofNat ia)), .val (.int (Int32.ofNat at_)), .val (.ref b3), .val (.ref b37), .val (.ref b88), .val (.int ((8 : Int32) * (Int32.ofNat at_))), .val (.int ((r_141.toInt32) + (1 : Int32))), .val (.int ((r_145.toInt32) + (1 : Int32))), .val (.int ((r_149.toInt32) + (1 : Int32)))] [(.int ((own_fill (fun _ => p5) ia (own_R r_141 r_145 r_149) cnt) 0))]))
  have s159 : ∀ tz, Steps p.tables e below (T152.setTop (mkF m 370 #[.val (.long q0), .second, .val (.long q1), .second, .val (.long q2), .second, .val (.long q3), .second, .val (.int p4), .val (.int p5), .val (.int (Int32.ofNat nb)), .val (.int (Int32.ofNat fr)), .val (.int (Int32.ofNat cnt)), .val (.int (Int32.ofNat ia)), .val (.int (Int32.ofNat at_)), .val (.ref b3), .val (.ref b37), .val (.ref b88), .val (.int ((8 : Int32) * (Int32.ofNat at_))), .val (.int ((r_141.toInt32) + (1 : Int32))), .val (.int ((r_145.toInt32) + (1 : Int32))), .val (.int ((r_149.toInt32) + (1 : Int32)))] [(.int ((r_149.toInt32) + (1 : Int32))), (.int ((r_145.toInt32) + (1 : Int32))), (.int ((r_141.toInt32) + (1 : Int32))), (.int p5), (.int (Int32.ofNat cnt)), (.int (Int32.ofNat ia)), (.int (0 : Int32)), (.int ((own_fill (fun _ => p5) ia (own_R r_141 r_145 r_149) cnt) 0))])) tz → Steps p.tables e below (T152.setTop (mkF m 357 #[.val (.long q0), .second, .val (.long q1), .second, .val (.long q2), .second, .val (.long q3), .second, .val (.int p4), .val (.int p5), .val (.int (Int32.ofNat nb)), .val (.int (Int32.ofNat fr)), .val (.int (Int32.ofNat cnt)), .val (.int (Int32.ofNat ia)), .val (.int (Int32.ofNat at_)), .val (.ref b3), .val (.ref b37), .val (.ref b88), .val (.int ((8 : Int32) * (Int32.ofNat at_))), .val (.int ((r_141.toInt32) + (1 : Int32))), .val (.int ((r_145.toInt32) + (1 : Int32))), .val (.int ((r_149.toInt32) + (1 : Int32)))] [(.int ((own_fill (fun _ => p5) ia (own_R r_141 r_145 r_149) cnt) 0))])) tz := by
    intro tz kz
    refine XS.iconst X152.here hx rfl (hb hby at_357) ?_
    show Steps p.tables e below (T152.setTop (mkF m 358 #[.val (.long q0), .second, .val (.long q1), .second, .val (.long q2), .second, .val (.long q3), .second, .val (.int p4), .val (.int p5), .val (.int (Int32.ofNat nb)), .val (.int (Int32.ofNat fr)), .val (.int (Int32.ofNat cnt)), .val (.int (Int32.ofNat ia)), .val (.int (Int32.ofNat at_)), .val (.ref b3), .val (.ref b37), .val (.ref b88), .val (.int ((8 : Int32) * (Int32.ofNat at_))), .val (.int ((r_141.toInt32) + (1 : Int32))), .val (.int ((r_145.toInt32) + (1 : Int32))), .val (.int ((r_149.toInt32) + (1 : Int32)))] [(.int (0 : Int32)), (.int ((own_fill (fun _ => p5) ia (own_R r_141 r_145 r_149) cnt) 0))])) _
    refine XS.iload X152.here hx rfl (hb hby at_358) rfl ?_
    show Steps p.tables e below (T152.setTop (mkF m 360 #[.val (.long q0), .second, .val (.long q1), .second, .val (.long q2), .second, .val (.long q3), .second, .val (.int p4), .val (.int p5), .val (.int (Int32.ofNat nb)), .val (.int (Int32.ofNat fr)), .val (.int (Int32.ofNat cnt)), .val (.int (Int32.ofNat ia)), .val (.int (Int32.ofNat at_)), .val (.ref b3), .val (.ref b37), .val (.ref b88), .val (.int ((8 : Int32) * (Int32.ofNat at_))), .val (.int ((r_141.toInt32) + (1 : Int32))), .val (.int ((r_145.toInt32) + (1 : Int32))), .val (.int ((r_149.toInt32) + (1 : Int32)))] [(.int (Int32.ofNat ia)), (.int (0 : Int32)), (.int ((own_fill (fun _ => p5) ia (own_R r_141 r_145 r_149) cnt) 0))])) _
    refine XS.iload X152.here hx rfl (hb hby at_360) rfl ?_
    show Steps p.tables e below (T152.setTop (mkF m 362 #[.val (.long q0), .second, .val (.long q1), .second, .val (.long q2), .second, .val (.long q3), .second, .val (.int p4), .val (.int p5), .val (.int (Int32.ofNat nb)), .val (.int (Int32.ofNat fr)), .val (.int (Int32.ofNat cnt)), .val (.int (Int32.ofNat ia)), .val (.int (Int32.ofNat at_)), .val (.ref b3), .val (.ref b37), .val (.ref b88), .val (.int ((8 : Int32) * (Int32.ofNat at_))), .val (.int ((r_141.toInt32) + (1 : Int32))), .val (.int ((r_145.toInt32) + (1 : Int32))), .val (.int ((r_149.toInt32) + (1 : Int32)))] [(.int (Int32.ofNat cnt)), (.int (Int32.ofNat ia)), (.int (0 : Int32)), (.int ((own_fill (fun _ => p5) ia (own_R r_141 r_145 r_149) cnt) 0))])) _
    refine XS.iload X152.here hx rfl (hb hby at_362) rfl ?_
    show Steps p.tables e below (T152.setTop (mkF m 364 #[.val (.long q0), .second, .val (.long q1), .second, .val (.long q2), .second, .val (.long q3), .second, .val (.int p4), .val (.int p5), .val (.int (Int32.ofNat nb)), .val (.int (Int32.ofNat fr)), .val (.int (Int32.ofNat cnt)), .val (.int (Int32.ofNat ia)), .val (.int (Int32.ofNat at_)), .val (.ref b3), .val (.ref b37), .val (.ref b88), .val (.int ((8 : Int32) * (Int32.ofNat at_))), .val (.int ((r_141.toInt32) + (1 : Int32))), .val (.int ((r_145.toInt32) + (1 : Int32))), .val (.int ((r_149.toInt32) + (1 : Int32)))] [(.int p5), (.int (Int32.ofNat cnt)), (.int (Int32.ofNat ia)), (.int (0 : Int32)), (.int ((own_fill (fun _ => p5) ia (own_R r_141 r_145 r_149) cnt) 0))])) _
    refine XS.iload X152.here hx rfl (hb hby at_364) rfl ?_
    show Steps p.tables e below (T152.setTop (mkF m 366 #[.val (.long q0), .second, .val (.long q1), .second, .val (.long q2), .second, .val (.long q3), .second, .val (.int p4), .val (.int p5), .val (.int (Int32.ofNat nb)), .val (.int (Int32.ofNat fr)), .val (.int (Int32.ofNat cnt)), .val (.int (Int32.ofNat ia)), .val (.int (Int32.ofNat at_)), .val (.ref b3), .val (.ref b37), .val (.ref b88), .val (.int ((8 : Int32) * (Int32.ofNat at_))), .val (.int ((r_141.toInt32) + (1 : Int32))), .val (.int ((r_145.toInt32) + (1 : Int32))), .val (.int ((r_149.toInt32) + (1 : Int32)))] [(.int ((r_141.toInt32) + (1 : Int32))), (.int p5), (.int (Int32.ofNat cnt)), (.int (Int32.ofNat ia)), (.int (0 : Int32)), (.int ((own_fill (fun _ => p5) ia (own_R r_141 r_145 r_149) cnt) 0))])) _
    refine XS.iload X152.here hx rfl (hb hby at_366) rfl ?_
    show Steps p.tables e below (T152.setTop (mkF m 368 #[.val (.long q0), .second, .val (.long q1), .second, .val (.long q2), .second, .val (.long q3), .second, .val (.int p4), .val (.int p5), .val (.int (Int32.ofNat nb)), .val (.int (Int32.ofNat fr)), .val (.int (Int32.ofNat cnt)), .val (.int (Int32.ofNat ia)), .val (.int (Int32.ofNat at_)), .val (.ref b3), .val (.ref b37), .val (.ref b88), .val (.int ((8 : Int32) * (Int32.ofNat at_))), .val (.int ((r_141.toInt32) + (1 : Int32))), .val (.int ((r_145.toInt32) + (1 : Int32))), .val (.int ((r_149.toInt32) + (1 : Int32)))] [(.int ((r_145.toInt32) + (1 : Int32))), (.int ((r_141.toInt32) + (1 : Int32))), (.int p5), (.int (Int32.ofNat cnt)), (.int (Int32.ofNat ia)), (.int (0 : Int32)), (.int ((own_fill (fun _ => p5) ia (own_R r_141 r_145 r_149) cnt) 0))])) _
    refine XS.iload X152.here hx rfl (hb hby at_368) rfl ?_
    exact kz
  refine OG.step s159 ?_
  obtain ⟨_, _, ⟨T160, L160, k160, n160⟩, -, X160, ⟨Lc160, hQ160, l160, y160, z160⟩, st160⟩ := Jvm.LawKit.callS X152 hx (y := (⟨"com/example/strata/strata/PostingsUnpackTimesPinLaw", "expected", "(IIIIIII)I"⟩ : MethodName)) hown (mvT hZ (hw _ (List.mem_of_getElem? (i := 15) rfl))) (mvT hZ (hw _ (List.mem_of_getElem? (i := 16) rfl))) (mvT hZ (hw _ (List.mem_of_getElem? (i := 5) rfl))) (mvT hZ (hw _ (List.mem_of_getElem? (i := 17) rfl))) (by decide) (backOf (W := 1) (rm4 l Z a0 hw [] (0 : Int32) (Int32.ofNat ia) (Int32.ofNat cnt) p5 ((r_141.toInt32) + (1 : Int32)) ((r_145.toInt32) + (1 : Int32)) ((r_149.toInt32) + (1 : Int32)) T152.heap n0 (Nat.le_trans Z0 K152.1)) hZ (hw _ (List.mem_of_getElem? (i := 17) rfl)) (hw _ (List.mem_of_getElem? (i := 5) rfl)) (by decide) (by decide)) (g := (mkF m 370 #[.val (.long q0), .second, .val (.long q1), .second, .val (.long q2), .second, .val (.long q3), .second, .val (.int p4), .val (.int p5), .val (.int (Int32.ofNat nb)), .val (.int (Int32.ofNat fr)), .val (.int (Int32.ofNat cnt)), .val (.int (Int32.ofNat ia)), .val (.int (Int32.ofNat at_)), .val (.ref b3), .val (.ref b37), .val (.ref b88), .val (.int ((8 : Int32) * (Int32.ofNat at_))), .val (.int ((r_141.toInt32) + (1 : Int32))), .val (.int ((r_145.toInt32) + (1 : Int32))), .val (.int ((r_149.toInt32) + (1 : Int32)))] [(.int ((r_149.toInt32) + (1 : Int32))), (.int ((r_145.toInt32) + (1 : Int32))), (.int ((r_141.toInt32) + (1 : Int32))), (.int p5), (.int (Int32.ofNat cnt)), (.int (Int32.ofNat ia)), (.int (0 : Int32)), (.int ((own_fill (fun _ => p5) ia (own_R r_141 r_145 r_149) cnt) 0))])) rfl (by rw [hml]; rfl) (argsL := [(.int (0 : Int32)), (.int (Int32.ofNat ia)), (.int (Int32.ofNat cnt)), (.int p5), (.int ((r_141.toInt32) + (1 : Int32))), (.int ((r_145.toInt32) + (1 : Int32))), (.int ((r_149.toInt32) + (1 : Int32)))]) (rest := [(.int ((own_fill (fun _ => p5) ia (own_R r_141 r_145 r_149) cnt) 0))]) (lenOf pd__IIIIIII_I rfl) rfl (by show 2 * 0 + _ ≤ _; exact Nat.le_of_eq rfl) (hb hby at_370) (fun _ _ => ⟨rfl, rfl, (by decide : 3 + 0 ≤ _), (by decide : 80 + 0 ≤ _)⟩)
  dsimp only [Pt.U, Pt.locs, Pt.cells, Pt.slots] at X160 l160 y160 z160 st160 hQ160
  subst l160 y160 z160
  obtain ⟨rfl, N160q, e160⟩ := hQ160
  have N160 := Fr.app N152 N160q
  refine OG.step st160 ?_
  obtain ⟨Lz161, X160, N160⟩ : ∃ Lz, Stand p l e room_1 s m #[(.long q0), (.long q1), (.long q2), (.long q3), (.int p4), (.int p5)] below meth c T160 Lz 3 80 ∧ Fr n0 Lz := ⟨_, X160, N160⟩
  show OG _ _ _ _ _ _ _ (T160.setTop (mkF m 373 #[.val (.long q0), .second, .val (.long q1), .second, .val (.long q2), .second, .val (.long q3), .second, .val (.int p4), .val (.int p5), .val (.int (Int32.ofNat nb)), .val (.int (Int32.ofNat fr)), .val (.int (Int32.ofNat cnt)), .val (.int (Int32.ofNat ia)), .val (.int (Int32.ofNat at_)), .val (.ref b3), .val (.ref b37), .val (.ref b88), .val (.int ((8 : Int32) * (Int32.ofNat at_))), .val (.int ((r_141.toInt32) + (1 : Int32))), .val (.int ((r_145.toInt32) + (1 : Int32))), .val (.int ((r_149.toInt32) + (1 : Int32)))] [(.int (own_exp (0 : Int32) (Int32.ofNat ia) (Int32.ofNat cnt) p5 ((r_141.toInt32) + (1 : Int32)) ((r_145.toInt32) + (1 : Int32)) ((r_149.toInt32) + (1 : Int32)))), (.int ((own_fill (fun _ => p5) ia (own_R r_141 r_145 r_149) cnt) 0))]))
  have s162 : ∀ tz, Steps p.tables e below (T160.setTop (mkF m 379 #[.val (.long q0), .second, .val (.long q1), .second, .val (.long q2), .second, .val (.long q3), .second, .val (.int p4), .val (.int p5), .val (.int (Int32.ofNat nb)), .val (.int (Int32.ofNat fr)), .val (.int (Int32.ofNat cnt)), .val (.int (Int32.ofNat ia)), .val (.int (Int32.ofNat at_)), .val (.ref b3), .val (.ref b37), .val (.ref b88), .val (.int ((8 : Int32) * (Int32.ofNat at_))), .val (.int ((r_141.toInt32) + (1 : Int32))), .val (.int ((r_145.toInt32) + (1 : Int32))), .val (.int ((r_149.toInt32) + (1 : Int32)))] [(.int (1 : Int32)), (.ref b88)])) tz → Steps p.tables e below (T160.setTop (mkF m 373 #[.val (.long q0), .second, .val (.long q1), .second, .val (.long q2), .second, .val (.long q3), .second, .val (.int p4), .val (.int p5), .val (.int (Int32.ofNat nb)), .val (.int (Int32.ofNat fr)), .val (.int (Int32.ofNat cnt)), .val (.int (Int32.ofNat ia)), .val (.int (Int32.ofNat at_)), .val (.ref b3), .val (.ref b37), .val (.ref b88), .val (.int ((8 : Int32) * (Int32.ofNat at_))), .val (.int ((r_141.toInt32) + (1 : Int32))), .val (.int ((r_145.toInt32) + (1 : Int32))), .val (.int ((r_149.toInt32) + (1 : Int32)))] [(.int (own_exp (0 : Int32) (Int32.ofNat ia) (Int32.ofNat cnt) p5 ((r_141.toInt32) + (1 : Int32)) ((r_145.toInt32) + (1 : Int32)) ((r_149.toInt32) + (1 : Int32)))), (.int ((own_fill (fun _ => p5) ia (own_R r_141 r_145 r_149) cnt) 0))])) tz := by
    intro tz kz
    refine XS.icmpNo X160.here hx rfl (hb hby at_373) rfl (teq (own_fin hcnt hia 0 (by decide))).2 ?_
    show Steps p.tables e below (T160.setTop (mkF m 376 #[.val (.long q0), .second, .val (.long q1), .second, .val (.long q2), .second, .val (.long q3), .second, .val (.int p4), .val (.int p5), .val (.int (Int32.ofNat nb)), .val (.int (Int32.ofNat fr)), .val (.int (Int32.ofNat cnt)), .val (.int (Int32.ofNat ia)), .val (.int (Int32.ofNat at_)), .val (.ref b3), .val (.ref b37), .val (.ref b88), .val (.int ((8 : Int32) * (Int32.ofNat at_))), .val (.int ((r_141.toInt32) + (1 : Int32))), .val (.int ((r_145.toInt32) + (1 : Int32))), .val (.int ((r_149.toInt32) + (1 : Int32)))] [])) _
    refine XS.aload X160.here hx rfl (hb hby at_376) rfl rfl ?_
    show Steps p.tables e below (T160.setTop (mkF m 378 #[.val (.long q0), .second, .val (.long q1), .second, .val (.long q2), .second, .val (.long q3), .second, .val (.int p4), .val (.int p5), .val (.int (Int32.ofNat nb)), .val (.int (Int32.ofNat fr)), .val (.int (Int32.ofNat cnt)), .val (.int (Int32.ofNat ia)), .val (.int (Int32.ofNat at_)), .val (.ref b3), .val (.ref b37), .val (.ref b88), .val (.int ((8 : Int32) * (Int32.ofNat at_))), .val (.int ((r_141.toInt32) + (1 : Int32))), .val (.int ((r_145.toInt32) + (1 : Int32))), .val (.int ((r_149.toInt32) + (1 : Int32)))] [(.ref b88)])) _
    refine XS.iconst X160.here hx rfl (hb hby at_378) ?_
    exact kz
  refine OG.step s162 ?_
  have av163 := p152_0
  obtain ⟨cl163, Ar163, qa_163, Sa_163, Nn_163, Ha_163, Ga_163⟩ := av163
  have hin163 : ¬ ((1 : Int32) < 0 ∨ cl163.slots.size ≤ ((1 : Int32)).toNatClampNeg) := inb_of Sa_163 ⟨(by decide), (by decide)⟩
  have hat163 : cl163.slots[((1 : Int32)).toNatClampNeg]? = some (.int ((own_fill (fun _ => p5) ia (own_R r_141 r_145 r_149) cnt) 1)) := Ha_163.at hin163 (own_iget (own_fill (fun _ => p5) ia (own_R r_141 r_145 r_149) cnt) (x := 1) (by decide) (by decide))
  refine OG.step (X160.iaload hx (j := (1 : Int32)) (v := (.int ((own_fill (fun _ => p5) ia (own_R r_141 r_145 r_149) cnt) 1))) (by rw [e160]; exact Ar163.1) (State.isArrayOf_alike hZ.alike Ar163.2.1) Ar163.2.2 hin163 hat163 (g := (mkF m 379 #[.val (.long q0), .second, .val (.long q1), .second, .val (.long q2), .second, .val (.long q3), .second, .val (.int p4), .val (.int p5), .val (.int (Int32.ofNat nb)), .val (.int (Int32.ofNat fr)), .val (.int (Int32.ofNat cnt)), .val (.int (Int32.ofNat ia)), .val (.int (Int32.ofNat at_)), .val (.ref b3), .val (.ref b37), .val (.ref b88), .val (.int ((8 : Int32) * (Int32.ofNat at_))), .val (.int ((r_141.toInt32) + (1 : Int32))), .val (.int ((r_145.toInt32) + (1 : Int32))), .val (.int ((r_149.toInt32) + (1 : Int32)))] [(.int (1 : Int32)), (.ref b88)])) rfl rfl (hb hby at_379)) ?_
  show OG _ _ _ _ _ _ _ (T160.setTop (mkF m 380 #[.val (.long q0), .second, .val (.long q1), .second, .val (.long q2), .second, .val (.long q3), .second, .val (.int p4), .val (.int p5), .val (.int (Int32.ofNat nb)), .val (.int (Int32.ofNat fr)), .val (.int (Int32.ofNat cnt)), .val (.int (Int32.ofNat ia)), .val (.int (Int32.ofNat at_)), .val (.ref b3), .val (.ref b37), .val (.ref b88), .val (.int ((8 : Int32) * (Int32.ofNat at_))), .val (.int ((r_141.toInt32) + (1 : Int32))), .val (.int ((r_145.toInt32) + (1 : Int32))), .val (.int ((r_149.toInt32) + (1 : Int32)))] [(.int ((own_fill (fun _ => p5) ia (own_R r_141 r_145 r_149) cnt) 1))]))
  have s164 : ∀ tz, Steps p.tables e below (T160.setTop (mkF m 393 #[.val (.long q0), .second, .val (.long q1), .second, .val (.long q2), .second, .val (.long q3), .second, .val (.int p4), .val (.int p5), .val (.int (Int32.ofNat nb)), .val (.int (Int32.ofNat fr)), .val (.int (Int32.ofNat cnt)), .val (.int (Int32.ofNat ia)), .val (.int (Int32.ofNat at_)), .val (.ref b3), .val (.ref b37), .val (.ref b88), .val (.int ((8 : Int32) * (Int32.ofNat at_))), .val (.int ((r_141.toInt32) + (1 : Int32))), .val (.int ((r_145.toInt32) + (1 : Int32))), .val (.int ((r_149.toInt32) + (1 : Int32)))] [(.int ((r_149.toInt32) + (1 : Int32))), (.int ((r_145.toInt32) + (1 : Int32))), (.int ((r_141.toInt32) + (1 : Int32))), (.int p5), (.int (Int32.ofNat cnt)), (.int (Int32.ofNat ia)), (.int (1 : Int32)), (.int ((own_fill (fun _ => p5) ia (own_R r_141 r_145 r_149) cnt) 1))])) tz → Steps p.tables e below (T160.setTop (mkF m 380 #[.val (.long q0), .second, .val (.long q1), .second, .val (.long q2), .second, .val (.long q3), .second, .val (.int p4), .val (.int p5), .val (.int (Int32.ofNat nb)), .val (.int (Int32.ofNat fr)), .val (.int (Int32.ofNat cnt)), .val (.int (Int32.ofNat ia)), .val (.int (Int32.ofNat at_)), .val (.ref b3), .val (.ref b37), .val (.ref b88), .val (.int ((8 : Int32) * (Int32.ofNat at_))), .val (.int ((r_141.toInt32) + (1 : Int32))), .val (.int ((r_145.toInt32) + (1 : Int32))), .val (.int ((r_149.toInt32) + (1 : Int32)))] [(.int ((own_fill (fun _ => p5) ia (own_R r_141 r_145 r_149) cnt) 1))])) tz := by
    intro tz kz
    refine XS.iconst X160.here hx rfl (hb hby at_380) ?_
    show Steps p.tables e below (T160.setTop (mkF m 381 #[.val (.long q0), .second, .val (.long q1), .second, .val (.long q2), .second, .val (.long q3), .second, .val (.int p4), .val (.int p5), .val (.int (Int32.ofNat nb)), .val (.int (Int32.ofNat fr)), .val (.int (Int32.ofNat cnt)), .val (.int (Int32.ofNat ia)), .val (.int (Int32.ofNat at_)), .val (.ref b3), .val (.ref b37), .val (.ref b88), .val (.int ((8 : Int32) * (Int32.ofNat at_))), .val (.int ((r_141.toInt32) + (1 : Int32))), .val (.int ((r_145.toInt32) + (1 : Int32))), .val (.int ((r_149.toInt32) + (1 : Int32)))] [(.int (1 : Int32)), (.int ((own_fill (fun _ => p5) ia (own_R r_141 r_145 r_149) cnt) 1))])) _
    refine XS.iload X160.here hx rfl (hb hby at_381) rfl ?_
    show Steps p.tables e below (T160.setTop (mkF m 383 #[.val (.long q0), .second, .val (.long q1), .second, .val (.long q2), .second, .val (.long q3), .second, .val (.int p4), .val (.int p5), .val (.int (Int32.ofNat nb)), .val (.int (Int32.ofNat fr)), .val (.int (Int32.ofNat cnt)), .val (.int (Int32.ofNat ia)), .val (.int (Int32.ofNat at_)), .val (.ref b3), .val (.ref b37), .val (.ref b88), .val (.int ((8 : Int32) * (Int32.ofNat at_))), .val (.int ((r_141.toInt32) + (1 : Int32))), .val (.int ((r_145.toInt32) + (1 : Int32))), .val (.int ((r_149.toInt32) + (1 : Int32)))] [(.int (Int32.ofNat ia)), (.int (1 : Int32)), (.int ((own_fill (fun _ => p5) ia (own_R r_141 r_145 r_149) cnt) 1))])) _
    refine XS.iload X160.here hx rfl (hb hby at_383) rfl ?_
    show Steps p.tables e below (T160.setTop (mkF m 385 #[.val (.long q0), .second, .val (.long q1), .second, .val (.long q2), .second, .val (.long q3), .second, .val (.int p4), .val (.int p5), .val (.int (Int32.ofNat nb)), .val (.int (Int32.ofNat fr)), .val (.int (Int32.ofNat cnt)), .val (.int (Int32.ofNat ia)), .val (.int (Int32.ofNat at_)), .val (.ref b3), .val (.ref b37), .val (.ref b88), .val (.int ((8 : Int32) * (Int32.ofNat at_))), .val (.int ((r_141.toInt32) + (1 : Int32))), .val (.int ((r_145.toInt32) + (1 : Int32))), .val (.int ((r_149.toInt32) + (1 : Int32)))] [(.int (Int32.ofNat cnt)), (.int (Int32.ofNat ia)), (.int (1 : Int32)), (.int ((own_fill (fun _ => p5) ia (own_R r_141 r_145 r_149) cnt) 1))])) _
    refine XS.iload X160.here hx rfl (hb hby at_385) rfl ?_
    show Steps p.tables e below (T160.setTop (mkF m 387 #[.val (.long q0), .second, .val (.long q1), .second, .val (.long q2), .second, .val (.long q3), .second, .val (.int p4), .val (.int p5), .val (.int (Int32.ofNat nb)), .val (.int (Int32.ofNat fr)), .val (.int (Int32.ofNat cnt)), .val (.int (Int32.ofNat ia)), .val (.int (Int32.ofNat at_)), .val (.ref b3), .val (.ref b37), .val (.ref b88), .val (.int ((8 : Int32) * (Int32.ofNat at_))), .val (.int ((r_141.toInt32) + (1 : Int32))), .val (.int ((r_145.toInt32) + (1 : Int32))), .val (.int ((r_149.toInt32) + (1 : Int32)))] [(.int p5), (.int (Int32.ofNat cnt)), (.int (Int32.ofNat ia)), (.int (1 : Int32)), (.int ((own_fill (fun _ => p5) ia (own_R r_141 r_145 r_149) cnt) 1))])) _
    refine XS.iload X160.here hx rfl (hb hby at_387) rfl ?_
    show Steps p.tables e below (T160.setTop (mkF m 389 #[.val (.long q0), .second, .val (.long q1), .second, .val (.long q2), .second, .val (.long q3), .second, .val (.int p4), .val (.int p5), .val (.int (Int32.ofNat nb)), .val (.int (Int32.ofNat fr)), .val (.int (Int32.ofNat cnt)), .val (.int (Int32.ofNat ia)), .val (.int (Int32.ofNat at_)), .val (.ref b3), .val (.ref b37), .val (.ref b88), .val (.int ((8 : Int32) * (Int32.ofNat at_))), .val (.int ((r_141.toInt32) + (1 : Int32))), .val (.int ((r_145.toInt32) + (1 : Int32))), .val (.int ((r_149.toInt32) + (1 : Int32)))] [(.int ((r_141.toInt32) + (1 : Int32))), (.int p5), (.int (Int32.ofNat cnt)), (.int (Int32.ofNat ia)), (.int (1 : Int32)), (.int ((own_fill (fun _ => p5) ia (own_R r_141 r_145 r_149) cnt) 1))])) _
    refine XS.iload X160.here hx rfl (hb hby at_389) rfl ?_
    show Steps p.tables e below (T160.setTop (mkF m 391 #[.val (.long q0), .second, .val (.long q1), .second, .val (.long q2), .second, .val (.long q3), .second, .val (.int p4), .val (.int p5), .val (.int (Int32.ofNat nb)), .val (.int (Int32.ofNat fr)), .val (.int (Int32.ofNat cnt)), .val (.int (Int32.ofNat ia)), .val (.int (Int32.ofNat at_)), .val (.ref b3), .val (.ref b37), .val (.ref b88), .val (.int ((8 : Int32) * (Int32.ofNat at_))), .val (.int ((r_141.toInt32) + (1 : Int32))), .val (.int ((r_145.toInt32) + (1 : Int32))), .val (.int ((r_149.toInt32) + (1 : Int32)))] [(.int ((r_145.toInt32) + (1 : Int32))), (.int ((r_141.toInt32) + (1 : Int32))), (.int p5), (.int (Int32.ofNat cnt)), (.int (Int32.ofNat ia)), (.int (1 : Int32)), (.int ((own_fill (fun _ => p5) ia (own_R r_141 r_145 r_149) cnt) 1))])) _
    refine XS.iload X160.here hx rfl (hb hby at_391) rfl ?_
    exact kz
  refine OG.step s164 ?_
  obtain ⟨_, _, ⟨T165, L165, k165, n165⟩, -, X165, ⟨Lc165, hQ165, l165, y165, z165⟩, st165⟩ := Jvm.LawKit.callS X160 hx (y := (⟨"com/example/strata/strata/PostingsUnpackTimesPinLaw", "expected", "(IIIIIII)I"⟩ : MethodName)) hown (mvT hZ (hw _ (List.mem_of_getElem? (i := 15) rfl))) (mvT hZ (hw _ (List.mem_of_getElem? (i := 16) rfl))) (mvT hZ (hw _ (List.mem_of_getElem? (i := 5) rfl))) (mvT hZ (hw _ (List.mem_of_getElem? (i := 17) rfl))) (by decide) (backOf (W := 1) (rm4 l Z a0 hw [] (1 : Int32) (Int32.ofNat ia) (Int32.ofNat cnt) p5 ((r_141.toInt32) + (1 : Int32)) ((r_145.toInt32) + (1 : Int32)) ((r_149.toInt32) + (1 : Int32)) T152.heap n0 (Nat.le_trans Z0 K152.1)) hZ (hw _ (List.mem_of_getElem? (i := 17) rfl)) (hw _ (List.mem_of_getElem? (i := 5) rfl)) (by decide) (by decide)) (g := (mkF m 393 #[.val (.long q0), .second, .val (.long q1), .second, .val (.long q2), .second, .val (.long q3), .second, .val (.int p4), .val (.int p5), .val (.int (Int32.ofNat nb)), .val (.int (Int32.ofNat fr)), .val (.int (Int32.ofNat cnt)), .val (.int (Int32.ofNat ia)), .val (.int (Int32.ofNat at_)), .val (.ref b3), .val (.ref b37), .val (.ref b88), .val (.int ((8 : Int32) * (Int32.ofNat at_))), .val (.int ((r_141.toInt32) + (1 : Int32))), .val (.int ((r_145.toInt32) + (1 : Int32))), .val (.int ((r_149.toInt32) + (1 : Int32)))] [(.int ((r_149.toInt32) + (1 : Int32))), (.int ((r_145.toInt32) + (1 : Int32))), (.int ((r_141.toInt32) + (1 : Int32))), (.int p5), (.int (Int32.ofNat cnt)), (.int (Int32.ofNat ia)), (.int (1 : Int32)), (.int ((own_fill (fun _ => p5) ia (own_R r_141 r_145 r_149) cnt) 1))])) rfl (by rw [hml]; rfl) (argsL := [(.int (1 : Int32)), (.int (Int32.ofNat ia)), (.int (Int32.ofNat cnt)), (.int p5), (.int ((r_141.toInt32) + (1 : Int32))), (.int ((r_145.toInt32) + (1 : Int32))), (.int ((r_149.toInt32) + (1 : Int32)))]) (rest := [(.int ((own_fill (fun _ => p5) ia (own_R r_141 r_145 r_149) cnt) 1))]) (lenOf pd__IIIIIII_I rfl) rfl (by show 2 * 0 + _ ≤ _; exact Nat.le_of_eq rfl) (hb hby at_393) (fun _ _ => ⟨rfl, e160, (by decide : 3 + 0 ≤ _), (by decide : 80 + 0 ≤ _)⟩)
  dsimp only [Pt.U, Pt.locs, Pt.cells, Pt.slots] at X165 l165 y165 z165 st165 hQ165
  subst l165 y165 z165
  obtain ⟨rfl, N165q, e165⟩ := hQ165
  have N165 := Fr.app N160 N165q
  refine OG.step st165 ?_
  obtain ⟨Lz166, X165, N165⟩ : ∃ Lz, Stand p l e room_1 s m #[(.long q0), (.long q1), (.long q2), (.long q3), (.int p4), (.int p5)] below meth c T165 Lz 3 80 ∧ Fr n0 Lz := ⟨_, X165, N165⟩
  show OG _ _ _ _ _ _ _ (T165.setTop (mkF m 396 #[.val (.long q0), .second, .val (.long q1), .second, .val (.long q2), .second, .val (.long q3), .second, .val (.int p4), .val (.int p5), .val (.int (Int32.ofNat nb)), .val (.int (Int32.ofNat fr)), .val (.int (Int32.ofNat cnt)), .val (.int (Int32.ofNat ia)), .val (.int (Int32.ofNat at_)), .val (.ref b3), .val (.ref b37), .val (.ref b88), .val (.int ((8 : Int32) * (Int32.ofNat at_))), .val (.int ((r_141.toInt32) + (1 : Int32))), .val (.int ((r_145.toInt32) + (1 : Int32))), .val (.int ((r_149.toInt32) + (1 : Int32)))] [(.int (own_exp (1 : Int32) (Int32.ofNat ia) (Int32.ofNat cnt) p5 ((r_141.toInt32) + (1 : Int32)) ((r_145.toInt32) + (1 : Int32)) ((r_149.toInt32) + (1 : Int32)))), (.int ((own_fill (fun _ => p5) ia (own_R r_141 r_145 r_149) cnt) 1))]))
  have s167 : ∀ tz, Steps p.tables e below (T165.setTop (mkF m 402 #[.val (.long q0), .second, .val (.long q1), .second, .val (.long q2), .second, .val (.long q3), .second, .val (.int p4), .val (.int p5), .val (.int (Int32.ofNat nb)), .val (.int (Int32.ofNat fr)), .val (.int (Int32.ofNat cnt)), .val (.int (Int32.ofNat ia)), .val (.int (Int32.ofNat at_)), .val (.ref b3), .val (.ref b37), .val (.ref b88), .val (.int ((8 : Int32) * (Int32.ofNat at_))), .val (.int ((r_141.toInt32) + (1 : Int32))), .val (.int ((r_145.toInt32) + (1 : Int32))), .val (.int ((r_149.toInt32) + (1 : Int32)))] [(.int (2 : Int32)), (.ref b88)])) tz → Steps p.tables e below (T165.setTop (mkF m 396 #[.val (.long q0), .second, .val (.long q1), .second, .val (.long q2), .second, .val (.long q3), .second, .val (.int p4), .val (.int p5), .val (.int (Int32.ofNat nb)), .val (.int (Int32.ofNat fr)), .val (.int (Int32.ofNat cnt)), .val (.int (Int32.ofNat ia)), .val (.int (Int32.ofNat at_)), .val (.ref b3), .val (.ref b37), .val (.ref b88), .val (.int ((8 : Int32) * (Int32.ofNat at_))), .val (.int ((r_141.toInt32) + (1 : Int32))), .val (.int ((r_145.toInt32) + (1 : Int32))), .val (.int ((r_149.toInt32) + (1 : Int32)))] [(.int (own_exp (1 : Int32) (Int32.ofNat ia) (Int32.ofNat cnt) p5 ((r_141.toInt32) + (1 : Int32)) ((r_145.toInt32) + (1 : Int32)) ((r_149.toInt32) + (1 : Int32)))), (.int ((own_fill (fun _ => p5) ia (own_R r_141 r_145 r_149) cnt) 1))])) tz := by
    intro tz kz
    refine XS.icmpNo X165.here hx rfl (hb hby at_396) rfl (teq (own_fin hcnt hia 1 (by decide))).2 ?_
    show Steps p.tables e below (T165.setTop (mkF m 399 #[.val (.long q0), .second, .val (.long q1), .second, .val (.long q2), .second, .val (.long q3), .second, .val (.int p4), .val (.int p5), .val (.int (Int32.ofNat nb)), .val (.int (Int32.ofNat fr)), .val (.int (Int32.ofNat cnt)), .val (.int (Int32.ofNat ia)), .val (.int (Int32.ofNat at_)), .val (.ref b3), .val (.ref b37), .val (.ref b88), .val (.int ((8 : Int32) * (Int32.ofNat at_))), .val (.int ((r_141.toInt32) + (1 : Int32))), .val (.int ((r_145.toInt32) + (1 : Int32))), .val (.int ((r_149.toInt32) + (1 : Int32)))] [])) _
    refine XS.aload X165.here hx rfl (hb hby at_399) rfl rfl ?_
    show Steps p.tables e below (T165.setTop (mkF m 401 #[.val (.long q0), .second, .val (.long q1), .second, .val (.long q2), .second, .val (.long q3), .second, .val (.int p4), .val (.int p5), .val (.int (Int32.ofNat nb)), .val (.int (Int32.ofNat fr)), .val (.int (Int32.ofNat cnt)), .val (.int (Int32.ofNat ia)), .val (.int (Int32.ofNat at_)), .val (.ref b3), .val (.ref b37), .val (.ref b88), .val (.int ((8 : Int32) * (Int32.ofNat at_))), .val (.int ((r_141.toInt32) + (1 : Int32))), .val (.int ((r_145.toInt32) + (1 : Int32))), .val (.int ((r_149.toInt32) + (1 : Int32)))] [(.ref b88)])) _
    refine XS.iconst X165.here hx rfl (hb hby at_401) ?_
    exact kz
  refine OG.step s167 ?_
  have av168 := p152_0
  obtain ⟨cl168, Ar168, qa_168, Sa_168, Nn_168, Ha_168, Ga_168⟩ := av168
  have hin168 : ¬ ((2 : Int32) < 0 ∨ cl168.slots.size ≤ ((2 : Int32)).toNatClampNeg) := inb_of Sa_168 ⟨(by decide), (by decide)⟩
  have hat168 : cl168.slots[((2 : Int32)).toNatClampNeg]? = some (.int ((own_fill (fun _ => p5) ia (own_R r_141 r_145 r_149) cnt) 2)) := Ha_168.at hin168 (own_iget (own_fill (fun _ => p5) ia (own_R r_141 r_145 r_149) cnt) (x := 2) (by decide) (by decide))
  refine OG.step (X165.iaload hx (j := (2 : Int32)) (v := (.int ((own_fill (fun _ => p5) ia (own_R r_141 r_145 r_149) cnt) 2))) (by rw [e165]; exact Ar168.1) (State.isArrayOf_alike hZ.alike Ar168.2.1) Ar168.2.2 hin168 hat168 (g := (mkF m 402 #[.val (.long q0), .second, .val (.long q1), .second, .val (.long q2), .second, .val (.long q3), .second, .val (.int p4), .val (.int p5), .val (.int (Int32.ofNat nb)), .val (.int (Int32.ofNat fr)), .val (.int (Int32.ofNat cnt)), .val (.int (Int32.ofNat ia)), .val (.int (Int32.ofNat at_)), .val (.ref b3), .val (.ref b37), .val (.ref b88), .val (.int ((8 : Int32) * (Int32.ofNat at_))), .val (.int ((r_141.toInt32) + (1 : Int32))), .val (.int ((r_145.toInt32) + (1 : Int32))), .val (.int ((r_149.toInt32) + (1 : Int32)))] [(.int (2 : Int32)), (.ref b88)])) rfl rfl (hb hby at_402)) ?_
  show OG _ _ _ _ _ _ _ (T165.setTop (mkF m 403 #[.val (.long q0), .second, .val (.long q1), .second, .val (.long q2), .second, .val (.long q3), .second, .val (.int p4), .val (.int p5), .val (.int (Int32.ofNat nb)), .val (.int (Int32.ofNat fr)), .val (.int (Int32.ofNat cnt)), .val (.int (Int32.ofNat ia)), .val (.int (Int32.ofNat at_)), .val (.ref b3), .val (.ref b37), .val (.ref b88), .val (.int ((8 : Int32) * (Int32.ofNat at_))), .val (.int ((r_141.toInt32) + (1 : Int32))), .val (.int ((r_145.toInt32) + (1 : Int32))), .val (.int ((r_149.toInt32) + (1 : Int32)))] [(.int ((own_fill (fun _ => p5) ia (own_R r_141 r_145 r_149) cnt) 2))]))
  have s169 : ∀ tz, Steps p.tables e below (T165.setTop (mkF m 416 #[.val (.long q0), .second, .val (.long q1), .second, .val (.long q2), .second, .val (.long q3), .second, .val (.int p4), .val (.int p5), .val (.int (Int32.ofNat nb)), .val (.int (Int32.ofNat fr)), .val (.int (Int32.ofNat cnt)), .val (.int (Int32.ofNat ia)), .val (.int (Int32.ofNat at_)), .val (.ref b3), .val (.ref b37), .val (.ref b88), .val (.int ((8 : Int32) * (Int32.ofNat at_))), .val (.int ((r_141.toInt32) + (1 : Int32))), .val (.int ((r_145.toInt32) + (1 : Int32))), .val (.int ((r_149.toInt32) + (1 : Int32)))] [(.int ((r_149.toInt32) + (1 : Int32))), (.int ((r_145.toInt32) + (1 : Int32))), (.int ((r_141.toInt32) + (1 : Int32))), (.int p5), (.int (Int32.ofNat cnt)), (.int (Int32.ofNat ia)), (.int (2 : Int32)), (.int ((own_fill (fun _ => p5) ia (own_R r_141 r_145 r_149) cnt) 2))])) tz → Steps p.tables e below (T165.setTop (mkF m 403 #[.val (.long q0), .second, .val (.long q1), .second, .val (.long q2), .second, .val (.long q3), .second, .val (.int p4), .val (.int p5), .val (.int (Int32.ofNat nb)), .val (.int (Int32.ofNat fr)), .val (.int (Int32.ofNat cnt)), .val (.int (Int32.ofNat ia)), .val (.int (Int32.ofNat at_)), .val (.ref b3), .val (.ref b37), .val (.ref b88), .val (.int ((8 : Int32) * (Int32.ofNat at_))), .val (.int ((r_141.toInt32) + (1 : Int32))), .val (.int ((r_145.toInt32) + (1 : Int32))), .val (.int ((r_149.toInt32) + (1 : Int32)))] [(.int ((own_fill (fun _ => p5) ia (own_R r_141 r_145 r_149) cnt) 2))])) tz := by
    intro tz kz
    refine XS.iconst X165.here hx rfl (hb hby at_403) ?_
    show Steps p.tables e below (T165.setTop (mkF m 404 #[.val (.long q0), .second, .val (.long q1), .second, .val (.long q2), .second, .val (.long q3), .second, .val (.int p4), .val (.int p5), .val (.int (Int32.ofNat nb)), .val (.int (Int32.ofNat fr)), .val (.int (Int32.ofNat cnt)), .val (.int (Int32.ofNat ia)), .val (.int (Int32.ofNat at_)), .val (.ref b3), .val (.ref b37), .val (.ref b88), .val (.int ((8 : Int32) * (Int32.ofNat at_))), .val (.int ((r_141.toInt32) + (1 : Int32))), .val (.int ((r_145.toInt32) + (1 : Int32))), .val (.int ((r_149.toInt32) + (1 : Int32)))] [(.int (2 : Int32)), (.int ((own_fill (fun _ => p5) ia (own_R r_141 r_145 r_149) cnt) 2))])) _
    refine XS.iload X165.here hx rfl (hb hby at_404) rfl ?_
    show Steps p.tables e below (T165.setTop (mkF m 406 #[.val (.long q0), .second, .val (.long q1), .second, .val (.long q2), .second, .val (.long q3), .second, .val (.int p4), .val (.int p5), .val (.int (Int32.ofNat nb)), .val (.int (Int32.ofNat fr)), .val (.int (Int32.ofNat cnt)), .val (.int (Int32.ofNat ia)), .val (.int (Int32.ofNat at_)), .val (.ref b3), .val (.ref b37), .val (.ref b88), .val (.int ((8 : Int32) * (Int32.ofNat at_))), .val (.int ((r_141.toInt32) + (1 : Int32))), .val (.int ((r_145.toInt32) + (1 : Int32))), .val (.int ((r_149.toInt32) + (1 : Int32)))] [(.int (Int32.ofNat ia)), (.int (2 : Int32)), (.int ((own_fill (fun _ => p5) ia (own_R r_141 r_145 r_149) cnt) 2))])) _
    refine XS.iload X165.here hx rfl (hb hby at_406) rfl ?_
    show Steps p.tables e below (T165.setTop (mkF m 408 #[.val (.long q0), .second, .val (.long q1), .second, .val (.long q2), .second, .val (.long q3), .second, .val (.int p4), .val (.int p5), .val (.int (Int32.ofNat nb)), .val (.int (Int32.ofNat fr)), .val (.int (Int32.ofNat cnt)), .val (.int (Int32.ofNat ia)), .val (.int (Int32.ofNat at_)), .val (.ref b3), .val (.ref b37), .val (.ref b88), .val (.int ((8 : Int32) * (Int32.ofNat at_))), .val (.int ((r_141.toInt32) + (1 : Int32))), .val (.int ((r_145.toInt32) + (1 : Int32))), .val (.int ((r_149.toInt32) + (1 : Int32)))] [(.int (Int32.ofNat cnt)), (.int (Int32.ofNat ia)), (.int (2 : Int32)), (.int ((own_fill (fun _ => p5) ia (own_R r_141 r_145 r_149) cnt) 2))])) _
    refine XS.iload X165.here hx rfl (hb hby at_408) rfl ?_
    show Steps p.tables e below (T165.setTop (mkF m 410 #[.val (.long q0), .second, .val (.long q1), .second, .val (.long q2), .second, .val (.long q3), .second, .val (.int p4), .val (.int p5), .val (.int (Int32.ofNat nb)), .val (.int (Int32.ofNat fr)), .val (.int (Int32.ofNat cnt)), .val (.int (Int32.ofNat ia)), .val (.int (Int32.ofNat at_)), .val (.ref b3), .val (.ref b37), .val (.ref b88), .val (.int ((8 : Int32) * (Int32.ofNat at_))), .val (.int ((r_141.toInt32) + (1 : Int32))), .val (.int ((r_145.toInt32) + (1 : Int32))), .val (.int ((r_149.toInt32) + (1 : Int32)))] [(.int p5), (.int (Int32.ofNat cnt)), (.int (Int32.ofNat ia)), (.int (2 : Int32)), (.int ((own_fill (fun _ => p5) ia (own_R r_141 r_145 r_149) cnt) 2))])) _
    refine XS.iload X165.here hx rfl (hb hby at_410) rfl ?_
    show Steps p.tables e below (T165.setTop (mkF m 412 #[.val (.long q0), .second, .val (.long q1), .second, .val (.long q2), .second, .val (.long q3), .second, .val (.int p4), .val (.int p5), .val (.int (Int32.ofNat nb)), .val (.int (Int32.ofNat fr)), .val (.int (Int32.ofNat cnt)), .val (.int (Int32.ofNat ia)), .val (.int (Int32.ofNat at_)), .val (.ref b3), .val (.ref b37), .val (.ref b88), .val (.int ((8 : Int32) * (Int32.ofNat at_))), .val (.int ((r_141.toInt32) + (1 : Int32))), .val (.int ((r_145.toInt32) + (1 : Int32))), .val (.int ((r_149.toInt32) + (1 : Int32)))] [(.int ((r_141.toInt32) + (1 : Int32))), (.int p5), (.int (Int32.ofNat cnt)), (.int (Int32.ofNat ia)), (.int (2 : Int32)), (.int ((own_fill (fun _ => p5) ia (own_R r_141 r_145 r_149) cnt) 2))])) _
    refine XS.iload X165.here hx rfl (hb hby at_412) rfl ?_
    show Steps p.tables e below (T165.setTop (mkF m 414 #[.val (.long q0), .second, .val (.long q1), .second, .val (.long q2), .second, .val (.long q3), .second, .val (.int p4), .val (.int p5), .val (.int (Int32.ofNat nb)), .val (.int (Int32.ofNat fr)), .val (.int (Int32.ofNat cnt)), .val (.int (Int32.ofNat ia)), .val (.int (Int32.ofNat at_)), .val (.ref b3), .val (.ref b37), .val (.ref b88), .val (.int ((8 : Int32) * (Int32.ofNat at_))), .val (.int ((r_141.toInt32) + (1 : Int32))), .val (.int ((r_145.toInt32) + (1 : Int32))), .val (.int ((r_149.toInt32) + (1 : Int32)))] [(.int ((r_145.toInt32) + (1 : Int32))), (.int ((r_141.toInt32) + (1 : Int32))), (.int p5), (.int (Int32.ofNat cnt)), (.int (Int32.ofNat ia)), (.int (2 : Int32)), (.int ((own_fill (fun _ => p5) ia (own_R r_141 r_145 r_149) cnt) 2))])) _
    refine XS.iload X165.here hx rfl (hb hby at_414) rfl ?_
    exact kz
  refine OG.step s169 ?_
  obtain ⟨_, _, ⟨T170, L170, k170, n170⟩, -, X170, ⟨Lc170, hQ170, l170, y170, z170⟩, st170⟩ := Jvm.LawKit.callS X165 hx (y := (⟨"com/example/strata/strata/PostingsUnpackTimesPinLaw", "expected", "(IIIIIII)I"⟩ : MethodName)) hown (mvT hZ (hw _ (List.mem_of_getElem? (i := 15) rfl))) (mvT hZ (hw _ (List.mem_of_getElem? (i := 16) rfl))) (mvT hZ (hw _ (List.mem_of_getElem? (i := 5) rfl))) (mvT hZ (hw _ (List.mem_of_getElem? (i := 17) rfl))) (by decide) (backOf (W := 1) (rm4 l Z a0 hw [] (2 : Int32) (Int32.ofNat ia) (Int32.ofNat cnt) p5 ((r_141.toInt32) + (1 : Int32)) ((r_145.toInt32) + (1 : Int32)) ((r_149.toInt32) + (1 : Int32)) T152.heap n0 (Nat.le_trans Z0 K152.1)) hZ (hw _ (List.mem_of_getElem? (i := 17) rfl)) (hw _ (List.mem_of_getElem? (i := 5) rfl)) (by decide) (by decide)) (g := (mkF m 416 #[.val (.long q0), .second, .val (.long q1), .second, .val (.long q2), .second, .val (.long q3), .second, .val (.int p4), .val (.int p5), .val (.int (Int32.ofNat nb)), .val (.int (Int32.ofNat fr)), .val (.int (Int32.ofNat cnt)), .val (.int (Int32.ofNat ia)), .val (.int (Int32.ofNat at_)), .val (.ref b3), .val (.ref b37), .val (.ref b88), .val (.int ((8 : Int32) * (Int32.ofNat at_))), .val (.int ((r_141.toInt32) + (1 : Int32))), .val (.int ((r_145.toInt32) + (1 : Int32))), .val (.int ((r_149.toInt32) + (1 : Int32)))] [(.int ((r_149.toInt32) + (1 : Int32))), (.int ((r_145.toInt32) + (1 : Int32))), (.int ((r_141.toInt32) + (1 : Int32))), (.int p5), (.int (Int32.ofNat cnt)), (.int (Int32.ofNat ia)), (.int (2 : Int32)), (.int ((own_fill (fun _ => p5) ia (own_R r_141 r_145 r_149) cnt) 2))])) rfl (by rw [hml]; rfl) (argsL := [(.int (2 : Int32)), (.int (Int32.ofNat ia)), (.int (Int32.ofNat cnt)), (.int p5), (.int ((r_141.toInt32) + (1 : Int32))), (.int ((r_145.toInt32) + (1 : Int32))), (.int ((r_149.toInt32) + (1 : Int32)))]) (rest := [(.int ((own_fill (fun _ => p5) ia (own_R r_141 r_145 r_149) cnt) 2))]) (lenOf pd__IIIIIII_I rfl) rfl (by show 2 * 0 + _ ≤ _; exact Nat.le_of_eq rfl) (hb hby at_416) (fun _ _ => ⟨rfl, e165, (by decide : 3 + 0 ≤ _), (by decide : 80 + 0 ≤ _)⟩)
  dsimp only [Pt.U, Pt.locs, Pt.cells, Pt.slots] at X170 l170 y170 z170 st170 hQ170
  subst l170 y170 z170
  obtain ⟨rfl, N170q, e170⟩ := hQ170
  have N170 := Fr.app N165 N170q
  refine OG.step st170 ?_
  obtain ⟨Lz171, X170, N170⟩ : ∃ Lz, Stand p l e room_1 s m #[(.long q0), (.long q1), (.long q2), (.long q3), (.int p4), (.int p5)] below meth c T170 Lz 3 80 ∧ Fr n0 Lz := ⟨_, X170, N170⟩
  show OG _ _ _ _ _ _ _ (T170.setTop (mkF m 419 #[.val (.long q0), .second, .val (.long q1), .second, .val (.long q2), .second, .val (.long q3), .second, .val (.int p4), .val (.int p5), .val (.int (Int32.ofNat nb)), .val (.int (Int32.ofNat fr)), .val (.int (Int32.ofNat cnt)), .val (.int (Int32.ofNat ia)), .val (.int (Int32.ofNat at_)), .val (.ref b3), .val (.ref b37), .val (.ref b88), .val (.int ((8 : Int32) * (Int32.ofNat at_))), .val (.int ((r_141.toInt32) + (1 : Int32))), .val (.int ((r_145.toInt32) + (1 : Int32))), .val (.int ((r_149.toInt32) + (1 : Int32)))] [(.int (own_exp (2 : Int32) (Int32.ofNat ia) (Int32.ofNat cnt) p5 ((r_141.toInt32) + (1 : Int32)) ((r_145.toInt32) + (1 : Int32)) ((r_149.toInt32) + (1 : Int32)))), (.int ((own_fill (fun _ => p5) ia (own_R r_141 r_145 r_149) cnt) 2))]))
  have s172 : ∀ tz, Steps p.tables e below (T170.setTop (mkF m 425 #[.val (.long q0), .second, .val (.long q1), .second, .val (.long q2), .second, .val (.long q3), .second, .val (.int p4), .val (.int p5), .val (.int (Int32.ofNat nb)), .val (.int (Int32.ofNat fr)), .val (.int (Int32.ofNat cnt)), .val (.int (Int32.ofNat ia)), .val (.int (Int32.ofNat at_)), .val (.ref b3), .val (.ref b37), .val (.ref b88), .val (.int ((8 : Int32) * (Int32.ofNat at_))), .val (.int ((r_141.toInt32) + (1 : Int32))), .val (.int ((r_145.toInt32) + (1 : Int32))), .val (.int ((r_149.toInt32) + (1 : Int32)))] [(.int (3 : Int32)), (.ref b88)])) tz → Steps p.tables e below (T170.setTop (mkF m 419 #[.val (.long q0), .second, .val (.long q1), .second, .val (.long q2), .second, .val (.long q3), .second, .val (.int p4), .val (.int p5), .val (.int (Int32.ofNat nb)), .val (.int (Int32.ofNat fr)), .val (.int (Int32.ofNat cnt)), .val (.int (Int32.ofNat ia)), .val (.int (Int32.ofNat at_)), .val (.ref b3), .val (.ref b37), .val (.ref b88), .val (.int ((8 : Int32) * (Int32.ofNat at_))), .val (.int ((r_141.toInt32) + (1 : Int32))), .val (.int ((r_145.toInt32) + (1 : Int32))), .val (.int ((r_149.toInt32) + (1 : Int32)))] [(.int (own_exp (2 : Int32) (Int32.ofNat ia) (Int32.ofNat cnt) p5 ((r_141.toInt32) + (1 : Int32)) ((r_145.toInt32) + (1 : Int32)) ((r_149.toInt32) + (1 : Int32)))), (.int ((own_fill (fun _ => p5) ia (own_R r_141 r_145 r_149) cnt) 2))])) tz := by
    intro tz kz
    refine XS.icmpNo X170.here hx rfl (hb hby at_419) rfl (teq (own_fin hcnt hia 2 (by decide))).2 ?_
    show Steps p.tables e below (T170.setTop (mkF m 422 #[.val (.long q0), .second, .val (.long q1), .second, .val (.long q2), .second, .val (.long q3), .second, .val (.int p4), .val (.int p5), .val (.int (Int32.ofNat nb)), .val (.int (Int32.ofNat fr)), .val (.int (Int32.ofNat cnt)), .val (.int (Int32.ofNat ia)), .val (.int (Int32.ofNat at_)), .val (.ref b3), .val (.ref b37), .val (.ref b88), .val (.int ((8 : Int32) * (Int32.ofNat at_))), .val (.int ((r_141.toInt32) + (1 : Int32))), .val (.int ((r_145.toInt32) + (1 : Int32))), .val (.int ((r_149.toInt32) + (1 : Int32)))] [])) _
    refine XS.aload X170.here hx rfl (hb hby at_422) rfl rfl ?_
    show Steps p.tables e below (T170.setTop (mkF m 424 #[.val (.long q0), .second, .val (.long q1), .second, .val (.long q2), .second, .val (.long q3), .second, .val (.int p4), .val (.int p5), .val (.int (Int32.ofNat nb)), .val (.int (Int32.ofNat fr)), .val (.int (Int32.ofNat cnt)), .val (.int (Int32.ofNat ia)), .val (.int (Int32.ofNat at_)), .val (.ref b3), .val (.ref b37), .val (.ref b88), .val (.int ((8 : Int32) * (Int32.ofNat at_))), .val (.int ((r_141.toInt32) + (1 : Int32))), .val (.int ((r_145.toInt32) + (1 : Int32))), .val (.int ((r_149.toInt32) + (1 : Int32)))] [(.ref b88)])) _
    refine XS.iconst X170.here hx rfl (hb hby at_424) ?_
    exact kz
  refine OG.step s172 ?_
  have av173 := p152_0
  obtain ⟨cl173, Ar173, qa_173, Sa_173, Nn_173, Ha_173, Ga_173⟩ := av173
  have hin173 : ¬ ((3 : Int32) < 0 ∨ cl173.slots.size ≤ ((3 : Int32)).toNatClampNeg) := inb_of Sa_173 ⟨(by decide), (by decide)⟩
  have hat173 : cl173.slots[((3 : Int32)).toNatClampNeg]? = some (.int ((own_fill (fun _ => p5) ia (own_R r_141 r_145 r_149) cnt) 3)) := Ha_173.at hin173 (own_iget (own_fill (fun _ => p5) ia (own_R r_141 r_145 r_149) cnt) (x := 3) (by decide) (by decide))
  refine OG.step (X170.iaload hx (j := (3 : Int32)) (v := (.int ((own_fill (fun _ => p5) ia (own_R r_141 r_145 r_149) cnt) 3))) (by rw [e170]; exact Ar173.1) (State.isArrayOf_alike hZ.alike Ar173.2.1) Ar173.2.2 hin173 hat173 (g := (mkF m 425 #[.val (.long q0), .second, .val (.long q1), .second, .val (.long q2), .second, .val (.long q3), .second, .val (.int p4), .val (.int p5), .val (.int (Int32.ofNat nb)), .val (.int (Int32.ofNat fr)), .val (.int (Int32.ofNat cnt)), .val (.int (Int32.ofNat ia)), .val (.int (Int32.ofNat at_)), .val (.ref b3), .val (.ref b37), .val (.ref b88), .val (.int ((8 : Int32) * (Int32.ofNat at_))), .val (.int ((r_141.toInt32) + (1 : Int32))), .val (.int ((r_145.toInt32) + (1 : Int32))), .val (.int ((r_149.toInt32) + (1 : Int32)))] [(.int (3 : Int32)), (.ref b88)])) rfl rfl (hb hby at_425)) ?_
  show OG _ _ _ _ _ _ _ (T170.setTop (mkF m 426 #[.val (.long q0), .second, .val (.long q1), .second, .val (.long q2), .second, .val (.long q3), .second, .val (.int p4), .val (.int p5), .val (.int (Int32.ofNat nb)), .val (.int (Int32.ofNat fr)), .val (.int (Int32.ofNat cnt)), .val (.int (Int32.ofNat ia)), .val (.int (Int32.ofNat at_)), .val (.ref b3), .val (.ref b37), .val (.ref b88), .val (.int ((8 : Int32) * (Int32.ofNat at_))), .val (.int ((r_141.toInt32) + (1 : Int32))), .val (.int ((r_145.toInt32) + (1 : Int32))), .val (.int ((r_149.toInt32) + (1 : Int32)))] [(.int ((own_fill (fun _ => p5) ia (own_R r_141 r_145 r_149) cnt) 3))]))
  have s174 : ∀ tz, Steps p.tables e below (T170.setTop (mkF m 439 #[.val (.long q0), .second, .val (.long q1), .second, .val (.long q2), .second, .val (.long q3), .second, .val (.int p4), .val (.int p5), .val (.int (Int32.ofNat nb)), .val (.int (Int32.ofNat fr)), .val (.int (Int32.ofNat cnt)), .val (.int (Int32.ofNat ia)), .val (.int (Int32.ofNat at_)), .val (.ref b3), .val (.ref b37), .val (.ref b88), .val (.int ((8 : Int32) * (Int32.ofNat at_))), .val (.int ((r_141.toInt32) + (1 : Int32))), .val (.int ((r_145.toInt32) + (1 : Int32))), .val (.int ((r_149.toInt32) + (1 : Int32)))] [(.int ((r_149.toInt32) + (1 : Int32))), (.int ((r_145.toInt32) + (1 : Int32))), (.int ((r_141.toInt32) + (1 : Int32))), (.int p5), (.int (Int32.ofNat cnt)), (.int (Int32.ofNat ia)), (.int (3 : Int32)), (.int ((own_fill (fun _ => p5) ia (own_R r_141 r_145 r_149) cnt) 3))])) tz → Steps p.tables e below (T170.setTop (mkF m 426 #[.val (.long q0), .second, .val (.long q1), .second, .val (.long q2), .second, .val (.long q3), .second, .val (.int p4), .val (.int p5), .val (.int (Int32.ofNat nb)), .val (.int (Int32.ofNat fr)), .val (.int (Int32.ofNat cnt)), .val (.int (Int32.ofNat ia)), .val (.int (Int32.ofNat at_)), .val (.ref b3), .val (.ref b37), .val (.ref b88), .val (.int ((8 : Int32) * (Int32.ofNat at_))), .val (.int ((r_141.toInt32) + (1 : Int32))), .val (.int ((r_145.toInt32) + (1 : Int32))), .val (.int ((r_149.toInt32) + (1 : Int32)))] [(.int ((own_fill (fun _ => p5) ia (own_R r_141 r_145 r_149) cnt) 3))])) tz := by
    intro tz kz
    refine XS.iconst X170.here hx rfl (hb hby at_426) ?_
    show Steps p.tables e below (T170.setTop (mkF m 427 #[.val (.long q0), .second, .val (.long q1), .second, .val (.long q2), .second, .val (.long q3), .second, .val (.int p4), .val (.int p5), .val (.int (Int32.ofNat nb)), .val (.int (Int32.ofNat fr)), .val (.int (Int32.ofNat cnt)), .val (.int (Int32.ofNat ia)), .val (.int (Int32.ofNat at_)), .val (.ref b3), .val (.ref b37), .val (.ref b88), .val (.int ((8 : Int32) * (Int32.ofNat at_))), .val (.int ((r_141.toInt32) + (1 : Int32))), .val (.int ((r_145.toInt32) + (1 : Int32))), .val (.int ((r_149.toInt32) + (1 : Int32)))] [(.int (3 : Int32)), (.int ((own_fill (fun _ => p5) ia (own_R r_141 r_145 r_149) cnt) 3))])) _
    refine XS.iload X170.here hx rfl (hb hby at_427) rfl ?_
    show Steps p.tables e below (T170.setTop (mkF m 429 #[.val (.long q0), .second, .val (.long q1), .second, .val (.long q2), .second, .val (.long q3), .second, .val (.int p4), .val (.int p5), .val (.int (Int32.ofNat nb)), .val (.int (Int32.ofNat fr)), .val (.int (Int32.ofNat cnt)), .val (.int (Int32.ofNat ia)), .val (.int (Int32.ofNat at_)), .val (.ref b3), .val (.ref b37), .val (.ref b88), .val (.int ((8 : Int32) * (Int32.ofNat at_))), .val (.int ((r_141.toInt32) + (1 : Int32))), .val (.int ((r_145.toInt32) + (1 : Int32))), .val (.int ((r_149.toInt32) + (1 : Int32)))] [(.int (Int32.ofNat ia)), (.int (3 : Int32)), (.int ((own_fill (fun _ => p5) ia (own_R r_141 r_145 r_149) cnt) 3))])) _
    refine XS.iload X170.here hx rfl (hb hby at_429) rfl ?_
    show Steps p.tables e below (T170.setTop (mkF m 431 #[.val (.long q0), .second, .val (.long q1), .second, .val (.long q2), .second, .val (.long q3), .second, .val (.int p4), .val (.int p5), .val (.int (Int32.ofNat nb)), .val (.int (Int32.ofNat fr)), .val (.int (Int32.ofNat cnt)), .val (.int (Int32.ofNat ia)), .val (.int (Int32.ofNat at_)), .val (.ref b3), .val (.ref b37), .val (.ref b88), .val (.int ((8 : Int32) * (Int32.ofNat at_))), .val (.int ((r_141.toInt32) + (1 : Int32))), .val (.int ((r_145.toInt32) + (1 : Int32))), .val (.int ((r_149.toInt32) + (1 : Int32)))] [(.int (Int32.ofNat cnt)), (.int (Int32.ofNat ia)), (.int (3 : Int32)), (.int ((own_fill (fun _ => p5) ia (own_R r_141 r_145 r_149) cnt) 3))])) _
    refine XS.iload X170.here hx rfl (hb hby at_431) rfl ?_
    show Steps p.tables e below (T170.setTop (mkF m 433 #[.val (.long q0), .second, .val (.long q1), .second, .val (.long q2), .second, .val (.long q3), .second, .val (.int p4), .val (.int p5), .val (.int (Int32.ofNat nb)), .val (.int (Int32.ofNat fr)), .val (.int (Int32.ofNat cnt)), .val (.int (Int32.ofNat ia)), .val (.int (Int32.ofNat at_)), .val (.ref b3), .val (.ref b37), .val (.ref b88), .val (.int ((8 : Int32) * (Int32.ofNat at_))), .val (.int ((r_141.toInt32) + (1 : Int32))), .val (.int ((r_145.toInt32) + (1 : Int32))), .val (.int ((r_149.toInt32) + (1 : Int32)))] [(.int p5), (.int (Int32.ofNat cnt)), (.int (Int32.ofNat ia)), (.int (3 : Int32)), (.int ((own_fill (fun _ => p5) ia (own_R r_141 r_145 r_149) cnt) 3))])) _
    refine XS.iload X170.here hx rfl (hb hby at_433) rfl ?_
    show Steps p.tables e below (T170.setTop (mkF m 435 #[.val (.long q0), .second, .val (.long q1), .second, .val (.long q2), .second, .val (.long q3), .second, .val (.int p4), .val (.int p5), .val (.int (Int32.ofNat nb)), .val (.int (Int32.ofNat fr)), .val (.int (Int32.ofNat cnt)), .val (.int (Int32.ofNat ia)), .val (.int (Int32.ofNat at_)), .val (.ref b3), .val (.ref b37), .val (.ref b88), .val (.int ((8 : Int32) * (Int32.ofNat at_))), .val (.int ((r_141.toInt32) + (1 : Int32))), .val (.int ((r_145.toInt32) + (1 : Int32))), .val (.int ((r_149.toInt32) + (1 : Int32)))] [(.int ((r_141.toInt32) + (1 : Int32))), (.int p5), (.int (Int32.ofNat cnt)), (.int (Int32.ofNat ia)), (.int (3 : Int32)), (.int ((own_fill (fun _ => p5) ia (own_R r_141 r_145 r_149) cnt) 3))])) _
    refine XS.iload X170.here hx rfl (hb hby at_435) rfl ?_
    show Steps p.tables e below (T170.setTop (mkF m 437 #[.val (.long q0), .second, .val (.long q1), .second, .val (.long q2), .second, .val (.long q3), .second, .val (.int p4), .val (.int p5), .val (.int (Int32.ofNat nb)), .val (.int (Int32.ofNat fr)), .val (.int (Int32.ofNat cnt)), .val (.int (Int32.ofNat ia)), .val (.int (Int32.ofNat at_)), .val (.ref b3), .val (.ref b37), .val (.ref b88), .val (.int ((8 : Int32) * (Int32.ofNat at_))), .val (.int ((r_141.toInt32) + (1 : Int32))), .val (.int ((r_145.toInt32) + (1 : Int32))), .val (.int ((r_149.toInt32) + (1 : Int32)))] [(.int ((r_145.toInt32) + (1 : Int32))), (.int ((r_141.toInt32) + (1 : Int32))), (.int p5), (.int (Int32.ofNat cnt)), (.int (Int32.ofNat ia)), (.int (3 : Int32)), (.int ((own_fill (fun _ => p5) ia (own_R r_141 r_145 r_149) cnt) 3))])) _
    refine XS.iload X170.here hx rfl (hb hby at_437) rfl ?_
    exact kz
  refine OG.step s174 ?_
  obtain ⟨_, _, ⟨T175, L175, k175, n175⟩, -, X175, ⟨Lc175, hQ175, l175, y175, z175⟩, st175⟩ := Jvm.LawKit.callS X170 hx (y := (⟨"com/example/strata/strata/PostingsUnpackTimesPinLaw", "expected", "(IIIIIII)I"⟩ : MethodName)) hown (mvT hZ (hw _ (List.mem_of_getElem? (i := 15) rfl))) (mvT hZ (hw _ (List.mem_of_getElem? (i := 16) rfl))) (mvT hZ (hw _ (List.mem_of_getElem? (i := 5) rfl))) (mvT hZ (hw _ (List.mem_of_getElem? (i := 17) rfl))) (by decide) (backOf (W := 1) (rm4 l Z a0 hw [] (3 : Int32) (Int32.ofNat ia) (Int32.ofNat cnt) p5 ((r_141.toInt32) + (1 : Int32)) ((r_145.toInt32) + (1 : Int32)) ((r_149.toInt32) + (1 : Int32)) T152.heap n0 (Nat.le_trans Z0 K152.1)) hZ (hw _ (List.mem_of_getElem? (i := 17) rfl)) (hw _ (List.mem_of_getElem? (i := 5) rfl)) (by decide) (by decide)) (g := (mkF m 439 #[.val (.long q0), .second, .val (.long q1), .second, .val (.long q2), .second, .val (.long q3), .second, .val (.int p4), .val (.int p5), .val (.int (Int32.ofNat nb)), .val (.int (Int32.ofNat fr)), .val (.int (Int32.ofNat cnt)), .val (.int (Int32.ofNat ia)), .val (.int (Int32.ofNat at_)), .val (.ref b3), .val (.ref b37), .val (.ref b88), .val (.int ((8 : Int32) * (Int32.ofNat at_))), .val (.int ((r_141.toInt32) + (1 : Int32))), .val (.int ((r_145.toInt32) + (1 : Int32))), .val (.int ((r_149.toInt32) + (1 : Int32)))] [(.int ((r_149.toInt32) + (1 : Int32))), (.int ((r_145.toInt32) + (1 : Int32))), (.int ((r_141.toInt32) + (1 : Int32))), (.int p5), (.int (Int32.ofNat cnt)), (.int (Int32.ofNat ia)), (.int (3 : Int32)), (.int ((own_fill (fun _ => p5) ia (own_R r_141 r_145 r_149) cnt) 3))])) rfl (by rw [hml]; rfl) (argsL := [(.int (3 : Int32)), (.int (Int32.ofNat ia)), (.int (Int32.ofNat cnt)), (.int p5), (.int ((r_141.toInt32) + (1 : Int32))), (.int ((r_145.toInt32) + (1 : Int32))), (.int ((r_149.toInt32) + (1 : Int32)))]) (rest := [(.int ((own_fill (fun _ => p5) ia (own_R r_141 r_145 r_149) cnt) 3))]) (lenOf pd__IIIIIII_I rfl) rfl (by show 2 * 0 + _ ≤ _; exact Nat.le_of_eq rfl) (hb hby at_439) (fun _ _ => ⟨rfl, e170, (by decide : 3 + 0 ≤ _), (by decide : 80 + 0 ≤ _)⟩)
  dsimp only [Pt.U, Pt.locs, Pt.cells, Pt.slots] at X175 l175 y175 z175 st175 hQ175
  subst l175 y175 z175
  obtain ⟨rfl, N175q, e175⟩ := hQ175
  have N175 := Fr.app N170 N175q
  refine OG.step st175 ?_
  obtain ⟨Lz176, X175, N175⟩ : ∃ Lz, Stand p l e room_1 s m #[(.long q0), (.long q1), (.long q2), (.long q3), (.int p4), (.int p5)] below meth c T175 Lz 3 80 ∧ Fr n0 Lz := ⟨_, X175, N175⟩
  show OG _ _ _ _ _ _ _ (T175.setTop (mkF m 442 #[.val (.long q0), .second, .val (.long q1), .second, .val (.long q2), .second, .val (.long q3), .second, .val (.int p4), .val (.int p5), .val (.int (Int32.ofNat nb)), .val (.int (Int32.ofNat fr)), .val (.int (Int32.ofNat cnt)), .val (.int (Int32.ofNat ia)), .val (.int (Int32.ofNat at_)), .val (.ref b3), .val (.ref b37), .val (.ref b88), .val (.int ((8 : Int32) * (Int32.ofNat at_))), .val (.int ((r_141.toInt32) + (1 : Int32))), .val (.int ((r_145.toInt32) + (1 : Int32))), .val (.int ((r_149.toInt32) + (1 : Int32)))] [(.int (own_exp (3 : Int32) (Int32.ofNat ia) (Int32.ofNat cnt) p5 ((r_141.toInt32) + (1 : Int32)) ((r_145.toInt32) + (1 : Int32)) ((r_149.toInt32) + (1 : Int32)))), (.int ((own_fill (fun _ => p5) ia (own_R r_141 r_145 r_149) cnt) 3))]))
  have s177 : ∀ tz, Steps p.tables e below (T175.setTop (mkF m 448 #[.val (.long q0), .second, .val (.long q1), .second, .val (.long q2), .second, .val (.long q3), .second, .val (.int p4), .val (.int p5), .val (.int (Int32.ofNat nb)), .val (.int (Int32.ofNat fr)), .val (.int (Int32.ofNat cnt)), .val (.int (Int32.ofNat ia)), .val (.int (Int32.ofNat at_)), .val (.ref b3), .val (.ref b37), .val (.ref b88), .val (.int ((8 : Int32) * (Int32.ofNat at_))), .val (.int ((r_141.toInt32) + (1 : Int32))), .val (.int ((r_145.toInt32) + (1 : Int32))), .val (.int ((r_149.toInt32) + (1 : Int32)))] [(.int (4 : Int32)), (.ref b88)])) tz → Steps p.tables e below (T175.setTop (mkF m 442 #[.val (.long q0), .second, .val (.long q1), .second, .val (.long q2), .second, .val (.long q3), .second, .val (.int p4), .val (.int p5), .val (.int (Int32.ofNat nb)), .val (.int (Int32.ofNat fr)), .val (.int (Int32.ofNat cnt)), .val (.int (Int32.ofNat ia)), .val (.int (Int32.ofNat at_)), .val (.ref b3), .val (.ref b37), .val (.ref b88), .val (.int ((8 : Int32) * (Int32.ofNat at_))), .val (.int ((r_141.toInt32) + (1 : Int32))), .val (.int ((r_145.toInt32) + (1 : Int32))), .val (.int ((r_149.toInt32) + (1 : Int32)))] [(.int (own_exp (3 : Int32) (Int32.ofNat ia) (Int32.ofNat cnt) p5 ((r_141.toInt32) + (1 : Int32)) ((r_145.toInt32) + (1 : Int32)) ((r_149.toInt32) + (1 : Int32)))), (.int ((own_fill (fun _ => p5) ia (own_R r_141 r_145 r_149) cnt) 3))])) tz := by
    intro tz kz
    refine XS.icmpNo X175.here hx rfl (hb hby at_442) rfl (teq (own_fin hcnt hia 3 (by decide))).2 ?_
    show Steps p.tables e below (T175.setTop (mkF m 445 #[.val (.long q0), .second, .val (.long q1), .second, .val (.long q2), .second, .val (.long q3), .second, .val (.int p4), .val (.int p5), .val (.int (Int32.ofNat nb)), .val (.int (Int32.ofNat fr)), .val (.int (Int32.ofNat cnt)), .val (.int (Int32.ofNat ia)), .val (.int (Int32.ofNat at_)), .val (.ref b3), .val (.ref b37), .val (.ref b88), .val (.int ((8 : Int32) * (Int32.ofNat at_))), .val (.int ((r_141.toInt32) + (1 : Int32))), .val (.int ((r_145.toInt32) + (1 : Int32))), .val (.int ((r_149.toInt32) + (1 : Int32)))] [])) _
    refine XS.aload X175.here hx rfl (hb hby at_445) rfl rfl ?_
    show Steps p.tables e below (T175.setTop (mkF m 447 #[.val (.long q0), .second, .val (.long q1), .second, .val (.long q2), .second, .val (.long q3), .second, .val (.int p4), .val (.int p5), .val (.int (Int32.ofNat nb)), .val (.int (Int32.ofNat fr)), .val (.int (Int32.ofNat cnt)), .val (.int (Int32.ofNat ia)), .val (.int (Int32.ofNat at_)), .val (.ref b3), .val (.ref b37), .val (.ref b88), .val (.int ((8 : Int32) * (Int32.ofNat at_))), .val (.int ((r_141.toInt32) + (1 : Int32))), .val (.int ((r_145.toInt32) + (1 : Int32))), .val (.int ((r_149.toInt32) + (1 : Int32)))] [(.ref b88)])) _
    refine XS.iconst X175.here hx rfl (hb hby at_447) ?_
    exact kz
  refine OG.step s177 ?_
  have av178 := p152_0
  obtain ⟨cl178, Ar178, qa_178, Sa_178, Nn_178, Ha_178, Ga_178⟩ := av178
  have hin178 : ¬ ((4 : Int32) < 0 ∨ cl178.slots.size ≤ ((4 : Int32)).toNatClampNeg) := inb_of Sa_178 ⟨(by decide), (by decide)⟩
  have hat178 : cl178.slots[((4 : Int32)).toNatClampNeg]? = some (.int ((own_fill (fun _ => p5) ia (own_R r_141 r_145 r_149) cnt) 4)) := Ha_178.at hin178 (own_iget (own_fill (fun _ => p5) ia (own_R r_141 r_145 r_149) cnt) (x := 4) (by decide) (by decide))
  refine OG.step (X175.iaload hx (j := (4 : Int32)) (v := (.int ((own_fill (fun _ => p5) ia (own_R r_141 r_145 r_149) cnt) 4))) (by rw [e175]; exact Ar178.1) (State.isArrayOf_alike hZ.alike Ar178.2.1) Ar178.2.2 hin178 hat178 (g := (mkF m 448 #[.val (.long q0), .second, .val (.long q1), .second, .val (.long q2), .second, .val (.long q3), .second, .val (.int p4), .val (.int p5), .val (.int (Int32.ofNat nb)), .val (.int (Int32.ofNat fr)), .val (.int (Int32.ofNat cnt)), .val (.int (Int32.ofNat ia)), .val (.int (Int32.ofNat at_)), .val (.ref b3), .val (.ref b37), .val (.ref b88), .val (.int ((8 : Int32) * (Int32.ofNat at_))), .val (.int ((r_141.toInt32) + (1 : Int32))), .val (.int ((r_145.toInt32) + (1 : Int32))), .val (.int ((r_149.toInt32) + (1 : Int32)))] [(.int (4 : Int32)), (.ref b88)])) rfl rfl (hb hby at_448)) ?_
  show OG _ _ _ _ _ _ _ (T175.setTop (mkF m 449 #[.val (.long q0), .second, .val (.long q1), .second, .val (.long q2), .second, .val (.long q3), .second, .val (.int p4), .val (.int p5), .val (.int (Int32.ofNat nb)), .val (.int (Int32.ofNat fr)), .val (.int (Int32.ofNat cnt)), .val (.int (Int32.ofNat ia)), .val (.int (Int32.ofNat at_)), .val (.ref b3), .val (.ref b37), .val (.ref b88), .val (.int ((8 : Int32) * (Int32.ofNat at_))), .val (.int ((r_141.toInt32) + (1 : Int32))), .val (.int ((r_145.toInt32) + (1 : Int32))), .val (.int ((r_149.toInt32) + (1 : Int32)))] [(.int ((own_fill (fun _ => p5) ia (own_R r_141 r_145 r_149) cnt) 4))]))
  have s179 : ∀ tz, Steps p.tables e below (T175.setTop (mkF m 462 #[.val (.long q0), .second, .val (.long q1), .second, .val (.long q2), .second, .val (.long q3), .second, .val (.int p4), .val (.int p5), .val (.int (Int32.ofNat nb)), .val (.int (Int32.ofNat fr)), .val (.int (Int32.ofNat cnt)), .val (.int (Int32.ofNat ia)), .val (.int (Int32.ofNat at_)), .val (.ref b3), .val (.ref b37), .val (.ref b88), .val (.int ((8 : Int32) * (Int32.ofNat at_))), .val (.int ((r_141.toInt32) + (1 : Int32))), .val (.int ((r_145.toInt32) + (1 : Int32))), .val (.int ((r_149.toInt32) + (1 : Int32)))] [(.int ((r_149.toInt32) + (1 : Int32))), (.int ((r_145.toInt32) + (1 : Int32))), (.int ((r_141.toInt32) + (1 : Int32))), (.int p5), (.int (Int32.ofNat cnt)), (.int (Int32.ofNat ia)), (.int (4 : Int32)), (.int ((own_fill (fun _ => p5) ia (own_R r_141 r_145 r_149) cnt) 4))])) tz → Steps p.tables e below (T175.setTop (mkF m 449 #[.val (.long q0), .second, .val (.long q1), .second, .val (.long q2), .second, .val (.long q3), .second, .val (.int p4), .val (.int p5), .val (.int (Int32.ofNat nb)), .val (.int (Int32.ofNat fr)), .val (.int (Int32.ofNat cnt)), .val (.int (Int32.ofNat ia)), .val (.int (Int32.ofNat at_)), .val (.ref b3), .val (.ref b37), .val (.ref b88), .val (.int ((8 : Int32) * (Int32.ofNat at_))), .val (.int ((r_141.toInt32) + (1 : Int32))), .val (.int ((r_145.toInt32) + (1 : Int32))), .val (.int ((r_149.toInt32) + (1 : Int32)))] [(.int ((own_fill (fun _ => p5) ia (own_R r_141 r_145 r_149) cnt) 4))])) tz := by
    intro tz kz
    refine XS.iconst X175.here hx rfl (hb hby at_449) ?_
    show Steps p.tables e below (T175.setTop (mkF m 450 #[.val (.long q0), .second, .val (.long q1), .second, .val (.long q2), .second, .val (.long q3), .second, .val (.int p4), .val (.int p5), .val (.int (Int32.ofNat nb)), .val (.int (Int32.ofNat fr)), .val (.int (Int32.ofNat cnt)), .val (.int (Int32.ofNat ia)), .val (.int (Int32.ofNat at_)), .val (.ref b3), .val (.ref b37), .val (.ref b88), .val (.int ((8 : Int32) * (Int32.ofNat at_))), .val (.int ((r_141.toInt32) + (1 : Int32))), .val (.int ((r_145.toInt32) + (1 : Int32))), .val (.int ((r_149.toInt32) + (1 : Int32)))] [(.int (4 : Int32)), (.int ((own_fill (fun _ => p5) ia (own_R r_141 r_145 r_149) cnt) 4))])) _
    refine XS.iload X175.here hx rfl (hb hby at_450) rfl ?_
    show Steps p.tables e below (T175.setTop (mkF m 452 #[.val (.long q0), .second, .val (.long q1), .second, .val (.long q2), .second, .val (.long q3), .second, .val (.int p4), .val (.int p5), .val (.int (Int32.ofNat nb)), .val (.int (Int32.ofNat fr)), .val (.int (Int32.ofNat cnt)), .val (.int (Int32.ofNat ia)), .val (.int (Int32.ofNat at_)), .val (.ref b3), .val (.ref b37), .val (.ref b88), .val (.int ((8 : Int32) * (Int32.ofNat at_))), .val (.int ((r_141.toInt32) + (1 : Int32))), .val (.int ((r_145.toInt32) + (1 : Int32))), .val (.int ((r_149.toInt32) + (1 : Int32)))] [(.int (Int32.ofNat ia)), (.int (4 : Int32)), (.int ((own_fill (fun _ => p5) ia (own_R r_141 r_145 r_149) cnt) 4))])) _
    refine XS.iload X175.here hx rfl (hb hby at_452) rfl ?_
    show Steps p.tables e below (T175.setTop (mkF m 454 #[.val (.long q0), .second, .val (.long q1), .second, .val (.long q2), .second, .val (.long q3), .second, .val (.int p4), .val (.int p5), .val (.int (Int32.ofNat nb)), .val (.int (Int32.ofNat fr)), .val (.int (Int32.ofNat cnt)), .val (.int (Int32.ofNat ia)), .val (.int (Int32.ofNat at_)), .val (.ref b3), .val (.ref b37), .val (.ref b88), .val (.int ((8 : Int32) * (Int32.ofNat at_))), .val (.int ((r_141.toInt32) + (1 : Int32))), .val (.int ((r_145.toInt32) + (1 : Int32))), .val (.int ((r_149.toInt32) + (1 : Int32)))] [(.int (Int32.ofNat cnt)), (.int (Int32.ofNat ia)), (.int (4 : Int32)), (.int ((own_fill (fun _ => p5) ia (own_R r_141 r_145 r_149) cnt) 4))])) _
    refine XS.iload X175.here hx rfl (hb hby at_454) rfl ?_
    show Steps p.tables e below (T175.setTop (mkF m 456 #[.val (.long q0), .second, .val (.long q1), .second, .val (.long q2), .second, .val (.long q3), .second, .val (.int p4), .val (.int p5), .val (.int (Int32.ofNat nb)), .val (.int (Int32.ofNat fr)), .val (.int (Int32.ofNat cnt)), .val (.int (Int32.ofNat ia)), .val (.int (Int32.ofNat at_)), .val (.ref b3), .val (.ref b37), .val (.ref b88), .val (.int ((8 : Int32) * (Int32.ofNat at_))), .val (.int ((r_141.toInt32) + (1 : Int32))), .val (.int ((r_145.toInt32) + (1 : Int32))), .val (.int ((r_149.toInt32) + (1 : Int32)))] [(.int p5), (.int (Int32.ofNat cnt)), (.int (Int32.ofNat ia)), (.int (4 : Int32)), (.int ((own_fill (fun _ => p5) ia (own_R r_141 r_145 r_149) cnt) 4))])) _
    refine XS.iload X175.here hx rfl (hb hby at_456) rfl ?_
    show Steps p.tables e below (T175.setTop (mkF m 458 #[.val (.long q0), .second, .val (.long q1), .second, .val (.long q2), .second, .val (.long q3), .second, .val (.int p4), .val (.int p5), .val (.int (Int32.ofNat nb)), .val (.int (Int32.ofNat fr)), .val (.int (Int32.ofNat cnt)), .val (.int (Int32.ofNat ia)), .val (.int (Int32.ofNat at_)), .val (.ref b3), .val (.ref b37), .val (.ref b88), .val (.int ((8 : Int32) * (Int32.ofNat at_))), .val (.int ((r_141.toInt32) + (1 : Int32))), .val (.int ((r_145.toInt32) + (1 : Int32))), .val (.int ((r_149.toInt32) + (1 : Int32)))] [(.int ((r_141.toInt32) + (1 : Int32))), (.int p5), (.int (Int32.ofNat cnt)), (.int (Int32.ofNat ia)), (.int (4 : Int32)), (.int ((own_fill (fun _ => p5) ia (own_R r_141 r_145 r_149) cnt) 4))])) _
    refine XS.iload X175.here hx rfl (hb hby at_458) rfl ?_
    show Steps p.tables e below (T175.setTop (mkF m 460 #[.val (.long q0), .second, .val (.long q1), .second, .val (.long q2), .second, .val (.long q3), .second, .val (.int p4), .val (.int p5), .val (.int (Int32.ofNat nb)), .val (.int (Int32.ofNat fr)), .val (.int (Int32.ofNat cnt)), .val (.int (Int32.ofNat ia)), .val (.int (Int32.ofNat at_)), .val (.ref b3), .val (.ref b37), .val (.ref b88), .val (.int ((8 : Int32) * (Int32.ofNat at_))), .val (.int ((r_141.toInt32) + (1 : Int32))), .val (.int ((r_145.toInt32) + (1 : Int32))), .val (.int ((r_149.toInt32) + (1 : Int32)))] [(.int ((r_145.toInt32) + (1 : Int32))), (.int ((r_141.toInt32) + (1 : Int32))), (.int p5), (.int (Int32.ofNat cnt)), (.int (Int32.ofNat ia)), (.int (4 : Int32)), (.int ((own_fill (fun _ => p5) ia (own_R r_141 r_145 r_149) cnt) 4))])) _
    refine XS.iload X175.here hx rfl (hb hby at_460) rfl ?_
    exact kz
  refine OG.step s179 ?_
  obtain ⟨_, _, ⟨T180, L180, k180, n180⟩, -, X180, ⟨Lc180, hQ180, l180, y180, z180⟩, st180⟩ := Jvm.LawKit.callS X175 hx (y := (⟨"com/example/strata/strata/PostingsUnpackTimesPinLaw", "expected", "(IIIIIII)I"⟩ : MethodName)) hown (mvT hZ (hw _ (List.mem_of_getElem? (i := 15) rfl))) (mvT hZ (hw _ (List.mem_of_getElem? (i := 16) rfl))) (mvT hZ (hw _ (List.mem_of_getElem? (i := 5) rfl))) (mvT hZ (hw _ (List.mem_of_getElem? (i := 17) rfl))) (by decide) (backOf (W := 1) (rm4 l Z a0 hw [] (4 : Int32) (Int32.ofNat ia) (Int32.ofNat cnt) p5 ((r_141.toInt32) + (1 : Int32)) ((r_145.toInt32) + (1 : Int32)) ((r_149.toInt32) + (1 : Int32)) T152.heap n0 (Nat.le_trans Z0 K152.1)) hZ (hw _ (List.mem_of_getElem? (i := 17) rfl)) (hw _ (List.mem_of_getElem? (i := 5) rfl)) (by decide) (by decide)) (g := (mkF m 462 #[.val (.long q0), .second, .val (.long q1), .second, .val (.long q2), .second, .val (.long q3), .second, .val (.int p4), .val (.int p5), .val (.int (Int32.ofNat nb)), .val (.int (Int32.ofNat fr)), .val (.int (Int32.ofNat cnt)), .val (.int (Int32.ofNat ia)), .val (.int (Int32.ofNat at_)), .val (.ref b3), .val (.ref b37), .val (.ref b88), .val (.int ((8 : Int32) * (Int32.ofNat at_))), .val (.int ((r_141.toInt32) + (1 : Int32))), .val (.int ((r_145.toInt32) + (1 : Int32))), .val (.int ((r_149.toInt32) + (1 : Int32)))] [(.int ((r_149.toInt32) + (1 : Int32))), (.int ((r_145.toInt32) + (1 : Int32))), (.int ((r_141.toInt32) + (1 : Int32))), (.int p5), (.int (Int32.ofNat cnt)), (.int (Int32.ofNat ia)), (.int (4 : Int32)), (.int ((own_fill (fun _ => p5) ia (own_R r_141 r_145 r_149) cnt) 4))])) rfl (by rw [hml]; rfl) (argsL := [(.int (4 : Int32)), (.int (Int32.ofNat ia)), (.int (Int32.ofNat cnt)), (.int p5), (.int ((r_141.toInt32) + (1 : Int32))), (.int ((r_145.toInt32) + (1 : Int32))), (.int ((r_149.toInt32) + (1 : Int32)))]) (rest := [(.int ((own_fill (fun _ => p5) ia (own_R r_141 r_145 r_149) cnt) 4))]) (lenOf pd__IIIIIII_I rfl) rfl (by show 2 * 0 + _ ≤ _; exact Nat.le_of_eq rfl) (hb hby at_462) (fun _ _ => ⟨rfl, e175, (by decide : 3 + 0 ≤ _), (by decide : 80 + 0 ≤ _)⟩)
  dsimp only [Pt.U, Pt.locs, Pt.cells, Pt.slots] at X180 l180 y180 z180 st180 hQ180
  subst l180 y180 z180
  obtain ⟨rfl, N180q, e180⟩ := hQ180
  have N180 := Fr.app N175 N180q
  refine OG.step st180 ?_
  obtain ⟨Lz181, X180, N180⟩ : ∃ Lz, Stand p l e room_1 s m #[(.long q0), (.long q1), (.long q2), (.long q3), (.int p4), (.int p5)] below meth c T180 Lz 3 80 ∧ Fr n0 Lz := ⟨_, X180, N180⟩
  show OG _ _ _ _ _ _ _ (T180.setTop (mkF m 465 #[.val (.long q0), .second, .val (.long q1), .second, .val (.long q2), .second, .val (.long q3), .second, .val (.int p4), .val (.int p5), .val (.int (Int32.ofNat nb)), .val (.int (Int32.ofNat fr)), .val (.int (Int32.ofNat cnt)), .val (.int (Int32.ofNat ia)), .val (.int (Int32.ofNat at_)), .val (.ref b3), .val (.ref b37), .val (.ref b88), .val (.int ((8 : Int32) * (Int32.ofNat at_))), .val (.int ((r_141.toInt32) + (1 : Int32))), .val (.int ((r_145.toInt32) + (1 : Int32))), .val (.int ((r_149.toInt32) + (1 : Int32)))] [(.int (own_exp (4 : Int32) (Int32.ofNat ia) (Int32.ofNat cnt) p5 ((r_141.toInt32) + (1 : Int32)) ((r_145.toInt32) + (1 : Int32)) ((r_149.toInt32) + (1 : Int32)))), (.int ((own_fill (fun _ => p5) ia (own_R r_141 r_145 r_149) cnt) 4))]))
  have s182 : ∀ tz, Steps p.tables e below (T180.setTop (mkF m 471 #[.val (.long q0), .second, .val (.long q1), .second, .val (.long q2), .second, .val (.long q3), .second, .val (.int p4), .val (.int p5), .val (.int (Int32.ofNat nb)), .val (.int (Int32.ofNat fr)), .val (.int (Int32.ofNat cnt)), .val (.int (Int32.ofNat ia)), .val (.int (Int32.ofNat at_)), .val (.ref b3), .val (.ref b37), .val (.ref b88), .val (.int ((8 : Int32) * (Int32.ofNat at_))), .val (.int ((r_141.toInt32) + (1 : Int32))), .val (.int ((r_145.toInt32) + (1 : Int32))), .val (.int ((r_149.toInt32) + (1 : Int32)))] [(.int (5 : Int32)), (.ref b88)])) tz → Steps p.tables e below (T180.setTop (mkF m 465 #[.val (.long q0), .second, .val (.long q1), .second, .val (.long q2), .second, .val (.long q3), .second, .val (.int p4), .val (.int p5), .val (.int (Int32.ofNat nb)), .val (.int (Int32.ofNat fr)), .val (.int (Int32.ofNat cnt)), .val (.int (Int32.ofNat ia)), .val (.int (Int32.ofNat at_)), .val (.ref b3), .val (.ref b37), .val (.ref b88), .val (.int ((8 : Int32) * (Int32.ofNat at_))), .val (.int ((r_141.toInt32) + (1 : Int32))), .val (.int ((r_145.toInt32) + (1 : Int32))), .val (.int ((r_149.toInt32) + (1 : Int32)))] [(.int (own_exp (4 : Int32) (Int32.ofNat ia) (Int32.ofNat cnt) p5 ((r_141.toInt32) + (1 : Int32)) ((r_145.toInt32) + (1 : Int32)) ((r_149.toInt32) + (1 : Int32)))), (.int ((own_fill (fun _ => p5) ia (own_R r_141 r_145 r_149) cnt) 4))])) tz := by
    intro tz kz
    refine XS.icmpNo X180.here hx rfl (hb hby at_465) rfl (teq (own_fin hcnt hia 4 (by decide))).2 ?_
    show Steps p.tables e below (T180.setTop (mkF m 468 #[.val (.long q0), .second, .val (.long q1), .second, .val (.long q2), .second, .val (.long q3), .second, .val (.int p4), .val (.int p5), .val (.int (Int32.ofNat nb)), .val (.int (Int32.ofNat fr)), .val (.int (Int32.ofNat cnt)), .val (.int (Int32.ofNat ia)), .val (.int (Int32.ofNat at_)), .val (.ref b3), .val (.ref b37), .val (.ref b88), .val (.int ((8 : Int32) * (Int32.ofNat at_))), .val (.int ((r_141.toInt32) + (1 : Int32))), .val (.int ((r_145.toInt32) + (1 : Int32))), .val (.int ((r_149.toInt32) + (1 : Int32)))] [])) _
    refine XS.aload X180.here hx rfl (hb hby at_468) rfl rfl ?_
    show Steps p.tables e below (T180.setTop (mkF m 470 #[.val (.long q0), .second, .val (.long q1), .second, .val (.long q2), .second, .val (.long q3), .second, .val (.int p4), .val (.int p5), .val (.int (Int32.ofNat nb)), .val (.int (Int32.ofNat fr)), .val (.int (Int32.ofNat cnt)), .val (.int (Int32.ofNat ia)), .val (.int (Int32.ofNat at_)), .val (.ref b3), .val (.ref b37), .val (.ref b88), .val (.int ((8 : Int32) * (Int32.ofNat at_))), .val (.int ((r_141.toInt32) + (1 : Int32))), .val (.int ((r_145.toInt32) + (1 : Int32))), .val (.int ((r_149.toInt32) + (1 : Int32)))] [(.ref b88)])) _
    refine XS.iconst X180.here hx rfl (hb hby at_470) ?_
    exact kz
  refine OG.step s182 ?_
  have av183 := p152_0
  obtain ⟨cl183, Ar183, qa_183, Sa_183, Nn_183, Ha_183, Ga_183⟩ := av183
  have hin183 : ¬ ((5 : Int32) < 0 ∨ cl183.slots.size ≤ ((5 : Int32)).toNatClampNeg) := inb_of Sa_183 ⟨(by decide), (by decide)⟩
  have hat183 : cl183.slots[((5 : Int32)).toNatClampNeg]? = some (.int ((own_fill (fun _ => p5) ia (own_R r_141 r_145 r_149) cnt) 5)) := Ha_183.at hin183 (own_iget (own_fill (fun _ => p5) ia (own_R r_141 r_145 r_149) cnt) (x := 5) (by decide) (by decide))
  refine OG.step (X180.iaload hx (j := (5 : Int32)) (v := (.int ((own_fill (fun _ => p5) ia (own_R r_141 r_145 r_149) cnt) 5))) (by rw [e180]; exact Ar183.1) (State.isArrayOf_alike hZ.alike Ar183.2.1) Ar183.2.2 hin183 hat183 (g := (mkF m 471 #[.val (.long q0), .second, .val (.long q1), .second, .val (.long q2), .second, .val (.long q3), .second, .val (.int p4), .val (.int p5), .val (.int (Int32.ofNat nb)), .val (.int (Int32.ofNat fr)), .val (.int (Int32.ofNat cnt)), .val (.int (Int32.ofNat ia)), .val (.int (Int32.ofNat at_)), .val (.ref b3), .val (.ref b37), .val (.ref b88), .val (.int ((8 : Int32) * (Int32.ofNat at_))), .val (.int ((r_141.toInt32) + (1 : Int32))), .val (.int ((r_145.toInt32) + (1 : Int32))), .val (.int ((r_149.toInt32) + (1 : Int32)))] [(.int (5 : Int32)), (.ref b88)])) rfl rfl (hb hby at_471)) ?_
  show OG _ _ _ _ _ _ _ (T180.setTop (mkF m 472 #[.val (.long q0), .second, .val (.long q1), .second, .val (.long q2), .second, .val (.long q3), .second, .val (.int p4), .val (.int p5), .val (.int (Int32.ofNat nb)), .val (.int (Int32.ofNat fr)), .val (.int (Int32.ofNat cnt)), .val (.int (Int32.ofNat ia)), .val (.int (Int32.ofNat at_)), .val (.ref b3), .val (.ref b37), .val (.ref b88), .val (.int ((8 : Int32) * (Int32.ofNat at_))), .val (.int ((r_141.toInt32) + (1 : Int32))), .val (.int ((r_145.toInt32) + (1 : Int32))), .val (.int ((r_149.toInt32) + (1 : Int32)))] [(.int ((own_fill (fun _ => p5) ia (own_R r_141 r_145 r_149) cnt) 5))]))
  have s184 : ∀ tz, Steps p.tables e below (T180.setTop (mkF m 485 #[.val (.long q0), .second, .val (.long q1), .second, .val (.long q2), .second, .val (.long q3), .second, .val (.int p4), .val (.int p5), .val (.int (Int32.ofNat nb)), .val (.int (Int32.ofNat fr)), .val (.int (Int32.ofNat cnt)), .val (.int (Int32.ofNat ia)), .val (.int (Int32.ofNat at_)), .val (.ref b3), .val (.ref b37), .val (.ref b88), .val (.int ((8 : Int32) * (Int32.ofNat at_))), .val (.int ((r_141.toInt32) + (1 : Int32))), .val (.int ((r_145.toInt32) + (1 : Int32))), .val (.int ((r_149.toInt32) + (1 : Int32)))] [(.int ((r_149.toInt32) + (1 : Int32))), (.int ((r_145.toInt32) + (1 : Int32))), (.int ((r_141.toInt32) + (1 : Int32))), (.int p5), (.int (Int32.ofNat cnt)), (.int (Int32.ofNat ia)), (.int (5 : Int32)), (.int ((own_fill (fun _ => p5) ia (own_R r_141 r_145 r_149) cnt) 5))])) tz → Steps p.tables e below (T180.setTop (mkF m 472 #[.val (.long q0), .second, .val (.long q1), .second, .val (.long q2), .second, .val (.long q3), .second, .val (.int p4), .val (.int p5), .val (.int (Int32.ofNat nb)), .val (.int (Int32.ofNat fr)), .val (.int (Int32.ofNat cnt)), .val (.int (Int32.ofNat ia)), .val (.int (Int32.ofNat at_)), .val (.ref b3), .val (.ref b37), .val (.ref b88), .val (.int ((8 : Int32) * (Int32.ofNat at_))), .val (.int ((r_141.toInt32) + (1 : Int32))), .val (.int ((r_145.toInt32) + (1 : Int32))), .val (.int ((r_149.toInt32) + (1 : Int32)))] [(.int ((own_fill (fun _ => p5) ia (own_R r_141 r_145 r_149) cnt) 5))])) tz := by
    intro tz kz
    refine XS.iconst X180.here hx rfl (hb hby at_472) ?_
    show Steps p.tables e below (T180.setTop (mkF m 473 #[.val (.long q0), .second, .val (.long q1), .second, .val (.long q2), .second, .val (.long q3), .second, .val (.int p4), .val (.int p5), .val (.int (Int32.ofNat nb)), .val (.int (Int32.ofNat fr)), .val (.int (Int32.ofNat cnt)), .val (.int (Int32.ofNat ia)), .val (.int (Int32.ofNat at_)), .val (.ref b3), .val (.ref b37), .val (.ref b88), .val (.int ((8 : Int32) * (Int32.ofNat at_))), .val (.int ((r_141.toInt32) + (1 : Int32))), .val (.int ((r_145.toInt32) + (1 : Int32))), .val (.int ((r_149.toInt32) + (1 : Int32)))] [(.int (5 : Int32)), (.int ((own_fill (fun _ => p5) ia (own_R r_141 r_145 r_149) cnt) 5))])) _
    refine XS.iload X180.here hx rfl (hb hby at_473) rfl ?_
    show Steps p.tables e below (T180.setTop (mkF m 475 #[.val (.long q0), .second, .val (.long q1), .second, .val (.long q2), .second, .val (.long q3), .second, .val (.int p4), .val (.int p5), .val (.int (Int32.ofNat nb)), .val (.int (Int32.ofNat fr)), .val (.int (Int32.ofNat cnt)), .val (.int (Int32.ofNat ia)), .val (.int (Int32.ofNat at_)), .val (.ref b3), .val (.ref b37), .val (.ref b88), .val (.int ((8 : Int32) * (Int32.ofNat at_))), .val (.int ((r_141.toInt32) + (1 : Int32))), .val (.int ((r_145.toInt32) + (1 : Int32))), .val (.int ((r_149.toInt32) + (1 : Int32)))] [(.int (Int32.ofNat ia)), (.int (5 : Int32)), (.int ((own_fill (fun _ => p5) ia (own_R r_141 r_145 r_149) cnt) 5))])) _
    refine XS.iload X180.here hx rfl (hb hby at_475) rfl ?_
    show Steps p.tables e below (T180.setTop (mkF m 477 #[.val (.long q0), .second, .val (.long q1), .second, .val (.long q2), .second, .val (.long q3), .second, .val (.int p4), .val (.int p5), .val (.int (Int32.ofNat nb)), .val (.int (Int32.ofNat fr)), .val (.int (Int32.ofNat cnt)), .val (.int (Int32.ofNat ia)), .val (.int (Int32.ofNat at_)), .val (.ref b3), .val (.ref b37), .val (.ref b88), .val (.int ((8 : Int32) * (Int32.ofNat at_))), .val (.int ((r_141.toInt32) + (1 : Int32))), .val (.int ((r_145.toInt32) + (1 : Int32))), .val (.int ((r_149.toInt32) + (1 : Int32)))] [(.int (Int32.ofNat cnt)), (.int (Int32.ofNat ia)), (.int (5 : Int32)), (.int ((own_fill (fun _ => p5) ia (own_R r_141 r_145 r_149) cnt) 5))])) _
    refine XS.iload X180.here hx rfl (hb hby at_477) rfl ?_
    show Steps p.tables e below (T180.setTop (mkF m 479 #[.val (.long q0), .second, .val (.long q1), .second, .val (.long q2), .second, .val (.long q3), .second, .val (.int p4), .val (.int p5), .val (.int (Int32.ofNat nb)), .val (.int (Int32.ofNat fr)), .val (.int (Int32.ofNat cnt)), .val (.int (Int32.ofNat ia)), .val (.int (Int32.ofNat at_)), .val (.ref b3), .val (.ref b37), .val (.ref b88), .val (.int ((8 : Int32) * (Int32.ofNat at_))), .val (.int ((r_141.toInt32) + (1 : Int32))), .val (.int ((r_145.toInt32) + (1 : Int32))), .val (.int ((r_149.toInt32) + (1 : Int32)))] [(.int p5), (.int (Int32.ofNat cnt)), (.int (Int32.ofNat ia)), (.int (5 : Int32)), (.int ((own_fill (fun _ => p5) ia (own_R r_141 r_145 r_149) cnt) 5))])) _
    refine XS.iload X180.here hx rfl (hb hby at_479) rfl ?_
    show Steps p.tables e below (T180.setTop (mkF m 481 #[.val (.long q0), .second, .val (.long q1), .second, .val (.long q2), .second, .val (.long q3), .second, .val (.int p4), .val (.int p5), .val (.int (Int32.ofNat nb)), .val (.int (Int32.ofNat fr)), .val (.int (Int32.ofNat cnt)), .val (.int (Int32.ofNat ia)), .val (.int (Int32.ofNat at_)), .val (.ref b3), .val (.ref b37), .val (.ref b88), .val (.int ((8 : Int32) * (Int32.ofNat at_))), .val (.int ((r_141.toInt32) + (1 : Int32))), .val (.int ((r_145.toInt32) + (1 : Int32))), .val (.int ((r_149.toInt32) + (1 : Int32)))] [(.int ((r_141.toInt32) + (1 : Int32))), (.int p5), (.int (Int32.ofNat cnt)), (.int (Int32.ofNat ia)), (.int (5 : Int32)), (.int ((own_fill (fun _ => p5) ia (own_R r_141 r_145 r_149) cnt) 5))])) _
    refine XS.iload X180.here hx rfl (hb hby at_481) rfl ?_
    show Steps p.tables e below (T180.setTop (mkF m 483 #[.val (.long q0), .second, .val (.long q1), .second, .val (.long q2), .second, .val (.long q3), .second, .val (.int p4), .val (.int p5), .val (.int (Int32.ofNat nb)), .val (.int (Int32.ofNat fr)), .val (.int (Int32.ofNat cnt)), .val (.int (Int32.ofNat ia)), .val (.int (Int32.ofNat at_)), .val (.ref b3), .val (.ref b37), .val (.ref b88), .val (.int ((8 : Int32) * (Int32.ofNat at_))), .val (.int ((r_141.toInt32) + (1 : Int32))), .val (.int ((r_145.toInt32) + (1 : Int32))), .val (.int ((r_149.toInt32) + (1 : Int32)))] [(.int ((r_145.toInt32) + (1 : Int32))), (.int ((r_141.toInt32) + (1 : Int32))), (.int p5), (.int (Int32.ofNat cnt)), (.int (Int32.ofNat ia)), (.int (5 : Int32)), (.int ((own_fill (fun _ => p5) ia (own_R r_141 r_145 r_149) cnt) 5))])) _
    refine XS.iload X180.here hx rfl (hb hby at_483) rfl ?_
    exact kz
  refine OG.step s184 ?_
  obtain ⟨_, _, ⟨T185, L185, k185, n185⟩, -, X185, ⟨Lc185, hQ185, l185, y185, z185⟩, st185⟩ := Jvm.LawKit.callS X180 hx (y := (⟨"com/example/strata/strata/PostingsUnpackTimesPinLaw", "expected", "(IIIIIII)I"⟩ : MethodName)) hown (mvT hZ (hw _ (List.mem_of_getElem? (i := 15) rfl))) (mvT hZ (hw _ (List.mem_of_getElem? (i := 16) rfl))) (mvT hZ (hw _ (List.mem_of_getElem? (i := 5) rfl))) (mvT hZ (hw _ (List.mem_of_getElem? (i := 17) rfl))) (by decide) (backOf (W := 1) (rm4 l Z a0 hw [] (5 : Int32) (Int32.ofNat ia) (Int32.ofNat cnt) p5 ((r_141.toInt32) + (1 : Int32)) ((r_145.toInt32) + (1 : Int32)) ((r_149.toInt32) + (1 : Int32)) T152.heap n0 (Nat.le_trans Z0 K152.1)) hZ (hw _ (List.mem_of_getElem? (i := 17) rfl)) (hw _ (List.mem_of_getElem? (i := 5) rfl)) (by decide) (by decide)) (g := (mkF m 485 #[.val (.long q0), .second, .val (.long q1), .second, .val (.long q2), .second, .val (.long q3), .second, .val (.int p4), .val (.int p5), .val (.int (Int32.ofNat nb)), .val (.int (Int32.ofNat fr)), .val (.int (Int32.ofNat cnt)), .val (.int (Int32.ofNat ia)), .val (.int (Int32.ofNat at_)), .val (.ref b3), .val (.ref b37), .val (.ref b88), .val (.int ((8 : Int32) * (Int32.ofNat at_))), .val (.int ((r_141.toInt32) + (1 : Int32))), .val (.int ((r_145.toInt32) + (1 : Int32))), .val (.int ((r_149.toInt32) + (1 : Int32)))] [(.int ((r_149.toInt32) + (1 : Int32))), (.int ((r_145.toInt32) + (1 : Int32))), (.int ((r_141.toInt32) + (1 : Int32))), (.int p5), (.int (Int32.ofNat cnt)), (.int (Int32.ofNat ia)), (.int (5 : Int32)), (.int ((own_fill (fun _ => p5) ia (own_R r_141 r_145 r_149) cnt) 5))])) rfl (by rw [hml]; rfl) (argsL := [(.int (5 : Int32)), (.int (Int32.ofNat ia)), (.int (Int32.ofNat cnt)), (.int p5), (.int ((r_141.toInt32) + (1 : Int32))), (.int ((r_145.toInt32) + (1 : Int32))), (.int ((r_149.toInt32) + (1 : Int32)))]) (rest := [(.int ((own_fill (fun _ => p5) ia (own_R r_141 r_145 r_149) cnt) 5))]) (lenOf pd__IIIIIII_I rfl) rfl (by show 2 * 0 + _ ≤ _; exact Nat.le_of_eq rfl) (hb hby at_485) (fun _ _ => ⟨rfl, e180, (by decide : 3 + 0 ≤ _), (by decide : 80 + 0 ≤ _)⟩)
  dsimp only [Pt.U, Pt.locs, Pt.cells, Pt.slots] at X185 l185 y185 z185 st185 hQ185
  subst l185 y185 z185
  obtain ⟨rfl, N185q, e185⟩ := hQ185
  have N185 := Fr.app N180 N185q
  refine OG.step st185 ?_
  obtain ⟨Lz186, X185, N185⟩ : ∃ Lz, Stand p l e room_1 s m #[(.long q0), (.long q1), (.long q2), (.long q3), (.int p4), (.int p5)] below meth c T185 Lz 3 80 ∧ Fr n0 Lz := ⟨_, X185, N185⟩
  show OG _ _ _ _ _ _ _ (T185.setTop (mkF m 488 #[.val (.long q0), .second, .val (.long q1), .second, .val (.long q2), .second, .val (.long q3), .second, .val (.int p4), .val (.int p5), .val (.int (Int32.ofNat nb)), .val (.int (Int32.ofNat fr)), .val (.int (Int32.ofNat cnt)), .val (.int (Int32.ofNat ia)), .val (.int (Int32.ofNat at_)), .val (.ref b3), .val (.ref b37), .val (.ref b88), .val (.int ((8 : Int32) * (Int32.ofNat at_))), .val (.int ((r_141.toInt32) + (1 : Int32))), .val (.int ((r_145.toInt32) + (1 : Int32))), .val (.int ((r_149.toInt32) + (1 : Int32)))] [(.int (own_exp (5 : Int32) (Int32.ofNat ia) (Int32.ofNat cnt) p5 ((r_141.toInt32) + (1 : Int32)) ((r_145.toInt32) + (1 : Int32)) ((r_149.toInt32) + (1 : Int32)))), (.int ((own_fill (fun _ => p5) ia (own_R r_141 r_145 r_149) cnt) 5))]))
  have s187 : ∀ tz, Steps p.tables e below (T185.setTop (mkF m 495 #[.val (.long q0), .second, .val (.long q1), .second, .val (.long q2), .second, .val (.long q3), .second, .val (.int p4), .val (.int p5), .val (.int (Int32.ofNat nb)), .val (.int (Int32.ofNat fr)), .val (.int (Int32.ofNat cnt)), .val (.int (Int32.ofNat ia)), .val (.int (Int32.ofNat at_)), .val (.ref b3), .val (.ref b37), .val (.ref b88), .val (.int ((8 : Int32) * (Int32.ofNat at_))), .val (.int ((r_141.toInt32) + (1 : Int32))), .val (.int ((r_145.toInt32) + (1 : Int32))), .val (.int ((r_149.toInt32) + (1 : Int32)))] [(.int (6 : Int32)), (.ref b88)])) tz → Steps p.tables e below (T185.setTop (mkF m 488 #[.val (.long q0), .second, .val (.long q1), .second, .val (.long q2), .second, .val (.long q3), .second, .val (.int p4), .val (.int p5), .val (.int (Int32.ofNat nb)), .val (.int (Int32.ofNat fr)), .val (.int (Int32.ofNat cnt)), .val (.int (Int32.ofNat ia)), .val (.int (Int32.ofNat at_)), .val (.ref b3), .val (.ref b37), .val (.ref b88), .val (.int ((8 : Int32) * (Int32.ofNat at_))), .val (.int ((r_141.toInt32) + (1 : Int32))), .val (.int ((r_145.toInt32) + (1 : Int32))), .val (.int ((r_149.toInt32) + (1 : Int32)))] [(.int (own_exp (5 : Int32) (Int32.ofNat ia) (Int32.ofNat cnt) p5 ((r_141.toInt32) + (1 : Int32)) ((r_145.toInt32) + (1 : Int32)) ((r_149.toInt32) + (1 : Int32)))), (.int ((own_fill (fun _ => p5) ia (own_R r_141 r_145 r_149) cnt) 5))])) tz := by
    intro tz kz
    refine XS.icmpNo X185.here hx rfl (hb hby at_488) rfl (teq (own_fin hcnt hia 5 (by decide))).2 ?_
    show Steps p.tables e below (T185.setTop (mkF m 491 #[.val (.long q0), .second, .val (.long q1), .second, .val (.long q2), .second, .val (.long q3), .second, .val (.int p4), .val (.int p5), .val (.int (Int32.ofNat nb)), .val (.int (Int32.ofNat fr)), .val (.int (Int32.ofNat cnt)), .val (.int (Int32.ofNat ia)), .val (.int (Int32.ofNat at_)), .val (.ref b3), .val (.ref b37), .val (.ref b88), .val (.int ((8 : Int32) * (Int32.ofNat at_))), .val (.int ((r_141.toInt32) + (1 : Int32))), .val (.int ((r_145.toInt32) + (1 : Int32))), .val (.int ((r_149.toInt32) + (1 : Int32)))] [])) _
    refine XS.aload X185.here hx rfl (hb hby at_491) rfl rfl ?_
    show Steps p.tables e below (T185.setTop (mkF m 493 #[.val (.long q0), .second, .val (.long q1), .second, .val (.long q2), .second, .val (.long q3), .second, .val (.int p4), .val (.int p5), .val (.int (Int32.ofNat nb)), .val (.int (Int32.ofNat fr)), .val (.int (Int32.ofNat cnt)), .val (.int (Int32.ofNat ia)), .val (.int (Int32.ofNat at_)), .val (.ref b3), .val (.ref b37), .val (.ref b88), .val (.int ((8 : Int32) * (Int32.ofNat at_))), .val (.int ((r_141.toInt32) + (1 : Int32))), .val (.int ((r_145.toInt32) + (1 : Int32))), .val (.int ((r_149.toInt32) + (1 : Int32)))] [(.ref b88)])) _
    refine XS.bipush X185.here hx rfl (hb hby at_493) ?_
    exact kz
  refine OG.step s187 ?_
  have av188 := p152_0
  obtain ⟨cl188, Ar188, qa_188, Sa_188, Nn_188, Ha_188, Ga_188⟩ := av188
  have hin188 : ¬ ((6 : Int32) < 0 ∨ cl188.slots.size ≤ ((6 : Int32)).toNatClampNeg) := inb_of Sa_188 ⟨(by decide), (by decide)⟩
  have hat188 : cl188.slots[((6 : Int32)).toNatClampNeg]? = some (.int ((own_fill (fun _ => p5) ia (own_R r_141 r_145 r_149) cnt) 6)) := Ha_188.at hin188 (own_iget (own_fill (fun _ => p5) ia (own_R r_141 r_145 r_149) cnt) (x := 6) (by decide) (by decide))
  refine OG.step (X185.iaload hx (j := (6 : Int32)) (v := (.int ((own_fill (fun _ => p5) ia (own_R r_141 r_145 r_149) cnt) 6))) (by rw [e185]; exact Ar188.1) (State.isArrayOf_alike hZ.alike Ar188.2.1) Ar188.2.2 hin188 hat188 (g := (mkF m 495 #[.val (.long q0), .second, .val (.long q1), .second, .val (.long q2), .second, .val (.long q3), .second, .val (.int p4), .val (.int p5), .val (.int (Int32.ofNat nb)), .val (.int (Int32.ofNat fr)), .val (.int (Int32.ofNat cnt)), .val (.int (Int32.ofNat ia)), .val (.int (Int32.ofNat at_)), .val (.ref b3), .val (.ref b37), .val (.ref b88), .val (.int ((8 : Int32) * (Int32.ofNat at_))), .val (.int ((r_141.toInt32) + (1 : Int32))), .val (.int ((r_145.toInt32) + (1 : Int32))), .val (.int ((r_149.toInt32) + (1 : Int32)))] [(.int (6 : Int32)), (.ref b88)])) rfl rfl (hb hby at_495)) ?_
  show OG _ _ _ _ _ _ _ (T185.setTop (mkF m 496 #[.val (.long q0), .second, .val (.long q1), .second, .val (.long q2), .second, .val (.long q3), .second, .val (.int p4), .val (.int p5), .val (.int (Int32.ofNat nb)), .val (.int (Int32.ofNat fr)), .val (.int (Int32.ofNat cnt)), .val (.int (Int32.ofNat ia)), .val (.int (Int32.ofNat at_)), .val (.ref b3), .val (.ref b37), .val (.ref b88), .val (.int ((8 : Int32) * (Int32.ofNat at_))), .val (.int ((r_141.toInt32) + (1 : Int32))), .val (.int ((r_145.toInt32) + (1 : Int32))), .val (.int ((r_149.toInt32) + (1 : Int32)))] [(.int ((own_fill (fun _ => p5) ia (own_R r_141 r_145 r_149) cnt) 6))]))
  have s189 : ∀ tz, Steps p.tables e below (T185.setTop (mkF m 510 #[.val (.long q0), .second, .val (.long q1), .second, .val (.long q2), .second, .val (.long q3), .second, .val (.int p4), .val (.int p5), .val (.int (Int32.ofNat nb)), .val (.int (Int32.ofNat fr)), .val (.int (Int32.ofNat cnt)), .val (.int (Int32.ofNat ia)), .val (.int (Int32.ofNat at_)), .val (.ref b3), .val (.ref b37), .val (.ref b88), .val (.int ((8 : Int32) * (Int32.ofNat at_))), .val (.int ((r_141.toInt32) + (1 : Int32))), .val (.int ((r_145.toInt32) + (1 : Int32))), .val (.int ((r_149.toInt32) + (1 : Int32)))] [(.int ((r_149.toInt32) + (1 : Int32))), (.int ((r_145.toInt32) + (1 : Int32))), (.int ((r_141.toInt32) + (1 : Int32))), (.int p5), (.int (Int32.ofNat cnt)), (.int (Int32.ofNat ia)), (.int (6 : Int32)), (.int ((own_fill (fun _ => p5) ia (own_R r_141 r_145 r_149) cnt) 6))])) tz → Steps p.tables e below (T185.setTop (mkF m 496 #[.val (.long q0), .second, .val (.long q1), .second, .val (.long q2), .second, .val (.long q3), .second, .val (.int p4), .val (.int p5), .val (.int (Int32.ofNat nb)), .val (.int (Int32.ofNat fr)), .val (.int (Int32.ofNat cnt)), .val (.int (Int32.ofNat ia)), .val (.int (Int32.ofNat at_)), .val (.ref b3), .val (.ref b37), .val (.ref b88), .val (.int ((8 : Int32) * (Int32.ofNat at_))), .val (.int ((r_141.toInt32) + (1 : Int32))), .val (.int ((r_145.toInt32) + (1 : Int32))), .val (.int ((r_149.toInt32) + (1 : Int32)))] [(.int ((own_fill (fun _ => p5) ia (own_R r_141 r_145 r_149) cnt) 6))])) tz := by
    intro tz kz
    refine XS.bipush X185.here hx rfl (hb hby at_496) ?_
    show Steps p.tables e below (T185.setTop (mkF m 498 #[.val (.long q0), .second, .val (.long q1), .second, .val (.long q2), .second, .val (.long q3), .second, .val (.int p4), .val (.int p5), .val (.int (Int32.ofNat nb)), .val (.int (Int32.ofNat fr)), .val (.int (Int32.ofNat cnt)), .val (.int (Int32.ofNat ia)), .val (.int (Int32.ofNat at_)), .val (.ref b3), .val (.ref b37), .val (.ref b88), .val (.int ((8 : Int32) * (Int32.ofNat at_))), .val (.int ((r_141.toInt32) + (1 : Int32))), .val (.int ((r_145.toInt32) + (1 : Int32))), .val (.int ((r_149.toInt32) + (1 : Int32)))] [(.int (6 : Int32)), (.int ((own_fill (fun _ => p5) ia (own_R r_141 r_145 r_149) cnt) 6))])) _
    refine XS.iload X185.here hx rfl (hb hby at_498) rfl ?_
    show Steps p.tables e below (T185.setTop (mkF m 500 #[.val (.long q0), .second, .val (.long q1), .second, .val (.long q2), .second, .val (.long q3), .second, .val (.int p4), .val (.int p5), .val (.int (Int32.ofNat nb)), .val (.int (Int32.ofNat fr)), .val (.int (Int32.ofNat cnt)), .val (.int (Int32.ofNat ia)), .val (.int (Int32.ofNat at_)), .val (.ref b3), .val (.ref b37), .val (.ref b88), .val (.int ((8 : Int32) * (Int32.ofNat at_))), .val (.int ((r_141.toInt32) + (1 : Int32))), .val (.int ((r_145.toInt32) + (1 : Int32))), .val (.int ((r_149.toInt32) + (1 : Int32)))] [(.int (Int32.ofNat ia)), (.int (6 : Int32)), (.int ((own_fill (fun _ => p5) ia (own_R r_141 r_145 r_149) cnt) 6))])) _
    refine XS.iload X185.here hx rfl (hb hby at_500) rfl ?_
    show Steps p.tables e below (T185.setTop (mkF m 502 #[.val (.long q0), .second, .val (.long q1), .second, .val (.long q2), .second, .val (.long q3), .second, .val (.int p4), .val (.int p5), .val (.int (Int32.ofNat nb)), .val (.int (Int32.ofNat fr)), .val (.int (Int32.ofNat cnt)), .val (.int (Int32.ofNat ia)), .val (.int (Int32.ofNat at_)), .val (.ref b3), .val (.ref b37), .val (.ref b88), .val (.int ((8 : Int32) * (Int32.ofNat at_))), .val (.int ((r_141.toInt32) + (1 : Int32))), .val (.int ((r_145.toInt32) + (1 : Int32))), .val (.int ((r_149.toInt32) + (1 : Int32)))] [(.int (Int32.ofNat cnt)), (.int (Int32.ofNat ia)), (.int (6 : Int32)), (.int ((own_fill (fun _ => p5) ia (own_R r_141 r_145 r_149) cnt) 6))])) _
    refine XS.iload X185.here hx rfl (hb hby at_502) rfl ?_
    show Steps p.tables e below (T185.setTop (mkF m 504 #[.val (.long q0), .second, .val (.long q1), .second, .val (.long q2), .second, .val (.long q3), .second, .val (.int p4), .val (.int p5), .val (.int (Int32.ofNat nb)), .val (.int (Int32.ofNat fr)), .val (.int (Int32.ofNat cnt)), .val (.int (Int32.ofNat ia)), .val (.int (Int32.ofNat at_)), .val (.ref b3), .val (.ref b37), .val (.ref b88), .val (.int ((8 : Int32) * (Int32.ofNat at_))), .val (.int ((r_141.toInt32) + (1 : Int32))), .val (.int ((r_145.toInt32) + (1 : Int32))), .val (.int ((r_149.toInt32) + (1 : Int32)))] [(.int p5), (.int (Int32.ofNat cnt)), (.int (Int32.ofNat ia)), (.int (6 : Int32)), (.int ((own_fill (fun _ => p5) ia (own_R r_141 r_145 r_149) cnt) 6))])) _
    refine XS.iload X185.here hx rfl (hb hby at_504) rfl ?_
    show Steps p.tables e below (T185.setTop (mkF m 506 #[.val (.long q0), .second, .val (.long q1), .second, .val (.long q2), .second, .val (.long q3), .second, .val (.int p4), .val (.int p5), .val (.int (Int32.ofNat nb)), .val (.int (Int32.ofNat fr)), .val (.int (Int32.ofNat cnt)), .val (.int (Int32.ofNat ia)), .val (.int (Int32.ofNat at_)), .val (.ref b3), .val (.ref b37), .val (.ref b88), .val (.int ((8 : Int32) * (Int32.ofNat at_))), .val (.int ((r_141.toInt32) + (1 : Int32))), .val (.int ((r_145.toInt32) + (1 : Int32))), .val (.int ((r_149.toInt32) + (1 : Int32)))] [(.int ((r_141.toInt32) + (1 : Int32))), (.int p5), (.int (Int32.ofNat cnt)), (.int (Int32.ofNat ia)), (.int (6 : Int32)), (.int ((own_fill (fun _ => p5) ia (own_R r_141 r_145 r_149) cnt) 6))])) _
    refine XS.iload X185.here hx rfl (hb hby at_506) rfl ?_
    show Steps p.tables e below (T185.setTop (mkF m 508 #[.val (.long q0), .second, .val (.long q1), .second, .val (.long q2), .second, .val (.long q3), .second, .val (.int p4), .val (.int p5), .val (.int (Int32.ofNat nb)), .val (.int (Int32.ofNat fr)), .val (.int (Int32.ofNat cnt)), .val (.int (Int32.ofNat ia)), .val (.int (Int32.ofNat at_)), .val (.ref b3), .val (.ref b37), .val (.ref b88), .val (.int ((8 : Int32) * (Int32.ofNat at_))), .val (.int ((r_141.toInt32) + (1 : Int32))), .val (.int ((r_145.toInt32) + (1 : Int32))), .val (.int ((r_149.toInt32) + (1 : Int32)))] [(.int ((r_145.toInt32) + (1 : Int32))), (.int ((r_141.toInt32) + (1 : Int32))), (.int p5), (.int (Int32.ofNat cnt)), (.int (Int32.ofNat ia)), (.int (6 : Int32)), (.int ((own_fill (fun _ => p5) ia (own_R r_141 r_145 r_149) cnt) 6))])) _
    refine XS.iload X185.here hx rfl (hb hby at_508) rfl ?_
    exact kz
  refine OG.step s189 ?_
  obtain ⟨_, _, ⟨T190, L190, k190, n190⟩, -, X190, ⟨Lc190, hQ190, l190, y190, z190⟩, st190⟩ := Jvm.LawKit.callS X185 hx (y := (⟨"com/example/strata/strata/PostingsUnpackTimesPinLaw", "expected", "(IIIIIII)I"⟩ : MethodName)) hown (mvT hZ (hw _ (List.mem_of_getElem? (i := 15) rfl))) (mvT hZ (hw _ (List.mem_of_getElem? (i := 16) rfl))) (mvT hZ (hw _ (List.mem_of_getElem? (i := 5) rfl))) (mvT hZ (hw _ (List.mem_of_getElem? (i := 17) rfl))) (by decide) (backOf (W := 1) (rm4 l Z a0 hw [] (6 : Int32) (Int32.ofNat ia) (Int32.ofNat cnt) p5 ((r_141.toInt32) + (1 : Int32)) ((r_145.toInt32) + (1 : Int32)) ((r_149.toInt32) + (1 : Int32)) T152.heap n0 (Nat.le_trans Z0 K152.1)) hZ (hw _ (List.mem_of_getElem? (i := 17) rfl)) (hw _ (List.mem_of_getElem? (i := 5) rfl)) (by decide) (by decide)) (g := (mkF m 510 #[.val (.long q0), .second, .val (.long q1), .second, .val (.long q2), .second, .val (.long q3), .second, .val (.int p4), .val (.int p5), .val (.int (Int32.ofNat nb)), .val (.int (Int32.ofNat fr)), .val (.int (Int32.ofNat cnt)), .val (.int (Int32.ofNat ia)), .val (.int (Int32.ofNat at_)), .val (.ref b3), .val (.ref b37), .val (.ref b88), .val (.int ((8 : Int32) * (Int32.ofNat at_))), .val (.int ((r_141.toInt32) + (1 : Int32))), .val (.int ((r_145.toInt32) + (1 : Int32))), .val (.int ((r_149.toInt32) + (1 : Int32)))] [(.int ((r_149.toInt32) + (1 : Int32))), (.int ((r_145.toInt32) + (1 : Int32))), (.int ((r_141.toInt32) + (1 : Int32))), (.int p5), (.int (Int32.ofNat cnt)), (.int (Int32.ofNat ia)), (.int (6 : Int32)), (.int ((own_fill (fun _ => p5) ia (own_R r_141 r_145 r_149) cnt) 6))])) rfl (by rw [hml]; rfl) (argsL := [(.int (6 : Int32)), (.int (Int32.ofNat ia)), (.int (Int32.ofNat cnt)), (.int p5), (.int ((r_141.toInt32) + (1 : Int32))), (.int ((r_145.toInt32) + (1 : Int32))), (.int ((r_149.toInt32) + (1 : Int32)))]) (rest := [(.int ((own_fill (fun _ => p5) ia (own_R r_141 r_145 r_149) cnt) 6))]) (lenOf pd__IIIIIII_I rfl) rfl (by show 2 * 0 + _ ≤ _; exact Nat.le_of_eq rfl) (hb hby at_510) (fun _ _ => ⟨rfl, e185, (by decide : 3 + 0 ≤ _), (by decide : 80 + 0 ≤ _)⟩)
  dsimp only [Pt.U, Pt.locs, Pt.cells, Pt.slots] at X190 l190 y190 z190 st190 hQ190
  subst l190 y190 z190
  obtain ⟨rfl, N190q, e190⟩ := hQ190
  have N190 := Fr.app N185 N190q
  refine OG.step st190 ?_
  obtain ⟨Lz191, X190, N190⟩ : ∃ Lz, Stand p l e room_1 s m #[(.long q0), (.long q1), (.long q2), (.long q3), (.int p4), (.int p5)] below meth c T190 Lz 3 80 ∧ Fr n0 Lz := ⟨_, X190, N190⟩
  show OG _ _ _ _ _ _ _ (T190.setTop (mkF m 513 #[.val (.long q0), .second, .val (.long q1), .second, .val (.long q2), .second, .val (.long q3), .second, .val (.int p4), .val (.int p5), .val (.int (Int32.ofNat nb)), .val (.int (Int32.ofNat fr)), .val (.int (Int32.ofNat cnt)), .val (.int (Int32.ofNat ia)), .val (.int (Int32.ofNat at_)), .val (.ref b3), .val (.ref b37), .val (.ref b88), .val (.int ((8 : Int32) * (Int32.ofNat at_))), .val (.int ((r_141.toInt32) + (1 : Int32))), .val (.int ((r_145.toInt32) + (1 : Int32))), .val (.int ((r_149.toInt32) + (1 : Int32)))] [(.int (own_exp (6 : Int32) (Int32.ofNat ia) (Int32.ofNat cnt) p5 ((r_141.toInt32) + (1 : Int32)) ((r_145.toInt32) + (1 : Int32)) ((r_149.toInt32) + (1 : Int32)))), (.int ((own_fill (fun _ => p5) ia (own_R r_141 r_145 r_149) cnt) 6))]))
  have s192 : ∀ tz, Steps p.tables e below (T190.setTop (mkF m 520 #[.val (.long q0), .second, .val (.long q1), .second, .val (.long q2), .second, .val (.long q3), .second, .val (.int p4), .val (.int p5), .val (.int (Int32.ofNat nb)), .val (.int (Int32.ofNat fr)), .val (.int (Int32.ofNat cnt)), .val (.int (Int32.ofNat ia)), .val (.int (Int32.ofNat at_)), .val (.ref b3), .val (.ref b37), .val (.ref b88), .val (.int ((8 : Int32) * (Int32.ofNat at_))), .val (.int ((r_141.toInt32) + (1 : Int32))), .val (.int ((r_145.toInt32) + (1 : Int32))), .val (.int ((r_149.toInt32) + (1 : Int32)))] [(.int (7 : Int32)), (.ref b88)])) tz → Steps p.tables e below (T190.setTop (mkF m 513 #[.val (.long q0), .second, .val (.long q1), .second, .val (.long q2), .second, .val (.long q3), .second, .val (.int p4), .val (.int p5), .val (.int (Int32.ofNat nb)), .val (.int (Int32.ofNat fr)), .val (.int (Int32.ofNat cnt)), .val (.int (Int32.ofNat ia)), .val (.int (Int32.ofNat at_)), .val (.ref b3), .val (.ref b37), .val (.ref b88), .val (.int ((8 : Int32) * (Int32.ofNat at_))), .val (.int ((r_141.toInt32) + (1 : Int32))), .val (.int ((r_145.toInt32) + (1 : Int32))), .val (.int ((r_149.toInt32) + (1 : Int32)))] [(.int (own_exp (6 : Int32) (Int32.ofNat ia) (Int32.ofNat cnt) p5 ((r_141.toInt32) + (1 : Int32)) ((r_145.toInt32) + (1 : Int32)) ((r_149.toInt32) + (1 : Int32)))), (.int ((own_fill (fun _ => p5) ia (own_R r_141 r_145 r_149) cnt) 6))])) tz := by
    intro tz kz
    refine XS.icmpNo X190.here hx rfl (hb hby at_513) rfl (teq (own_fin hcnt hia 6 (by decide))).2 ?_
    show Steps p.tables e below (T190.setTop (mkF m 516 #[.val (.long q0), .second, .val (.long q1), .second, .val (.long q2), .second, .val (.long q3), .second, .val (.int p4), .val (.int p5), .val (.int (Int32.ofNat nb)), .val (.int (Int32.ofNat fr)), .val (.int (Int32.ofNat cnt)), .val (.int (Int32.ofNat ia)), .val (.int (Int32.ofNat at_)), .val (.ref b3), .val (.ref b37), .val (.ref b88), .val (.int ((8 : Int32) * (Int32.ofNat at_))), .val (.int ((r_141.toInt32) + (1 : Int32))), .val (.int ((r_145.toInt32) + (1 : Int32))), .val (.int ((r_149.toInt32) + (1 : Int32)))] [])) _
    refine XS.aload X190.here hx rfl (hb hby at_516) rfl rfl ?_
    show Steps p.tables e below (T190.setTop (mkF m 518 #[.val (.long q0), .second, .val (.long q1), .second, .val (.long q2), .second, .val (.long q3), .second, .val (.int p4), .val (.int p5), .val (.int (Int32.ofNat nb)), .val (.int (Int32.ofNat fr)), .val (.int (Int32.ofNat cnt)), .val (.int (Int32.ofNat ia)), .val (.int (Int32.ofNat at_)), .val (.ref b3), .val (.ref b37), .val (.ref b88), .val (.int ((8 : Int32) * (Int32.ofNat at_))), .val (.int ((r_141.toInt32) + (1 : Int32))), .val (.int ((r_145.toInt32) + (1 : Int32))), .val (.int ((r_149.toInt32) + (1 : Int32)))] [(.ref b88)])) _
    refine XS.bipush X190.here hx rfl (hb hby at_518) ?_
    exact kz
  refine OG.step s192 ?_
  have av193 := p152_0
  obtain ⟨cl193, Ar193, qa_193, Sa_193, Nn_193, Ha_193, Ga_193⟩ := av193
  have hin193 : ¬ ((7 : Int32) < 0 ∨ cl193.slots.size ≤ ((7 : Int32)).toNatClampNeg) := inb_of Sa_193 ⟨(by decide), (by decide)⟩
  have hat193 : cl193.slots[((7 : Int32)).toNatClampNeg]? = some (.int ((own_fill (fun _ => p5) ia (own_R r_141 r_145 r_149) cnt) 7)) := Ha_193.at hin193 (own_iget (own_fill (fun _ => p5) ia (own_R r_141 r_145 r_149) cnt) (x := 7) (by decide) (by decide))
  refine OG.step (X190.iaload hx (j := (7 : Int32)) (v := (.int ((own_fill (fun _ => p5) ia (own_R r_141 r_145 r_149) cnt) 7))) (by rw [e190]; exact Ar193.1) (State.isArrayOf_alike hZ.alike Ar193.2.1) Ar193.2.2 hin193 hat193 (g := (mkF m 520 #[.val (.long q0), .second, .val (.long q1), .second, .val (.long q2), .second, .val (.long q3), .second, .val (.int p4), .val (.int p5), .val (.int (Int32.ofNat nb)), .val (.int (Int32.ofNat fr)), .val (.int (Int32.ofNat cnt)), .val (.int (Int32.ofNat ia)), .val (.int (Int32.ofNat at_)), .val (.ref b3), .val (.ref b37), .val (.ref b88), .val (.int ((8 : Int32) * (Int32.ofNat at_))), .val (.int ((r_141.toInt32) + (1 : Int32))), .val (.int ((r_145.toInt32) + (1 : Int32))), .val (.int ((r_149.toInt32) + (1 : Int32)))] [(.int (7 : Int32)), (.ref b88)])) rfl rfl (hb hby at_520)) ?_
  show OG _ _ _ _ _ _ _ (T190.setTop (mkF m 521 #[.val (.long q0), .second, .val (.long q1), .second, .val (.long q2), .second, .val (.long q3), .second, .val (.int p4), .val (.int p5), .val (.int (Int32.ofNat nb)), .val (.int (Int32.ofNat fr)), .val (.int (Int32.ofNat cnt)), .val (.int (Int32.ofNat ia)), .val (.int (Int32.ofNat at_)), .val (.ref b3), .val (.ref b37), .val (.ref b88), .val (.int ((8 : Int32) * (Int32.ofNat at_))), .val (.int ((r_141.toInt32) + (1 : Int32))), .val (.int ((r_145.toInt32) + (1 : Int32))), .val (.int ((r_149.toInt32) + (1 : Int32)))] [(.int ((own_fill (fun _ => p5) ia (own_R r_141 r_145 r_149) cnt) 7))]))
  have s194 : ∀ tz, Steps p.tables e below (T190.setTop (mkF m 535 #[.val (.long q0), .second, .val (.long q1), .second, .val (.long q2), .second, .val (.long q3), .second, .val (.int p4), .val (.int p5), .val (.int (Int32.ofNat nb)), .val (.int (Int32.ofNat fr)), .val (.int (Int32.ofNat cnt)), .val (.int (Int32.ofNat ia)), .val (.int (Int32.ofNat at_)), .val (.ref b3), .val (.ref b37), .val (.ref b88), .val (.int ((8 : Int32) * (Int32.ofNat at_))), .val (.int ((r_141.toInt32) + (1 : Int32))), .val (.int ((r_145.toInt32) + (1 : Int32))), .val (.int ((r_149.toInt32) + (1 : Int32)))] [(.int ((r_149.toInt32) + (1 : Int32))), (.int ((r_145.toInt32) + (1 : Int32))), (.int ((r_141.toInt32) + (1 : Int32))), (.int p5), (.int (Int32.ofNat cnt)), (.int (Int32.ofNat ia)), (.int (7 : Int32)), (.int ((own_fill (fun _ => p5) ia (own_R r_141 r_145 r_149) cnt) 7))])) tz → Steps p.tables e below (T190.setTop (mkF m 521 #[.val (.long q0), .second, .val (.long q1), .second, .val (.long q2), .second, .val (.long q3), .second, .val (.int p4), .val (.int p5), .val (.int (Int32.ofNat nb)), .val (.int (Int32.ofNat fr)), .val (.int (Int32.ofNat cnt)), .val (.int (Int32.ofNat ia)), .val (.int (Int32.ofNat at_)), .val (.ref b3), .val (.ref b37), .val (.ref b88), .val (.int ((8 : Int32) * (Int32.ofNat at_))), .val (.int ((r_141.toInt32) + (1 : Int32))), .val (.int ((r_145.toInt32) + (1 : Int32))), .val (.int ((r_149.toInt32) + (1 : Int32)))] [(.int ((own_fill (fun _ => p5) ia (own_R r_141 r_145 r_149) cnt) 7))])) tz := by
    intro tz kz
    refine XS.bipush X190.here hx rfl (hb hby at_521) ?_
    show Steps p.tables e below (T190.setTop (mkF m 523 #[.val (.long q0), .second, .val (.long q1), .second, .val (.long q2), .second, .val (.long q3), .second, .val (.int p4), .val (.int p5), .val (.int (Int32.ofNat nb)), .val (.int (Int32.ofNat fr)), .val (.int (Int32.ofNat cnt)), .val (.int (Int32.ofNat ia)), .val (.int (Int32.ofNat at_)), .val (.ref b3), .val (.ref b37), .val (.ref b88), .val (.int ((8 : Int32) * (Int32.ofNat at_))), .val (.int ((r_141.toInt32) + (1 : Int32))), .val (.int ((r_145.toInt32) + (1 : Int32))), .val (.int ((r_149.toInt32) + (1 : Int32)))] [(.int (7 : Int32)), (.int ((own_fill (fun _ => p5) ia (own_R r_141 r_145 r_149) cnt) 7))])) _
    refine XS.iload X190.here hx rfl (hb hby at_523) rfl ?_
    show Steps p.tables e below (T190.setTop (mkF m 525 #[.val (.long q0), .second, .val (.long q1), .second, .val (.long q2), .second, .val (.long q3), .second, .val (.int p4), .val (.int p5), .val (.int (Int32.ofNat nb)), .val (.int (Int32.ofNat fr)), .val (.int (Int32.ofNat cnt)), .val (.int (Int32.ofNat ia)), .val (.int (Int32.ofNat at_)), .val (.ref b3), .val (.ref b37), .val (.ref b88), .val (.int ((8 : Int32) * (Int32.ofNat at_))), .val (.int ((r_141.toInt32) + (1 : Int32))), .val (.int ((r_145.toInt32) + (1 : Int32))), .val (.int ((r_149.toInt32) + (1 : Int32)))] [(.int (Int32.ofNat ia)), (.int (7 : Int32)), (.int ((own_fill (fun _ => p5) ia (own_R r_141 r_145 r_149) cnt) 7))])) _
    refine XS.iload X190.here hx rfl (hb hby at_525) rfl ?_
    show Steps p.tables e below (T190.setTop (mkF m 527 #[.val (.long q0), .second, .val (.long q1), .second, .val (.long q2), .second, .val (.long q3), .second, .val (.int p4), .val (.int p5), .val (.int (Int32.ofNat nb)), .val (.int (Int32.ofNat fr)), .val (.int (Int32.ofNat cnt)), .val (.int (Int32.ofNat ia)), .val (.int (Int32.ofNat at_)), .val (.ref b3), .val (.ref b37), .val (.ref b88), .val (.int ((8 : Int32) * (Int32.ofNat at_))), .val (.int ((r_141.toInt32) + (1 : Int32))), .val (.int ((r_145.toInt32) + (1 : Int32))), .val (.int ((r_149.toInt32) + (1 : Int32)))] [(.int (Int32.ofNat cnt)), (.int (Int32.ofNat ia)), (.int (7 : Int32)), (.int ((own_fill (fun _ => p5) ia (own_R r_141 r_145 r_149) cnt) 7))])) _
    refine XS.iload X190.here hx rfl (hb hby at_527) rfl ?_
    show Steps p.tables e below (T190.setTop (mkF m 529 #[.val (.long q0), .second, .val (.long q1), .second, .val (.long q2), .second, .val (.long q3), .second, .val (.int p4), .val (.int p5), .val (.int (Int32.ofNat nb)), .val (.int (Int32.ofNat fr)), .val (.int (Int32.ofNat cnt)), .val (.int (Int32.ofNat ia)), .val (.int (Int32.ofNat at_)), .val (.ref b3), .val (.ref b37), .val (.ref b88), .val (.int ((8 : Int32) * (Int32.ofNat at_))), .val (.int ((r_141.toInt32) + (1 : Int32))), .val (.int ((r_145.toInt32) + (1 : Int32))), .val (.int ((r_149.toInt32) + (1 : Int32)))] [(.int p5), (.int (Int32.ofNat cnt)), (.int (Int32.ofNat ia)), (.int (7 : Int32)), (.int ((own_fill (fun _ => p5) ia (own_R r_141 r_145 r_149) cnt) 7))])) _
    refine XS.iload X190.here hx rfl (hb hby at_529) rfl ?_
    show Steps p.tables e below (T190.setTop (mkF m 531 #[.val (.long q0), .second, .val (.long q1), .second, .val (.long q2), .second, .val (.long q3), .second, .val (.int p4), .val (.int p5), .val (.int (Int32.ofNat nb)), .val (.int (Int32.ofNat fr)), .val (.int (Int32.ofNat cnt)), .val (.int (Int32.ofNat ia)), .val (.int (Int32.ofNat at_)), .val (.ref b3), .val (.ref b37), .val (.ref b88), .val (.int ((8 : Int32) * (Int32.ofNat at_))), .val (.int ((r_141.toInt32) + (1 : Int32))), .val (.int ((r_145.toInt32) + (1 : Int32))), .val (.int ((r_149.toInt32) + (1 : Int32)))] [(.int ((r_141.toInt32) + (1 : Int32))), (.int p5), (.int (Int32.ofNat cnt)), (.int (Int32.ofNat ia)), (.int (7 : Int32)), (.int ((own_fill (fun _ => p5) ia (own_R r_141 r_145 r_149) cnt) 7))])) _
    refine XS.iload X190.here hx rfl (hb hby at_531) rfl ?_
    show Steps p.tables e below (T190.setTop (mkF m 533 #[.val (.long q0), .second, .val (.long q1), .second, .val (.long q2), .second, .val (.long q3), .second, .val (.int p4), .val (.int p5), .val (.int (Int32.ofNat nb)), .val (.int (Int32.ofNat fr)), .val (.int (Int32.ofNat cnt)), .val (.int (Int32.ofNat ia)), .val (.int (Int32.ofNat at_)), .val (.ref b3), .val (.ref b37), .val (.ref b88), .val (.int ((8 : Int32) * (Int32.ofNat at_))), .val (.int ((r_141.toInt32) + (1 : Int32))), .val (.int ((r_145.toInt32) + (1 : Int32))), .val (.int ((r_149.toInt32) + (1 : Int32)))] [(.int ((r_145.toInt32) + (1 : Int32))), (.int ((r_141.toInt32) + (1 : Int32))), (.int p5), (.int (Int32.ofNat cnt)), (.int (Int32.ofNat ia)), (.int (7 : Int32)), (.int ((own_fill (fun _ => p5) ia (own_R r_141 r_145 r_149) cnt) 7))])) _
    refine XS.iload X190.here hx rfl (hb hby at_533) rfl ?_
    exact kz
  refine OG.step s194 ?_
  obtain ⟨_, _, ⟨T195, L195, k195, n195⟩, -, X195, ⟨Lc195, hQ195, l195, y195, z195⟩, st195⟩ := Jvm.LawKit.callS X190 hx (y := (⟨"com/example/strata/strata/PostingsUnpackTimesPinLaw", "expected", "(IIIIIII)I"⟩ : MethodName)) hown (mvT hZ (hw _ (List.mem_of_getElem? (i := 15) rfl))) (mvT hZ (hw _ (List.mem_of_getElem? (i := 16) rfl))) (mvT hZ (hw _ (List.mem_of_getElem? (i := 5) rfl))) (mvT hZ (hw _ (List.mem_of_getElem? (i := 17) rfl))) (by decide) (backOf (W := 1) (rm4 l Z a0 hw [] (7 : Int32) (Int32.ofNat ia) (Int32.ofNat cnt) p5 ((r_141.toInt32) + (1 : Int32)) ((r_145.toInt32) + (1 : Int32)) ((r_149.toInt32) + (1 : Int32)) T152.heap n0 (Nat.le_trans Z0 K152.1)) hZ (hw _ (List.mem_of_getElem? (i := 17) rfl)) (hw _ (List.mem_of_getElem? (i := 5) rfl)) (by decide) (by decide)) (g := (mkF m 535 #[.val (.long q0), .second, .val (.long q1), .second, .val (.long q2), .second, .val (.long q3), .second, .val (.int p4), .val (.int p5), .val (.int (Int32.ofNat nb)), .val (.int (Int32.ofNat fr)), .val (.int (Int32.ofNat cnt)), .val (.int (Int32.ofNat ia)), .val (.int (Int32.ofNat at_)), .val (.ref b3), .val (.ref b37), .val (.ref b88), .val (.int ((8 : Int32) * (Int32.ofNat at_))), .val (.int ((r_141.toInt32) + (1 : Int32))), .val (.int ((r_145.toInt32) + (1 : Int32))), .val (.int ((r_149.toInt32) + (1 : Int32)))] [(.int ((r_149.toInt32) + (1 : Int32))), (.int ((r_145.toInt32) + (1 : Int32))), (.int ((r_141.toInt32) + (1 : Int32))), (.int p5), (.int (Int32.ofNat cnt)), (.int (Int32.ofNat ia)), (.int (7 : Int32)), (.int ((own_fill (fun _ => p5) ia (own_R r_141 r_145 r_149) cnt) 7))])) rfl (by rw [hml]; rfl) (argsL := [(.int (7 : Int32)), (.int (Int32.ofNat ia)), (.int (Int32.ofNat cnt)), (.int p5), (.int ((r_141.toInt32) + (1 : Int32))), (.int ((r_145.toInt32) + (1 : Int32))), (.int ((r_149.toInt32) + (1 : Int32)))]) (rest := [(.int ((own_fill (fun _ => p5) ia (own_R r_141 r_145 r_149) cnt) 7))]) (lenOf pd__IIIIIII_I rfl) rfl (by show 2 * 0 + _ ≤ _; exact Nat.le_of_eq rfl) (hb hby at_535) (fun _ _ => ⟨rfl, e190, (by decide : 3 + 0 ≤ _), (by decide : 80 + 0 ≤ _)⟩)
  dsimp only [Pt.U, Pt.locs, Pt.cells, Pt.slots] at X195 l195 y195 z195 st195 hQ195
  subst l195 y195 z195
  obtain ⟨rfl, N195q, e195⟩ := hQ195
  have N195 := Fr.app N190 N195q
  refine OG.step st195 ?_
  obtain ⟨Lz196, X195, N195⟩ : ∃ Lz, Stand p l e room_1 s m #[(.long q0), (.long q1), (.long q2), (.long q3), (.int p4), (.int p5)] below meth c T195 Lz 3 80 ∧ Fr n0 Lz := ⟨_, X195, N195⟩
  show OG _ _ _ _ _ _ _ (T195.setTop (mkF m 538 #[.val (.long q0), .second, .val (.long q1), .second, .val (.long q2), .second, .val (.long q3), .second, .val (.int p4), .val (.int p5), .val (.int (Int32.ofNat nb)), .val (.int (Int32.ofNat fr)), .val (.int (Int32.ofNat cnt)), .val (.int (Int32.ofNat ia)), .val (.int (Int32.ofNat at_)), .val (.ref b3), .val (.ref b37), .val (.ref b88), .val (.int ((8 : Int32) * (Int32.ofNat at_))), .val (.int ((r_141.toInt32) + (1 : Int32))), .val (.int ((r_145.toInt32) + (1 : Int32))), .val (.int ((r_149.toInt32) + (1 : Int32)))] [(.int (own_exp (7 : Int32) (Int32.ofNat ia) (Int32.ofNat cnt) p5 ((r_141.toInt32) + (1 : Int32)) ((r_145.toInt32) + (1 : Int32)) ((r_149.toInt32) + (1 : Int32)))), (.int ((own_fill (fun _ => p5) ia (own_R r_141 r_145 r_149) cnt) 7))]))
  have s197 : ∀ tz, Steps p.tables e below (T195.setTop (mkF m 546 #[.val (.long q0), .second, .val (.long q1), .second, .val (.long q2), .second, .val (.long q3), .second, .val (.int p4), .val (.int p5), .val (.int (Int32.ofNat nb)), .val (.int (Int32.ofNat fr)), .val (.int (Int32.ofNat cnt)), .val (.int (Int32.ofNat ia)), .val (.int (Int32.ofNat at_)), .val (.ref b3), .val (.ref b37), .val (.ref b88), .val (.int ((8 : Int32) * (Int32.ofNat at_))), .val (.int ((r_141.toInt32) + (1 : Int32))), .val (.int ((r_145.toInt32) + (1 : Int32))), .val (.int ((r_149.toInt32) + (1 : Int32)))] [(.int (1 : Int32))])) tz → Steps p.tables e below (T195.setTop (mkF m 538 #[.val (.long q0), .second, .val (.long q1), .second, .val (.long q2), .second, .val (.long q3), .second, .val (.int p4), .val (.int p5), .val (.int (Int32.ofNat nb)), .val (.int (Int32.ofNat fr)), .val (.int (Int32.ofNat cnt)), .val (.int (Int32.ofNat ia)), .val (.int (Int32.ofNat at_)), .val (.ref b3), .val (.ref b37), .val (.ref b88), .val (.int ((8 : Int32) * (Int32.ofNat at_))), .val (.int ((r_141.toInt32) + (1 : Int32))), .val (.int ((r_145.toInt32) + (1 : Int32))), .val (.int ((r_149.toInt32) + (1 : Int32)))] [(.int (own_exp (7 : Int32) (Int32.ofNat ia) (Int32.ofNat cnt) p5 ((r_141.toInt32) + (1 : Int32)) ((r_145.toInt32) + (1 : Int32)) ((r_149.toInt32) + (1 : Int32)))), (.int ((own_fill (fun _ => p5) ia (own_R r_141 r_145 r_149) cnt) 7))])) tz := by
    intro tz kz
    refine XS.icmpNo X195.here hx rfl (hb hby at_538) rfl (teq (own_fin hcnt hia 7 (by decide))).2 ?_
    show Steps p.tables e below (T195.setTop (mkF m 541 #[.val (.long q0), .second, .val (.long q1), .second, .val (.long q2), .second, .val (.long q3), .second, .val (.int p4), .val (.int p5), .val (.int (Int32.ofNat nb)), .val (.int (Int32.ofNat fr)), .val (.int (Int32.ofNat cnt)), .val (.int (Int32.ofNat ia)), .val (.int (Int32.ofNat at_)), .val (.ref b3), .val (.ref b37), .val (.ref b88), .val (.int ((8 : Int32) * (Int32.ofNat at_))), .val (.int ((r_141.toInt32) + (1 : Int32))), .val (.int ((r_145.toInt32) + (1 : Int32))), .val (.int ((r_149.toInt32) + (1 : Int32)))] [])) _
    refine XS.iconst X195.here hx rfl (hb hby at_541) ?_
    show Steps p.tables e below (T195.setTop (mkF m 542 #[.val (.long q0), .second, .val (.long q1), .second, .val (.long q2), .second, .val (.long q3), .second, .val (.int p4), .val (.int p5), .val (.int (Int32.ofNat nb)), .val (.int (Int32.ofNat fr)), .val (.int (Int32.ofNat cnt)), .val (.int (Int32.ofNat ia)), .val (.int (Int32.ofNat at_)), .val (.ref b3), .val (.ref b37), .val (.ref b88), .val (.int ((8 : Int32) * (Int32.ofNat at_))), .val (.int ((r_141.toInt32) + (1 : Int32))), .val (.int ((r_145.toInt32) + (1 : Int32))), .val (.int ((r_149.toInt32) + (1 : Int32)))] [(.int (1 : Int32))])) _
    refine XS.goto X195.here hx rfl (pc0 := 542) (pc' := 546) rfl (hb hby at_542) (by decide) (by decide) ?_
    exact kz
  refine OG.step s197 ?_
  exact OG.retZ X195 hx hlk Bd.returns (hb hby at_546) (nar_1) e195 ⟨rfl, N195⟩ (by decide) (by decide)
set_option maxRecDepth 65536 in
set_option maxHeartbeats 40000000 in
theorem comes_1 {Post : Tables → Env → Array Value → State → Outcome → State → Prop} (hpost : ∀ tb e args s v u, (limb_1_1.after args s (.returned v) u = true ∧ limb_1_2.after args s (.returned v) u = true ∧ True) → FrameEnd s (.returned v) u (Jvm.fieldLocs frame_1_writes args s ++ Jvm.arrayLocs frame_1_arrays args s ++ Jvm.staticLocs frame_1_statics s) 16 256 → Post tb e args s (.returned v) u) :
    ArmFor flags0 classFile x code maxLocals ret World_1 tables_1 room_1 Calls_1 rest_1 Pre_1 Post := by
  intro l hfl _ _ p e ha hc hk s m args below hf hA hF happ hP
  obtain ⟨hcalls, hrest, hpre⟩ := hP
  obtain ⟨-, -, -, hnamed, -, -, -, hat⟩ := (Spec.applies_iff hf).mp happ
  obtain ⟨hg, hn⟩ := and_e (Cond.before_iff.mp (show (Jvm.Cond.and given_1 narrow_1).before args s = true from hpre))
  obtain ⟨hcount, hg0⟩ := and_e hg
  obtain ⟨ha0, hg1⟩ := and_e hg0
  obtain ⟨ha1, hg2⟩ := and_e hg1
  obtain ⟨ha2, hg3⟩ := and_e hg2
  obtain ⟨ha3, hg4⟩ := and_e hg3
  obtain ⟨ha4, hg5⟩ := and_e hg4
  obtain ⟨w0, w1, w2, w3, w4, w5, rfl⟩ : ∃ w0 w1 w2 w3 w4 w5 : Value, args = #[w0, w1, w2, w3, w4, w5] := by
    have hs : args.size = 6 := by simpa [Cond.value, given_1] using hcount
    obtain ⟨L⟩ := args
    match L, hs with
    | [w0, w1, w2, w3, w4, w5], _ => exact ⟨w0, w1, w2, w3, w4, w5, rfl⟩
  have hw := fun d (hd : d ∈ tables_1) => atoms_spec (ws := Jvm.Cond.code x code maxLocals ret :: tables_1) hat d (List.mem_cons_of_mem _ hd)
  obtain ⟨i0, ei0⟩ := isL_v ha0
  obtain rfl : w0 = (.long i0) := Option.some.inj ei0
  obtain ⟨i1, ei1⟩ := isL_v ha1
  obtain rfl : w1 = (.long i1) := Option.some.inj ei1
  obtain ⟨i2, ei2⟩ := isL_v ha2
  obtain rfl : w2 = (.long i2) := Option.some.inj ei2
  obtain ⟨i3, ei3⟩ := isL_v ha3
  obtain rfl : w3 = (.long i3) := Option.some.inj ei3
  obtain ⟨i4, ei4⟩ := is_v ha4
  obtain rfl : w4 = (.int i4) := Option.some.inj ei4
  obtain ⟨i5, ei5⟩ := is_v hg5
  obtain rfl : w5 = (.int i5) := Option.some.inj ei5
  obtain ⟨n, o, h1, h2, h3, _, L, rfl, ⟨rfl, N⟩, hq⟩ := rm0 l s _ hw tables_1 i0 i1 i2 i3 i4 i5 s.heap s.heap.size (Nat.le_refl _) p e ha hc hk s m _ below hf ((Spec.applies_iff_loose hf).mp happ).1 ⟨rfl, State.Warmed39.refl s, rfl⟩ trivial
  refine ⟨n, _, h1, h2, h3, hpost _ _ _ _ _ _ ⟨Cond.after_iff.mpr rfl, Cond.after_iff.mpr (eq_i res_at (Term.int_eval (1)) rfl), trivial⟩ ⟨hq.1, hq.2.1, (hq.2.2.sift fun y hy => Or.inr (N y hy)).mono (by decide) (by decide)⟩⟩
theorem main_1_1 : Claimed_1_1 := comes_1 fun _ _ _ _ _ _ h hF => ⟨h.1, hF⟩
theorem main_1_2 : Claimed_1_2 := comes_1 fun _ _ _ _ _ _ h hF => ⟨h.2.1, hF⟩
end Jvm.Pilot.@@N@@
namespace Jvm.Pilot.@@N@@
open Jvm Jvm.ClassFile Sem Op Lib Jvm.Free Jvm.Stand Jvm.Pilot.@@N@@.Jvm.D
/-! MADE BY PROGRAM (witnessworld.py) out of the Statement's table words and the real class files: 11 classes; the members and pool entries that the words name. The judged class is class 1, her method 1. -/
namespace start1
open Jvm.ClassFile
def u (s : String) : CpInfo := .utf8 (stringToUtf16 s)
/-- a pool by its gaps: so many unusable entries, then the entry; so many at the end -/
def gap : Nat → List CpInfo → List CpInfo
  | 0, r => r
  | n + 1, r => .unusable :: gap n r
def poolList (es : List (Nat × CpInfo)) (last : Nat) : List CpInfo := es.foldr (fun e r => gap e.1 (e.2 :: r)) (gap last [])
def pool (es : List (Nat × CpInfo)) (last : Nat) : Array CpInfo := ⟨poolList es last⟩
def fileOf (pool : Array CpInfo) (this : Nat) (attrs : Array Attribute := #[]) (ms : Array MethodInfo := #[]) (fl : Nat := 33) (sup : Nat := 0) (ifs : Array Nat := #[]) (fds : Array FieldInfo := #[]) : ClassFile where
  minorVersion := 0
  majorVersion := 65
  constantPool := pool
  accessFlags := fl
  thisClass := this
  superClass := sup
  interfaces := ifs
  fields := fds
  methods := ms
  attributes := attrs
def plain (name : String) (sup : Option ClassId) : Class where
  name := name
  kind := .ordinary
  loader := none
  accessFlags := 33
  super := sup
  interfaces := #[]
  cf := none
  fields := #[]
  methods := #[]
  instanceTypes := #[]
  staticTypes := #[]
  resolved := #[]
  callSites := []
  init := .initialized
  statics := none
  mirror := none

def pool0 : Array CpInfo := pool [(5, u "<init>"), (0, u "()V"), (1, .class_ 10), (1, u "java/lang/Object")] 113

def k0m0 : Method := { name := "<init>", desc := "()V", sig := { parameters := [], returnType := none }, accessFlags := 1, code := none }
/-- java/lang/Object -/
def k0 : Class := { plain "java/lang/Object" none with
  accessFlags := 33
  interfaces := #[]
  cf := some (fileOf pool0 8 #[] #[{ accessFlags := 1, nameIndex := 5, descriptorIndex := 6, attributes := #[] }] 33 0 #[] #[])
  fields := #[]
  methods := #[k0m0]
  instanceTypes := #[]
  staticTypes := #[]
  resolved := Array.replicate 124 none
  statics := none }

def pool1 : Array CpInfo := pool [(2, .class_ 4), (1, u "java/lang/Object"), (0, u "<init>"), (0, u "()V"), (0, .long 18446744073709551615), (1, .methodref 10 11), (0, .class_ 12), (0, .nameAndType 13 14), (0, u "com/example/strata/strata/PostingsUnpackTimesPinLaw"), (0, u "put"), (0, u "([BIJ)V"), (0, .methodref 10 16), (0, .nameAndType 17 18), (0, u "field"), (0, u "([JII)J"), (0, .methodref 20 21), (0, .class_ 22), (0, .nameAndType 23 24), (0, u "com/example/strata/strata/Postings"), (0, u "unpackTimes"), (0, u "([BIIII[II)V"), (0, .methodref 10 26), (0, .nameAndType 27 28), (0, u "expected"), (0, u "(IIIIIII)I"), (2, u "law"), (0, u "(JJJJII)Z")] 9

def k1m0 : Method := { name := "<init>", desc := "()V", sig := { parameters := [], returnType := none }, accessFlags := 2, code := none }
def k1c1 : Code := { maxStack := 8, maxLocals := 22, code := code, exceptionTable := #[], attributes := #[] }
def k1m1 : Method := { name := "law", desc := "(JJJJII)Z", sig := { parameters := [.long, .long, .long, .long, .int, .int], returnType := some .boolean }, accessFlags := 9, code := some k1c1 }
def k1c2 : Code := { maxStack := 5, maxLocals := 4, code := method_3_code, exceptionTable := #[], attributes := #[] }
def k1m2 : Method := { name := "put", desc := "([BIJ)V", sig := { parameters := [(.array .byte), .int, .long], returnType := none }, accessFlags := 10, code := some k1c2 }
def k1c3 : Code := { maxStack := 6, maxLocals := 7, code := method_4_code, exceptionTable := #[], attributes := #[] }
def k1m3 : Method := { name := "field", desc := "([JII)J", sig := { parameters := [(.array .long), .int, .int], returnType := some .long }, accessFlags := 10, code := some k1c3 }
def k1c4 : Code := { maxStack := 2, maxLocals := 8, code := method_5_code, exceptionTable := #[], attributes := #[] }
def k1m4 : Method := { name := "expected", desc := "(IIIIIII)I", sig := { parameters := [.int, .int, .int, .int, .int, .int, .int], returnType := some .int }, accessFlags := 10, code := some k1c4 }
/-- com/example/strata/strata/PostingsUnpackTimesPinLaw -/
def k1 : Class := { plain "com/example/strata/strata/PostingsUnpackTimesPinLaw" (some 0) with
  accessFlags := 49
  interfaces := #[]
  cf := some (fileOf pool1 10 #[] #[{ accessFlags := 2, nameIndex := 5, descriptorIndex := 6, attributes := #[] }, { accessFlags := 9, nameIndex := 31, descriptorIndex := 32, attributes := #[] }, { accessFlags := 10, nameIndex := 13, descriptorIndex := 14, attributes := #[] }, { accessFlags := 10, nameIndex := 17, descriptorIndex := 18, attributes := #[] }, { accessFlags := 10, nameIndex := 27, descriptorIndex := 28, attributes := #[] }] 49 2 #[] #[])
  fields := #[]
  methods := #[k1m0, k1m1, k1m2, k1m3, k1m4]
  instanceTypes := #[]
  staticTypes := #[]
  resolved := Array.replicate 42 none
  statics := none }

def pool2 : Array CpInfo := pool [(6, .class_ 8), (1, u "java/lang/Object"), (0, u "<init>"), (0, u "()V"), (1, .class_ 14), (1, u "com/example/strata/strata/Postings"), (24, .class_ 41), (1, u "com/example/strata/strata/Postings$WordView"), (8, .long 255), (1, u "PACKED_SLACK"), (0, u "I"), (2, u "MOST_LISTED_BYTES"), (1, u "MAX_TIMES_BITS"), (14, u "unpackTimes"), (0, u "([BIIII[II)V"), (7, .class_ 83), (0, u "com/example/strata/strata/Postings$Writer"), (0, .class_ 85), (0, u "com/example/strata/strata/Postings$TermPostings")] 4

def k2m0 : Method := { name := "<init>", desc := "()V", sig := { parameters := [], returnType := none }, accessFlags := 2, code := none }
def k2c1 : Code := { maxStack := 6, maxLocals := 14, code := prog_89_method_11_code, exceptionTable := #[], attributes := #[] }
def k2m1 : Method := { name := "unpackTimes", desc := "([BIIII[II)V", sig := { parameters := [(.array .byte), .int, .int, .int, .int, (.array .int), .int], returnType := none }, accessFlags := 8, code := some k2c1 }
/-- com/example/strata/strata/Postings -/
def k2 : Class := { plain "com/example/strata/strata/Postings" (some 0) with
  accessFlags := 48
  interfaces := #[]
  cf := some (fileOf pool2 12 #[.nestMembers #[82, 39, 84]] #[{ accessFlags := 2, nameIndex := 9, descriptorIndex := 10, attributes := #[] }, { accessFlags := 8, nameIndex := 73, descriptorIndex := 74, attributes := #[] }] 48 6 #[] #[{ accessFlags := 24, nameIndex := 52, descriptorIndex := 53, attributes := #[] }, { accessFlags := 24, nameIndex := 56, descriptorIndex := 53, attributes := #[] }, { accessFlags := 26, nameIndex := 58, descriptorIndex := 53, attributes := #[] }])
  fields := #[{ name := "PACKED_SLACK", type := .int, accessFlags := 24, slot := 0, constantValue := 0 }, { name := "MOST_LISTED_BYTES", type := .int, accessFlags := 24, slot := 1, constantValue := 0 }, { name := "MAX_TIMES_BITS", type := .int, accessFlags := 26, slot := 2, constantValue := 0 }]
  methods := #[k2m0, k2m1]
  instanceTypes := #[]
  staticTypes := #[.int, .int, .int]
  resolved := Array.replicate 90 none
  statics := none }

def pool3 : Array CpInfo := pool [(1, u "java/lang/Cloneable"), (0, .class_ 1), (0, u "java/lang/Object"), (0, .class_ 3)] 3

/-- java/lang/Cloneable -/
def k3 : Class := { plain "java/lang/Cloneable" (some 0) with
  accessFlags := 1537
  interfaces := #[]
  cf := some (fileOf pool3 2 #[] #[] 1537 4 #[] #[])
  fields := #[]
  methods := #[]
  instanceTypes := #[]
  staticTypes := #[]
  resolved := Array.replicate 8 none
  statics := none }

def pool4 : Array CpInfo := pool [(1, u "java/io/Serializable"), (0, .class_ 1), (0, u "java/lang/Object"), (0, .class_ 3)] 3

/-- java/io/Serializable -/
def k4 : Class := { plain "java/io/Serializable" (some 0) with
  accessFlags := 1537
  interfaces := #[]
  cf := some (fileOf pool4 2 #[] #[] 1537 4 #[] #[])
  fields := #[]
  methods := #[]
  instanceTypes := #[]
  staticTypes := #[]
  resolved := Array.replicate 8 none
  statics := none }

/-- the primitive byte -/
def k5 : Class := { plain "byte" none with kind := .primitive 'B', accessFlags := 0x411 }
/-- [B -/
def k6 : Class := { plain "[B" (some 0) with kind := .array 5 .byte, interfaces := #[3, 4], accessFlags := 1041 }

/-- the primitive int -/
def k7 : Class := { plain "int" none with kind := .primitive 'I', accessFlags := 0x411 }
/-- [I -/
def k8 : Class := { plain "[I" (some 0) with kind := .array 7 .int, interfaces := #[3, 4], accessFlags := 1041 }

/-- the primitive long -/
def k9 : Class := { plain "long" none with kind := .primitive 'J', accessFlags := 0x411 }
/-- [J -/
def k10 : Class := { plain "[J" (some 0) with kind := .array 9 .long, interfaces := #[3, 4], accessFlags := 1041 }

def heap : Heap := #[]
def classes : Array Class := #[k0, k1, k2, k3, k4, k5, k6, k7, k8, k9, k10]
def interned : List (Array UInt16 × Addr) := []
def slotsUsed : Nat := 0
def theMethod : MethodId := ⟨1, 1⟩
def args0 : Array Value := #[.long 5, .long 7, .long 5, .long 7, .int 3, .int 4]
def aboutOver (below : List Frame) : State where
  vm := { classes := classes, interned := interned.toArray }
  heap := heap
  slotsUsed := slotsUsed
  threads := #[{ frames := .invoking theMethod args0 :: below }]
def below0 : List Frame := [.native { method := ⟨0, 0⟩, args := #[] }]
def about1 : State := aboutOver below0
def p0 : Program := .bare "" "" ""
def e0 : Env := launch0.env 0 0 0
theorem w_frames : about1.frames = Frame.invoking theMethod args0 :: below0 := rfl
set_option maxRecDepth 65536 in
theorem w_args : argsFit about1.vm theMethod args0 = true := by decide +kernel
set_option maxRecDepth 65536 in
theorem w_heap : heapFits about1 = true := by decide +kernel
set_option maxRecDepth 65536 in
theorem w_runnable : about1.curStatus? = some .runnable := by decide +kernel
set_option maxRecDepth 65536 in
theorem w_alone : about1.alone = true := by decide +kernel
set_option maxRecDepth 65536 in
theorem w_named : about1.methodNamed? x = some theMethod := by decide +kernel
set_option maxRecDepth 65536 in
theorem w_hears : about1.hears theMethod below0 = true := by decide +kernel
set_option maxRecDepth 65536 in
theorem w_ripe : about1.ripe theMethod args0 below0 = true := by decide +kernel
theorem w_running : about1.status = .running := rfl
set_option maxRecDepth 65536 in
theorem w_room : about1.hasRoom e0.platform room_1 = true :=
  launch0.hasRoom_least _ room_1 (by decide +kernel) (by decide +kernel) (by decide +kernel) (by decide +kernel) (by decide +kernel) (by decide +kernel)
theorem allAtoms_all (ts : List Jvm.Cond) (a : Array Jvm.Value) (st : Jvm.State) : (allAtoms ts).before a st = ts.all (fun c => c.before a st) := by
  induction ts with
  | nil => rfl
  | cons c t ih =>
    show (Jvm.Cond.and c (allAtoms t)).before a st = _
    rw [Jvm.Cond.before_and, ih, List.all_cons]
def words1 : List Jvm.Cond := Jvm.Cond.code x code maxLocals ret :: tables_1
/-- a 'code' word, met by the world's own term for the bytes: nothing is compared byte by byte -/
theorem code_word {y : MethodName} {bytes : ByteArray} {mx : Nat} {rt : Option FieldType} {a : Array Value} {s : State} {m : MethodId} {meth : Method} {c : Code} (h1 : s.methodNamed? y = some m) (h2 : s.vm.method? m = some meth) (h3 : meth.code = some c) (h4 : c.code = bytes)
    (h5 : (c.maxLocals == mx && c.exceptionTable.isEmpty && decide (c.maxStack ≤ mostOperands) && decide (meth.sig.returnType = rt) && !meth.locks && decide (parseMethodDescriptor y.desc = some meth.sig)) = true) : (Jvm.Cond.code y bytes mx rt).before a s = true := by
  simp only [Bool.and_eq_true, beq_iff_eq, Bool.not_eq_true', decide_eq_true_eq] at h5
  obtain ⟨⟨⟨⟨⟨g1, g2⟩, g3⟩, g4⟩, g5⟩, g6⟩ := h5
  simp [Cond.before, Cond.holds, Cond.value, h1, h2, h3, h4, g1, g2, g3, g4, g5, g6]
def isCode : Jvm.Cond → Bool
  | .code _ _ _ _ => true
  | _ => false
theorem all_split {L : List Jvm.Cond} {P : Jvm.Cond → Bool} (h1 : L.all (fun c => isCode c || P c) = true) (h2 : ∀ c ∈ L.filter isCode, P c = true) : L.all P = true := by
  refine List.all_eq_true.mpr fun c hc => ?_
  have h := List.all_eq_true.mp h1 c hc
  rcases Bool.eq_false_or_eq_true (isCode c) with hi | hi
  · exact h2 c (List.mem_filter.mpr ⟨hc, hi⟩)
  · simpa [hi] using h
set_option maxRecDepth 65536 in
theorem w_c0 : (Jvm.Cond.code x code maxLocals ret).before args0 about1 = true := code_word (m := ⟨1, 1⟩) (meth := k1m1) (c := k1c1) (by decide +kernel) rfl rfl rfl (by decide +kernel)
set_option maxRecDepth 65536 in
theorem w_c1 : (Jvm.Cond.code ({ cls := "com/example/strata/strata/PostingsUnpackTimesPinLaw", name := "put", desc := "([BIJ)V" } : Jvm.MethodName) method_3_code (4 : Nat) (Option.none : Option Jvm.ClassFile.FieldType)).before args0 about1 = true := code_word (m := ⟨1, 2⟩) (meth := k1m2) (c := k1c2) (by decide +kernel) rfl rfl rfl (by decide +kernel)
set_option maxRecDepth 65536 in
theorem w_c2 : (Jvm.Cond.code ({ cls := "com/example/strata/strata/PostingsUnpackTimesPinLaw", name := "field", desc := "([JII)J" } : Jvm.MethodName) method_4_code (7 : Nat) (Option.some Jvm.ClassFile.FieldType.long)).before args0 about1 = true := code_word (m := ⟨1, 3⟩) (meth := k1m3) (c := k1c3) (by decide +kernel) rfl rfl rfl (by decide +kernel)
set_option maxRecDepth 65536 in
theorem w_c3 : (Jvm.Cond.code ({ cls := "com/example/strata/strata/Postings", name := "unpackTimes", desc := "([BIIII[II)V" } : Jvm.MethodName) prog_89_method_11_code (14 : Nat) (Option.none : Option Jvm.ClassFile.FieldType)).before args0 about1 = true := code_word (m := ⟨2, 1⟩) (meth := k2m1) (c := k2c1) (by decide +kernel) rfl rfl rfl (by decide +kernel)
set_option maxRecDepth 65536 in
theorem w_c4 : (Jvm.Cond.code ({ cls := "com/example/strata/strata/PostingsUnpackTimesPinLaw", name := "expected", desc := "(IIIIIII)I" } : Jvm.MethodName) method_5_code (8 : Nat) (Option.some Jvm.ClassFile.FieldType.int)).before args0 about1 = true := code_word (m := ⟨1, 4⟩) (meth := k1m4) (c := k1c4) (by decide +kernel) rfl rfl rfl (by decide +kernel)
def codes1 : List Jvm.Cond := [Jvm.Cond.code x code maxLocals ret, Jvm.Cond.code ({ cls := "com/example/strata/strata/PostingsUnpackTimesPinLaw", name := "put", desc := "([BIJ)V" } : Jvm.MethodName) method_3_code (4 : Nat) (Option.none : Option Jvm.ClassFile.FieldType), Jvm.Cond.code ({ cls := "com/example/strata/strata/PostingsUnpackTimesPinLaw", name := "field", desc := "([JII)J" } : Jvm.MethodName) method_4_code (7 : Nat) (Option.some Jvm.ClassFile.FieldType.long), Jvm.Cond.code ({ cls := "com/example/strata/strata/Postings", name := "unpackTimes", desc := "([BIIII[II)V" } : Jvm.MethodName) prog_89_method_11_code (14 : Nat) (Option.none : Option Jvm.ClassFile.FieldType), Jvm.Cond.code ({ cls := "com/example/strata/strata/PostingsUnpackTimesPinLaw", name := "expected", desc := "(IIIIIII)I" } : Jvm.MethodName) method_5_code (8 : Nat) (Option.some Jvm.ClassFile.FieldType.int)]
set_option maxRecDepth 65536 in
theorem codes_eq : words1.filter isCode = codes1 := rfl
theorem w_codes : ∀ c ∈ words1.filter isCode, c.before args0 about1 = true := by
  rw [codes_eq]
  intro c hc
  simp only [codes1, List.mem_cons, List.not_mem_nil, or_false] at hc
  rcases hc with rfl | rfl | rfl | rfl | rfl
  · exact w_c0
  · exact w_c1
  · exact w_c2
  · exact w_c3
  · exact w_c4
set_option maxRecDepth 65536 in
theorem w_t1 : words1.all (fun c => isCode c || c.before args0 about1) = true := by decide +kernel
theorem w_tables : (allAtoms (Jvm.Cond.code x code maxLocals ret :: tables_1)).before args0 about1 = true := by
  rw [allAtoms_all]
  show words1.all (fun c => c.before args0 about1) = true
  refine all_split ?_ w_codes
  rw [w_t1]
set_option maxRecDepth 65536 in
theorem w_case : (Jvm.Cond.and given_1 narrow_1).before args0 about1 = true := by decide +kernel
theorem w_applies : (headSpec (Jvm.Cond.code x code maxLocals ret :: tables_1) room_1).applies x e0.platform about1 = true :=
  (Spec.applies_iff w_frames).mpr ⟨w_running, w_runnable, w_alone, w_named, w_hears, w_ripe, w_room, w_tables⟩
theorem atStart : AtStart classFile x code maxLocals ret World_1 tables_1 room_1 Calls_1 rest_1 Pre_1 launch0 p0 e0 about1 theMethod args0 below0 :=
  ⟨lists_1, trivial, launch0.admits_env _ _ _, launch0.least_env, fairChoices_fair.cas, fairChoices_fair.clock, w_frames, w_args, w_heap, w_applies, trivial, trivial, w_case⟩
end start1
theorem witness_1 : WitnessClaimed_1 := ⟨start1.p0, start1.e0, start1.about1, start1.theMethod, start1.args0, start1.below0, start1.atStart⟩
end Jvm.Pilot.@@N@@
