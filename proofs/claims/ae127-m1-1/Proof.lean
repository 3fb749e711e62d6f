import JvmDerived
import JvmDerived.Pilot.@@N@@Statement
import JvmDerived.Pilot.@@N@@Code
set_option linter.unusedVariables false
set_option linter.unusedSimpArgs false
namespace Jvm.RoadKit
open Sem ClassFile Op Lib Jvm.Stand Jvm.Free Jvm.LawKit
section New
variable {p : Program} {l : Launch} {e : Env} {R : Room} {s : State} {m : MethodId} {args : Array Value} {below : List Frame} {meth : Method} {c : Code} {T : State} {locs : List Loc} {cells slots : Nat}
theorem retI (X : Stand p l e R s m args below meth c T locs cells slots) (hx : p.tables.exec = Jvm.exec) {pc : Nat} {Ls : Array Slot} {z : Int32} {rest : List Value} (hret : meth.sig.returnType = some .int) (hd : decode c.code pc = .ok (.ireturn, 1)) {fs : List Frame}
    (hl : ∀ (f : JFrame) (acts : List Action), f.method = m → f.locked = none → f.entered = [] → (doReturn e (T.setTop f) acts (some (.int z))).1 = T.setFrames fs) : Steps p.tables e below (T.setTop (mkF m pc Ls (.int z :: rest))) (T.setFrames fs) := by
  have hm' : T.vm.method? m = some meth := X.method'
  have hn : narrow .int (.int z) = .int z := rfl
  show Steps p.tables e below (T.setTop { method := m, pc := pc, locals := Ls, stack := _ :: rest, locked := none }) _
  jvm_step X.here [X.here.top, hx, hd, hm', hret, hn]
  first | (intro acts; rw [hl _ acts rfl rfl rfl]) | rw [hl _ _ rfl rfl rfl]
  exact Steps.refl _
end New
end Jvm.RoadKit
namespace Jvm.Pilot.@@N@@
open Jvm Jvm.ClassFile Sem Op Lib Jvm.Free Jvm.Stand Jvm.LawKit Jvm.RoadKit Bundle Jvm.Pilot.@@N@@.Jvm.D
/-- from u the invocation ends, and what it returns and leaves is as Q says -/
def Ends (p : Program) (e : Env) (below : List Frame) (s : State) (kc ks : Nat) (Q : Option Value → Heap → List Loc → Prop) (u : State) : Prop :=
  ∃ s₂ o, Steps p.tables e below u s₂ ∧ s₂.status = .running ∧ Ended s₂ below o ∧ ∃ v L, o = .returned v ∧ Q v s₂.heap L ∧ FrameEnd s o s₂ L kc ks
theorem Ends.via {p : Program} {e : Env} {below : List Frame} {s : State} {kc ks : Nat} {Q : Option Value → Heap → List Loc → Prop} {A B : State} (h : ∀ t, Steps p.tables e below A t → Steps p.tables e below B t) (k : Ends p e below s kc ks Q A) : Ends p e below s kc ks Q B := by
  obtain ⟨s₂, o, h1, r⟩ := k
  exact ⟨s₂, o, h _ h1, r⟩
theorem Ends.ret {p : Program} {l : Launch} {e : Env} {R : Room} {s : State} {m : MethodId} {args : Array Value} {below : List Frame} {meth : Method} {c : Code} {T : State} {locs : List Loc} {cells slots kc ks : Nat} {Q : Option Value → Heap → List Loc → Prop} {u : State}
    (X : Stand p l e R s m args below meth c T locs cells slots) {v : Option Value} (hv : meth.sig.returnType = none → v = none) (hlocks : meth.locks = false)
    (hst : ∀ fs, (∀ (f : JFrame) (acts : List Action), f.method = m → f.locked = none → f.entered = [] → (doReturn e (T.setTop f) acts v).1 = T.setFrames fs) → Steps p.tables e below u (T.setFrames fs))
    (hQ : Q v T.heap locs) (h1 : cells ≤ kc) (h2 : slots ≤ ks) : Ends p e below s kc ks Q u := by
  obtain ⟨fs, hr, hrun, hended, hW, hsame⟩ := X.leave (v := v) hv hlocks
  exact ⟨_, _, hst fs hr, hrun, hended, _, _, rfl, hQ, ⟨_, rfl⟩, hW, hsame.mono h1 h2⟩

def own_zero : List Int32 := [0, 0, 0, 0, 0, 0, 0, 0, 0, 0, 0, 0]
def own_base (s : Int32) : List Int32 := (List.set (List.set (List.set (List.set (List.set (List.set (List.set (List.set (List.set (List.set (List.set (List.set own_zero (0 : Int32).toNatClampNeg (nar .byte s)) (1 : Int32).toNatClampNeg (nar .byte s)) (2 : Int32).toNatClampNeg (nar .byte s)) (3 : Int32).toNatClampNeg (nar .byte s)) (4 : Int32).toNatClampNeg (nar .byte s)) (5 : Int32).toNatClampNeg (nar .byte s)) (6 : Int32).toNatClampNeg (nar .byte s)) (7 : Int32).toNatClampNeg (nar .byte s)) (8 : Int32).toNatClampNeg (nar .byte s)) (9 : Int32).toNatClampNeg (nar .byte s)) (10 : Int32).toNatClampNeg (nar .byte s)) (11 : Int32).toNatClampNeg (nar .byte s))
def own_B (Z : State) (h : Heap) (a : Addr) (k : ClassId) (us : List Int32) : Prop := Arv Z h a k .byte (12 : Int32) (us.map Value.int) (.int (0 : Int32)) ∧ us.length = 12
theorem own_B.lt {Z : State} {h : Heap} {a : Addr} {k : ClassId} {us : List Int32} (F : own_B Z h a k us) : a < h.size := F.1.lt
theorem own_B.ext {Z : State} {h h' : Heap} {a : Addr} {k : ClassId} {us : List Int32} (F : own_B Z h a k us) (E : Ext h h') : own_B Z h' a k us := ⟨F.1.ext E, F.2⟩
theorem own_B.other {Z : State} {h h' : Heap} {a b : Addr} {k : ClassId} {us : List Int32} {sl : Nat} {v : Value} (F : own_B Z h b k us) (W : Wr h h' a sl v) (q : b ≠ a) : own_B Z h' b k us := ⟨F.1.other W q, F.2⟩
theorem own_B.keep {Z : State} {h h' : Heap} {a : Addr} {k : ClassId} {us : List Int32} {ws : List Addr} (F : own_B Z h a k us) (K : Keep h h' ws) (q : a ∉ ws) : own_B Z h' a k us := ⟨F.1.keep K q, F.2⟩
theorem own_n12 {j : Int32} (hj : ¬ j < 0 ∧ j < 12) : j.toNatClampNeg < 12 := by
  have e : j.toNatClampNeg = j.toInt.toNat := rfl
  have e0 : (0 : Int32).toInt = 0 := rfl
  have e1 : (12 : Int32).toInt = 12 := rfl
  rw [Int32.lt_iff_toInt_lt, Int32.lt_iff_toInt_lt] at hj; omega
theorem own_stB {p : Program} {l : Launch} {e : Env} {R : Room} {s : State} {m : MethodId} {args : Array Value} {below : List Frame} {meth : Method} {c : Code} {T : State} {locs : List Loc} {cells slots : Nat} {Z : State} {h : Heap} {k : ClassId} {us : List Int32}
    (X : Stand p l e R s m args below meth c T locs cells slots) (hx : p.tables.exec = Jvm.exec) (hZ : Z.Warmed39 s.vm) (eT : T.heap = h) {a : Addr} (B : own_B Z h a k us) {j x : Int32} (hj : ¬ j < 0 ∧ j < 12) {g : JFrame} (hg : g.method = m) {rest : List Value} (hs : g.stack = .int x :: .int j :: .ref a :: rest) (hd : decode c.code g.pc = .ok (.bastore, 1)) :
    ∃ T' h', Stand p l e R s m args below meth c T' (locs ++ [⟨a, j.toNatClampNeg⟩]) cells slots ∧ T'.heap = h' ∧ Wr h h' a j.toNatClampNeg (.int (nar .byte x)) ∧ own_B Z h' a k (us.set j.toNatClampNeg (nar .byte x)) ∧ ∀ target, Steps p.tables e below (T'.setTop { g with pc := g.pc + 1, stack := rest }) target → Steps p.tables e below (T.setTop g) target := by
  obtain ⟨⟨cl, Ar, q, S, Ng, Hs, Gf⟩, hl⟩ := B
  obtain ⟨T', h', X', e', W, st⟩ := stB X hx hZ eT Ar (inb_of S hj) hg hs hd
  refine ⟨T', h', X', e', W, ⟨?_, by rw [List.length_set]; exact hl⟩, st⟩
  have V := Arv.set Ar q S Ng Hs Gf (fits_nar_byte x) W _ rfl (by rw [List.length_map, hl]; exact own_n12 hj)
  rw [List.map_set]; exact V
theorem own_atB {Z : State} {h : Heap} {a : Addr} {k : ClassId} {us : List Int32} (B : own_B Z h a k us) {j : Int32} (hj : ¬ j < 0 ∧ j < 12) (i : Nat) (hi : j.toNatClampNeg = i) : ∃ cl : Cell, Arr Z h a cl .byte ∧ ¬ (j < 0 ∨ cl.slots.size ≤ j.toNatClampNeg) ∧ cl.slots[j.toNatClampNeg]? = some (.int (us.getD i 0)) := by
  obtain ⟨⟨cl, Ar, q, S, Ng, Hs, Gf⟩, hl⟩ := B
  refine ⟨cl, Ar, inb_of S hj, Hs.at (inb_of S hj) ?_⟩
  rw [hi, List.getD_eq_getElem?_getD, List.getD_eq_getElem?_getD, List.getElem?_map]
  cases us[i]? <;> rfl
theorem own_cases (x : Int32) (h : 0 ≤ x.toInt) : (x.toInt < 128) ∨ (128 ≤ x.toInt ∧ x.toInt < 256) ∨ (256 ≤ x.toInt ∧ x.toInt < 65536) ∨ (65536 ≤ x.toInt ∧ x.toInt < 16777216) ∨ (16777216 ≤ x.toInt) := by omega
theorem own_at (p v : Int32) (h : (p &&& (7 : Int32)) = v) : 0 ≤ v.toInt ∧ v.toInt ≤ 7 := by
  have h1 := c_mask p 7 3 (by decide) (by decide)
  rw [h] at h1; omega
theorem own_len (p q v : Int32) (h : (((p &&& (2147483647 : Int32)).toUInt32 >>> ((q &&& (31 : Int32)) &&& 31).toUInt32).toInt32) = v) : 0 ≤ v.toInt := by
  have h1 := c_mask p 2147483647 31 (by decide) (by decide)
  have e1 : (p &&& (2147483647 : Int32)).toInt = (p &&& (2147483647 : Int32)).toBitVec.toInt := rfl
  have e2 := BitVec.toInt_eq_toNat_cond (p &&& (2147483647 : Int32)).toBitVec
  have e3 : v.toBitVec.toNat = (p &&& (2147483647 : Int32)).toBitVec.toNat >>> (((q &&& (31 : Int32)) &&& 31).toUInt32.toNat % 32) := by
    rw [← h]; show ((p &&& (2147483647 : Int32)).toUInt32 >>> ((q &&& (31 : Int32)) &&& 31).toUInt32).toNat = _
    rw [UInt32.toNat_shiftRight]; rfl
  have e4 : v.toBitVec.toNat ≤ (p &&& (2147483647 : Int32)).toBitVec.toNat := by rw [e3]; exact Nat.shiftRight_le _ _
  have e5 : v.toInt = v.toBitVec.toInt := rfl
  have e6 := BitVec.toInt_eq_toNat_cond v.toBitVec
  have l1 := (p &&& (2147483647 : Int32)).toBitVec.isLt
  split at e2 <;> split at e6 <;> omega
theorem own_in0 (a : Int32) (ha : 0 ≤ a.toInt ∧ a.toInt ≤ 7) : ¬ a < 0 ∧ a < 12 := by
  have e0 : (0 : Int32).toInt = 0 := rfl
  have e1 : (12 : Int32).toInt = 12 := rfl
  rw [Int32.lt_iff_toInt_lt, Int32.lt_iff_toInt_lt]; omega
theorem own_sum (a : Int32) (ha : 0 ≤ a.toInt ∧ a.toInt ≤ 7) (c : Int32) (n : Nat) (hc : c.toInt = n) (hn : n ≤ 4) : (a + c).toInt = a.toInt + n := by
  have h1 := c_iadd a c
  have r := rng32 (a + c)
  omega
theorem own_in (a : Int32) (ha : 0 ≤ a.toInt ∧ a.toInt ≤ 7) (c : Int32) (n : Nat) (hc : c.toInt = n) (hn : n ≤ 4) : ¬ (a + c) < 0 ∧ (a + c) < 12 := by
  have h1 := own_sum a ha c n hc hn
  have e0 : (0 : Int32).toInt = 0 := rfl
  have e1 : (12 : Int32).toInt = 12 := rfl
  rw [Int32.lt_iff_toInt_lt, Int32.lt_iff_toInt_lt]; omega
theorem own_sum2 (a : Int32) (ha : 0 ≤ a.toInt ∧ a.toInt ≤ 7) (c d : Int32) (n k : Nat) (hc : c.toInt = n) (hd : d.toInt = k) (hn : n ≤ 4) (hk : k ≤ n) : ((a + c) - d).toInt = a.toInt + n - k := by
  have h1 := own_sum a ha c n hc hn
  have h2 := c_isub (a + c) d
  have r := rng32 ((a + c) - d)
  omega
theorem own_in2 (a : Int32) (ha : 0 ≤ a.toInt ∧ a.toInt ≤ 7) (c d : Int32) (n k : Nat) (hc : c.toInt = n) (hd : d.toInt = k) (hn : n ≤ 4) (hk : k ≤ n) : ¬ ((a + c) - d) < 0 ∧ ((a + c) - d) < 12 := by
  have h1 := own_sum2 a ha c d n k hc hd hn hk
  have e0 : (0 : Int32).toInt = 0 := rfl
  have e1 : (12 : Int32).toInt = 12 := rfl
  rw [Int32.lt_iff_toInt_lt, Int32.lt_iff_toInt_lt]; omega
theorem own_b0_0 {x : Int32} (h : x.toInt < 128) : (x < (128 : Int32)) := by
  have e : (128 : Int32).toInt = 128 := rfl
  rw [Int32.lt_iff_toInt_lt, e]; omega
theorem own_b0_1 {x : Int32} (h : 128 ≤ x.toInt ∧ x.toInt < 256) : ¬ (x < (128 : Int32)) := by
  have e : (128 : Int32).toInt = 128 := rfl
  rw [Int32.lt_iff_toInt_lt, e]; omega
theorem own_b0_2 {x : Int32} (h : 256 ≤ x.toInt ∧ x.toInt < 65536) : ¬ (x < (128 : Int32)) := by
  have e : (128 : Int32).toInt = 128 := rfl
  rw [Int32.lt_iff_toInt_lt, e]; omega
theorem own_b0_3 {x : Int32} (h : 65536 ≤ x.toInt ∧ x.toInt < 16777216) : ¬ (x < (128 : Int32)) := by
  have e : (128 : Int32).toInt = 128 := rfl
  rw [Int32.lt_iff_toInt_lt, e]; omega
theorem own_b0_4 {x : Int32} (h : 16777216 ≤ x.toInt) : ¬ (x < (128 : Int32)) := by
  have e : (128 : Int32).toInt = 128 := rfl
  rw [Int32.lt_iff_toInt_lt, e]; omega
theorem own_b1_0 {x : Int32} (h : x.toInt < 128) : (x < (256 : Int32)) := by
  have e : (256 : Int32).toInt = 256 := rfl
  rw [Int32.lt_iff_toInt_lt, e]; omega
theorem own_b1_1 {x : Int32} (h : 128 ≤ x.toInt ∧ x.toInt < 256) : (x < (256 : Int32)) := by
  have e : (256 : Int32).toInt = 256 := rfl
  rw [Int32.lt_iff_toInt_lt, e]; omega
theorem own_b1_2 {x : Int32} (h : 256 ≤ x.toInt ∧ x.toInt < 65536) : ¬ (x < (256 : Int32)) := by
  have e : (256 : Int32).toInt = 256 := rfl
  rw [Int32.lt_iff_toInt_lt, e]; omega
theorem own_b1_3 {x : Int32} (h : 65536 ≤ x.toInt ∧ x.toInt < 16777216) : ¬ (x < (256 : Int32)) := by
  have e : (256 : Int32).toInt = 256 := rfl
  rw [Int32.lt_iff_toInt_lt, e]; omega
theorem own_b1_4 {x : Int32} (h : 16777216 ≤ x.toInt) : ¬ (x < (256 : Int32)) := by
  have e : (256 : Int32).toInt = 256 := rfl
  rw [Int32.lt_iff_toInt_lt, e]; omega
theorem own_b2_0 {x : Int32} (h : x.toInt < 128) : (x < (65536 : Int32)) := by
  have e : (65536 : Int32).toInt = 65536 := rfl
  rw [Int32.lt_iff_toInt_lt, e]; omega
theorem own_b2_1 {x : Int32} (h : 128 ≤ x.toInt ∧ x.toInt < 256) : (x < (65536 : Int32)) := by
  have e : (65536 : Int32).toInt = 65536 := rfl
  rw [Int32.lt_iff_toInt_lt, e]; omega
theorem own_b2_2 {x : Int32} (h : 256 ≤ x.toInt ∧ x.toInt < 65536) : (x < (65536 : Int32)) := by
  have e : (65536 : Int32).toInt = 65536 := rfl
  rw [Int32.lt_iff_toInt_lt, e]; omega
theorem own_b2_3 {x : Int32} (h : 65536 ≤ x.toInt ∧ x.toInt < 16777216) : ¬ (x < (65536 : Int32)) := by
  have e : (65536 : Int32).toInt = 65536 := rfl
  rw [Int32.lt_iff_toInt_lt, e]; omega
theorem own_b2_4 {x : Int32} (h : 16777216 ≤ x.toInt) : ¬ (x < (65536 : Int32)) := by
  have e : (65536 : Int32).toInt = 65536 := rfl
  rw [Int32.lt_iff_toInt_lt, e]; omega
theorem own_b3_0 {x : Int32} (h : x.toInt < 128) : (x < (16777216 : Int32)) := by
  have e : (16777216 : Int32).toInt = 16777216 := rfl
  rw [Int32.lt_iff_toInt_lt, e]; omega
theorem own_b3_1 {x : Int32} (h : 128 ≤ x.toInt ∧ x.toInt < 256) : (x < (16777216 : Int32)) := by
  have e : (16777216 : Int32).toInt = 16777216 := rfl
  rw [Int32.lt_iff_toInt_lt, e]; omega
theorem own_b3_2 {x : Int32} (h : 256 ≤ x.toInt ∧ x.toInt < 65536) : (x < (16777216 : Int32)) := by
  have e : (16777216 : Int32).toInt = 16777216 := rfl
  rw [Int32.lt_iff_toInt_lt, e]; omega
theorem own_b3_3 {x : Int32} (h : 65536 ≤ x.toInt ∧ x.toInt < 16777216) : (x < (16777216 : Int32)) := by
  have e : (16777216 : Int32).toInt = 16777216 := rfl
  rw [Int32.lt_iff_toInt_lt, e]; omega
theorem own_b3_4 {x : Int32} (h : 16777216 ≤ x.toInt) : ¬ (x < (16777216 : Int32)) := by
  have e : (16777216 : Int32).toInt = 16777216 := rfl
  rw [Int32.lt_iff_toInt_lt, e]; omega
theorem own_z1_1 (x : Int32) (h : 128 ≤ x.toInt ∧ x.toInt < 256) : (((x.toUInt32 >>> ((8 : Int32) &&& 31).toUInt32).toInt32) = (0 : Int32)) := by
  have h1 := c_iushr x 8 8 (by decide) (by decide)
  have e : (0 : Int32).toInt = 0 := rfl
  have r := rng32 x
  rw [← Int32.toInt_inj, h1, e]; omega
theorem own_z1_2 (x : Int32) (h : 256 ≤ x.toInt ∧ x.toInt < 65536) : ¬ (((x.toUInt32 >>> ((8 : Int32) &&& 31).toUInt32).toInt32) = (0 : Int32)) := by
  have h1 := c_iushr x 8 8 (by decide) (by decide)
  have e : (0 : Int32).toInt = 0 := rfl
  have r := rng32 x
  rw [← Int32.toInt_inj, h1, e]; omega
theorem own_z2_2 (x : Int32) (h : 256 ≤ x.toInt ∧ x.toInt < 65536) : (((x.toUInt32 >>> ((16 : Int32) &&& 31).toUInt32).toInt32) = (0 : Int32)) := by
  have h1 := c_iushr x 16 16 (by decide) (by decide)
  have e : (0 : Int32).toInt = 0 := rfl
  have r := rng32 x
  rw [← Int32.toInt_inj, h1, e]; omega
theorem own_z1_3 (x : Int32) (h : 65536 ≤ x.toInt ∧ x.toInt < 16777216) : ¬ (((x.toUInt32 >>> ((8 : Int32) &&& 31).toUInt32).toInt32) = (0 : Int32)) := by
  have h1 := c_iushr x 8 8 (by decide) (by decide)
  have e : (0 : Int32).toInt = 0 := rfl
  have r := rng32 x
  rw [← Int32.toInt_inj, h1, e]; omega
theorem own_z2_3 (x : Int32) (h : 65536 ≤ x.toInt ∧ x.toInt < 16777216) : ¬ (((x.toUInt32 >>> ((16 : Int32) &&& 31).toUInt32).toInt32) = (0 : Int32)) := by
  have h1 := c_iushr x 16 16 (by decide) (by decide)
  have e : (0 : Int32).toInt = 0 := rfl
  have r := rng32 x
  rw [← Int32.toInt_inj, h1, e]; omega
theorem own_z3_3 (x : Int32) (h : 65536 ≤ x.toInt ∧ x.toInt < 16777216) : (((x.toUInt32 >>> ((24 : Int32) &&& 31).toUInt32).toInt32) = (0 : Int32)) := by
  have h1 := c_iushr x 24 24 (by decide) (by decide)
  have e : (0 : Int32).toInt = 0 := rfl
  have r := rng32 x
  rw [← Int32.toInt_inj, h1, e]; omega
theorem own_z1_4 (x : Int32) (h : 16777216 ≤ x.toInt) : ¬ (((x.toUInt32 >>> ((8 : Int32) &&& 31).toUInt32).toInt32) = (0 : Int32)) := by
  have h1 := c_iushr x 8 8 (by decide) (by decide)
  have e : (0 : Int32).toInt = 0 := rfl
  have r := rng32 x
  rw [← Int32.toInt_inj, h1, e]; omega
theorem own_z2_4 (x : Int32) (h : 16777216 ≤ x.toInt) : ¬ (((x.toUInt32 >>> ((16 : Int32) &&& 31).toUInt32).toInt32) = (0 : Int32)) := by
  have h1 := c_iushr x 16 16 (by decide) (by decide)
  have e : (0 : Int32).toInt = 0 := rfl
  have r := rng32 x
  rw [← Int32.toInt_inj, h1, e]; omega
theorem own_z3_4 (x : Int32) (h : 16777216 ≤ x.toInt) : ¬ (((x.toUInt32 >>> ((24 : Int32) &&& 31).toUInt32).toInt32) = (0 : Int32)) := by
  have h1 := c_iushr x 24 24 (by decide) (by decide)
  have e : (0 : Int32).toInt = 0 := rfl
  have r := rng32 x
  rw [← Int32.toInt_inj, h1, e]; omega
def own_cn (x : Int32) : Int32 := if x < (128 : Int32) then 1 else if x < (256 : Int32) then 2 else if x < (65536 : Int32) then 3 else if x < (16777216 : Int32) then 4 else 5
theorem own_cn0 (x : Int32) (h : x.toInt < 128) : own_cn x = 1 := by rw [own_cn, if_pos (own_b0_0 h)]
theorem own_cn1 (x : Int32) (h : 128 ≤ x.toInt ∧ x.toInt < 256) : own_cn x = 2 := by rw [own_cn, if_neg (own_b0_1 h), if_pos (own_b1_1 h)]
theorem own_cn2 (x : Int32) (h : 256 ≤ x.toInt ∧ x.toInt < 65536) : own_cn x = 3 := by rw [own_cn, if_neg (own_b0_2 h), if_neg (own_b1_2 h), if_pos (own_b2_2 h)]
theorem own_cn3 (x : Int32) (h : 65536 ≤ x.toInt ∧ x.toInt < 16777216) : own_cn x = 4 := by rw [own_cn, if_neg (own_b0_3 h), if_neg (own_b1_3 h), if_neg (own_b2_3 h), if_pos (own_b3_3 h)]
theorem own_cn4 (x : Int32) (h : 16777216 ≤ x.toInt) : own_cn x = 5 := by rw [own_cn, if_neg (own_b0_4 h), if_neg (own_b1_4 h), if_neg (own_b2_4 h), if_neg (own_b3_4 h)]
def own_put (us : List Int32) (a x : Int32) : List Int32 := if x < (128 : Int32) then (List.set us (a).toNatClampNeg (nar .byte (x.toInt8.toInt32))) else if x < (256 : Int32) then (List.set (List.set us (a).toNatClampNeg (nar .byte ((129 : Int32).toInt8.toInt32))) (a + (1 : Int32)).toNatClampNeg (nar .byte (((x.toUInt32 >>> ((0 : Int32) &&& 31).toUInt32).toInt32).toInt8.toInt32))) else if x < (65536 : Int32) then (List.set (List.set (List.set us (a).toNatClampNeg (nar .byte ((130 : Int32).toInt8.toInt32))) (a + (1 : Int32)).toNatClampNeg (nar .byte (((x.toUInt32 >>> ((8 : Int32) &&& 31).toUInt32).toInt32).toInt8.toInt32))) (a + (2 : Int32)).toNatClampNeg (nar .byte (((x.toUInt32 >>> ((0 : Int32) &&& 31).toUInt32).toInt32).toInt8.toInt32))) else if x < (16777216 : Int32) then (List.set (List.set (List.set (List.set us (a).toNatClampNeg (nar .byte ((131 : Int32).toInt8.toInt32))) (a + (1 : Int32)).toNatClampNeg (nar .byte (((x.toUInt32 >>> ((16 : Int32) &&& 31).toUInt32).toInt32).toInt8.toInt32))) (a + (2 : Int32)).toNatClampNeg (nar .byte (((x.toUInt32 >>> ((8 : Int32) &&& 31).toUInt32).toInt32).toInt8.toInt32))) (a + (3 : Int32)).toNatClampNeg (nar .byte (((x.toUInt32 >>> ((0 : Int32) &&& 31).toUInt32).toInt32).toInt8.toInt32))) else (List.set (List.set (List.set (List.set (List.set us (a).toNatClampNeg (nar .byte ((132 : Int32).toInt8.toInt32))) (a + (1 : Int32)).toNatClampNeg (nar .byte (((x.toUInt32 >>> ((24 : Int32) &&& 31).toUInt32).toInt32).toInt8.toInt32))) (a + (2 : Int32)).toNatClampNeg (nar .byte (((x.toUInt32 >>> ((16 : Int32) &&& 31).toUInt32).toInt32).toInt8.toInt32))) (a + (3 : Int32)).toNatClampNeg (nar .byte (((x.toUInt32 >>> ((8 : Int32) &&& 31).toUInt32).toInt32).toInt8.toInt32))) (a + (4 : Int32)).toNatClampNeg (nar .byte (((x.toUInt32 >>> ((0 : Int32) &&& 31).toUInt32).toInt32).toInt8.toInt32)))
theorem own_pl0 (us : List Int32) (a x : Int32) (h : x.toInt < 128) : own_put us a x = (List.set us (a).toNatClampNeg (nar .byte (x.toInt8.toInt32))) := by rw [own_put, if_pos (own_b0_0 h)]
theorem own_pl1 (us : List Int32) (a x : Int32) (h : 128 ≤ x.toInt ∧ x.toInt < 256) : own_put us a x = (List.set (List.set us (a).toNatClampNeg (nar .byte ((129 : Int32).toInt8.toInt32))) (a + (1 : Int32)).toNatClampNeg (nar .byte (((x.toUInt32 >>> ((0 : Int32) &&& 31).toUInt32).toInt32).toInt8.toInt32))) := by rw [own_put, if_neg (own_b0_1 h), if_pos (own_b1_1 h)]
theorem own_pl2 (us : List Int32) (a x : Int32) (h : 256 ≤ x.toInt ∧ x.toInt < 65536) : own_put us a x = (List.set (List.set (List.set us (a).toNatClampNeg (nar .byte ((130 : Int32).toInt8.toInt32))) (a + (1 : Int32)).toNatClampNeg (nar .byte (((x.toUInt32 >>> ((8 : Int32) &&& 31).toUInt32).toInt32).toInt8.toInt32))) (a + (2 : Int32)).toNatClampNeg (nar .byte (((x.toUInt32 >>> ((0 : Int32) &&& 31).toUInt32).toInt32).toInt8.toInt32))) := by rw [own_put, if_neg (own_b0_2 h), if_neg (own_b1_2 h), if_pos (own_b2_2 h)]
theorem own_pl3 (us : List Int32) (a x : Int32) (h : 65536 ≤ x.toInt ∧ x.toInt < 16777216) : own_put us a x = (List.set (List.set (List.set (List.set us (a).toNatClampNeg (nar .byte ((131 : Int32).toInt8.toInt32))) (a + (1 : Int32)).toNatClampNeg (nar .byte (((x.toUInt32 >>> ((16 : Int32) &&& 31).toUInt32).toInt32).toInt8.toInt32))) (a + (2 : Int32)).toNatClampNeg (nar .byte (((x.toUInt32 >>> ((8 : Int32) &&& 31).toUInt32).toInt32).toInt8.toInt32))) (a + (3 : Int32)).toNatClampNeg (nar .byte (((x.toUInt32 >>> ((0 : Int32) &&& 31).toUInt32).toInt32).toInt8.toInt32))) := by rw [own_put, if_neg (own_b0_3 h), if_neg (own_b1_3 h), if_neg (own_b2_3 h), if_pos (own_b3_3 h)]
theorem own_pl4 (us : List Int32) (a x : Int32) (h : 16777216 ≤ x.toInt) : own_put us a x = (List.set (List.set (List.set (List.set (List.set us (a).toNatClampNeg (nar .byte ((132 : Int32).toInt8.toInt32))) (a + (1 : Int32)).toNatClampNeg (nar .byte (((x.toUInt32 >>> ((24 : Int32) &&& 31).toUInt32).toInt32).toInt8.toInt32))) (a + (2 : Int32)).toNatClampNeg (nar .byte (((x.toUInt32 >>> ((16 : Int32) &&& 31).toUInt32).toInt32).toInt8.toInt32))) (a + (3 : Int32)).toNatClampNeg (nar .byte (((x.toUInt32 >>> ((8 : Int32) &&& 31).toUInt32).toInt32).toInt8.toInt32))) (a + (4 : Int32)).toNatClampNeg (nar .byte (((x.toUInt32 >>> ((0 : Int32) &&& 31).toUInt32).toInt32).toInt8.toInt32))) := by rw [own_put, if_neg (own_b0_4 h), if_neg (own_b1_4 h), if_neg (own_b2_4 h), if_neg (own_b3_4 h)]
theorem own_s0 (x : Int32) : ((x.toUInt32 >>> ((0 : Int32) &&& 31).toUInt32).toInt32) = x := by
  have e : ((0 : Int32) &&& 31).toUInt32 = 0 := by decide
  rw [e]; show (x.toUInt32 >>> 0).toInt32 = x
  rw [UInt32.shiftRight_zero]; rfl
theorem own_ai (a : Int32) (ha : 0 ≤ a.toInt ∧ a.toInt ≤ 7) (c : Int32) (n : Nat) (hc : c.toInt = n) (hn : n ≤ 4) : (a + c).toNatClampNeg = a.toNatClampNeg + n := by
  have h1 := own_sum a ha c n hc hn
  show (a + c).toInt.toNat = a.toInt.toNat + n
  omega
theorem own_ai2 (a : Int32) (ha : 0 ≤ a.toInt ∧ a.toInt ≤ 7) (c d : Int32) (n k r : Nat) (hc : c.toInt = n) (hd : d.toInt = k) (hn : n ≤ 4) (hk : k ≤ n) (hr : r = n - k) : ((a + c) - d).toNatClampNeg = a.toNatClampNeg + r := by
  have h1 := own_sum2 a ha c d n k hc hd hn hk
  show ((a + c) - d).toInt.toNat = a.toInt.toNat + r
  omega
theorem own_sw (us : List Int32) (i j : Nat) (x y : Int32) (h : i ≠ j) : (us.set i x).set j y = (us.set j y).set i x := List.set_comm x y h
theorem own_same0 (us : List Int32) (a x : Int32) (ha : 0 ≤ a.toInt ∧ a.toInt ≤ 7) (h : x.toInt < 128) : own_put us a x = (List.set us (a).toNatClampNeg (nar .byte (x.toInt8.toInt32))) := own_pl0 us a x h
theorem own_same1 (us : List Int32) (a x : Int32) (ha : 0 ≤ a.toInt ∧ a.toInt ≤ 7) (h : 128 ≤ x.toInt ∧ x.toInt < 256) : own_put us a x = (List.set (List.set us (a).toNatClampNeg (nar .byte ((129 : Int32).toInt8.toInt32))) (a + (1 : Int32)).toNatClampNeg (nar .byte (x.toInt8.toInt32))) := by
  have i1 := own_ai a ha (1 : Int32) 1 rfl (by decide)
  have i2 := own_ai a ha (2 : Int32) 2 rfl (by decide)
  have i3 := own_ai a ha (3 : Int32) 3 rfl (by decide)
  have i4 := own_ai a ha (4 : Int32) 4 rfl (by decide)
  rw [own_pl1 us a x h, own_s0, i1]

theorem own_same2 (us : List Int32) (a x : Int32) (ha : 0 ≤ a.toInt ∧ a.toInt ≤ 7) (h : 256 ≤ x.toInt ∧ x.toInt < 65536) : own_put us a x = (List.set (List.set (List.set us (a).toNatClampNeg (nar .byte ((130 : Int32).toInt8.toInt32))) (a + (2 : Int32)).toNatClampNeg (nar .byte (x.toInt8.toInt32))) ((a + (2 : Int32)) - (1 : Int32)).toNatClampNeg (nar .byte (((x.toUInt32 >>> ((8 : Int32) &&& 31).toUInt32).toInt32).toInt8.toInt32))) := by
  have i1 := own_ai a ha (1 : Int32) 1 rfl (by decide)
  have i2 := own_ai a ha (2 : Int32) 2 rfl (by decide)
  have i3 := own_ai a ha (3 : Int32) 3 rfl (by decide)
  have i4 := own_ai a ha (4 : Int32) 4 rfl (by decide)
  have j1 := own_ai2 a ha (2 : Int32) (1 : Int32) 2 1 1 rfl rfl (by decide) (by decide) rfl
  rw [own_pl2 us a x h, own_s0, i1, i2, j1]
  generalize List.set us a.toNatClampNeg (nar .byte ((130 : Int32).toInt8.toInt32)) = ws
  generalize nar .byte (x.toInt8.toInt32) = y0
  generalize nar .byte (((x.toUInt32 >>> ((8 : Int32) &&& 31).toUInt32).toInt32).toInt8.toInt32) = y1
  exact own_sw _ _ _ _ _ (by omega)
theorem own_same3 (us : List Int32) (a x : Int32) (ha : 0 ≤ a.toInt ∧ a.toInt ≤ 7) (h : 65536 ≤ x.toInt ∧ x.toInt < 16777216) : own_put us a x = (List.set (List.set (List.set (List.set us (a).toNatClampNeg (nar .byte ((131 : Int32).toInt8.toInt32))) (a + (3 : Int32)).toNatClampNeg (nar .byte (x.toInt8.toInt32))) ((a + (3 : Int32)) - (1 : Int32)).toNatClampNeg (nar .byte (((x.toUInt32 >>> ((8 : Int32) &&& 31).toUInt32).toInt32).toInt8.toInt32))) ((a + (3 : Int32)) - (2 : Int32)).toNatClampNeg (nar .byte (((x.toUInt32 >>> ((16 : Int32) &&& 31).toUInt32).toInt32).toInt8.toInt32))) := by
  have i1 := own_ai a ha (1 : Int32) 1 rfl (by decide)
  have i2 := own_ai a ha (2 : Int32) 2 rfl (by decide)
  have i3 := own_ai a ha (3 : Int32) 3 rfl (by decide)
  have i4 := own_ai a ha (4 : Int32) 4 rfl (by decide)
  have j1 := own_ai2 a ha (3 : Int32) (1 : Int32) 3 1 2 rfl rfl (by decide) (by decide) rfl
  have j2 := own_ai2 a ha (3 : Int32) (2 : Int32) 3 2 1 rfl rfl (by decide) (by decide) rfl
  rw [own_pl3 us a x h, own_s0, i1, i2, i3, j1, j2]
  generalize List.set us a.toNatClampNeg (nar .byte ((131 : Int32).toInt8.toInt32)) = ws
  generalize nar .byte (x.toInt8.toInt32) = y0
  generalize nar .byte (((x.toUInt32 >>> ((8 : Int32) &&& 31).toUInt32).toInt32).toInt8.toInt32) = y1
  generalize nar .byte (((x.toUInt32 >>> ((16 : Int32) &&& 31).toUInt32).toInt32).toInt8.toInt32) = y2
  rw [own_sw (ws.set (a.toNatClampNeg + 1) y2) (a.toNatClampNeg + 2) (a.toNatClampNeg + 3) y1 y0 (by omega), own_sw ws (a.toNatClampNeg + 1) (a.toNatClampNeg + 3) y2 y0 (by omega), own_sw (ws.set (a.toNatClampNeg + 3) y0) (a.toNatClampNeg + 1) (a.toNatClampNeg + 2) y2 y1 (by omega)]
theorem own_same4 (us : List Int32) (a x : Int32) (ha : 0 ≤ a.toInt ∧ a.toInt ≤ 7) (h : 16777216 ≤ x.toInt) : own_put us a x = (List.set (List.set (List.set (List.set (List.set us (a).toNatClampNeg (nar .byte ((132 : Int32).toInt8.toInt32))) (a + (4 : Int32)).toNatClampNeg (nar .byte (x.toInt8.toInt32))) ((a + (4 : Int32)) - (1 : Int32)).toNatClampNeg (nar .byte (((x.toUInt32 >>> ((8 : Int32) &&& 31).toUInt32).toInt32).toInt8.toInt32))) ((a + (4 : Int32)) - (2 : Int32)).toNatClampNeg (nar .byte (((x.toUInt32 >>> ((16 : Int32) &&& 31).toUInt32).toInt32).toInt8.toInt32))) (a + (1 : Int32)).toNatClampNeg (nar .byte (((x.toUInt32 >>> ((24 : Int32) &&& 31).toUInt32).toInt32).toInt8.toInt32))) := by
  have i1 := own_ai a ha (1 : Int32) 1 rfl (by decide)
  have i2 := own_ai a ha (2 : Int32) 2 rfl (by decide)
  have i3 := own_ai a ha (3 : Int32) 3 rfl (by decide)
  have i4 := own_ai a ha (4 : Int32) 4 rfl (by decide)
  have j1 := own_ai2 a ha (4 : Int32) (1 : Int32) 4 1 3 rfl rfl (by decide) (by decide) rfl
  have j2 := own_ai2 a ha (4 : Int32) (2 : Int32) 4 2 2 rfl rfl (by decide) (by decide) rfl
  rw [own_pl4 us a x h, own_s0, i1, i2, i3, i4, j1, j2]
  generalize List.set us a.toNatClampNeg (nar .byte ((132 : Int32).toInt8.toInt32)) = ws
  generalize nar .byte (x.toInt8.toInt32) = y0
  generalize nar .byte (((x.toUInt32 >>> ((8 : Int32) &&& 31).toUInt32).toInt32).toInt8.toInt32) = y1
  generalize nar .byte (((x.toUInt32 >>> ((16 : Int32) &&& 31).toUInt32).toInt32).toInt8.toInt32) = y2
  generalize nar .byte (((x.toUInt32 >>> ((24 : Int32) &&& 31).toUInt32).toInt32).toInt8.toInt32) = y3
  rw [own_sw ((ws.set (a.toNatClampNeg + 1) y3).set (a.toNatClampNeg + 2) y2) (a.toNatClampNeg + 3) (a.toNatClampNeg + 4) y1 y0 (by omega), own_sw (ws.set (a.toNatClampNeg + 1) y3) (a.toNatClampNeg + 2) (a.toNatClampNeg + 4) y2 y0 (by omega), own_sw ws (a.toNatClampNeg + 1) (a.toNatClampNeg + 4) y3 y0 (by omega), own_sw ((ws.set (a.toNatClampNeg + 4) y0).set (a.toNatClampNeg + 1) y3) (a.toNatClampNeg + 2) (a.toNatClampNeg + 3) y2 y1 (by omega), own_sw (ws.set (a.toNatClampNeg + 4) y0) (a.toNatClampNeg + 1) (a.toNatClampNeg + 3) y3 y1 (by omega), own_sw ((ws.set (a.toNatClampNeg + 4) y0).set (a.toNatClampNeg + 3) y1) (a.toNatClampNeg + 1) (a.toNatClampNeg + 2) y3 y2 (by omega)]
theorem own_pd0 : parseMethodDescriptor "([BII)I" = some ⟨[(.array .byte), .int, .int], some .int⟩ := by decide +kernel
theorem own_pd1 : parseMethodDescriptor "([B[B)Z" = some ⟨[(.array .byte), (.array .byte)], some .boolean⟩ := by decide +kernel
theorem d1_0 : decode prog_51_method_8_code 0 = .ok (.iload_n 2, 1) := by decide +kernel
theorem d1_1 : decode prog_51_method_8_code 1 = .ok (.sipush 128, 3) := by decide +kernel
theorem d1_4 : decode prog_51_method_8_code 4 = .ok (.if_icmp .ge 10, 3) := by decide +kernel
theorem d1_7 : decode prog_51_method_8_code 7 = .ok (.aload_n 0, 1) := by decide +kernel
theorem d1_8 : decode prog_51_method_8_code 8 = .ok (.iload_n 1, 1) := by decide +kernel
theorem d1_9 : decode prog_51_method_8_code 9 = .ok (.iload_n 2, 1) := by decide +kernel
theorem d1_10 : decode prog_51_method_8_code 10 = .ok (.i2b, 1) := by decide +kernel
theorem d1_11 : decode prog_51_method_8_code 11 = .ok (.bastore, 1) := by decide +kernel
theorem d1_12 : decode prog_51_method_8_code 12 = .ok (.iconst 1, 1) := by decide +kernel
theorem d1_13 : decode prog_51_method_8_code 13 = .ok (.ireturn, 1) := by decide +kernel
theorem d1_14 : decode prog_51_method_8_code 14 = .ok (.iconst 1, 1) := by decide +kernel
theorem d1_15 : decode prog_51_method_8_code 15 = .ok (.istore_n 3, 1) := by decide +kernel
theorem d1_16 : decode prog_51_method_8_code 16 = .ok (.iload_n 3, 1) := by decide +kernel
theorem d1_17 : decode prog_51_method_8_code 17 = .ok (.iconst 4, 1) := by decide +kernel
theorem d1_18 : decode prog_51_method_8_code 18 = .ok (.if_icmp .ge 18, 3) := by decide +kernel
theorem d1_21 : decode prog_51_method_8_code 21 = .ok (.iload_n 2, 1) := by decide +kernel
theorem d1_22 : decode prog_51_method_8_code 22 = .ok (.bipush 8, 2) := by decide +kernel
theorem d1_24 : decode prog_51_method_8_code 24 = .ok (.iload_n 3, 1) := by decide +kernel
theorem d1_25 : decode prog_51_method_8_code 25 = .ok (.imul, 1) := by decide +kernel
theorem d1_26 : decode prog_51_method_8_code 26 = .ok (.iushr, 1) := by decide +kernel
theorem d1_27 : decode prog_51_method_8_code 27 = .ok (.ifCond .eq 9, 3) := by decide +kernel
theorem d1_30 : decode prog_51_method_8_code 30 = .ok (.iinc 3 1, 3) := by decide +kernel
theorem d1_33 : decode prog_51_method_8_code 33 = .ok (.goto (-17), 3) := by decide +kernel
theorem d1_36 : decode prog_51_method_8_code 36 = .ok (.aload_n 0, 1) := by decide +kernel
theorem d1_37 : decode prog_51_method_8_code 37 = .ok (.iload_n 1, 1) := by decide +kernel
theorem d1_38 : decode prog_51_method_8_code 38 = .ok (.sipush 128, 3) := by decide +kernel
theorem d1_41 : decode prog_51_method_8_code 41 = .ok (.iload_n 3, 1) := by decide +kernel
theorem d1_42 : decode prog_51_method_8_code 42 = .ok (.ior, 1) := by decide +kernel
theorem d1_43 : decode prog_51_method_8_code 43 = .ok (.i2b, 1) := by decide +kernel
theorem d1_44 : decode prog_51_method_8_code 44 = .ok (.bastore, 1) := by decide +kernel
theorem d1_45 : decode prog_51_method_8_code 45 = .ok (.iconst 1, 1) := by decide +kernel
theorem d1_46 : decode prog_51_method_8_code 46 = .ok (.istore 4, 2) := by decide +kernel
theorem d1_48 : decode prog_51_method_8_code 48 = .ok (.iload 4, 2) := by decide +kernel
theorem d1_50 : decode prog_51_method_8_code 50 = .ok (.iload_n 3, 1) := by decide +kernel
theorem d1_51 : decode prog_51_method_8_code 51 = .ok (.if_icmp .gt 25, 3) := by decide +kernel
theorem d1_54 : decode prog_51_method_8_code 54 = .ok (.aload_n 0, 1) := by decide +kernel
theorem d1_55 : decode prog_51_method_8_code 55 = .ok (.iload_n 1, 1) := by decide +kernel
theorem d1_56 : decode prog_51_method_8_code 56 = .ok (.iload 4, 2) := by decide +kernel
theorem d1_58 : decode prog_51_method_8_code 58 = .ok (.iadd, 1) := by decide +kernel
theorem d1_59 : decode prog_51_method_8_code 59 = .ok (.iload_n 2, 1) := by decide +kernel
theorem d1_60 : decode prog_51_method_8_code 60 = .ok (.bipush 8, 2) := by decide +kernel
theorem d1_62 : decode prog_51_method_8_code 62 = .ok (.iload_n 3, 1) := by decide +kernel
theorem d1_63 : decode prog_51_method_8_code 63 = .ok (.iload 4, 2) := by decide +kernel
theorem d1_65 : decode prog_51_method_8_code 65 = .ok (.isub, 1) := by decide +kernel
theorem d1_66 : decode prog_51_method_8_code 66 = .ok (.imul, 1) := by decide +kernel
theorem d1_67 : decode prog_51_method_8_code 67 = .ok (.iushr, 1) := by decide +kernel
theorem d1_68 : decode prog_51_method_8_code 68 = .ok (.i2b, 1) := by decide +kernel
theorem d1_69 : decode prog_51_method_8_code 69 = .ok (.bastore, 1) := by decide +kernel
theorem d1_70 : decode prog_51_method_8_code 70 = .ok (.iinc 4 1, 3) := by decide +kernel
theorem d1_73 : decode prog_51_method_8_code 73 = .ok (.goto (-25), 3) := by decide +kernel
theorem d1_76 : decode prog_51_method_8_code 76 = .ok (.iconst 1, 1) := by decide +kernel
theorem d1_77 : decode prog_51_method_8_code 77 = .ok (.iload_n 3, 1) := by decide +kernel
theorem d1_78 : decode prog_51_method_8_code 78 = .ok (.iadd, 1) := by decide +kernel
theorem d1_79 : decode prog_51_method_8_code 79 = .ok (.ireturn, 1) := by decide +kernel
theorem pn_1 : plainName "com/example/sextant/sextant/ber/BerEncoder" = true := by first | (simp [plainName, overriddenIn]; done) | decide +kernel
theorem ef_1 (m : MethodId) (a0 : Addr) (p1 : Int32) (p2 : Int32) : entryFrame m #[(.ref a0), (.int p1), (.int p2)] 5 = mkF m 0 #[.val (.ref a0), .val (.int p1), .val (.int p2), .unset, .unset] [] := by first | (simp [entryFrame, mkF, argsToLocals, Value.category]; done) | rfl
abbrev ROOM1 : Room := { frames := 0, cells := 0, slots := 0, locals := 0 }
def Q1 (Z : State) (a0 : Addr) (p1 : Int32) (p2 : Int32) (k : ClassId) (us : List Int32) (h0 : Heap) (n0 : Nat) (v : Option Value) (h : Heap) (L : List Loc) : Prop := v = some (.int (own_cn p2)) ∧ Fr n0 L ∧ Keep h0 h [a0] ∧ own_B Z h a0 k (own_put us p1 p2)
set_option maxRecDepth 65536 in
set_option maxHeartbeats 40000000 in
theorem rm1 (l : Launch) (Z : State) (a0 : Array Value) (hw : ∀ d ∈ tables_1, d.before a0 Z = true) (ws : List Jvm.Cond) (a0 : Addr) (p1 : Int32) (p2 : Int32) (k : ClassId) (us : List Int32) (h0 : Heap) (n0 : Nat) (Z0 : n0 ≤ h0.size) (Va : own_B Z h0 a0 k us) (g_a0 : n0 ≤ a0) (ha : 0 ≤ p1.toInt ∧ p1.toInt ≤ 7) (hp2 : 0 ≤ p2.toInt) :
    MetFree l (⟨"com/example/sextant/sextant/ber/BerEncoder", "putLength", "([BII)I"⟩ : MethodName) (head1 (Jvm.Cond.code (⟨"com/example/sextant/sextant/ber/BerEncoder", "putLength", "([BII)I"⟩ : MethodName) prog_51_method_8_code 5 (some .int) :: ws) ROOM1) (fun a U => a = #[(.ref a0), (.int p1), (.int p2)] ∧ Z.Warmed39 U.vm ∧ U.heap = h0) (fun _ _ _ _ _ => True) (fun _ U o U' => ∃ v L, o = .returned v ∧ Q1 Z a0 p1 p2 k us h0 n0 v U'.heap L ∧ FrameEnd U o U' L ROOM1.cells ROOM1.slots) := by
  refine MetFree.of_bodySF (plainFor_of_name pn_1) hisR ?_
  intro p e s m args below meth c s₁ Bd hml0 hP hK
  obtain ⟨rfl, hZ, hh⟩ := hP
  have hx := Bd.exec
  have hby := Bd.bytes
  have hml : c.maxLocals = 5 := hml0
  have hown : s.vm.findClass "com/example/sextant/sextant/ber/BerEncoder" = some m.cls := findClass_of_methodNamed Bd.named
  have hnm := (name_of_methodNamed Bd.named Bd.method).1
  have X0 : Stand p l e ROOM1 s m #[(.ref a0), (.int p1), (.int p2)] below meth c s₁ [] 0 0 := Stand.of_body Bd
  have e0 : s₁.heap = h0 := by rw [← hh, Bd.state]; rfl
  have N0 := Fr.nil n0
  refine Ends.via (A := s₁.setTop (mkF m 0 #[.val (.ref a0), .val (.int p1), .val (.int p2), .unset, .unset] [])) (kc := ROOM1.cells) (ks := ROOM1.slots) (Q := (Q1 Z a0 p1 p2 k us h0 n0)) (fun t k => castTop (ef_1 m a0 p1 p2) k) ?_
  show Ends p e below s ROOM1.cells ROOM1.slots (Q1 Z a0 p1 p2 k us h0 n0) (s₁.setTop (mkF m 0 #[.val (.ref a0), .val (.int p1), .val (.int p2), .unset, .unset] []))
  rcases own_cases p2 hp2 with hk | hk | hk | hk | hk
  · show Ends p e below s ROOM1.cells ROOM1.slots (Q1 Z a0 p1 p2 k us h0 n0) (s₁.setTop (mkF m 0 #[.val (.ref a0), .val (.int p1), .val (.int p2), .unset, .unset] []))
    refine Ends.via (fun _ k => XS.iloadN X0.here hx rfl (hb hby d1_0) rfl k) ?_
    show Ends p e below s ROOM1.cells ROOM1.slots (Q1 Z a0 p1 p2 k us h0 n0) (s₁.setTop (mkF m 1 #[.val (.ref a0), .val (.int p1), .val (.int p2), .unset, .unset] [(.int p2)]))
    refine Ends.via (fun _ k => XS.sipush X0.here hx rfl (hb hby d1_1) k) ?_
    show Ends p e below s ROOM1.cells ROOM1.slots (Q1 Z a0 p1 p2 k us h0 n0) (s₁.setTop (mkF m 4 #[.val (.ref a0), .val (.int p1), .val (.int p2), .unset, .unset] [(.int (128 : Int32)), (.int p2)]))
    have hf30 : p2 < (128 : Int32) := own_b0_0 hk
    refine Ends.via (fun _ k => XS.icmpNo X0.here hx rfl (hb hby d1_4) rfl (tlt hf30).2.1 k) ?_
    show Ends p e below s ROOM1.cells ROOM1.slots (Q1 Z a0 p1 p2 k us h0 n0) (s₁.setTop (mkF m 7 #[.val (.ref a0), .val (.int p1), .val (.int p2), .unset, .unset] []))
    refine Ends.via (fun _ k => XS.aloadN X0.here hx rfl (hb hby d1_7) rfl rfl k) ?_
    show Ends p e below s ROOM1.cells ROOM1.slots (Q1 Z a0 p1 p2 k us h0 n0) (s₁.setTop (mkF m 8 #[.val (.ref a0), .val (.int p1), .val (.int p2), .unset, .unset] [(.ref a0)]))
    refine Ends.via (fun _ k => XS.iloadN X0.here hx rfl (hb hby d1_8) rfl k) ?_
    show Ends p e below s ROOM1.cells ROOM1.slots (Q1 Z a0 p1 p2 k us h0 n0) (s₁.setTop (mkF m 9 #[.val (.ref a0), .val (.int p1), .val (.int p2), .unset, .unset] [(.int p1), (.ref a0)]))
    refine Ends.via (fun _ k => XS.iloadN X0.here hx rfl (hb hby d1_9) rfl k) ?_
    show Ends p e below s ROOM1.cells ROOM1.slots (Q1 Z a0 p1 p2 k us h0 n0) (s₁.setTop (mkF m 10 #[.val (.ref a0), .val (.int p1), .val (.int p2), .unset, .unset] [(.int p2), (.int p1), (.ref a0)]))
    refine Ends.via (fun _ k => XS.i2b X0.here hx rfl (hb hby d1_10) rfl k) ?_
    show Ends p e below s ROOM1.cells ROOM1.slots (Q1 Z a0 p1 p2 k us h0 n0) (s₁.setTop (mkF m 11 #[.val (.ref a0), .val (.int p1), .val (.int p2), .unset, .unset] [(.int (p2.toInt8.toInt32)), (.int p1), (.ref a0)]))
    obtain ⟨T31, h31, X31, e31, W31, B31, st31⟩ := own_stB X0 hx hZ e0 Va (j := p1) (own_in0 p1 ha) (g := (mkF m 11 #[.val (.ref a0), .val (.int p1), .val (.int p2), .unset, .unset] [(.int (p2.toInt8.toInt32)), (.int p1), (.ref a0)])) rfl rfl (hb hby d1_11)
    have Z31 : n0 ≤ h31.size := Nat.le_trans Z0 (Keep.of_wr W31).1
    have K31 := Keep.wr (Keep.refl h0 [a0]) W31 (Or.inl (List.mem_of_getElem? (i := 0) rfl))
    have N31 := Fr.snoc X31 N0 g_a0
    refine Ends.via st31 ?_
    show Ends p e below s ROOM1.cells ROOM1.slots (Q1 Z a0 p1 p2 k us h0 n0) (T31.setTop (mkF m 12 #[.val (.ref a0), .val (.int p1), .val (.int p2), .unset, .unset] []))
    refine Ends.via (fun _ k => XS.iconst X31.here hx rfl (hb hby d1_12) k) ?_
    show Ends p e below s ROOM1.cells ROOM1.slots (Q1 Z a0 p1 p2 k us h0 n0) (T31.setTop (mkF m 13 #[.val (.ref a0), .val (.int p1), .val (.int p2), .unset, .unset] [(.int (1 : Int32))]))
    refine Ends.ret X31 (v := some (.int (1 : Int32))) (fun h => by rw [Bd.returns] at h; cases h) Bd.notSynchronized (fun fs hr => retI X31 hx Bd.returns (hb hby d1_13) hr) ?_ (by decide) (by decide)
    rw [e31]
    exact ⟨congrArg some (congrArg Value.int (own_cn0 p2 hk).symm), N31, K31, by rw [own_pl0 us p1 p2 hk]; exact B31⟩
  · show Ends p e below s ROOM1.cells ROOM1.slots (Q1 Z a0 p1 p2 k us h0 n0) (s₁.setTop (mkF m 0 #[.val (.ref a0), .val (.int p1), .val (.int p2), .unset, .unset] []))
    refine Ends.via (fun _ k => XS.iloadN X0.here hx rfl (hb hby d1_0) rfl k) ?_
    show Ends p e below s ROOM1.cells ROOM1.slots (Q1 Z a0 p1 p2 k us h0 n0) (s₁.setTop (mkF m 1 #[.val (.ref a0), .val (.int p1), .val (.int p2), .unset, .unset] [(.int p2)]))
    refine Ends.via (fun _ k => XS.sipush X0.here hx rfl (hb hby d1_1) k) ?_
    show Ends p e below s ROOM1.cells ROOM1.slots (Q1 Z a0 p1 p2 k us h0 n0) (s₁.setTop (mkF m 4 #[.val (.ref a0), .val (.int p1), .val (.int p2), .unset, .unset] [(.int (128 : Int32)), (.int p2)]))
    have hf32 : ¬ (p2 < (128 : Int32)) := own_b0_1 hk
    refine Ends.via (fun _ k => XS.icmpYes X0.here hx rfl (pc0 := 4) (pc' := 14) rfl (hb hby d1_4) rfl (flt hf32).2.1 (by decide) (by decide) k) ?_
    show Ends p e below s ROOM1.cells ROOM1.slots (Q1 Z a0 p1 p2 k us h0 n0) (s₁.setTop (mkF m 14 #[.val (.ref a0), .val (.int p1), .val (.int p2), .unset, .unset] []))
    refine Ends.via (fun _ k => XS.iconst X0.here hx rfl (hb hby d1_14) k) ?_
    show Ends p e below s ROOM1.cells ROOM1.slots (Q1 Z a0 p1 p2 k us h0 n0) (s₁.setTop (mkF m 15 #[.val (.ref a0), .val (.int p1), .val (.int p2), .unset, .unset] [(.int (1 : Int32))]))
    refine Ends.via (fun _ k => XS.istoreN X0.here hx rfl (hb hby d1_15) rfl (l' := #[.val (.ref a0), .val (.int p1), .val (.int p2), .val (.int (1 : Int32)), .unset]) rfl k) ?_
    show Ends p e below s ROOM1.cells ROOM1.slots (Q1 Z a0 p1 p2 k us h0 n0) (s₁.setTop (mkF m 16 #[.val (.ref a0), .val (.int p1), .val (.int p2), .val (.int (1 : Int32)), .unset] []))
    refine Ends.via (fun _ k => XS.iloadN X0.here hx rfl (hb hby d1_16) rfl k) ?_
    show Ends p e below s ROOM1.cells ROOM1.slots (Q1 Z a0 p1 p2 k us h0 n0) (s₁.setTop (mkF m 17 #[.val (.ref a0), .val (.int p1), .val (.int p2), .val (.int (1 : Int32)), .unset] [(.int (1 : Int32))]))
    refine Ends.via (fun _ k => XS.iconst X0.here hx rfl (hb hby d1_17) k) ?_
    show Ends p e below s ROOM1.cells ROOM1.slots (Q1 Z a0 p1 p2 k us h0 n0) (s₁.setTop (mkF m 18 #[.val (.ref a0), .val (.int p1), .val (.int p2), .val (.int (1 : Int32)), .unset] [(.int (4 : Int32)), (.int (1 : Int32))]))
    have hf33 : (1 : Int32) < (4 : Int32) := by decide
    refine Ends.via (fun _ k => XS.icmpNo X0.here hx rfl (hb hby d1_18) rfl (tlt hf33).2.1 k) ?_
    show Ends p e below s ROOM1.cells ROOM1.slots (Q1 Z a0 p1 p2 k us h0 n0) (s₁.setTop (mkF m 21 #[.val (.ref a0), .val (.int p1), .val (.int p2), .val (.int (1 : Int32)), .unset] []))
    refine Ends.via (fun _ k => XS.iloadN X0.here hx rfl (hb hby d1_21) rfl k) ?_
    show Ends p e below s ROOM1.cells ROOM1.slots (Q1 Z a0 p1 p2 k us h0 n0) (s₁.setTop (mkF m 22 #[.val (.ref a0), .val (.int p1), .val (.int p2), .val (.int (1 : Int32)), .unset] [(.int p2)]))
    refine Ends.via (fun _ k => XS.bipush X0.here hx rfl (hb hby d1_22) k) ?_
    show Ends p e below s ROOM1.cells ROOM1.slots (Q1 Z a0 p1 p2 k us h0 n0) (s₁.setTop (mkF m 24 #[.val (.ref a0), .val (.int p1), .val (.int p2), .val (.int (1 : Int32)), .unset] [(.int (8 : Int32)), (.int p2)]))
    refine Ends.via (fun _ k => XS.iloadN X0.here hx rfl (hb hby d1_24) rfl k) ?_
    show Ends p e below s ROOM1.cells ROOM1.slots (Q1 Z a0 p1 p2 k us h0 n0) (s₁.setTop (mkF m 25 #[.val (.ref a0), .val (.int p1), .val (.int p2), .val (.int (1 : Int32)), .unset] [(.int (1 : Int32)), (.int (8 : Int32)), (.int p2)]))
    refine Ends.via (fun _ k => XS.imul X0.here hx rfl (hb hby d1_25) rfl k) ?_
    show Ends p e below s ROOM1.cells ROOM1.slots (Q1 Z a0 p1 p2 k us h0 n0) (s₁.setTop (mkF m 26 #[.val (.ref a0), .val (.int p1), .val (.int p2), .val (.int (1 : Int32)), .unset] [(.int (8 : Int32)), (.int p2)]))
    refine Ends.via (fun _ k => XS.iushr X0.here hx rfl (hb hby d1_26) rfl k) ?_
    show Ends p e below s ROOM1.cells ROOM1.slots (Q1 Z a0 p1 p2 k us h0 n0) (s₁.setTop (mkF m 27 #[.val (.ref a0), .val (.int p1), .val (.int p2), .val (.int (1 : Int32)), .unset] [(.int ((p2.toUInt32 >>> ((8 : Int32) &&& 31).toUInt32).toInt32))]))
    have hf34 : ((p2.toUInt32 >>> ((8 : Int32) &&& 31).toUInt32).toInt32) = (0 : Int32) := own_z1_1 p2 hk
    refine Ends.via (fun _ k => XS.ifYes X0.here hx rfl (pc0 := 27) (pc' := 36) rfl (hb hby d1_27) rfl ((if0 _ _).trans (teq hf34).1) (by decide) (by decide) k) ?_
    show Ends p e below s ROOM1.cells ROOM1.slots (Q1 Z a0 p1 p2 k us h0 n0) (s₁.setTop (mkF m 36 #[.val (.ref a0), .val (.int p1), .val (.int p2), .val (.int (1 : Int32)), .unset] []))
    refine Ends.via (fun _ k => XS.aloadN X0.here hx rfl (hb hby d1_36) rfl rfl k) ?_
    show Ends p e below s ROOM1.cells ROOM1.slots (Q1 Z a0 p1 p2 k us h0 n0) (s₁.setTop (mkF m 37 #[.val (.ref a0), .val (.int p1), .val (.int p2), .val (.int (1 : Int32)), .unset] [(.ref a0)]))
    refine Ends.via (fun _ k => XS.iloadN X0.here hx rfl (hb hby d1_37) rfl k) ?_
    show Ends p e below s ROOM1.cells ROOM1.slots (Q1 Z a0 p1 p2 k us h0 n0) (s₁.setTop (mkF m 38 #[.val (.ref a0), .val (.int p1), .val (.int p2), .val (.int (1 : Int32)), .unset] [(.int p1), (.ref a0)]))
    refine Ends.via (fun _ k => XS.sipush X0.here hx rfl (hb hby d1_38) k) ?_
    show Ends p e below s ROOM1.cells ROOM1.slots (Q1 Z a0 p1 p2 k us h0 n0) (s₁.setTop (mkF m 41 #[.val (.ref a0), .val (.int p1), .val (.int p2), .val (.int (1 : Int32)), .unset] [(.int (128 : Int32)), (.int p1), (.ref a0)]))
    refine Ends.via (fun _ k => XS.iloadN X0.here hx rfl (hb hby d1_41) rfl k) ?_
    show Ends p e below s ROOM1.cells ROOM1.slots (Q1 Z a0 p1 p2 k us h0 n0) (s₁.setTop (mkF m 42 #[.val (.ref a0), .val (.int p1), .val (.int p2), .val (.int (1 : Int32)), .unset] [(.int (1 : Int32)), (.int (128 : Int32)), (.int p1), (.ref a0)]))
    refine Ends.via (fun _ k => XS.ior X0.here hx rfl (hb hby d1_42) rfl k) ?_
    show Ends p e below s ROOM1.cells ROOM1.slots (Q1 Z a0 p1 p2 k us h0 n0) (s₁.setTop (mkF m 43 #[.val (.ref a0), .val (.int p1), .val (.int p2), .val (.int (1 : Int32)), .unset] [(.int (129 : Int32)), (.int p1), (.ref a0)]))
    refine Ends.via (fun _ k => XS.i2b X0.here hx rfl (hb hby d1_43) rfl k) ?_
    show Ends p e below s ROOM1.cells ROOM1.slots (Q1 Z a0 p1 p2 k us h0 n0) (s₁.setTop (mkF m 44 #[.val (.ref a0), .val (.int p1), .val (.int p2), .val (.int (1 : Int32)), .unset] [(.int ((129 : Int32).toInt8.toInt32)), (.int p1), (.ref a0)]))
    obtain ⟨T35, h35, X35, e35, W35, B35, st35⟩ := own_stB X0 hx hZ e0 Va (j := p1) (own_in0 p1 ha) (g := (mkF m 44 #[.val (.ref a0), .val (.int p1), .val (.int p2), .val (.int (1 : Int32)), .unset] [(.int ((129 : Int32).toInt8.toInt32)), (.int p1), (.ref a0)])) rfl rfl (hb hby d1_44)
    have Z35 : n0 ≤ h35.size := Nat.le_trans Z0 (Keep.of_wr W35).1
    have K35 := Keep.wr (Keep.refl h0 [a0]) W35 (Or.inl (List.mem_of_getElem? (i := 0) rfl))
    have N35 := Fr.snoc X35 N0 g_a0
    refine Ends.via st35 ?_
    show Ends p e below s ROOM1.cells ROOM1.slots (Q1 Z a0 p1 p2 k us h0 n0) (T35.setTop (mkF m 45 #[.val (.ref a0), .val (.int p1), .val (.int p2), .val (.int (1 : Int32)), .unset] []))
    refine Ends.via (fun _ k => XS.iconst X35.here hx rfl (hb hby d1_45) k) ?_
    show Ends p e below s ROOM1.cells ROOM1.slots (Q1 Z a0 p1 p2 k us h0 n0) (T35.setTop (mkF m 46 #[.val (.ref a0), .val (.int p1), .val (.int p2), .val (.int (1 : Int32)), .unset] [(.int (1 : Int32))]))
    refine Ends.via (fun _ k => XS.istore X35.here hx rfl (hb hby d1_46) rfl (l' := #[.val (.ref a0), .val (.int p1), .val (.int p2), .val (.int (1 : Int32)), .val (.int (1 : Int32))]) rfl k) ?_
    show Ends p e below s ROOM1.cells ROOM1.slots (Q1 Z a0 p1 p2 k us h0 n0) (T35.setTop (mkF m 48 #[.val (.ref a0), .val (.int p1), .val (.int p2), .val (.int (1 : Int32)), .val (.int (1 : Int32))] []))
    refine Ends.via (fun _ k => XS.iload X35.here hx rfl (hb hby d1_48) rfl k) ?_
    show Ends p e below s ROOM1.cells ROOM1.slots (Q1 Z a0 p1 p2 k us h0 n0) (T35.setTop (mkF m 50 #[.val (.ref a0), .val (.int p1), .val (.int p2), .val (.int (1 : Int32)), .val (.int (1 : Int32))] [(.int (1 : Int32))]))
    refine Ends.via (fun _ k => XS.iloadN X35.here hx rfl (hb hby d1_50) rfl k) ?_
    show Ends p e below s ROOM1.cells ROOM1.slots (Q1 Z a0 p1 p2 k us h0 n0) (T35.setTop (mkF m 51 #[.val (.ref a0), .val (.int p1), .val (.int p2), .val (.int (1 : Int32)), .val (.int (1 : Int32))] [(.int (1 : Int32)), (.int (1 : Int32))]))
    have hf36 : ¬ ((1 : Int32) < (1 : Int32)) := by decide
    refine Ends.via (fun _ k => XS.icmpNo X35.here hx rfl (hb hby d1_51) rfl (flt hf36).2.2.1 k) ?_
    show Ends p e below s ROOM1.cells ROOM1.slots (Q1 Z a0 p1 p2 k us h0 n0) (T35.setTop (mkF m 54 #[.val (.ref a0), .val (.int p1), .val (.int p2), .val (.int (1 : Int32)), .val (.int (1 : Int32))] []))
    refine Ends.via (fun _ k => XS.aloadN X35.here hx rfl (hb hby d1_54) rfl rfl k) ?_
    show Ends p e below s ROOM1.cells ROOM1.slots (Q1 Z a0 p1 p2 k us h0 n0) (T35.setTop (mkF m 55 #[.val (.ref a0), .val (.int p1), .val (.int p2), .val (.int (1 : Int32)), .val (.int (1 : Int32))] [(.ref a0)]))
    refine Ends.via (fun _ k => XS.iloadN X35.here hx rfl (hb hby d1_55) rfl k) ?_
    show Ends p e below s ROOM1.cells ROOM1.slots (Q1 Z a0 p1 p2 k us h0 n0) (T35.setTop (mkF m 56 #[.val (.ref a0), .val (.int p1), .val (.int p2), .val (.int (1 : Int32)), .val (.int (1 : Int32))] [(.int p1), (.ref a0)]))
    refine Ends.via (fun _ k => XS.iload X35.here hx rfl (hb hby d1_56) rfl k) ?_
    show Ends p e below s ROOM1.cells ROOM1.slots (Q1 Z a0 p1 p2 k us h0 n0) (T35.setTop (mkF m 58 #[.val (.ref a0), .val (.int p1), .val (.int p2), .val (.int (1 : Int32)), .val (.int (1 : Int32))] [(.int (1 : Int32)), (.int p1), (.ref a0)]))
    refine Ends.via (fun _ k => XS.iadd X35.here hx rfl (hb hby d1_58) rfl k) ?_
    show Ends p e below s ROOM1.cells ROOM1.slots (Q1 Z a0 p1 p2 k us h0 n0) (T35.setTop (mkF m 59 #[.val (.ref a0), .val (.int p1), .val (.int p2), .val (.int (1 : Int32)), .val (.int (1 : Int32))] [(.int (p1 + (1 : Int32))), (.ref a0)]))
    refine Ends.via (fun _ k => XS.iloadN X35.here hx rfl (hb hby d1_59) rfl k) ?_
    show Ends p e below s ROOM1.cells ROOM1.slots (Q1 Z a0 p1 p2 k us h0 n0) (T35.setTop (mkF m 60 #[.val (.ref a0), .val (.int p1), .val (.int p2), .val (.int (1 : Int32)), .val (.int (1 : Int32))] [(.int p2), (.int (p1 + (1 : Int32))), (.ref a0)]))
    refine Ends.via (fun _ k => XS.bipush X35.here hx rfl (hb hby d1_60) k) ?_
    show Ends p e below s ROOM1.cells ROOM1.slots (Q1 Z a0 p1 p2 k us h0 n0) (T35.setTop (mkF m 62 #[.val (.ref a0), .val (.int p1), .val (.int p2), .val (.int (1 : Int32)), .val (.int (1 : Int32))] [(.int (8 : Int32)), (.int p2), (.int (p1 + (1 : Int32))), (.ref a0)]))
    refine Ends.via (fun _ k => XS.iloadN X35.here hx rfl (hb hby d1_62) rfl k) ?_
    show Ends p e below s ROOM1.cells ROOM1.slots (Q1 Z a0 p1 p2 k us h0 n0) (T35.setTop (mkF m 63 #[.val (.ref a0), .val (.int p1), .val (.int p2), .val (.int (1 : Int32)), .val (.int (1 : Int32))] [(.int (1 : Int32)), (.int (8 : Int32)), (.int p2), (.int (p1 + (1 : Int32))), (.ref a0)]))
    refine Ends.via (fun _ k => XS.iload X35.here hx rfl (hb hby d1_63) rfl k) ?_
    show Ends p e below s ROOM1.cells ROOM1.slots (Q1 Z a0 p1 p2 k us h0 n0) (T35.setTop (mkF m 65 #[.val (.ref a0), .val (.int p1), .val (.int p2), .val (.int (1 : Int32)), .val (.int (1 : Int32))] [(.int (1 : Int32)), (.int (1 : Int32)), (.int (8 : Int32)), (.int p2), (.int (p1 + (1 : Int32))), (.ref a0)]))
    refine Ends.via (fun _ k => XS.isub X35.here hx rfl (hb hby d1_65) rfl k) ?_
    show Ends p e below s ROOM1.cells ROOM1.slots (Q1 Z a0 p1 p2 k us h0 n0) (T35.setTop (mkF m 66 #[.val (.ref a0), .val (.int p1), .val (.int p2), .val (.int (1 : Int32)), .val (.int (1 : Int32))] [(.int (0 : Int32)), (.int (8 : Int32)), (.int p2), (.int (p1 + (1 : Int32))), (.ref a0)]))
    refine Ends.via (fun _ k => XS.imul X35.here hx rfl (hb hby d1_66) rfl k) ?_
    show Ends p e below s ROOM1.cells ROOM1.slots (Q1 Z a0 p1 p2 k us h0 n0) (T35.setTop (mkF m 67 #[.val (.ref a0), .val (.int p1), .val (.int p2), .val (.int (1 : Int32)), .val (.int (1 : Int32))] [(.int (0 : Int32)), (.int p2), (.int (p1 + (1 : Int32))), (.ref a0)]))
    refine Ends.via (fun _ k => XS.iushr X35.here hx rfl (hb hby d1_67) rfl k) ?_
    show Ends p e below s ROOM1.cells ROOM1.slots (Q1 Z a0 p1 p2 k us h0 n0) (T35.setTop (mkF m 68 #[.val (.ref a0), .val (.int p1), .val (.int p2), .val (.int (1 : Int32)), .val (.int (1 : Int32))] [(.int ((p2.toUInt32 >>> ((0 : Int32) &&& 31).toUInt32).toInt32)), (.int (p1 + (1 : Int32))), (.ref a0)]))
    refine Ends.via (fun _ k => XS.i2b X35.here hx rfl (hb hby d1_68) rfl k) ?_
    show Ends p e below s ROOM1.cells ROOM1.slots (Q1 Z a0 p1 p2 k us h0 n0) (T35.setTop (mkF m 69 #[.val (.ref a0), .val (.int p1), .val (.int p2), .val (.int (1 : Int32)), .val (.int (1 : Int32))] [(.int (((p2.toUInt32 >>> ((0 : Int32) &&& 31).toUInt32).toInt32).toInt8.toInt32)), (.int (p1 + (1 : Int32))), (.ref a0)]))
    obtain ⟨T37, h37, X37, e37, W37, B37, st37⟩ := own_stB X35 hx hZ e35 B35 (j := (p1 + (1 : Int32))) (own_in p1 ha (1 : Int32) 1 rfl (by decide)) (g := (mkF m 69 #[.val (.ref a0), .val (.int p1), .val (.int p2), .val (.int (1 : Int32)), .val (.int (1 : Int32))] [(.int (((p2.toUInt32 >>> ((0 : Int32) &&& 31).toUInt32).toInt32).toInt8.toInt32)), (.int (p1 + (1 : Int32))), (.ref a0)])) rfl rfl (hb hby d1_69)
    have Z37 : n0 ≤ h37.size := Nat.le_trans Z35 (Keep.of_wr W37).1
    have K37 := Keep.wr K35 W37 (Or.inl (List.mem_of_getElem? (i := 0) rfl))
    have N37 := Fr.snoc X37 N35 g_a0
    refine Ends.via st37 ?_
    show Ends p e below s ROOM1.cells ROOM1.slots (Q1 Z a0 p1 p2 k us h0 n0) (T37.setTop (mkF m 70 #[.val (.ref a0), .val (.int p1), .val (.int p2), .val (.int (1 : Int32)), .val (.int (1 : Int32))] []))
    refine Ends.via (fun _ k => XS.iinc X37.here hx rfl (hb hby d1_70) rfl (l' := #[.val (.ref a0), .val (.int p1), .val (.int p2), .val (.int (1 : Int32)), .val (.int (2 : Int32))]) rfl k) ?_
    show Ends p e below s ROOM1.cells ROOM1.slots (Q1 Z a0 p1 p2 k us h0 n0) (T37.setTop (mkF m 73 #[.val (.ref a0), .val (.int p1), .val (.int p2), .val (.int (1 : Int32)), .val (.int (2 : Int32))] []))
    refine Ends.via (fun _ k => XS.goto X37.here hx rfl (pc0 := 73) (pc' := 48) rfl (hb hby d1_73) (by decide) (by decide) k) ?_
    show Ends p e below s ROOM1.cells ROOM1.slots (Q1 Z a0 p1 p2 k us h0 n0) (T37.setTop (mkF m 48 #[.val (.ref a0), .val (.int p1), .val (.int p2), .val (.int (1 : Int32)), .val (.int (2 : Int32))] []))
    refine Ends.via (fun _ k => XS.iload X37.here hx rfl (hb hby d1_48) rfl k) ?_
    show Ends p e below s ROOM1.cells ROOM1.slots (Q1 Z a0 p1 p2 k us h0 n0) (T37.setTop (mkF m 50 #[.val (.ref a0), .val (.int p1), .val (.int p2), .val (.int (1 : Int32)), .val (.int (2 : Int32))] [(.int (2 : Int32))]))
    refine Ends.via (fun _ k => XS.iloadN X37.here hx rfl (hb hby d1_50) rfl k) ?_
    show Ends p e below s ROOM1.cells ROOM1.slots (Q1 Z a0 p1 p2 k us h0 n0) (T37.setTop (mkF m 51 #[.val (.ref a0), .val (.int p1), .val (.int p2), .val (.int (1 : Int32)), .val (.int (2 : Int32))] [(.int (1 : Int32)), (.int (2 : Int32))]))
    have hf38 : (1 : Int32) < (2 : Int32) := by decide
    refine Ends.via (fun _ k => XS.icmpYes X37.here hx rfl (pc0 := 51) (pc' := 76) rfl (hb hby d1_51) rfl (tlt hf38).2.2.1 (by decide) (by decide) k) ?_
    show Ends p e below s ROOM1.cells ROOM1.slots (Q1 Z a0 p1 p2 k us h0 n0) (T37.setTop (mkF m 76 #[.val (.ref a0), .val (.int p1), .val (.int p2), .val (.int (1 : Int32)), .val (.int (2 : Int32))] []))
    refine Ends.via (fun _ k => XS.iconst X37.here hx rfl (hb hby d1_76) k) ?_
    show Ends p e below s ROOM1.cells ROOM1.slots (Q1 Z a0 p1 p2 k us h0 n0) (T37.setTop (mkF m 77 #[.val (.ref a0), .val (.int p1), .val (.int p2), .val (.int (1 : Int32)), .val (.int (2 : Int32))] [(.int (1 : Int32))]))
    refine Ends.via (fun _ k => XS.iloadN X37.here hx rfl (hb hby d1_77) rfl k) ?_
    show Ends p e below s ROOM1.cells ROOM1.slots (Q1 Z a0 p1 p2 k us h0 n0) (T37.setTop (mkF m 78 #[.val (.ref a0), .val (.int p1), .val (.int p2), .val (.int (1 : Int32)), .val (.int (2 : Int32))] [(.int (1 : Int32)), (.int (1 : Int32))]))
    refine Ends.via (fun _ k => XS.iadd X37.here hx rfl (hb hby d1_78) rfl k) ?_
    show Ends p e below s ROOM1.cells ROOM1.slots (Q1 Z a0 p1 p2 k us h0 n0) (T37.setTop (mkF m 79 #[.val (.ref a0), .val (.int p1), .val (.int p2), .val (.int (1 : Int32)), .val (.int (2 : Int32))] [(.int (2 : Int32))]))
    refine Ends.ret X37 (v := some (.int (2 : Int32))) (fun h => by rw [Bd.returns] at h; cases h) Bd.notSynchronized (fun fs hr => retI X37 hx Bd.returns (hb hby d1_79) hr) ?_ (by decide) (by decide)
    rw [e37]
    exact ⟨congrArg some (congrArg Value.int (own_cn1 p2 hk).symm), N37, K37, by rw [own_pl1 us p1 p2 hk]; exact B37⟩
  · show Ends p e below s ROOM1.cells ROOM1.slots (Q1 Z a0 p1 p2 k us h0 n0) (s₁.setTop (mkF m 0 #[.val (.ref a0), .val (.int p1), .val (.int p2), .unset, .unset] []))
    refine Ends.via (fun _ k => XS.iloadN X0.here hx rfl (hb hby d1_0) rfl k) ?_
    show Ends p e below s ROOM1.cells ROOM1.slots (Q1 Z a0 p1 p2 k us h0 n0) (s₁.setTop (mkF m 1 #[.val (.ref a0), .val (.int p1), .val (.int p2), .unset, .unset] [(.int p2)]))
    refine Ends.via (fun _ k => XS.sipush X0.here hx rfl (hb hby d1_1) k) ?_
    show Ends p e below s ROOM1.cells ROOM1.slots (Q1 Z a0 p1 p2 k us h0 n0) (s₁.setTop (mkF m 4 #[.val (.ref a0), .val (.int p1), .val (.int p2), .unset, .unset] [(.int (128 : Int32)), (.int p2)]))
    have hf39 : ¬ (p2 < (128 : Int32)) := own_b0_2 hk
    refine Ends.via (fun _ k => XS.icmpYes X0.here hx rfl (pc0 := 4) (pc' := 14) rfl (hb hby d1_4) rfl (flt hf39).2.1 (by decide) (by decide) k) ?_
    show Ends p e below s ROOM1.cells ROOM1.slots (Q1 Z a0 p1 p2 k us h0 n0) (s₁.setTop (mkF m 14 #[.val (.ref a0), .val (.int p1), .val (.int p2), .unset, .unset] []))
    refine Ends.via (fun _ k => XS.iconst X0.here hx rfl (hb hby d1_14) k) ?_
    show Ends p e below s ROOM1.cells ROOM1.slots (Q1 Z a0 p1 p2 k us h0 n0) (s₁.setTop (mkF m 15 #[.val (.ref a0), .val (.int p1), .val (.int p2), .unset, .unset] [(.int (1 : Int32))]))
    refine Ends.via (fun _ k => XS.istoreN X0.here hx rfl (hb hby d1_15) rfl (l' := #[.val (.ref a0), .val (.int p1), .val (.int p2), .val (.int (1 : Int32)), .unset]) rfl k) ?_
    show Ends p e below s ROOM1.cells ROOM1.slots (Q1 Z a0 p1 p2 k us h0 n0) (s₁.setTop (mkF m 16 #[.val (.ref a0), .val (.int p1), .val (.int p2), .val (.int (1 : Int32)), .unset] []))
    refine Ends.via (fun _ k => XS.iloadN X0.here hx rfl (hb hby d1_16) rfl k) ?_
    show Ends p e below s ROOM1.cells ROOM1.slots (Q1 Z a0 p1 p2 k us h0 n0) (s₁.setTop (mkF m 17 #[.val (.ref a0), .val (.int p1), .val (.int p2), .val (.int (1 : Int32)), .unset] [(.int (1 : Int32))]))
    refine Ends.via (fun _ k => XS.iconst X0.here hx rfl (hb hby d1_17) k) ?_
    show Ends p e below s ROOM1.cells ROOM1.slots (Q1 Z a0 p1 p2 k us h0 n0) (s₁.setTop (mkF m 18 #[.val (.ref a0), .val (.int p1), .val (.int p2), .val (.int (1 : Int32)), .unset] [(.int (4 : Int32)), (.int (1 : Int32))]))
    have hf40 : (1 : Int32) < (4 : Int32) := by decide
    refine Ends.via (fun _ k => XS.icmpNo X0.here hx rfl (hb hby d1_18) rfl (tlt hf40).2.1 k) ?_
    show Ends p e below s ROOM1.cells ROOM1.slots (Q1 Z a0 p1 p2 k us h0 n0) (s₁.setTop (mkF m 21 #[.val (.ref a0), .val (.int p1), .val (.int p2), .val (.int (1 : Int32)), .unset] []))
    refine Ends.via (fun _ k => XS.iloadN X0.here hx rfl (hb hby d1_21) rfl k) ?_
    show Ends p e below s ROOM1.cells ROOM1.slots (Q1 Z a0 p1 p2 k us h0 n0) (s₁.setTop (mkF m 22 #[.val (.ref a0), .val (.int p1), .val (.int p2), .val (.int (1 : Int32)), .unset] [(.int p2)]))
    refine Ends.via (fun _ k => XS.bipush X0.here hx rfl (hb hby d1_22) k) ?_
    show Ends p e below s ROOM1.cells ROOM1.slots (Q1 Z a0 p1 p2 k us h0 n0) (s₁.setTop (mkF m 24 #[.val (.ref a0), .val (.int p1), .val (.int p2), .val (.int (1 : Int32)), .unset] [(.int (8 : Int32)), (.int p2)]))
    refine Ends.via (fun _ k => XS.iloadN X0.here hx rfl (hb hby d1_24) rfl k) ?_
    show Ends p e below s ROOM1.cells ROOM1.slots (Q1 Z a0 p1 p2 k us h0 n0) (s₁.setTop (mkF m 25 #[.val (.ref a0), .val (.int p1), .val (.int p2), .val (.int (1 : Int32)), .unset] [(.int (1 : Int32)), (.int (8 : Int32)), (.int p2)]))
    refine Ends.via (fun _ k => XS.imul X0.here hx rfl (hb hby d1_25) rfl k) ?_
    show Ends p e below s ROOM1.cells ROOM1.slots (Q1 Z a0 p1 p2 k us h0 n0) (s₁.setTop (mkF m 26 #[.val (.ref a0), .val (.int p1), .val (.int p2), .val (.int (1 : Int32)), .unset] [(.int (8 : Int32)), (.int p2)]))
    refine Ends.via (fun _ k => XS.iushr X0.here hx rfl (hb hby d1_26) rfl k) ?_
    show Ends p e below s ROOM1.cells ROOM1.slots (Q1 Z a0 p1 p2 k us h0 n0) (s₁.setTop (mkF m 27 #[.val (.ref a0), .val (.int p1), .val (.int p2), .val (.int (1 : Int32)), .unset] [(.int ((p2.toUInt32 >>> ((8 : Int32) &&& 31).toUInt32).toInt32))]))
    have hf41 : ¬ (((p2.toUInt32 >>> ((8 : Int32) &&& 31).toUInt32).toInt32) = (0 : Int32)) := own_z1_2 p2 hk
    refine Ends.via (fun _ k => XS.ifNo X0.here hx rfl (hb hby d1_27) rfl ((if0 _ _).trans (feq hf41).1) k) ?_
    show Ends p e below s ROOM1.cells ROOM1.slots (Q1 Z a0 p1 p2 k us h0 n0) (s₁.setTop (mkF m 30 #[.val (.ref a0), .val (.int p1), .val (.int p2), .val (.int (1 : Int32)), .unset] []))
    refine Ends.via (fun _ k => XS.iinc X0.here hx rfl (hb hby d1_30) rfl (l' := #[.val (.ref a0), .val (.int p1), .val (.int p2), .val (.int (2 : Int32)), .unset]) rfl k) ?_
    show Ends p e below s ROOM1.cells ROOM1.slots (Q1 Z a0 p1 p2 k us h0 n0) (s₁.setTop (mkF m 33 #[.val (.ref a0), .val (.int p1), .val (.int p2), .val (.int (2 : Int32)), .unset] []))
    refine Ends.via (fun _ k => XS.goto X0.here hx rfl (pc0 := 33) (pc' := 16) rfl (hb hby d1_33) (by decide) (by decide) k) ?_
    show Ends p e below s ROOM1.cells ROOM1.slots (Q1 Z a0 p1 p2 k us h0 n0) (s₁.setTop (mkF m 16 #[.val (.ref a0), .val (.int p1), .val (.int p2), .val (.int (2 : Int32)), .unset] []))
    refine Ends.via (fun _ k => XS.iloadN X0.here hx rfl (hb hby d1_16) rfl k) ?_
    show Ends p e below s ROOM1.cells ROOM1.slots (Q1 Z a0 p1 p2 k us h0 n0) (s₁.setTop (mkF m 17 #[.val (.ref a0), .val (.int p1), .val (.int p2), .val (.int (2 : Int32)), .unset] [(.int (2 : Int32))]))
    refine Ends.via (fun _ k => XS.iconst X0.here hx rfl (hb hby d1_17) k) ?_
    show Ends p e below s ROOM1.cells ROOM1.slots (Q1 Z a0 p1 p2 k us h0 n0) (s₁.setTop (mkF m 18 #[.val (.ref a0), .val (.int p1), .val (.int p2), .val (.int (2 : Int32)), .unset] [(.int (4 : Int32)), (.int (2 : Int32))]))
    have hf42 : (2 : Int32) < (4 : Int32) := by decide
    refine Ends.via (fun _ k => XS.icmpNo X0.here hx rfl (hb hby d1_18) rfl (tlt hf42).2.1 k) ?_
    show Ends p e below s ROOM1.cells ROOM1.slots (Q1 Z a0 p1 p2 k us h0 n0) (s₁.setTop (mkF m 21 #[.val (.ref a0), .val (.int p1), .val (.int p2), .val (.int (2 : Int32)), .unset] []))
    refine Ends.via (fun _ k => XS.iloadN X0.here hx rfl (hb hby d1_21) rfl k) ?_
    show Ends p e below s ROOM1.cells ROOM1.slots (Q1 Z a0 p1 p2 k us h0 n0) (s₁.setTop (mkF m 22 #[.val (.ref a0), .val (.int p1), .val (.int p2), .val (.int (2 : Int32)), .unset] [(.int p2)]))
    refine Ends.via (fun _ k => XS.bipush X0.here hx rfl (hb hby d1_22) k) ?_
    show Ends p e below s ROOM1.cells ROOM1.slots (Q1 Z a0 p1 p2 k us h0 n0) (s₁.setTop (mkF m 24 #[.val (.ref a0), .val (.int p1), .val (.int p2), .val (.int (2 : Int32)), .unset] [(.int (8 : Int32)), (.int p2)]))
    refine Ends.via (fun _ k => XS.iloadN X0.here hx rfl (hb hby d1_24) rfl k) ?_
    show Ends p e below s ROOM1.cells ROOM1.slots (Q1 Z a0 p1 p2 k us h0 n0) (s₁.setTop (mkF m 25 #[.val (.ref a0), .val (.int p1), .val (.int p2), .val (.int (2 : Int32)), .unset] [(.int (2 : Int32)), (.int (8 : Int32)), (.int p2)]))
    refine Ends.via (fun _ k => XS.imul X0.here hx rfl (hb hby d1_25) rfl k) ?_
    show Ends p e below s ROOM1.cells ROOM1.slots (Q1 Z a0 p1 p2 k us h0 n0) (s₁.setTop (mkF m 26 #[.val (.ref a0), .val (.int p1), .val (.int p2), .val (.int (2 : Int32)), .unset] [(.int (16 : Int32)), (.int p2)]))
    refine Ends.via (fun _ k => XS.iushr X0.here hx rfl (hb hby d1_26) rfl k) ?_
    show Ends p e below s ROOM1.cells ROOM1.slots (Q1 Z a0 p1 p2 k us h0 n0) (s₁.setTop (mkF m 27 #[.val (.ref a0), .val (.int p1), .val (.int p2), .val (.int (2 : Int32)), .unset] [(.int ((p2.toUInt32 >>> ((16 : Int32) &&& 31).toUInt32).toInt32))]))
    have hf43 : ((p2.toUInt32 >>> ((16 : Int32) &&& 31).toUInt32).toInt32) = (0 : Int32) := own_z2_2 p2 hk
    refine Ends.via (fun _ k => XS.ifYes X0.here hx rfl (pc0 := 27) (pc' := 36) rfl (hb hby d1_27) rfl ((if0 _ _).trans (teq hf43).1) (by decide) (by decide) k) ?_
    show Ends p e below s ROOM1.cells ROOM1.slots (Q1 Z a0 p1 p2 k us h0 n0) (s₁.setTop (mkF m 36 #[.val (.ref a0), .val (.int p1), .val (.int p2), .val (.int (2 : Int32)), .unset] []))
    refine Ends.via (fun _ k => XS.aloadN X0.here hx rfl (hb hby d1_36) rfl rfl k) ?_
    show Ends p e below s ROOM1.cells ROOM1.slots (Q1 Z a0 p1 p2 k us h0 n0) (s₁.setTop (mkF m 37 #[.val (.ref a0), .val (.int p1), .val (.int p2), .val (.int (2 : Int32)), .unset] [(.ref a0)]))
    refine Ends.via (fun _ k => XS.iloadN X0.here hx rfl (hb hby d1_37) rfl k) ?_
    show Ends p e below s ROOM1.cells ROOM1.slots (Q1 Z a0 p1 p2 k us h0 n0) (s₁.setTop (mkF m 38 #[.val (.ref a0), .val (.int p1), .val (.int p2), .val (.int (2 : Int32)), .unset] [(.int p1), (.ref a0)]))
    refine Ends.via (fun _ k => XS.sipush X0.here hx rfl (hb hby d1_38) k) ?_
    show Ends p e below s ROOM1.cells ROOM1.slots (Q1 Z a0 p1 p2 k us h0 n0) (s₁.setTop (mkF m 41 #[.val (.ref a0), .val (.int p1), .val (.int p2), .val (.int (2 : Int32)), .unset] [(.int (128 : Int32)), (.int p1), (.ref a0)]))
    refine Ends.via (fun _ k => XS.iloadN X0.here hx rfl (hb hby d1_41) rfl k) ?_
    show Ends p e below s ROOM1.cells ROOM1.slots (Q1 Z a0 p1 p2 k us h0 n0) (s₁.setTop (mkF m 42 #[.val (.ref a0), .val (.int p1), .val (.int p2), .val (.int (2 : Int32)), .unset] [(.int (2 : Int32)), (.int (128 : Int32)), (.int p1), (.ref a0)]))
    refine Ends.via (fun _ k => XS.ior X0.here hx rfl (hb hby d1_42) rfl k) ?_
    show Ends p e below s ROOM1.cells ROOM1.slots (Q1 Z a0 p1 p2 k us h0 n0) (s₁.setTop (mkF m 43 #[.val (.ref a0), .val (.int p1), .val (.int p2), .val (.int (2 : Int32)), .unset] [(.int (130 : Int32)), (.int p1), (.ref a0)]))
    refine Ends.via (fun _ k => XS.i2b X0.here hx rfl (hb hby d1_43) rfl k) ?_
    show Ends p e below s ROOM1.cells ROOM1.slots (Q1 Z a0 p1 p2 k us h0 n0) (s₁.setTop (mkF m 44 #[.val (.ref a0), .val (.int p1), .val (.int p2), .val (.int (2 : Int32)), .unset] [(.int ((130 : Int32).toInt8.toInt32)), (.int p1), (.ref a0)]))
    obtain ⟨T44, h44, X44, e44, W44, B44, st44⟩ := own_stB X0 hx hZ e0 Va (j := p1) (own_in0 p1 ha) (g := (mkF m 44 #[.val (.ref a0), .val (.int p1), .val (.int p2), .val (.int (2 : Int32)), .unset] [(.int ((130 : Int32).toInt8.toInt32)), (.int p1), (.ref a0)])) rfl rfl (hb hby d1_44)
    have Z44 : n0 ≤ h44.size := Nat.le_trans Z0 (Keep.of_wr W44).1
    have K44 := Keep.wr (Keep.refl h0 [a0]) W44 (Or.inl (List.mem_of_getElem? (i := 0) rfl))
    have N44 := Fr.snoc X44 N0 g_a0
    refine Ends.via st44 ?_
    show Ends p e below s ROOM1.cells ROOM1.slots (Q1 Z a0 p1 p2 k us h0 n0) (T44.setTop (mkF m 45 #[.val (.ref a0), .val (.int p1), .val (.int p2), .val (.int (2 : Int32)), .unset] []))
    refine Ends.via (fun _ k => XS.iconst X44.here hx rfl (hb hby d1_45) k) ?_
    show Ends p e below s ROOM1.cells ROOM1.slots (Q1 Z a0 p1 p2 k us h0 n0) (T44.setTop (mkF m 46 #[.val (.ref a0), .val (.int p1), .val (.int p2), .val (.int (2 : Int32)), .unset] [(.int (1 : Int32))]))
    refine Ends.via (fun _ k => XS.istore X44.here hx rfl (hb hby d1_46) rfl (l' := #[.val (.ref a0), .val (.int p1), .val (.int p2), .val (.int (2 : Int32)), .val (.int (1 : Int32))]) rfl k) ?_
    show Ends p e below s ROOM1.cells ROOM1.slots (Q1 Z a0 p1 p2 k us h0 n0) (T44.setTop (mkF m 48 #[.val (.ref a0), .val (.int p1), .val (.int p2), .val (.int (2 : Int32)), .val (.int (1 : Int32))] []))
    refine Ends.via (fun _ k => XS.iload X44.here hx rfl (hb hby d1_48) rfl k) ?_
    show Ends p e below s ROOM1.cells ROOM1.slots (Q1 Z a0 p1 p2 k us h0 n0) (T44.setTop (mkF m 50 #[.val (.ref a0), .val (.int p1), .val (.int p2), .val (.int (2 : Int32)), .val (.int (1 : Int32))] [(.int (1 : Int32))]))
    refine Ends.via (fun _ k => XS.iloadN X44.here hx rfl (hb hby d1_50) rfl k) ?_
    show Ends p e below s ROOM1.cells ROOM1.slots (Q1 Z a0 p1 p2 k us h0 n0) (T44.setTop (mkF m 51 #[.val (.ref a0), .val (.int p1), .val (.int p2), .val (.int (2 : Int32)), .val (.int (1 : Int32))] [(.int (2 : Int32)), (.int (1 : Int32))]))
    have hf45 : ¬ ((2 : Int32) < (1 : Int32)) := by decide
    refine Ends.via (fun _ k => XS.icmpNo X44.here hx rfl (hb hby d1_51) rfl (flt hf45).2.2.1 k) ?_
    show Ends p e below s ROOM1.cells ROOM1.slots (Q1 Z a0 p1 p2 k us h0 n0) (T44.setTop (mkF m 54 #[.val (.ref a0), .val (.int p1), .val (.int p2), .val (.int (2 : Int32)), .val (.int (1 : Int32))] []))
    refine Ends.via (fun _ k => XS.aloadN X44.here hx rfl (hb hby d1_54) rfl rfl k) ?_
    show Ends p e below s ROOM1.cells ROOM1.slots (Q1 Z a0 p1 p2 k us h0 n0) (T44.setTop (mkF m 55 #[.val (.ref a0), .val (.int p1), .val (.int p2), .val (.int (2 : Int32)), .val (.int (1 : Int32))] [(.ref a0)]))
    refine Ends.via (fun _ k => XS.iloadN X44.here hx rfl (hb hby d1_55) rfl k) ?_
    show Ends p e below s ROOM1.cells ROOM1.slots (Q1 Z a0 p1 p2 k us h0 n0) (T44.setTop (mkF m 56 #[.val (.ref a0), .val (.int p1), .val (.int p2), .val (.int (2 : Int32)), .val (.int (1 : Int32))] [(.int p1), (.ref a0)]))
    refine Ends.via (fun _ k => XS.iload X44.here hx rfl (hb hby d1_56) rfl k) ?_
    show Ends p e below s ROOM1.cells ROOM1.slots (Q1 Z a0 p1 p2 k us h0 n0) (T44.setTop (mkF m 58 #[.val (.ref a0), .val (.int p1), .val (.int p2), .val (.int (2 : Int32)), .val (.int (1 : Int32))] [(.int (1 : Int32)), (.int p1), (.ref a0)]))
    refine Ends.via (fun _ k => XS.iadd X44.here hx rfl (hb hby d1_58) rfl k) ?_
    show Ends p e below s ROOM1.cells ROOM1.slots (Q1 Z a0 p1 p2 k us h0 n0) (T44.setTop (mkF m 59 #[.val (.ref a0), .val (.int p1), .val (.int p2), .val (.int (2 : Int32)), .val (.int (1 : Int32))] [(.int (p1 + (1 : Int32))), (.ref a0)]))
    refine Ends.via (fun _ k => XS.iloadN X44.here hx rfl (hb hby d1_59) rfl k) ?_
    show Ends p e below s ROOM1.cells ROOM1.slots (Q1 Z a0 p1 p2 k us h0 n0) (T44.setTop (mkF m 60 #[.val (.ref a0), .val (.int p1), .val (.int p2), .val (.int (2 : Int32)), .val (.int (1 : Int32))] [(.int p2), (.int (p1 + (1 : Int32))), (.ref a0)]))
    refine Ends.via (fun _ k => XS.bipush X44.here hx rfl (hb hby d1_60) k) ?_
    show Ends p e below s ROOM1.cells ROOM1.slots (Q1 Z a0 p1 p2 k us h0 n0) (T44.setTop (mkF m 62 #[.val (.ref a0), .val (.int p1), .val (.int p2), .val (.int (2 : Int32)), .val (.int (1 : Int32))] [(.int (8 : Int32)), (.int p2), (.int (p1 + (1 : Int32))), (.ref a0)]))
    refine Ends.via (fun _ k => XS.iloadN X44.here hx rfl (hb hby d1_62) rfl k) ?_
    show Ends p e below s ROOM1.cells ROOM1.slots (Q1 Z a0 p1 p2 k us h0 n0) (T44.setTop (mkF m 63 #[.val (.ref a0), .val (.int p1), .val (.int p2), .val (.int (2 : Int32)), .val (.int (1 : Int32))] [(.int (2 : Int32)), (.int (8 : Int32)), (.int p2), (.int (p1 + (1 : Int32))), (.ref a0)]))
    refine Ends.via (fun _ k => XS.iload X44.here hx rfl (hb hby d1_63) rfl k) ?_
    show Ends p e below s ROOM1.cells ROOM1.slots (Q1 Z a0 p1 p2 k us h0 n0) (T44.setTop (mkF m 65 #[.val (.ref a0), .val (.int p1), .val (.int p2), .val (.int (2 : Int32)), .val (.int (1 : Int32))] [(.int (1 : Int32)), (.int (2 : Int32)), (.int (8 : Int32)), (.int p2), (.int (p1 + (1 : Int32))), (.ref a0)]))
    refine Ends.via (fun _ k => XS.isub X44.here hx rfl (hb hby d1_65) rfl k) ?_
    show Ends p e below s ROOM1.cells ROOM1.slots (Q1 Z a0 p1 p2 k us h0 n0) (T44.setTop (mkF m 66 #[.val (.ref a0), .val (.int p1), .val (.int p2), .val (.int (2 : Int32)), .val (.int (1 : Int32))] [(.int (1 : Int32)), (.int (8 : Int32)), (.int p2), (.int (p1 + (1 : Int32))), (.ref a0)]))
    refine Ends.via (fun _ k => XS.imul X44.here hx rfl (hb hby d1_66) rfl k) ?_
    show Ends p e below s ROOM1.cells ROOM1.slots (Q1 Z a0 p1 p2 k us h0 n0) (T44.setTop (mkF m 67 #[.val (.ref a0), .val (.int p1), .val (.int p2), .val (.int (2 : Int32)), .val (.int (1 : Int32))] [(.int (8 : Int32)), (.int p2), (.int (p1 + (1 : Int32))), (.ref a0)]))
    refine Ends.via (fun _ k => XS.iushr X44.here hx rfl (hb hby d1_67) rfl k) ?_
    show Ends p e below s ROOM1.cells ROOM1.slots (Q1 Z a0 p1 p2 k us h0 n0) (T44.setTop (mkF m 68 #[.val (.ref a0), .val (.int p1), .val (.int p2), .val (.int (2 : Int32)), .val (.int (1 : Int32))] [(.int ((p2.toUInt32 >>> ((8 : Int32) &&& 31).toUInt32).toInt32)), (.int (p1 + (1 : Int32))), (.ref a0)]))
    refine Ends.via (fun _ k => XS.i2b X44.here hx rfl (hb hby d1_68) rfl k) ?_
    show Ends p e below s ROOM1.cells ROOM1.slots (Q1 Z a0 p1 p2 k us h0 n0) (T44.setTop (mkF m 69 #[.val (.ref a0), .val (.int p1), .val (.int p2), .val (.int (2 : Int32)), .val (.int (1 : Int32))] [(.int (((p2.toUInt32 >>> ((8 : Int32) &&& 31).toUInt32).toInt32).toInt8.toInt32)), (.int (p1 + (1 : Int32))), (.ref a0)]))
    obtain ⟨T46, h46, X46, e46, W46, B46, st46⟩ := own_stB X44 hx hZ e44 B44 (j := (p1 + (1 : Int32))) (own_in p1 ha (1 : Int32) 1 rfl (by decide)) (g := (mkF m 69 #[.val (.ref a0), .val (.int p1), .val (.int p2), .val (.int (2 : Int32)), .val (.int (1 : Int32))] [(.int (((p2.toUInt32 >>> ((8 : Int32) &&& 31).toUInt32).toInt32).toInt8.toInt32)), (.int (p1 + (1 : Int32))), (.ref a0)])) rfl rfl (hb hby d1_69)
    have Z46 : n0 ≤ h46.size := Nat.le_trans Z44 (Keep.of_wr W46).1
    have K46 := Keep.wr K44 W46 (Or.inl (List.mem_of_getElem? (i := 0) rfl))
    have N46 := Fr.snoc X46 N44 g_a0
    refine Ends.via st46 ?_
    show Ends p e below s ROOM1.cells ROOM1.slots (Q1 Z a0 p1 p2 k us h0 n0) (T46.setTop (mkF m 70 #[.val (.ref a0), .val (.int p1), .val (.int p2), .val (.int (2 : Int32)), .val (.int (1 : Int32))] []))
    refine Ends.via (fun _ k => XS.iinc X46.here hx rfl (hb hby d1_70) rfl (l' := #[.val (.ref a0), .val (.int p1), .val (.int p2), .val (.int (2 : Int32)), .val (.int (2 : Int32))]) rfl k) ?_
    show Ends p e below s ROOM1.cells ROOM1.slots (Q1 Z a0 p1 p2 k us h0 n0) (T46.setTop (mkF m 73 #[.val (.ref a0), .val (.int p1), .val (.int p2), .val (.int (2 : Int32)), .val (.int (2 : Int32))] []))
    refine Ends.via (fun _ k => XS.goto X46.here hx rfl (pc0 := 73) (pc' := 48) rfl (hb hby d1_73) (by decide) (by decide) k) ?_
    show Ends p e below s ROOM1.cells ROOM1.slots (Q1 Z a0 p1 p2 k us h0 n0) (T46.setTop (mkF m 48 #[.val (.ref a0), .val (.int p1), .val (.int p2), .val (.int (2 : Int32)), .val (.int (2 : Int32))] []))
    refine Ends.via (fun _ k => XS.iload X46.here hx rfl (hb hby d1_48) rfl k) ?_
    show Ends p e below s ROOM1.cells ROOM1.slots (Q1 Z a0 p1 p2 k us h0 n0) (T46.setTop (mkF m 50 #[.val (.ref a0), .val (.int p1), .val (.int p2), .val (.int (2 : Int32)), .val (.int (2 : Int32))] [(.int (2 : Int32))]))
    refine Ends.via (fun _ k => XS.iloadN X46.here hx rfl (hb hby d1_50) rfl k) ?_
    show Ends p e below s ROOM1.cells ROOM1.slots (Q1 Z a0 p1 p2 k us h0 n0) (T46.setTop (mkF m 51 #[.val (.ref a0), .val (.int p1), .val (.int p2), .val (.int (2 : Int32)), .val (.int (2 : Int32))] [(.int (2 : Int32)), (.int (2 : Int32))]))
    have hf47 : ¬ ((2 : Int32) < (2 : Int32)) := by decide
    refine Ends.via (fun _ k => XS.icmpNo X46.here hx rfl (hb hby d1_51) rfl (flt hf47).2.2.1 k) ?_
    show Ends p e below s ROOM1.cells ROOM1.slots (Q1 Z a0 p1 p2 k us h0 n0) (T46.setTop (mkF m 54 #[.val (.ref a0), .val (.int p1), .val (.int p2), .val (.int (2 : Int32)), .val (.int (2 : Int32))] []))
    refine Ends.via (fun _ k => XS.aloadN X46.here hx rfl (hb hby d1_54) rfl rfl k) ?_
    show Ends p e below s ROOM1.cells ROOM1.slots (Q1 Z a0 p1 p2 k us h0 n0) (T46.setTop (mkF m 55 #[.val (.ref a0), .val (.int p1), .val (.int p2), .val (.int (2 : Int32)), .val (.int (2 : Int32))] [(.ref a0)]))
    refine Ends.via (fun _ k => XS.iloadN X46.here hx rfl (hb hby d1_55) rfl k) ?_
    show Ends p e below s ROOM1.cells ROOM1.slots (Q1 Z a0 p1 p2 k us h0 n0) (T46.setTop (mkF m 56 #[.val (.ref a0), .val (.int p1), .val (.int p2), .val (.int (2 : Int32)), .val (.int (2 : Int32))] [(.int p1), (.ref a0)]))
    refine Ends.via (fun _ k => XS.iload X46.here hx rfl (hb hby d1_56) rfl k) ?_
    show Ends p e below s ROOM1.cells ROOM1.slots (Q1 Z a0 p1 p2 k us h0 n0) (T46.setTop (mkF m 58 #[.val (.ref a0), .val (.int p1), .val (.int p2), .val (.int (2 : Int32)), .val (.int (2 : Int32))] [(.int (2 : Int32)), (.int p1), (.ref a0)]))
    refine Ends.via (fun _ k => XS.iadd X46.here hx rfl (hb hby d1_58) rfl k) ?_
    show Ends p e below s ROOM1.cells ROOM1.slots (Q1 Z a0 p1 p2 k us h0 n0) (T46.setTop (mkF m 59 #[.val (.ref a0), .val (.int p1), .val (.int p2), .val (.int (2 : Int32)), .val (.int (2 : Int32))] [(.int (p1 + (2 : Int32))), (.ref a0)]))
    refine Ends.via (fun _ k => XS.iloadN X46.here hx rfl (hb hby d1_59) rfl k) ?_
    show Ends p e below s ROOM1.cells ROOM1.slots (Q1 Z a0 p1 p2 k us h0 n0) (T46.setTop (mkF m 60 #[.val (.ref a0), .val (.int p1), .val (.int p2), .val (.int (2 : Int32)), .val (.int (2 : Int32))] [(.int p2), (.int (p1 + (2 : Int32))), (.ref a0)]))
    refine Ends.via (fun _ k => XS.bipush X46.here hx rfl (hb hby d1_60) k) ?_
    show Ends p e below s ROOM1.cells ROOM1.slots (Q1 Z a0 p1 p2 k us h0 n0) (T46.setTop (mkF m 62 #[.val (.ref a0), .val (.int p1), .val (.int p2), .val (.int (2 : Int32)), .val (.int (2 : Int32))] [(.int (8 : Int32)), (.int p2), (.int (p1 + (2 : Int32))), (.ref a0)]))
    refine Ends.via (fun _ k => XS.iloadN X46.here hx rfl (hb hby d1_62) rfl k) ?_
    show Ends p e below s ROOM1.cells ROOM1.slots (Q1 Z a0 p1 p2 k us h0 n0) (T46.setTop (mkF m 63 #[.val (.ref a0), .val (.int p1), .val (.int p2), .val (.int (2 : Int32)), .val (.int (2 : Int32))] [(.int (2 : Int32)), (.int (8 : Int32)), (.int p2), (.int (p1 + (2 : Int32))), (.ref a0)]))
    refine Ends.via (fun _ k => XS.iload X46.here hx rfl (hb hby d1_63) rfl k) ?_
    show Ends p e below s ROOM1.cells ROOM1.slots (Q1 Z a0 p1 p2 k us h0 n0) (T46.setTop (mkF m 65 #[.val (.ref a0), .val (.int p1), .val (.int p2), .val (.int (2 : Int32)), .val (.int (2 : Int32))] [(.int (2 : Int32)), (.int (2 : Int32)), (.int (8 : Int32)), (.int p2), (.int (p1 + (2 : Int32))), (.ref a0)]))
    refine Ends.via (fun _ k => XS.isub X46.here hx rfl (hb hby d1_65) rfl k) ?_
    show Ends p e below s ROOM1.cells ROOM1.slots (Q1 Z a0 p1 p2 k us h0 n0) (T46.setTop (mkF m 66 #[.val (.ref a0), .val (.int p1), .val (.int p2), .val (.int (2 : Int32)), .val (.int (2 : Int32))] [(.int (0 : Int32)), (.int (8 : Int32)), (.int p2), (.int (p1 + (2 : Int32))), (.ref a0)]))
    refine Ends.via (fun _ k => XS.imul X46.here hx rfl (hb hby d1_66) rfl k) ?_
    show Ends p e below s ROOM1.cells ROOM1.slots (Q1 Z a0 p1 p2 k us h0 n0) (T46.setTop (mkF m 67 #[.val (.ref a0), .val (.int p1), .val (.int p2), .val (.int (2 : Int32)), .val (.int (2 : Int32))] [(.int (0 : Int32)), (.int p2), (.int (p1 + (2 : Int32))), (.ref a0)]))
    refine Ends.via (fun _ k => XS.iushr X46.here hx rfl (hb hby d1_67) rfl k) ?_
    show Ends p e below s ROOM1.cells ROOM1.slots (Q1 Z a0 p1 p2 k us h0 n0) (T46.setTop (mkF m 68 #[.val (.ref a0), .val (.int p1), .val (.int p2), .val (.int (2 : Int32)), .val (.int (2 : Int32))] [(.int ((p2.toUInt32 >>> ((0 : Int32) &&& 31).toUInt32).toInt32)), (.int (p1 + (2 : Int32))), (.ref a0)]))
    refine Ends.via (fun _ k => XS.i2b X46.here hx rfl (hb hby d1_68) rfl k) ?_
    show Ends p e below s ROOM1.cells ROOM1.slots (Q1 Z a0 p1 p2 k us h0 n0) (T46.setTop (mkF m 69 #[.val (.ref a0), .val (.int p1), .val (.int p2), .val (.int (2 : Int32)), .val (.int (2 : Int32))] [(.int (((p2.toUInt32 >>> ((0 : Int32) &&& 31).toUInt32).toInt32).toInt8.toInt32)), (.int (p1 + (2 : Int32))), (.ref a0)]))
    obtain ⟨T48, h48, X48, e48, W48, B48, st48⟩ := own_stB X46 hx hZ e46 B46 (j := (p1 + (2 : Int32))) (own_in p1 ha (2 : Int32) 2 rfl (by decide)) (g := (mkF m 69 #[.val (.ref a0), .val (.int p1), .val (.int p2), .val (.int (2 : Int32)), .val (.int (2 : Int32))] [(.int (((p2.toUInt32 >>> ((0 : Int32) &&& 31).toUInt32).toInt32).toInt8.toInt32)), (.int (p1 + (2 : Int32))), (.ref a0)])) rfl rfl (hb hby d1_69)
    have Z48 : n0 ≤ h48.size := Nat.le_trans Z46 (Keep.of_wr W48).1
    have K48 := Keep.wr K46 W48 (Or.inl (List.mem_of_getElem? (i := 0) rfl))
    have N48 := Fr.snoc X48 N46 g_a0
    refine Ends.via st48 ?_
    show Ends p e below s ROOM1.cells ROOM1.slots (Q1 Z a0 p1 p2 k us h0 n0) (T48.setTop (mkF m 70 #[.val (.ref a0), .val (.int p1), .val (.int p2), .val (.int (2 : Int32)), .val (.int (2 : Int32))] []))
    refine Ends.via (fun _ k => XS.iinc X48.here hx rfl (hb hby d1_70) rfl (l' := #[.val (.ref a0), .val (.int p1), .val (.int p2), .val (.int (2 : Int32)), .val (.int (3 : Int32))]) rfl k) ?_
    show Ends p e below s ROOM1.cells ROOM1.slots (Q1 Z a0 p1 p2 k us h0 n0) (T48.setTop (mkF m 73 #[.val (.ref a0), .val (.int p1), .val (.int p2), .val (.int (2 : Int32)), .val (.int (3 : Int32))] []))
    refine Ends.via (fun _ k => XS.goto X48.here hx rfl (pc0 := 73) (pc' := 48) rfl (hb hby d1_73) (by decide) (by decide) k) ?_
    show Ends p e below s ROOM1.cells ROOM1.slots (Q1 Z a0 p1 p2 k us h0 n0) (T48.setTop (mkF m 48 #[.val (.ref a0), .val (.int p1), .val (.int p2), .val (.int (2 : Int32)), .val (.int (3 : Int32))] []))
    refine Ends.via (fun _ k => XS.iload X48.here hx rfl (hb hby d1_48) rfl k) ?_
    show Ends p e below s ROOM1.cells ROOM1.slots (Q1 Z a0 p1 p2 k us h0 n0) (T48.setTop (mkF m 50 #[.val (.ref a0), .val (.int p1), .val (.int p2), .val (.int (2 : Int32)), .val (.int (3 : Int32))] [(.int (3 : Int32))]))
    refine Ends.via (fun _ k => XS.iloadN X48.here hx rfl (hb hby d1_50) rfl k) ?_
    show Ends p e below s ROOM1.cells ROOM1.slots (Q1 Z a0 p1 p2 k us h0 n0) (T48.setTop (mkF m 51 #[.val (.ref a0), .val (.int p1), .val (.int p2), .val (.int (2 : Int32)), .val (.int (3 : Int32))] [(.int (2 : Int32)), (.int (3 : Int32))]))
    have hf49 : (2 : Int32) < (3 : Int32) := by decide
    refine Ends.via (fun _ k => XS.icmpYes X48.here hx rfl (pc0 := 51) (pc' := 76) rfl (hb hby d1_51) rfl (tlt hf49).2.2.1 (by decide) (by decide) k) ?_
    show Ends p e below s ROOM1.cells ROOM1.slots (Q1 Z a0 p1 p2 k us h0 n0) (T48.setTop (mkF m 76 #[.val (.ref a0), .val (.int p1), .val (.int p2), .val (.int (2 : Int32)), .val (.int (3 : Int32))] []))
    refine Ends.via (fun _ k => XS.iconst X48.here hx rfl (hb hby d1_76) k) ?_
    show Ends p e below s ROOM1.cells ROOM1.slots (Q1 Z a0 p1 p2 k us h0 n0) (T48.setTop (mkF m 77 #[.val (.ref a0), .val (.int p1), .val (.int p2), .val (.int (2 : Int32)), .val (.int (3 : Int32))] [(.int (1 : Int32))]))
    refine Ends.via (fun _ k => XS.iloadN X48.here hx rfl (hb hby d1_77) rfl k) ?_
    show Ends p e below s ROOM1.cells ROOM1.slots (Q1 Z a0 p1 p2 k us h0 n0) (T48.setTop (mkF m 78 #[.val (.ref a0), .val (.int p1), .val (.int p2), .val (.int (2 : Int32)), .val (.int (3 : Int32))] [(.int (2 : Int32)), (.int (1 : Int32))]))
    refine Ends.via (fun _ k => XS.iadd X48.here hx rfl (hb hby d1_78) rfl k) ?_
    show Ends p e below s ROOM1.cells ROOM1.slots (Q1 Z a0 p1 p2 k us h0 n0) (T48.setTop (mkF m 79 #[.val (.ref a0), .val (.int p1), .val (.int p2), .val (.int (2 : Int32)), .val (.int (3 : Int32))] [(.int (3 : Int32))]))
    refine Ends.ret X48 (v := some (.int (3 : Int32))) (fun h => by rw [Bd.returns] at h; cases h) Bd.notSynchronized (fun fs hr => retI X48 hx Bd.returns (hb hby d1_79) hr) ?_ (by decide) (by decide)
    rw [e48]
    exact ⟨congrArg some (congrArg Value.int (own_cn2 p2 hk).symm), N48, K48, by rw [own_pl2 us p1 p2 hk]; exact B48⟩
  · show Ends p e below s ROOM1.cells ROOM1.slots (Q1 Z a0 p1 p2 k us h0 n0) (s₁.setTop (mkF m 0 #[.val (.ref a0), .val (.int p1), .val (.int p2), .unset, .unset] []))
    refine Ends.via (fun _ k => XS.iloadN X0.here hx rfl (hb hby d1_0) rfl k) ?_
    show Ends p e below s ROOM1.cells ROOM1.slots (Q1 Z a0 p1 p2 k us h0 n0) (s₁.setTop (mkF m 1 #[.val (.ref a0), .val (.int p1), .val (.int p2), .unset, .unset] [(.int p2)]))
    refine Ends.via (fun _ k => XS.sipush X0.here hx rfl (hb hby d1_1) k) ?_
    show Ends p e below s ROOM1.cells ROOM1.slots (Q1 Z a0 p1 p2 k us h0 n0) (s₁.setTop (mkF m 4 #[.val (.ref a0), .val (.int p1), .val (.int p2), .unset, .unset] [(.int (128 : Int32)), (.int p2)]))
    have hf50 : ¬ (p2 < (128 : Int32)) := own_b0_3 hk
    refine Ends.via (fun _ k => XS.icmpYes X0.here hx rfl (pc0 := 4) (pc' := 14) rfl (hb hby d1_4) rfl (flt hf50).2.1 (by decide) (by decide) k) ?_
    show Ends p e below s ROOM1.cells ROOM1.slots (Q1 Z a0 p1 p2 k us h0 n0) (s₁.setTop (mkF m 14 #[.val (.ref a0), .val (.int p1), .val (.int p2), .unset, .unset] []))
    refine Ends.via (fun _ k => XS.iconst X0.here hx rfl (hb hby d1_14) k) ?_
    show Ends p e below s ROOM1.cells ROOM1.slots (Q1 Z a0 p1 p2 k us h0 n0) (s₁.setTop (mkF m 15 #[.val (.ref a0), .val (.int p1), .val (.int p2), .unset, .unset] [(.int (1 : Int32))]))
    refine Ends.via (fun _ k => XS.istoreN X0.here hx rfl (hb hby d1_15) rfl (l' := #[.val (.ref a0), .val (.int p1), .val (.int p2), .val (.int (1 : Int32)), .unset]) rfl k) ?_
    show Ends p e below s ROOM1.cells ROOM1.slots (Q1 Z a0 p1 p2 k us h0 n0) (s₁.setTop (mkF m 16 #[.val (.ref a0), .val (.int p1), .val (.int p2), .val (.int (1 : Int32)), .unset] []))
    refine Ends.via (fun _ k => XS.iloadN X0.here hx rfl (hb hby d1_16) rfl k) ?_
    show Ends p e below s ROOM1.cells ROOM1.slots (Q1 Z a0 p1 p2 k us h0 n0) (s₁.setTop (mkF m 17 #[.val (.ref a0), .val (.int p1), .val (.int p2), .val (.int (1 : Int32)), .unset] [(.int (1 : Int32))]))
    refine Ends.via (fun _ k => XS.iconst X0.here hx rfl (hb hby d1_17) k) ?_
    show Ends p e below s ROOM1.cells ROOM1.slots (Q1 Z a0 p1 p2 k us h0 n0) (s₁.setTop (mkF m 18 #[.val (.ref a0), .val (.int p1), .val (.int p2), .val (.int (1 : Int32)), .unset] [(.int (4 : Int32)), (.int (1 : Int32))]))
    have hf51 : (1 : Int32) < (4 : Int32) := by decide
    refine Ends.via (fun _ k => XS.icmpNo X0.here hx rfl (hb hby d1_18) rfl (tlt hf51).2.1 k) ?_
    show Ends p e below s ROOM1.cells ROOM1.slots (Q1 Z a0 p1 p2 k us h0 n0) (s₁.setTop (mkF m 21 #[.val (.ref a0), .val (.int p1), .val (.int p2), .val (.int (1 : Int32)), .unset] []))
    refine Ends.via (fun _ k => XS.iloadN X0.here hx rfl (hb hby d1_21) rfl k) ?_
    show Ends p e below s ROOM1.cells ROOM1.slots (Q1 Z a0 p1 p2 k us h0 n0) (s₁.setTop (mkF m 22 #[.val (.ref a0), .val (.int p1), .val (.int p2), .val (.int (1 : Int32)), .unset] [(.int p2)]))
    refine Ends.via (fun _ k => XS.bipush X0.here hx rfl (hb hby d1_22) k) ?_
    show Ends p e below s ROOM1.cells ROOM1.slots (Q1 Z a0 p1 p2 k us h0 n0) (s₁.setTop (mkF m 24 #[.val (.ref a0), .val (.int p1), .val (.int p2), .val (.int (1 : Int32)), .unset] [(.int (8 : Int32)), (.int p2)]))
    refine Ends.via (fun _ k => XS.iloadN X0.here hx rfl (hb hby d1_24) rfl k) ?_
    show Ends p e below s ROOM1.cells ROOM1.slots (Q1 Z a0 p1 p2 k us h0 n0) (s₁.setTop (mkF m 25 #[.val (.ref a0), .val (.int p1), .val (.int p2), .val (.int (1 : Int32)), .unset] [(.int (1 : Int32)), (.int (8 : Int32)), (.int p2)]))
    refine Ends.via (fun _ k => XS.imul X0.here hx rfl (hb hby d1_25) rfl k) ?_
    show Ends p e below s ROOM1.cells ROOM1.slots (Q1 Z a0 p1 p2 k us h0 n0) (s₁.setTop (mkF m 26 #[.val (.ref a0), .val (.int p1), .val (.int p2), .val (.int (1 : Int32)), .unset] [(.int (8 : Int32)), (.int p2)]))
    refine Ends.via (fun _ k => XS.iushr X0.here hx rfl (hb hby d1_26) rfl k) ?_
    show Ends p e below s ROOM1.cells ROOM1.slots (Q1 Z a0 p1 p2 k us h0 n0) (s₁.setTop (mkF m 27 #[.val (.ref a0), .val (.int p1), .val (.int p2), .val (.int (1 : Int32)), .unset] [(.int ((p2.toUInt32 >>> ((8 : Int32) &&& 31).toUInt32).toInt32))]))
    have hf52 : ¬ (((p2.toUInt32 >>> ((8 : Int32) &&& 31).toUInt32).toInt32) = (0 : Int32)) := own_z1_3 p2 hk
    refine Ends.via (fun _ k => XS.ifNo X0.here hx rfl (hb hby d1_27) rfl ((if0 _ _).trans (feq hf52).1) k) ?_
    show Ends p e below s ROOM1.cells ROOM1.slots (Q1 Z a0 p1 p2 k us h0 n0) (s₁.setTop (mkF m 30 #[.val (.ref a0), .val (.int p1), .val (.int p2), .val (.int (1 : Int32)), .unset] []))
    refine Ends.via (fun _ k => XS.iinc X0.here hx rfl (hb hby d1_30) rfl (l' := #[.val (.ref a0), .val (.int p1), .val (.int p2), .val (.int (2 : Int32)), .unset]) rfl k) ?_
    show Ends p e below s ROOM1.cells ROOM1.slots (Q1 Z a0 p1 p2 k us h0 n0) (s₁.setTop (mkF m 33 #[.val (.ref a0), .val (.int p1), .val (.int p2), .val (.int (2 : Int32)), .unset] []))
    refine Ends.via (fun _ k => XS.goto X0.here hx rfl (pc0 := 33) (pc' := 16) rfl (hb hby d1_33) (by decide) (by decide) k) ?_
    show Ends p e below s ROOM1.cells ROOM1.slots (Q1 Z a0 p1 p2 k us h0 n0) (s₁.setTop (mkF m 16 #[.val (.ref a0), .val (.int p1), .val (.int p2), .val (.int (2 : Int32)), .unset] []))
    refine Ends.via (fun _ k => XS.iloadN X0.here hx rfl (hb hby d1_16) rfl k) ?_
    show Ends p e below s ROOM1.cells ROOM1.slots (Q1 Z a0 p1 p2 k us h0 n0) (s₁.setTop (mkF m 17 #[.val (.ref a0), .val (.int p1), .val (.int p2), .val (.int (2 : Int32)), .unset] [(.int (2 : Int32))]))
    refine Ends.via (fun _ k => XS.iconst X0.here hx rfl (hb hby d1_17) k) ?_
    show Ends p e below s ROOM1.cells ROOM1.slots (Q1 Z a0 p1 p2 k us h0 n0) (s₁.setTop (mkF m 18 #[.val (.ref a0), .val (.int p1), .val (.int p2), .val (.int (2 : Int32)), .unset] [(.int (4 : Int32)), (.int (2 : Int32))]))
    have hf53 : (2 : Int32) < (4 : Int32) := by decide
    refine Ends.via (fun _ k => XS.icmpNo X0.here hx rfl (hb hby d1_18) rfl (tlt hf53).2.1 k) ?_
    show Ends p e below s ROOM1.cells ROOM1.slots (Q1 Z a0 p1 p2 k us h0 n0) (s₁.setTop (mkF m 21 #[.val (.ref a0), .val (.int p1), .val (.int p2), .val (.int (2 : Int32)), .unset] []))
    refine Ends.via (fun _ k => XS.iloadN X0.here hx rfl (hb hby d1_21) rfl k) ?_
    show Ends p e below s ROOM1.cells ROOM1.slots (Q1 Z a0 p1 p2 k us h0 n0) (s₁.setTop (mkF m 22 #[.val (.ref a0), .val (.int p1), .val (.int p2), .val (.int (2 : Int32)), .unset] [(.int p2)]))
    refine Ends.via (fun _ k => XS.bipush X0.here hx rfl (hb hby d1_22) k) ?_
    show Ends p e below s ROOM1.cells ROOM1.slots (Q1 Z a0 p1 p2 k us h0 n0) (s₁.setTop (mkF m 24 #[.val (.ref a0), .val (.int p1), .val (.int p2), .val (.int (2 : Int32)), .unset] [(.int (8 : Int32)), (.int p2)]))
    refine Ends.via (fun _ k => XS.iloadN X0.here hx rfl (hb hby d1_24) rfl k) ?_
    show Ends p e below s ROOM1.cells ROOM1.slots (Q1 Z a0 p1 p2 k us h0 n0) (s₁.setTop (mkF m 25 #[.val (.ref a0), .val (.int p1), .val (.int p2), .val (.int (2 : Int32)), .unset] [(.int (2 : Int32)), (.int (8 : Int32)), (.int p2)]))
    refine Ends.via (fun _ k => XS.imul X0.here hx rfl (hb hby d1_25) rfl k) ?_
    show Ends p e below s ROOM1.cells ROOM1.slots (Q1 Z a0 p1 p2 k us h0 n0) (s₁.setTop (mkF m 26 #[.val (.ref a0), .val (.int p1), .val (.int p2), .val (.int (2 : Int32)), .unset] [(.int (16 : Int32)), (.int p2)]))
    refine Ends.via (fun _ k => XS.iushr X0.here hx rfl (hb hby d1_26) rfl k) ?_
    show Ends p e below s ROOM1.cells ROOM1.slots (Q1 Z a0 p1 p2 k us h0 n0) (s₁.setTop (mkF m 27 #[.val (.ref a0), .val (.int p1), .val (.int p2), .val (.int (2 : Int32)), .unset] [(.int ((p2.toUInt32 >>> ((16 : Int32) &&& 31).toUInt32).toInt32))]))
    have hf54 : ¬ (((p2.toUInt32 >>> ((16 : Int32) &&& 31).toUInt32).toInt32) = (0 : Int32)) := own_z2_3 p2 hk
    refine Ends.via (fun _ k => XS.ifNo X0.here hx rfl (hb hby d1_27) rfl ((if0 _ _).trans (feq hf54).1) k) ?_
    show Ends p e below s ROOM1.cells ROOM1.slots (Q1 Z a0 p1 p2 k us h0 n0) (s₁.setTop (mkF m 30 #[.val (.ref a0), .val (.int p1), .val (.int p2), .val (.int (2 : Int32)), .unset] []))
    refine Ends.via (fun _ k => XS.iinc X0.here hx rfl (hb hby d1_30) rfl (l' := #[.val (.ref a0), .val (.int p1), .val (.int p2), .val (.int (3 : Int32)), .unset]) rfl k) ?_
    show Ends p e below s ROOM1.cells ROOM1.slots (Q1 Z a0 p1 p2 k us h0 n0) (s₁.setTop (mkF m 33 #[.val (.ref a0), .val (.int p1), .val (.int p2), .val (.int (3 : Int32)), .unset] []))
    refine Ends.via (fun _ k => XS.goto X0.here hx rfl (pc0 := 33) (pc' := 16) rfl (hb hby d1_33) (by decide) (by decide) k) ?_
    show Ends p e below s ROOM1.cells ROOM1.slots (Q1 Z a0 p1 p2 k us h0 n0) (s₁.setTop (mkF m 16 #[.val (.ref a0), .val (.int p1), .val (.int p2), .val (.int (3 : Int32)), .unset] []))
    refine Ends.via (fun _ k => XS.iloadN X0.here hx rfl (hb hby d1_16) rfl k) ?_
    show Ends p e below s ROOM1.cells ROOM1.slots (Q1 Z a0 p1 p2 k us h0 n0) (s₁.setTop (mkF m 17 #[.val (.ref a0), .val (.int p1), .val (.int p2), .val (.int (3 : Int32)), .unset] [(.int (3 : Int32))]))
    refine Ends.via (fun _ k => XS.iconst X0.here hx rfl (hb hby d1_17) k) ?_
    show Ends p e below s ROOM1.cells ROOM1.slots (Q1 Z a0 p1 p2 k us h0 n0) (s₁.setTop (mkF m 18 #[.val (.ref a0), .val (.int p1), .val (.int p2), .val (.int (3 : Int32)), .unset] [(.int (4 : Int32)), (.int (3 : Int32))]))
    have hf55 : (3 : Int32) < (4 : Int32) := by decide
    refine Ends.via (fun _ k => XS.icmpNo X0.here hx rfl (hb hby d1_18) rfl (tlt hf55).2.1 k) ?_
    show Ends p e below s ROOM1.cells ROOM1.slots (Q1 Z a0 p1 p2 k us h0 n0) (s₁.setTop (mkF m 21 #[.val (.ref a0), .val (.int p1), .val (.int p2), .val (.int (3 : Int32)), .unset] []))
    refine Ends.via (fun _ k => XS.iloadN X0.here hx rfl (hb hby d1_21) rfl k) ?_
    show Ends p e below s ROOM1.cells ROOM1.slots (Q1 Z a0 p1 p2 k us h0 n0) (s₁.setTop (mkF m 22 #[.val (.ref a0), .val (.int p1), .val (.int p2), .val (.int (3 : Int32)), .unset] [(.int p2)]))
    refine Ends.via (fun _ k => XS.bipush X0.here hx rfl (hb hby d1_22) k) ?_
    show Ends p e below s ROOM1.cells ROOM1.slots (Q1 Z a0 p1 p2 k us h0 n0) (s₁.setTop (mkF m 24 #[.val (.ref a0), .val (.int p1), .val (.int p2), .val (.int (3 : Int32)), .unset] [(.int (8 : Int32)), (.int p2)]))
    refine Ends.via (fun _ k => XS.iloadN X0.here hx rfl (hb hby d1_24) rfl k) ?_
    show Ends p e below s ROOM1.cells ROOM1.slots (Q1 Z a0 p1 p2 k us h0 n0) (s₁.setTop (mkF m 25 #[.val (.ref a0), .val (.int p1), .val (.int p2), .val (.int (3 : Int32)), .unset] [(.int (3 : Int32)), (.int (8 : Int32)), (.int p2)]))
    refine Ends.via (fun _ k => XS.imul X0.here hx rfl (hb hby d1_25) rfl k) ?_
    show Ends p e below s ROOM1.cells ROOM1.slots (Q1 Z a0 p1 p2 k us h0 n0) (s₁.setTop (mkF m 26 #[.val (.ref a0), .val (.int p1), .val (.int p2), .val (.int (3 : Int32)), .unset] [(.int (24 : Int32)), (.int p2)]))
    refine Ends.via (fun _ k => XS.iushr X0.here hx rfl (hb hby d1_26) rfl k) ?_
    show Ends p e below s ROOM1.cells ROOM1.slots (Q1 Z a0 p1 p2 k us h0 n0) (s₁.setTop (mkF m 27 #[.val (.ref a0), .val (.int p1), .val (.int p2), .val (.int (3 : Int32)), .unset] [(.int ((p2.toUInt32 >>> ((24 : Int32) &&& 31).toUInt32).toInt32))]))
    have hf56 : ((p2.toUInt32 >>> ((24 : Int32) &&& 31).toUInt32).toInt32) = (0 : Int32) := own_z3_3 p2 hk
    refine Ends.via (fun _ k => XS.ifYes X0.here hx rfl (pc0 := 27) (pc' := 36) rfl (hb hby d1_27) rfl ((if0 _ _).trans (teq hf56).1) (by decide) (by decide) k) ?_
    show Ends p e below s ROOM1.cells ROOM1.slots (Q1 Z a0 p1 p2 k us h0 n0) (s₁.setTop (mkF m 36 #[.val (.ref a0), .val (.int p1), .val (.int p2), .val (.int (3 : Int32)), .unset] []))
    refine Ends.via (fun _ k => XS.aloadN X0.here hx rfl (hb hby d1_36) rfl rfl k) ?_
    show Ends p e below s ROOM1.cells ROOM1.slots (Q1 Z a0 p1 p2 k us h0 n0) (s₁.setTop (mkF m 37 #[.val (.ref a0), .val (.int p1), .val (.int p2), .val (.int (3 : Int32)), .unset] [(.ref a0)]))
    refine Ends.via (fun _ k => XS.iloadN X0.here hx rfl (hb hby d1_37) rfl k) ?_
    show Ends p e below s ROOM1.cells ROOM1.slots (Q1 Z a0 p1 p2 k us h0 n0) (s₁.setTop (mkF m 38 #[.val (.ref a0), .val (.int p1), .val (.int p2), .val (.int (3 : Int32)), .unset] [(.int p1), (.ref a0)]))
    refine Ends.via (fun _ k => XS.sipush X0.here hx rfl (hb hby d1_38) k) ?_
    show Ends p e below s ROOM1.cells ROOM1.slots (Q1 Z a0 p1 p2 k us h0 n0) (s₁.setTop (mkF m 41 #[.val (.ref a0), .val (.int p1), .val (.int p2), .val (.int (3 : Int32)), .unset] [(.int (128 : Int32)), (.int p1), (.ref a0)]))
    refine Ends.via (fun _ k => XS.iloadN X0.here hx rfl (hb hby d1_41) rfl k) ?_
    show Ends p e below s ROOM1.cells ROOM1.slots (Q1 Z a0 p1 p2 k us h0 n0) (s₁.setTop (mkF m 42 #[.val (.ref a0), .val (.int p1), .val (.int p2), .val (.int (3 : Int32)), .unset] [(.int (3 : Int32)), (.int (128 : Int32)), (.int p1), (.ref a0)]))
    refine Ends.via (fun _ k => XS.ior X0.here hx rfl (hb hby d1_42) rfl k) ?_
    show Ends p e below s ROOM1.cells ROOM1.slots (Q1 Z a0 p1 p2 k us h0 n0) (s₁.setTop (mkF m 43 #[.val (.ref a0), .val (.int p1), .val (.int p2), .val (.int (3 : Int32)), .unset] [(.int (131 : Int32)), (.int p1), (.ref a0)]))
    refine Ends.via (fun _ k => XS.i2b X0.here hx rfl (hb hby d1_43) rfl k) ?_
    show Ends p e below s ROOM1.cells ROOM1.slots (Q1 Z a0 p1 p2 k us h0 n0) (s₁.setTop (mkF m 44 #[.val (.ref a0), .val (.int p1), .val (.int p2), .val (.int (3 : Int32)), .unset] [(.int ((131 : Int32).toInt8.toInt32)), (.int p1), (.ref a0)]))
    obtain ⟨T57, h57, X57, e57, W57, B57, st57⟩ := own_stB X0 hx hZ e0 Va (j := p1) (own_in0 p1 ha) (g := (mkF m 44 #[.val (.ref a0), .val (.int p1), .val (.int p2), .val (.int (3 : Int32)), .unset] [(.int ((131 : Int32).toInt8.toInt32)), (.int p1), (.ref a0)])) rfl rfl (hb hby d1_44)
    have Z57 : n0 ≤ h57.size := Nat.le_trans Z0 (Keep.of_wr W57).1
    have K57 := Keep.wr (Keep.refl h0 [a0]) W57 (Or.inl (List.mem_of_getElem? (i := 0) rfl))
    have N57 := Fr.snoc X57 N0 g_a0
    refine Ends.via st57 ?_
    show Ends p e below s ROOM1.cells ROOM1.slots (Q1 Z a0 p1 p2 k us h0 n0) (T57.setTop (mkF m 45 #[.val (.ref a0), .val (.int p1), .val (.int p2), .val (.int (3 : Int32)), .unset] []))
    refine Ends.via (fun _ k => XS.iconst X57.here hx rfl (hb hby d1_45) k) ?_
    show Ends p e below s ROOM1.cells ROOM1.slots (Q1 Z a0 p1 p2 k us h0 n0) (T57.setTop (mkF m 46 #[.val (.ref a0), .val (.int p1), .val (.int p2), .val (.int (3 : Int32)), .unset] [(.int (1 : Int32))]))
    refine Ends.via (fun _ k => XS.istore X57.here hx rfl (hb hby d1_46) rfl (l' := #[.val (.ref a0), .val (.int p1), .val (.int p2), .val (.int (3 : Int32)), .val (.int (1 : Int32))]) rfl k) ?_
    show Ends p e below s ROOM1.cells ROOM1.slots (Q1 Z a0 p1 p2 k us h0 n0) (T57.setTop (mkF m 48 #[.val (.ref a0), .val (.int p1), .val (.int p2), .val (.int (3 : Int32)), .val (.int (1 : Int32))] []))
    refine Ends.via (fun _ k => XS.iload X57.here hx rfl (hb hby d1_48) rfl k) ?_
    show Ends p e below s ROOM1.cells ROOM1.slots (Q1 Z a0 p1 p2 k us h0 n0) (T57.setTop (mkF m 50 #[.val (.ref a0), .val (.int p1), .val (.int p2), .val (.int (3 : Int32)), .val (.int (1 : Int32))] [(.int (1 : Int32))]))
    refine Ends.via (fun _ k => XS.iloadN X57.here hx rfl (hb hby d1_50) rfl k) ?_
    show Ends p e below s ROOM1.cells ROOM1.slots (Q1 Z a0 p1 p2 k us h0 n0) (T57.setTop (mkF m 51 #[.val (.ref a0), .val (.int p1), .val (.int p2), .val (.int (3 : Int32)), .val (.int (1 : Int32))] [(.int (3 : Int32)), (.int (1 : Int32))]))
    have hf58 : ¬ ((3 : Int32) < (1 : Int32)) := by decide
    refine Ends.via (fun _ k => XS.icmpNo X57.here hx rfl (hb hby d1_51) rfl (flt hf58).2.2.1 k) ?_
    show Ends p e below s ROOM1.cells ROOM1.slots (Q1 Z a0 p1 p2 k us h0 n0) (T57.setTop (mkF m 54 #[.val (.ref a0), .val (.int p1), .val (.int p2), .val (.int (3 : Int32)), .val (.int (1 : Int32))] []))
    refine Ends.via (fun _ k => XS.aloadN X57.here hx rfl (hb hby d1_54) rfl rfl k) ?_
    show Ends p e below s ROOM1.cells ROOM1.slots (Q1 Z a0 p1 p2 k us h0 n0) (T57.setTop (mkF m 55 #[.val (.ref a0), .val (.int p1), .val (.int p2), .val (.int (3 : Int32)), .val (.int (1 : Int32))] [(.ref a0)]))
    refine Ends.via (fun _ k => XS.iloadN X57.here hx rfl (hb hby d1_55) rfl k) ?_
    show Ends p e below s ROOM1.cells ROOM1.slots (Q1 Z a0 p1 p2 k us h0 n0) (T57.setTop (mkF m 56 #[.val (.ref a0), .val (.int p1), .val (.int p2), .val (.int (3 : Int32)), .val (.int (1 : Int32))] [(.int p1), (.ref a0)]))
    refine Ends.via (fun _ k => XS.iload X57.here hx rfl (hb hby d1_56) rfl k) ?_
    show Ends p e below s ROOM1.cells ROOM1.slots (Q1 Z a0 p1 p2 k us h0 n0) (T57.setTop (mkF m 58 #[.val (.ref a0), .val (.int p1), .val (.int p2), .val (.int (3 : Int32)), .val (.int (1 : Int32))] [(.int (1 : Int32)), (.int p1), (.ref a0)]))
    refine Ends.via (fun _ k => XS.iadd X57.here hx rfl (hb hby d1_58) rfl k) ?_
    show Ends p e below s ROOM1.cells ROOM1.slots (Q1 Z a0 p1 p2 k us h0 n0) (T57.setTop (mkF m 59 #[.val (.ref a0), .val (.int p1), .val (.int p2), .val (.int (3 : Int32)), .val (.int (1 : Int32))] [(.int (p1 + (1 : Int32))), (.ref a0)]))
    refine Ends.via (fun _ k => XS.iloadN X57.here hx rfl (hb hby d1_59) rfl k) ?_
    show Ends p e below s ROOM1.cells ROOM1.slots (Q1 Z a0 p1 p2 k us h0 n0) (T57.setTop (mkF m 60 #[.val (.ref a0), .val (.int p1), .val (.int p2), .val (.int (3 : Int32)), .val (.int (1 : Int32))] [(.int p2), (.int (p1 + (1 : Int32))), (.ref a0)]))
    refine Ends.via (fun _ k => XS.bipush X57.here hx rfl (hb hby d1_60) k) ?_
    show Ends p e below s ROOM1.cells ROOM1.slots (Q1 Z a0 p1 p2 k us h0 n0) (T57.setTop (mkF m 62 #[.val (.ref a0), .val (.int p1), .val (.int p2), .val (.int (3 : Int32)), .val (.int (1 : Int32))] [(.int (8 : Int32)), (.int p2), (.int (p1 + (1 : Int32))), (.ref a0)]))
    refine Ends.via (fun _ k => XS.iloadN X57.here hx rfl (hb hby d1_62) rfl k) ?_
    show Ends p e below s ROOM1.cells ROOM1.slots (Q1 Z a0 p1 p2 k us h0 n0) (T57.setTop (mkF m 63 #[.val (.ref a0), .val (.int p1), .val (.int p2), .val (.int (3 : Int32)), .val (.int (1 : Int32))] [(.int (3 : Int32)), (.int (8 : Int32)), (.int p2), (.int (p1 + (1 : Int32))), (.ref a0)]))
    refine Ends.via (fun _ k => XS.iload X57.here hx rfl (hb hby d1_63) rfl k) ?_
    show Ends p e below s ROOM1.cells ROOM1.slots (Q1 Z a0 p1 p2 k us h0 n0) (T57.setTop (mkF m 65 #[.val (.ref a0), .val (.int p1), .val (.int p2), .val (.int (3 : Int32)), .val (.int (1 : Int32))] [(.int (1 : Int32)), (.int (3 : Int32)), (.int (8 : Int32)), (.int p2), (.int (p1 + (1 : Int32))), (.ref a0)]))
    refine Ends.via (fun _ k => XS.isub X57.here hx rfl (hb hby d1_65) rfl k) ?_
    show Ends p e below s ROOM1.cells ROOM1.slots (Q1 Z a0 p1 p2 k us h0 n0) (T57.setTop (mkF m 66 #[.val (.ref a0), .val (.int p1), .val (.int p2), .val (.int (3 : Int32)), .val (.int (1 : Int32))] [(.int (2 : Int32)), (.int (8 : Int32)), (.int p2), (.int (p1 + (1 : Int32))), (.ref a0)]))
    refine Ends.via (fun _ k => XS.imul X57.here hx rfl (hb hby d1_66) rfl k) ?_
    show Ends p e below s ROOM1.cells ROOM1.slots (Q1 Z a0 p1 p2 k us h0 n0) (T57.setTop (mkF m 67 #[.val (.ref a0), .val (.int p1), .val (.int p2), .val (.int (3 : Int32)), .val (.int (1 : Int32))] [(.int (16 : Int32)), (.int p2), (.int (p1 + (1 : Int32))), (.ref a0)]))
    refine Ends.via (fun _ k => XS.iushr X57.here hx rfl (hb hby d1_67) rfl k) ?_
    show Ends p e below s ROOM1.cells ROOM1.slots (Q1 Z a0 p1 p2 k us h0 n0) (T57.setTop (mkF m 68 #[.val (.ref a0), .val (.int p1), .val (.int p2), .val (.int (3 : Int32)), .val (.int (1 : Int32))] [(.int ((p2.toUInt32 >>> ((16 : Int32) &&& 31).toUInt32).toInt32)), (.int (p1 + (1 : Int32))), (.ref a0)]))
    refine Ends.via (fun _ k => XS.i2b X57.here hx rfl (hb hby d1_68) rfl k) ?_
    show Ends p e below s ROOM1.cells ROOM1.slots (Q1 Z a0 p1 p2 k us h0 n0) (T57.setTop (mkF m 69 #[.val (.ref a0), .val (.int p1), .val (.int p2), .val (.int (3 : Int32)), .val (.int (1 : Int32))] [(.int (((p2.toUInt32 >>> ((16 : Int32) &&& 31).toUInt32).toInt32).toInt8.toInt32)), (.int (p1 + (1 : Int32))), (.ref a0)]))
    obtain ⟨T59, h59, X59, e59, W59, B59, st59⟩ := own_stB X57 hx hZ e57 B57 (j := (p1 + (1 : Int32))) (own_in p1 ha (1 : Int32) 1 rfl (by decide)) (g := (mkF m 69 #[.val (.ref a0), .val (.int p1), .val (.int p2), .val (.int (3 : Int32)), .val (.int (1 : Int32))] [(.int (((p2.toUInt32 >>> ((16 : Int32) &&& 31).toUInt32).toInt32).toInt8.toInt32)), (.int (p1 + (1 : Int32))), (.ref a0)])) rfl rfl (hb hby d1_69)
    have Z59 : n0 ≤ h59.size := Nat.le_trans Z57 (Keep.of_wr W59).1
    have K59 := Keep.wr K57 W59 (Or.inl (List.mem_of_getElem? (i := 0) rfl))
    have N59 := Fr.snoc X59 N57 g_a0
    refine Ends.via st59 ?_
    show Ends p e below s ROOM1.cells ROOM1.slots (Q1 Z a0 p1 p2 k us h0 n0) (T59.setTop (mkF m 70 #[.val (.ref a0), .val (.int p1), .val (.int p2), .val (.int (3 : Int32)), .val (.int (1 : Int32))] []))
    refine Ends.via (fun _ k => XS.iinc X59.here hx rfl (hb hby d1_70) rfl (l' := #[.val (.ref a0), .val (.int p1), .val (.int p2), .val (.int (3 : Int32)), .val (.int (2 : Int32))]) rfl k) ?_
    show Ends p e below s ROOM1.cells ROOM1.slots (Q1 Z a0 p1 p2 k us h0 n0) (T59.setTop (mkF m 73 #[.val (.ref a0), .val (.int p1), .val (.int p2), .val (.int (3 : Int32)), .val (.int (2 : Int32))] []))
    refine Ends.via (fun _ k => XS.goto X59.here hx rfl (pc0 := 73) (pc' := 48) rfl (hb hby d1_73) (by decide) (by decide) k) ?_
    show Ends p e below s ROOM1.cells ROOM1.slots (Q1 Z a0 p1 p2 k us h0 n0) (T59.setTop (mkF m 48 #[.val (.ref a0), .val (.int p1), .val (.int p2), .val (.int (3 : Int32)), .val (.int (2 : Int32))] []))
    refine Ends.via (fun _ k => XS.iload X59.here hx rfl (hb hby d1_48) rfl k) ?_
    show Ends p e below s ROOM1.cells ROOM1.slots (Q1 Z a0 p1 p2 k us h0 n0) (T59.setTop (mkF m 50 #[.val (.ref a0), .val (.int p1), .val (.int p2), .val (.int (3 : Int32)), .val (.int (2 : Int32))] [(.int (2 : Int32))]))
    refine Ends.via (fun _ k => XS.iloadN X59.here hx rfl (hb hby d1_50) rfl k) ?_
    show Ends p e below s ROOM1.cells ROOM1.slots (Q1 Z a0 p1 p2 k us h0 n0) (T59.setTop (mkF m 51 #[.val (.ref a0), .val (.int p1), .val (.int p2), .val (.int (3 : Int32)), .val (.int (2 : Int32))] [(.int (3 : Int32)), (.int (2 : Int32))]))
    have hf60 : ¬ ((3 : Int32) < (2 : Int32)) := by decide
    refine Ends.via (fun _ k => XS.icmpNo X59.here hx rfl (hb hby d1_51) rfl (flt hf60).2.2.1 k) ?_
    show Ends p e below s ROOM1.cells ROOM1.slots (Q1 Z a0 p1 p2 k us h0 n0) (T59.setTop (mkF m 54 #[.val (.ref a0), .val (.int p1), .val (.int p2), .val (.int (3 : Int32)), .val (.int (2 : Int32))] []))
    refine Ends.via (fun _ k => XS.aloadN X59.here hx rfl (hb hby d1_54) rfl rfl k) ?_
    show Ends p e below s ROOM1.cells ROOM1.slots (Q1 Z a0 p1 p2 k us h0 n0) (T59.setTop (mkF m 55 #[.val (.ref a0), .val (.int p1), .val (.int p2), .val (.int (3 : Int32)), .val (.int (2 : Int32))] [(.ref a0)]))
    refine Ends.via (fun _ k => XS.iloadN X59.here hx rfl (hb hby d1_55) rfl k) ?_
    show Ends p e below s ROOM1.cells ROOM1.slots (Q1 Z a0 p1 p2 k us h0 n0) (T59.setTop (mkF m 56 #[.val (.ref a0), .val (.int p1), .val (.int p2), .val (.int (3 : Int32)), .val (.int (2 : Int32))] [(.int p1), (.ref a0)]))
    refine Ends.via (fun _ k => XS.iload X59.here hx rfl (hb hby d1_56) rfl k) ?_
    show Ends p e below s ROOM1.cells ROOM1.slots (Q1 Z a0 p1 p2 k us h0 n0) (T59.setTop (mkF m 58 #[.val (.ref a0), .val (.int p1), .val (.int p2), .val (.int (3 : Int32)), .val (.int (2 : Int32))] [(.int (2 : Int32)), (.int p1), (.ref a0)]))
    refine Ends.via (fun _ k => XS.iadd X59.here hx rfl (hb hby d1_58) rfl k) ?_
    show Ends p e below s ROOM1.cells ROOM1.slots (Q1 Z a0 p1 p2 k us h0 n0) (T59.setTop (mkF m 59 #[.val (.ref a0), .val (.int p1), .val (.int p2), .val (.int (3 : Int32)), .val (.int (2 : Int32))] [(.int (p1 + (2 : Int32))), (.ref a0)]))
    refine Ends.via (fun _ k => XS.iloadN X59.here hx rfl (hb hby d1_59) rfl k) ?_
    show Ends p e below s ROOM1.cells ROOM1.slots (Q1 Z a0 p1 p2 k us h0 n0) (T59.setTop (mkF m 60 #[.val (.ref a0), .val (.int p1), .val (.int p2), .val (.int (3 : Int32)), .val (.int (2 : Int32))] [(.int p2), (.int (p1 + (2 : Int32))), (.ref a0)]))
    refine Ends.via (fun _ k => XS.bipush X59.here hx rfl (hb hby d1_60) k) ?_
    show Ends p e below s ROOM1.cells ROOM1.slots (Q1 Z a0 p1 p2 k us h0 n0) (T59.setTop (mkF m 62 #[.val (.ref a0), .val (.int p1), .val (.int p2), .val (.int (3 : Int32)), .val (.int (2 : Int32))] [(.int (8 : Int32)), (.int p2), (.int (p1 + (2 : Int32))), (.ref a0)]))
    refine Ends.via (fun _ k => XS.iloadN X59.here hx rfl (hb hby d1_62) rfl k) ?_
    show Ends p e below s ROOM1.cells ROOM1.slots (Q1 Z a0 p1 p2 k us h0 n0) (T59.setTop (mkF m 63 #[.val (.ref a0), .val (.int p1), .val (.int p2), .val (.int (3 : Int32)), .val (.int (2 : Int32))] [(.int (3 : Int32)), (.int (8 : Int32)), (.int p2), (.int (p1 + (2 : Int32))), (.ref a0)]))
    refine Ends.via (fun _ k => XS.iload X59.here hx rfl (hb hby d1_63) rfl k) ?_
    show Ends p e below s ROOM1.cells ROOM1.slots (Q1 Z a0 p1 p2 k us h0 n0) (T59.setTop (mkF m 65 #[.val (.ref a0), .val (.int p1), .val (.int p2), .val (.int (3 : Int32)), .val (.int (2 : Int32))] [(.int (2 : Int32)), (.int (3 : Int32)), (.int (8 : Int32)), (.int p2), (.int (p1 + (2 : Int32))), (.ref a0)]))
    refine Ends.via (fun _ k => XS.isub X59.here hx rfl (hb hby d1_65) rfl k) ?_
    show Ends p e below s ROOM1.cells ROOM1.slots (Q1 Z a0 p1 p2 k us h0 n0) (T59.setTop (mkF m 66 #[.val (.ref a0), .val (.int p1), .val (.int p2), .val (.int (3 : Int32)), .val (.int (2 : Int32))] [(.int (1 : Int32)), (.int (8 : Int32)), (.int p2), (.int (p1 + (2 : Int32))), (.ref a0)]))
    refine Ends.via (fun _ k => XS.imul X59.here hx rfl (hb hby d1_66) rfl k) ?_
    show Ends p e below s ROOM1.cells ROOM1.slots (Q1 Z a0 p1 p2 k us h0 n0) (T59.setTop (mkF m 67 #[.val (.ref a0), .val (.int p1), .val (.int p2), .val (.int (3 : Int32)), .val (.int (2 : Int32))] [(.int (8 : Int32)), (.int p2), (.int (p1 + (2 : Int32))), (.ref a0)]))
    refine Ends.via (fun _ k => XS.iushr X59.here hx rfl (hb hby d1_67) rfl k) ?_
    show Ends p e below s ROOM1.cells ROOM1.slots (Q1 Z a0 p1 p2 k us h0 n0) (T59.setTop (mkF m 68 #[.val (.ref a0), .val (.int p1), .val (.int p2), .val (.int (3 : Int32)), .val (.int (2 : Int32))] [(.int ((p2.toUInt32 >>> ((8 : Int32) &&& 31).toUInt32).toInt32)), (.int (p1 + (2 : Int32))), (.ref a0)]))
    refine Ends.via (fun _ k => XS.i2b X59.here hx rfl (hb hby d1_68) rfl k) ?_
    show Ends p e below s ROOM1.cells ROOM1.slots (Q1 Z a0 p1 p2 k us h0 n0) (T59.setTop (mkF m 69 #[.val (.ref a0), .val (.int p1), .val (.int p2), .val (.int (3 : Int32)), .val (.int (2 : Int32))] [(.int (((p2.toUInt32 >>> ((8 : Int32) &&& 31).toUInt32).toInt32).toInt8.toInt32)), (.int (p1 + (2 : Int32))), (.ref a0)]))
    obtain ⟨T61, h61, X61, e61, W61, B61, st61⟩ := own_stB X59 hx hZ e59 B59 (j := (p1 + (2 : Int32))) (own_in p1 ha (2 : Int32) 2 rfl (by decide)) (g := (mkF m 69 #[.val (.ref a0), .val (.int p1), .val (.int p2), .val (.int (3 : Int32)), .val (.int (2 : Int32))] [(.int (((p2.toUInt32 >>> ((8 : Int32) &&& 31).toUInt32).toInt32).toInt8.toInt32)), (.int (p1 + (2 : Int32))), (.ref a0)])) rfl rfl (hb hby d1_69)
    have Z61 : n0 ≤ h61.size := Nat.le_trans Z59 (Keep.of_wr W61).1
    have K61 := Keep.wr K59 W61 (Or.inl (List.mem_of_getElem? (i := 0) rfl))
    have N61 := Fr.snoc X61 N59 g_a0
    refine Ends.via st61 ?_
    show Ends p e below s ROOM1.cells ROOM1.slots (Q1 Z a0 p1 p2 k us h0 n0) (T61.setTop (mkF m 70 #[.val (.ref a0), .val (.int p1), .val (.int p2), .val (.int (3 : Int32)), .val (.int (2 : Int32))] []))
    refine Ends.via (fun _ k => XS.iinc X61.here hx rfl (hb hby d1_70) rfl (l' := #[.val (.ref a0), .val (.int p1), .val (.int p2), .val (.int (3 : Int32)), .val (.int (3 : Int32))]) rfl k) ?_
    show Ends p e below s ROOM1.cells ROOM1.slots (Q1 Z a0 p1 p2 k us h0 n0) (T61.setTop (mkF m 73 #[.val (.ref a0), .val (.int p1), .val (.int p2), .val (.int (3 : Int32)), .val (.int (3 : Int32))] []))
    refine Ends.via (fun _ k => XS.goto X61.here hx rfl (pc0 := 73) (pc' := 48) rfl (hb hby d1_73) (by decide) (by decide) k) ?_
    show Ends p e below s ROOM1.cells ROOM1.slots (Q1 Z a0 p1 p2 k us h0 n0) (T61.setTop (mkF m 48 #[.val (.ref a0), .val (.int p1), .val (.int p2), .val (.int (3 : Int32)), .val (.int (3 : Int32))] []))
    refine Ends.via (fun _ k => XS.iload X61.here hx rfl (hb hby d1_48) rfl k) ?_
    show Ends p e below s ROOM1.cells ROOM1.slots (Q1 Z a0 p1 p2 k us h0 n0) (T61.setTop (mkF m 50 #[.val (.ref a0), .val (.int p1), .val (.int p2), .val (.int (3 : Int32)), .val (.int (3 : Int32))] [(.int (3 : Int32))]))
    refine Ends.via (fun _ k => XS.iloadN X61.here hx rfl (hb hby d1_50) rfl k) ?_
    show Ends p e below s ROOM1.cells ROOM1.slots (Q1 Z a0 p1 p2 k us h0 n0) (T61.setTop (mkF m 51 #[.val (.ref a0), .val (.int p1), .val (.int p2), .val (.int (3 : Int32)), .val (.int (3 : Int32))] [(.int (3 : Int32)), (.int (3 : Int32))]))
    have hf62 : ¬ ((3 : Int32) < (3 : Int32)) := by decide
    refine Ends.via (fun _ k => XS.icmpNo X61.here hx rfl (hb hby d1_51) rfl (flt hf62).2.2.1 k) ?_
    show Ends p e below s ROOM1.cells ROOM1.slots (Q1 Z a0 p1 p2 k us h0 n0) (T61.setTop (mkF m 54 #[.val (.ref a0), .val (.int p1), .val (.int p2), .val (.int (3 : Int32)), .val (.int (3 : Int32))] []))
    refine Ends.via (fun _ k => XS.aloadN X61.here hx rfl (hb hby d1_54) rfl rfl k) ?_
    show Ends p e below s ROOM1.cells ROOM1.slots (Q1 Z a0 p1 p2 k us h0 n0) (T61.setTop (mkF m 55 #[.val (.ref a0), .val (.int p1), .val (.int p2), .val (.int (3 : Int32)), .val (.int (3 : Int32))] [(.ref a0)]))
    refine Ends.via (fun _ k => XS.iloadN X61.here hx rfl (hb hby d1_55) rfl k) ?_
    show Ends p e below s ROOM1.cells ROOM1.slots (Q1 Z a0 p1 p2 k us h0 n0) (T61.setTop (mkF m 56 #[.val (.ref a0), .val (.int p1), .val (.int p2), .val (.int (3 : Int32)), .val (.int (3 : Int32))] [(.int p1), (.ref a0)]))
    refine Ends.via (fun _ k => XS.iload X61.here hx rfl (hb hby d1_56) rfl k) ?_
    show Ends p e below s ROOM1.cells ROOM1.slots (Q1 Z a0 p1 p2 k us h0 n0) (T61.setTop (mkF m 58 #[.val (.ref a0), .val (.int p1), .val (.int p2), .val (.int (3 : Int32)), .val (.int (3 : Int32))] [(.int (3 : Int32)), (.int p1), (.ref a0)]))
    refine Ends.via (fun _ k => XS.iadd X61.here hx rfl (hb hby d1_58) rfl k) ?_
    show Ends p e below s ROOM1.cells ROOM1.slots (Q1 Z a0 p1 p2 k us h0 n0) (T61.setTop (mkF m 59 #[.val (.ref a0), .val (.int p1), .val (.int p2), .val (.int (3 : Int32)), .val (.int (3 : Int32))] [(.int (p1 + (3 : Int32))), (.ref a0)]))
    refine Ends.via (fun _ k => XS.iloadN X61.here hx rfl (hb hby d1_59) rfl k) ?_
    show Ends p e below s ROOM1.cells ROOM1.slots (Q1 Z a0 p1 p2 k us h0 n0) (T61.setTop (mkF m 60 #[.val (.ref a0), .val (.int p1), .val (.int p2), .val (.int (3 : Int32)), .val (.int (3 : Int32))] [(.int p2), (.int (p1 + (3 : Int32))), (.ref a0)]))
    refine Ends.via (fun _ k => XS.bipush X61.here hx rfl (hb hby d1_60) k) ?_
    show Ends p e below s ROOM1.cells ROOM1.slots (Q1 Z a0 p1 p2 k us h0 n0) (T61.setTop (mkF m 62 #[.val (.ref a0), .val (.int p1), .val (.int p2), .val (.int (3 : Int32)), .val (.int (3 : Int32))] [(.int (8 : Int32)), (.int p2), (.int (p1 + (3 : Int32))), (.ref a0)]))
    refine Ends.via (fun _ k => XS.iloadN X61.here hx rfl (hb hby d1_62) rfl k) ?_
    show Ends p e below s ROOM1.cells ROOM1.slots (Q1 Z a0 p1 p2 k us h0 n0) (T61.setTop (mkF m 63 #[.val (.ref a0), .val (.int p1), .val (.int p2), .val (.int (3 : Int32)), .val (.int (3 : Int32))] [(.int (3 : Int32)), (.int (8 : Int32)), (.int p2), (.int (p1 + (3 : Int32))), (.ref a0)]))
    refine Ends.via (fun _ k => XS.iload X61.here hx rfl (hb hby d1_63) rfl k) ?_
    show Ends p e below s ROOM1.cells ROOM1.slots (Q1 Z a0 p1 p2 k us h0 n0) (T61.setTop (mkF m 65 #[.val (.ref a0), .val (.int p1), .val (.int p2), .val (.int (3 : Int32)), .val (.int (3 : Int32))] [(.int (3 : Int32)), (.int (3 : Int32)), (.int (8 : Int32)), (.int p2), (.int (p1 + (3 : Int32))), (.ref a0)]))
    refine Ends.via (fun _ k => XS.isub X61.here hx rfl (hb hby d1_65) rfl k) ?_
    show Ends p e below s ROOM1.cells ROOM1.slots (Q1 Z a0 p1 p2 k us h0 n0) (T61.setTop (mkF m 66 #[.val (.ref a0), .val (.int p1), .val (.int p2), .val (.int (3 : Int32)), .val (.int (3 : Int32))] [(.int (0 : Int32)), (.int (8 : Int32)), (.int p2), (.int (p1 + (3 : Int32))), (.ref a0)]))
    refine Ends.via (fun _ k => XS.imul X61.here hx rfl (hb hby d1_66) rfl k) ?_
    show Ends p e below s ROOM1.cells ROOM1.slots (Q1 Z a0 p1 p2 k us h0 n0) (T61.setTop (mkF m 67 #[.val (.ref a0), .val (.int p1), .val (.int p2), .val (.int (3 : Int32)), .val (.int (3 : Int32))] [(.int (0 : Int32)), (.int p2), (.int (p1 + (3 : Int32))), (.ref a0)]))
    refine Ends.via (fun _ k => XS.iushr X61.here hx rfl (hb hby d1_67) rfl k) ?_
    show Ends p e below s ROOM1.cells ROOM1.slots (Q1 Z a0 p1 p2 k us h0 n0) (T61.setTop (mkF m 68 #[.val (.ref a0), .val (.int p1), .val (.int p2), .val (.int (3 : Int32)), .val (.int (3 : Int32))] [(.int ((p2.toUInt32 >>> ((0 : Int32) &&& 31).toUInt32).toInt32)), (.int (p1 + (3 : Int32))), (.ref a0)]))
    refine Ends.via (fun _ k => XS.i2b X61.here hx rfl (hb hby d1_68) rfl k) ?_
    show Ends p e below s ROOM1.cells ROOM1.slots (Q1 Z a0 p1 p2 k us h0 n0) (T61.setTop (mkF m 69 #[.val (.ref a0), .val (.int p1), .val (.int p2), .val (.int (3 : Int32)), .val (.int (3 : Int32))] [(.int (((p2.toUInt32 >>> ((0 : Int32) &&& 31).toUInt32).toInt32).toInt8.toInt32)), (.int (p1 + (3 : Int32))), (.ref a0)]))
    obtain ⟨T63, h63, X63, e63, W63, B63, st63⟩ := own_stB X61 hx hZ e61 B61 (j := (p1 + (3 : Int32))) (own_in p1 ha (3 : Int32) 3 rfl (by decide)) (g := (mkF m 69 #[.val (.ref a0), .val (.int p1), .val (.int p2), .val (.int (3 : Int32)), .val (.int (3 : Int32))] [(.int (((p2.toUInt32 >>> ((0 : Int32) &&& 31).toUInt32).toInt32).toInt8.toInt32)), (.int (p1 + (3 : Int32))), (.ref a0)])) rfl rfl (hb hby d1_69)
    have Z63 : n0 ≤ h63.size := Nat.le_trans Z61 (Keep.of_wr W63).1
    have K63 := Keep.wr K61 W63 (Or.inl (List.mem_of_getElem? (i := 0) rfl))
    have N63 := Fr.snoc X63 N61 g_a0
    refine Ends.via st63 ?_
    show Ends p e below s ROOM1.cells ROOM1.slots (Q1 Z a0 p1 p2 k us h0 n0) (T63.setTop (mkF m 70 #[.val (.ref a0), .val (.int p1), .val (.int p2), .val (.int (3 : Int32)), .val (.int (3 : Int32))] []))
    refine Ends.via (fun _ k => XS.iinc X63.here hx rfl (hb hby d1_70) rfl (l' := #[.val (.ref a0), .val (.int p1), .val (.int p2), .val (.int (3 : Int32)), .val (.int (4 : Int32))]) rfl k) ?_
    show Ends p e below s ROOM1.cells ROOM1.slots (Q1 Z a0 p1 p2 k us h0 n0) (T63.setTop (mkF m 73 #[.val (.ref a0), .val (.int p1), .val (.int p2), .val (.int (3 : Int32)), .val (.int (4 : Int32))] []))
    refine Ends.via (fun _ k => XS.goto X63.here hx rfl (pc0 := 73) (pc' := 48) rfl (hb hby d1_73) (by decide) (by decide) k) ?_
    show Ends p e below s ROOM1.cells ROOM1.slots (Q1 Z a0 p1 p2 k us h0 n0) (T63.setTop (mkF m 48 #[.val (.ref a0), .val (.int p1), .val (.int p2), .val (.int (3 : Int32)), .val (.int (4 : Int32))] []))
    refine Ends.via (fun _ k => XS.iload X63.here hx rfl (hb hby d1_48) rfl k) ?_
    show Ends p e below s ROOM1.cells ROOM1.slots (Q1 Z a0 p1 p2 k us h0 n0) (T63.setTop (mkF m 50 #[.val (.ref a0), .val (.int p1), .val (.int p2), .val (.int (3 : Int32)), .val (.int (4 : Int32))] [(.int (4 : Int32))]))
    refine Ends.via (fun _ k => XS.iloadN X63.here hx rfl (hb hby d1_50) rfl k) ?_
    show Ends p e below s ROOM1.cells ROOM1.slots (Q1 Z a0 p1 p2 k us h0 n0) (T63.setTop (mkF m 51 #[.val (.ref a0), .val (.int p1), .val (.int p2), .val (.int (3 : Int32)), .val (.int (4 : Int32))] [(.int (3 : Int32)), (.int (4 : Int32))]))
    have hf64 : (3 : Int32) < (4 : Int32) := by decide
    refine Ends.via (fun _ k => XS.icmpYes X63.here hx rfl (pc0 := 51) (pc' := 76) rfl (hb hby d1_51) rfl (tlt hf64).2.2.1 (by decide) (by decide) k) ?_
    show Ends p e below s ROOM1.cells ROOM1.slots (Q1 Z a0 p1 p2 k us h0 n0) (T63.setTop (mkF m 76 #[.val (.ref a0), .val (.int p1), .val (.int p2), .val (.int (3 : Int32)), .val (.int (4 : Int32))] []))
    refine Ends.via (fun _ k => XS.iconst X63.here hx rfl (hb hby d1_76) k) ?_
    show Ends p e below s ROOM1.cells ROOM1.slots (Q1 Z a0 p1 p2 k us h0 n0) (T63.setTop (mkF m 77 #[.val (.ref a0), .val (.int p1), .val (.int p2), .val (.int (3 : Int32)), .val (.int (4 : Int32))] [(.int (1 : Int32))]))
    refine Ends.via (fun _ k => XS.iloadN X63.here hx rfl (hb hby d1_77) rfl k) ?_
    show Ends p e below s ROOM1.cells ROOM1.slots (Q1 Z a0 p1 p2 k us h0 n0) (T63.setTop (mkF m 78 #[.val (.ref a0), .val (.int p1), .val (.int p2), .val (.int (3 : Int32)), .val (.int (4 : Int32))] [(.int (3 : Int32)), (.int (1 : Int32))]))
    refine Ends.via (fun _ k => XS.iadd X63.here hx rfl (hb hby d1_78) rfl k) ?_
    show Ends p e below s ROOM1.cells ROOM1.slots (Q1 Z a0 p1 p2 k us h0 n0) (T63.setTop (mkF m 79 #[.val (.ref a0), .val (.int p1), .val (.int p2), .val (.int (3 : Int32)), .val (.int (4 : Int32))] [(.int (4 : Int32))]))
    refine Ends.ret X63 (v := some (.int (4 : Int32))) (fun h => by rw [Bd.returns] at h; cases h) Bd.notSynchronized (fun fs hr => retI X63 hx Bd.returns (hb hby d1_79) hr) ?_ (by decide) (by decide)
    rw [e63]
    exact ⟨congrArg some (congrArg Value.int (own_cn3 p2 hk).symm), N63, K63, by rw [own_pl3 us p1 p2 hk]; exact B63⟩
  · show Ends p e below s ROOM1.cells ROOM1.slots (Q1 Z a0 p1 p2 k us h0 n0) (s₁.setTop (mkF m 0 #[.val (.ref a0), .val (.int p1), .val (.int p2), .unset, .unset] []))
    refine Ends.via (fun _ k => XS.iloadN X0.here hx rfl (hb hby d1_0) rfl k) ?_
    show Ends p e below s ROOM1.cells ROOM1.slots (Q1 Z a0 p1 p2 k us h0 n0) (s₁.setTop (mkF m 1 #[.val (.ref a0), .val (.int p1), .val (.int p2), .unset, .unset] [(.int p2)]))
    refine Ends.via (fun _ k => XS.sipush X0.here hx rfl (hb hby d1_1) k) ?_
    show Ends p e below s ROOM1.cells ROOM1.slots (Q1 Z a0 p1 p2 k us h0 n0) (s₁.setTop (mkF m 4 #[.val (.ref a0), .val (.int p1), .val (.int p2), .unset, .unset] [(.int (128 : Int32)), (.int p2)]))
    have hf65 : ¬ (p2 < (128 : Int32)) := own_b0_4 hk
    refine Ends.via (fun _ k => XS.icmpYes X0.here hx rfl (pc0 := 4) (pc' := 14) rfl (hb hby d1_4) rfl (flt hf65).2.1 (by decide) (by decide) k) ?_
    show Ends p e below s ROOM1.cells ROOM1.slots (Q1 Z a0 p1 p2 k us h0 n0) (s₁.setTop (mkF m 14 #[.val (.ref a0), .val (.int p1), .val (.int p2), .unset, .unset] []))
    refine Ends.via (fun _ k => XS.iconst X0.here hx rfl (hb hby d1_14) k) ?_
    show Ends p e below s ROOM1.cells ROOM1.slots (Q1 Z a0 p1 p2 k us h0 n0) (s₁.setTop (mkF m 15 #[.val (.ref a0), .val (.int p1), .val (.int p2), .unset, .unset] [(.int (1 : Int32))]))
    refine Ends.via (fun _ k => XS.istoreN X0.here hx rfl (hb hby d1_15) rfl (l' := #[.val (.ref a0), .val (.int p1), .val (.int p2), .val (.int (1 : Int32)), .unset]) rfl k) ?_
    show Ends p e below s ROOM1.cells ROOM1.slots (Q1 Z a0 p1 p2 k us h0 n0) (s₁.setTop (mkF m 16 #[.val (.ref a0), .val (.int p1), .val (.int p2), .val (.int (1 : Int32)), .unset] []))
    refine Ends.via (fun _ k => XS.iloadN X0.here hx rfl (hb hby d1_16) rfl k) ?_
    show Ends p e below s ROOM1.cells ROOM1.slots (Q1 Z a0 p1 p2 k us h0 n0) (s₁.setTop (mkF m 17 #[.val (.ref a0), .val (.int p1), .val (.int p2), .val (.int (1 : Int32)), .unset] [(.int (1 : Int32))]))
    refine Ends.via (fun _ k => XS.iconst X0.here hx rfl (hb hby d1_17) k) ?_
    show Ends p e below s ROOM1.cells ROOM1.slots (Q1 Z a0 p1 p2 k us h0 n0) (s₁.setTop (mkF m 18 #[.val (.ref a0), .val (.int p1), .val (.int p2), .val (.int (1 : Int32)), .unset] [(.int (4 : Int32)), (.int (1 : Int32))]))
    have hf66 : (1 : Int32) < (4 : Int32) := by decide
    refine Ends.via (fun _ k => XS.icmpNo X0.here hx rfl (hb hby d1_18) rfl (tlt hf66).2.1 k) ?_
    show Ends p e below s ROOM1.cells ROOM1.slots (Q1 Z a0 p1 p2 k us h0 n0) (s₁.setTop (mkF m 21 #[.val (.ref a0), .val (.int p1), .val (.int p2), .val (.int (1 : Int32)), .unset] []))
    refine Ends.via (fun _ k => XS.iloadN X0.here hx rfl (hb hby d1_21) rfl k) ?_
    show Ends p e below s ROOM1.cells ROOM1.slots (Q1 Z a0 p1 p2 k us h0 n0) (s₁.setTop (mkF m 22 #[.val (.ref a0), .val (.int p1), .val (.int p2), .val (.int (1 : Int32)), .unset] [(.int p2)]))
    refine Ends.via (fun _ k => XS.bipush X0.here hx rfl (hb hby d1_22) k) ?_
    show Ends p e below s ROOM1.cells ROOM1.slots (Q1 Z a0 p1 p2 k us h0 n0) (s₁.setTop (mkF m 24 #[.val (.ref a0), .val (.int p1), .val (.int p2), .val (.int (1 : Int32)), .unset] [(.int (8 : Int32)), (.int p2)]))
    refine Ends.via (fun _ k => XS.iloadN X0.here hx rfl (hb hby d1_24) rfl k) ?_
    show Ends p e below s ROOM1.cells ROOM1.slots (Q1 Z a0 p1 p2 k us h0 n0) (s₁.setTop (mkF m 25 #[.val (.ref a0), .val (.int p1), .val (.int p2), .val (.int (1 : Int32)), .unset] [(.int (1 : Int32)), (.int (8 : Int32)), (.int p2)]))
    refine Ends.via (fun _ k => XS.imul X0.here hx rfl (hb hby d1_25) rfl k) ?_
    show Ends p e below s ROOM1.cells ROOM1.slots (Q1 Z a0 p1 p2 k us h0 n0) (s₁.setTop (mkF m 26 #[.val (.ref a0), .val (.int p1), .val (.int p2), .val (.int (1 : Int32)), .unset] [(.int (8 : Int32)), (.int p2)]))
    refine Ends.via (fun _ k => XS.iushr X0.here hx rfl (hb hby d1_26) rfl k) ?_
    show Ends p e below s ROOM1.cells ROOM1.slots (Q1 Z a0 p1 p2 k us h0 n0) (s₁.setTop (mkF m 27 #[.val (.ref a0), .val (.int p1), .val (.int p2), .val (.int (1 : Int32)), .unset] [(.int ((p2.toUInt32 >>> ((8 : Int32) &&& 31).toUInt32).toInt32))]))
    have hf67 : ¬ (((p2.toUInt32 >>> ((8 : Int32) &&& 31).toUInt32).toInt32) = (0 : Int32)) := own_z1_4 p2 hk
    refine Ends.via (fun _ k => XS.ifNo X0.here hx rfl (hb hby d1_27) rfl ((if0 _ _).trans (feq hf67).1) k) ?_
    show Ends p e below s ROOM1.cells ROOM1.slots (Q1 Z a0 p1 p2 k us h0 n0) (s₁.setTop (mkF m 30 #[.val (.ref a0), .val (.int p1), .val (.int p2), .val (.int (1 : Int32)), .unset] []))
    refine Ends.via (fun _ k => XS.iinc X0.here hx rfl (hb hby d1_30) rfl (l' := #[.val (.ref a0), .val (.int p1), .val (.int p2), .val (.int (2 : Int32)), .unset]) rfl k) ?_
    show Ends p e below s ROOM1.cells ROOM1.slots (Q1 Z a0 p1 p2 k us h0 n0) (s₁.setTop (mkF m 33 #[.val (.ref a0), .val (.int p1), .val (.int p2), .val (.int (2 : Int32)), .unset] []))
    refine Ends.via (fun _ k => XS.goto X0.here hx rfl (pc0 := 33) (pc' := 16) rfl (hb hby d1_33) (by decide) (by decide) k) ?_
    show Ends p e below s ROOM1.cells ROOM1.slots (Q1 Z a0 p1 p2 k us h0 n0) (s₁.setTop (mkF m 16 #[.val (.ref a0), .val (.int p1), .val (.int p2), .val (.int (2 : Int32)), .unset] []))
    refine Ends.via (fun _ k => XS.iloadN X0.here hx rfl (hb hby d1_16) rfl k) ?_
    show Ends p e below s ROOM1.cells ROOM1.slots (Q1 Z a0 p1 p2 k us h0 n0) (s₁.setTop (mkF m 17 #[.val (.ref a0), .val (.int p1), .val (.int p2), .val (.int (2 : Int32)), .unset] [(.int (2 : Int32))]))
    refine Ends.via (fun _ k => XS.iconst X0.here hx rfl (hb hby d1_17) k) ?_
    show Ends p e below s ROOM1.cells ROOM1.slots (Q1 Z a0 p1 p2 k us h0 n0) (s₁.setTop (mkF m 18 #[.val (.ref a0), .val (.int p1), .val (.int p2), .val (.int (2 : Int32)), .unset] [(.int (4 : Int32)), (.int (2 : Int32))]))
    have hf68 : (2 : Int32) < (4 : Int32) := by decide
    refine Ends.via (fun _ k => XS.icmpNo X0.here hx rfl (hb hby d1_18) rfl (tlt hf68).2.1 k) ?_
    show Ends p e below s ROOM1.cells ROOM1.slots (Q1 Z a0 p1 p2 k us h0 n0) (s₁.setTop (mkF m 21 #[.val (.ref a0), .val (.int p1), .val (.int p2), .val (.int (2 : Int32)), .unset] []))
    refine Ends.via (fun _ k => XS.iloadN X0.here hx rfl (hb hby d1_21) rfl k) ?_
    show Ends p e below s ROOM1.cells ROOM1.slots (Q1 Z a0 p1 p2 k us h0 n0) (s₁.setTop (mkF m 22 #[.val (.ref a0), .val (.int p1), .val (.int p2), .val (.int (2 : Int32)), .unset] [(.int p2)]))
    refine Ends.via (fun _ k => XS.bipush X0.here hx rfl (hb hby d1_22) k) ?_
    show Ends p e below s ROOM1.cells ROOM1.slots (Q1 Z a0 p1 p2 k us h0 n0) (s₁.setTop (mkF m 24 #[.val (.ref a0), .val (.int p1), .val (.int p2), .val (.int (2 : Int32)), .unset] [(.int (8 : Int32)), (.int p2)]))
    refine Ends.via (fun _ k => XS.iloadN X0.here hx rfl (hb hby d1_24) rfl k) ?_
    show Ends p e below s ROOM1.cells ROOM1.slots (Q1 Z a0 p1 p2 k us h0 n0) (s₁.setTop (mkF m 25 #[.val (.ref a0), .val (.int p1), .val (.int p2), .val (.int (2 : Int32)), .unset] [(.int (2 : Int32)), (.int (8 : Int32)), (.int p2)]))
    refine Ends.via (fun _ k => XS.imul X0.here hx rfl (hb hby d1_25) rfl k) ?_
    show Ends p e below s ROOM1.cells ROOM1.slots (Q1 Z a0 p1 p2 k us h0 n0) (s₁.setTop (mkF m 26 #[.val (.ref a0), .val (.int p1), .val (.int p2), .val (.int (2 : Int32)), .unset] [(.int (16 : Int32)), (.int p2)]))
    refine Ends.via (fun _ k => XS.iushr X0.here hx rfl (hb hby d1_26) rfl k) ?_
    show Ends p e below s ROOM1.cells ROOM1.slots (Q1 Z a0 p1 p2 k us h0 n0) (s₁.setTop (mkF m 27 #[.val (.ref a0), .val (.int p1), .val (.int p2), .val (.int (2 : Int32)), .unset] [(.int ((p2.toUInt32 >>> ((16 : Int32) &&& 31).toUInt32).toInt32))]))
    have hf69 : ¬ (((p2.toUInt32 >>> ((16 : Int32) &&& 31).toUInt32).toInt32) = (0 : Int32)) := own_z2_4 p2 hk
    refine Ends.via (fun _ k => XS.ifNo X0.here hx rfl (hb hby d1_27) rfl ((if0 _ _).trans (feq hf69).1) k) ?_
    show Ends p e below s ROOM1.cells ROOM1.slots (Q1 Z a0 p1 p2 k us h0 n0) (s₁.setTop (mkF m 30 #[.val (.ref a0), .val (.int p1), .val (.int p2), .val (.int (2 : Int32)), .unset] []))
    refine Ends.via (fun _ k => XS.iinc X0.here hx rfl (hb hby d1_30) rfl (l' := #[.val (.ref a0), .val (.int p1), .val (.int p2), .val (.int (3 : Int32)), .unset]) rfl k) ?_
    show Ends p e below s ROOM1.cells ROOM1.slots (Q1 Z a0 p1 p2 k us h0 n0) (s₁.setTop (mkF m 33 #[.val (.ref a0), .val (.int p1), .val (.int p2), .val (.int (3 : Int32)), .unset] []))
    refine Ends.via (fun _ k => XS.goto X0.here hx rfl (pc0 := 33) (pc' := 16) rfl (hb hby d1_33) (by decide) (by decide) k) ?_
    show Ends p e below s ROOM1.cells ROOM1.slots (Q1 Z a0 p1 p2 k us h0 n0) (s₁.setTop (mkF m 16 #[.val (.ref a0), .val (.int p1), .val (.int p2), .val (.int (3 : Int32)), .unset] []))
    refine Ends.via (fun _ k => XS.iloadN X0.here hx rfl (hb hby d1_16) rfl k) ?_
    show Ends p e below s ROOM1.cells ROOM1.slots (Q1 Z a0 p1 p2 k us h0 n0) (s₁.setTop (mkF m 17 #[.val (.ref a0), .val (.int p1), .val (.int p2), .val (.int (3 : Int32)), .unset] [(.int (3 : Int32))]))
    refine Ends.via (fun _ k => XS.iconst X0.here hx rfl (hb hby d1_17) k) ?_
    show Ends p e below s ROOM1.cells ROOM1.slots (Q1 Z a0 p1 p2 k us h0 n0) (s₁.setTop (mkF m 18 #[.val (.ref a0), .val (.int p1), .val (.int p2), .val (.int (3 : Int32)), .unset] [(.int (4 : Int32)), (.int (3 : Int32))]))
    have hf70 : (3 : Int32) < (4 : Int32) := by decide
    refine Ends.via (fun _ k => XS.icmpNo X0.here hx rfl (hb hby d1_18) rfl (tlt hf70).2.1 k) ?_
    show Ends p e below s ROOM1.cells ROOM1.slots (Q1 Z a0 p1 p2 k us h0 n0) (s₁.setTop (mkF m 21 #[.val (.ref a0), .val (.int p1), .val (.int p2), .val (.int (3 : Int32)), .unset] []))
    refine Ends.via (fun _ k => XS.iloadN X0.here hx rfl (hb hby d1_21) rfl k) ?_
    show Ends p e below s ROOM1.cells ROOM1.slots (Q1 Z a0 p1 p2 k us h0 n0) (s₁.setTop (mkF m 22 #[.val (.ref a0), .val (.int p1), .val (.int p2), .val (.int (3 : Int32)), .unset] [(.int p2)]))
    refine Ends.via (fun _ k => XS.bipush X0.here hx rfl (hb hby d1_22) k) ?_
    show Ends p e below s ROOM1.cells ROOM1.slots (Q1 Z a0 p1 p2 k us h0 n0) (s₁.setTop (mkF m 24 #[.val (.ref a0), .val (.int p1), .val (.int p2), .val (.int (3 : Int32)), .unset] [(.int (8 : Int32)), (.int p2)]))
    refine Ends.via (fun _ k => XS.iloadN X0.here hx rfl (hb hby d1_24) rfl k) ?_
    show Ends p e below s ROOM1.cells ROOM1.slots (Q1 Z a0 p1 p2 k us h0 n0) (s₁.setTop (mkF m 25 #[.val (.ref a0), .val (.int p1), .val (.int p2), .val (.int (3 : Int32)), .unset] [(.int (3 : Int32)), (.int (8 : Int32)), (.int p2)]))
    refine Ends.via (fun _ k => XS.imul X0.here hx rfl (hb hby d1_25) rfl k) ?_
    show Ends p e below s ROOM1.cells ROOM1.slots (Q1 Z a0 p1 p2 k us h0 n0) (s₁.setTop (mkF m 26 #[.val (.ref a0), .val (.int p1), .val (.int p2), .val (.int (3 : Int32)), .unset] [(.int (24 : Int32)), (.int p2)]))
    refine Ends.via (fun _ k => XS.iushr X0.here hx rfl (hb hby d1_26) rfl k) ?_
    show Ends p e below s ROOM1.cells ROOM1.slots (Q1 Z a0 p1 p2 k us h0 n0) (s₁.setTop (mkF m 27 #[.val (.ref a0), .val (.int p1), .val (.int p2), .val (.int (3 : Int32)), .unset] [(.int ((p2.toUInt32 >>> ((24 : Int32) &&& 31).toUInt32).toInt32))]))
    have hf71 : ¬ (((p2.toUInt32 >>> ((24 : Int32) &&& 31).toUInt32).toInt32) = (0 : Int32)) := own_z3_4 p2 hk
    refine Ends.via (fun _ k => XS.ifNo X0.here hx rfl (hb hby d1_27) rfl ((if0 _ _).trans (feq hf71).1) k) ?_
    show Ends p e below s ROOM1.cells ROOM1.slots (Q1 Z a0 p1 p2 k us h0 n0) (s₁.setTop (mkF m 30 #[.val (.ref a0), .val (.int p1), .val (.int p2), .val (.int (3 : Int32)), .unset] []))
    refine Ends.via (fun _ k => XS.iinc X0.here hx rfl (hb hby d1_30) rfl (l' := #[.val (.ref a0), .val (.int p1), .val (.int p2), .val (.int (4 : Int32)), .unset]) rfl k) ?_
    show Ends p e below s ROOM1.cells ROOM1.slots (Q1 Z a0 p1 p2 k us h0 n0) (s₁.setTop (mkF m 33 #[.val (.ref a0), .val (.int p1), .val (.int p2), .val (.int (4 : Int32)), .unset] []))
    refine Ends.via (fun _ k => XS.goto X0.here hx rfl (pc0 := 33) (pc' := 16) rfl (hb hby d1_33) (by decide) (by decide) k) ?_
    show Ends p e below s ROOM1.cells ROOM1.slots (Q1 Z a0 p1 p2 k us h0 n0) (s₁.setTop (mkF m 16 #[.val (.ref a0), .val (.int p1), .val (.int p2), .val (.int (4 : Int32)), .unset] []))
    refine Ends.via (fun _ k => XS.iloadN X0.here hx rfl (hb hby d1_16) rfl k) ?_
    show Ends p e below s ROOM1.cells ROOM1.slots (Q1 Z a0 p1 p2 k us h0 n0) (s₁.setTop (mkF m 17 #[.val (.ref a0), .val (.int p1), .val (.int p2), .val (.int (4 : Int32)), .unset] [(.int (4 : Int32))]))
    refine Ends.via (fun _ k => XS.iconst X0.here hx rfl (hb hby d1_17) k) ?_
    show Ends p e below s ROOM1.cells ROOM1.slots (Q1 Z a0 p1 p2 k us h0 n0) (s₁.setTop (mkF m 18 #[.val (.ref a0), .val (.int p1), .val (.int p2), .val (.int (4 : Int32)), .unset] [(.int (4 : Int32)), (.int (4 : Int32))]))
    have hf72 : ¬ ((4 : Int32) < (4 : Int32)) := by decide
    refine Ends.via (fun _ k => XS.icmpYes X0.here hx rfl (pc0 := 18) (pc' := 36) rfl (hb hby d1_18) rfl (flt hf72).2.1 (by decide) (by decide) k) ?_
    show Ends p e below s ROOM1.cells ROOM1.slots (Q1 Z a0 p1 p2 k us h0 n0) (s₁.setTop (mkF m 36 #[.val (.ref a0), .val (.int p1), .val (.int p2), .val (.int (4 : Int32)), .unset] []))
    refine Ends.via (fun _ k => XS.aloadN X0.here hx rfl (hb hby d1_36) rfl rfl k) ?_
    show Ends p e below s ROOM1.cells ROOM1.slots (Q1 Z a0 p1 p2 k us h0 n0) (s₁.setTop (mkF m 37 #[.val (.ref a0), .val (.int p1), .val (.int p2), .val (.int (4 : Int32)), .unset] [(.ref a0)]))
    refine Ends.via (fun _ k => XS.iloadN X0.here hx rfl (hb hby d1_37) rfl k) ?_
    show Ends p e below s ROOM1.cells ROOM1.slots (Q1 Z a0 p1 p2 k us h0 n0) (s₁.setTop (mkF m 38 #[.val (.ref a0), .val (.int p1), .val (.int p2), .val (.int (4 : Int32)), .unset] [(.int p1), (.ref a0)]))
    refine Ends.via (fun _ k => XS.sipush X0.here hx rfl (hb hby d1_38) k) ?_
    show Ends p e below s ROOM1.cells ROOM1.slots (Q1 Z a0 p1 p2 k us h0 n0) (s₁.setTop (mkF m 41 #[.val (.ref a0), .val (.int p1), .val (.int p2), .val (.int (4 : Int32)), .unset] [(.int (128 : Int32)), (.int p1), (.ref a0)]))
    refine Ends.via (fun _ k => XS.iloadN X0.here hx rfl (hb hby d1_41) rfl k) ?_
    show Ends p e below s ROOM1.cells ROOM1.slots (Q1 Z a0 p1 p2 k us h0 n0) (s₁.setTop (mkF m 42 #[.val (.ref a0), .val (.int p1), .val (.int p2), .val (.int (4 : Int32)), .unset] [(.int (4 : Int32)), (.int (128 : Int32)), (.int p1), (.ref a0)]))
    refine Ends.via (fun _ k => XS.ior X0.here hx rfl (hb hby d1_42) rfl k) ?_
    show Ends p e below s ROOM1.cells ROOM1.slots (Q1 Z a0 p1 p2 k us h0 n0) (s₁.setTop (mkF m 43 #[.val (.ref a0), .val (.int p1), .val (.int p2), .val (.int (4 : Int32)), .unset] [(.int (132 : Int32)), (.int p1), (.ref a0)]))
    refine Ends.via (fun _ k => XS.i2b X0.here hx rfl (hb hby d1_43) rfl k) ?_
    show Ends p e below s ROOM1.cells ROOM1.slots (Q1 Z a0 p1 p2 k us h0 n0) (s₁.setTop (mkF m 44 #[.val (.ref a0), .val (.int p1), .val (.int p2), .val (.int (4 : Int32)), .unset] [(.int ((132 : Int32).toInt8.toInt32)), (.int p1), (.ref a0)]))
    obtain ⟨T73, h73, X73, e73, W73, B73, st73⟩ := own_stB X0 hx hZ e0 Va (j := p1) (own_in0 p1 ha) (g := (mkF m 44 #[.val (.ref a0), .val (.int p1), .val (.int p2), .val (.int (4 : Int32)), .unset] [(.int ((132 : Int32).toInt8.toInt32)), (.int p1), (.ref a0)])) rfl rfl (hb hby d1_44)
    have Z73 : n0 ≤ h73.size := Nat.le_trans Z0 (Keep.of_wr W73).1
    have K73 := Keep.wr (Keep.refl h0 [a0]) W73 (Or.inl (List.mem_of_getElem? (i := 0) rfl))
    have N73 := Fr.snoc X73 N0 g_a0
    refine Ends.via st73 ?_
    show Ends p e below s ROOM1.cells ROOM1.slots (Q1 Z a0 p1 p2 k us h0 n0) (T73.setTop (mkF m 45 #[.val (.ref a0), .val (.int p1), .val (.int p2), .val (.int (4 : Int32)), .unset] []))
    refine Ends.via (fun _ k => XS.iconst X73.here hx rfl (hb hby d1_45) k) ?_
    show Ends p e below s ROOM1.cells ROOM1.slots (Q1 Z a0 p1 p2 k us h0 n0) (T73.setTop (mkF m 46 #[.val (.ref a0), .val (.int p1), .val (.int p2), .val (.int (4 : Int32)), .unset] [(.int (1 : Int32))]))
    refine Ends.via (fun _ k => XS.istore X73.here hx rfl (hb hby d1_46) rfl (l' := #[.val (.ref a0), .val (.int p1), .val (.int p2), .val (.int (4 : Int32)), .val (.int (1 : Int32))]) rfl k) ?_
    show Ends p e below s ROOM1.cells ROOM1.slots (Q1 Z a0 p1 p2 k us h0 n0) (T73.setTop (mkF m 48 #[.val (.ref a0), .val (.int p1), .val (.int p2), .val (.int (4 : Int32)), .val (.int (1 : Int32))] []))
    refine Ends.via (fun _ k => XS.iload X73.here hx rfl (hb hby d1_48) rfl k) ?_
    show Ends p e below s ROOM1.cells ROOM1.slots (Q1 Z a0 p1 p2 k us h0 n0) (T73.setTop (mkF m 50 #[.val (.ref a0), .val (.int p1), .val (.int p2), .val (.int (4 : Int32)), .val (.int (1 : Int32))] [(.int (1 : Int32))]))
    refine Ends.via (fun _ k => XS.iloadN X73.here hx rfl (hb hby d1_50) rfl k) ?_
    show Ends p e below s ROOM1.cells ROOM1.slots (Q1 Z a0 p1 p2 k us h0 n0) (T73.setTop (mkF m 51 #[.val (.ref a0), .val (.int p1), .val (.int p2), .val (.int (4 : Int32)), .val (.int (1 : Int32))] [(.int (4 : Int32)), (.int (1 : Int32))]))
    have hf74 : ¬ ((4 : Int32) < (1 : Int32)) := by decide
    refine Ends.via (fun _ k => XS.icmpNo X73.here hx rfl (hb hby d1_51) rfl (flt hf74).2.2.1 k) ?_
    show Ends p e below s ROOM1.cells ROOM1.slots (Q1 Z a0 p1 p2 k us h0 n0) (T73.setTop (mkF m 54 #[.val (.ref a0), .val (.int p1), .val (.int p2), .val (.int (4 : Int32)), .val (.int (1 : Int32))] []))
    refine Ends.via (fun _ k => XS.aloadN X73.here hx rfl (hb hby d1_54) rfl rfl k) ?_
    show Ends p e below s ROOM1.cells ROOM1.slots (Q1 Z a0 p1 p2 k us h0 n0) (T73.setTop (mkF m 55 #[.val (.ref a0), .val (.int p1), .val (.int p2), .val (.int (4 : Int32)), .val (.int (1 : Int32))] [(.ref a0)]))
    refine Ends.via (fun _ k => XS.iloadN X73.here hx rfl (hb hby d1_55) rfl k) ?_
    show Ends p e below s ROOM1.cells ROOM1.slots (Q1 Z a0 p1 p2 k us h0 n0) (T73.setTop (mkF m 56 #[.val (.ref a0), .val (.int p1), .val (.int p2), .val (.int (4 : Int32)), .val (.int (1 : Int32))] [(.int p1), (.ref a0)]))
    refine Ends.via (fun _ k => XS.iload X73.here hx rfl (hb hby d1_56) rfl k) ?_
    show Ends p e below s ROOM1.cells ROOM1.slots (Q1 Z a0 p1 p2 k us h0 n0) (T73.setTop (mkF m 58 #[.val (.ref a0), .val (.int p1), .val (.int p2), .val (.int (4 : Int32)), .val (.int (1 : Int32))] [(.int (1 : Int32)), (.int p1), (.ref a0)]))
    refine Ends.via (fun _ k => XS.iadd X73.here hx rfl (hb hby d1_58) rfl k) ?_
    show Ends p e below s ROOM1.cells ROOM1.slots (Q1 Z a0 p1 p2 k us h0 n0) (T73.setTop (mkF m 59 #[.val (.ref a0), .val (.int p1), .val (.int p2), .val (.int (4 : Int32)), .val (.int (1 : Int32))] [(.int (p1 + (1 : Int32))), (.ref a0)]))
    refine Ends.via (fun _ k => XS.iloadN X73.here hx rfl (hb hby d1_59) rfl k) ?_
    show Ends p e below s ROOM1.cells ROOM1.slots (Q1 Z a0 p1 p2 k us h0 n0) (T73.setTop (mkF m 60 #[.val (.ref a0), .val (.int p1), .val (.int p2), .val (.int (4 : Int32)), .val (.int (1 : Int32))] [(.int p2), (.int (p1 + (1 : Int32))), (.ref a0)]))
    refine Ends.via (fun _ k => XS.bipush X73.here hx rfl (hb hby d1_60) k) ?_
    show Ends p e below s ROOM1.cells ROOM1.slots (Q1 Z a0 p1 p2 k us h0 n0) (T73.setTop (mkF m 62 #[.val (.ref a0), .val (.int p1), .val (.int p2), .val (.int (4 : Int32)), .val (.int (1 : Int32))] [(.int (8 : Int32)), (.int p2), (.int (p1 + (1 : Int32))), (.ref a0)]))
    refine Ends.via (fun _ k => XS.iloadN X73.here hx rfl (hb hby d1_62) rfl k) ?_
    show Ends p e below s ROOM1.cells ROOM1.slots (Q1 Z a0 p1 p2 k us h0 n0) (T73.setTop (mkF m 63 #[.val (.ref a0), .val (.int p1), .val (.int p2), .val (.int (4 : Int32)), .val (.int (1 : Int32))] [(.int (4 : Int32)), (.int (8 : Int32)), (.int p2), (.int (p1 + (1 : Int32))), (.ref a0)]))
    refine Ends.via (fun _ k => XS.iload X73.here hx rfl (hb hby d1_63) rfl k) ?_
    show Ends p e below s ROOM1.cells ROOM1.slots (Q1 Z a0 p1 p2 k us h0 n0) (T73.setTop (mkF m 65 #[.val (.ref a0), .val (.int p1), .val (.int p2), .val (.int (4 : Int32)), .val (.int (1 : Int32))] [(.int (1 : Int32)), (.int (4 : Int32)), (.int (8 : Int32)), (.int p2), (.int (p1 + (1 : Int32))), (.ref a0)]))
    refine Ends.via (fun _ k => XS.isub X73.here hx rfl (hb hby d1_65) rfl k) ?_
    show Ends p e below s ROOM1.cells ROOM1.slots (Q1 Z a0 p1 p2 k us h0 n0) (T73.setTop (mkF m 66 #[.val (.ref a0), .val (.int p1), .val (.int p2), .val (.int (4 : Int32)), .val (.int (1 : Int32))] [(.int (3 : Int32)), (.int (8 : Int32)), (.int p2), (.int (p1 + (1 : Int32))), (.ref a0)]))
    refine Ends.via (fun _ k => XS.imul X73.here hx rfl (hb hby d1_66) rfl k) ?_
    show Ends p e below s ROOM1.cells ROOM1.slots (Q1 Z a0 p1 p2 k us h0 n0) (T73.setTop (mkF m 67 #[.val (.ref a0), .val (.int p1), .val (.int p2), .val (.int (4 : Int32)), .val (.int (1 : Int32))] [(.int (24 : Int32)), (.int p2), (.int (p1 + (1 : Int32))), (.ref a0)]))
    refine Ends.via (fun _ k => XS.iushr X73.here hx rfl (hb hby d1_67) rfl k) ?_
    show Ends p e below s ROOM1.cells ROOM1.slots (Q1 Z a0 p1 p2 k us h0 n0) (T73.setTop (mkF m 68 #[.val (.ref a0), .val (.int p1), .val (.int p2), .val (.int (4 : Int32)), .val (.int (1 : Int32))] [(.int ((p2.toUInt32 >>> ((24 : Int32) &&& 31).toUInt32).toInt32)), (.int (p1 + (1 : Int32))), (.ref a0)]))
    refine Ends.via (fun _ k => XS.i2b X73.here hx rfl (hb hby d1_68) rfl k) ?_
    show Ends p e below s ROOM1.cells ROOM1.slots (Q1 Z a0 p1 p2 k us h0 n0) (T73.setTop (mkF m 69 #[.val (.ref a0), .val (.int p1), .val (.int p2), .val (.int (4 : Int32)), .val (.int (1 : Int32))] [(.int (((p2.toUInt32 >>> ((24 : Int32) &&& 31).toUInt32).toInt32).toInt8.toInt32)), (.int (p1 + (1 : Int32))), (.ref a0)]))
    obtain ⟨T75, h75, X75, e75, W75, B75, st75⟩ := own_stB X73 hx hZ e73 B73 (j := (p1 + (1 : Int32))) (own_in p1 ha (1 : Int32) 1 rfl (by decide)) (g := (mkF m 69 #[.val (.ref a0), .val (.int p1), .val (.int p2), .val (.int (4 : Int32)), .val (.int (1 : Int32))] [(.int (((p2.toUInt32 >>> ((24 : Int32) &&& 31).toUInt32).toInt32).toInt8.toInt32)), (.int (p1 + (1 : Int32))), (.ref a0)])) rfl rfl (hb hby d1_69)
    have Z75 : n0 ≤ h75.size := Nat.le_trans Z73 (Keep.of_wr W75).1
    have K75 := Keep.wr K73 W75 (Or.inl (List.mem_of_getElem? (i := 0) rfl))
    have N75 := Fr.snoc X75 N73 g_a0
    refine Ends.via st75 ?_
    show Ends p e below s ROOM1.cells ROOM1.slots (Q1 Z a0 p1 p2 k us h0 n0) (T75.setTop (mkF m 70 #[.val (.ref a0), .val (.int p1), .val (.int p2), .val (.int (4 : Int32)), .val (.int (1 : Int32))] []))
    refine Ends.via (fun _ k => XS.iinc X75.here hx rfl (hb hby d1_70) rfl (l' := #[.val (.ref a0), .val (.int p1), .val (.int p2), .val (.int (4 : Int32)), .val (.int (2 : Int32))]) rfl k) ?_
    show Ends p e below s ROOM1.cells ROOM1.slots (Q1 Z a0 p1 p2 k us h0 n0) (T75.setTop (mkF m 73 #[.val (.ref a0), .val (.int p1), .val (.int p2), .val (.int (4 : Int32)), .val (.int (2 : Int32))] []))
    refine Ends.via (fun _ k => XS.goto X75.here hx rfl (pc0 := 73) (pc' := 48) rfl (hb hby d1_73) (by decide) (by decide) k) ?_
    show Ends p e below s ROOM1.cells ROOM1.slots (Q1 Z a0 p1 p2 k us h0 n0) (T75.setTop (mkF m 48 #[.val (.ref a0), .val (.int p1), .val (.int p2), .val (.int (4 : Int32)), .val (.int (2 : Int32))] []))
    refine Ends.via (fun _ k => XS.iload X75.here hx rfl (hb hby d1_48) rfl k) ?_
    show Ends p e below s ROOM1.cells ROOM1.slots (Q1 Z a0 p1 p2 k us h0 n0) (T75.setTop (mkF m 50 #[.val (.ref a0), .val (.int p1), .val (.int p2), .val (.int (4 : Int32)), .val (.int (2 : Int32))] [(.int (2 : Int32))]))
    refine Ends.via (fun _ k => XS.iloadN X75.here hx rfl (hb hby d1_50) rfl k) ?_
    show Ends p e below s ROOM1.cells ROOM1.slots (Q1 Z a0 p1 p2 k us h0 n0) (T75.setTop (mkF m 51 #[.val (.ref a0), .val (.int p1), .val (.int p2), .val (.int (4 : Int32)), .val (.int (2 : Int32))] [(.int (4 : Int32)), (.int (2 : Int32))]))
    have hf76 : ¬ ((4 : Int32) < (2 : Int32)) := by decide
    refine Ends.via (fun _ k => XS.icmpNo X75.here hx rfl (hb hby d1_51) rfl (flt hf76).2.2.1 k) ?_
    show Ends p e below s ROOM1.cells ROOM1.slots (Q1 Z a0 p1 p2 k us h0 n0) (T75.setTop (mkF m 54 #[.val (.ref a0), .val (.int p1), .val (.int p2), .val (.int (4 : Int32)), .val (.int (2 : Int32))] []))
    refine Ends.via (fun _ k => XS.aloadN X75.here hx rfl (hb hby d1_54) rfl rfl k) ?_
    show Ends p e below s ROOM1.cells ROOM1.slots (Q1 Z a0 p1 p2 k us h0 n0) (T75.setTop (mkF m 55 #[.val (.ref a0), .val (.int p1), .val (.int p2), .val (.int (4 : Int32)), .val (.int (2 : Int32))] [(.ref a0)]))
    refine Ends.via (fun _ k => XS.iloadN X75.here hx rfl (hb hby d1_55) rfl k) ?_
    show Ends p e below s ROOM1.cells ROOM1.slots (Q1 Z a0 p1 p2 k us h0 n0) (T75.setTop (mkF m 56 #[.val (.ref a0), .val (.int p1), .val (.int p2), .val (.int (4 : Int32)), .val (.int (2 : Int32))] [(.int p1), (.ref a0)]))
    refine Ends.via (fun _ k => XS.iload X75.here hx rfl (hb hby d1_56) rfl k) ?_
    show Ends p e below s ROOM1.cells ROOM1.slots (Q1 Z a0 p1 p2 k us h0 n0) (T75.setTop (mkF m 58 #[.val (.ref a0), .val (.int p1), .val (.int p2), .val (.int (4 : Int32)), .val (.int (2 : Int32))] [(.int (2 : Int32)), (.int p1), (.ref a0)]))
    refine Ends.via (fun _ k => XS.iadd X75.here hx rfl (hb hby d1_58) rfl k) ?_
    show Ends p e below s ROOM1.cells ROOM1.slots (Q1 Z a0 p1 p2 k us h0 n0) (T75.setTop (mkF m 59 #[.val (.ref a0), .val (.int p1), .val (.int p2), .val (.int (4 : Int32)), .val (.int (2 : Int32))] [(.int (p1 + (2 : Int32))), (.ref a0)]))
    refine Ends.via (fun _ k => XS.iloadN X75.here hx rfl (hb hby d1_59) rfl k) ?_
    show Ends p e below s ROOM1.cells ROOM1.slots (Q1 Z a0 p1 p2 k us h0 n0) (T75.setTop (mkF m 60 #[.val (.ref a0), .val (.int p1), .val (.int p2), .val (.int (4 : Int32)), .val (.int (2 : Int32))] [(.int p2), (.int (p1 + (2 : Int32))), (.ref a0)]))
    refine Ends.via (fun _ k => XS.bipush X75.here hx rfl (hb hby d1_60) k) ?_
    show Ends p e below s ROOM1.cells ROOM1.slots (Q1 Z a0 p1 p2 k us h0 n0) (T75.setTop (mkF m 62 #[.val (.ref a0), .val (.int p1), .val (.int p2), .val (.int (4 : Int32)), .val (.int (2 : Int32))] [(.int (8 : Int32)), (.int p2), (.int (p1 + (2 : Int32))), (.ref a0)]))
    refine Ends.via (fun _ k => XS.iloadN X75.here hx rfl (hb hby d1_62) rfl k) ?_
    show Ends p e below s ROOM1.cells ROOM1.slots (Q1 Z a0 p1 p2 k us h0 n0) (T75.setTop (mkF m 63 #[.val (.ref a0), .val (.int p1), .val (.int p2), .val (.int (4 : Int32)), .val (.int (2 : Int32))] [(.int (4 : Int32)), (.int (8 : Int32)), (.int p2), (.int (p1 + (2 : Int32))), (.ref a0)]))
    refine Ends.via (fun _ k => XS.iload X75.here hx rfl (hb hby d1_63) rfl k) ?_
    show Ends p e below s ROOM1.cells ROOM1.slots (Q1 Z a0 p1 p2 k us h0 n0) (T75.setTop (mkF m 65 #[.val (.ref a0), .val (.int p1), .val (.int p2), .val (.int (4 : Int32)), .val (.int (2 : Int32))] [(.int (2 : Int32)), (.int (4 : Int32)), (.int (8 : Int32)), (.int p2), (.int (p1 + (2 : Int32))), (.ref a0)]))
    refine Ends.via (fun _ k => XS.isub X75.here hx rfl (hb hby d1_65) rfl k) ?_
    show Ends p e below s ROOM1.cells ROOM1.slots (Q1 Z a0 p1 p2 k us h0 n0) (T75.setTop (mkF m 66 #[.val (.ref a0), .val (.int p1), .val (.int p2), .val (.int (4 : Int32)), .val (.int (2 : Int32))] [(.int (2 : Int32)), (.int (8 : Int32)), (.int p2), (.int (p1 + (2 : Int32))), (.ref a0)]))
    refine Ends.via (fun _ k => XS.imul X75.here hx rfl (hb hby d1_66) rfl k) ?_
    show Ends p e below s ROOM1.cells ROOM1.slots (Q1 Z a0 p1 p2 k us h0 n0) (T75.setTop (mkF m 67 #[.val (.ref a0), .val (.int p1), .val (.int p2), .val (.int (4 : Int32)), .val (.int (2 : Int32))] [(.int (16 : Int32)), (.int p2), (.int (p1 + (2 : Int32))), (.ref a0)]))
    refine Ends.via (fun _ k => XS.iushr X75.here hx rfl (hb hby d1_67) rfl k) ?_
    show Ends p e below s ROOM1.cells ROOM1.slots (Q1 Z a0 p1 p2 k us h0 n0) (T75.setTop (mkF m 68 #[.val (.ref a0), .val (.int p1), .val (.int p2), .val (.int (4 : Int32)), .val (.int (2 : Int32))] [(.int ((p2.toUInt32 >>> ((16 : Int32) &&& 31).toUInt32).toInt32)), (.int (p1 + (2 : Int32))), (.ref a0)]))
    refine Ends.via (fun _ k => XS.i2b X75.here hx rfl (hb hby d1_68) rfl k) ?_
    show Ends p e below s ROOM1.cells ROOM1.slots (Q1 Z a0 p1 p2 k us h0 n0) (T75.setTop (mkF m 69 #[.val (.ref a0), .val (.int p1), .val (.int p2), .val (.int (4 : Int32)), .val (.int (2 : Int32))] [(.int (((p2.toUInt32 >>> ((16 : Int32) &&& 31).toUInt32).toInt32).toInt8.toInt32)), (.int (p1 + (2 : Int32))), (.ref a0)]))
    obtain ⟨T77, h77, X77, e77, W77, B77, st77⟩ := own_stB X75 hx hZ e75 B75 (j := (p1 + (2 : Int32))) (own_in p1 ha (2 : Int32) 2 rfl (by decide)) (g := (mkF m 69 #[.val (.ref a0), .val (.int p1), .val (.int p2), .val (.int (4 : Int32)), .val (.int (2 : Int32))] [(.int (((p2.toUInt32 >>> ((16 : Int32) &&& 31).toUInt32).toInt32).toInt8.toInt32)), (.int (p1 + (2 : Int32))), (.ref a0)])) rfl rfl (hb hby d1_69)
    have Z77 : n0 ≤ h77.size := Nat.le_trans Z75 (Keep.of_wr W77).1
    have K77 := Keep.wr K75 W77 (Or.inl (List.mem_of_getElem? (i := 0) rfl))
    have N77 := Fr.snoc X77 N75 g_a0
    refine Ends.via st77 ?_
    show Ends p e below s ROOM1.cells ROOM1.slots (Q1 Z a0 p1 p2 k us h0 n0) (T77.setTop (mkF m 70 #[.val (.ref a0), .val (.int p1), .val (.int p2), .val (.int (4 : Int32)), .val (.int (2 : Int32))] []))
    refine Ends.via (fun _ k => XS.iinc X77.here hx rfl (hb hby d1_70) rfl (l' := #[.val (.ref a0), .val (.int p1), .val (.int p2), .val (.int (4 : Int32)), .val (.int (3 : Int32))]) rfl k) ?_
    show Ends p e below s ROOM1.cells ROOM1.slots (Q1 Z a0 p1 p2 k us h0 n0) (T77.setTop (mkF m 73 #[.val (.ref a0), .val (.int p1), .val (.int p2), .val (.int (4 : Int32)), .val (.int (3 : Int32))] []))
    refine Ends.via (fun _ k => XS.goto X77.here hx rfl (pc0 := 73) (pc' := 48) rfl (hb hby d1_73) (by decide) (by decide) k) ?_
    show Ends p e below s ROOM1.cells ROOM1.slots (Q1 Z a0 p1 p2 k us h0 n0) (T77.setTop (mkF m 48 #[.val (.ref a0), .val (.int p1), .val (.int p2), .val (.int (4 : Int32)), .val (.int (3 : Int32))] []))
    refine Ends.via (fun _ k => XS.iload X77.here hx rfl (hb hby d1_48) rfl k) ?_
    show Ends p e below s ROOM1.cells ROOM1.slots (Q1 Z a0 p1 p2 k us h0 n0) (T77.setTop (mkF m 50 #[.val (.ref a0), .val (.int p1), .val (.int p2), .val (.int (4 : Int32)), .val (.int (3 : Int32))] [(.int (3 : Int32))]))
    refine Ends.via (fun _ k => XS.iloadN X77.here hx rfl (hb hby d1_50) rfl k) ?_
    show Ends p e below s ROOM1.cells ROOM1.slots (Q1 Z a0 p1 p2 k us h0 n0) (T77.setTop (mkF m 51 #[.val (.ref a0), .val (.int p1), .val (.int p2), .val (.int (4 : Int32)), .val (.int (3 : Int32))] [(.int (4 : Int32)), (.int (3 : Int32))]))
    have hf78 : ¬ ((4 : Int32) < (3 : Int32)) := by decide
    refine Ends.via (fun _ k => XS.icmpNo X77.here hx rfl (hb hby d1_51) rfl (flt hf78).2.2.1 k) ?_
    show Ends p e below s ROOM1.cells ROOM1.slots (Q1 Z a0 p1 p2 k us h0 n0) (T77.setTop (mkF m 54 #[.val (.ref a0), .val (.int p1), .val (.int p2), .val (.int (4 : Int32)), .val (.int (3 : Int32))] []))
    refine Ends.via (fun _ k => XS.aloadN X77.here hx rfl (hb hby d1_54) rfl rfl k) ?_
    show Ends p e below s ROOM1.cells ROOM1.slots (Q1 Z a0 p1 p2 k us h0 n0) (T77.setTop (mkF m 55 #[.val (.ref a0), .val (.int p1), .val (.int p2), .val (.int (4 : Int32)), .val (.int (3 : Int32))] [(.ref a0)]))
    refine Ends.via (fun _ k => XS.iloadN X77.here hx rfl (hb hby d1_55) rfl k) ?_
    show Ends p e below s ROOM1.cells ROOM1.slots (Q1 Z a0 p1 p2 k us h0 n0) (T77.setTop (mkF m 56 #[.val (.ref a0), .val (.int p1), .val (.int p2), .val (.int (4 : Int32)), .val (.int (3 : Int32))] [(.int p1), (.ref a0)]))
    refine Ends.via (fun _ k => XS.iload X77.here hx rfl (hb hby d1_56) rfl k) ?_
    show Ends p e below s ROOM1.cells ROOM1.slots (Q1 Z a0 p1 p2 k us h0 n0) (T77.setTop (mkF m 58 #[.val (.ref a0), .val (.int p1), .val (.int p2), .val (.int (4 : Int32)), .val (.int (3 : Int32))] [(.int (3 : Int32)), (.int p1), (.ref a0)]))
    refine Ends.via (fun _ k => XS.iadd X77.here hx rfl (hb hby d1_58) rfl k) ?_
    show Ends p e below s ROOM1.cells ROOM1.slots (Q1 Z a0 p1 p2 k us h0 n0) (T77.setTop (mkF m 59 #[.val (.ref a0), .val (.int p1), .val (.int p2), .val (.int (4 : Int32)), .val (.int (3 : Int32))] [(.int (p1 + (3 : Int32))), (.ref a0)]))
    refine Ends.via (fun _ k => XS.iloadN X77.here hx rfl (hb hby d1_59) rfl k) ?_
    show Ends p e below s ROOM1.cells ROOM1.slots (Q1 Z a0 p1 p2 k us h0 n0) (T77.setTop (mkF m 60 #[.val (.ref a0), .val (.int p1), .val (.int p2), .val (.int (4 : Int32)), .val (.int (3 : Int32))] [(.int p2), (.int (p1 + (3 : Int32))), (.ref a0)]))
    refine Ends.via (fun _ k => XS.bipush X77.here hx rfl (hb hby d1_60) k) ?_
    show Ends p e below s ROOM1.cells ROOM1.slots (Q1 Z a0 p1 p2 k us h0 n0) (T77.setTop (mkF m 62 #[.val (.ref a0), .val (.int p1), .val (.int p2), .val (.int (4 : Int32)), .val (.int (3 : Int32))] [(.int (8 : Int32)), (.int p2), (.int (p1 + (3 : Int32))), (.ref a0)]))
    refine Ends.via (fun _ k => XS.iloadN X77.here hx rfl (hb hby d1_62) rfl k) ?_
    show Ends p e below s ROOM1.cells ROOM1.slots (Q1 Z a0 p1 p2 k us h0 n0) (T77.setTop (mkF m 63 #[.val (.ref a0), .val (.int p1), .val (.int p2), .val (.int (4 : Int32)), .val (.int (3 : Int32))] [(.int (4 : Int32)), (.int (8 : Int32)), (.int p2), (.int (p1 + (3 : Int32))), (.ref a0)]))
    refine Ends.via (fun _ k => XS.iload X77.here hx rfl (hb hby d1_63) rfl k) ?_
    show Ends p e below s ROOM1.cells ROOM1.slots (Q1 Z a0 p1 p2 k us h0 n0) (T77.setTop (mkF m 65 #[.val (.ref a0), .val (.int p1), .val (.int p2), .val (.int (4 : Int32)), .val (.int (3 : Int32))] [(.int (3 : Int32)), (.int (4 : Int32)), (.int (8 : Int32)), (.int p2), (.int (p1 + (3 : Int32))), (.ref a0)]))
    refine Ends.via (fun _ k => XS.isub X77.here hx rfl (hb hby d1_65) rfl k) ?_
    show Ends p e below s ROOM1.cells ROOM1.slots (Q1 Z a0 p1 p2 k us h0 n0) (T77.setTop (mkF m 66 #[.val (.ref a0), .val (.int p1), .val (.int p2), .val (.int (4 : Int32)), .val (.int (3 : Int32))] [(.int (1 : Int32)), (.int (8 : Int32)), (.int p2), (.int (p1 + (3 : Int32))), (.ref a0)]))
    refine Ends.via (fun _ k => XS.imul X77.here hx rfl (hb hby d1_66) rfl k) ?_
    show Ends p e below s ROOM1.cells ROOM1.slots (Q1 Z a0 p1 p2 k us h0 n0) (T77.setTop (mkF m 67 #[.val (.ref a0), .val (.int p1), .val (.int p2), .val (.int (4 : Int32)), .val (.int (3 : Int32))] [(.int (8 : Int32)), (.int p2), (.int (p1 + (3 : Int32))), (.ref a0)]))
    refine Ends.via (fun _ k => XS.iushr X77.here hx rfl (hb hby d1_67) rfl k) ?_
    show Ends p e below s ROOM1.cells ROOM1.slots (Q1 Z a0 p1 p2 k us h0 n0) (T77.setTop (mkF m 68 #[.val (.ref a0), .val (.int p1), .val (.int p2), .val (.int (4 : Int32)), .val (.int (3 : Int32))] [(.int ((p2.toUInt32 >>> ((8 : Int32) &&& 31).toUInt32).toInt32)), (.int (p1 + (3 : Int32))), (.ref a0)]))
    refine Ends.via (fun _ k => XS.i2b X77.here hx rfl (hb hby d1_68) rfl k) ?_
    show Ends p e below s ROOM1.cells ROOM1.slots (Q1 Z a0 p1 p2 k us h0 n0) (T77.setTop (mkF m 69 #[.val (.ref a0), .val (.int p1), .val (.int p2), .val (.int (4 : Int32)), .val (.int (3 : Int32))] [(.int (((p2.toUInt32 >>> ((8 : Int32) &&& 31).toUInt32).toInt32).toInt8.toInt32)), (.int (p1 + (3 : Int32))), (.ref a0)]))
    obtain ⟨T79, h79, X79, e79, W79, B79, st79⟩ := own_stB X77 hx hZ e77 B77 (j := (p1 + (3 : Int32))) (own_in p1 ha (3 : Int32) 3 rfl (by decide)) (g := (mkF m 69 #[.val (.ref a0), .val (.int p1), .val (.int p2), .val (.int (4 : Int32)), .val (.int (3 : Int32))] [(.int (((p2.toUInt32 >>> ((8 : Int32) &&& 31).toUInt32).toInt32).toInt8.toInt32)), (.int (p1 + (3 : Int32))), (.ref a0)])) rfl rfl (hb hby d1_69)
    have Z79 : n0 ≤ h79.size := Nat.le_trans Z77 (Keep.of_wr W79).1
    have K79 := Keep.wr K77 W79 (Or.inl (List.mem_of_getElem? (i := 0) rfl))
    have N79 := Fr.snoc X79 N77 g_a0
    refine Ends.via st79 ?_
    show Ends p e below s ROOM1.cells ROOM1.slots (Q1 Z a0 p1 p2 k us h0 n0) (T79.setTop (mkF m 70 #[.val (.ref a0), .val (.int p1), .val (.int p2), .val (.int (4 : Int32)), .val (.int (3 : Int32))] []))
    refine Ends.via (fun _ k => XS.iinc X79.here hx rfl (hb hby d1_70) rfl (l' := #[.val (.ref a0), .val (.int p1), .val (.int p2), .val (.int (4 : Int32)), .val (.int (4 : Int32))]) rfl k) ?_
    show Ends p e below s ROOM1.cells ROOM1.slots (Q1 Z a0 p1 p2 k us h0 n0) (T79.setTop (mkF m 73 #[.val (.ref a0), .val (.int p1), .val (.int p2), .val (.int (4 : Int32)), .val (.int (4 : Int32))] []))
    refine Ends.via (fun _ k => XS.goto X79.here hx rfl (pc0 := 73) (pc' := 48) rfl (hb hby d1_73) (by decide) (by decide) k) ?_
    show Ends p e below s ROOM1.cells ROOM1.slots (Q1 Z a0 p1 p2 k us h0 n0) (T79.setTop (mkF m 48 #[.val (.ref a0), .val (.int p1), .val (.int p2), .val (.int (4 : Int32)), .val (.int (4 : Int32))] []))
    refine Ends.via (fun _ k => XS.iload X79.here hx rfl (hb hby d1_48) rfl k) ?_
    show Ends p e below s ROOM1.cells ROOM1.slots (Q1 Z a0 p1 p2 k us h0 n0) (T79.setTop (mkF m 50 #[.val (.ref a0), .val (.int p1), .val (.int p2), .val (.int (4 : Int32)), .val (.int (4 : Int32))] [(.int (4 : Int32))]))
    refine Ends.via (fun _ k => XS.iloadN X79.here hx rfl (hb hby d1_50) rfl k) ?_
    show Ends p e below s ROOM1.cells ROOM1.slots (Q1 Z a0 p1 p2 k us h0 n0) (T79.setTop (mkF m 51 #[.val (.ref a0), .val (.int p1), .val (.int p2), .val (.int (4 : Int32)), .val (.int (4 : Int32))] [(.int (4 : Int32)), (.int (4 : Int32))]))
    have hf80 : ¬ ((4 : Int32) < (4 : Int32)) := by decide
    refine Ends.via (fun _ k => XS.icmpNo X79.here hx rfl (hb hby d1_51) rfl (flt hf80).2.2.1 k) ?_
    show Ends p e below s ROOM1.cells ROOM1.slots (Q1 Z a0 p1 p2 k us h0 n0) (T79.setTop (mkF m 54 #[.val (.ref a0), .val (.int p1), .val (.int p2), .val (.int (4 : Int32)), .val (.int (4 : Int32))] []))
    refine Ends.via (fun _ k => XS.aloadN X79.here hx rfl (hb hby d1_54) rfl rfl k) ?_
    show Ends p e below s ROOM1.cells ROOM1.slots (Q1 Z a0 p1 p2 k us h0 n0) (T79.setTop (mkF m 55 #[.val (.ref a0), .val (.int p1), .val (.int p2), .val (.int (4 : Int32)), .val (.int (4 : Int32))] [(.ref a0)]))
    refine Ends.via (fun _ k => XS.iloadN X79.here hx rfl (hb hby d1_55) rfl k) ?_
    show Ends p e below s ROOM1.cells ROOM1.slots (Q1 Z a0 p1 p2 k us h0 n0) (T79.setTop (mkF m 56 #[.val (.ref a0), .val (.int p1), .val (.int p2), .val (.int (4 : Int32)), .val (.int (4 : Int32))] [(.int p1), (.ref a0)]))
    refine Ends.via (fun _ k => XS.iload X79.here hx rfl (hb hby d1_56) rfl k) ?_
    show Ends p e below s ROOM1.cells ROOM1.slots (Q1 Z a0 p1 p2 k us h0 n0) (T79.setTop (mkF m 58 #[.val (.ref a0), .val (.int p1), .val (.int p2), .val (.int (4 : Int32)), .val (.int (4 : Int32))] [(.int (4 : Int32)), (.int p1), (.ref a0)]))
    refine Ends.via (fun _ k => XS.iadd X79.here hx rfl (hb hby d1_58) rfl k) ?_
    show Ends p e below s ROOM1.cells ROOM1.slots (Q1 Z a0 p1 p2 k us h0 n0) (T79.setTop (mkF m 59 #[.val (.ref a0), .val (.int p1), .val (.int p2), .val (.int (4 : Int32)), .val (.int (4 : Int32))] [(.int (p1 + (4 : Int32))), (.ref a0)]))
    refine Ends.via (fun _ k => XS.iloadN X79.here hx rfl (hb hby d1_59) rfl k) ?_
    show Ends p e below s ROOM1.cells ROOM1.slots (Q1 Z a0 p1 p2 k us h0 n0) (T79.setTop (mkF m 60 #[.val (.ref a0), .val (.int p1), .val (.int p2), .val (.int (4 : Int32)), .val (.int (4 : Int32))] [(.int p2), (.int (p1 + (4 : Int32))), (.ref a0)]))
    refine Ends.via (fun _ k => XS.bipush X79.here hx rfl (hb hby d1_60) k) ?_
    show Ends p e below s ROOM1.cells ROOM1.slots (Q1 Z a0 p1 p2 k us h0 n0) (T79.setTop (mkF m 62 #[.val (.ref a0), .val (.int p1), .val (.int p2), .val (.int (4 : Int32)), .val (.int (4 : Int32))] [(.int (8 : Int32)), (.int p2), (.int (p1 + (4 : Int32))), (.ref a0)]))
    refine Ends.via (fun _ k => XS.iloadN X79.here hx rfl (hb hby d1_62) rfl k) ?_
    show Ends p e below s ROOM1.cells ROOM1.slots (Q1 Z a0 p1 p2 k us h0 n0) (T79.setTop (mkF m 63 #[.val (.ref a0), .val (.int p1), .val (.int p2), .val (.int (4 : Int32)), .val (.int (4 : Int32))] [(.int (4 : Int32)), (.int (8 : Int32)), (.int p2), (.int (p1 + (4 : Int32))), (.ref a0)]))
    refine Ends.via (fun _ k => XS.iload X79.here hx rfl (hb hby d1_63) rfl k) ?_
    show Ends p e below s ROOM1.cells ROOM1.slots (Q1 Z a0 p1 p2 k us h0 n0) (T79.setTop (mkF m 65 #[.val (.ref a0), .val (.int p1), .val (.int p2), .val (.int (4 : Int32)), .val (.int (4 : Int32))] [(.int (4 : Int32)), (.int (4 : Int32)), (.int (8 : Int32)), (.int p2), (.int (p1 + (4 : Int32))), (.ref a0)]))
    refine Ends.via (fun _ k => XS.isub X79.here hx rfl (hb hby d1_65) rfl k) ?_
    show Ends p e below s ROOM1.cells ROOM1.slots (Q1 Z a0 p1 p2 k us h0 n0) (T79.setTop (mkF m 66 #[.val (.ref a0), .val (.int p1), .val (.int p2), .val (.int (4 : Int32)), .val (.int (4 : Int32))] [(.int (0 : Int32)), (.int (8 : Int32)), (.int p2), (.int (p1 + (4 : Int32))), (.ref a0)]))
    refine Ends.via (fun _ k => XS.imul X79.here hx rfl (hb hby d1_66) rfl k) ?_
    show Ends p e below s ROOM1.cells ROOM1.slots (Q1 Z a0 p1 p2 k us h0 n0) (T79.setTop (mkF m 67 #[.val (.ref a0), .val (.int p1), .val (.int p2), .val (.int (4 : Int32)), .val (.int (4 : Int32))] [(.int (0 : Int32)), (.int p2), (.int (p1 + (4 : Int32))), (.ref a0)]))
    refine Ends.via (fun _ k => XS.iushr X79.here hx rfl (hb hby d1_67) rfl k) ?_
    show Ends p e below s ROOM1.cells ROOM1.slots (Q1 Z a0 p1 p2 k us h0 n0) (T79.setTop (mkF m 68 #[.val (.ref a0), .val (.int p1), .val (.int p2), .val (.int (4 : Int32)), .val (.int (4 : Int32))] [(.int ((p2.toUInt32 >>> ((0 : Int32) &&& 31).toUInt32).toInt32)), (.int (p1 + (4 : Int32))), (.ref a0)]))
    refine Ends.via (fun _ k => XS.i2b X79.here hx rfl (hb hby d1_68) rfl k) ?_
    show Ends p e below s ROOM1.cells ROOM1.slots (Q1 Z a0 p1 p2 k us h0 n0) (T79.setTop (mkF m 69 #[.val (.ref a0), .val (.int p1), .val (.int p2), .val (.int (4 : Int32)), .val (.int (4 : Int32))] [(.int (((p2.toUInt32 >>> ((0 : Int32) &&& 31).toUInt32).toInt32).toInt8.toInt32)), (.int (p1 + (4 : Int32))), (.ref a0)]))
    obtain ⟨T81, h81, X81, e81, W81, B81, st81⟩ := own_stB X79 hx hZ e79 B79 (j := (p1 + (4 : Int32))) (own_in p1 ha (4 : Int32) 4 rfl (by decide)) (g := (mkF m 69 #[.val (.ref a0), .val (.int p1), .val (.int p2), .val (.int (4 : Int32)), .val (.int (4 : Int32))] [(.int (((p2.toUInt32 >>> ((0 : Int32) &&& 31).toUInt32).toInt32).toInt8.toInt32)), (.int (p1 + (4 : Int32))), (.ref a0)])) rfl rfl (hb hby d1_69)
    have Z81 : n0 ≤ h81.size := Nat.le_trans Z79 (Keep.of_wr W81).1
    have K81 := Keep.wr K79 W81 (Or.inl (List.mem_of_getElem? (i := 0) rfl))
    have N81 := Fr.snoc X81 N79 g_a0
    refine Ends.via st81 ?_
    show Ends p e below s ROOM1.cells ROOM1.slots (Q1 Z a0 p1 p2 k us h0 n0) (T81.setTop (mkF m 70 #[.val (.ref a0), .val (.int p1), .val (.int p2), .val (.int (4 : Int32)), .val (.int (4 : Int32))] []))
    refine Ends.via (fun _ k => XS.iinc X81.here hx rfl (hb hby d1_70) rfl (l' := #[.val (.ref a0), .val (.int p1), .val (.int p2), .val (.int (4 : Int32)), .val (.int (5 : Int32))]) rfl k) ?_
    show Ends p e below s ROOM1.cells ROOM1.slots (Q1 Z a0 p1 p2 k us h0 n0) (T81.setTop (mkF m 73 #[.val (.ref a0), .val (.int p1), .val (.int p2), .val (.int (4 : Int32)), .val (.int (5 : Int32))] []))
    refine Ends.via (fun _ k => XS.goto X81.here hx rfl (pc0 := 73) (pc' := 48) rfl (hb hby d1_73) (by decide) (by decide) k) ?_
    show Ends p e below s ROOM1.cells ROOM1.slots (Q1 Z a0 p1 p2 k us h0 n0) (T81.setTop (mkF m 48 #[.val (.ref a0), .val (.int p1), .val (.int p2), .val (.int (4 : Int32)), .val (.int (5 : Int32))] []))
    refine Ends.via (fun _ k => XS.iload X81.here hx rfl (hb hby d1_48) rfl k) ?_
    show Ends p e below s ROOM1.cells ROOM1.slots (Q1 Z a0 p1 p2 k us h0 n0) (T81.setTop (mkF m 50 #[.val (.ref a0), .val (.int p1), .val (.int p2), .val (.int (4 : Int32)), .val (.int (5 : Int32))] [(.int (5 : Int32))]))
    refine Ends.via (fun _ k => XS.iloadN X81.here hx rfl (hb hby d1_50) rfl k) ?_
    show Ends p e below s ROOM1.cells ROOM1.slots (Q1 Z a0 p1 p2 k us h0 n0) (T81.setTop (mkF m 51 #[.val (.ref a0), .val (.int p1), .val (.int p2), .val (.int (4 : Int32)), .val (.int (5 : Int32))] [(.int (4 : Int32)), (.int (5 : Int32))]))
    have hf82 : (4 : Int32) < (5 : Int32) := by decide
    refine Ends.via (fun _ k => XS.icmpYes X81.here hx rfl (pc0 := 51) (pc' := 76) rfl (hb hby d1_51) rfl (tlt hf82).2.2.1 (by decide) (by decide) k) ?_
    show Ends p e below s ROOM1.cells ROOM1.slots (Q1 Z a0 p1 p2 k us h0 n0) (T81.setTop (mkF m 76 #[.val (.ref a0), .val (.int p1), .val (.int p2), .val (.int (4 : Int32)), .val (.int (5 : Int32))] []))
    refine Ends.via (fun _ k => XS.iconst X81.here hx rfl (hb hby d1_76) k) ?_
    show Ends p e below s ROOM1.cells ROOM1.slots (Q1 Z a0 p1 p2 k us h0 n0) (T81.setTop (mkF m 77 #[.val (.ref a0), .val (.int p1), .val (.int p2), .val (.int (4 : Int32)), .val (.int (5 : Int32))] [(.int (1 : Int32))]))
    refine Ends.via (fun _ k => XS.iloadN X81.here hx rfl (hb hby d1_77) rfl k) ?_
    show Ends p e below s ROOM1.cells ROOM1.slots (Q1 Z a0 p1 p2 k us h0 n0) (T81.setTop (mkF m 78 #[.val (.ref a0), .val (.int p1), .val (.int p2), .val (.int (4 : Int32)), .val (.int (5 : Int32))] [(.int (4 : Int32)), (.int (1 : Int32))]))
    refine Ends.via (fun _ k => XS.iadd X81.here hx rfl (hb hby d1_78) rfl k) ?_
    show Ends p e below s ROOM1.cells ROOM1.slots (Q1 Z a0 p1 p2 k us h0 n0) (T81.setTop (mkF m 79 #[.val (.ref a0), .val (.int p1), .val (.int p2), .val (.int (4 : Int32)), .val (.int (5 : Int32))] [(.int (5 : Int32))]))
    refine Ends.ret X81 (v := some (.int (5 : Int32))) (fun h => by rw [Bd.returns] at h; cases h) Bd.notSynchronized (fun fs hr => retI X81 hx Bd.returns (hb hby d1_79) hr) ?_ (by decide) (by decide)
    rw [e81]
    exact ⟨congrArg some (congrArg Value.int (own_cn4 p2 hk).symm), N81, K81, by rw [own_pl4 us p1 p2 hk]; exact B81⟩
theorem d2_0 : decode method_3_code 0 = .ok (.aload_n 0, 1) := by decide +kernel
theorem d2_1 : decode method_3_code 1 = .ok (.iconst 0, 1) := by decide +kernel
theorem d2_2 : decode method_3_code 2 = .ok (.baload, 1) := by decide +kernel
theorem d2_3 : decode method_3_code 3 = .ok (.aload_n 1, 1) := by decide +kernel
theorem d2_4 : decode method_3_code 4 = .ok (.iconst 0, 1) := by decide +kernel
theorem d2_5 : decode method_3_code 5 = .ok (.baload, 1) := by decide +kernel
theorem d2_6 : decode method_3_code 6 = .ok (.if_icmp .ne 118, 3) := by decide +kernel
theorem d2_9 : decode method_3_code 9 = .ok (.aload_n 0, 1) := by decide +kernel
theorem d2_10 : decode method_3_code 10 = .ok (.iconst 1, 1) := by decide +kernel
theorem d2_11 : decode method_3_code 11 = .ok (.baload, 1) := by decide +kernel
theorem d2_12 : decode method_3_code 12 = .ok (.aload_n 1, 1) := by decide +kernel
theorem d2_13 : decode method_3_code 13 = .ok (.iconst 1, 1) := by decide +kernel
theorem d2_14 : decode method_3_code 14 = .ok (.baload, 1) := by decide +kernel
theorem d2_15 : decode method_3_code 15 = .ok (.if_icmp .ne 109, 3) := by decide +kernel
theorem d2_18 : decode method_3_code 18 = .ok (.aload_n 0, 1) := by decide +kernel
theorem d2_19 : decode method_3_code 19 = .ok (.iconst 2, 1) := by decide +kernel
theorem d2_20 : decode method_3_code 20 = .ok (.baload, 1) := by decide +kernel
theorem d2_21 : decode method_3_code 21 = .ok (.aload_n 1, 1) := by decide +kernel
theorem d2_22 : decode method_3_code 22 = .ok (.iconst 2, 1) := by decide +kernel
theorem d2_23 : decode method_3_code 23 = .ok (.baload, 1) := by decide +kernel
theorem d2_24 : decode method_3_code 24 = .ok (.if_icmp .ne 100, 3) := by decide +kernel
theorem d2_27 : decode method_3_code 27 = .ok (.aload_n 0, 1) := by decide +kernel
theorem d2_28 : decode method_3_code 28 = .ok (.iconst 3, 1) := by decide +kernel
theorem d2_29 : decode method_3_code 29 = .ok (.baload, 1) := by decide +kernel
theorem d2_30 : decode method_3_code 30 = .ok (.aload_n 1, 1) := by decide +kernel
theorem d2_31 : decode method_3_code 31 = .ok (.iconst 3, 1) := by decide +kernel
theorem d2_32 : decode method_3_code 32 = .ok (.baload, 1) := by decide +kernel
theorem d2_33 : decode method_3_code 33 = .ok (.if_icmp .ne 91, 3) := by decide +kernel
theorem d2_36 : decode method_3_code 36 = .ok (.aload_n 0, 1) := by decide +kernel
theorem d2_37 : decode method_3_code 37 = .ok (.iconst 4, 1) := by decide +kernel
theorem d2_38 : decode method_3_code 38 = .ok (.baload, 1) := by decide +kernel
theorem d2_39 : decode method_3_code 39 = .ok (.aload_n 1, 1) := by decide +kernel
theorem d2_40 : decode method_3_code 40 = .ok (.iconst 4, 1) := by decide +kernel
theorem d2_41 : decode method_3_code 41 = .ok (.baload, 1) := by decide +kernel
theorem d2_42 : decode method_3_code 42 = .ok (.if_icmp .ne 82, 3) := by decide +kernel
theorem d2_45 : decode method_3_code 45 = .ok (.aload_n 0, 1) := by decide +kernel
theorem d2_46 : decode method_3_code 46 = .ok (.iconst 5, 1) := by decide +kernel
theorem d2_47 : decode method_3_code 47 = .ok (.baload, 1) := by decide +kernel
theorem d2_48 : decode method_3_code 48 = .ok (.aload_n 1, 1) := by decide +kernel
theorem d2_49 : decode method_3_code 49 = .ok (.iconst 5, 1) := by decide +kernel
theorem d2_50 : decode method_3_code 50 = .ok (.baload, 1) := by decide +kernel
theorem d2_51 : decode method_3_code 51 = .ok (.if_icmp .ne 73, 3) := by decide +kernel
theorem d2_54 : decode method_3_code 54 = .ok (.aload_n 0, 1) := by decide +kernel
theorem d2_55 : decode method_3_code 55 = .ok (.bipush 6, 2) := by decide +kernel
theorem d2_57 : decode method_3_code 57 = .ok (.baload, 1) := by decide +kernel
theorem d2_58 : decode method_3_code 58 = .ok (.aload_n 1, 1) := by decide +kernel
theorem d2_59 : decode method_3_code 59 = .ok (.bipush 6, 2) := by decide +kernel
theorem d2_61 : decode method_3_code 61 = .ok (.baload, 1) := by decide +kernel
theorem d2_62 : decode method_3_code 62 = .ok (.if_icmp .ne 62, 3) := by decide +kernel
theorem d2_65 : decode method_3_code 65 = .ok (.aload_n 0, 1) := by decide +kernel
theorem d2_66 : decode method_3_code 66 = .ok (.bipush 7, 2) := by decide +kernel
theorem d2_68 : decode method_3_code 68 = .ok (.baload, 1) := by decide +kernel
theorem d2_69 : decode method_3_code 69 = .ok (.aload_n 1, 1) := by decide +kernel
theorem d2_70 : decode method_3_code 70 = .ok (.bipush 7, 2) := by decide +kernel
theorem d2_72 : decode method_3_code 72 = .ok (.baload, 1) := by decide +kernel
theorem d2_73 : decode method_3_code 73 = .ok (.if_icmp .ne 51, 3) := by decide +kernel
theorem d2_76 : decode method_3_code 76 = .ok (.aload_n 0, 1) := by decide +kernel
theorem d2_77 : decode method_3_code 77 = .ok (.bipush 8, 2) := by decide +kernel
theorem d2_79 : decode method_3_code 79 = .ok (.baload, 1) := by decide +kernel
theorem d2_80 : decode method_3_code 80 = .ok (.aload_n 1, 1) := by decide +kernel
theorem d2_81 : decode method_3_code 81 = .ok (.bipush 8, 2) := by decide +kernel
theorem d2_83 : decode method_3_code 83 = .ok (.baload, 1) := by decide +kernel
theorem d2_84 : decode method_3_code 84 = .ok (.if_icmp .ne 40, 3) := by decide +kernel
theorem d2_87 : decode method_3_code 87 = .ok (.aload_n 0, 1) := by decide +kernel
theorem d2_88 : decode method_3_code 88 = .ok (.bipush 9, 2) := by decide +kernel
theorem d2_90 : decode method_3_code 90 = .ok (.baload, 1) := by decide +kernel
theorem d2_91 : decode method_3_code 91 = .ok (.aload_n 1, 1) := by decide +kernel
theorem d2_92 : decode method_3_code 92 = .ok (.bipush 9, 2) := by decide +kernel
theorem d2_94 : decode method_3_code 94 = .ok (.baload, 1) := by decide +kernel
theorem d2_95 : decode method_3_code 95 = .ok (.if_icmp .ne 29, 3) := by decide +kernel
theorem d2_98 : decode method_3_code 98 = .ok (.aload_n 0, 1) := by decide +kernel
theorem d2_99 : decode method_3_code 99 = .ok (.bipush 10, 2) := by decide +kernel
theorem d2_101 : decode method_3_code 101 = .ok (.baload, 1) := by decide +kernel
theorem d2_102 : decode method_3_code 102 = .ok (.aload_n 1, 1) := by decide +kernel
theorem d2_103 : decode method_3_code 103 = .ok (.bipush 10, 2) := by decide +kernel
theorem d2_105 : decode method_3_code 105 = .ok (.baload, 1) := by decide +kernel
theorem d2_106 : decode method_3_code 106 = .ok (.if_icmp .ne 18, 3) := by decide +kernel
theorem d2_109 : decode method_3_code 109 = .ok (.aload_n 0, 1) := by decide +kernel
theorem d2_110 : decode method_3_code 110 = .ok (.bipush 11, 2) := by decide +kernel
theorem d2_112 : decode method_3_code 112 = .ok (.baload, 1) := by decide +kernel
theorem d2_113 : decode method_3_code 113 = .ok (.aload_n 1, 1) := by decide +kernel
theorem d2_114 : decode method_3_code 114 = .ok (.bipush 11, 2) := by decide +kernel
theorem d2_116 : decode method_3_code 116 = .ok (.baload, 1) := by decide +kernel
theorem d2_117 : decode method_3_code 117 = .ok (.if_icmp .ne 7, 3) := by decide +kernel
theorem d2_120 : decode method_3_code 120 = .ok (.iconst 1, 1) := by decide +kernel
theorem d2_121 : decode method_3_code 121 = .ok (.goto 4, 3) := by decide +kernel
theorem d2_124 : decode method_3_code 124 = .ok (.iconst 0, 1) := by decide +kernel
theorem d2_125 : decode method_3_code 125 = .ok (.ireturn, 1) := by decide +kernel
theorem pn_2 : plainName "com/example/sextant/sextant/ber/BerEncoderPutLengthPinLaw" = true := by first | (simp [plainName, overriddenIn]; done) | decide +kernel
theorem ef_2 (m : MethodId) (a0 : Addr) (a1 : Addr) : entryFrame m #[(.ref a0), (.ref a1)] 2 = mkF m 0 #[.val (.ref a0), .val (.ref a1)] [] := by first | (simp [entryFrame, mkF, argsToLocals, Value.category]; done) | rfl
abbrev ROOM2 : Room := { frames := 0, cells := 0, slots := 0, locals := 0 }
def Q2 (Z : State) (a0 : Addr) (a1 : Addr) (k k' : ClassId) (us : List Int32) (h0 : Heap) (n0 : Nat) (v : Option Value) (h : Heap) (L : List Loc) : Prop := v = some (.int 1) ∧ Fr n0 L ∧ h = h0
set_option maxRecDepth 65536 in
set_option maxHeartbeats 40000000 in
theorem rm2 (l : Launch) (Z : State) (a0 : Array Value) (hw : ∀ d ∈ tables_1, d.before a0 Z = true) (ws : List Jvm.Cond) (a0 : Addr) (a1 : Addr) (k k' : ClassId) (us : List Int32) (h0 : Heap) (n0 : Nat) (Z0 : n0 ≤ h0.size) (Va : own_B Z h0 a0 k us) (Vb : own_B Z h0 a1 k' us) :
    MetFree l (⟨"com/example/sextant/sextant/ber/BerEncoderPutLengthPinLaw", "same", "([B[B)Z"⟩ : MethodName) (head1 (Jvm.Cond.code (⟨"com/example/sextant/sextant/ber/BerEncoderPutLengthPinLaw", "same", "([B[B)Z"⟩ : MethodName) method_3_code 2 (some .boolean) :: ws) ROOM2) (fun a U => a = #[(.ref a0), (.ref a1)] ∧ Z.Warmed39 U.vm ∧ U.heap = h0) (fun _ _ _ _ _ => True) (fun _ U o U' => ∃ v L, o = .returned v ∧ Q2 Z a0 a1 k k' us h0 n0 v U'.heap L ∧ FrameEnd U o U' L ROOM2.cells ROOM2.slots) := by
  refine MetFree.of_bodySF (plainFor_of_name pn_2) hisR ?_
  intro p e s m args below meth c s₁ Bd hml0 hP hK
  obtain ⟨rfl, hZ, hh⟩ := hP
  have hx := Bd.exec
  have hby := Bd.bytes
  have hml : c.maxLocals = 2 := hml0
  have hown : s.vm.findClass "com/example/sextant/sextant/ber/BerEncoderPutLengthPinLaw" = some m.cls := findClass_of_methodNamed Bd.named
  have hnm := (name_of_methodNamed Bd.named Bd.method).1
  have X0 : Stand p l e ROOM2 s m #[(.ref a0), (.ref a1)] below meth c s₁ [] 0 0 := Stand.of_body Bd
  have e0 : s₁.heap = h0 := by rw [← hh, Bd.state]; rfl
  have N0 := Fr.nil n0
  refine Ends.via (A := s₁.setTop (mkF m 0 #[.val (.ref a0), .val (.ref a1)] [])) (kc := ROOM2.cells) (ks := ROOM2.slots) (Q := (Q2 Z a0 a1 k k' us h0 n0)) (fun t k => castTop (ef_2 m a0 a1) k) ?_
  show Ends p e below s ROOM2.cells ROOM2.slots (Q2 Z a0 a1 k k' us h0 n0) (s₁.setTop (mkF m 0 #[.val (.ref a0), .val (.ref a1)] []))
  refine Ends.via (fun _ k => XS.aloadN X0.here hx rfl (hb hby d2_0) rfl rfl k) ?_
  show Ends p e below s ROOM2.cells ROOM2.slots (Q2 Z a0 a1 k k' us h0 n0) (s₁.setTop (mkF m 1 #[.val (.ref a0), .val (.ref a1)] [(.ref a0)]))
  refine Ends.via (fun _ k => XS.iconst X0.here hx rfl (hb hby d2_1) k) ?_
  show Ends p e below s ROOM2.cells ROOM2.slots (Q2 Z a0 a1 k k' us h0 n0) (s₁.setTop (mkF m 2 #[.val (.ref a0), .val (.ref a1)] [(.int (0 : Int32)), (.ref a0)]))
  obtain ⟨cl87, Ar87, hin87, hat87⟩ := own_atB Va (j := (0 : Int32)) ⟨by decide, by decide⟩ 0 rfl
  refine Ends.via (X0.baloadBytes hx (j := (0 : Int32)) (v := (.int (us.getD 0 0))) (by rw [e0]; exact Ar87.1) (State.isArrayOf_alike hZ.alike Ar87.2.1) Ar87.2.2 hin87 hat87 (g := (mkF m 2 #[.val (.ref a0), .val (.ref a1)] [(.int (0 : Int32)), (.ref a0)])) rfl rfl (hb hby d2_2)) ?_
  show Ends p e below s ROOM2.cells ROOM2.slots (Q2 Z a0 a1 k k' us h0 n0) (s₁.setTop (mkF m 3 #[.val (.ref a0), .val (.ref a1)] [(.int (us.getD 0 0))]))
  refine Ends.via (fun _ k => XS.aloadN X0.here hx rfl (hb hby d2_3) rfl rfl k) ?_
  show Ends p e below s ROOM2.cells ROOM2.slots (Q2 Z a0 a1 k k' us h0 n0) (s₁.setTop (mkF m 4 #[.val (.ref a0), .val (.ref a1)] [(.ref a1), (.int (us.getD 0 0))]))
  refine Ends.via (fun _ k => XS.iconst X0.here hx rfl (hb hby d2_4) k) ?_
  show Ends p e below s ROOM2.cells ROOM2.slots (Q2 Z a0 a1 k k' us h0 n0) (s₁.setTop (mkF m 5 #[.val (.ref a0), .val (.ref a1)] [(.int (0 : Int32)), (.ref a1), (.int (us.getD 0 0))]))
  obtain ⟨cl88, Ar88, hin88, hat88⟩ := own_atB Vb (j := (0 : Int32)) ⟨by decide, by decide⟩ 0 rfl
  refine Ends.via (X0.baloadBytes hx (j := (0 : Int32)) (v := (.int (us.getD 0 0))) (by rw [e0]; exact Ar88.1) (State.isArrayOf_alike hZ.alike Ar88.2.1) Ar88.2.2 hin88 hat88 (g := (mkF m 5 #[.val (.ref a0), .val (.ref a1)] [(.int (0 : Int32)), (.ref a1), (.int (us.getD 0 0))])) rfl rfl (hb hby d2_5)) ?_
  show Ends p e below s ROOM2.cells ROOM2.slots (Q2 Z a0 a1 k k' us h0 n0) (s₁.setTop (mkF m 6 #[.val (.ref a0), .val (.ref a1)] [(.int (us.getD 0 0)), (.int (us.getD 0 0))]))
  have hf89 : (us.getD 0 0) = (us.getD 0 0) := rfl
  refine Ends.via (fun _ k => XS.icmpNo X0.here hx rfl (hb hby d2_6) rfl (teq hf89).2 k) ?_
  show Ends p e below s ROOM2.cells ROOM2.slots (Q2 Z a0 a1 k k' us h0 n0) (s₁.setTop (mkF m 9 #[.val (.ref a0), .val (.ref a1)] []))
  refine Ends.via (fun _ k => XS.aloadN X0.here hx rfl (hb hby d2_9) rfl rfl k) ?_
  show Ends p e below s ROOM2.cells ROOM2.slots (Q2 Z a0 a1 k k' us h0 n0) (s₁.setTop (mkF m 10 #[.val (.ref a0), .val (.ref a1)] [(.ref a0)]))
  refine Ends.via (fun _ k => XS.iconst X0.here hx rfl (hb hby d2_10) k) ?_
  show Ends p e below s ROOM2.cells ROOM2.slots (Q2 Z a0 a1 k k' us h0 n0) (s₁.setTop (mkF m 11 #[.val (.ref a0), .val (.ref a1)] [(.int (1 : Int32)), (.ref a0)]))
  obtain ⟨cl90, Ar90, hin90, hat90⟩ := own_atB Va (j := (1 : Int32)) ⟨by decide, by decide⟩ 1 rfl
  refine Ends.via (X0.baloadBytes hx (j := (1 : Int32)) (v := (.int (us.getD 1 0))) (by rw [e0]; exact Ar90.1) (State.isArrayOf_alike hZ.alike Ar90.2.1) Ar90.2.2 hin90 hat90 (g := (mkF m 11 #[.val (.ref a0), .val (.ref a1)] [(.int (1 : Int32)), (.ref a0)])) rfl rfl (hb hby d2_11)) ?_
  show Ends p e below s ROOM2.cells ROOM2.slots (Q2 Z a0 a1 k k' us h0 n0) (s₁.setTop (mkF m 12 #[.val (.ref a0), .val (.ref a1)] [(.int (us.getD 1 0))]))
  refine Ends.via (fun _ k => XS.aloadN X0.here hx rfl (hb hby d2_12) rfl rfl k) ?_
  show Ends p e below s ROOM2.cells ROOM2.slots (Q2 Z a0 a1 k k' us h0 n0) (s₁.setTop (mkF m 13 #[.val (.ref a0), .val (.ref a1)] [(.ref a1), (.int (us.getD 1 0))]))
  refine Ends.via (fun _ k => XS.iconst X0.here hx rfl (hb hby d2_13) k) ?_
  show Ends p e below s ROOM2.cells ROOM2.slots (Q2 Z a0 a1 k k' us h0 n0) (s₁.setTop (mkF m 14 #[.val (.ref a0), .val (.ref a1)] [(.int (1 : Int32)), (.ref a1), (.int (us.getD 1 0))]))
  obtain ⟨cl91, Ar91, hin91, hat91⟩ := own_atB Vb (j := (1 : Int32)) ⟨by decide, by decide⟩ 1 rfl
  refine Ends.via (X0.baloadBytes hx (j := (1 : Int32)) (v := (.int (us.getD 1 0))) (by rw [e0]; exact Ar91.1) (State.isArrayOf_alike hZ.alike Ar91.2.1) Ar91.2.2 hin91 hat91 (g := (mkF m 14 #[.val (.ref a0), .val (.ref a1)] [(.int (1 : Int32)), (.ref a1), (.int (us.getD 1 0))])) rfl rfl (hb hby d2_14)) ?_
  show Ends p e below s ROOM2.cells ROOM2.slots (Q2 Z a0 a1 k k' us h0 n0) (s₁.setTop (mkF m 15 #[.val (.ref a0), .val (.ref a1)] [(.int (us.getD 1 0)), (.int (us.getD 1 0))]))
  have hf92 : (us.getD 1 0) = (us.getD 1 0) := rfl
  refine Ends.via (fun _ k => XS.icmpNo X0.here hx rfl (hb hby d2_15) rfl (teq hf92).2 k) ?_
  show Ends p e below s ROOM2.cells ROOM2.slots (Q2 Z a0 a1 k k' us h0 n0) (s₁.setTop (mkF m 18 #[.val (.ref a0), .val (.ref a1)] []))
  refine Ends.via (fun _ k => XS.aloadN X0.here hx rfl (hb hby d2_18) rfl rfl k) ?_
  show Ends p e below s ROOM2.cells ROOM2.slots (Q2 Z a0 a1 k k' us h0 n0) (s₁.setTop (mkF m 19 #[.val (.ref a0), .val (.ref a1)] [(.ref a0)]))
  refine Ends.via (fun _ k => XS.iconst X0.here hx rfl (hb hby d2_19) k) ?_
  show Ends p e below s ROOM2.cells ROOM2.slots (Q2 Z a0 a1 k k' us h0 n0) (s₁.setTop (mkF m 20 #[.val (.ref a0), .val (.ref a1)] [(.int (2 : Int32)), (.ref a0)]))
  obtain ⟨cl93, Ar93, hin93, hat93⟩ := own_atB Va (j := (2 : Int32)) ⟨by decide, by decide⟩ 2 rfl
  refine Ends.via (X0.baloadBytes hx (j := (2 : Int32)) (v := (.int (us.getD 2 0))) (by rw [e0]; exact Ar93.1) (State.isArrayOf_alike hZ.alike Ar93.2.1) Ar93.2.2 hin93 hat93 (g := (mkF m 20 #[.val (.ref a0), .val (.ref a1)] [(.int (2 : Int32)), (.ref a0)])) rfl rfl (hb hby d2_20)) ?_
  show Ends p e below s ROOM2.cells ROOM2.slots (Q2 Z a0 a1 k k' us h0 n0) (s₁.setTop (mkF m 21 #[.val (.ref a0), .val (.ref a1)] [(.int (us.getD 2 0))]))
  refine Ends.via (fun _ k => XS.aloadN X0.here hx rfl (hb hby d2_21) rfl rfl k) ?_
  show Ends p e below s ROOM2.cells ROOM2.slots (Q2 Z a0 a1 k k' us h0 n0) (s₁.setTop (mkF m 22 #[.val (.ref a0), .val (.ref a1)] [(.ref a1), (.int (us.getD 2 0))]))
  refine Ends.via (fun _ k => XS.iconst X0.here hx rfl (hb hby d2_22) k) ?_
  show Ends p e below s ROOM2.cells ROOM2.slots (Q2 Z a0 a1 k k' us h0 n0) (s₁.setTop (mkF m 23 #[.val (.ref a0), .val (.ref a1)] [(.int (2 : Int32)), (.ref a1), (.int (us.getD 2 0))]))
  obtain ⟨cl94, Ar94, hin94, hat94⟩ := own_atB Vb (j := (2 : Int32)) ⟨by decide, by decide⟩ 2 rfl
  refine Ends.via (X0.baloadBytes hx (j := (2 : Int32)) (v := (.int (us.getD 2 0))) (by rw [e0]; exact Ar94.1) (State.isArrayOf_alike hZ.alike Ar94.2.1) Ar94.2.2 hin94 hat94 (g := (mkF m 23 #[.val (.ref a0), .val (.ref a1)] [(.int (2 : Int32)), (.ref a1), (.int (us.getD 2 0))])) rfl rfl (hb hby d2_23)) ?_
  show Ends p e below s ROOM2.cells ROOM2.slots (Q2 Z a0 a1 k k' us h0 n0) (s₁.setTop (mkF m 24 #[.val (.ref a0), .val (.ref a1)] [(.int (us.getD 2 0)), (.int (us.getD 2 0))]))
  have hf95 : (us.getD 2 0) = (us.getD 2 0) := rfl
  refine Ends.via (fun _ k => XS.icmpNo X0.here hx rfl (hb hby d2_24) rfl (teq hf95).2 k) ?_
  show Ends p e below s ROOM2.cells ROOM2.slots (Q2 Z a0 a1 k k' us h0 n0) (s₁.setTop (mkF m 27 #[.val (.ref a0), .val (.ref a1)] []))
  refine Ends.via (fun _ k => XS.aloadN X0.here hx rfl (hb hby d2_27) rfl rfl k) ?_
  show Ends p e below s ROOM2.cells ROOM2.slots (Q2 Z a0 a1 k k' us h0 n0) (s₁.setTop (mkF m 28 #[.val (.ref a0), .val (.ref a1)] [(.ref a0)]))
  refine Ends.via (fun _ k => XS.iconst X0.here hx rfl (hb hby d2_28) k) ?_
  show Ends p e below s ROOM2.cells ROOM2.slots (Q2 Z a0 a1 k k' us h0 n0) (s₁.setTop (mkF m 29 #[.val (.ref a0), .val (.ref a1)] [(.int (3 : Int32)), (.ref a0)]))
  obtain ⟨cl96, Ar96, hin96, hat96⟩ := own_atB Va (j := (3 : Int32)) ⟨by decide, by decide⟩ 3 rfl
  refine Ends.via (X0.baloadBytes hx (j := (3 : Int32)) (v := (.int (us.getD 3 0))) (by rw [e0]; exact Ar96.1) (State.isArrayOf_alike hZ.alike Ar96.2.1) Ar96.2.2 hin96 hat96 (g := (mkF m 29 #[.val (.ref a0), .val (.ref a1)] [(.int (3 : Int32)), (.ref a0)])) rfl rfl (hb hby d2_29)) ?_
  show Ends p e below s ROOM2.cells ROOM2.slots (Q2 Z a0 a1 k k' us h0 n0) (s₁.setTop (mkF m 30 #[.val (.ref a0), .val (.ref a1)] [(.int (us.getD 3 0))]))
  refine Ends.via (fun _ k => XS.aloadN X0.here hx rfl (hb hby d2_30) rfl rfl k) ?_
  show Ends p e below s ROOM2.cells ROOM2.slots (Q2 Z a0 a1 k k' us h0 n0) (s₁.setTop (mkF m 31 #[.val (.ref a0), .val (.ref a1)] [(.ref a1), (.int (us.getD 3 0))]))
  refine Ends.via (fun _ k => XS.iconst X0.here hx rfl (hb hby d2_31) k) ?_
  show Ends p e below s ROOM2.cells ROOM2.slots (Q2 Z a0 a1 k k' us h0 n0) (s₁.setTop (mkF m 32 #[.val (.ref a0), .val (.ref a1)] [(.int (3 : Int32)), (.ref a1), (.int (us.getD 3 0))]))
  obtain ⟨cl97, Ar97, hin97, hat97⟩ := own_atB Vb (j := (3 : Int32)) ⟨by decide, by decide⟩ 3 rfl
  refine Ends.via (X0.baloadBytes hx (j := (3 : Int32)) (v := (.int (us.getD 3 0))) (by rw [e0]; exact Ar97.1) (State.isArrayOf_alike hZ.alike Ar97.2.1) Ar97.2.2 hin97 hat97 (g := (mkF m 32 #[.val (.ref a0), .val (.ref a1)] [(.int (3 : Int32)), (.ref a1), (.int (us.getD 3 0))])) rfl rfl (hb hby d2_32)) ?_
  show Ends p e below s ROOM2.cells ROOM2.slots (Q2 Z a0 a1 k k' us h0 n0) (s₁.setTop (mkF m 33 #[.val (.ref a0), .val (.ref a1)] [(.int (us.getD 3 0)), (.int (us.getD 3 0))]))
  have hf98 : (us.getD 3 0) = (us.getD 3 0) := rfl
  refine Ends.via (fun _ k => XS.icmpNo X0.here hx rfl (hb hby d2_33) rfl (teq hf98).2 k) ?_
  show Ends p e below s ROOM2.cells ROOM2.slots (Q2 Z a0 a1 k k' us h0 n0) (s₁.setTop (mkF m 36 #[.val (.ref a0), .val (.ref a1)] []))
  refine Ends.via (fun _ k => XS.aloadN X0.here hx rfl (hb hby d2_36) rfl rfl k) ?_
  show Ends p e below s ROOM2.cells ROOM2.slots (Q2 Z a0 a1 k k' us h0 n0) (s₁.setTop (mkF m 37 #[.val (.ref a0), .val (.ref a1)] [(.ref a0)]))
  refine Ends.via (fun _ k => XS.iconst X0.here hx rfl (hb hby d2_37) k) ?_
  show Ends p e below s ROOM2.cells ROOM2.slots (Q2 Z a0 a1 k k' us h0 n0) (s₁.setTop (mkF m 38 #[.val (.ref a0), .val (.ref a1)] [(.int (4 : Int32)), (.ref a0)]))
  obtain ⟨cl99, Ar99, hin99, hat99⟩ := own_atB Va (j := (4 : Int32)) ⟨by decide, by decide⟩ 4 rfl
  refine Ends.via (X0.baloadBytes hx (j := (4 : Int32)) (v := (.int (us.getD 4 0))) (by rw [e0]; exact Ar99.1) (State.isArrayOf_alike hZ.alike Ar99.2.1) Ar99.2.2 hin99 hat99 (g := (mkF m 38 #[.val (.ref a0), .val (.ref a1)] [(.int (4 : Int32)), (.ref a0)])) rfl rfl (hb hby d2_38)) ?_
  show Ends p e below s ROOM2.cells ROOM2.slots (Q2 Z a0 a1 k k' us h0 n0) (s₁.setTop (mkF m 39 #[.val (.ref a0), .val (.ref a1)] [(.int (us.getD 4 0))]))
  refine Ends.via (fun _ k => XS.aloadN X0.here hx rfl (hb hby d2_39) rfl rfl k) ?_
  show Ends p e below s ROOM2.cells ROOM2.slots (Q2 Z a0 a1 k k' us h0 n0) (s₁.setTop (mkF m 40 #[.val (.ref a0), .val (.ref a1)] [(.ref a1), (.int (us.getD 4 0))]))
  refine Ends.via (fun _ k => XS.iconst X0.here hx rfl (hb hby d2_40) k) ?_
  show Ends p e below s ROOM2.cells ROOM2.slots (Q2 Z a0 a1 k k' us h0 n0) (s₁.setTop (mkF m 41 #[.val (.ref a0), .val (.ref a1)] [(.int (4 : Int32)), (.ref a1), (.int (us.getD 4 0))]))
  obtain ⟨cl100, Ar100, hin100, hat100⟩ := own_atB Vb (j := (4 : Int32)) ⟨by decide, by decide⟩ 4 rfl
  refine Ends.via (X0.baloadBytes hx (j := (4 : Int32)) (v := (.int (us.getD 4 0))) (by rw [e0]; exact Ar100.1) (State.isArrayOf_alike hZ.alike Ar100.2.1) Ar100.2.2 hin100 hat100 (g := (mkF m 41 #[.val (.ref a0), .val (.ref a1)] [(.int (4 : Int32)), (.ref a1), (.int (us.getD 4 0))])) rfl rfl (hb hby d2_41)) ?_
  show Ends p e below s ROOM2.cells ROOM2.slots (Q2 Z a0 a1 k k' us h0 n0) (s₁.setTop (mkF m 42 #[.val (.ref a0), .val (.ref a1)] [(.int (us.getD 4 0)), (.int (us.getD 4 0))]))
  have hf101 : (us.getD 4 0) = (us.getD 4 0) := rfl
  refine Ends.via (fun _ k => XS.icmpNo X0.here hx rfl (hb hby d2_42) rfl (teq hf101).2 k) ?_
  show Ends p e below s ROOM2.cells ROOM2.slots (Q2 Z a0 a1 k k' us h0 n0) (s₁.setTop (mkF m 45 #[.val (.ref a0), .val (.ref a1)] []))
  refine Ends.via (fun _ k => XS.aloadN X0.here hx rfl (hb hby d2_45) rfl rfl k) ?_
  show Ends p e below s ROOM2.cells ROOM2.slots (Q2 Z a0 a1 k k' us h0 n0) (s₁.setTop (mkF m 46 #[.val (.ref a0), .val (.ref a1)] [(.ref a0)]))
  refine Ends.via (fun _ k => XS.iconst X0.here hx rfl (hb hby d2_46) k) ?_
  show Ends p e below s ROOM2.cells ROOM2.slots (Q2 Z a0 a1 k k' us h0 n0) (s₁.setTop (mkF m 47 #[.val (.ref a0), .val (.ref a1)] [(.int (5 : Int32)), (.ref a0)]))
  obtain ⟨cl102, Ar102, hin102, hat102⟩ := own_atB Va (j := (5 : Int32)) ⟨by decide, by decide⟩ 5 rfl
  refine Ends.via (X0.baloadBytes hx (j := (5 : Int32)) (v := (.int (us.getD 5 0))) (by rw [e0]; exact Ar102.1) (State.isArrayOf_alike hZ.alike Ar102.2.1) Ar102.2.2 hin102 hat102 (g := (mkF m 47 #[.val (.ref a0), .val (.ref a1)] [(.int (5 : Int32)), (.ref a0)])) rfl rfl (hb hby d2_47)) ?_
  show Ends p e below s ROOM2.cells ROOM2.slots (Q2 Z a0 a1 k k' us h0 n0) (s₁.setTop (mkF m 48 #[.val (.ref a0), .val (.ref a1)] [(.int (us.getD 5 0))]))
  refine Ends.via (fun _ k => XS.aloadN X0.here hx rfl (hb hby d2_48) rfl rfl k) ?_
  show Ends p e below s ROOM2.cells ROOM2.slots (Q2 Z a0 a1 k k' us h0 n0) (s₁.setTop (mkF m 49 #[.val (.ref a0), .val (.ref a1)] [(.ref a1), (.int (us.getD 5 0))]))
  refine Ends.via (fun _ k => XS.iconst X0.here hx rfl (hb hby d2_49) k) ?_
  show Ends p e below s ROOM2.cells ROOM2.slots (Q2 Z a0 a1 k k' us h0 n0) (s₁.setTop (mkF m 50 #[.val (.ref a0), .val (.ref a1)] [(.int (5 : Int32)), (.ref a1), (.int (us.getD 5 0))]))
  obtain ⟨cl103, Ar103, hin103, hat103⟩ := own_atB Vb (j := (5 : Int32)) ⟨by decide, by decide⟩ 5 rfl
  refine Ends.via (X0.baloadBytes hx (j := (5 : Int32)) (v := (.int (us.getD 5 0))) (by rw [e0]; exact Ar103.1) (State.isArrayOf_alike hZ.alike Ar103.2.1) Ar103.2.2 hin103 hat103 (g := (mkF m 50 #[.val (.ref a0), .val (.ref a1)] [(.int (5 : Int32)), (.ref a1), (.int (us.getD 5 0))])) rfl rfl (hb hby d2_50)) ?_
  show Ends p e below s ROOM2.cells ROOM2.slots (Q2 Z a0 a1 k k' us h0 n0) (s₁.setTop (mkF m 51 #[.val (.ref a0), .val (.ref a1)] [(.int (us.getD 5 0)), (.int (us.getD 5 0))]))
  have hf104 : (us.getD 5 0) = (us.getD 5 0) := rfl
  refine Ends.via (fun _ k => XS.icmpNo X0.here hx rfl (hb hby d2_51) rfl (teq hf104).2 k) ?_
  show Ends p e below s ROOM2.cells ROOM2.slots (Q2 Z a0 a1 k k' us h0 n0) (s₁.setTop (mkF m 54 #[.val (.ref a0), .val (.ref a1)] []))
  refine Ends.via (fun _ k => XS.aloadN X0.here hx rfl (hb hby d2_54) rfl rfl k) ?_
  show Ends p e below s ROOM2.cells ROOM2.slots (Q2 Z a0 a1 k k' us h0 n0) (s₁.setTop (mkF m 55 #[.val (.ref a0), .val (.ref a1)] [(.ref a0)]))
  refine Ends.via (fun _ k => XS.bipush X0.here hx rfl (hb hby d2_55) k) ?_
  show Ends p e below s ROOM2.cells ROOM2.slots (Q2 Z a0 a1 k k' us h0 n0) (s₁.setTop (mkF m 57 #[.val (.ref a0), .val (.ref a1)] [(.int (6 : Int32)), (.ref a0)]))
  obtain ⟨cl105, Ar105, hin105, hat105⟩ := own_atB Va (j := (6 : Int32)) ⟨by decide, by decide⟩ 6 rfl
  refine Ends.via (X0.baloadBytes hx (j := (6 : Int32)) (v := (.int (us.getD 6 0))) (by rw [e0]; exact Ar105.1) (State.isArrayOf_alike hZ.alike Ar105.2.1) Ar105.2.2 hin105 hat105 (g := (mkF m 57 #[.val (.ref a0), .val (.ref a1)] [(.int (6 : Int32)), (.ref a0)])) rfl rfl (hb hby d2_57)) ?_
  show Ends p e below s ROOM2.cells ROOM2.slots (Q2 Z a0 a1 k k' us h0 n0) (s₁.setTop (mkF m 58 #[.val (.ref a0), .val (.ref a1)] [(.int (us.getD 6 0))]))
  refine Ends.via (fun _ k => XS.aloadN X0.here hx rfl (hb hby d2_58) rfl rfl k) ?_
  show Ends p e below s ROOM2.cells ROOM2.slots (Q2 Z a0 a1 k k' us h0 n0) (s₁.setTop (mkF m 59 #[.val (.ref a0), .val (.ref a1)] [(.ref a1), (.int (us.getD 6 0))]))
  refine Ends.via (fun _ k => XS.bipush X0.here hx rfl (hb hby d2_59) k) ?_
  show Ends p e below s ROOM2.cells ROOM2.slots (Q2 Z a0 a1 k k' us h0 n0) (s₁.setTop (mkF m 61 #[.val (.ref a0), .val (.ref a1)] [(.int (6 : Int32)), (.ref a1), (.int (us.getD 6 0))]))
  obtain ⟨cl106, Ar106, hin106, hat106⟩ := own_atB Vb (j := (6 : Int32)) ⟨by decide, by decide⟩ 6 rfl
  refine Ends.via (X0.baloadBytes hx (j := (6 : Int32)) (v := (.int (us.getD 6 0))) (by rw [e0]; exact Ar106.1) (State.isArrayOf_alike hZ.alike Ar106.2.1) Ar106.2.2 hin106 hat106 (g := (mkF m 61 #[.val (.ref a0), .val (.ref a1)] [(.int (6 : Int32)), (.ref a1), (.int (us.getD 6 0))])) rfl rfl (hb hby d2_61)) ?_
  show Ends p e below s ROOM2.cells ROOM2.slots (Q2 Z a0 a1 k k' us h0 n0) (s₁.setTop (mkF m 62 #[.val (.ref a0), .val (.ref a1)] [(.int (us.getD 6 0)), (.int (us.getD 6 0))]))
  have hf107 : (us.getD 6 0) = (us.getD 6 0) := rfl
  refine Ends.via (fun _ k => XS.icmpNo X0.here hx rfl (hb hby d2_62) rfl (teq hf107).2 k) ?_
  show Ends p e below s ROOM2.cells ROOM2.slots (Q2 Z a0 a1 k k' us h0 n0) (s₁.setTop (mkF m 65 #[.val (.ref a0), .val (.ref a1)] []))
  refine Ends.via (fun _ k => XS.aloadN X0.here hx rfl (hb hby d2_65) rfl rfl k) ?_
  show Ends p e below s ROOM2.cells ROOM2.slots (Q2 Z a0 a1 k k' us h0 n0) (s₁.setTop (mkF m 66 #[.val (.ref a0), .val (.ref a1)] [(.ref a0)]))
  refine Ends.via (fun _ k => XS.bipush X0.here hx rfl (hb hby d2_66) k) ?_
  show Ends p e below s ROOM2.cells ROOM2.slots (Q2 Z a0 a1 k k' us h0 n0) (s₁.setTop (mkF m 68 #[.val (.ref a0), .val (.ref a1)] [(.int (7 : Int32)), (.ref a0)]))
  obtain ⟨cl108, Ar108, hin108, hat108⟩ := own_atB Va (j := (7 : Int32)) ⟨by decide, by decide⟩ 7 rfl
  refine Ends.via (X0.baloadBytes hx (j := (7 : Int32)) (v := (.int (us.getD 7 0))) (by rw [e0]; exact Ar108.1) (State.isArrayOf_alike hZ.alike Ar108.2.1) Ar108.2.2 hin108 hat108 (g := (mkF m 68 #[.val (.ref a0), .val (.ref a1)] [(.int (7 : Int32)), (.ref a0)])) rfl rfl (hb hby d2_68)) ?_
  show Ends p e below s ROOM2.cells ROOM2.slots (Q2 Z a0 a1 k k' us h0 n0) (s₁.setTop (mkF m 69 #[.val (.ref a0), .val (.ref a1)] [(.int (us.getD 7 0))]))
  refine Ends.via (fun _ k => XS.aloadN X0.here hx rfl (hb hby d2_69) rfl rfl k) ?_
  show Ends p e below s ROOM2.cells ROOM2.slots (Q2 Z a0 a1 k k' us h0 n0) (s₁.setTop (mkF m 70 #[.val (.ref a0), .val (.ref a1)] [(.ref a1), (.int (us.getD 7 0))]))
  refine Ends.via (fun _ k => XS.bipush X0.here hx rfl (hb hby d2_70) k) ?_
  show Ends p e below s ROOM2.cells ROOM2.slots (Q2 Z a0 a1 k k' us h0 n0) (s₁.setTop (mkF m 72 #[.val (.ref a0), .val (.ref a1)] [(.int (7 : Int32)), (.ref a1), (.int (us.getD 7 0))]))
  obtain ⟨cl109, Ar109, hin109, hat109⟩ := own_atB Vb (j := (7 : Int32)) ⟨by decide, by decide⟩ 7 rfl
  refine Ends.via (X0.baloadBytes hx (j := (7 : Int32)) (v := (.int (us.getD 7 0))) (by rw [e0]; exact Ar109.1) (State.isArrayOf_alike hZ.alike Ar109.2.1) Ar109.2.2 hin109 hat109 (g := (mkF m 72 #[.val (.ref a0), .val (.ref a1)] [(.int (7 : Int32)), (.ref a1), (.int (us.getD 7 0))])) rfl rfl (hb hby d2_72)) ?_
  show Ends p e below s ROOM2.cells ROOM2.slots (Q2 Z a0 a1 k k' us h0 n0) (s₁.setTop (mkF m 73 #[.val (.ref a0), .val (.ref a1)] [(.int (us.getD 7 0)), (.int (us.getD 7 0))]))
  have hf110 : (us.getD 7 0) = (us.getD 7 0) := rfl
  refine Ends.via (fun _ k => XS.icmpNo X0.here hx rfl (hb hby d2_73) rfl (teq hf110).2 k) ?_
  show Ends p e below s ROOM2.cells ROOM2.slots (Q2 Z a0 a1 k k' us h0 n0) (s₁.setTop (mkF m 76 #[.val (.ref a0), .val (.ref a1)] []))
  refine Ends.via (fun _ k => XS.aloadN X0.here hx rfl (hb hby d2_76) rfl rfl k) ?_
  show Ends p e below s ROOM2.cells ROOM2.slots (Q2 Z a0 a1 k k' us h0 n0) (s₁.setTop (mkF m 77 #[.val (.ref a0), .val (.ref a1)] [(.ref a0)]))
  refine Ends.via (fun _ k => XS.bipush X0.here hx rfl (hb hby d2_77) k) ?_
  show Ends p e below s ROOM2.cells ROOM2.slots (Q2 Z a0 a1 k k' us h0 n0) (s₁.setTop (mkF m 79 #[.val (.ref a0), .val (.ref a1)] [(.int (8 : Int32)), (.ref a0)]))
  obtain ⟨cl111, Ar111, hin111, hat111⟩ := own_atB Va (j := (8 : Int32)) ⟨by decide, by decide⟩ 8 rfl
  refine Ends.via (X0.baloadBytes hx (j := (8 : Int32)) (v := (.int (us.getD 8 0))) (by rw [e0]; exact Ar111.1) (State.isArrayOf_alike hZ.alike Ar111.2.1) Ar111.2.2 hin111 hat111 (g := (mkF m 79 #[.val (.ref a0), .val (.ref a1)] [(.int (8 : Int32)), (.ref a0)])) rfl rfl (hb hby d2_79)) ?_
  show Ends p e below s ROOM2.cells ROOM2.slots (Q2 Z a0 a1 k k' us h0 n0) (s₁.setTop (mkF m 80 #[.val (.ref a0), .val (.ref a1)] [(.int (us.getD 8 0))]))
  refine Ends.via (fun _ k => XS.aloadN X0.here hx rfl (hb hby d2_80) rfl rfl k) ?_
  show Ends p e below s ROOM2.cells ROOM2.slots (Q2 Z a0 a1 k k' us h0 n0) (s₁.setTop (mkF m 81 #[.val (.ref a0), .val (.ref a1)] [(.ref a1), (.int (us.getD 8 0))]))
  refine Ends.via (fun _ k => XS.bipush X0.here hx rfl (hb hby d2_81) k) ?_
  show Ends p e below s ROOM2.cells ROOM2.slots (Q2 Z a0 a1 k k' us h0 n0) (s₁.setTop (mkF m 83 #[.val (.ref a0), .val (.ref a1)] [(.int (8 : Int32)), (.ref a1), (.int (us.getD 8 0))]))
  obtain ⟨cl112, Ar112, hin112, hat112⟩ := own_atB Vb (j := (8 : Int32)) ⟨by decide, by decide⟩ 8 rfl
  refine Ends.via (X0.baloadBytes hx (j := (8 : Int32)) (v := (.int (us.getD 8 0))) (by rw [e0]; exact Ar112.1) (State.isArrayOf_alike hZ.alike Ar112.2.1) Ar112.2.2 hin112 hat112 (g := (mkF m 83 #[.val (.ref a0), .val (.ref a1)] [(.int (8 : Int32)), (.ref a1), (.int (us.getD 8 0))])) rfl rfl (hb hby d2_83)) ?_
  show Ends p e below s ROOM2.cells ROOM2.slots (Q2 Z a0 a1 k k' us h0 n0) (s₁.setTop (mkF m 84 #[.val (.ref a0), .val (.ref a1)] [(.int (us.getD 8 0)), (.int (us.getD 8 0))]))
  have hf113 : (us.getD 8 0) = (us.getD 8 0) := rfl
  refine Ends.via (fun _ k => XS.icmpNo X0.here hx rfl (hb hby d2_84) rfl (teq hf113).2 k) ?_
  show Ends p e below s ROOM2.cells ROOM2.slots (Q2 Z a0 a1 k k' us h0 n0) (s₁.setTop (mkF m 87 #[.val (.ref a0), .val (.ref a1)] []))
  refine Ends.via (fun _ k => XS.aloadN X0.here hx rfl (hb hby d2_87) rfl rfl k) ?_
  show Ends p e below s ROOM2.cells ROOM2.slots (Q2 Z a0 a1 k k' us h0 n0) (s₁.setTop (mkF m 88 #[.val (.ref a0), .val (.ref a1)] [(.ref a0)]))
  refine Ends.via (fun _ k => XS.bipush X0.here hx rfl (hb hby d2_88) k) ?_
  show Ends p e below s ROOM2.cells ROOM2.slots (Q2 Z a0 a1 k k' us h0 n0) (s₁.setTop (mkF m 90 #[.val (.ref a0), .val (.ref a1)] [(.int (9 : Int32)), (.ref a0)]))
  obtain ⟨cl114, Ar114, hin114, hat114⟩ := own_atB Va (j := (9 : Int32)) ⟨by decide, by decide⟩ 9 rfl
  refine Ends.via (X0.baloadBytes hx (j := (9 : Int32)) (v := (.int (us.getD 9 0))) (by rw [e0]; exact Ar114.1) (State.isArrayOf_alike hZ.alike Ar114.2.1) Ar114.2.2 hin114 hat114 (g := (mkF m 90 #[.val (.ref a0), .val (.ref a1)] [(.int (9 : Int32)), (.ref a0)])) rfl rfl (hb hby d2_90)) ?_
  show Ends p e below s ROOM2.cells ROOM2.slots (Q2 Z a0 a1 k k' us h0 n0) (s₁.setTop (mkF m 91 #[.val (.ref a0), .val (.ref a1)] [(.int (us.getD 9 0))]))
  refine Ends.via (fun _ k => XS.aloadN X0.here hx rfl (hb hby d2_91) rfl rfl k) ?_
  show Ends p e below s ROOM2.cells ROOM2.slots (Q2 Z a0 a1 k k' us h0 n0) (s₁.setTop (mkF m 92 #[.val (.ref a0), .val (.ref a1)] [(.ref a1), (.int (us.getD 9 0))]))
  refine Ends.via (fun _ k => XS.bipush X0.here hx rfl (hb hby d2_92) k) ?_
  show Ends p e below s ROOM2.cells ROOM2.slots (Q2 Z a0 a1 k k' us h0 n0) (s₁.setTop (mkF m 94 #[.val (.ref a0), .val (.ref a1)] [(.int (9 : Int32)), (.ref a1), (.int (us.getD 9 0))]))
  obtain ⟨cl115, Ar115, hin115, hat115⟩ := own_atB Vb (j := (9 : Int32)) ⟨by decide, by decide⟩ 9 rfl
  refine Ends.via (X0.baloadBytes hx (j := (9 : Int32)) (v := (.int (us.getD 9 0))) (by rw [e0]; exact Ar115.1) (State.isArrayOf_alike hZ.alike Ar115.2.1) Ar115.2.2 hin115 hat115 (g := (mkF m 94 #[.val (.ref a0), .val (.ref a1)] [(.int (9 : Int32)), (.ref a1), (.int (us.getD 9 0))])) rfl rfl (hb hby d2_94)) ?_
  show Ends p e below s ROOM2.cells ROOM2.slots (Q2 Z a0 a1 k k' us h0 n0) (s₁.setTop (mkF m 95 #[.val (.ref a0), .val (.ref a1)] [(.int (us.getD 9 0)), (.int (us.getD 9 0))]))
  have hf116 : (us.getD 9 0) = (us.getD 9 0) := rfl
  refine Ends.via (fun _ k => XS.icmpNo X0.here hx rfl (hb hby d2_95) rfl (teq hf116).2 k) ?_
  show Ends p e below s ROOM2.cells ROOM2.slots (Q2 Z a0 a1 k k' us h0 n0) (s₁.setTop (mkF m 98 #[.val (.ref a0), .val (.ref a1)] []))
  refine Ends.via (fun _ k => XS.aloadN X0.here hx rfl (hb hby d2_98) rfl rfl k) ?_
  show Ends p e below s ROOM2.cells ROOM2.slots (Q2 Z a0 a1 k k' us h0 n0) (s₁.setTop (mkF m 99 #[.val (.ref a0), .val (.ref a1)] [(.ref a0)]))
  refine Ends.via (fun _ k => XS.bipush X0.here hx rfl (hb hby d2_99) k) ?_
  show Ends p e below s ROOM2.cells ROOM2.slots (Q2 Z a0 a1 k k' us h0 n0) (s₁.setTop (mkF m 101 #[.val (.ref a0), .val (.ref a1)] [(.int (10 : Int32)), (.ref a0)]))
  obtain ⟨cl117, Ar117, hin117, hat117⟩ := own_atB Va (j := (10 : Int32)) ⟨by decide, by decide⟩ 10 rfl
  refine Ends.via (X0.baloadBytes hx (j := (10 : Int32)) (v := (.int (us.getD 10 0))) (by rw [e0]; exact Ar117.1) (State.isArrayOf_alike hZ.alike Ar117.2.1) Ar117.2.2 hin117 hat117 (g := (mkF m 101 #[.val (.ref a0), .val (.ref a1)] [(.int (10 : Int32)), (.ref a0)])) rfl rfl (hb hby d2_101)) ?_
  show Ends p e below s ROOM2.cells ROOM2.slots (Q2 Z a0 a1 k k' us h0 n0) (s₁.setTop (mkF m 102 #[.val (.ref a0), .val (.ref a1)] [(.int (us.getD 10 0))]))
  refine Ends.via (fun _ k => XS.aloadN X0.here hx rfl (hb hby d2_102) rfl rfl k) ?_
  show Ends p e below s ROOM2.cells ROOM2.slots (Q2 Z a0 a1 k k' us h0 n0) (s₁.setTop (mkF m 103 #[.val (.ref a0), .val (.ref a1)] [(.ref a1), (.int (us.getD 10 0))]))
  refine Ends.via (fun _ k => XS.bipush X0.here hx rfl (hb hby d2_103) k) ?_
  show Ends p e below s ROOM2.cells ROOM2.slots (Q2 Z a0 a1 k k' us h0 n0) (s₁.setTop (mkF m 105 #[.val (.ref a0), .val (.ref a1)] [(.int (10 : Int32)), (.ref a1), (.int (us.getD 10 0))]))
  obtain ⟨cl118, Ar118, hin118, hat118⟩ := own_atB Vb (j := (10 : Int32)) ⟨by decide, by decide⟩ 10 rfl
  refine Ends.via (X0.baloadBytes hx (j := (10 : Int32)) (v := (.int (us.getD 10 0))) (by rw [e0]; exact Ar118.1) (State.isArrayOf_alike hZ.alike Ar118.2.1) Ar118.2.2 hin118 hat118 (g := (mkF m 105 #[.val (.ref a0), .val (.ref a1)] [(.int (10 : Int32)), (.ref a1), (.int (us.getD 10 0))])) rfl rfl (hb hby d2_105)) ?_
  show Ends p e below s ROOM2.cells ROOM2.slots (Q2 Z a0 a1 k k' us h0 n0) (s₁.setTop (mkF m 106 #[.val (.ref a0), .val (.ref a1)] [(.int (us.getD 10 0)), (.int (us.getD 10 0))]))
  have hf119 : (us.getD 10 0) = (us.getD 10 0) := rfl
  refine Ends.via (fun _ k => XS.icmpNo X0.here hx rfl (hb hby d2_106) rfl (teq hf119).2 k) ?_
  show Ends p e below s ROOM2.cells ROOM2.slots (Q2 Z a0 a1 k k' us h0 n0) (s₁.setTop (mkF m 109 #[.val (.ref a0), .val (.ref a1)] []))
  refine Ends.via (fun _ k => XS.aloadN X0.here hx rfl (hb hby d2_109) rfl rfl k) ?_
  show Ends p e below s ROOM2.cells ROOM2.slots (Q2 Z a0 a1 k k' us h0 n0) (s₁.setTop (mkF m 110 #[.val (.ref a0), .val (.ref a1)] [(.ref a0)]))
  refine Ends.via (fun _ k => XS.bipush X0.here hx rfl (hb hby d2_110) k) ?_
  show Ends p e below s ROOM2.cells ROOM2.slots (Q2 Z a0 a1 k k' us h0 n0) (s₁.setTop (mkF m 112 #[.val (.ref a0), .val (.ref a1)] [(.int (11 : Int32)), (.ref a0)]))
  obtain ⟨cl120, Ar120, hin120, hat120⟩ := own_atB Va (j := (11 : Int32)) ⟨by decide, by decide⟩ 11 rfl
  refine Ends.via (X0.baloadBytes hx (j := (11 : Int32)) (v := (.int (us.getD 11 0))) (by rw [e0]; exact Ar120.1) (State.isArrayOf_alike hZ.alike Ar120.2.1) Ar120.2.2 hin120 hat120 (g := (mkF m 112 #[.val (.ref a0), .val (.ref a1)] [(.int (11 : Int32)), (.ref a0)])) rfl rfl (hb hby d2_112)) ?_
  show Ends p e below s ROOM2.cells ROOM2.slots (Q2 Z a0 a1 k k' us h0 n0) (s₁.setTop (mkF m 113 #[.val (.ref a0), .val (.ref a1)] [(.int (us.getD 11 0))]))
  refine Ends.via (fun _ k => XS.aloadN X0.here hx rfl (hb hby d2_113) rfl rfl k) ?_
  show Ends p e below s ROOM2.cells ROOM2.slots (Q2 Z a0 a1 k k' us h0 n0) (s₁.setTop (mkF m 114 #[.val (.ref a0), .val (.ref a1)] [(.ref a1), (.int (us.getD 11 0))]))
  refine Ends.via (fun _ k => XS.bipush X0.here hx rfl (hb hby d2_114) k) ?_
  show Ends p e below s ROOM2.cells ROOM2.slots (Q2 Z a0 a1 k k' us h0 n0) (s₁.setTop (mkF m 116 #[.val (.ref a0), .val (.ref a1)] [(.int (11 : Int32)), (.ref a1), (.int (us.getD 11 0))]))
  obtain ⟨cl121, Ar121, hin121, hat121⟩ := own_atB Vb (j := (11 : Int32)) ⟨by decide, by decide⟩ 11 rfl
  refine Ends.via (X0.baloadBytes hx (j := (11 : Int32)) (v := (.int (us.getD 11 0))) (by rw [e0]; exact Ar121.1) (State.isArrayOf_alike hZ.alike Ar121.2.1) Ar121.2.2 hin121 hat121 (g := (mkF m 116 #[.val (.ref a0), .val (.ref a1)] [(.int (11 : Int32)), (.ref a1), (.int (us.getD 11 0))])) rfl rfl (hb hby d2_116)) ?_
  show Ends p e below s ROOM2.cells ROOM2.slots (Q2 Z a0 a1 k k' us h0 n0) (s₁.setTop (mkF m 117 #[.val (.ref a0), .val (.ref a1)] [(.int (us.getD 11 0)), (.int (us.getD 11 0))]))
  have hf122 : (us.getD 11 0) = (us.getD 11 0) := rfl
  refine Ends.via (fun _ k => XS.icmpNo X0.here hx rfl (hb hby d2_117) rfl (teq hf122).2 k) ?_
  show Ends p e below s ROOM2.cells ROOM2.slots (Q2 Z a0 a1 k k' us h0 n0) (s₁.setTop (mkF m 120 #[.val (.ref a0), .val (.ref a1)] []))
  refine Ends.via (fun _ k => XS.iconst X0.here hx rfl (hb hby d2_120) k) ?_
  show Ends p e below s ROOM2.cells ROOM2.slots (Q2 Z a0 a1 k k' us h0 n0) (s₁.setTop (mkF m 121 #[.val (.ref a0), .val (.ref a1)] [(.int (1 : Int32))]))
  refine Ends.via (fun _ k => XS.goto X0.here hx rfl (pc0 := 121) (pc' := 125) rfl (hb hby d2_121) (by decide) (by decide) k) ?_
  show Ends p e below s ROOM2.cells ROOM2.slots (Q2 Z a0 a1 k k' us h0 n0) (s₁.setTop (mkF m 125 #[.val (.ref a0), .val (.ref a1)] [(.int (1 : Int32))]))
  refine Ends.ret X0 (v := some (.int (nar .boolean (1 : Int32)))) (fun h => by rw [Bd.returns] at h; cases h) Bd.notSynchronized (fun fs hr => retN X0 hx (t := .boolean) Bd.returns (by simp) (hb hby d2_125) hr) ?_ (by decide) (by decide)
  exact ⟨rfl, N0, e0⟩
theorem pn_0 : plainName "com/example/sextant/sextant/ber/BerEncoderPutLengthPinLaw" = true := by first | (simp [plainName, overriddenIn]; done) | decide +kernel
theorem ef_0 (m : MethodId) (p0 : Int32) (p1 : Int32) (p2 : Int32) (p3 : Int32) : entryFrame m #[(.int p0), (.int p1), (.int p2), (.int p3)] maxLocals = mkF m 0 #[.val (.int p0), .val (.int p1), .val (.int p2), .val (.int p3), .unset, .unset, .unset, .unset, .unset, .unset, .unset, .unset] [] := by first | (simp [entryFrame, mkF, argsToLocals, Value.category, maxLocals]; done) | rfl
def Q0 (Z : State) (p0 : Int32) (p1 : Int32) (p2 : Int32) (p3 : Int32)  (h0 : Heap) (n0 : Nat) (v : Option Value) (h : Heap) (L : List Loc) : Prop := v = some (.int 1) ∧ Fr n0 L
set_option maxRecDepth 65536 in
set_option maxHeartbeats 40000000 in
theorem rm0 (l : Launch) (Z : State) (a0 : Array Value) (hw : ∀ d ∈ tables_1, d.before a0 Z = true) (ws : List Jvm.Cond) (p0 : Int32) (p1 : Int32) (p2 : Int32) (p3 : Int32)  (h0 : Heap) (n0 : Nat) (Z0 : n0 ≤ h0.size)  :
    MetFree l x (head1 (Jvm.Cond.code x code maxLocals ret :: ws) room_1) (fun a U => a = #[(.int p0), (.int p1), (.int p2), (.int p3)] ∧ Z.Warmed39 U.vm ∧ U.heap = h0) (fun _ _ _ _ _ => True) (fun _ U o U' => ∃ v L, o = .returned v ∧ Q0 Z p0 p1 p2 p3  h0 n0 v U'.heap L ∧ FrameEnd U o U' L 16 128) := by
  refine MetFree.of_bodySF (plainFor_of_name pn_0) hisR ?_
  intro p e s m args below meth c s₁ Bd hml0 hP hK
  obtain ⟨rfl, hZ, hh⟩ := hP
  have hx := Bd.exec
  have hby := Bd.bytes
  have hml : c.maxLocals = 12 := hml0
  have hown : s.vm.findClass "com/example/sextant/sextant/ber/BerEncoderPutLengthPinLaw" = some m.cls := findClass_of_methodNamed Bd.named
  have hnm := (name_of_methodNamed Bd.named Bd.method).1
  have X0 : Stand p l e room_1 s m #[(.int p0), (.int p1), (.int p2), (.int p3)] below meth c s₁ [] 0 0 := Stand.of_body Bd
  have e0 : s₁.heap = h0 := by rw [← hh, Bd.state]; rfl
  have N0 := Fr.nil n0
  refine Ends.via (A := s₁.setTop (mkF m 0 #[.val (.int p0), .val (.int p1), .val (.int p2), .val (.int p3), .unset, .unset, .unset, .unset, .unset, .unset, .unset, .unset] [])) (kc := 16) (ks := 128) (Q := (Q0 Z p0 p1 p2 p3  h0 n0)) (fun t k => castTop (ef_0 m p0 p1 p2 p3) k) ?_
  show Ends p e below s 16 128 (Q0 Z p0 p1 p2 p3  h0 n0) (s₁.setTop (mkF m 0 #[.val (.int p0), .val (.int p1), .val (.int p2), .val (.int p3), .unset, .unset, .unset, .unset, .unset, .unset, .unset, .unset] []))
  refine Ends.via (fun _ k => XS.iloadN X0.here hx rfl (hb hby at_0) rfl k) ?_
  show Ends p e below s 16 128 (Q0 Z p0 p1 p2 p3  h0 n0) (s₁.setTop (mkF m 1 #[.val (.int p0), .val (.int p1), .val (.int p2), .val (.int p3), .unset, .unset, .unset, .unset, .unset, .unset, .unset, .unset] [(.int p0)]))
  refine Ends.via (X0.ldcInt hx hown (mvT hZ (hw _ (List.mem_of_getElem? (i := 0) rfl))) (g := (mkF m 1 #[.val (.int p0), .val (.int p1), .val (.int p2), .val (.int p3), .unset, .unset, .unset, .unset, .unset, .unset, .unset, .unset] [(.int p0)])) rfl (hb hby at_1)) ?_
  show Ends p e below s 16 128 (Q0 Z p0 p1 p2 p3  h0 n0) (s₁.setTop (mkF m 3 #[.val (.int p0), .val (.int p1), .val (.int p2), .val (.int p3), .unset, .unset, .unset, .unset, .unset, .unset, .unset, .unset] [(.int (2147483647 : Int32)), (.int p0)]))
  refine Ends.via (fun _ k => XS.iand X0.here hx rfl (hb hby at_3) rfl k) ?_
  show Ends p e below s 16 128 (Q0 Z p0 p1 p2 p3  h0 n0) (s₁.setTop (mkF m 4 #[.val (.int p0), .val (.int p1), .val (.int p2), .val (.int p3), .unset, .unset, .unset, .unset, .unset, .unset, .unset, .unset] [(.int (p0 &&& (2147483647 : Int32)))]))
  refine Ends.via (fun _ k => XS.iloadN X0.here hx rfl (hb hby at_4) rfl k) ?_
  show Ends p e below s 16 128 (Q0 Z p0 p1 p2 p3  h0 n0) (s₁.setTop (mkF m 5 #[.val (.int p0), .val (.int p1), .val (.int p2), .val (.int p3), .unset, .unset, .unset, .unset, .unset, .unset, .unset, .unset] [(.int p1), (.int (p0 &&& (2147483647 : Int32)))]))
  refine Ends.via (fun _ k => XS.bipush X0.here hx rfl (hb hby at_5) k) ?_
  show Ends p e below s 16 128 (Q0 Z p0 p1 p2 p3  h0 n0) (s₁.setTop (mkF m 7 #[.val (.int p0), .val (.int p1), .val (.int p2), .val (.int p3), .unset, .unset, .unset, .unset, .unset, .unset, .unset, .unset] [(.int (31 : Int32)), (.int p1), (.int (p0 &&& (2147483647 : Int32)))]))
  refine Ends.via (fun _ k => XS.iand X0.here hx rfl (hb hby at_7) rfl k) ?_
  show Ends p e below s 16 128 (Q0 Z p0 p1 p2 p3  h0 n0) (s₁.setTop (mkF m 8 #[.val (.int p0), .val (.int p1), .val (.int p2), .val (.int p3), .unset, .unset, .unset, .unset, .unset, .unset, .unset, .unset] [(.int (p1 &&& (31 : Int32))), (.int (p0 &&& (2147483647 : Int32)))]))
  refine Ends.via (fun _ k => XS.iushr X0.here hx rfl (hb hby at_8) rfl k) ?_
  show Ends p e below s 16 128 (Q0 Z p0 p1 p2 p3  h0 n0) (s₁.setTop (mkF m 9 #[.val (.int p0), .val (.int p1), .val (.int p2), .val (.int p3), .unset, .unset, .unset, .unset, .unset, .unset, .unset, .unset] [(.int (((p0 &&& (2147483647 : Int32)).toUInt32 >>> ((p1 &&& (31 : Int32)) &&& 31).toUInt32).toInt32))]))
  refine Ends.via (fun _ k => XS.istore X0.here hx rfl (hb hby at_9) rfl (l' := #[.val (.int p0), .val (.int p1), .val (.int p2), .val (.int p3), .val (.int (((p0 &&& (2147483647 : Int32)).toUInt32 >>> ((p1 &&& (31 : Int32)) &&& 31).toUInt32).toInt32)), .unset, .unset, .unset, .unset, .unset, .unset, .unset]) rfl k) ?_
  show Ends p e below s 16 128 (Q0 Z p0 p1 p2 p3  h0 n0) (s₁.setTop (mkF m 11 #[.val (.int p0), .val (.int p1), .val (.int p2), .val (.int p3), .val (.int (((p0 &&& (2147483647 : Int32)).toUInt32 >>> ((p1 &&& (31 : Int32)) &&& 31).toUInt32).toInt32)), .unset, .unset, .unset, .unset, .unset, .unset, .unset] []))
  generalize hv1 : (((p0 &&& (2147483647 : Int32)).toUInt32 >>> ((p1 &&& (31 : Int32)) &&& 31).toUInt32).toInt32) = v1
  refine Ends.via (fun _ k => XS.iloadN X0.here hx rfl (hb hby at_11) rfl k) ?_
  show Ends p e below s 16 128 (Q0 Z p0 p1 p2 p3  h0 n0) (s₁.setTop (mkF m 12 #[.val (.int p0), .val (.int p1), .val (.int p2), .val (.int p3), .val (.int v1), .unset, .unset, .unset, .unset, .unset, .unset, .unset] [(.int p2)]))
  refine Ends.via (fun _ k => XS.bipush X0.here hx rfl (hb hby at_12) k) ?_
  show Ends p e below s 16 128 (Q0 Z p0 p1 p2 p3  h0 n0) (s₁.setTop (mkF m 14 #[.val (.int p0), .val (.int p1), .val (.int p2), .val (.int p3), .val (.int v1), .unset, .unset, .unset, .unset, .unset, .unset, .unset] [(.int (7 : Int32)), (.int p2)]))
  refine Ends.via (fun _ k => XS.iand X0.here hx rfl (hb hby at_14) rfl k) ?_
  show Ends p e below s 16 128 (Q0 Z p0 p1 p2 p3  h0 n0) (s₁.setTop (mkF m 15 #[.val (.int p0), .val (.int p1), .val (.int p2), .val (.int p3), .val (.int v1), .unset, .unset, .unset, .unset, .unset, .unset, .unset] [(.int (p2 &&& (7 : Int32)))]))
  refine Ends.via (fun _ k => XS.istore X0.here hx rfl (hb hby at_15) rfl (l' := #[.val (.int p0), .val (.int p1), .val (.int p2), .val (.int p3), .val (.int v1), .val (.int (p2 &&& (7 : Int32))), .unset, .unset, .unset, .unset, .unset, .unset]) rfl k) ?_
  show Ends p e below s 16 128 (Q0 Z p0 p1 p2 p3  h0 n0) (s₁.setTop (mkF m 17 #[.val (.int p0), .val (.int p1), .val (.int p2), .val (.int p3), .val (.int v1), .val (.int (p2 &&& (7 : Int32))), .unset, .unset, .unset, .unset, .unset, .unset] []))
  generalize hv2 : (p2 &&& (7 : Int32)) = v2
  refine Ends.via (fun _ k => XS.iloadN X0.here hx rfl (hb hby at_17) rfl k) ?_
  show Ends p e below s 16 128 (Q0 Z p0 p1 p2 p3  h0 n0) (s₁.setTop (mkF m 18 #[.val (.int p0), .val (.int p1), .val (.int p2), .val (.int p3), .val (.int v1), .val (.int v2), .unset, .unset, .unset, .unset, .unset, .unset] [(.int p3)]))
  refine Ends.via (fun _ k => XS.i2b X0.here hx rfl (hb hby at_18) rfl k) ?_
  show Ends p e below s 16 128 (Q0 Z p0 p1 p2 p3  h0 n0) (s₁.setTop (mkF m 19 #[.val (.int p0), .val (.int p1), .val (.int p2), .val (.int p3), .val (.int v1), .val (.int v2), .unset, .unset, .unset, .unset, .unset, .unset] [(.int (p3.toInt8.toInt32))]))
  refine Ends.via (fun _ k => XS.istore X0.here hx rfl (hb hby at_19) rfl (l' := #[.val (.int p0), .val (.int p1), .val (.int p2), .val (.int p3), .val (.int v1), .val (.int v2), .val (.int (p3.toInt8.toInt32)), .unset, .unset, .unset, .unset, .unset]) rfl k) ?_
  show Ends p e below s 16 128 (Q0 Z p0 p1 p2 p3  h0 n0) (s₁.setTop (mkF m 21 #[.val (.int p0), .val (.int p1), .val (.int p2), .val (.int p3), .val (.int v1), .val (.int v2), .val (.int (p3.toInt8.toInt32)), .unset, .unset, .unset, .unset, .unset] []))
  generalize hv3 : (p3.toInt8.toInt32) = v3
  refine Ends.via (fun _ k => XS.bipush X0.here hx rfl (hb hby at_21) k) ?_
  show Ends p e below s 16 128 (Q0 Z p0 p1 p2 p3  h0 n0) (s₁.setTop (mkF m 23 #[.val (.int p0), .val (.int p1), .val (.int p2), .val (.int p3), .val (.int v1), .val (.int v2), .val (.int v3), .unset, .unset, .unset, .unset, .unset] [(.int (12 : Int32))]))
  obtain ⟨T4, h4, k4, X4, e4, E4, A4, st4⟩ := newP X0 hx hZ (hw _ (List.mem_of_getElem? (i := 1) rfl)) e0 (g := (mkF m 23 #[.val (.int p0), .val (.int p1), .val (.int p2), .val (.int p3), .val (.int v1), .val (.int v2), .val (.int v3), .unset, .unset, .unset, .unset, .unset] [(.int (12 : Int32))])) rfl (hb hby at_23) rfl (by decide) (cap := 12) (by decide) (by decide) (by decide) (by decide)
  obtain ⟨b4, g4⟩ : ∃ z, z = h0.size := ⟨_, rfl⟩
  rw [← g4] at A4 st4
  have g_b4 : n0 ≤ b4 := Nat.le_trans Z0 (Nat.le_of_eq g4.symm)
  have Z4 : n0 ≤ h4.size := Nat.le_trans Z0 E4.1
  have V4 : Arv Z h4 b4 k4 .byte (12 : Int32) [(.int (0 : Int32)), (.int (0 : Int32)), (.int (0 : Int32)), (.int (0 : Int32)), (.int (0 : Int32)), (.int (0 : Int32)), (.int (0 : Int32)), (.int (0 : Int32)), (.int (0 : Int32)), (.int (0 : Int32)), (.int (0 : Int32)), (.int (0 : Int32))] (.int (0 : Int32)) := (Arv.new A4 (by decide)).pad (pad_rep [] (.int (0 : Int32)) 12)
  have B4 : own_B Z h4 b4 k4 own_zero := ⟨V4, rfl⟩
  refine Ends.via st4 ?_
  show Ends p e below s 16 128 (Q0 Z p0 p1 p2 p3  h0 n0) (T4.setTop (mkF m 25 #[.val (.int p0), .val (.int p1), .val (.int p2), .val (.int p3), .val (.int v1), .val (.int v2), .val (.int v3), .unset, .unset, .unset, .unset, .unset] [(.ref b4)]))
  refine Ends.via (fun _ k => XS.dup X4.here hx rfl (hb hby at_25) rfl rfl k) ?_
  show Ends p e below s 16 128 (Q0 Z p0 p1 p2 p3  h0 n0) (T4.setTop (mkF m 26 #[.val (.int p0), .val (.int p1), .val (.int p2), .val (.int p3), .val (.int v1), .val (.int v2), .val (.int v3), .unset, .unset, .unset, .unset, .unset] [(.ref b4), (.ref b4)]))
  refine Ends.via (fun _ k => XS.iconst X4.here hx rfl (hb hby at_26) k) ?_
  show Ends p e below s 16 128 (Q0 Z p0 p1 p2 p3  h0 n0) (T4.setTop (mkF m 27 #[.val (.int p0), .val (.int p1), .val (.int p2), .val (.int p3), .val (.int v1), .val (.int v2), .val (.int v3), .unset, .unset, .unset, .unset, .unset] [(.int (0 : Int32)), (.ref b4), (.ref b4)]))
  refine Ends.via (fun _ k => XS.iload X4.here hx rfl (hb hby at_27) rfl k) ?_
  show Ends p e below s 16 128 (Q0 Z p0 p1 p2 p3  h0 n0) (T4.setTop (mkF m 29 #[.val (.int p0), .val (.int p1), .val (.int p2), .val (.int p3), .val (.int v1), .val (.int v2), .val (.int v3), .unset, .unset, .unset, .unset, .unset] [(.int v3), (.int (0 : Int32)), (.ref b4), (.ref b4)]))
  obtain ⟨T5, h5, X5, e5, W5, B5, st5⟩ := own_stB X4 hx hZ e4 B4 (j := (0 : Int32)) ⟨by decide, by decide⟩ (g := (mkF m 29 #[.val (.int p0), .val (.int p1), .val (.int p2), .val (.int p3), .val (.int v1), .val (.int v2), .val (.int v3), .unset, .unset, .unset, .unset, .unset] [(.int v3), (.int (0 : Int32)), (.ref b4), (.ref b4)])) rfl rfl (hb hby at_29)
  have Z5 : n0 ≤ h5.size := Nat.le_trans Z4 (Keep.of_wr W5).1
  have N5 := Fr.snoc X5 N0 g_b4
  refine Ends.via st5 ?_
  show Ends p e below s 16 128 (Q0 Z p0 p1 p2 p3  h0 n0) (T5.setTop (mkF m 30 #[.val (.int p0), .val (.int p1), .val (.int p2), .val (.int p3), .val (.int v1), .val (.int v2), .val (.int v3), .unset, .unset, .unset, .unset, .unset] [(.ref b4)]))
  refine Ends.via (fun _ k => XS.dup X5.here hx rfl (hb hby at_30) rfl rfl k) ?_
  show Ends p e below s 16 128 (Q0 Z p0 p1 p2 p3  h0 n0) (T5.setTop (mkF m 31 #[.val (.int p0), .val (.int p1), .val (.int p2), .val (.int p3), .val (.int v1), .val (.int v2), .val (.int v3), .unset, .unset, .unset, .unset, .unset] [(.ref b4), (.ref b4)]))
  refine Ends.via (fun _ k => XS.iconst X5.here hx rfl (hb hby at_31) k) ?_
  show Ends p e below s 16 128 (Q0 Z p0 p1 p2 p3  h0 n0) (T5.setTop (mkF m 32 #[.val (.int p0), .val (.int p1), .val (.int p2), .val (.int p3), .val (.int v1), .val (.int v2), .val (.int v3), .unset, .unset, .unset, .unset, .unset] [(.int (1 : Int32)), (.ref b4), (.ref b4)]))
  refine Ends.via (fun _ k => XS.iload X5.here hx rfl (hb hby at_32) rfl k) ?_
  show Ends p e below s 16 128 (Q0 Z p0 p1 p2 p3  h0 n0) (T5.setTop (mkF m 34 #[.val (.int p0), .val (.int p1), .val (.int p2), .val (.int p3), .val (.int v1), .val (.int v2), .val (.int v3), .unset, .unset, .unset, .unset, .unset] [(.int v3), (.int (1 : Int32)), (.ref b4), (.ref b4)]))
  obtain ⟨T6, h6, X6, e6, W6, B6, st6⟩ := own_stB X5 hx hZ e5 B5 (j := (1 : Int32)) ⟨by decide, by decide⟩ (g := (mkF m 34 #[.val (.int p0), .val (.int p1), .val (.int p2), .val (.int p3), .val (.int v1), .val (.int v2), .val (.int v3), .unset, .unset, .unset, .unset, .unset] [(.int v3), (.int (1 : Int32)), (.ref b4), (.ref b4)])) rfl rfl (hb hby at_34)
  have Z6 : n0 ≤ h6.size := Nat.le_trans Z5 (Keep.of_wr W6).1
  have N6 := Fr.snoc X6 N5 g_b4
  refine Ends.via st6 ?_
  show Ends p e below s 16 128 (Q0 Z p0 p1 p2 p3  h0 n0) (T6.setTop (mkF m 35 #[.val (.int p0), .val (.int p1), .val (.int p2), .val (.int p3), .val (.int v1), .val (.int v2), .val (.int v3), .unset, .unset, .unset, .unset, .unset] [(.ref b4)]))
  refine Ends.via (fun _ k => XS.dup X6.here hx rfl (hb hby at_35) rfl rfl k) ?_
  show Ends p e below s 16 128 (Q0 Z p0 p1 p2 p3  h0 n0) (T6.setTop (mkF m 36 #[.val (.int p0), .val (.int p1), .val (.int p2), .val (.int p3), .val (.int v1), .val (.int v2), .val (.int v3), .unset, .unset, .unset, .unset, .unset] [(.ref b4), (.ref b4)]))
  refine Ends.via (fun _ k => XS.iconst X6.here hx rfl (hb hby at_36) k) ?_
  show Ends p e below s 16 128 (Q0 Z p0 p1 p2 p3  h0 n0) (T6.setTop (mkF m 37 #[.val (.int p0), .val (.int p1), .val (.int p2), .val (.int p3), .val (.int v1), .val (.int v2), .val (.int v3), .unset, .unset, .unset, .unset, .unset] [(.int (2 : Int32)), (.ref b4), (.ref b4)]))
  refine Ends.via (fun _ k => XS.iload X6.here hx rfl (hb hby at_37) rfl k) ?_
  show Ends p e below s 16 128 (Q0 Z p0 p1 p2 p3  h0 n0) (T6.setTop (mkF m 39 #[.val (.int p0), .val (.int p1), .val (.int p2), .val (.int p3), .val (.int v1), .val (.int v2), .val (.int v3), .unset, .unset, .unset, .unset, .unset] [(.int v3), (.int (2 : Int32)), (.ref b4), (.ref b4)]))
  obtain ⟨T7, h7, X7, e7, W7, B7, st7⟩ := own_stB X6 hx hZ e6 B6 (j := (2 : Int32)) ⟨by decide, by decide⟩ (g := (mkF m 39 #[.val (.int p0), .val (.int p1), .val (.int p2), .val (.int p3), .val (.int v1), .val (.int v2), .val (.int v3), .unset, .unset, .unset, .unset, .unset] [(.int v3), (.int (2 : Int32)), (.ref b4), (.ref b4)])) rfl rfl (hb hby at_39)
  have Z7 : n0 ≤ h7.size := Nat.le_trans Z6 (Keep.of_wr W7).1
  have N7 := Fr.snoc X7 N6 g_b4
  refine Ends.via st7 ?_
  show Ends p e below s 16 128 (Q0 Z p0 p1 p2 p3  h0 n0) (T7.setTop (mkF m 40 #[.val (.int p0), .val (.int p1), .val (.int p2), .val (.int p3), .val (.int v1), .val (.int v2), .val (.int v3), .unset, .unset, .unset, .unset, .unset] [(.ref b4)]))
  refine Ends.via (fun _ k => XS.dup X7.here hx rfl (hb hby at_40) rfl rfl k) ?_
  show Ends p e below s 16 128 (Q0 Z p0 p1 p2 p3  h0 n0) (T7.setTop (mkF m 41 #[.val (.int p0), .val (.int p1), .val (.int p2), .val (.int p3), .val (.int v1), .val (.int v2), .val (.int v3), .unset, .unset, .unset, .unset, .unset] [(.ref b4), (.ref b4)]))
  refine Ends.via (fun _ k => XS.iconst X7.here hx rfl (hb hby at_41) k) ?_
  show Ends p e below s 16 128 (Q0 Z p0 p1 p2 p3  h0 n0) (T7.setTop (mkF m 42 #[.val (.int p0), .val (.int p1), .val (.int p2), .val (.int p3), .val (.int v1), .val (.int v2), .val (.int v3), .unset, .unset, .unset, .unset, .unset] [(.int (3 : Int32)), (.ref b4), (.ref b4)]))
  refine Ends.via (fun _ k => XS.iload X7.here hx rfl (hb hby at_42) rfl k) ?_
  show Ends p e below s 16 128 (Q0 Z p0 p1 p2 p3  h0 n0) (T7.setTop (mkF m 44 #[.val (.int p0), .val (.int p1), .val (.int p2), .val (.int p3), .val (.int v1), .val (.int v2), .val (.int v3), .unset, .unset, .unset, .unset, .unset] [(.int v3), (.int (3 : Int32)), (.ref b4), (.ref b4)]))
  obtain ⟨T8, h8, X8, e8, W8, B8, st8⟩ := own_stB X7 hx hZ e7 B7 (j := (3 : Int32)) ⟨by decide, by decide⟩ (g := (mkF m 44 #[.val (.int p0), .val (.int p1), .val (.int p2), .val (.int p3), .val (.int v1), .val (.int v2), .val (.int v3), .unset, .unset, .unset, .unset, .unset] [(.int v3), (.int (3 : Int32)), (.ref b4), (.ref b4)])) rfl rfl (hb hby at_44)
  have Z8 : n0 ≤ h8.size := Nat.le_trans Z7 (Keep.of_wr W8).1
  have N8 := Fr.snoc X8 N7 g_b4
  refine Ends.via st8 ?_
  show Ends p e below s 16 128 (Q0 Z p0 p1 p2 p3  h0 n0) (T8.setTop (mkF m 45 #[.val (.int p0), .val (.int p1), .val (.int p2), .val (.int p3), .val (.int v1), .val (.int v2), .val (.int v3), .unset, .unset, .unset, .unset, .unset] [(.ref b4)]))
  refine Ends.via (fun _ k => XS.dup X8.here hx rfl (hb hby at_45) rfl rfl k) ?_
  show Ends p e below s 16 128 (Q0 Z p0 p1 p2 p3  h0 n0) (T8.setTop (mkF m 46 #[.val (.int p0), .val (.int p1), .val (.int p2), .val (.int p3), .val (.int v1), .val (.int v2), .val (.int v3), .unset, .unset, .unset, .unset, .unset] [(.ref b4), (.ref b4)]))
  refine Ends.via (fun _ k => XS.iconst X8.here hx rfl (hb hby at_46) k) ?_
  show Ends p e below s 16 128 (Q0 Z p0 p1 p2 p3  h0 n0) (T8.setTop (mkF m 47 #[.val (.int p0), .val (.int p1), .val (.int p2), .val (.int p3), .val (.int v1), .val (.int v2), .val (.int v3), .unset, .unset, .unset, .unset, .unset] [(.int (4 : Int32)), (.ref b4), (.ref b4)]))
  refine Ends.via (fun _ k => XS.iload X8.here hx rfl (hb hby at_47) rfl k) ?_
  show Ends p e below s 16 128 (Q0 Z p0 p1 p2 p3  h0 n0) (T8.setTop (mkF m 49 #[.val (.int p0), .val (.int p1), .val (.int p2), .val (.int p3), .val (.int v1), .val (.int v2), .val (.int v3), .unset, .unset, .unset, .unset, .unset] [(.int v3), (.int (4 : Int32)), (.ref b4), (.ref b4)]))
  obtain ⟨T9, h9, X9, e9, W9, B9, st9⟩ := own_stB X8 hx hZ e8 B8 (j := (4 : Int32)) ⟨by decide, by decide⟩ (g := (mkF m 49 #[.val (.int p0), .val (.int p1), .val (.int p2), .val (.int p3), .val (.int v1), .val (.int v2), .val (.int v3), .unset, .unset, .unset, .unset, .unset] [(.int v3), (.int (4 : Int32)), (.ref b4), (.ref b4)])) rfl rfl (hb hby at_49)
  have Z9 : n0 ≤ h9.size := Nat.le_trans Z8 (Keep.of_wr W9).1
  have N9 := Fr.snoc X9 N8 g_b4
  refine Ends.via st9 ?_
  show Ends p e below s 16 128 (Q0 Z p0 p1 p2 p3  h0 n0) (T9.setTop (mkF m 50 #[.val (.int p0), .val (.int p1), .val (.int p2), .val (.int p3), .val (.int v1), .val (.int v2), .val (.int v3), .unset, .unset, .unset, .unset, .unset] [(.ref b4)]))
  refine Ends.via (fun _ k => XS.dup X9.here hx rfl (hb hby at_50) rfl rfl k) ?_
  show Ends p e below s 16 128 (Q0 Z p0 p1 p2 p3  h0 n0) (T9.setTop (mkF m 51 #[.val (.int p0), .val (.int p1), .val (.int p2), .val (.int p3), .val (.int v1), .val (.int v2), .val (.int v3), .unset, .unset, .unset, .unset, .unset] [(.ref b4), (.ref b4)]))
  refine Ends.via (fun _ k => XS.iconst X9.here hx rfl (hb hby at_51) k) ?_
  show Ends p e below s 16 128 (Q0 Z p0 p1 p2 p3  h0 n0) (T9.setTop (mkF m 52 #[.val (.int p0), .val (.int p1), .val (.int p2), .val (.int p3), .val (.int v1), .val (.int v2), .val (.int v3), .unset, .unset, .unset, .unset, .unset] [(.int (5 : Int32)), (.ref b4), (.ref b4)]))
  refine Ends.via (fun _ k => XS.iload X9.here hx rfl (hb hby at_52) rfl k) ?_
  show Ends p e below s 16 128 (Q0 Z p0 p1 p2 p3  h0 n0) (T9.setTop (mkF m 54 #[.val (.int p0), .val (.int p1), .val (.int p2), .val (.int p3), .val (.int v1), .val (.int v2), .val (.int v3), .unset, .unset, .unset, .unset, .unset] [(.int v3), (.int (5 : Int32)), (.ref b4), (.ref b4)]))
  obtain ⟨T10, h10, X10, e10, W10, B10, st10⟩ := own_stB X9 hx hZ e9 B9 (j := (5 : Int32)) ⟨by decide, by decide⟩ (g := (mkF m 54 #[.val (.int p0), .val (.int p1), .val (.int p2), .val (.int p3), .val (.int v1), .val (.int v2), .val (.int v3), .unset, .unset, .unset, .unset, .unset] [(.int v3), (.int (5 : Int32)), (.ref b4), (.ref b4)])) rfl rfl (hb hby at_54)
  have Z10 : n0 ≤ h10.size := Nat.le_trans Z9 (Keep.of_wr W10).1
  have N10 := Fr.snoc X10 N9 g_b4
  refine Ends.via st10 ?_
  show Ends p e below s 16 128 (Q0 Z p0 p1 p2 p3  h0 n0) (T10.setTop (mkF m 55 #[.val (.int p0), .val (.int p1), .val (.int p2), .val (.int p3), .val (.int v1), .val (.int v2), .val (.int v3), .unset, .unset, .unset, .unset, .unset] [(.ref b4)]))
  refine Ends.via (fun _ k => XS.dup X10.here hx rfl (hb hby at_55) rfl rfl k) ?_
  show Ends p e below s 16 128 (Q0 Z p0 p1 p2 p3  h0 n0) (T10.setTop (mkF m 56 #[.val (.int p0), .val (.int p1), .val (.int p2), .val (.int p3), .val (.int v1), .val (.int v2), .val (.int v3), .unset, .unset, .unset, .unset, .unset] [(.ref b4), (.ref b4)]))
  refine Ends.via (fun _ k => XS.bipush X10.here hx rfl (hb hby at_56) k) ?_
  show Ends p e below s 16 128 (Q0 Z p0 p1 p2 p3  h0 n0) (T10.setTop (mkF m 58 #[.val (.int p0), .val (.int p1), .val (.int p2), .val (.int p3), .val (.int v1), .val (.int v2), .val (.int v3), .unset, .unset, .unset, .unset, .unset] [(.int (6 : Int32)), (.ref b4), (.ref b4)]))
  refine Ends.via (fun _ k => XS.iload X10.here hx rfl (hb hby at_58) rfl k) ?_
  show Ends p e below s 16 128 (Q0 Z p0 p1 p2 p3  h0 n0) (T10.setTop (mkF m 60 #[.val (.int p0), .val (.int p1), .val (.int p2), .val (.int p3), .val (.int v1), .val (.int v2), .val (.int v3), .unset, .unset, .unset, .unset, .unset] [(.int v3), (.int (6 : Int32)), (.ref b4), (.ref b4)]))
  obtain ⟨T11, h11, X11, e11, W11, B11, st11⟩ := own_stB X10 hx hZ e10 B10 (j := (6 : Int32)) ⟨by decide, by decide⟩ (g := (mkF m 60 #[.val (.int p0), .val (.int p1), .val (.int p2), .val (.int p3), .val (.int v1), .val (.int v2), .val (.int v3), .unset, .unset, .unset, .unset, .unset] [(.int v3), (.int (6 : Int32)), (.ref b4), (.ref b4)])) rfl rfl (hb hby at_60)
  have Z11 : n0 ≤ h11.size := Nat.le_trans Z10 (Keep.of_wr W11).1
  have N11 := Fr.snoc X11 N10 g_b4
  refine Ends.via st11 ?_
  show Ends p e below s 16 128 (Q0 Z p0 p1 p2 p3  h0 n0) (T11.setTop (mkF m 61 #[.val (.int p0), .val (.int p1), .val (.int p2), .val (.int p3), .val (.int v1), .val (.int v2), .val (.int v3), .unset, .unset, .unset, .unset, .unset] [(.ref b4)]))
  refine Ends.via (fun _ k => XS.dup X11.here hx rfl (hb hby at_61) rfl rfl k) ?_
  show Ends p e below s 16 128 (Q0 Z p0 p1 p2 p3  h0 n0) (T11.setTop (mkF m 62 #[.val (.int p0), .val (.int p1), .val (.int p2), .val (.int p3), .val (.int v1), .val (.int v2), .val (.int v3), .unset, .unset, .unset, .unset, .unset] [(.ref b4), (.ref b4)]))
  refine Ends.via (fun _ k => XS.bipush X11.here hx rfl (hb hby at_62) k) ?_
  show Ends p e below s 16 128 (Q0 Z p0 p1 p2 p3  h0 n0) (T11.setTop (mkF m 64 #[.val (.int p0), .val (.int p1), .val (.int p2), .val (.int p3), .val (.int v1), .val (.int v2), .val (.int v3), .unset, .unset, .unset, .unset, .unset] [(.int (7 : Int32)), (.ref b4), (.ref b4)]))
  refine Ends.via (fun _ k => XS.iload X11.here hx rfl (hb hby at_64) rfl k) ?_
  show Ends p e below s 16 128 (Q0 Z p0 p1 p2 p3  h0 n0) (T11.setTop (mkF m 66 #[.val (.int p0), .val (.int p1), .val (.int p2), .val (.int p3), .val (.int v1), .val (.int v2), .val (.int v3), .unset, .unset, .unset, .unset, .unset] [(.int v3), (.int (7 : Int32)), (.ref b4), (.ref b4)]))
  obtain ⟨T12, h12, X12, e12, W12, B12, st12⟩ := own_stB X11 hx hZ e11 B11 (j := (7 : Int32)) ⟨by decide, by decide⟩ (g := (mkF m 66 #[.val (.int p0), .val (.int p1), .val (.int p2), .val (.int p3), .val (.int v1), .val (.int v2), .val (.int v3), .unset, .unset, .unset, .unset, .unset] [(.int v3), (.int (7 : Int32)), (.ref b4), (.ref b4)])) rfl rfl (hb hby at_66)
  have Z12 : n0 ≤ h12.size := Nat.le_trans Z11 (Keep.of_wr W12).1
  have N12 := Fr.snoc X12 N11 g_b4
  refine Ends.via st12 ?_
  show Ends p e below s 16 128 (Q0 Z p0 p1 p2 p3  h0 n0) (T12.setTop (mkF m 67 #[.val (.int p0), .val (.int p1), .val (.int p2), .val (.int p3), .val (.int v1), .val (.int v2), .val (.int v3), .unset, .unset, .unset, .unset, .unset] [(.ref b4)]))
  refine Ends.via (fun _ k => XS.dup X12.here hx rfl (hb hby at_67) rfl rfl k) ?_
  show Ends p e below s 16 128 (Q0 Z p0 p1 p2 p3  h0 n0) (T12.setTop (mkF m 68 #[.val (.int p0), .val (.int p1), .val (.int p2), .val (.int p3), .val (.int v1), .val (.int v2), .val (.int v3), .unset, .unset, .unset, .unset, .unset] [(.ref b4), (.ref b4)]))
  refine Ends.via (fun _ k => XS.bipush X12.here hx rfl (hb hby at_68) k) ?_
  show Ends p e below s 16 128 (Q0 Z p0 p1 p2 p3  h0 n0) (T12.setTop (mkF m 70 #[.val (.int p0), .val (.int p1), .val (.int p2), .val (.int p3), .val (.int v1), .val (.int v2), .val (.int v3), .unset, .unset, .unset, .unset, .unset] [(.int (8 : Int32)), (.ref b4), (.ref b4)]))
  refine Ends.via (fun _ k => XS.iload X12.here hx rfl (hb hby at_70) rfl k) ?_
  show Ends p e below s 16 128 (Q0 Z p0 p1 p2 p3  h0 n0) (T12.setTop (mkF m 72 #[.val (.int p0), .val (.int p1), .val (.int p2), .val (.int p3), .val (.int v1), .val (.int v2), .val (.int v3), .unset, .unset, .unset, .unset, .unset] [(.int v3), (.int (8 : Int32)), (.ref b4), (.ref b4)]))
  obtain ⟨T13, h13, X13, e13, W13, B13, st13⟩ := own_stB X12 hx hZ e12 B12 (j := (8 : Int32)) ⟨by decide, by decide⟩ (g := (mkF m 72 #[.val (.int p0), .val (.int p1), .val (.int p2), .val (.int p3), .val (.int v1), .val (.int v2), .val (.int v3), .unset, .unset, .unset, .unset, .unset] [(.int v3), (.int (8 : Int32)), (.ref b4), (.ref b4)])) rfl rfl (hb hby at_72)
  have Z13 : n0 ≤ h13.size := Nat.le_trans Z12 (Keep.of_wr W13).1
  have N13 := Fr.snoc X13 N12 g_b4
  refine Ends.via st13 ?_
  show Ends p e below s 16 128 (Q0 Z p0 p1 p2 p3  h0 n0) (T13.setTop (mkF m 73 #[.val (.int p0), .val (.int p1), .val (.int p2), .val (.int p3), .val (.int v1), .val (.int v2), .val (.int v3), .unset, .unset, .unset, .unset, .unset] [(.ref b4)]))
  refine Ends.via (fun _ k => XS.dup X13.here hx rfl (hb hby at_73) rfl rfl k) ?_
  show Ends p e below s 16 128 (Q0 Z p0 p1 p2 p3  h0 n0) (T13.setTop (mkF m 74 #[.val (.int p0), .val (.int p1), .val (.int p2), .val (.int p3), .val (.int v1), .val (.int v2), .val (.int v3), .unset, .unset, .unset, .unset, .unset] [(.ref b4), (.ref b4)]))
  refine Ends.via (fun _ k => XS.bipush X13.here hx rfl (hb hby at_74) k) ?_
  show Ends p e below s 16 128 (Q0 Z p0 p1 p2 p3  h0 n0) (T13.setTop (mkF m 76 #[.val (.int p0), .val (.int p1), .val (.int p2), .val (.int p3), .val (.int v1), .val (.int v2), .val (.int v3), .unset, .unset, .unset, .unset, .unset] [(.int (9 : Int32)), (.ref b4), (.ref b4)]))
  refine Ends.via (fun _ k => XS.iload X13.here hx rfl (hb hby at_76) rfl k) ?_
  show Ends p e below s 16 128 (Q0 Z p0 p1 p2 p3  h0 n0) (T13.setTop (mkF m 78 #[.val (.int p0), .val (.int p1), .val (.int p2), .val (.int p3), .val (.int v1), .val (.int v2), .val (.int v3), .unset, .unset, .unset, .unset, .unset] [(.int v3), (.int (9 : Int32)), (.ref b4), (.ref b4)]))
  obtain ⟨T14, h14, X14, e14, W14, B14, st14⟩ := own_stB X13 hx hZ e13 B13 (j := (9 : Int32)) ⟨by decide, by decide⟩ (g := (mkF m 78 #[.val (.int p0), .val (.int p1), .val (.int p2), .val (.int p3), .val (.int v1), .val (.int v2), .val (.int v3), .unset, .unset, .unset, .unset, .unset] [(.int v3), (.int (9 : Int32)), (.ref b4), (.ref b4)])) rfl rfl (hb hby at_78)
  have Z14 : n0 ≤ h14.size := Nat.le_trans Z13 (Keep.of_wr W14).1
  have N14 := Fr.snoc X14 N13 g_b4
  refine Ends.via st14 ?_
  show Ends p e below s 16 128 (Q0 Z p0 p1 p2 p3  h0 n0) (T14.setTop (mkF m 79 #[.val (.int p0), .val (.int p1), .val (.int p2), .val (.int p3), .val (.int v1), .val (.int v2), .val (.int v3), .unset, .unset, .unset, .unset, .unset] [(.ref b4)]))
  refine Ends.via (fun _ k => XS.dup X14.here hx rfl (hb hby at_79) rfl rfl k) ?_
  show Ends p e below s 16 128 (Q0 Z p0 p1 p2 p3  h0 n0) (T14.setTop (mkF m 80 #[.val (.int p0), .val (.int p1), .val (.int p2), .val (.int p3), .val (.int v1), .val (.int v2), .val (.int v3), .unset, .unset, .unset, .unset, .unset] [(.ref b4), (.ref b4)]))
  refine Ends.via (fun _ k => XS.bipush X14.here hx rfl (hb hby at_80) k) ?_
  show Ends p e below s 16 128 (Q0 Z p0 p1 p2 p3  h0 n0) (T14.setTop (mkF m 82 #[.val (.int p0), .val (.int p1), .val (.int p2), .val (.int p3), .val (.int v1), .val (.int v2), .val (.int v3), .unset, .unset, .unset, .unset, .unset] [(.int (10 : Int32)), (.ref b4), (.ref b4)]))
  refine Ends.via (fun _ k => XS.iload X14.here hx rfl (hb hby at_82) rfl k) ?_
  show Ends p e below s 16 128 (Q0 Z p0 p1 p2 p3  h0 n0) (T14.setTop (mkF m 84 #[.val (.int p0), .val (.int p1), .val (.int p2), .val (.int p3), .val (.int v1), .val (.int v2), .val (.int v3), .unset, .unset, .unset, .unset, .unset] [(.int v3), (.int (10 : Int32)), (.ref b4), (.ref b4)]))
  obtain ⟨T15, h15, X15, e15, W15, B15, st15⟩ := own_stB X14 hx hZ e14 B14 (j := (10 : Int32)) ⟨by decide, by decide⟩ (g := (mkF m 84 #[.val (.int p0), .val (.int p1), .val (.int p2), .val (.int p3), .val (.int v1), .val (.int v2), .val (.int v3), .unset, .unset, .unset, .unset, .unset] [(.int v3), (.int (10 : Int32)), (.ref b4), (.ref b4)])) rfl rfl (hb hby at_84)
  have Z15 : n0 ≤ h15.size := Nat.le_trans Z14 (Keep.of_wr W15).1
  have N15 := Fr.snoc X15 N14 g_b4
  refine Ends.via st15 ?_
  show Ends p e below s 16 128 (Q0 Z p0 p1 p2 p3  h0 n0) (T15.setTop (mkF m 85 #[.val (.int p0), .val (.int p1), .val (.int p2), .val (.int p3), .val (.int v1), .val (.int v2), .val (.int v3), .unset, .unset, .unset, .unset, .unset] [(.ref b4)]))
  refine Ends.via (fun _ k => XS.dup X15.here hx rfl (hb hby at_85) rfl rfl k) ?_
  show Ends p e below s 16 128 (Q0 Z p0 p1 p2 p3  h0 n0) (T15.setTop (mkF m 86 #[.val (.int p0), .val (.int p1), .val (.int p2), .val (.int p3), .val (.int v1), .val (.int v2), .val (.int v3), .unset, .unset, .unset, .unset, .unset] [(.ref b4), (.ref b4)]))
  refine Ends.via (fun _ k => XS.bipush X15.here hx rfl (hb hby at_86) k) ?_
  show Ends p e below s 16 128 (Q0 Z p0 p1 p2 p3  h0 n0) (T15.setTop (mkF m 88 #[.val (.int p0), .val (.int p1), .val (.int p2), .val (.int p3), .val (.int v1), .val (.int v2), .val (.int v3), .unset, .unset, .unset, .unset, .unset] [(.int (11 : Int32)), (.ref b4), (.ref b4)]))
  refine Ends.via (fun _ k => XS.iload X15.here hx rfl (hb hby at_88) rfl k) ?_
  show Ends p e below s 16 128 (Q0 Z p0 p1 p2 p3  h0 n0) (T15.setTop (mkF m 90 #[.val (.int p0), .val (.int p1), .val (.int p2), .val (.int p3), .val (.int v1), .val (.int v2), .val (.int v3), .unset, .unset, .unset, .unset, .unset] [(.int v3), (.int (11 : Int32)), (.ref b4), (.ref b4)]))
  obtain ⟨T16, h16, X16, e16, W16, B16, st16⟩ := own_stB X15 hx hZ e15 B15 (j := (11 : Int32)) ⟨by decide, by decide⟩ (g := (mkF m 90 #[.val (.int p0), .val (.int p1), .val (.int p2), .val (.int p3), .val (.int v1), .val (.int v2), .val (.int v3), .unset, .unset, .unset, .unset, .unset] [(.int v3), (.int (11 : Int32)), (.ref b4), (.ref b4)])) rfl rfl (hb hby at_90)
  have Z16 : n0 ≤ h16.size := Nat.le_trans Z15 (Keep.of_wr W16).1
  have N16 := Fr.snoc X16 N15 g_b4
  refine Ends.via st16 ?_
  show Ends p e below s 16 128 (Q0 Z p0 p1 p2 p3  h0 n0) (T16.setTop (mkF m 91 #[.val (.int p0), .val (.int p1), .val (.int p2), .val (.int p3), .val (.int v1), .val (.int v2), .val (.int v3), .unset, .unset, .unset, .unset, .unset] [(.ref b4)]))
  refine Ends.via (fun _ k => XS.astore X16.here hx rfl (hb hby at_91) rfl rfl (l' := #[.val (.int p0), .val (.int p1), .val (.int p2), .val (.int p3), .val (.int v1), .val (.int v2), .val (.int v3), .val (.ref b4), .unset, .unset, .unset, .unset]) rfl k) ?_
  show Ends p e below s 16 128 (Q0 Z p0 p1 p2 p3  h0 n0) (T16.setTop (mkF m 93 #[.val (.int p0), .val (.int p1), .val (.int p2), .val (.int p3), .val (.int v1), .val (.int v2), .val (.int v3), .val (.ref b4), .unset, .unset, .unset, .unset] []))
  refine Ends.via (fun _ k => XS.bipush X16.here hx rfl (hb hby at_93) k) ?_
  show Ends p e below s 16 128 (Q0 Z p0 p1 p2 p3  h0 n0) (T16.setTop (mkF m 95 #[.val (.int p0), .val (.int p1), .val (.int p2), .val (.int p3), .val (.int v1), .val (.int v2), .val (.int v3), .val (.ref b4), .unset, .unset, .unset, .unset] [(.int (12 : Int32))]))
  obtain ⟨T17, h17, k17, X17, e17, E17, A17, st17⟩ := newP X16 hx hZ (hw _ (List.mem_of_getElem? (i := 1) rfl)) e16 (g := (mkF m 95 #[.val (.int p0), .val (.int p1), .val (.int p2), .val (.int p3), .val (.int v1), .val (.int v2), .val (.int v3), .val (.ref b4), .unset, .unset, .unset, .unset] [(.int (12 : Int32))])) rfl (hb hby at_95) rfl (by decide) (cap := 12) (by decide) (by decide) (by decide) (by decide)
  obtain ⟨b17, g17⟩ : ∃ z, z = h16.size := ⟨_, rfl⟩
  rw [← g17] at A17 st17
  have g_b17 : n0 ≤ b17 := Nat.le_trans Z16 (Nat.le_of_eq g17.symm)
  have ne_b4_b17 : b4 ≠ b17 := Nat.ne_of_lt (Nat.lt_of_lt_of_le B16.lt (Nat.le_of_eq g17.symm))
  have f17_0 := B16.ext E17
  have Z17 : n0 ≤ h17.size := Nat.le_trans Z16 E17.1
  have V17 : Arv Z h17 b17 k17 .byte (12 : Int32) [(.int (0 : Int32)), (.int (0 : Int32)), (.int (0 : Int32)), (.int (0 : Int32)), (.int (0 : Int32)), (.int (0 : Int32)), (.int (0 : Int32)), (.int (0 : Int32)), (.int (0 : Int32)), (.int (0 : Int32)), (.int (0 : Int32)), (.int (0 : Int32))] (.int (0 : Int32)) := (Arv.new A17 (by decide)).pad (pad_rep [] (.int (0 : Int32)) 12)
  have B17 : own_B Z h17 b17 k17 own_zero := ⟨V17, rfl⟩
  refine Ends.via st17 ?_
  show Ends p e below s 16 128 (Q0 Z p0 p1 p2 p3  h0 n0) (T17.setTop (mkF m 97 #[.val (.int p0), .val (.int p1), .val (.int p2), .val (.int p3), .val (.int v1), .val (.int v2), .val (.int v3), .val (.ref b4), .unset, .unset, .unset, .unset] [(.ref b17)]))
  refine Ends.via (fun _ k => XS.dup X17.here hx rfl (hb hby at_97) rfl rfl k) ?_
  show Ends p e below s 16 128 (Q0 Z p0 p1 p2 p3  h0 n0) (T17.setTop (mkF m 98 #[.val (.int p0), .val (.int p1), .val (.int p2), .val (.int p3), .val (.int v1), .val (.int v2), .val (.int v3), .val (.ref b4), .unset, .unset, .unset, .unset] [(.ref b17), (.ref b17)]))
  refine Ends.via (fun _ k => XS.iconst X17.here hx rfl (hb hby at_98) k) ?_
  show Ends p e below s 16 128 (Q0 Z p0 p1 p2 p3  h0 n0) (T17.setTop (mkF m 99 #[.val (.int p0), .val (.int p1), .val (.int p2), .val (.int p3), .val (.int v1), .val (.int v2), .val (.int v3), .val (.ref b4), .unset, .unset, .unset, .unset] [(.int (0 : Int32)), (.ref b17), (.ref b17)]))
  refine Ends.via (fun _ k => XS.iload X17.here hx rfl (hb hby at_99) rfl k) ?_
  show Ends p e below s 16 128 (Q0 Z p0 p1 p2 p3  h0 n0) (T17.setTop (mkF m 101 #[.val (.int p0), .val (.int p1), .val (.int p2), .val (.int p3), .val (.int v1), .val (.int v2), .val (.int v3), .val (.ref b4), .unset, .unset, .unset, .unset] [(.int v3), (.int (0 : Int32)), (.ref b17), (.ref b17)]))
  obtain ⟨T18, h18, X18, e18, W18, B18, st18⟩ := own_stB X17 hx hZ e17 B17 (j := (0 : Int32)) ⟨by decide, by decide⟩ (g := (mkF m 101 #[.val (.int p0), .val (.int p1), .val (.int p2), .val (.int p3), .val (.int v1), .val (.int v2), .val (.int v3), .val (.ref b4), .unset, .unset, .unset, .unset] [(.int v3), (.int (0 : Int32)), (.ref b17), (.ref b17)])) rfl rfl (hb hby at_101)
  have f18_0 := f17_0.other W18 ne_b4_b17
  have Z18 : n0 ≤ h18.size := Nat.le_trans Z17 (Keep.of_wr W18).1
  have N18 := Fr.snoc X18 N16 g_b17
  refine Ends.via st18 ?_
  show Ends p e below s 16 128 (Q0 Z p0 p1 p2 p3  h0 n0) (T18.setTop (mkF m 102 #[.val (.int p0), .val (.int p1), .val (.int p2), .val (.int p3), .val (.int v1), .val (.int v2), .val (.int v3), .val (.ref b4), .unset, .unset, .unset, .unset] [(.ref b17)]))
  refine Ends.via (fun _ k => XS.dup X18.here hx rfl (hb hby at_102) rfl rfl k) ?_
  show Ends p e below s 16 128 (Q0 Z p0 p1 p2 p3  h0 n0) (T18.setTop (mkF m 103 #[.val (.int p0), .val (.int p1), .val (.int p2), .val (.int p3), .val (.int v1), .val (.int v2), .val (.int v3), .val (.ref b4), .unset, .unset, .unset, .unset] [(.ref b17), (.ref b17)]))
  refine Ends.via (fun _ k => XS.iconst X18.here hx rfl (hb hby at_103) k) ?_
  show Ends p e below s 16 128 (Q0 Z p0 p1 p2 p3  h0 n0) (T18.setTop (mkF m 104 #[.val (.int p0), .val (.int p1), .val (.int p2), .val (.int p3), .val (.int v1), .val (.int v2), .val (.int v3), .val (.ref b4), .unset, .unset, .unset, .unset] [(.int (1 : Int32)), (.ref b17), (.ref b17)]))
  refine Ends.via (fun _ k => XS.iload X18.here hx rfl (hb hby at_104) rfl k) ?_
  show Ends p e below s 16 128 (Q0 Z p0 p1 p2 p3  h0 n0) (T18.setTop (mkF m 106 #[.val (.int p0), .val (.int p1), .val (.int p2), .val (.int p3), .val (.int v1), .val (.int v2), .val (.int v3), .val (.ref b4), .unset, .unset, .unset, .unset] [(.int v3), (.int (1 : Int32)), (.ref b17), (.ref b17)]))
  obtain ⟨T19, h19, X19, e19, W19, B19, st19⟩ := own_stB X18 hx hZ e18 B18 (j := (1 : Int32)) ⟨by decide, by decide⟩ (g := (mkF m 106 #[.val (.int p0), .val (.int p1), .val (.int p2), .val (.int p3), .val (.int v1), .val (.int v2), .val (.int v3), .val (.ref b4), .unset, .unset, .unset, .unset] [(.int v3), (.int (1 : Int32)), (.ref b17), (.ref b17)])) rfl rfl (hb hby at_106)
  have f19_0 := f18_0.other W19 ne_b4_b17
  have Z19 : n0 ≤ h19.size := Nat.le_trans Z18 (Keep.of_wr W19).1
  have N19 := Fr.snoc X19 N18 g_b17
  refine Ends.via st19 ?_
  show Ends p e below s 16 128 (Q0 Z p0 p1 p2 p3  h0 n0) (T19.setTop (mkF m 107 #[.val (.int p0), .val (.int p1), .val (.int p2), .val (.int p3), .val (.int v1), .val (.int v2), .val (.int v3), .val (.ref b4), .unset, .unset, .unset, .unset] [(.ref b17)]))
  refine Ends.via (fun _ k => XS.dup X19.here hx rfl (hb hby at_107) rfl rfl k) ?_
  show Ends p e below s 16 128 (Q0 Z p0 p1 p2 p3  h0 n0) (T19.setTop (mkF m 108 #[.val (.int p0), .val (.int p1), .val (.int p2), .val (.int p3), .val (.int v1), .val (.int v2), .val (.int v3), .val (.ref b4), .unset, .unset, .unset, .unset] [(.ref b17), (.ref b17)]))
  refine Ends.via (fun _ k => XS.iconst X19.here hx rfl (hb hby at_108) k) ?_
  show Ends p e below s 16 128 (Q0 Z p0 p1 p2 p3  h0 n0) (T19.setTop (mkF m 109 #[.val (.int p0), .val (.int p1), .val (.int p2), .val (.int p3), .val (.int v1), .val (.int v2), .val (.int v3), .val (.ref b4), .unset, .unset, .unset, .unset] [(.int (2 : Int32)), (.ref b17), (.ref b17)]))
  refine Ends.via (fun _ k => XS.iload X19.here hx rfl (hb hby at_109) rfl k) ?_
  show Ends p e below s 16 128 (Q0 Z p0 p1 p2 p3  h0 n0) (T19.setTop (mkF m 111 #[.val (.int p0), .val (.int p1), .val (.int p2), .val (.int p3), .val (.int v1), .val (.int v2), .val (.int v3), .val (.ref b4), .unset, .unset, .unset, .unset] [(.int v3), (.int (2 : Int32)), (.ref b17), (.ref b17)]))
  obtain ⟨T20, h20, X20, e20, W20, B20, st20⟩ := own_stB X19 hx hZ e19 B19 (j := (2 : Int32)) ⟨by decide, by decide⟩ (g := (mkF m 111 #[.val (.int p0), .val (.int p1), .val (.int p2), .val (.int p3), .val (.int v1), .val (.int v2), .val (.int v3), .val (.ref b4), .unset, .unset, .unset, .unset] [(.int v3), (.int (2 : Int32)), (.ref b17), (.ref b17)])) rfl rfl (hb hby at_111)
  have f20_0 := f19_0.other W20 ne_b4_b17
  have Z20 : n0 ≤ h20.size := Nat.le_trans Z19 (Keep.of_wr W20).1
  have N20 := Fr.snoc X20 N19 g_b17
  refine Ends.via st20 ?_
  show Ends p e below s 16 128 (Q0 Z p0 p1 p2 p3  h0 n0) (T20.setTop (mkF m 112 #[.val (.int p0), .val (.int p1), .val (.int p2), .val (.int p3), .val (.int v1), .val (.int v2), .val (.int v3), .val (.ref b4), .unset, .unset, .unset, .unset] [(.ref b17)]))
  refine Ends.via (fun _ k => XS.dup X20.here hx rfl (hb hby at_112) rfl rfl k) ?_
  show Ends p e below s 16 128 (Q0 Z p0 p1 p2 p3  h0 n0) (T20.setTop (mkF m 113 #[.val (.int p0), .val (.int p1), .val (.int p2), .val (.int p3), .val (.int v1), .val (.int v2), .val (.int v3), .val (.ref b4), .unset, .unset, .unset, .unset] [(.ref b17), (.ref b17)]))
  refine Ends.via (fun _ k => XS.iconst X20.here hx rfl (hb hby at_113) k) ?_
  show Ends p e below s 16 128 (Q0 Z p0 p1 p2 p3  h0 n0) (T20.setTop (mkF m 114 #[.val (.int p0), .val (.int p1), .val (.int p2), .val (.int p3), .val (.int v1), .val (.int v2), .val (.int v3), .val (.ref b4), .unset, .unset, .unset, .unset] [(.int (3 : Int32)), (.ref b17), (.ref b17)]))
  refine Ends.via (fun _ k => XS.iload X20.here hx rfl (hb hby at_114) rfl k) ?_
  show Ends p e below s 16 128 (Q0 Z p0 p1 p2 p3  h0 n0) (T20.setTop (mkF m 116 #[.val (.int p0), .val (.int p1), .val (.int p2), .val (.int p3), .val (.int v1), .val (.int v2), .val (.int v3), .val (.ref b4), .unset, .unset, .unset, .unset] [(.int v3), (.int (3 : Int32)), (.ref b17), (.ref b17)]))
  obtain ⟨T21, h21, X21, e21, W21, B21, st21⟩ := own_stB X20 hx hZ e20 B20 (j := (3 : Int32)) ⟨by decide, by decide⟩ (g := (mkF m 116 #[.val (.int p0), .val (.int p1), .val (.int p2), .val (.int p3), .val (.int v1), .val (.int v2), .val (.int v3), .val (.ref b4), .unset, .unset, .unset, .unset] [(.int v3), (.int (3 : Int32)), (.ref b17), (.ref b17)])) rfl rfl (hb hby at_116)
  have f21_0 := f20_0.other W21 ne_b4_b17
  have Z21 : n0 ≤ h21.size := Nat.le_trans Z20 (Keep.of_wr W21).1
  have N21 := Fr.snoc X21 N20 g_b17
  refine Ends.via st21 ?_
  show Ends p e below s 16 128 (Q0 Z p0 p1 p2 p3  h0 n0) (T21.setTop (mkF m 117 #[.val (.int p0), .val (.int p1), .val (.int p2), .val (.int p3), .val (.int v1), .val (.int v2), .val (.int v3), .val (.ref b4), .unset, .unset, .unset, .unset] [(.ref b17)]))
  refine Ends.via (fun _ k => XS.dup X21.here hx rfl (hb hby at_117) rfl rfl k) ?_
  show Ends p e below s 16 128 (Q0 Z p0 p1 p2 p3  h0 n0) (T21.setTop (mkF m 118 #[.val (.int p0), .val (.int p1), .val (.int p2), .val (.int p3), .val (.int v1), .val (.int v2), .val (.int v3), .val (.ref b4), .unset, .unset, .unset, .unset] [(.ref b17), (.ref b17)]))
  refine Ends.via (fun _ k => XS.iconst X21.here hx rfl (hb hby at_118) k) ?_
  show Ends p e below s 16 128 (Q0 Z p0 p1 p2 p3  h0 n0) (T21.setTop (mkF m 119 #[.val (.int p0), .val (.int p1), .val (.int p2), .val (.int p3), .val (.int v1), .val (.int v2), .val (.int v3), .val (.ref b4), .unset, .unset, .unset, .unset] [(.int (4 : Int32)), (.ref b17), (.ref b17)]))
  refine Ends.via (fun _ k => XS.iload X21.here hx rfl (hb hby at_119) rfl k) ?_
  show Ends p e below s 16 128 (Q0 Z p0 p1 p2 p3  h0 n0) (T21.setTop (mkF m 121 #[.val (.int p0), .val (.int p1), .val (.int p2), .val (.int p3), .val (.int v1), .val (.int v2), .val (.int v3), .val (.ref b4), .unset, .unset, .unset, .unset] [(.int v3), (.int (4 : Int32)), (.ref b17), (.ref b17)]))
  obtain ⟨T22, h22, X22, e22, W22, B22, st22⟩ := own_stB X21 hx hZ e21 B21 (j := (4 : Int32)) ⟨by decide, by decide⟩ (g := (mkF m 121 #[.val (.int p0), .val (.int p1), .val (.int p2), .val (.int p3), .val (.int v1), .val (.int v2), .val (.int v3), .val (.ref b4), .unset, .unset, .unset, .unset] [(.int v3), (.int (4 : Int32)), (.ref b17), (.ref b17)])) rfl rfl (hb hby at_121)
  have f22_0 := f21_0.other W22 ne_b4_b17
  have Z22 : n0 ≤ h22.size := Nat.le_trans Z21 (Keep.of_wr W22).1
  have N22 := Fr.snoc X22 N21 g_b17
  refine Ends.via st22 ?_
  show Ends p e below s 16 128 (Q0 Z p0 p1 p2 p3  h0 n0) (T22.setTop (mkF m 122 #[.val (.int p0), .val (.int p1), .val (.int p2), .val (.int p3), .val (.int v1), .val (.int v2), .val (.int v3), .val (.ref b4), .unset, .unset, .unset, .unset] [(.ref b17)]))
  refine Ends.via (fun _ k => XS.dup X22.here hx rfl (hb hby at_122) rfl rfl k) ?_
  show Ends p e below s 16 128 (Q0 Z p0 p1 p2 p3  h0 n0) (T22.setTop (mkF m 123 #[.val (.int p0), .val (.int p1), .val (.int p2), .val (.int p3), .val (.int v1), .val (.int v2), .val (.int v3), .val (.ref b4), .unset, .unset, .unset, .unset] [(.ref b17), (.ref b17)]))
  refine Ends.via (fun _ k => XS.iconst X22.here hx rfl (hb hby at_123) k) ?_
  show Ends p e below s 16 128 (Q0 Z p0 p1 p2 p3  h0 n0) (T22.setTop (mkF m 124 #[.val (.int p0), .val (.int p1), .val (.int p2), .val (.int p3), .val (.int v1), .val (.int v2), .val (.int v3), .val (.ref b4), .unset, .unset, .unset, .unset] [(.int (5 : Int32)), (.ref b17), (.ref b17)]))
  refine Ends.via (fun _ k => XS.iload X22.here hx rfl (hb hby at_124) rfl k) ?_
  show Ends p e below s 16 128 (Q0 Z p0 p1 p2 p3  h0 n0) (T22.setTop (mkF m 126 #[.val (.int p0), .val (.int p1), .val (.int p2), .val (.int p3), .val (.int v1), .val (.int v2), .val (.int v3), .val (.ref b4), .unset, .unset, .unset, .unset] [(.int v3), (.int (5 : Int32)), (.ref b17), (.ref b17)]))
  obtain ⟨T23, h23, X23, e23, W23, B23, st23⟩ := own_stB X22 hx hZ e22 B22 (j := (5 : Int32)) ⟨by decide, by decide⟩ (g := (mkF m 126 #[.val (.int p0), .val (.int p1), .val (.int p2), .val (.int p3), .val (.int v1), .val (.int v2), .val (.int v3), .val (.ref b4), .unset, .unset, .unset, .unset] [(.int v3), (.int (5 : Int32)), (.ref b17), (.ref b17)])) rfl rfl (hb hby at_126)
  have f23_0 := f22_0.other W23 ne_b4_b17
  have Z23 : n0 ≤ h23.size := Nat.le_trans Z22 (Keep.of_wr W23).1
  have N23 := Fr.snoc X23 N22 g_b17
  refine Ends.via st23 ?_
  show Ends p e below s 16 128 (Q0 Z p0 p1 p2 p3  h0 n0) (T23.setTop (mkF m 127 #[.val (.int p0), .val (.int p1), .val (.int p2), .val (.int p3), .val (.int v1), .val (.int v2), .val (.int v3), .val (.ref b4), .unset, .unset, .unset, .unset] [(.ref b17)]))
  refine Ends.via (fun _ k => XS.dup X23.here hx rfl (hb hby at_127) rfl rfl k) ?_
  show Ends p e below s 16 128 (Q0 Z p0 p1 p2 p3  h0 n0) (T23.setTop (mkF m 128 #[.val (.int p0), .val (.int p1), .val (.int p2), .val (.int p3), .val (.int v1), .val (.int v2), .val (.int v3), .val (.ref b4), .unset, .unset, .unset, .unset] [(.ref b17), (.ref b17)]))
  refine Ends.via (fun _ k => XS.bipush X23.here hx rfl (hb hby at_128) k) ?_
  show Ends p e below s 16 128 (Q0 Z p0 p1 p2 p3  h0 n0) (T23.setTop (mkF m 130 #[.val (.int p0), .val (.int p1), .val (.int p2), .val (.int p3), .val (.int v1), .val (.int v2), .val (.int v3), .val (.ref b4), .unset, .unset, .unset, .unset] [(.int (6 : Int32)), (.ref b17), (.ref b17)]))
  refine Ends.via (fun _ k => XS.iload X23.here hx rfl (hb hby at_130) rfl k) ?_
  show Ends p e below s 16 128 (Q0 Z p0 p1 p2 p3  h0 n0) (T23.setTop (mkF m 132 #[.val (.int p0), .val (.int p1), .val (.int p2), .val (.int p3), .val (.int v1), .val (.int v2), .val (.int v3), .val (.ref b4), .unset, .unset, .unset, .unset] [(.int v3), (.int (6 : Int32)), (.ref b17), (.ref b17)]))
  obtain ⟨T24, h24, X24, e24, W24, B24, st24⟩ := own_stB X23 hx hZ e23 B23 (j := (6 : Int32)) ⟨by decide, by decide⟩ (g := (mkF m 132 #[.val (.int p0), .val (.int p1), .val (.int p2), .val (.int p3), .val (.int v1), .val (.int v2), .val (.int v3), .val (.ref b4), .unset, .unset, .unset, .unset] [(.int v3), (.int (6 : Int32)), (.ref b17), (.ref b17)])) rfl rfl (hb hby at_132)
  have f24_0 := f23_0.other W24 ne_b4_b17
  have Z24 : n0 ≤ h24.size := Nat.le_trans Z23 (Keep.of_wr W24).1
  have N24 := Fr.snoc X24 N23 g_b17
  refine Ends.via st24 ?_
  show Ends p e below s 16 128 (Q0 Z p0 p1 p2 p3  h0 n0) (T24.setTop (mkF m 133 #[.val (.int p0), .val (.int p1), .val (.int p2), .val (.int p3), .val (.int v1), .val (.int v2), .val (.int v3), .val (.ref b4), .unset, .unset, .unset, .unset] [(.ref b17)]))
  refine Ends.via (fun _ k => XS.dup X24.here hx rfl (hb hby at_133) rfl rfl k) ?_
  show Ends p e below s 16 128 (Q0 Z p0 p1 p2 p3  h0 n0) (T24.setTop (mkF m 134 #[.val (.int p0), .val (.int p1), .val (.int p2), .val (.int p3), .val (.int v1), .val (.int v2), .val (.int v3), .val (.ref b4), .unset, .unset, .unset, .unset] [(.ref b17), (.ref b17)]))
  refine Ends.via (fun _ k => XS.bipush X24.here hx rfl (hb hby at_134) k) ?_
  show Ends p e below s 16 128 (Q0 Z p0 p1 p2 p3  h0 n0) (T24.setTop (mkF m 136 #[.val (.int p0), .val (.int p1), .val (.int p2), .val (.int p3), .val (.int v1), .val (.int v2), .val (.int v3), .val (.ref b4), .unset, .unset, .unset, .unset] [(.int (7 : Int32)), (.ref b17), (.ref b17)]))
  refine Ends.via (fun _ k => XS.iload X24.here hx rfl (hb hby at_136) rfl k) ?_
  show Ends p e below s 16 128 (Q0 Z p0 p1 p2 p3  h0 n0) (T24.setTop (mkF m 138 #[.val (.int p0), .val (.int p1), .val (.int p2), .val (.int p3), .val (.int v1), .val (.int v2), .val (.int v3), .val (.ref b4), .unset, .unset, .unset, .unset] [(.int v3), (.int (7 : Int32)), (.ref b17), (.ref b17)]))
  obtain ⟨T25, h25, X25, e25, W25, B25, st25⟩ := own_stB X24 hx hZ e24 B24 (j := (7 : Int32)) ⟨by decide, by decide⟩ (g := (mkF m 138 #[.val (.int p0), .val (.int p1), .val (.int p2), .val (.int p3), .val (.int v1), .val (.int v2), .val (.int v3), .val (.ref b4), .unset, .unset, .unset, .unset] [(.int v3), (.int (7 : Int32)), (.ref b17), (.ref b17)])) rfl rfl (hb hby at_138)
  have f25_0 := f24_0.other W25 ne_b4_b17
  have Z25 : n0 ≤ h25.size := Nat.le_trans Z24 (Keep.of_wr W25).1
  have N25 := Fr.snoc X25 N24 g_b17
  refine Ends.via st25 ?_
  show Ends p e below s 16 128 (Q0 Z p0 p1 p2 p3  h0 n0) (T25.setTop (mkF m 139 #[.val (.int p0), .val (.int p1), .val (.int p2), .val (.int p3), .val (.int v1), .val (.int v2), .val (.int v3), .val (.ref b4), .unset, .unset, .unset, .unset] [(.ref b17)]))
  refine Ends.via (fun _ k => XS.dup X25.here hx rfl (hb hby at_139) rfl rfl k) ?_
  show Ends p e below s 16 128 (Q0 Z p0 p1 p2 p3  h0 n0) (T25.setTop (mkF m 140 #[.val (.int p0), .val (.int p1), .val (.int p2), .val (.int p3), .val (.int v1), .val (.int v2), .val (.int v3), .val (.ref b4), .unset, .unset, .unset, .unset] [(.ref b17), (.ref b17)]))
  refine Ends.via (fun _ k => XS.bipush X25.here hx rfl (hb hby at_140) k) ?_
  show Ends p e below s 16 128 (Q0 Z p0 p1 p2 p3  h0 n0) (T25.setTop (mkF m 142 #[.val (.int p0), .val (.int p1), .val (.int p2), .val (.int p3), .val (.int v1), .val (.int v2), .val (.int v3), .val (.ref b4), .unset, .unset, .unset, .unset] [(.int (8 : Int32)), (.ref b17), (.ref b17)]))
  refine Ends.via (fun _ k => XS.iload X25.here hx rfl (hb hby at_142) rfl k) ?_
  show Ends p e below s 16 128 (Q0 Z p0 p1 p2 p3  h0 n0) (T25.setTop (mkF m 144 #[.val (.int p0), .val (.int p1), .val (.int p2), .val (.int p3), .val (.int v1), .val (.int v2), .val (.int v3), .val (.ref b4), .unset, .unset, .unset, .unset] [(.int v3), (.int (8 : Int32)), (.ref b17), (.ref b17)]))
  obtain ⟨T26, h26, X26, e26, W26, B26, st26⟩ := own_stB X25 hx hZ e25 B25 (j := (8 : Int32)) ⟨by decide, by decide⟩ (g := (mkF m 144 #[.val (.int p0), .val (.int p1), .val (.int p2), .val (.int p3), .val (.int v1), .val (.int v2), .val (.int v3), .val (.ref b4), .unset, .unset, .unset, .unset] [(.int v3), (.int (8 : Int32)), (.ref b17), (.ref b17)])) rfl rfl (hb hby at_144)
  have f26_0 := f25_0.other W26 ne_b4_b17
  have Z26 : n0 ≤ h26.size := Nat.le_trans Z25 (Keep.of_wr W26).1
  have N26 := Fr.snoc X26 N25 g_b17
  refine Ends.via st26 ?_
  show Ends p e below s 16 128 (Q0 Z p0 p1 p2 p3  h0 n0) (T26.setTop (mkF m 145 #[.val (.int p0), .val (.int p1), .val (.int p2), .val (.int p3), .val (.int v1), .val (.int v2), .val (.int v3), .val (.ref b4), .unset, .unset, .unset, .unset] [(.ref b17)]))
  refine Ends.via (fun _ k => XS.dup X26.here hx rfl (hb hby at_145) rfl rfl k) ?_
  show Ends p e below s 16 128 (Q0 Z p0 p1 p2 p3  h0 n0) (T26.setTop (mkF m 146 #[.val (.int p0), .val (.int p1), .val (.int p2), .val (.int p3), .val (.int v1), .val (.int v2), .val (.int v3), .val (.ref b4), .unset, .unset, .unset, .unset] [(.ref b17), (.ref b17)]))
  refine Ends.via (fun _ k => XS.bipush X26.here hx rfl (hb hby at_146) k) ?_
  show Ends p e below s 16 128 (Q0 Z p0 p1 p2 p3  h0 n0) (T26.setTop (mkF m 148 #[.val (.int p0), .val (.int p1), .val (.int p2), .val (.int p3), .val (.int v1), .val (.int v2), .val (.int v3), .val (.ref b4), .unset, .unset, .unset, .unset] [(.int (9 : Int32)), (.ref b17), (.ref b17)]))
  refine Ends.via (fun _ k => XS.iload X26.here hx rfl (hb hby at_148) rfl k) ?_
  show Ends p e below s 16 128 (Q0 Z p0 p1 p2 p3  h0 n0) (T26.setTop (mkF m 150 #[.val (.int p0), .val (.int p1), .val (.int p2), .val (.int p3), .val (.int v1), .val (.int v2), .val (.int v3), .val (.ref b4), .unset, .unset, .unset, .unset] [(.int v3), (.int (9 : Int32)), (.ref b17), (.ref b17)]))
  obtain ⟨T27, h27, X27, e27, W27, B27, st27⟩ := own_stB X26 hx hZ e26 B26 (j := (9 : Int32)) ⟨by decide, by decide⟩ (g := (mkF m 150 #[.val (.int p0), .val (.int p1), .val (.int p2), .val (.int p3), .val (.int v1), .val (.int v2), .val (.int v3), .val (.ref b4), .unset, .unset, .unset, .unset] [(.int v3), (.int (9 : Int32)), (.ref b17), (.ref b17)])) rfl rfl (hb hby at_150)
  have f27_0 := f26_0.other W27 ne_b4_b17
  have Z27 : n0 ≤ h27.size := Nat.le_trans Z26 (Keep.of_wr W27).1
  have N27 := Fr.snoc X27 N26 g_b17
  refine Ends.via st27 ?_
  show Ends p e below s 16 128 (Q0 Z p0 p1 p2 p3  h0 n0) (T27.setTop (mkF m 151 #[.val (.int p0), .val (.int p1), .val (.int p2), .val (.int p3), .val (.int v1), .val (.int v2), .val (.int v3), .val (.ref b4), .unset, .unset, .unset, .unset] [(.ref b17)]))
  refine Ends.via (fun _ k => XS.dup X27.here hx rfl (hb hby at_151) rfl rfl k) ?_
  show Ends p e below s 16 128 (Q0 Z p0 p1 p2 p3  h0 n0) (T27.setTop (mkF m 152 #[.val (.int p0), .val (.int p1), .val (.int p2), .val (.int p3), .val (.int v1), .val (.int v2), .val (.int v3), .val (.ref b4), .unset, .unset, .unset, .unset] [(.ref b17), (.ref b17)]))
  refine Ends.via (fun _ k => XS.bipush X27.here hx rfl (hb hby at_152) k) ?_
  show Ends p e below s 16 128 (Q0 Z p0 p1 p2 p3  h0 n0) (T27.setTop (mkF m 154 #[.val (.int p0), .val (.int p1), .val (.int p2), .val (.int p3), .val (.int v1), .val (.int v2), .val (.int v3), .val (.ref b4), .unset, .unset, .unset, .unset] [(.int (10 : Int32)), (.ref b17), (.ref b17)]))
  refine Ends.via (fun _ k => XS.iload X27.here hx rfl (hb hby at_154) rfl k) ?_
  show Ends p e below s 16 128 (Q0 Z p0 p1 p2 p3  h0 n0) (T27.setTop (mkF m 156 #[.val (.int p0), .val (.int p1), .val (.int p2), .val (.int p3), .val (.int v1), .val (.int v2), .val (.int v3), .val (.ref b4), .unset, .unset, .unset, .unset] [(.int v3), (.int (10 : Int32)), (.ref b17), (.ref b17)]))
  obtain ⟨T28, h28, X28, e28, W28, B28, st28⟩ := own_stB X27 hx hZ e27 B27 (j := (10 : Int32)) ⟨by decide, by decide⟩ (g := (mkF m 156 #[.val (.int p0), .val (.int p1), .val (.int p2), .val (.int p3), .val (.int v1), .val (.int v2), .val (.int v3), .val (.ref b4), .unset, .unset, .unset, .unset] [(.int v3), (.int (10 : Int32)), (.ref b17), (.ref b17)])) rfl rfl (hb hby at_156)
  have f28_0 := f27_0.other W28 ne_b4_b17
  have Z28 : n0 ≤ h28.size := Nat.le_trans Z27 (Keep.of_wr W28).1
  have N28 := Fr.snoc X28 N27 g_b17
  refine Ends.via st28 ?_
  show Ends p e below s 16 128 (Q0 Z p0 p1 p2 p3  h0 n0) (T28.setTop (mkF m 157 #[.val (.int p0), .val (.int p1), .val (.int p2), .val (.int p3), .val (.int v1), .val (.int v2), .val (.int v3), .val (.ref b4), .unset, .unset, .unset, .unset] [(.ref b17)]))
  refine Ends.via (fun _ k => XS.dup X28.here hx rfl (hb hby at_157) rfl rfl k) ?_
  show Ends p e below s 16 128 (Q0 Z p0 p1 p2 p3  h0 n0) (T28.setTop (mkF m 158 #[.val (.int p0), .val (.int p1), .val (.int p2), .val (.int p3), .val (.int v1), .val (.int v2), .val (.int v3), .val (.ref b4), .unset, .unset, .unset, .unset] [(.ref b17), (.ref b17)]))
  refine Ends.via (fun _ k => XS.bipush X28.here hx rfl (hb hby at_158) k) ?_
  show Ends p e below s 16 128 (Q0 Z p0 p1 p2 p3  h0 n0) (T28.setTop (mkF m 160 #[.val (.int p0), .val (.int p1), .val (.int p2), .val (.int p3), .val (.int v1), .val (.int v2), .val (.int v3), .val (.ref b4), .unset, .unset, .unset, .unset] [(.int (11 : Int32)), (.ref b17), (.ref b17)]))
  refine Ends.via (fun _ k => XS.iload X28.here hx rfl (hb hby at_160) rfl k) ?_
  show Ends p e below s 16 128 (Q0 Z p0 p1 p2 p3  h0 n0) (T28.setTop (mkF m 162 #[.val (.int p0), .val (.int p1), .val (.int p2), .val (.int p3), .val (.int v1), .val (.int v2), .val (.int v3), .val (.ref b4), .unset, .unset, .unset, .unset] [(.int v3), (.int (11 : Int32)), (.ref b17), (.ref b17)]))
  obtain ⟨T29, h29, X29, e29, W29, B29, st29⟩ := own_stB X28 hx hZ e28 B28 (j := (11 : Int32)) ⟨by decide, by decide⟩ (g := (mkF m 162 #[.val (.int p0), .val (.int p1), .val (.int p2), .val (.int p3), .val (.int v1), .val (.int v2), .val (.int v3), .val (.ref b4), .unset, .unset, .unset, .unset] [(.int v3), (.int (11 : Int32)), (.ref b17), (.ref b17)])) rfl rfl (hb hby at_162)
  have f29_0 := f28_0.other W29 ne_b4_b17
  have Z29 : n0 ≤ h29.size := Nat.le_trans Z28 (Keep.of_wr W29).1
  have N29 := Fr.snoc X29 N28 g_b17
  refine Ends.via st29 ?_
  show Ends p e below s 16 128 (Q0 Z p0 p1 p2 p3  h0 n0) (T29.setTop (mkF m 163 #[.val (.int p0), .val (.int p1), .val (.int p2), .val (.int p3), .val (.int v1), .val (.int v2), .val (.int v3), .val (.ref b4), .unset, .unset, .unset, .unset] [(.ref b17)]))
  refine Ends.via (fun _ k => XS.astore X29.here hx rfl (hb hby at_163) rfl rfl (l' := #[.val (.int p0), .val (.int p1), .val (.int p2), .val (.int p3), .val (.int v1), .val (.int v2), .val (.int v3), .val (.ref b4), .val (.ref b17), .unset, .unset, .unset]) rfl k) ?_
  show Ends p e below s 16 128 (Q0 Z p0 p1 p2 p3  h0 n0) (T29.setTop (mkF m 165 #[.val (.int p0), .val (.int p1), .val (.int p2), .val (.int p3), .val (.int v1), .val (.int v2), .val (.int v3), .val (.ref b4), .val (.ref b17), .unset, .unset, .unset] []))
  have Bbb4 : own_B Z h29 b4 k4 (own_base v3) := f29_0
  have Bbb17 : own_B Z h29 b17 k17 (own_base v3) := B29
  obtain ⟨Ll, Xl, Nl⟩ : ∃ Ll : List Loc, Stand p l e room_1 s m #[(.int p0), (.int p1), (.int p2), (.int p3)] below meth c T29 Ll 2 24 ∧ Fr n0 Ll := ⟨_, X29, N29⟩
  rcases own_cases v1 (own_len p0 p1 v1 hv1) with hk | hk | hk | hk | hk
  · show Ends p e below s 16 128 (Q0 Z p0 p1 p2 p3  h0 n0) (T29.setTop (mkF m 165 #[.val (.int p0), .val (.int p1), .val (.int p2), .val (.int p3), .val (.int v1), .val (.int v2), .val (.int v3), .val (.ref b4), .val (.ref b17), .unset, .unset, .unset] []))
    refine Ends.via (fun _ k => XS.aload Xl.here hx rfl (hb hby at_165) rfl rfl k) ?_
    show Ends p e below s 16 128 (Q0 Z p0 p1 p2 p3  h0 n0) (T29.setTop (mkF m 167 #[.val (.int p0), .val (.int p1), .val (.int p2), .val (.int p3), .val (.int v1), .val (.int v2), .val (.int v3), .val (.ref b4), .val (.ref b17), .unset, .unset, .unset] [(.ref b4)]))
    refine Ends.via (fun _ k => XS.iload Xl.here hx rfl (hb hby at_167) rfl k) ?_
    show Ends p e below s 16 128 (Q0 Z p0 p1 p2 p3  h0 n0) (T29.setTop (mkF m 169 #[.val (.int p0), .val (.int p1), .val (.int p2), .val (.int p3), .val (.int v1), .val (.int v2), .val (.int v3), .val (.ref b4), .val (.ref b17), .unset, .unset, .unset] [(.int v2), (.ref b4)]))
    refine Ends.via (fun _ k => XS.iload Xl.here hx rfl (hb hby at_169) rfl k) ?_
    show Ends p e below s 16 128 (Q0 Z p0 p1 p2 p3  h0 n0) (T29.setTop (mkF m 171 #[.val (.int p0), .val (.int p1), .val (.int p2), .val (.int p3), .val (.int v1), .val (.int v2), .val (.int v3), .val (.ref b4), .val (.ref b17), .unset, .unset, .unset] [(.int v1), (.int v2), (.ref b4)]))
    obtain ⟨_, _, ⟨T83, L83, k83, n83⟩, -, X83, ⟨Lc83, hQ83, l83, y83, z83⟩, st83⟩ := Jvm.LawKit.callS Xl hx (y := (⟨"com/example/sextant/sextant/ber/BerEncoder", "putLength", "([BII)I"⟩ : MethodName)) hown (mvT hZ (hw _ (List.mem_of_getElem? (i := 2) rfl))) (mvT hZ (hw _ (List.mem_of_getElem? (i := 3) rfl))) (mvT hZ (hw _ (List.mem_of_getElem? (i := 4) rfl))) (mvT hZ (hw _ (List.mem_of_getElem? (i := 5) rfl))) (by decide) (backOf (W := 0) (rm1 l Z _ hw [] b4 v2 v1 k4 (own_base v3) h29 n0 Z29 Bbb4 g_b4 (own_at p2 v2 hv2) (own_len p0 p1 v1 hv1)) hZ (hw _ (List.mem_of_getElem? (i := 5) rfl)) (hw _ (List.mem_of_getElem? (i := 4) rfl)) (by decide) (by decide)) (g := (mkF m 171 #[.val (.int p0), .val (.int p1), .val (.int p2), .val (.int p3), .val (.int v1), .val (.int v2), .val (.int v3), .val (.ref b4), .val (.ref b17), .unset, .unset, .unset] [(.int v1), (.int v2), (.ref b4)])) rfl (by rw [hml]; rfl) (argsL := [(.ref b4), (.int v2), (.int v1)]) (rest := []) (lenOf own_pd0 rfl) rfl (by show 2 * 0 + _ ≤ _; exact Nat.le_of_eq rfl) (hb hby at_171) (fun _ _ => ⟨rfl, e29, (by decide : 2 + 0 ≤ _), (by decide : 24 + 0 ≤ _)⟩)
    dsimp only [Pt.U, Pt.locs, Pt.cells, Pt.slots] at X83 l83 y83 z83 st83 hQ83
    subst l83 y83 z83
    obtain ⟨rfl, Nq83, Kq83, Bq83⟩ := hQ83
    have N83 := Fr.app Nl Nq83
    have f83_1 := Bbb17.keep Kq83 (ninS (Ne.symm ne_b4_b17) nin0)
    have Z83 : n0 ≤ T83.heap.size := Nat.le_trans Z29 Kq83.1
    rw [own_cn0 v1 hk] at st83
    refine Ends.via st83 ?_
    show Ends p e below s 16 128 (Q0 Z p0 p1 p2 p3  h0 n0) (T83.setTop (mkF m 174 #[.val (.int p0), .val (.int p1), .val (.int p2), .val (.int p3), .val (.int v1), .val (.int v2), .val (.int v3), .val (.ref b4), .val (.ref b17), .unset, .unset, .unset] [(.int (1 : Int32))]))
    refine Ends.via (fun _ k => XS.istore X83.here hx rfl (hb hby at_174) rfl (l' := #[.val (.int p0), .val (.int p1), .val (.int p2), .val (.int p3), .val (.int v1), .val (.int v2), .val (.int v3), .val (.ref b4), .val (.ref b17), .val (.int (1 : Int32)), .unset, .unset]) rfl k) ?_
    show Ends p e below s 16 128 (Q0 Z p0 p1 p2 p3  h0 n0) (T83.setTop (mkF m 176 #[.val (.int p0), .val (.int p1), .val (.int p2), .val (.int p3), .val (.int v1), .val (.int v2), .val (.int v3), .val (.ref b4), .val (.ref b17), .val (.int (1 : Int32)), .unset, .unset] []))
    refine Ends.via (fun _ k => XS.iload X83.here hx rfl (hb hby at_176) rfl k) ?_
    show Ends p e below s 16 128 (Q0 Z p0 p1 p2 p3  h0 n0) (T83.setTop (mkF m 178 #[.val (.int p0), .val (.int p1), .val (.int p2), .val (.int p3), .val (.int v1), .val (.int v2), .val (.int v3), .val (.ref b4), .val (.ref b17), .val (.int (1 : Int32)), .unset, .unset] [(.int v1)]))
    refine Ends.via (fun _ k => XS.sipush X83.here hx rfl (hb hby at_178) k) ?_
    show Ends p e below s 16 128 (Q0 Z p0 p1 p2 p3  h0 n0) (T83.setTop (mkF m 181 #[.val (.int p0), .val (.int p1), .val (.int p2), .val (.int p3), .val (.int v1), .val (.int v2), .val (.int v3), .val (.ref b4), .val (.ref b17), .val (.int (1 : Int32)), .unset, .unset] [(.int (128 : Int32)), (.int v1)]))
    have hf84 : v1 < (128 : Int32) := own_b0_0 hk
    refine Ends.via (fun _ k => XS.icmpNo X83.here hx rfl (hb hby at_181) rfl (tlt hf84).2.1 k) ?_
    show Ends p e below s 16 128 (Q0 Z p0 p1 p2 p3  h0 n0) (T83.setTop (mkF m 184 #[.val (.int p0), .val (.int p1), .val (.int p2), .val (.int p3), .val (.int v1), .val (.int v2), .val (.int v3), .val (.ref b4), .val (.ref b17), .val (.int (1 : Int32)), .unset, .unset] []))
    refine Ends.via (fun _ k => XS.aload X83.here hx rfl (hb hby at_184) rfl rfl k) ?_
    show Ends p e below s 16 128 (Q0 Z p0 p1 p2 p3  h0 n0) (T83.setTop (mkF m 186 #[.val (.int p0), .val (.int p1), .val (.int p2), .val (.int p3), .val (.int v1), .val (.int v2), .val (.int v3), .val (.ref b4), .val (.ref b17), .val (.int (1 : Int32)), .unset, .unset] [(.ref b17)]))
    refine Ends.via (fun _ k => XS.iload X83.here hx rfl (hb hby at_186) rfl k) ?_
    show Ends p e below s 16 128 (Q0 Z p0 p1 p2 p3  h0 n0) (T83.setTop (mkF m 188 #[.val (.int p0), .val (.int p1), .val (.int p2), .val (.int p3), .val (.int v1), .val (.int v2), .val (.int v3), .val (.ref b4), .val (.ref b17), .val (.int (1 : Int32)), .unset, .unset] [(.int v2), (.ref b17)]))
    refine Ends.via (fun _ k => XS.iload X83.here hx rfl (hb hby at_188) rfl k) ?_
    show Ends p e below s 16 128 (Q0 Z p0 p1 p2 p3  h0 n0) (T83.setTop (mkF m 190 #[.val (.int p0), .val (.int p1), .val (.int p2), .val (.int p3), .val (.int v1), .val (.int v2), .val (.int v3), .val (.ref b4), .val (.ref b17), .val (.int (1 : Int32)), .unset, .unset] [(.int v1), (.int v2), (.ref b17)]))
    refine Ends.via (fun _ k => XS.i2b X83.here hx rfl (hb hby at_190) rfl k) ?_
    show Ends p e below s 16 128 (Q0 Z p0 p1 p2 p3  h0 n0) (T83.setTop (mkF m 191 #[.val (.int p0), .val (.int p1), .val (.int p2), .val (.int p3), .val (.int v1), .val (.int v2), .val (.int v3), .val (.ref b4), .val (.ref b17), .val (.int (1 : Int32)), .unset, .unset] [(.int (v1.toInt8.toInt32)), (.int v2), (.ref b17)]))
    obtain ⟨T85, h85, X85, e85, W85, B85, st85⟩ := own_stB X83 hx hZ rfl f83_1 (j := v2) (own_in0 v2 (own_at p2 v2 hv2)) (g := (mkF m 191 #[.val (.int p0), .val (.int p1), .val (.int p2), .val (.int p3), .val (.int v1), .val (.int v2), .val (.int v3), .val (.ref b4), .val (.ref b17), .val (.int (1 : Int32)), .unset, .unset] [(.int (v1.toInt8.toInt32)), (.int v2), (.ref b17)])) rfl rfl (hb hby at_191)
    have f85_1 := Bq83.other W85 ne_b4_b17
    have Z85 : n0 ≤ h85.size := Nat.le_trans Z83 (Keep.of_wr W85).1
    have N85 := Fr.snoc X85 N83 g_b17
    refine Ends.via st85 ?_
    show Ends p e below s 16 128 (Q0 Z p0 p1 p2 p3  h0 n0) (T85.setTop (mkF m 192 #[.val (.int p0), .val (.int p1), .val (.int p2), .val (.int p3), .val (.int v1), .val (.int v2), .val (.int v3), .val (.ref b4), .val (.ref b17), .val (.int (1 : Int32)), .unset, .unset] []))
    refine Ends.via (fun _ k => XS.iconst X85.here hx rfl (hb hby at_192) k) ?_
    show Ends p e below s 16 128 (Q0 Z p0 p1 p2 p3  h0 n0) (T85.setTop (mkF m 193 #[.val (.int p0), .val (.int p1), .val (.int p2), .val (.int p3), .val (.int v1), .val (.int v2), .val (.int v3), .val (.ref b4), .val (.ref b17), .val (.int (1 : Int32)), .unset, .unset] [(.int (1 : Int32))]))
    refine Ends.via (fun _ k => XS.istore X85.here hx rfl (hb hby at_193) rfl (l' := #[.val (.int p0), .val (.int p1), .val (.int p2), .val (.int p3), .val (.int v1), .val (.int v2), .val (.int v3), .val (.ref b4), .val (.ref b17), .val (.int (1 : Int32)), .val (.int (1 : Int32)), .unset]) rfl k) ?_
    show Ends p e below s 16 128 (Q0 Z p0 p1 p2 p3  h0 n0) (T85.setTop (mkF m 195 #[.val (.int p0), .val (.int p1), .val (.int p2), .val (.int p3), .val (.int v1), .val (.int v2), .val (.int v3), .val (.ref b4), .val (.ref b17), .val (.int (1 : Int32)), .val (.int (1 : Int32)), .unset] []))
    refine Ends.via (fun _ k => XS.goto X85.here hx rfl (pc0 := 195) (pc' := 333) rfl (hb hby at_195) (by decide) (by decide) k) ?_
    show Ends p e below s 16 128 (Q0 Z p0 p1 p2 p3  h0 n0) (T85.setTop (mkF m 333 #[.val (.int p0), .val (.int p1), .val (.int p2), .val (.int p3), .val (.int v1), .val (.int v2), .val (.int v3), .val (.ref b4), .val (.ref b17), .val (.int (1 : Int32)), .val (.int (1 : Int32)), .unset] []))
    refine Ends.via (fun _ k => XS.iload X85.here hx rfl (hb hby at_333) rfl k) ?_
    show Ends p e below s 16 128 (Q0 Z p0 p1 p2 p3  h0 n0) (T85.setTop (mkF m 335 #[.val (.int p0), .val (.int p1), .val (.int p2), .val (.int p3), .val (.int v1), .val (.int v2), .val (.int v3), .val (.ref b4), .val (.ref b17), .val (.int (1 : Int32)), .val (.int (1 : Int32)), .unset] [(.int (1 : Int32))]))
    refine Ends.via (fun _ k => XS.iload X85.here hx rfl (hb hby at_335) rfl k) ?_
    show Ends p e below s 16 128 (Q0 Z p0 p1 p2 p3  h0 n0) (T85.setTop (mkF m 337 #[.val (.int p0), .val (.int p1), .val (.int p2), .val (.int p3), .val (.int v1), .val (.int v2), .val (.int v3), .val (.ref b4), .val (.ref b17), .val (.int (1 : Int32)), .val (.int (1 : Int32)), .unset] [(.int (1 : Int32)), (.int (1 : Int32))]))
    have hf86 : (1 : Int32) = (1 : Int32) := by decide
    refine Ends.via (fun _ k => XS.icmpNo X85.here hx rfl (hb hby at_337) rfl (teq hf86).2 k) ?_
    show Ends p e below s 16 128 (Q0 Z p0 p1 p2 p3  h0 n0) (T85.setTop (mkF m 340 #[.val (.int p0), .val (.int p1), .val (.int p2), .val (.int p3), .val (.int v1), .val (.int v2), .val (.int v3), .val (.ref b4), .val (.ref b17), .val (.int (1 : Int32)), .val (.int (1 : Int32)), .unset] []))
    refine Ends.via (fun _ k => XS.aload X85.here hx rfl (hb hby at_340) rfl rfl k) ?_
    show Ends p e below s 16 128 (Q0 Z p0 p1 p2 p3  h0 n0) (T85.setTop (mkF m 342 #[.val (.int p0), .val (.int p1), .val (.int p2), .val (.int p3), .val (.int v1), .val (.int v2), .val (.int v3), .val (.ref b4), .val (.ref b17), .val (.int (1 : Int32)), .val (.int (1 : Int32)), .unset] [(.ref b4)]))
    refine Ends.via (fun _ k => XS.aload X85.here hx rfl (hb hby at_342) rfl rfl k) ?_
    show Ends p e below s 16 128 (Q0 Z p0 p1 p2 p3  h0 n0) (T85.setTop (mkF m 344 #[.val (.int p0), .val (.int p1), .val (.int p2), .val (.int p3), .val (.int v1), .val (.int v2), .val (.int v3), .val (.ref b4), .val (.ref b17), .val (.int (1 : Int32)), .val (.int (1 : Int32)), .unset] [(.ref b17), (.ref b4)]))
    have Beq : own_B Z h85 b4 k4 (List.set (own_base v3) (v2).toNatClampNeg (nar .byte (v1.toInt8.toInt32))) := by rw [← own_same0 (own_base v3) v2 v1 (own_at p2 v2 hv2) hk]; exact f85_1
    obtain ⟨_, _, ⟨T123, L123, k123, n123⟩, -, X123, ⟨Lc123, hQ123, l123, y123, z123⟩, st123⟩ := Jvm.LawKit.callS X85 hx (y := (⟨"com/example/sextant/sextant/ber/BerEncoderPutLengthPinLaw", "same", "([B[B)Z"⟩ : MethodName)) hown (mvT hZ (hw _ (List.mem_of_getElem? (i := 6) rfl))) (mvT hZ (hw _ (List.mem_of_getElem? (i := 7) rfl))) (mvT hZ (hw _ (List.mem_of_getElem? (i := 8) rfl))) (mvT hZ (hw _ (List.mem_of_getElem? (i := 9) rfl))) (by decide) (backOf (W := 0) (rm2 l Z _ hw [] b4 b17 k4 k17 (List.set (own_base v3) (v2).toNatClampNeg (nar .byte (v1.toInt8.toInt32))) h85 n0 Z85 Beq B85) hZ (hw _ (List.mem_of_getElem? (i := 9) rfl)) (hw _ (List.mem_of_getElem? (i := 8) rfl)) (by decide) (by decide)) (g := (mkF m 344 #[.val (.int p0), .val (.int p1), .val (.int p2), .val (.int p3), .val (.int v1), .val (.int v2), .val (.int v3), .val (.ref b4), .val (.ref b17), .val (.int (1 : Int32)), .val (.int (1 : Int32)), .unset] [(.ref b17), (.ref b4)])) rfl (by rw [hml]; rfl) (argsL := [(.ref b4), (.ref b17)]) (rest := []) (lenOf own_pd1 rfl) rfl (by show 2 * 0 + _ ≤ _; exact Nat.le_of_eq rfl) (hb hby at_344) (fun _ _ => ⟨rfl, e85, (by decide : 2 + 0 ≤ _), (by decide : 24 + 0 ≤ _)⟩)
    dsimp only [Pt.U, Pt.locs, Pt.cells, Pt.slots] at X123 l123 y123 z123 st123 hQ123
    subst l123 y123 z123
    obtain ⟨rfl, Nq123, e123⟩ := hQ123
    have N123 := Fr.app N85 Nq123
    refine Ends.via st123 ?_
    show Ends p e below s 16 128 (Q0 Z p0 p1 p2 p3  h0 n0) (T123.setTop (mkF m 347 #[.val (.int p0), .val (.int p1), .val (.int p2), .val (.int p3), .val (.int v1), .val (.int v2), .val (.int v3), .val (.ref b4), .val (.ref b17), .val (.int (1 : Int32)), .val (.int (1 : Int32)), .unset] [(.int (1 : Int32))]))
    have hf124 : ¬ ((1 : Int32) = (0 : Int32)) := by decide
    refine Ends.via (fun _ k => XS.ifNo X123.here hx rfl (hb hby at_347) rfl ((if0 _ _).trans (feq hf124).1) k) ?_
    show Ends p e below s 16 128 (Q0 Z p0 p1 p2 p3  h0 n0) (T123.setTop (mkF m 350 #[.val (.int p0), .val (.int p1), .val (.int p2), .val (.int p3), .val (.int v1), .val (.int v2), .val (.int v3), .val (.ref b4), .val (.ref b17), .val (.int (1 : Int32)), .val (.int (1 : Int32)), .unset] []))
    refine Ends.via (fun _ k => XS.iconst X123.here hx rfl (hb hby at_350) k) ?_
    show Ends p e below s 16 128 (Q0 Z p0 p1 p2 p3  h0 n0) (T123.setTop (mkF m 351 #[.val (.int p0), .val (.int p1), .val (.int p2), .val (.int p3), .val (.int v1), .val (.int v2), .val (.int v3), .val (.ref b4), .val (.ref b17), .val (.int (1 : Int32)), .val (.int (1 : Int32)), .unset] [(.int (1 : Int32))]))
    refine Ends.via (fun _ k => XS.goto X123.here hx rfl (pc0 := 351) (pc' := 355) rfl (hb hby at_351) (by decide) (by decide) k) ?_
    show Ends p e below s 16 128 (Q0 Z p0 p1 p2 p3  h0 n0) (T123.setTop (mkF m 355 #[.val (.int p0), .val (.int p1), .val (.int p2), .val (.int p3), .val (.int v1), .val (.int v2), .val (.int v3), .val (.ref b4), .val (.ref b17), .val (.int (1 : Int32)), .val (.int (1 : Int32)), .unset] [(.int (1 : Int32))]))
    refine Ends.ret X123 (v := some (.int (nar .boolean (1 : Int32)))) (fun h => by rw [Bd.returns] at h; cases h) Bd.notSynchronized (fun fs hr => retN X123 hx (t := .boolean) Bd.returns (by simp) (hb hby at_355) hr) ?_ (by decide) (by decide)
    exact ⟨rfl, N123⟩
  · show Ends p e below s 16 128 (Q0 Z p0 p1 p2 p3  h0 n0) (T29.setTop (mkF m 165 #[.val (.int p0), .val (.int p1), .val (.int p2), .val (.int p3), .val (.int v1), .val (.int v2), .val (.int v3), .val (.ref b4), .val (.ref b17), .unset, .unset, .unset] []))
    refine Ends.via (fun _ k => XS.aload Xl.here hx rfl (hb hby at_165) rfl rfl k) ?_
    show Ends p e below s 16 128 (Q0 Z p0 p1 p2 p3  h0 n0) (T29.setTop (mkF m 167 #[.val (.int p0), .val (.int p1), .val (.int p2), .val (.int p3), .val (.int v1), .val (.int v2), .val (.int v3), .val (.ref b4), .val (.ref b17), .unset, .unset, .unset] [(.ref b4)]))
    refine Ends.via (fun _ k => XS.iload Xl.here hx rfl (hb hby at_167) rfl k) ?_
    show Ends p e below s 16 128 (Q0 Z p0 p1 p2 p3  h0 n0) (T29.setTop (mkF m 169 #[.val (.int p0), .val (.int p1), .val (.int p2), .val (.int p3), .val (.int v1), .val (.int v2), .val (.int v3), .val (.ref b4), .val (.ref b17), .unset, .unset, .unset] [(.int v2), (.ref b4)]))
    refine Ends.via (fun _ k => XS.iload Xl.here hx rfl (hb hby at_169) rfl k) ?_
    show Ends p e below s 16 128 (Q0 Z p0 p1 p2 p3  h0 n0) (T29.setTop (mkF m 171 #[.val (.int p0), .val (.int p1), .val (.int p2), .val (.int p3), .val (.int v1), .val (.int v2), .val (.int v3), .val (.ref b4), .val (.ref b17), .unset, .unset, .unset] [(.int v1), (.int v2), (.ref b4)]))
    obtain ⟨_, _, ⟨T125, L125, k125, n125⟩, -, X125, ⟨Lc125, hQ125, l125, y125, z125⟩, st125⟩ := Jvm.LawKit.callS Xl hx (y := (⟨"com/example/sextant/sextant/ber/BerEncoder", "putLength", "([BII)I"⟩ : MethodName)) hown (mvT hZ (hw _ (List.mem_of_getElem? (i := 2) rfl))) (mvT hZ (hw _ (List.mem_of_getElem? (i := 3) rfl))) (mvT hZ (hw _ (List.mem_of_getElem? (i := 4) rfl))) (mvT hZ (hw _ (List.mem_of_getElem? (i := 5) rfl))) (by decide) (backOf (W := 0) (rm1 l Z _ hw [] b4 v2 v1 k4 (own_base v3) h29 n0 Z29 Bbb4 g_b4 (own_at p2 v2 hv2) (own_len p0 p1 v1 hv1)) hZ (hw _ (List.mem_of_getElem? (i := 5) rfl)) (hw _ (List.mem_of_getElem? (i := 4) rfl)) (by decide) (by decide)) (g := (mkF m 171 #[.val (.int p0), .val (.int p1), .val (.int p2), .val (.int p3), .val (.int v1), .val (.int v2), .val (.int v3), .val (.ref b4), .val (.ref b17), .unset, .unset, .unset] [(.int v1), (.int v2), (.ref b4)])) rfl (by rw [hml]; rfl) (argsL := [(.ref b4), (.int v2), (.int v1)]) (rest := []) (lenOf own_pd0 rfl) rfl (by show 2 * 0 + _ ≤ _; exact Nat.le_of_eq rfl) (hb hby at_171) (fun _ _ => ⟨rfl, e29, (by decide : 2 + 0 ≤ _), (by decide : 24 + 0 ≤ _)⟩)
    dsimp only [Pt.U, Pt.locs, Pt.cells, Pt.slots] at X125 l125 y125 z125 st125 hQ125
    subst l125 y125 z125
    obtain ⟨rfl, Nq125, Kq125, Bq125⟩ := hQ125
    have N125 := Fr.app Nl Nq125
    have f125_1 := Bbb17.keep Kq125 (ninS (Ne.symm ne_b4_b17) nin0)
    have Z125 : n0 ≤ T125.heap.size := Nat.le_trans Z29 Kq125.1
    rw [own_cn1 v1 hk] at st125
    refine Ends.via st125 ?_
    show Ends p e below s 16 128 (Q0 Z p0 p1 p2 p3  h0 n0) (T125.setTop (mkF m 174 #[.val (.int p0), .val (.int p1), .val (.int p2), .val (.int p3), .val (.int v1), .val (.int v2), .val (.int v3), .val (.ref b4), .val (.ref b17), .unset, .unset, .unset] [(.int (2 : Int32))]))
    refine Ends.via (fun _ k => XS.istore X125.here hx rfl (hb hby at_174) rfl (l' := #[.val (.int p0), .val (.int p1), .val (.int p2), .val (.int p3), .val (.int v1), .val (.int v2), .val (.int v3), .val (.ref b4), .val (.ref b17), .val (.int (2 : Int32)), .unset, .unset]) rfl k) ?_
    show Ends p e below s 16 128 (Q0 Z p0 p1 p2 p3  h0 n0) (T125.setTop (mkF m 176 #[.val (.int p0), .val (.int p1), .val (.int p2), .val (.int p3), .val (.int v1), .val (.int v2), .val (.int v3), .val (.ref b4), .val (.ref b17), .val (.int (2 : Int32)), .unset, .unset] []))
    refine Ends.via (fun _ k => XS.iload X125.here hx rfl (hb hby at_176) rfl k) ?_
    show Ends p e below s 16 128 (Q0 Z p0 p1 p2 p3  h0 n0) (T125.setTop (mkF m 178 #[.val (.int p0), .val (.int p1), .val (.int p2), .val (.int p3), .val (.int v1), .val (.int v2), .val (.int v3), .val (.ref b4), .val (.ref b17), .val (.int (2 : Int32)), .unset, .unset] [(.int v1)]))
    refine Ends.via (fun _ k => XS.sipush X125.here hx rfl (hb hby at_178) k) ?_
    show Ends p e below s 16 128 (Q0 Z p0 p1 p2 p3  h0 n0) (T125.setTop (mkF m 181 #[.val (.int p0), .val (.int p1), .val (.int p2), .val (.int p3), .val (.int v1), .val (.int v2), .val (.int v3), .val (.ref b4), .val (.ref b17), .val (.int (2 : Int32)), .unset, .unset] [(.int (128 : Int32)), (.int v1)]))
    have hf126 : ¬ (v1 < (128 : Int32)) := own_b0_1 hk
    refine Ends.via (fun _ k => XS.icmpYes X125.here hx rfl (pc0 := 181) (pc' := 198) rfl (hb hby at_181) rfl (flt hf126).2.1 (by decide) (by decide) k) ?_
    show Ends p e below s 16 128 (Q0 Z p0 p1 p2 p3  h0 n0) (T125.setTop (mkF m 198 #[.val (.int p0), .val (.int p1), .val (.int p2), .val (.int p3), .val (.int v1), .val (.int v2), .val (.int v3), .val (.ref b4), .val (.ref b17), .val (.int (2 : Int32)), .unset, .unset] []))
    refine Ends.via (fun _ k => XS.iload X125.here hx rfl (hb hby at_198) rfl k) ?_
    show Ends p e below s 16 128 (Q0 Z p0 p1 p2 p3  h0 n0) (T125.setTop (mkF m 200 #[.val (.int p0), .val (.int p1), .val (.int p2), .val (.int p3), .val (.int v1), .val (.int v2), .val (.int v3), .val (.ref b4), .val (.ref b17), .val (.int (2 : Int32)), .unset, .unset] [(.int v1)]))
    refine Ends.via (fun _ k => XS.sipush X125.here hx rfl (hb hby at_200) k) ?_
    show Ends p e below s 16 128 (Q0 Z p0 p1 p2 p3  h0 n0) (T125.setTop (mkF m 203 #[.val (.int p0), .val (.int p1), .val (.int p2), .val (.int p3), .val (.int v1), .val (.int v2), .val (.int v3), .val (.ref b4), .val (.ref b17), .val (.int (2 : Int32)), .unset, .unset] [(.int (256 : Int32)), (.int v1)]))
    have hf127 : v1 < (256 : Int32) := own_b1_1 hk
    refine Ends.via (fun _ k => XS.icmpNo X125.here hx rfl (hb hby at_203) rfl (tlt hf127).2.1 k) ?_
    show Ends p e below s 16 128 (Q0 Z p0 p1 p2 p3  h0 n0) (T125.setTop (mkF m 206 #[.val (.int p0), .val (.int p1), .val (.int p2), .val (.int p3), .val (.int v1), .val (.int v2), .val (.int v3), .val (.ref b4), .val (.ref b17), .val (.int (2 : Int32)), .unset, .unset] []))
    refine Ends.via (fun _ k => XS.iconst X125.here hx rfl (hb hby at_206) k) ?_
    show Ends p e below s 16 128 (Q0 Z p0 p1 p2 p3  h0 n0) (T125.setTop (mkF m 207 #[.val (.int p0), .val (.int p1), .val (.int p2), .val (.int p3), .val (.int v1), .val (.int v2), .val (.int v3), .val (.ref b4), .val (.ref b17), .val (.int (2 : Int32)), .unset, .unset] [(.int (1 : Int32))]))
    refine Ends.via (fun _ k => XS.istore X125.here hx rfl (hb hby at_207) rfl (l' := #[.val (.int p0), .val (.int p1), .val (.int p2), .val (.int p3), .val (.int v1), .val (.int v2), .val (.int v3), .val (.ref b4), .val (.ref b17), .val (.int (2 : Int32)), .unset, .val (.int (1 : Int32))]) rfl k) ?_
    show Ends p e below s 16 128 (Q0 Z p0 p1 p2 p3  h0 n0) (T125.setTop (mkF m 209 #[.val (.int p0), .val (.int p1), .val (.int p2), .val (.int p3), .val (.int v1), .val (.int v2), .val (.int v3), .val (.ref b4), .val (.ref b17), .val (.int (2 : Int32)), .unset, .val (.int (1 : Int32))] []))
    refine Ends.via (fun _ k => XS.goto X125.here hx rfl (pc0 := 209) (pc' := 241) rfl (hb hby at_209) (by decide) (by decide) k) ?_
    show Ends p e below s 16 128 (Q0 Z p0 p1 p2 p3  h0 n0) (T125.setTop (mkF m 241 #[.val (.int p0), .val (.int p1), .val (.int p2), .val (.int p3), .val (.int v1), .val (.int v2), .val (.int v3), .val (.ref b4), .val (.ref b17), .val (.int (2 : Int32)), .unset, .val (.int (1 : Int32))] []))
    refine Ends.via (fun _ k => XS.aload X125.here hx rfl (hb hby at_241) rfl rfl k) ?_
    show Ends p e below s 16 128 (Q0 Z p0 p1 p2 p3  h0 n0) (T125.setTop (mkF m 243 #[.val (.int p0), .val (.int p1), .val (.int p2), .val (.int p3), .val (.int v1), .val (.int v2), .val (.int v3), .val (.ref b4), .val (.ref b17), .val (.int (2 : Int32)), .unset, .val (.int (1 : Int32))] [(.ref b17)]))
    refine Ends.via (fun _ k => XS.iload X125.here hx rfl (hb hby at_243) rfl k) ?_
    show Ends p e below s 16 128 (Q0 Z p0 p1 p2 p3  h0 n0) (T125.setTop (mkF m 245 #[.val (.int p0), .val (.int p1), .val (.int p2), .val (.int p3), .val (.int v1), .val (.int v2), .val (.int v3), .val (.ref b4), .val (.ref b17), .val (.int (2 : Int32)), .unset, .val (.int (1 : Int32))] [(.int v2), (.ref b17)]))
    refine Ends.via (fun _ k => XS.sipush X125.here hx rfl (hb hby at_245) k) ?_
    show Ends p e below s 16 128 (Q0 Z p0 p1 p2 p3  h0 n0) (T125.setTop (mkF m 248 #[.val (.int p0), .val (.int p1), .val (.int p2), .val (.int p3), .val (.int v1), .val (.int v2), .val (.int v3), .val (.ref b4), .val (.ref b17), .val (.int (2 : Int32)), .unset, .val (.int (1 : Int32))] [(.int (128 : Int32)), (.int v2), (.ref b17)]))
    refine Ends.via (fun _ k => XS.iload X125.here hx rfl (hb hby at_248) rfl k) ?_
    show Ends p e below s 16 128 (Q0 Z p0 p1 p2 p3  h0 n0) (T125.setTop (mkF m 250 #[.val (.int p0), .val (.int p1), .val (.int p2), .val (.int p3), .val (.int v1), .val (.int v2), .val (.int v3), .val (.ref b4), .val (.ref b17), .val (.int (2 : Int32)), .unset, .val (.int (1 : Int32))] [(.int (1 : Int32)), (.int (128 : Int32)), (.int v2), (.ref b17)]))
    refine Ends.via (fun _ k => XS.ior X125.here hx rfl (hb hby at_250) rfl k) ?_
    show Ends p e below s 16 128 (Q0 Z p0 p1 p2 p3  h0 n0) (T125.setTop (mkF m 251 #[.val (.int p0), .val (.int p1), .val (.int p2), .val (.int p3), .val (.int v1), .val (.int v2), .val (.int v3), .val (.ref b4), .val (.ref b17), .val (.int (2 : Int32)), .unset, .val (.int (1 : Int32))] [(.int (129 : Int32)), (.int v2), (.ref b17)]))
    refine Ends.via (fun _ k => XS.i2b X125.here hx rfl (hb hby at_251) rfl k) ?_
    show Ends p e below s 16 128 (Q0 Z p0 p1 p2 p3  h0 n0) (T125.setTop (mkF m 252 #[.val (.int p0), .val (.int p1), .val (.int p2), .val (.int p3), .val (.int v1), .val (.int v2), .val (.int v3), .val (.ref b4), .val (.ref b17), .val (.int (2 : Int32)), .unset, .val (.int (1 : Int32))] [(.int ((129 : Int32).toInt8.toInt32)), (.int v2), (.ref b17)]))
    obtain ⟨T128, h128, X128, e128, W128, B128, st128⟩ := own_stB X125 hx hZ rfl f125_1 (j := v2) (own_in0 v2 (own_at p2 v2 hv2)) (g := (mkF m 252 #[.val (.int p0), .val (.int p1), .val (.int p2), .val (.int p3), .val (.int v1), .val (.int v2), .val (.int v3), .val (.ref b4), .val (.ref b17), .val (.int (2 : Int32)), .unset, .val (.int (1 : Int32))] [(.int ((129 : Int32).toInt8.toInt32)), (.int v2), (.ref b17)])) rfl rfl (hb hby at_252)
    have f128_1 := Bq125.other W128 ne_b4_b17
    have Z128 : n0 ≤ h128.size := Nat.le_trans Z125 (Keep.of_wr W128).1
    have N128 := Fr.snoc X128 N125 g_b17
    refine Ends.via st128 ?_
    show Ends p e below s 16 128 (Q0 Z p0 p1 p2 p3  h0 n0) (T128.setTop (mkF m 253 #[.val (.int p0), .val (.int p1), .val (.int p2), .val (.int p3), .val (.int v1), .val (.int v2), .val (.int v3), .val (.ref b4), .val (.ref b17), .val (.int (2 : Int32)), .unset, .val (.int (1 : Int32))] []))
    refine Ends.via (fun _ k => XS.aload X128.here hx rfl (hb hby at_253) rfl rfl k) ?_
    show Ends p e below s 16 128 (Q0 Z p0 p1 p2 p3  h0 n0) (T128.setTop (mkF m 255 #[.val (.int p0), .val (.int p1), .val (.int p2), .val (.int p3), .val (.int v1), .val (.int v2), .val (.int v3), .val (.ref b4), .val (.ref b17), .val (.int (2 : Int32)), .unset, .val (.int (1 : Int32))] [(.ref b17)]))
    refine Ends.via (fun _ k => XS.iload X128.here hx rfl (hb hby at_255) rfl k) ?_
    show Ends p e below s 16 128 (Q0 Z p0 p1 p2 p3  h0 n0) (T128.setTop (mkF m 257 #[.val (.int p0), .val (.int p1), .val (.int p2), .val (.int p3), .val (.int v1), .val (.int v2), .val (.int v3), .val (.ref b4), .val (.ref b17), .val (.int (2 : Int32)), .unset, .val (.int (1 : Int32))] [(.int v2), (.ref b17)]))
    refine Ends.via (fun _ k => XS.iload X128.here hx rfl (hb hby at_257) rfl k) ?_
    show Ends p e below s 16 128 (Q0 Z p0 p1 p2 p3  h0 n0) (T128.setTop (mkF m 259 #[.val (.int p0), .val (.int p1), .val (.int p2), .val (.int p3), .val (.int v1), .val (.int v2), .val (.int v3), .val (.ref b4), .val (.ref b17), .val (.int (2 : Int32)), .unset, .val (.int (1 : Int32))] [(.int (1 : Int32)), (.int v2), (.ref b17)]))
    refine Ends.via (fun _ k => XS.iadd X128.here hx rfl (hb hby at_259) rfl k) ?_
    show Ends p e below s 16 128 (Q0 Z p0 p1 p2 p3  h0 n0) (T128.setTop (mkF m 260 #[.val (.int p0), .val (.int p1), .val (.int p2), .val (.int p3), .val (.int v1), .val (.int v2), .val (.int v3), .val (.ref b4), .val (.ref b17), .val (.int (2 : Int32)), .unset, .val (.int (1 : Int32))] [(.int (v2 + (1 : Int32))), (.ref b17)]))
    refine Ends.via (fun _ k => XS.iload X128.here hx rfl (hb hby at_260) rfl k) ?_
    show Ends p e below s 16 128 (Q0 Z p0 p1 p2 p3  h0 n0) (T128.setTop (mkF m 262 #[.val (.int p0), .val (.int p1), .val (.int p2), .val (.int p3), .val (.int v1), .val (.int v2), .val (.int v3), .val (.ref b4), .val (.ref b17), .val (.int (2 : Int32)), .unset, .val (.int (1 : Int32))] [(.int v1), (.int (v2 + (1 : Int32))), (.ref b17)]))
    refine Ends.via (fun _ k => XS.i2b X128.here hx rfl (hb hby at_262) rfl k) ?_
    show Ends p e below s 16 128 (Q0 Z p0 p1 p2 p3  h0 n0) (T128.setTop (mkF m 263 #[.val (.int p0), .val (.int p1), .val (.int p2), .val (.int p3), .val (.int v1), .val (.int v2), .val (.int v3), .val (.ref b4), .val (.ref b17), .val (.int (2 : Int32)), .unset, .val (.int (1 : Int32))] [(.int (v1.toInt8.toInt32)), (.int (v2 + (1 : Int32))), (.ref b17)]))
    obtain ⟨T129, h129, X129, e129, W129, B129, st129⟩ := own_stB X128 hx hZ e128 B128 (j := (v2 + (1 : Int32))) (own_in v2 (own_at p2 v2 hv2) (1 : Int32) 1 rfl (by decide)) (g := (mkF m 263 #[.val (.int p0), .val (.int p1), .val (.int p2), .val (.int p3), .val (.int v1), .val (.int v2), .val (.int v3), .val (.ref b4), .val (.ref b17), .val (.int (2 : Int32)), .unset, .val (.int (1 : Int32))] [(.int (v1.toInt8.toInt32)), (.int (v2 + (1 : Int32))), (.ref b17)])) rfl rfl (hb hby at_263)
    have f129_1 := f128_1.other W129 ne_b4_b17
    have Z129 : n0 ≤ h129.size := Nat.le_trans Z128 (Keep.of_wr W129).1
    have N129 := Fr.snoc X129 N128 g_b17
    refine Ends.via st129 ?_
    show Ends p e below s 16 128 (Q0 Z p0 p1 p2 p3  h0 n0) (T129.setTop (mkF m 264 #[.val (.int p0), .val (.int p1), .val (.int p2), .val (.int p3), .val (.int v1), .val (.int v2), .val (.int v3), .val (.ref b4), .val (.ref b17), .val (.int (2 : Int32)), .unset, .val (.int (1 : Int32))] []))
    refine Ends.via (fun _ k => XS.iload X129.here hx rfl (hb hby at_264) rfl k) ?_
    show Ends p e below s 16 128 (Q0 Z p0 p1 p2 p3  h0 n0) (T129.setTop (mkF m 266 #[.val (.int p0), .val (.int p1), .val (.int p2), .val (.int p3), .val (.int v1), .val (.int v2), .val (.int v3), .val (.ref b4), .val (.ref b17), .val (.int (2 : Int32)), .unset, .val (.int (1 : Int32))] [(.int (1 : Int32))]))
    refine Ends.via (fun _ k => XS.iconst X129.here hx rfl (hb hby at_266) k) ?_
    show Ends p e below s 16 128 (Q0 Z p0 p1 p2 p3  h0 n0) (T129.setTop (mkF m 267 #[.val (.int p0), .val (.int p1), .val (.int p2), .val (.int p3), .val (.int v1), .val (.int v2), .val (.int v3), .val (.ref b4), .val (.ref b17), .val (.int (2 : Int32)), .unset, .val (.int (1 : Int32))] [(.int (2 : Int32)), (.int (1 : Int32))]))
    have hf130 : (1 : Int32) < (2 : Int32) := by decide
    refine Ends.via (fun _ k => XS.icmpYes X129.here hx rfl (pc0 := 267) (pc' := 286) rfl (hb hby at_267) rfl (tlt hf130).1 (by decide) (by decide) k) ?_
    show Ends p e below s 16 128 (Q0 Z p0 p1 p2 p3  h0 n0) (T129.setTop (mkF m 286 #[.val (.int p0), .val (.int p1), .val (.int p2), .val (.int p3), .val (.int v1), .val (.int v2), .val (.int v3), .val (.ref b4), .val (.ref b17), .val (.int (2 : Int32)), .unset, .val (.int (1 : Int32))] []))
    refine Ends.via (fun _ k => XS.iload X129.here hx rfl (hb hby at_286) rfl k) ?_
    show Ends p e below s 16 128 (Q0 Z p0 p1 p2 p3  h0 n0) (T129.setTop (mkF m 288 #[.val (.int p0), .val (.int p1), .val (.int p2), .val (.int p3), .val (.int v1), .val (.int v2), .val (.int v3), .val (.ref b4), .val (.ref b17), .val (.int (2 : Int32)), .unset, .val (.int (1 : Int32))] [(.int (1 : Int32))]))
    refine Ends.via (fun _ k => XS.iconst X129.here hx rfl (hb hby at_288) k) ?_
    show Ends p e below s 16 128 (Q0 Z p0 p1 p2 p3  h0 n0) (T129.setTop (mkF m 289 #[.val (.int p0), .val (.int p1), .val (.int p2), .val (.int p3), .val (.int v1), .val (.int v2), .val (.int v3), .val (.ref b4), .val (.ref b17), .val (.int (2 : Int32)), .unset, .val (.int (1 : Int32))] [(.int (3 : Int32)), (.int (1 : Int32))]))
    have hf131 : (1 : Int32) < (3 : Int32) := by decide
    refine Ends.via (fun _ k => XS.icmpYes X129.here hx rfl (pc0 := 289) (pc' := 308) rfl (hb hby at_289) rfl (tlt hf131).1 (by decide) (by decide) k) ?_
    show Ends p e below s 16 128 (Q0 Z p0 p1 p2 p3  h0 n0) (T129.setTop (mkF m 308 #[.val (.int p0), .val (.int p1), .val (.int p2), .val (.int p3), .val (.int v1), .val (.int v2), .val (.int v3), .val (.ref b4), .val (.ref b17), .val (.int (2 : Int32)), .unset, .val (.int (1 : Int32))] []))
    refine Ends.via (fun _ k => XS.iload X129.here hx rfl (hb hby at_308) rfl k) ?_
    show Ends p e below s 16 128 (Q0 Z p0 p1 p2 p3  h0 n0) (T129.setTop (mkF m 310 #[.val (.int p0), .val (.int p1), .val (.int p2), .val (.int p3), .val (.int v1), .val (.int v2), .val (.int v3), .val (.ref b4), .val (.ref b17), .val (.int (2 : Int32)), .unset, .val (.int (1 : Int32))] [(.int (1 : Int32))]))
    refine Ends.via (fun _ k => XS.iconst X129.here hx rfl (hb hby at_310) k) ?_
    show Ends p e below s 16 128 (Q0 Z p0 p1 p2 p3  h0 n0) (T129.setTop (mkF m 311 #[.val (.int p0), .val (.int p1), .val (.int p2), .val (.int p3), .val (.int v1), .val (.int v2), .val (.int v3), .val (.ref b4), .val (.ref b17), .val (.int (2 : Int32)), .unset, .val (.int (1 : Int32))] [(.int (4 : Int32)), (.int (1 : Int32))]))
    have hf132 : (1 : Int32) < (4 : Int32) := by decide
    refine Ends.via (fun _ k => XS.icmpYes X129.here hx rfl (pc0 := 311) (pc' := 327) rfl (hb hby at_311) rfl (tlt hf132).1 (by decide) (by decide) k) ?_
    show Ends p e below s 16 128 (Q0 Z p0 p1 p2 p3  h0 n0) (T129.setTop (mkF m 327 #[.val (.int p0), .val (.int p1), .val (.int p2), .val (.int p3), .val (.int v1), .val (.int v2), .val (.int v3), .val (.ref b4), .val (.ref b17), .val (.int (2 : Int32)), .unset, .val (.int (1 : Int32))] []))
    refine Ends.via (fun _ k => XS.iconst X129.here hx rfl (hb hby at_327) k) ?_
    show Ends p e below s 16 128 (Q0 Z p0 p1 p2 p3  h0 n0) (T129.setTop (mkF m 328 #[.val (.int p0), .val (.int p1), .val (.int p2), .val (.int p3), .val (.int v1), .val (.int v2), .val (.int v3), .val (.ref b4), .val (.ref b17), .val (.int (2 : Int32)), .unset, .val (.int (1 : Int32))] [(.int (1 : Int32))]))
    refine Ends.via (fun _ k => XS.iload X129.here hx rfl (hb hby at_328) rfl k) ?_
    show Ends p e below s 16 128 (Q0 Z p0 p1 p2 p3  h0 n0) (T129.setTop (mkF m 330 #[.val (.int p0), .val (.int p1), .val (.int p2), .val (.int p3), .val (.int v1), .val (.int v2), .val (.int v3), .val (.ref b4), .val (.ref b17), .val (.int (2 : Int32)), .unset, .val (.int (1 : Int32))] [(.int (1 : Int32)), (.int (1 : Int32))]))
    refine Ends.via (fun _ k => XS.iadd X129.here hx rfl (hb hby at_330) rfl k) ?_
    show Ends p e below s 16 128 (Q0 Z p0 p1 p2 p3  h0 n0) (T129.setTop (mkF m 331 #[.val (.int p0), .val (.int p1), .val (.int p2), .val (.int p3), .val (.int v1), .val (.int v2), .val (.int v3), .val (.ref b4), .val (.ref b17), .val (.int (2 : Int32)), .unset, .val (.int (1 : Int32))] [(.int (2 : Int32))]))
    refine Ends.via (fun _ k => XS.istore X129.here hx rfl (hb hby at_331) rfl (l' := #[.val (.int p0), .val (.int p1), .val (.int p2), .val (.int p3), .val (.int v1), .val (.int v2), .val (.int v3), .val (.ref b4), .val (.ref b17), .val (.int (2 : Int32)), .val (.int (2 : Int32)), .val (.int (1 : Int32))]) rfl k) ?_
    show Ends p e below s 16 128 (Q0 Z p0 p1 p2 p3  h0 n0) (T129.setTop (mkF m 333 #[.val (.int p0), .val (.int p1), .val (.int p2), .val (.int p3), .val (.int v1), .val (.int v2), .val (.int v3), .val (.ref b4), .val (.ref b17), .val (.int (2 : Int32)), .val (.int (2 : Int32)), .val (.int (1 : Int32))] []))
    refine Ends.via (fun _ k => XS.iload X129.here hx rfl (hb hby at_333) rfl k) ?_
    show Ends p e below s 16 128 (Q0 Z p0 p1 p2 p3  h0 n0) (T129.setTop (mkF m 335 #[.val (.int p0), .val (.int p1), .val (.int p2), .val (.int p3), .val (.int v1), .val (.int v2), .val (.int v3), .val (.ref b4), .val (.ref b17), .val (.int (2 : Int32)), .val (.int (2 : Int32)), .val (.int (1 : Int32))] [(.int (2 : Int32))]))
    refine Ends.via (fun _ k => XS.iload X129.here hx rfl (hb hby at_335) rfl k) ?_
    show Ends p e below s 16 128 (Q0 Z p0 p1 p2 p3  h0 n0) (T129.setTop (mkF m 337 #[.val (.int p0), .val (.int p1), .val (.int p2), .val (.int p3), .val (.int v1), .val (.int v2), .val (.int v3), .val (.ref b4), .val (.ref b17), .val (.int (2 : Int32)), .val (.int (2 : Int32)), .val (.int (1 : Int32))] [(.int (2 : Int32)), (.int (2 : Int32))]))
    have hf133 : (2 : Int32) = (2 : Int32) := by decide
    refine Ends.via (fun _ k => XS.icmpNo X129.here hx rfl (hb hby at_337) rfl (teq hf133).2 k) ?_
    show Ends p e below s 16 128 (Q0 Z p0 p1 p2 p3  h0 n0) (T129.setTop (mkF m 340 #[.val (.int p0), .val (.int p1), .val (.int p2), .val (.int p3), .val (.int v1), .val (.int v2), .val (.int v3), .val (.ref b4), .val (.ref b17), .val (.int (2 : Int32)), .val (.int (2 : Int32)), .val (.int (1 : Int32))] []))
    refine Ends.via (fun _ k => XS.aload X129.here hx rfl (hb hby at_340) rfl rfl k) ?_
    show Ends p e below s 16 128 (Q0 Z p0 p1 p2 p3  h0 n0) (T129.setTop (mkF m 342 #[.val (.int p0), .val (.int p1), .val (.int p2), .val (.int p3), .val (.int v1), .val (.int v2), .val (.int v3), .val (.ref b4), .val (.ref b17), .val (.int (2 : Int32)), .val (.int (2 : Int32)), .val (.int (1 : Int32))] [(.ref b4)]))
    refine Ends.via (fun _ k => XS.aload X129.here hx rfl (hb hby at_342) rfl rfl k) ?_
    show Ends p e below s 16 128 (Q0 Z p0 p1 p2 p3  h0 n0) (T129.setTop (mkF m 344 #[.val (.int p0), .val (.int p1), .val (.int p2), .val (.int p3), .val (.int v1), .val (.int v2), .val (.int v3), .val (.ref b4), .val (.ref b17), .val (.int (2 : Int32)), .val (.int (2 : Int32)), .val (.int (1 : Int32))] [(.ref b17), (.ref b4)]))
    have Beq : own_B Z h129 b4 k4 (List.set (List.set (own_base v3) (v2).toNatClampNeg (nar .byte ((129 : Int32).toInt8.toInt32))) ((v2 + (1 : Int32))).toNatClampNeg (nar .byte (v1.toInt8.toInt32))) := by rw [← own_same1 (own_base v3) v2 v1 (own_at p2 v2 hv2) hk]; exact f129_1
    obtain ⟨_, _, ⟨T134, L134, k134, n134⟩, -, X134, ⟨Lc134, hQ134, l134, y134, z134⟩, st134⟩ := Jvm.LawKit.callS X129 hx (y := (⟨"com/example/sextant/sextant/ber/BerEncoderPutLengthPinLaw", "same", "([B[B)Z"⟩ : MethodName)) hown (mvT hZ (hw _ (List.mem_of_getElem? (i := 6) rfl))) (mvT hZ (hw _ (List.mem_of_getElem? (i := 7) rfl))) (mvT hZ (hw _ (List.mem_of_getElem? (i := 8) rfl))) (mvT hZ (hw _ (List.mem_of_getElem? (i := 9) rfl))) (by decide) (backOf (W := 0) (rm2 l Z _ hw [] b4 b17 k4 k17 (List.set (List.set (own_base v3) (v2).toNatClampNeg (nar .byte ((129 : Int32).toInt8.toInt32))) ((v2 + (1 : Int32))).toNatClampNeg (nar .byte (v1.toInt8.toInt32))) h129 n0 Z129 Beq B129) hZ (hw _ (List.mem_of_getElem? (i := 9) rfl)) (hw _ (List.mem_of_getElem? (i := 8) rfl)) (by decide) (by decide)) (g := (mkF m 344 #[.val (.int p0), .val (.int p1), .val (.int p2), .val (.int p3), .val (.int v1), .val (.int v2), .val (.int v3), .val (.ref b4), .val (.ref b17), .val (.int (2 : Int32)), .val (.int (2 : Int32)), .val (.int (1 : Int32))] [(.ref b17), (.ref b4)])) rfl (by rw [hml]; rfl) (argsL := [(.ref b4), (.ref b17)]) (rest := []) (lenOf own_pd1 rfl) rfl (by show 2 * 0 + _ ≤ _; exact Nat.le_of_eq rfl) (hb hby at_344) (fun _ _ => ⟨rfl, e129, (by decide : 2 + 0 ≤ _), (by decide : 24 + 0 ≤ _)⟩)
    dsimp only [Pt.U, Pt.locs, Pt.cells, Pt.slots] at X134 l134 y134 z134 st134 hQ134
    subst l134 y134 z134
    obtain ⟨rfl, Nq134, e134⟩ := hQ134
    have N134 := Fr.app N129 Nq134
    refine Ends.via st134 ?_
    show Ends p e below s 16 128 (Q0 Z p0 p1 p2 p3  h0 n0) (T134.setTop (mkF m 347 #[.val (.int p0), .val (.int p1), .val (.int p2), .val (.int p3), .val (.int v1), .val (.int v2), .val (.int v3), .val (.ref b4), .val (.ref b17), .val (.int (2 : Int32)), .val (.int (2 : Int32)), .val (.int (1 : Int32))] [(.int (1 : Int32))]))
    have hf135 : ¬ ((1 : Int32) = (0 : Int32)) := by decide
    refine Ends.via (fun _ k => XS.ifNo X134.here hx rfl (hb hby at_347) rfl ((if0 _ _).trans (feq hf135).1) k) ?_
    show Ends p e below s 16 128 (Q0 Z p0 p1 p2 p3  h0 n0) (T134.setTop (mkF m 350 #[.val (.int p0), .val (.int p1), .val (.int p2), .val (.int p3), .val (.int v1), .val (.int v2), .val (.int v3), .val (.ref b4), .val (.ref b17), .val (.int (2 : Int32)), .val (.int (2 : Int32)), .val (.int (1 : Int32))] []))
    refine Ends.via (fun _ k => XS.iconst X134.here hx rfl (hb hby at_350) k) ?_
    show Ends p e below s 16 128 (Q0 Z p0 p1 p2 p3  h0 n0) (T134.setTop (mkF m 351 #[.val (.int p0), .val (.int p1), .val (.int p2), .val (.int p3), .val (.int v1), .val (.int v2), .val (.int v3), .val (.ref b4), .val (.ref b17), .val (.int (2 : Int32)), .val (.int (2 : Int32)), .val (.int (1 : Int32))] [(.int (1 : Int32))]))
    refine Ends.via (fun _ k => XS.goto X134.here hx rfl (pc0 := 351) (pc' := 355) rfl (hb hby at_351) (by decide) (by decide) k) ?_
    show Ends p e below s 16 128 (Q0 Z p0 p1 p2 p3  h0 n0) (T134.setTop (mkF m 355 #[.val (.int p0), .val (.int p1), .val (.int p2), .val (.int p3), .val (.int v1), .val (.int v2), .val (.int v3), .val (.ref b4), .val (.ref b17), .val (.int (2 : Int32)), .val (.int (2 : Int32)), .val (.int (1 : Int32))] [(.int (1 : Int32))]))
    refine Ends.ret X134 (v := some (.int (nar .boolean (1 : Int32)))) (fun h => by rw [Bd.returns] at h; cases h) Bd.notSynchronized (fun fs hr => retN X134 hx (t := .boolean) Bd.returns (by simp) (hb hby at_355) hr) ?_ (by decide) (by decide)
    exact ⟨rfl, N134⟩
  · show Ends p e below s 16 128 (Q0 Z p0 p1 p2 p3  h0 n0) (T29.setTop (mkF m 165 #[.val (.int p0), .val (.int p1), .val (.int p2), .val (.int p3), .val (.int v1), .val (.int v2), .val (.int v3), .val (.ref b4), .val (.ref b17), .unset, .unset, .unset] []))
    refine Ends.via (fun _ k => XS.aload Xl.here hx rfl (hb hby at_165) rfl rfl k) ?_
    show Ends p e below s 16 128 (Q0 Z p0 p1 p2 p3  h0 n0) (T29.setTop (mkF m 167 #[.val (.int p0), .val (.int p1), .val (.int p2), .val (.int p3), .val (.int v1), .val (.int v2), .val (.int v3), .val (.ref b4), .val (.ref b17), .unset, .unset, .unset] [(.ref b4)]))
    refine Ends.via (fun _ k => XS.iload Xl.here hx rfl (hb hby at_167) rfl k) ?_
    show Ends p e below s 16 128 (Q0 Z p0 p1 p2 p3  h0 n0) (T29.setTop (mkF m 169 #[.val (.int p0), .val (.int p1), .val (.int p2), .val (.int p3), .val (.int v1), .val (.int v2), .val (.int v3), .val (.ref b4), .val (.ref b17), .unset, .unset, .unset] [(.int v2), (.ref b4)]))
    refine Ends.via (fun _ k => XS.iload Xl.here hx rfl (hb hby at_169) rfl k) ?_
    show Ends p e below s 16 128 (Q0 Z p0 p1 p2 p3  h0 n0) (T29.setTop (mkF m 171 #[.val (.int p0), .val (.int p1), .val (.int p2), .val (.int p3), .val (.int v1), .val (.int v2), .val (.int v3), .val (.ref b4), .val (.ref b17), .unset, .unset, .unset] [(.int v1), (.int v2), (.ref b4)]))
    obtain ⟨_, _, ⟨T136, L136, k136, n136⟩, -, X136, ⟨Lc136, hQ136, l136, y136, z136⟩, st136⟩ := Jvm.LawKit.callS Xl hx (y := (⟨"com/example/sextant/sextant/ber/BerEncoder", "putLength", "([BII)I"⟩ : MethodName)) hown (mvT hZ (hw _ (List.mem_of_getElem? (i := 2) rfl))) (mvT hZ (hw _ (List.mem_of_getElem? (i := 3) rfl))) (mvT hZ (hw _ (List.mem_of_getElem? (i := 4) rfl))) (mvT hZ (hw _ (List.mem_of_getElem? (i := 5) rfl))) (by decide) (backOf (W := 0) (rm1 l Z _ hw [] b4 v2 v1 k4 (own_base v3) h29 n0 Z29 Bbb4 g_b4 (own_at p2 v2 hv2) (own_len p0 p1 v1 hv1)) hZ (hw _ (List.mem_of_getElem? (i := 5) rfl)) (hw _ (List.mem_of_getElem? (i := 4) rfl)) (by decide) (by decide)) (g := (mkF m 171 #[.val (.int p0), .val (.int p1), .val (.int p2), .val (.int p3), .val (.int v1), .val (.int v2), .val (.int v3), .val (.ref b4), .val (.ref b17), .unset, .unset, .unset] [(.int v1), (.int v2), (.ref b4)])) rfl (by rw [hml]; rfl) (argsL := [(.ref b4), (.int v2), (.int v1)]) (rest := []) (lenOf own_pd0 rfl) rfl (by show 2 * 0 + _ ≤ _; exact Nat.le_of_eq rfl) (hb hby at_171) (fun _ _ => ⟨rfl, e29, (by decide : 2 + 0 ≤ _), (by decide : 24 + 0 ≤ _)⟩)
    dsimp only [Pt.U, Pt.locs, Pt.cells, Pt.slots] at X136 l136 y136 z136 st136 hQ136
    subst l136 y136 z136
    obtain ⟨rfl, Nq136, Kq136, Bq136⟩ := hQ136
    have N136 := Fr.app Nl Nq136
    have f136_1 := Bbb17.keep Kq136 (ninS (Ne.symm ne_b4_b17) nin0)
    have Z136 : n0 ≤ T136.heap.size := Nat.le_trans Z29 Kq136.1
    rw [own_cn2 v1 hk] at st136
    refine Ends.via st136 ?_
    show Ends p e below s 16 128 (Q0 Z p0 p1 p2 p3  h0 n0) (T136.setTop (mkF m 174 #[.val (.int p0), .val (.int p1), .val (.int p2), .val (.int p3), .val (.int v1), .val (.int v2), .val (.int v3), .val (.ref b4), .val (.ref b17), .unset, .unset, .unset] [(.int (3 : Int32))]))
    refine Ends.via (fun _ k => XS.istore X136.here hx rfl (hb hby at_174) rfl (l' := #[.val (.int p0), .val (.int p1), .val (.int p2), .val (.int p3), .val (.int v1), .val (.int v2), .val (.int v3), .val (.ref b4), .val (.ref b17), .val (.int (3 : Int32)), .unset, .unset]) rfl k) ?_
    show Ends p e below s 16 128 (Q0 Z p0 p1 p2 p3  h0 n0) (T136.setTop (mkF m 176 #[.val (.int p0), .val (.int p1), .val (.int p2), .val (.int p3), .val (.int v1), .val (.int v2), .val (.int v3), .val (.ref b4), .val (.ref b17), .val (.int (3 : Int32)), .unset, .unset] []))
    refine Ends.via (fun _ k => XS.iload X136.here hx rfl (hb hby at_176) rfl k) ?_
    show Ends p e below s 16 128 (Q0 Z p0 p1 p2 p3  h0 n0) (T136.setTop (mkF m 178 #[.val (.int p0), .val (.int p1), .val (.int p2), .val (.int p3), .val (.int v1), .val (.int v2), .val (.int v3), .val (.ref b4), .val (.ref b17), .val (.int (3 : Int32)), .unset, .unset] [(.int v1)]))
    refine Ends.via (fun _ k => XS.sipush X136.here hx rfl (hb hby at_178) k) ?_
    show Ends p e below s 16 128 (Q0 Z p0 p1 p2 p3  h0 n0) (T136.setTop (mkF m 181 #[.val (.int p0), .val (.int p1), .val (.int p2), .val (.int p3), .val (.int v1), .val (.int v2), .val (.int v3), .val (.ref b4), .val (.ref b17), .val (.int (3 : Int32)), .unset, .unset] [(.int (128 : Int32)), (.int v1)]))
    have hf137 : ¬ (v1 < (128 : Int32)) := own_b0_2 hk
    refine Ends.via (fun _ k => XS.icmpYes X136.here hx rfl (pc0 := 181) (pc' := 198) rfl (hb hby at_181) rfl (flt hf137).2.1 (by decide) (by decide) k) ?_
    show Ends p e below s 16 128 (Q0 Z p0 p1 p2 p3  h0 n0) (T136.setTop (mkF m 198 #[.val (.int p0), .val (.int p1), .val (.int p2), .val (.int p3), .val (.int v1), .val (.int v2), .val (.int v3), .val (.ref b4), .val (.ref b17), .val (.int (3 : Int32)), .unset, .unset] []))
    refine Ends.via (fun _ k => XS.iload X136.here hx rfl (hb hby at_198) rfl k) ?_
    show Ends p e below s 16 128 (Q0 Z p0 p1 p2 p3  h0 n0) (T136.setTop (mkF m 200 #[.val (.int p0), .val (.int p1), .val (.int p2), .val (.int p3), .val (.int v1), .val (.int v2), .val (.int v3), .val (.ref b4), .val (.ref b17), .val (.int (3 : Int32)), .unset, .unset] [(.int v1)]))
    refine Ends.via (fun _ k => XS.sipush X136.here hx rfl (hb hby at_200) k) ?_
    show Ends p e below s 16 128 (Q0 Z p0 p1 p2 p3  h0 n0) (T136.setTop (mkF m 203 #[.val (.int p0), .val (.int p1), .val (.int p2), .val (.int p3), .val (.int v1), .val (.int v2), .val (.int v3), .val (.ref b4), .val (.ref b17), .val (.int (3 : Int32)), .unset, .unset] [(.int (256 : Int32)), (.int v1)]))
    have hf138 : ¬ (v1 < (256 : Int32)) := own_b1_2 hk
    refine Ends.via (fun _ k => XS.icmpYes X136.here hx rfl (pc0 := 203) (pc' := 212) rfl (hb hby at_203) rfl (flt hf138).2.1 (by decide) (by decide) k) ?_
    show Ends p e below s 16 128 (Q0 Z p0 p1 p2 p3  h0 n0) (T136.setTop (mkF m 212 #[.val (.int p0), .val (.int p1), .val (.int p2), .val (.int p3), .val (.int v1), .val (.int v2), .val (.int v3), .val (.ref b4), .val (.ref b17), .val (.int (3 : Int32)), .unset, .unset] []))
    refine Ends.via (fun _ k => XS.iload X136.here hx rfl (hb hby at_212) rfl k) ?_
    show Ends p e below s 16 128 (Q0 Z p0 p1 p2 p3  h0 n0) (T136.setTop (mkF m 214 #[.val (.int p0), .val (.int p1), .val (.int p2), .val (.int p3), .val (.int v1), .val (.int v2), .val (.int v3), .val (.ref b4), .val (.ref b17), .val (.int (3 : Int32)), .unset, .unset] [(.int v1)]))
    refine Ends.via (X136.ldcInt hx hown (mvT hZ (hw _ (List.mem_of_getElem? (i := 10) rfl))) (g := (mkF m 214 #[.val (.int p0), .val (.int p1), .val (.int p2), .val (.int p3), .val (.int v1), .val (.int v2), .val (.int v3), .val (.ref b4), .val (.ref b17), .val (.int (3 : Int32)), .unset, .unset] [(.int v1)])) rfl (hb hby at_214)) ?_
    show Ends p e below s 16 128 (Q0 Z p0 p1 p2 p3  h0 n0) (T136.setTop (mkF m 216 #[.val (.int p0), .val (.int p1), .val (.int p2), .val (.int p3), .val (.int v1), .val (.int v2), .val (.int v3), .val (.ref b4), .val (.ref b17), .val (.int (3 : Int32)), .unset, .unset] [(.int (65536 : Int32)), (.int v1)]))
    have hf139 : v1 < (65536 : Int32) := own_b2_2 hk
    refine Ends.via (fun _ k => XS.icmpNo X136.here hx rfl (hb hby at_216) rfl (tlt hf139).2.1 k) ?_
    show Ends p e below s 16 128 (Q0 Z p0 p1 p2 p3  h0 n0) (T136.setTop (mkF m 219 #[.val (.int p0), .val (.int p1), .val (.int p2), .val (.int p3), .val (.int v1), .val (.int v2), .val (.int v3), .val (.ref b4), .val (.ref b17), .val (.int (3 : Int32)), .unset, .unset] []))
    refine Ends.via (fun _ k => XS.iconst X136.here hx rfl (hb hby at_219) k) ?_
    show Ends p e below s 16 128 (Q0 Z p0 p1 p2 p3  h0 n0) (T136.setTop (mkF m 220 #[.val (.int p0), .val (.int p1), .val (.int p2), .val (.int p3), .val (.int v1), .val (.int v2), .val (.int v3), .val (.ref b4), .val (.ref b17), .val (.int (3 : Int32)), .unset, .unset] [(.int (2 : Int32))]))
    refine Ends.via (fun _ k => XS.istore X136.here hx rfl (hb hby at_220) rfl (l' := #[.val (.int p0), .val (.int p1), .val (.int p2), .val (.int p3), .val (.int v1), .val (.int v2), .val (.int v3), .val (.ref b4), .val (.ref b17), .val (.int (3 : Int32)), .unset, .val (.int (2 : Int32))]) rfl k) ?_
    show Ends p e below s 16 128 (Q0 Z p0 p1 p2 p3  h0 n0) (T136.setTop (mkF m 222 #[.val (.int p0), .val (.int p1), .val (.int p2), .val (.int p3), .val (.int v1), .val (.int v2), .val (.int v3), .val (.ref b4), .val (.ref b17), .val (.int (3 : Int32)), .unset, .val (.int (2 : Int32))] []))
    refine Ends.via (fun _ k => XS.goto X136.here hx rfl (pc0 := 222) (pc' := 241) rfl (hb hby at_222) (by decide) (by decide) k) ?_
    show Ends p e below s 16 128 (Q0 Z p0 p1 p2 p3  h0 n0) (T136.setTop (mkF m 241 #[.val (.int p0), .val (.int p1), .val (.int p2), .val (.int p3), .val (.int v1), .val (.int v2), .val (.int v3), .val (.ref b4), .val (.ref b17), .val (.int (3 : Int32)), .unset, .val (.int (2 : Int32))] []))
    refine Ends.via (fun _ k => XS.aload X136.here hx rfl (hb hby at_241) rfl rfl k) ?_
    show Ends p e below s 16 128 (Q0 Z p0 p1 p2 p3  h0 n0) (T136.setTop (mkF m 243 #[.val (.int p0), .val (.int p1), .val (.int p2), .val (.int p3), .val (.int v1), .val (.int v2), .val (.int v3), .val (.ref b4), .val (.ref b17), .val (.int (3 : Int32)), .unset, .val (.int (2 : Int32))] [(.ref b17)]))
    refine Ends.via (fun _ k => XS.iload X136.here hx rfl (hb hby at_243) rfl k) ?_
    show Ends p e below s 16 128 (Q0 Z p0 p1 p2 p3  h0 n0) (T136.setTop (mkF m 245 #[.val (.int p0), .val (.int p1), .val (.int p2), .val (.int p3), .val (.int v1), .val (.int v2), .val (.int v3), .val (.ref b4), .val (.ref b17), .val (.int (3 : Int32)), .unset, .val (.int (2 : Int32))] [(.int v2), (.ref b17)]))
    refine Ends.via (fun _ k => XS.sipush X136.here hx rfl (hb hby at_245) k) ?_
    show Ends p e below s 16 128 (Q0 Z p0 p1 p2 p3  h0 n0) (T136.setTop (mkF m 248 #[.val (.int p0), .val (.int p1), .val (.int p2), .val (.int p3), .val (.int v1), .val (.int v2), .val (.int v3), .val (.ref b4), .val (.ref b17), .val (.int (3 : Int32)), .unset, .val (.int (2 : Int32))] [(.int (128 : Int32)), (.int v2), (.ref b17)]))
    refine Ends.via (fun _ k => XS.iload X136.here hx rfl (hb hby at_248) rfl k) ?_
    show Ends p e below s 16 128 (Q0 Z p0 p1 p2 p3  h0 n0) (T136.setTop (mkF m 250 #[.val (.int p0), .val (.int p1), .val (.int p2), .val (.int p3), .val (.int v1), .val (.int v2), .val (.int v3), .val (.ref b4), .val (.ref b17), .val (.int (3 : Int32)), .unset, .val (.int (2 : Int32))] [(.int (2 : Int32)), (.int (128 : Int32)), (.int v2), (.ref b17)]))
    refine Ends.via (fun _ k => XS.ior X136.here hx rfl (hb hby at_250) rfl k) ?_
    show Ends p e below s 16 128 (Q0 Z p0 p1 p2 p3  h0 n0) (T136.setTop (mkF m 251 #[.val (.int p0), .val (.int p1), .val (.int p2), .val (.int p3), .val (.int v1), .val (.int v2), .val (.int v3), .val (.ref b4), .val (.ref b17), .val (.int (3 : Int32)), .unset, .val (.int (2 : Int32))] [(.int (130 : Int32)), (.int v2), (.ref b17)]))
    refine Ends.via (fun _ k => XS.i2b X136.here hx rfl (hb hby at_251) rfl k) ?_
    show Ends p e below s 16 128 (Q0 Z p0 p1 p2 p3  h0 n0) (T136.setTop (mkF m 252 #[.val (.int p0), .val (.int p1), .val (.int p2), .val (.int p3), .val (.int v1), .val (.int v2), .val (.int v3), .val (.ref b4), .val (.ref b17), .val (.int (3 : Int32)), .unset, .val (.int (2 : Int32))] [(.int ((130 : Int32).toInt8.toInt32)), (.int v2), (.ref b17)]))
    obtain ⟨T140, h140, X140, e140, W140, B140, st140⟩ := own_stB X136 hx hZ rfl f136_1 (j := v2) (own_in0 v2 (own_at p2 v2 hv2)) (g := (mkF m 252 #[.val (.int p0), .val (.int p1), .val (.int p2), .val (.int p3), .val (.int v1), .val (.int v2), .val (.int v3), .val (.ref b4), .val (.ref b17), .val (.int (3 : Int32)), .unset, .val (.int (2 : Int32))] [(.int ((130 : Int32).toInt8.toInt32)), (.int v2), (.ref b17)])) rfl rfl (hb hby at_252)
    have f140_1 := Bq136.other W140 ne_b4_b17
    have Z140 : n0 ≤ h140.size := Nat.le_trans Z136 (Keep.of_wr W140).1
    have N140 := Fr.snoc X140 N136 g_b17
    refine Ends.via st140 ?_
    show Ends p e below s 16 128 (Q0 Z p0 p1 p2 p3  h0 n0) (T140.setTop (mkF m 253 #[.val (.int p0), .val (.int p1), .val (.int p2), .val (.int p3), .val (.int v1), .val (.int v2), .val (.int v3), .val (.ref b4), .val (.ref b17), .val (.int (3 : Int32)), .unset, .val (.int (2 : Int32))] []))
    refine Ends.via (fun _ k => XS.aload X140.here hx rfl (hb hby at_253) rfl rfl k) ?_
    show Ends p e below s 16 128 (Q0 Z p0 p1 p2 p3  h0 n0) (T140.setTop (mkF m 255 #[.val (.int p0), .val (.int p1), .val (.int p2), .val (.int p3), .val (.int v1), .val (.int v2), .val (.int v3), .val (.ref b4), .val (.ref b17), .val (.int (3 : Int32)), .unset, .val (.int (2 : Int32))] [(.ref b17)]))
    refine Ends.via (fun _ k => XS.iload X140.here hx rfl (hb hby at_255) rfl k) ?_
    show Ends p e below s 16 128 (Q0 Z p0 p1 p2 p3  h0 n0) (T140.setTop (mkF m 257 #[.val (.int p0), .val (.int p1), .val (.int p2), .val (.int p3), .val (.int v1), .val (.int v2), .val (.int v3), .val (.ref b4), .val (.ref b17), .val (.int (3 : Int32)), .unset, .val (.int (2 : Int32))] [(.int v2), (.ref b17)]))
    refine Ends.via (fun _ k => XS.iload X140.here hx rfl (hb hby at_257) rfl k) ?_
    show Ends p e below s 16 128 (Q0 Z p0 p1 p2 p3  h0 n0) (T140.setTop (mkF m 259 #[.val (.int p0), .val (.int p1), .val (.int p2), .val (.int p3), .val (.int v1), .val (.int v2), .val (.int v3), .val (.ref b4), .val (.ref b17), .val (.int (3 : Int32)), .unset, .val (.int (2 : Int32))] [(.int (2 : Int32)), (.int v2), (.ref b17)]))
    refine Ends.via (fun _ k => XS.iadd X140.here hx rfl (hb hby at_259) rfl k) ?_
    show Ends p e below s 16 128 (Q0 Z p0 p1 p2 p3  h0 n0) (T140.setTop (mkF m 260 #[.val (.int p0), .val (.int p1), .val (.int p2), .val (.int p3), .val (.int v1), .val (.int v2), .val (.int v3), .val (.ref b4), .val (.ref b17), .val (.int (3 : Int32)), .unset, .val (.int (2 : Int32))] [(.int (v2 + (2 : Int32))), (.ref b17)]))
    refine Ends.via (fun _ k => XS.iload X140.here hx rfl (hb hby at_260) rfl k) ?_
    show Ends p e below s 16 128 (Q0 Z p0 p1 p2 p3  h0 n0) (T140.setTop (mkF m 262 #[.val (.int p0), .val (.int p1), .val (.int p2), .val (.int p3), .val (.int v1), .val (.int v2), .val (.int v3), .val (.ref b4), .val (.ref b17), .val (.int (3 : Int32)), .unset, .val (.int (2 : Int32))] [(.int v1), (.int (v2 + (2 : Int32))), (.ref b17)]))
    refine Ends.via (fun _ k => XS.i2b X140.here hx rfl (hb hby at_262) rfl k) ?_
    show Ends p e below s 16 128 (Q0 Z p0 p1 p2 p3  h0 n0) (T140.setTop (mkF m 263 #[.val (.int p0), .val (.int p1), .val (.int p2), .val (.int p3), .val (.int v1), .val (.int v2), .val (.int v3), .val (.ref b4), .val (.ref b17), .val (.int (3 : Int32)), .unset, .val (.int (2 : Int32))] [(.int (v1.toInt8.toInt32)), (.int (v2 + (2 : Int32))), (.ref b17)]))
    obtain ⟨T141, h141, X141, e141, W141, B141, st141⟩ := own_stB X140 hx hZ e140 B140 (j := (v2 + (2 : Int32))) (own_in v2 (own_at p2 v2 hv2) (2 : Int32) 2 rfl (by decide)) (g := (mkF m 263 #[.val (.int p0), .val (.int p1), .val (.int p2), .val (.int p3), .val (.int v1), .val (.int v2), .val (.int v3), .val (.ref b4), .val (.ref b17), .val (.int (3 : Int32)), .unset, .val (.int (2 : Int32))] [(.int (v1.toInt8.toInt32)), (.int (v2 + (2 : Int32))), (.ref b17)])) rfl rfl (hb hby at_263)
    have f141_1 := f140_1.other W141 ne_b4_b17
    have Z141 : n0 ≤ h141.size := Nat.le_trans Z140 (Keep.of_wr W141).1
    have N141 := Fr.snoc X141 N140 g_b17
    refine Ends.via st141 ?_
    show Ends p e below s 16 128 (Q0 Z p0 p1 p2 p3  h0 n0) (T141.setTop (mkF m 264 #[.val (.int p0), .val (.int p1), .val (.int p2), .val (.int p3), .val (.int v1), .val (.int v2), .val (.int v3), .val (.ref b4), .val (.ref b17), .val (.int (3 : Int32)), .unset, .val (.int (2 : Int32))] []))
    refine Ends.via (fun _ k => XS.iload X141.here hx rfl (hb hby at_264) rfl k) ?_
    show Ends p e below s 16 128 (Q0 Z p0 p1 p2 p3  h0 n0) (T141.setTop (mkF m 266 #[.val (.int p0), .val (.int p1), .val (.int p2), .val (.int p3), .val (.int v1), .val (.int v2), .val (.int v3), .val (.ref b4), .val (.ref b17), .val (.int (3 : Int32)), .unset, .val (.int (2 : Int32))] [(.int (2 : Int32))]))
    refine Ends.via (fun _ k => XS.iconst X141.here hx rfl (hb hby at_266) k) ?_
    show Ends p e below s 16 128 (Q0 Z p0 p1 p2 p3  h0 n0) (T141.setTop (mkF m 267 #[.val (.int p0), .val (.int p1), .val (.int p2), .val (.int p3), .val (.int v1), .val (.int v2), .val (.int v3), .val (.ref b4), .val (.ref b17), .val (.int (3 : Int32)), .unset, .val (.int (2 : Int32))] [(.int (2 : Int32)), (.int (2 : Int32))]))
    have hf142 : ¬ ((2 : Int32) < (2 : Int32)) := by decide
    refine Ends.via (fun _ k => XS.icmpNo X141.here hx rfl (hb hby at_267) rfl (flt hf142).1 k) ?_
    show Ends p e below s 16 128 (Q0 Z p0 p1 p2 p3  h0 n0) (T141.setTop (mkF m 270 #[.val (.int p0), .val (.int p1), .val (.int p2), .val (.int p3), .val (.int v1), .val (.int v2), .val (.int v3), .val (.ref b4), .val (.ref b17), .val (.int (3 : Int32)), .unset, .val (.int (2 : Int32))] []))
    refine Ends.via (fun _ k => XS.aload X141.here hx rfl (hb hby at_270) rfl rfl k) ?_
    show Ends p e below s 16 128 (Q0 Z p0 p1 p2 p3  h0 n0) (T141.setTop (mkF m 272 #[.val (.int p0), .val (.int p1), .val (.int p2), .val (.int p3), .val (.int v1), .val (.int v2), .val (.int v3), .val (.ref b4), .val (.ref b17), .val (.int (3 : Int32)), .unset, .val (.int (2 : Int32))] [(.ref b17)]))
    refine Ends.via (fun _ k => XS.iload X141.here hx rfl (hb hby at_272) rfl k) ?_
    show Ends p e below s 16 128 (Q0 Z p0 p1 p2 p3  h0 n0) (T141.setTop (mkF m 274 #[.val (.int p0), .val (.int p1), .val (.int p2), .val (.int p3), .val (.int v1), .val (.int v2), .val (.int v3), .val (.ref b4), .val (.ref b17), .val (.int (3 : Int32)), .unset, .val (.int (2 : Int32))] [(.int v2), (.ref b17)]))
    refine Ends.via (fun _ k => XS.iload X141.here hx rfl (hb hby at_274) rfl k) ?_
    show Ends p e below s 16 128 (Q0 Z p0 p1 p2 p3  h0 n0) (T141.setTop (mkF m 276 #[.val (.int p0), .val (.int p1), .val (.int p2), .val (.int p3), .val (.int v1), .val (.int v2), .val (.int v3), .val (.ref b4), .val (.ref b17), .val (.int (3 : Int32)), .unset, .val (.int (2 : Int32))] [(.int (2 : Int32)), (.int v2), (.ref b17)]))
    refine Ends.via (fun _ k => XS.iadd X141.here hx rfl (hb hby at_276) rfl k) ?_
    show Ends p e below s 16 128 (Q0 Z p0 p1 p2 p3  h0 n0) (T141.setTop (mkF m 277 #[.val (.int p0), .val (.int p1), .val (.int p2), .val (.int p3), .val (.int v1), .val (.int v2), .val (.int v3), .val (.ref b4), .val (.ref b17), .val (.int (3 : Int32)), .unset, .val (.int (2 : Int32))] [(.int (v2 + (2 : Int32))), (.ref b17)]))
    refine Ends.via (fun _ k => XS.iconst X141.here hx rfl (hb hby at_277) k) ?_
    show Ends p e below s 16 128 (Q0 Z p0 p1 p2 p3  h0 n0) (T141.setTop (mkF m 278 #[.val (.int p0), .val (.int p1), .val (.int p2), .val (.int p3), .val (.int v1), .val (.int v2), .val (.int v3), .val (.ref b4), .val (.ref b17), .val (.int (3 : Int32)), .unset, .val (.int (2 : Int32))] [(.int (1 : Int32)), (.int (v2 + (2 : Int32))), (.ref b17)]))
    refine Ends.via (fun _ k => XS.isub X141.here hx rfl (hb hby at_278) rfl k) ?_
    show Ends p e below s 16 128 (Q0 Z p0 p1 p2 p3  h0 n0) (T141.setTop (mkF m 279 #[.val (.int p0), .val (.int p1), .val (.int p2), .val (.int p3), .val (.int v1), .val (.int v2), .val (.int v3), .val (.ref b4), .val (.ref b17), .val (.int (3 : Int32)), .unset, .val (.int (2 : Int32))] [(.int ((v2 + (2 : Int32)) - (1 : Int32))), (.ref b17)]))
    refine Ends.via (fun _ k => XS.iload X141.here hx rfl (hb hby at_279) rfl k) ?_
    show Ends p e below s 16 128 (Q0 Z p0 p1 p2 p3  h0 n0) (T141.setTop (mkF m 281 #[.val (.int p0), .val (.int p1), .val (.int p2), .val (.int p3), .val (.int v1), .val (.int v2), .val (.int v3), .val (.ref b4), .val (.ref b17), .val (.int (3 : Int32)), .unset, .val (.int (2 : Int32))] [(.int v1), (.int ((v2 + (2 : Int32)) - (1 : Int32))), (.ref b17)]))
    refine Ends.via (fun _ k => XS.bipush X141.here hx rfl (hb hby at_281) k) ?_
    show Ends p e below s 16 128 (Q0 Z p0 p1 p2 p3  h0 n0) (T141.setTop (mkF m 283 #[.val (.int p0), .val (.int p1), .val (.int p2), .val (.int p3), .val (.int v1), .val (.int v2), .val (.int v3), .val (.ref b4), .val (.ref b17), .val (.int (3 : Int32)), .unset, .val (.int (2 : Int32))] [(.int (8 : Int32)), (.int v1), (.int ((v2 + (2 : Int32)) - (1 : Int32))), (.ref b17)]))
    refine Ends.via (fun _ k => XS.iushr X141.here hx rfl (hb hby at_283) rfl k) ?_
    show Ends p e below s 16 128 (Q0 Z p0 p1 p2 p3  h0 n0) (T141.setTop (mkF m 284 #[.val (.int p0), .val (.int p1), .val (.int p2), .val (.int p3), .val (.int v1), .val (.int v2), .val (.int v3), .val (.ref b4), .val (.ref b17), .val (.int (3 : Int32)), .unset, .val (.int (2 : Int32))] [(.int ((v1.toUInt32 >>> ((8 : Int32) &&& 31).toUInt32).toInt32)), (.int ((v2 + (2 : Int32)) - (1 : Int32))), (.ref b17)]))
    refine Ends.via (fun _ k => XS.i2b X141.here hx rfl (hb hby at_284) rfl k) ?_
    show Ends p e below s 16 128 (Q0 Z p0 p1 p2 p3  h0 n0) (T141.setTop (mkF m 285 #[.val (.int p0), .val (.int p1), .val (.int p2), .val (.int p3), .val (.int v1), .val (.int v2), .val (.int v3), .val (.ref b4), .val (.ref b17), .val (.int (3 : Int32)), .unset, .val (.int (2 : Int32))] [(.int (((v1.toUInt32 >>> ((8 : Int32) &&& 31).toUInt32).toInt32).toInt8.toInt32)), (.int ((v2 + (2 : Int32)) - (1 : Int32))), (.ref b17)]))
    obtain ⟨T143, h143, X143, e143, W143, B143, st143⟩ := own_stB X141 hx hZ e141 B141 (j := ((v2 + (2 : Int32)) - (1 : Int32))) (own_in2 v2 (own_at p2 v2 hv2) (2 : Int32) (1 : Int32) 2 1 rfl rfl (by decide) (by decide)) (g := (mkF m 285 #[.val (.int p0), .val (.int p1), .val (.int p2), .val (.int p3), .val (.int v1), .val (.int v2), .val (.int v3), .val (.ref b4), .val (.ref b17), .val (.int (3 : Int32)), .unset, .val (.int (2 : Int32))] [(.int (((v1.toUInt32 >>> ((8 : Int32) &&& 31).toUInt32).toInt32).toInt8.toInt32)), (.int ((v2 + (2 : Int32)) - (1 : Int32))), (.ref b17)])) rfl rfl (hb hby at_285)
    have f143_1 := f141_1.other W143 ne_b4_b17
    have Z143 : n0 ≤ h143.size := Nat.le_trans Z141 (Keep.of_wr W143).1
    have N143 := Fr.snoc X143 N141 g_b17
    refine Ends.via st143 ?_
    show Ends p e below s 16 128 (Q0 Z p0 p1 p2 p3  h0 n0) (T143.setTop (mkF m 286 #[.val (.int p0), .val (.int p1), .val (.int p2), .val (.int p3), .val (.int v1), .val (.int v2), .val (.int v3), .val (.ref b4), .val (.ref b17), .val (.int (3 : Int32)), .unset, .val (.int (2 : Int32))] []))
    refine Ends.via (fun _ k => XS.iload X143.here hx rfl (hb hby at_286) rfl k) ?_
    show Ends p e below s 16 128 (Q0 Z p0 p1 p2 p3  h0 n0) (T143.setTop (mkF m 288 #[.val (.int p0), .val (.int p1), .val (.int p2), .val (.int p3), .val (.int v1), .val (.int v2), .val (.int v3), .val (.ref b4), .val (.ref b17), .val (.int (3 : Int32)), .unset, .val (.int (2 : Int32))] [(.int (2 : Int32))]))
    refine Ends.via (fun _ k => XS.iconst X143.here hx rfl (hb hby at_288) k) ?_
    show Ends p e below s 16 128 (Q0 Z p0 p1 p2 p3  h0 n0) (T143.setTop (mkF m 289 #[.val (.int p0), .val (.int p1), .val (.int p2), .val (.int p3), .val (.int v1), .val (.int v2), .val (.int v3), .val (.ref b4), .val (.ref b17), .val (.int (3 : Int32)), .unset, .val (.int (2 : Int32))] [(.int (3 : Int32)), (.int (2 : Int32))]))
    have hf144 : (2 : Int32) < (3 : Int32) := by decide
    refine Ends.via (fun _ k => XS.icmpYes X143.here hx rfl (pc0 := 289) (pc' := 308) rfl (hb hby at_289) rfl (tlt hf144).1 (by decide) (by decide) k) ?_
    show Ends p e below s 16 128 (Q0 Z p0 p1 p2 p3  h0 n0) (T143.setTop (mkF m 308 #[.val (.int p0), .val (.int p1), .val (.int p2), .val (.int p3), .val (.int v1), .val (.int v2), .val (.int v3), .val (.ref b4), .val (.ref b17), .val (.int (3 : Int32)), .unset, .val (.int (2 : Int32))] []))
    refine Ends.via (fun _ k => XS.iload X143.here hx rfl (hb hby at_308) rfl k) ?_
    show Ends p e below s 16 128 (Q0 Z p0 p1 p2 p3  h0 n0) (T143.setTop (mkF m 310 #[.val (.int p0), .val (.int p1), .val (.int p2), .val (.int p3), .val (.int v1), .val (.int v2), .val (.int v3), .val (.ref b4), .val (.ref b17), .val (.int (3 : Int32)), .unset, .val (.int (2 : Int32))] [(.int (2 : Int32))]))
    refine Ends.via (fun _ k => XS.iconst X143.here hx rfl (hb hby at_310) k) ?_
    show Ends p e below s 16 128 (Q0 Z p0 p1 p2 p3  h0 n0) (T143.setTop (mkF m 311 #[.val (.int p0), .val (.int p1), .val (.int p2), .val (.int p3), .val (.int v1), .val (.int v2), .val (.int v3), .val (.ref b4), .val (.ref b17), .val (.int (3 : Int32)), .unset, .val (.int (2 : Int32))] [(.int (4 : Int32)), (.int (2 : Int32))]))
    have hf145 : (2 : Int32) < (4 : Int32) := by decide
    refine Ends.via (fun _ k => XS.icmpYes X143.here hx rfl (pc0 := 311) (pc' := 327) rfl (hb hby at_311) rfl (tlt hf145).1 (by decide) (by decide) k) ?_
    show Ends p e below s 16 128 (Q0 Z p0 p1 p2 p3  h0 n0) (T143.setTop (mkF m 327 #[.val (.int p0), .val (.int p1), .val (.int p2), .val (.int p3), .val (.int v1), .val (.int v2), .val (.int v3), .val (.ref b4), .val (.ref b17), .val (.int (3 : Int32)), .unset, .val (.int (2 : Int32))] []))
    refine Ends.via (fun _ k => XS.iconst X143.here hx rfl (hb hby at_327) k) ?_
    show Ends p e below s 16 128 (Q0 Z p0 p1 p2 p3  h0 n0) (T143.setTop (mkF m 328 #[.val (.int p0), .val (.int p1), .val (.int p2), .val (.int p3), .val (.int v1), .val (.int v2), .val (.int v3), .val (.ref b4), .val (.ref b17), .val (.int (3 : Int32)), .unset, .val (.int (2 : Int32))] [(.int (1 : Int32))]))
    refine Ends.via (fun _ k => XS.iload X143.here hx rfl (hb hby at_328) rfl k) ?_
    show Ends p e below s 16 128 (Q0 Z p0 p1 p2 p3  h0 n0) (T143.setTop (mkF m 330 #[.val (.int p0), .val (.int p1), .val (.int p2), .val (.int p3), .val (.int v1), .val (.int v2), .val (.int v3), .val (.ref b4), .val (.ref b17), .val (.int (3 : Int32)), .unset, .val (.int (2 : Int32))] [(.int (2 : Int32)), (.int (1 : Int32))]))
    refine Ends.via (fun _ k => XS.iadd X143.here hx rfl (hb hby at_330) rfl k) ?_
    show Ends p e below s 16 128 (Q0 Z p0 p1 p2 p3  h0 n0) (T143.setTop (mkF m 331 #[.val (.int p0), .val (.int p1), .val (.int p2), .val (.int p3), .val (.int v1), .val (.int v2), .val (.int v3), .val (.ref b4), .val (.ref b17), .val (.int (3 : Int32)), .unset, .val (.int (2 : Int32))] [(.int (3 : Int32))]))
    refine Ends.via (fun _ k => XS.istore X143.here hx rfl (hb hby at_331) rfl (l' := #[.val (.int p0), .val (.int p1), .val (.int p2), .val (.int p3), .val (.int v1), .val (.int v2), .val (.int v3), .val (.ref b4), .val (.ref b17), .val (.int (3 : Int32)), .val (.int (3 : Int32)), .val (.int (2 : Int32))]) rfl k) ?_
    show Ends p e below s 16 128 (Q0 Z p0 p1 p2 p3  h0 n0) (T143.setTop (mkF m 333 #[.val (.int p0), .val (.int p1), .val (.int p2), .val (.int p3), .val (.int v1), .val (.int v2), .val (.int v3), .val (.ref b4), .val (.ref b17), .val (.int (3 : Int32)), .val (.int (3 : Int32)), .val (.int (2 : Int32))] []))
    refine Ends.via (fun _ k => XS.iload X143.here hx rfl (hb hby at_333) rfl k) ?_
    show Ends p e below s 16 128 (Q0 Z p0 p1 p2 p3  h0 n0) (T143.setTop (mkF m 335 #[.val (.int p0), .val (.int p1), .val (.int p2), .val (.int p3), .val (.int v1), .val (.int v2), .val (.int v3), .val (.ref b4), .val (.ref b17), .val (.int (3 : Int32)), .val (.int (3 : Int32)), .val (.int (2 : Int32))] [(.int (3 : Int32))]))
    refine Ends.via (fun _ k => XS.iload X143.here hx rfl (hb hby at_335) rfl k) ?_
    show Ends p e below s 16 128 (Q0 Z p0 p1 p2 p3  h0 n0) (T143.setTop (mkF m 337 #[.val (.int p0), .val (.int p1), .val (.int p2), .val (.int p3), .val (.int v1), .val (.int v2), .val (.int v3), .val (.ref b4), .val (.ref b17), .val (.int (3 : Int32)), .val (.int (3 : Int32)), .val (.int (2 : Int32))] [(.int (3 : Int32)), (.int (3 : Int32))]))
    have hf146 : (3 : Int32) = (3 : Int32) := by decide
    refine Ends.via (fun _ k => XS.icmpNo X143.here hx rfl (hb hby at_337) rfl (teq hf146).2 k) ?_
    show Ends p e below s 16 128 (Q0 Z p0 p1 p2 p3  h0 n0) (T143.setTop (mkF m 340 #[.val (.int p0), .val (.int p1), .val (.int p2), .val (.int p3), .val (.int v1), .val (.int v2), .val (.int v3), .val (.ref b4), .val (.ref b17), .val (.int (3 : Int32)), .val (.int (3 : Int32)), .val (.int (2 : Int32))] []))
    refine Ends.via (fun _ k => XS.aload X143.here hx rfl (hb hby at_340) rfl rfl k) ?_
    show Ends p e below s 16 128 (Q0 Z p0 p1 p2 p3  h0 n0) (T143.setTop (mkF m 342 #[.val (.int p0), .val (.int p1), .val (.int p2), .val (.int p3), .val (.int v1), .val (.int v2), .val (.int v3), .val (.ref b4), .val (.ref b17), .val (.int (3 : Int32)), .val (.int (3 : Int32)), .val (.int (2 : Int32))] [(.ref b4)]))
    refine Ends.via (fun _ k => XS.aload X143.here hx rfl (hb hby at_342) rfl rfl k) ?_
    show Ends p e below s 16 128 (Q0 Z p0 p1 p2 p3  h0 n0) (T143.setTop (mkF m 344 #[.val (.int p0), .val (.int p1), .val (.int p2), .val (.int p3), .val (.int v1), .val (.int v2), .val (.int v3), .val (.ref b4), .val (.ref b17), .val (.int (3 : Int32)), .val (.int (3 : Int32)), .val (.int (2 : Int32))] [(.ref b17), (.ref b4)]))
    have Beq : own_B Z h143 b4 k4 (List.set (List.set (List.set (own_base v3) (v2).toNatClampNeg (nar .byte ((130 : Int32).toInt8.toInt32))) ((v2 + (2 : Int32))).toNatClampNeg (nar .byte (v1.toInt8.toInt32))) (((v2 + (2 : Int32)) - (1 : Int32))).toNatClampNeg (nar .byte (((v1.toUInt32 >>> ((8 : Int32) &&& 31).toUInt32).toInt32).toInt8.toInt32))) := by rw [← own_same2 (own_base v3) v2 v1 (own_at p2 v2 hv2) hk]; exact f143_1
    obtain ⟨_, _, ⟨T147, L147, k147, n147⟩, -, X147, ⟨Lc147, hQ147, l147, y147, z147⟩, st147⟩ := Jvm.LawKit.callS X143 hx (y := (⟨"com/example/sextant/sextant/ber/BerEncoderPutLengthPinLaw", "same", "([B[B)Z"⟩ : MethodName)) hown (mvT hZ (hw _ (List.mem_of_getElem? (i := 6) rfl))) (mvT hZ (hw _ (List.mem_of_getElem? (i := 7) rfl))) (mvT hZ (hw _ (List.mem_of_getElem? (i := 8) rfl))) (mvT hZ (hw _ (List.mem_of_getElem? (i := 9) rfl))) (by decide) (backOf (W := 0) (rm2 l Z _ hw [] b4 b17 k4 k17 (List.set (List.set (List.set (own_base v3) (v2).toNatClampNeg (nar .byte ((130 : Int32).toInt8.toInt32))) ((v2 + (2 : Int32))).toNatClampNeg (nar .byte (v1.toInt8.toInt32))) (((v2 + (2 : Int32)) - (1 : Int32))).toNatClampNeg (nar .byte (((v1.toUInt32 >>> ((8 : Int32) &&& 31).toUInt32).toInt32).toInt8.toInt32))) h143 n0 Z143 Beq B143) hZ (hw _ (List.mem_of_getElem? (i := 9) rfl)) (hw _ (List.mem_of_getElem? (i := 8) rfl)) (by decide) (by decide)) (g := (mkF m 344 #[.val (.int p0), .val (.int p1), .val (.int p2), .val (.int p3), .val (.int v1), .val (.int v2), .val (.int v3), .val (.ref b4), .val (.ref b17), .val (.int (3 : Int32)), .val (.int (3 : Int32)), .val (.int (2 : Int32))] [(.ref b17), (.ref b4)])) rfl (by rw [hml]; rfl) (argsL := [(.ref b4), (.ref b17)]) (rest := []) (lenOf own_pd1 rfl) rfl (by show 2 * 0 + _ ≤ _; exact Nat.le_of_eq rfl) (hb hby at_344) (fun _ _ => ⟨rfl, e143, (by decide : 2 + 0 ≤ _), (by decide : 24 + 0 ≤ _)⟩)
    dsimp only [Pt.U, Pt.locs, Pt.cells, Pt.slots] at X147 l147 y147 z147 st147 hQ147
    subst l147 y147 z147
    obtain ⟨rfl, Nq147, e147⟩ := hQ147
    have N147 := Fr.app N143 Nq147
    refine Ends.via st147 ?_
    show Ends p e below s 16 128 (Q0 Z p0 p1 p2 p3  h0 n0) (T147.setTop (mkF m 347 #[.val (.int p0), .val (.int p1), .val (.int p2), .val (.int p3), .val (.int v1), .val (.int v2), .val (.int v3), .val (.ref b4), .val (.ref b17), .val (.int (3 : Int32)), .val (.int (3 : Int32)), .val (.int (2 : Int32))] [(.int (1 : Int32))]))
    have hf148 : ¬ ((1 : Int32) = (0 : Int32)) := by decide
    refine Ends.via (fun _ k => XS.ifNo X147.here hx rfl (hb hby at_347) rfl ((if0 _ _).trans (feq hf148).1) k) ?_
    show Ends p e below s 16 128 (Q0 Z p0 p1 p2 p3  h0 n0) (T147.setTop (mkF m 350 #[.val (.int p0), .val (.int p1), .val (.int p2), .val (.int p3), .val (.int v1), .val (.int v2), .val (.int v3), .val (.ref b4), .val (.ref b17), .val (.int (3 : Int32)), .val (.int (3 : Int32)), .val (.int (2 : Int32))] []))
    refine Ends.via (fun _ k => XS.iconst X147.here hx rfl (hb hby at_350) k) ?_
    show Ends p e below s 16 128 (Q0 Z p0 p1 p2 p3  h0 n0) (T147.setTop (mkF m 351 #[.val (.int p0), .val (.int p1), .val (.int p2), .val (.int p3), .val (.int v1), .val (.int v2), .val (.int v3), .val (.ref b4), .val (.ref b17), .val (.int (3 : Int32)), .val (.int (3 : Int32)), .val (.int (2 : Int32))] [(.int (1 : Int32))]))
    refine Ends.via (fun _ k => XS.goto X147.here hx rfl (pc0 := 351) (pc' := 355) rfl (hb hby at_351) (by decide) (by decide) k) ?_
    show Ends p e below s 16 128 (Q0 Z p0 p1 p2 p3  h0 n0) (T147.setTop (mkF m 355 #[.val (.int p0), .val (.int p1), .val (.int p2), .val (.int p3), .val (.int v1), .val (.int v2), .val (.int v3), .val (.ref b4), .val (.ref b17), .val (.int (3 : Int32)), .val (.int (3 : Int32)), .val (.int (2 : Int32))] [(.int (1 : Int32))]))
    refine Ends.ret X147 (v := some (.int (nar .boolean (1 : Int32)))) (fun h => by rw [Bd.returns] at h; cases h) Bd.notSynchronized (fun fs hr => retN X147 hx (t := .boolean) Bd.returns (by simp) (hb hby at_355) hr) ?_ (by decide) (by decide)
    exact ⟨rfl, N147⟩
  · show Ends p e below s 16 128 (Q0 Z p0 p1 p2 p3  h0 n0) (T29.setTop (mkF m 165 #[.val (.int p0), .val (.int p1), .val (.int p2), .val (.int p3), .val (.int v1), .val (.int v2), .val (.int v3), .val (.ref b4), .val (.ref b17), .unset, .unset, .unset] []))
    refine Ends.via (fun _ k => XS.aload Xl.here hx rfl (hb hby at_165) rfl rfl k) ?_
    show Ends p e below s 16 128 (Q0 Z p0 p1 p2 p3  h0 n0) (T29.setTop (mkF m 167 #[.val (.int p0), .val (.int p1), .val (.int p2), .val (.int p3), .val (.int v1), .val (.int v2), .val (.int v3), .val (.ref b4), .val (.ref b17), .unset, .unset, .unset] [(.ref b4)]))
    refine Ends.via (fun _ k => XS.iload Xl.here hx rfl (hb hby at_167) rfl k) ?_
    show Ends p e below s 16 128 (Q0 Z p0 p1 p2 p3  h0 n0) (T29.setTop (mkF m 169 #[.val (.int p0), .val (.int p1), .val (.int p2), .val (.int p3), .val (.int v1), .val (.int v2), .val (.int v3), .val (.ref b4), .val (.ref b17), .unset, .unset, .unset] [(.int v2), (.ref b4)]))
    refine Ends.via (fun _ k => XS.iload Xl.here hx rfl (hb hby at_169) rfl k) ?_
    show Ends p e below s 16 128 (Q0 Z p0 p1 p2 p3  h0 n0) (T29.setTop (mkF m 171 #[.val (.int p0), .val (.int p1), .val (.int p2), .val (.int p3), .val (.int v1), .val (.int v2), .val (.int v3), .val (.ref b4), .val (.ref b17), .unset, .unset, .unset] [(.int v1), (.int v2), (.ref b4)]))
    obtain ⟨_, _, ⟨T149, L149, k149, n149⟩, -, X149, ⟨Lc149, hQ149, l149, y149, z149⟩, st149⟩ := Jvm.LawKit.callS Xl hx (y := (⟨"com/example/sextant/sextant/ber/BerEncoder", "putLength", "([BII)I"⟩ : MethodName)) hown (mvT hZ (hw _ (List.mem_of_getElem? (i := 2) rfl))) (mvT hZ (hw _ (List.mem_of_getElem? (i := 3) rfl))) (mvT hZ (hw _ (List.mem_of_getElem? (i := 4) rfl))) (mvT hZ (hw _ (List.mem_of_getElem? (i := 5) rfl))) (by decide) (backOf (W := 0) (rm1 l Z _ hw [] b4 v2 v1 k4 (own_base v3) h29 n0 Z29 Bbb4 g_b4 (own_at p2 v2 hv2) (own_len p0 p1 v1 hv1)) hZ (hw _ (List.mem_of_getElem? (i := 5) rfl)) (hw _ (List.mem_of_getElem? (i := 4) rfl)) (by decide) (by decide)) (g := (mkF m 171 #[.val (.int p0), .val (.int p1), .val (.int p2), .val (.int p3), .val (.int v1), .val (.int v2), .val (.int v3), .val (.ref b4), .val (.ref b17), .unset, .unset, .unset] [(.int v1), (.int v2), (.ref b4)])) rfl (by rw [hml]; rfl) (argsL := [(.ref b4), (.int v2), (.int v1)]) (rest := []) (lenOf own_pd0 rfl) rfl (by show 2 * 0 + _ ≤ _; exact Nat.le_of_eq rfl) (hb hby at_171) (fun _ _ => ⟨rfl, e29, (by decide : 2 + 0 ≤ _), (by decide : 24 + 0 ≤ _)⟩)
    dsimp only [Pt.U, Pt.locs, Pt.cells, Pt.slots] at X149 l149 y149 z149 st149 hQ149
    subst l149 y149 z149
    obtain ⟨rfl, Nq149, Kq149, Bq149⟩ := hQ149
    have N149 := Fr.app Nl Nq149
    have f149_1 := Bbb17.keep Kq149 (ninS (Ne.symm ne_b4_b17) nin0)
    have Z149 : n0 ≤ T149.heap.size := Nat.le_trans Z29 Kq149.1
    rw [own_cn3 v1 hk] at st149
    refine Ends.via st149 ?_
    show Ends p e below s 16 128 (Q0 Z p0 p1 p2 p3  h0 n0) (T149.setTop (mkF m 174 #[.val (.int p0), .val (.int p1), .val (.int p2), .val (.int p3), .val (.int v1), .val (.int v2), .val (.int v3), .val (.ref b4), .val (.ref b17), .unset, .unset, .unset] [(.int (4 : Int32))]))
    refine Ends.via (fun _ k => XS.istore X149.here hx rfl (hb hby at_174) rfl (l' := #[.val (.int p0), .val (.int p1), .val (.int p2), .val (.int p3), .val (.int v1), .val (.int v2), .val (.int v3), .val (.ref b4), .val (.ref b17), .val (.int (4 : Int32)), .unset, .unset]) rfl k) ?_
    show Ends p e below s 16 128 (Q0 Z p0 p1 p2 p3  h0 n0) (T149.setTop (mkF m 176 #[.val (.int p0), .val (.int p1), .val (.int p2), .val (.int p3), .val (.int v1), .val (.int v2), .val (.int v3), .val (.ref b4), .val (.ref b17), .val (.int (4 : Int32)), .unset, .unset] []))
    refine Ends.via (fun _ k => XS.iload X149.here hx rfl (hb hby at_176) rfl k) ?_
    show Ends p e below s 16 128 (Q0 Z p0 p1 p2 p3  h0 n0) (T149.setTop (mkF m 178 #[.val (.int p0), .val (.int p1), .val (.int p2), .val (.int p3), .val (.int v1), .val (.int v2), .val (.int v3), .val (.ref b4), .val (.ref b17), .val (.int (4 : Int32)), .unset, .unset] [(.int v1)]))
    refine Ends.via (fun _ k => XS.sipush X149.here hx rfl (hb hby at_178) k) ?_
    show Ends p e below s 16 128 (Q0 Z p0 p1 p2 p3  h0 n0) (T149.setTop (mkF m 181 #[.val (.int p0), .val (.int p1), .val (.int p2), .val (.int p3), .val (.int v1), .val (.int v2), .val (.int v3), .val (.ref b4), .val (.ref b17), .val (.int (4 : Int32)), .unset, .unset] [(.int (128 : Int32)), (.int v1)]))
    have hf150 : ¬ (v1 < (128 : Int32)) := own_b0_3 hk
    refine Ends.via (fun _ k => XS.icmpYes X149.here hx rfl (pc0 := 181) (pc' := 198) rfl (hb hby at_181) rfl (flt hf150).2.1 (by decide) (by decide) k) ?_
    show Ends p e below s 16 128 (Q0 Z p0 p1 p2 p3  h0 n0) (T149.setTop (mkF m 198 #[.val (.int p0), .val (.int p1), .val (.int p2), .val (.int p3), .val (.int v1), .val (.int v2), .val (.int v3), .val (.ref b4), .val (.ref b17), .val (.int (4 : Int32)), .unset, .unset] []))
    refine Ends.via (fun _ k => XS.iload X149.here hx rfl (hb hby at_198) rfl k) ?_
    show Ends p e below s 16 128 (Q0 Z p0 p1 p2 p3  h0 n0) (T149.setTop (mkF m 200 #[.val (.int p0), .val (.int p1), .val (.int p2), .val (.int p3), .val (.int v1), .val (.int v2), .val (.int v3), .val (.ref b4), .val (.ref b17), .val (.int (4 : Int32)), .unset, .unset] [(.int v1)]))
    refine Ends.via (fun _ k => XS.sipush X149.here hx rfl (hb hby at_200) k) ?_
    show Ends p e below s 16 128 (Q0 Z p0 p1 p2 p3  h0 n0) (T149.setTop (mkF m 203 #[.val (.int p0), .val (.int p1), .val (.int p2), .val (.int p3), .val (.int v1), .val (.int v2), .val (.int v3), .val (.ref b4), .val (.ref b17), .val (.int (4 : Int32)), .unset, .unset] [(.int (256 : Int32)), (.int v1)]))
    have hf151 : ¬ (v1 < (256 : Int32)) := own_b1_3 hk
    refine Ends.via (fun _ k => XS.icmpYes X149.here hx rfl (pc0 := 203) (pc' := 212) rfl (hb hby at_203) rfl (flt hf151).2.1 (by decide) (by decide) k) ?_
    show Ends p e below s 16 128 (Q0 Z p0 p1 p2 p3  h0 n0) (T149.setTop (mkF m 212 #[.val (.int p0), .val (.int p1), .val (.int p2), .val (.int p3), .val (.int v1), .val (.int v2), .val (.int v3), .val (.ref b4), .val (.ref b17), .val (.int (4 : Int32)), .unset, .unset] []))
    refine Ends.via (fun _ k => XS.iload X149.here hx rfl (hb hby at_212) rfl k) ?_
    show Ends p e below s 16 128 (Q0 Z p0 p1 p2 p3  h0 n0) (T149.setTop (mkF m 214 #[.val (.int p0), .val (.int p1), .val (.int p2), .val (.int p3), .val (.int v1), .val (.int v2), .val (.int v3), .val (.ref b4), .val (.ref b17), .val (.int (4 : Int32)), .unset, .unset] [(.int v1)]))
    refine Ends.via (X149.ldcInt hx hown (mvT hZ (hw _ (List.mem_of_getElem? (i := 10) rfl))) (g := (mkF m 214 #[.val (.int p0), .val (.int p1), .val (.int p2), .val (.int p3), .val (.int v1), .val (.int v2), .val (.int v3), .val (.ref b4), .val (.ref b17), .val (.int (4 : Int32)), .unset, .unset] [(.int v1)])) rfl (hb hby at_214)) ?_
    show Ends p e below s 16 128 (Q0 Z p0 p1 p2 p3  h0 n0) (T149.setTop (mkF m 216 #[.val (.int p0), .val (.int p1), .val (.int p2), .val (.int p3), .val (.int v1), .val (.int v2), .val (.int v3), .val (.ref b4), .val (.ref b17), .val (.int (4 : Int32)), .unset, .unset] [(.int (65536 : Int32)), (.int v1)]))
    have hf152 : ¬ (v1 < (65536 : Int32)) := own_b2_3 hk
    refine Ends.via (fun _ k => XS.icmpYes X149.here hx rfl (pc0 := 216) (pc' := 225) rfl (hb hby at_216) rfl (flt hf152).2.1 (by decide) (by decide) k) ?_
    show Ends p e below s 16 128 (Q0 Z p0 p1 p2 p3  h0 n0) (T149.setTop (mkF m 225 #[.val (.int p0), .val (.int p1), .val (.int p2), .val (.int p3), .val (.int v1), .val (.int v2), .val (.int v3), .val (.ref b4), .val (.ref b17), .val (.int (4 : Int32)), .unset, .unset] []))
    refine Ends.via (fun _ k => XS.iload X149.here hx rfl (hb hby at_225) rfl k) ?_
    show Ends p e below s 16 128 (Q0 Z p0 p1 p2 p3  h0 n0) (T149.setTop (mkF m 227 #[.val (.int p0), .val (.int p1), .val (.int p2), .val (.int p3), .val (.int v1), .val (.int v2), .val (.int v3), .val (.ref b4), .val (.ref b17), .val (.int (4 : Int32)), .unset, .unset] [(.int v1)]))
    refine Ends.via (X149.ldcInt hx hown (mvT hZ (hw _ (List.mem_of_getElem? (i := 11) rfl))) (g := (mkF m 227 #[.val (.int p0), .val (.int p1), .val (.int p2), .val (.int p3), .val (.int v1), .val (.int v2), .val (.int v3), .val (.ref b4), .val (.ref b17), .val (.int (4 : Int32)), .unset, .unset] [(.int v1)])) rfl (hb hby at_227)) ?_
    show Ends p e below s 16 128 (Q0 Z p0 p1 p2 p3  h0 n0) (T149.setTop (mkF m 229 #[.val (.int p0), .val (.int p1), .val (.int p2), .val (.int p3), .val (.int v1), .val (.int v2), .val (.int v3), .val (.ref b4), .val (.ref b17), .val (.int (4 : Int32)), .unset, .unset] [(.int (16777216 : Int32)), (.int v1)]))
    have hf153 : v1 < (16777216 : Int32) := own_b3_3 hk
    refine Ends.via (fun _ k => XS.icmpNo X149.here hx rfl (hb hby at_229) rfl (tlt hf153).2.1 k) ?_
    show Ends p e below s 16 128 (Q0 Z p0 p1 p2 p3  h0 n0) (T149.setTop (mkF m 232 #[.val (.int p0), .val (.int p1), .val (.int p2), .val (.int p3), .val (.int v1), .val (.int v2), .val (.int v3), .val (.ref b4), .val (.ref b17), .val (.int (4 : Int32)), .unset, .unset] []))
    refine Ends.via (fun _ k => XS.iconst X149.here hx rfl (hb hby at_232) k) ?_
    show Ends p e below s 16 128 (Q0 Z p0 p1 p2 p3  h0 n0) (T149.setTop (mkF m 233 #[.val (.int p0), .val (.int p1), .val (.int p2), .val (.int p3), .val (.int v1), .val (.int v2), .val (.int v3), .val (.ref b4), .val (.ref b17), .val (.int (4 : Int32)), .unset, .unset] [(.int (3 : Int32))]))
    refine Ends.via (fun _ k => XS.istore X149.here hx rfl (hb hby at_233) rfl (l' := #[.val (.int p0), .val (.int p1), .val (.int p2), .val (.int p3), .val (.int v1), .val (.int v2), .val (.int v3), .val (.ref b4), .val (.ref b17), .val (.int (4 : Int32)), .unset, .val (.int (3 : Int32))]) rfl k) ?_
    show Ends p e below s 16 128 (Q0 Z p0 p1 p2 p3  h0 n0) (T149.setTop (mkF m 235 #[.val (.int p0), .val (.int p1), .val (.int p2), .val (.int p3), .val (.int v1), .val (.int v2), .val (.int v3), .val (.ref b4), .val (.ref b17), .val (.int (4 : Int32)), .unset, .val (.int (3 : Int32))] []))
    refine Ends.via (fun _ k => XS.goto X149.here hx rfl (pc0 := 235) (pc' := 241) rfl (hb hby at_235) (by decide) (by decide) k) ?_
    show Ends p e below s 16 128 (Q0 Z p0 p1 p2 p3  h0 n0) (T149.setTop (mkF m 241 #[.val (.int p0), .val (.int p1), .val (.int p2), .val (.int p3), .val (.int v1), .val (.int v2), .val (.int v3), .val (.ref b4), .val (.ref b17), .val (.int (4 : Int32)), .unset, .val (.int (3 : Int32))] []))
    refine Ends.via (fun _ k => XS.aload X149.here hx rfl (hb hby at_241) rfl rfl k) ?_
    show Ends p e below s 16 128 (Q0 Z p0 p1 p2 p3  h0 n0) (T149.setTop (mkF m 243 #[.val (.int p0), .val (.int p1), .val (.int p2), .val (.int p3), .val (.int v1), .val (.int v2), .val (.int v3), .val (.ref b4), .val (.ref b17), .val (.int (4 : Int32)), .unset, .val (.int (3 : Int32))] [(.ref b17)]))
    refine Ends.via (fun _ k => XS.iload X149.here hx rfl (hb hby at_243) rfl k) ?_
    show Ends p e below s 16 128 (Q0 Z p0 p1 p2 p3  h0 n0) (T149.setTop (mkF m 245 #[.val (.int p0), .val (.int p1), .val (.int p2), .val (.int p3), .val (.int v1), .val (.int v2), .val (.int v3), .val (.ref b4), .val (.ref b17), .val (.int (4 : Int32)), .unset, .val (.int (3 : Int32))] [(.int v2), (.ref b17)]))
    refine Ends.via (fun _ k => XS.sipush X149.here hx rfl (hb hby at_245) k) ?_
    show Ends p e below s 16 128 (Q0 Z p0 p1 p2 p3  h0 n0) (T149.setTop (mkF m 248 #[.val (.int p0), .val (.int p1), .val (.int p2), .val (.int p3), .val (.int v1), .val (.int v2), .val (.int v3), .val (.ref b4), .val (.ref b17), .val (.int (4 : Int32)), .unset, .val (.int (3 : Int32))] [(.int (128 : Int32)), (.int v2), (.ref b17)]))
    refine Ends.via (fun _ k => XS.iload X149.here hx rfl (hb hby at_248) rfl k) ?_
    show Ends p e below s 16 128 (Q0 Z p0 p1 p2 p3  h0 n0) (T149.setTop (mkF m 250 #[.val (.int p0), .val (.int p1), .val (.int p2), .val (.int p3), .val (.int v1), .val (.int v2), .val (.int v3), .val (.ref b4), .val (.ref b17), .val (.int (4 : Int32)), .unset, .val (.int (3 : Int32))] [(.int (3 : Int32)), (.int (128 : Int32)), (.int v2), (.ref b17)]))
    refine Ends.via (fun _ k => XS.ior X149.here hx rfl (hb hby at_250) rfl k) ?_
    show Ends p e below s 16 128 (Q0 Z p0 p1 p2 p3  h0 n0) (T149.setTop (mkF m 251 #[.val (.int p0), .val (.int p1), .val (.int p2), .val (.int p3), .val (.int v1), .val (.int v2), .val (.int v3), .val (.ref b4), .val (.ref b17), .val (.int (4 : Int32)), .unset, .val (.int (3 : Int32))] [(.int (131 : Int32)), (.int v2), (.ref b17)]))
    refine Ends.via (fun _ k => XS.i2b X149.here hx rfl (hb hby at_251) rfl k) ?_
    show Ends p e below s 16 128 (Q0 Z p0 p1 p2 p3  h0 n0) (T149.setTop (mkF m 252 #[.val (.int p0), .val (.int p1), .val (.int p2), .val (.int p3), .val (.int v1), .val (.int v2), .val (.int v3), .val (.ref b4), .val (.ref b17), .val (.int (4 : Int32)), .unset, .val (.int (3 : Int32))] [(.int ((131 : Int32).toInt8.toInt32)), (.int v2), (.ref b17)]))
    obtain ⟨T154, h154, X154, e154, W154, B154, st154⟩ := own_stB X149 hx hZ rfl f149_1 (j := v2) (own_in0 v2 (own_at p2 v2 hv2)) (g := (mkF m 252 #[.val (.int p0), .val (.int p1), .val (.int p2), .val (.int p3), .val (.int v1), .val (.int v2), .val (.int v3), .val (.ref b4), .val (.ref b17), .val (.int (4 : Int32)), .unset, .val (.int (3 : Int32))] [(.int ((131 : Int32).toInt8.toInt32)), (.int v2), (.ref b17)])) rfl rfl (hb hby at_252)
    have f154_1 := Bq149.other W154 ne_b4_b17
    have Z154 : n0 ≤ h154.size := Nat.le_trans Z149 (Keep.of_wr W154).1
    have N154 := Fr.snoc X154 N149 g_b17
    refine Ends.via st154 ?_
    show Ends p e below s 16 128 (Q0 Z p0 p1 p2 p3  h0 n0) (T154.setTop (mkF m 253 #[.val (.int p0), .val (.int p1), .val (.int p2), .val (.int p3), .val (.int v1), .val (.int v2), .val (.int v3), .val (.ref b4), .val (.ref b17), .val (.int (4 : Int32)), .unset, .val (.int (3 : Int32))] []))
    refine Ends.via (fun _ k => XS.aload X154.here hx rfl (hb hby at_253) rfl rfl k) ?_
    show Ends p e below s 16 128 (Q0 Z p0 p1 p2 p3  h0 n0) (T154.setTop (mkF m 255 #[.val (.int p0), .val (.int p1), .val (.int p2), .val (.int p3), .val (.int v1), .val (.int v2), .val (.int v3), .val (.ref b4), .val (.ref b17), .val (.int (4 : Int32)), .unset, .val (.int (3 : Int32))] [(.ref b17)]))
    refine Ends.via (fun _ k => XS.iload X154.here hx rfl (hb hby at_255) rfl k) ?_
    show Ends p e below s 16 128 (Q0 Z p0 p1 p2 p3  h0 n0) (T154.setTop (mkF m 257 #[.val (.int p0), .val (.int p1), .val (.int p2), .val (.int p3), .val (.int v1), .val (.int v2), .val (.int v3), .val (.ref b4), .val (.ref b17), .val (.int (4 : Int32)), .unset, .val (.int (3 : Int32))] [(.int v2), (.ref b17)]))
    refine Ends.via (fun _ k => XS.iload X154.here hx rfl (hb hby at_257) rfl k) ?_
    show Ends p e below s 16 128 (Q0 Z p0 p1 p2 p3  h0 n0) (T154.setTop (mkF m 259 #[.val (.int p0), .val (.int p1), .val (.int p2), .val (.int p3), .val (.int v1), .val (.int v2), .val (.int v3), .val (.ref b4), .val (.ref b17), .val (.int (4 : Int32)), .unset, .val (.int (3 : Int32))] [(.int (3 : Int32)), (.int v2), (.ref b17)]))
    refine Ends.via (fun _ k => XS.iadd X154.here hx rfl (hb hby at_259) rfl k) ?_
    show Ends p e below s 16 128 (Q0 Z p0 p1 p2 p3  h0 n0) (T154.setTop (mkF m 260 #[.val (.int p0), .val (.int p1), .val (.int p2), .val (.int p3), .val (.int v1), .val (.int v2), .val (.int v3), .val (.ref b4), .val (.ref b17), .val (.int (4 : Int32)), .unset, .val (.int (3 : Int32))] [(.int (v2 + (3 : Int32))), (.ref b17)]))
    refine Ends.via (fun _ k => XS.iload X154.here hx rfl (hb hby at_260) rfl k) ?_
    show Ends p e below s 16 128 (Q0 Z p0 p1 p2 p3  h0 n0) (T154.setTop (mkF m 262 #[.val (.int p0), .val (.int p1), .val (.int p2), .val (.int p3), .val (.int v1), .val (.int v2), .val (.int v3), .val (.ref b4), .val (.ref b17), .val (.int (4 : Int32)), .unset, .val (.int (3 : Int32))] [(.int v1), (.int (v2 + (3 : Int32))), (.ref b17)]))
    refine Ends.via (fun _ k => XS.i2b X154.here hx rfl (hb hby at_262) rfl k) ?_
    show Ends p e below s 16 128 (Q0 Z p0 p1 p2 p3  h0 n0) (T154.setTop (mkF m 263 #[.val (.int p0), .val (.int p1), .val (.int p2), .val (.int p3), .val (.int v1), .val (.int v2), .val (.int v3), .val (.ref b4), .val (.ref b17), .val (.int (4 : Int32)), .unset, .val (.int (3 : Int32))] [(.int (v1.toInt8.toInt32)), (.int (v2 + (3 : Int32))), (.ref b17)]))
    obtain ⟨T155, h155, X155, e155, W155, B155, st155⟩ := own_stB X154 hx hZ e154 B154 (j := (v2 + (3 : Int32))) (own_in v2 (own_at p2 v2 hv2) (3 : Int32) 3 rfl (by decide)) (g := (mkF m 263 #[.val (.int p0), .val (.int p1), .val (.int p2), .val (.int p3), .val (.int v1), .val (.int v2), .val (.int v3), .val (.ref b4), .val (.ref b17), .val (.int (4 : Int32)), .unset, .val (.int (3 : Int32))] [(.int (v1.toInt8.toInt32)), (.int (v2 + (3 : Int32))), (.ref b17)])) rfl rfl (hb hby at_263)
    have f155_1 := f154_1.other W155 ne_b4_b17
    have Z155 : n0 ≤ h155.size := Nat.le_trans Z154 (Keep.of_wr W155).1
    have N155 := Fr.snoc X155 N154 g_b17
    refine Ends.via st155 ?_
    show Ends p e below s 16 128 (Q0 Z p0 p1 p2 p3  h0 n0) (T155.setTop (mkF m 264 #[.val (.int p0), .val (.int p1), .val (.int p2), .val (.int p3), .val (.int v1), .val (.int v2), .val (.int v3), .val (.ref b4), .val (.ref b17), .val (.int (4 : Int32)), .unset, .val (.int (3 : Int32))] []))
    refine Ends.via (fun _ k => XS.iload X155.here hx rfl (hb hby at_264) rfl k) ?_
    show Ends p e below s 16 128 (Q0 Z p0 p1 p2 p3  h0 n0) (T155.setTop (mkF m 266 #[.val (.int p0), .val (.int p1), .val (.int p2), .val (.int p3), .val (.int v1), .val (.int v2), .val (.int v3), .val (.ref b4), .val (.ref b17), .val (.int (4 : Int32)), .unset, .val (.int (3 : Int32))] [(.int (3 : Int32))]))
    refine Ends.via (fun _ k => XS.iconst X155.here hx rfl (hb hby at_266) k) ?_
    show Ends p e below s 16 128 (Q0 Z p0 p1 p2 p3  h0 n0) (T155.setTop (mkF m 267 #[.val (.int p0), .val (.int p1), .val (.int p2), .val (.int p3), .val (.int v1), .val (.int v2), .val (.int v3), .val (.ref b4), .val (.ref b17), .val (.int (4 : Int32)), .unset, .val (.int (3 : Int32))] [(.int (2 : Int32)), (.int (3 : Int32))]))
    have hf156 : ¬ ((3 : Int32) < (2 : Int32)) := by decide
    refine Ends.via (fun _ k => XS.icmpNo X155.here hx rfl (hb hby at_267) rfl (flt hf156).1 k) ?_
    show Ends p e below s 16 128 (Q0 Z p0 p1 p2 p3  h0 n0) (T155.setTop (mkF m 270 #[.val (.int p0), .val (.int p1), .val (.int p2), .val (.int p3), .val (.int v1), .val (.int v2), .val (.int v3), .val (.ref b4), .val (.ref b17), .val (.int (4 : Int32)), .unset, .val (.int (3 : Int32))] []))
    refine Ends.via (fun _ k => XS.aload X155.here hx rfl (hb hby at_270) rfl rfl k) ?_
    show Ends p e below s 16 128 (Q0 Z p0 p1 p2 p3  h0 n0) (T155.setTop (mkF m 272 #[.val (.int p0), .val (.int p1), .val (.int p2), .val (.int p3), .val (.int v1), .val (.int v2), .val (.int v3), .val (.ref b4), .val (.ref b17), .val (.int (4 : Int32)), .unset, .val (.int (3 : Int32))] [(.ref b17)]))
    refine Ends.via (fun _ k => XS.iload X155.here hx rfl (hb hby at_272) rfl k) ?_
    show Ends p e below s 16 128 (Q0 Z p0 p1 p2 p3  h0 n0) (T155.setTop (mkF m 274 #[.val (.int p0), .val (.int p1), .val (.int p2), .val (.int p3), .val (.int v1), .val (.int v2), .val (.int v3), .val (.ref b4), .val (.ref b17), .val (.int (4 : Int32)), .unset, .val (.int (3 : Int32))] [(.int v2), (.ref b17)]))
    refine Ends.via (fun _ k => XS.iload X155.here hx rfl (hb hby at_274) rfl k) ?_
    show Ends p e below s 16 128 (Q0 Z p0 p1 p2 p3  h0 n0) (T155.setTop (mkF m 276 #[.val (.int p0), .val (.int p1), .val (.int p2), .val (.int p3), .val (.int v1), .val (.int v2), .val (.int v3), .val (.ref b4), .val (.ref b17), .val (.int (4 : Int32)), .unset, .val (.int (3 : Int32))] [(.int (3 : Int32)), (.int v2), (.ref b17)]))
    refine Ends.via (fun _ k => XS.iadd X155.here hx rfl (hb hby at_276) rfl k) ?_
    show Ends p e below s 16 128 (Q0 Z p0 p1 p2 p3  h0 n0) (T155.setTop (mkF m 277 #[.val (.int p0), .val (.int p1), .val (.int p2), .val (.int p3), .val (.int v1), .val (.int v2), .val (.int v3), .val (.ref b4), .val (.ref b17), .val (.int (4 : Int32)), .unset, .val (.int (3 : Int32))] [(.int (v2 + (3 : Int32))), (.ref b17)]))
    refine Ends.via (fun _ k => XS.iconst X155.here hx rfl (hb hby at_277) k) ?_
    show Ends p e below s 16 128 (Q0 Z p0 p1 p2 p3  h0 n0) (T155.setTop (mkF m 278 #[.val (.int p0), .val (.int p1), .val (.int p2), .val (.int p3), .val (.int v1), .val (.int v2), .val (.int v3), .val (.ref b4), .val (.ref b17), .val (.int (4 : Int32)), .unset, .val (.int (3 : Int32))] [(.int (1 : Int32)), (.int (v2 + (3 : Int32))), (.ref b17)]))
    refine Ends.via (fun _ k => XS.isub X155.here hx rfl (hb hby at_278) rfl k) ?_
    show Ends p e below s 16 128 (Q0 Z p0 p1 p2 p3  h0 n0) (T155.setTop (mkF m 279 #[.val (.int p0), .val (.int p1), .val (.int p2), .val (.int p3), .val (.int v1), .val (.int v2), .val (.int v3), .val (.ref b4), .val (.ref b17), .val (.int (4 : Int32)), .unset, .val (.int (3 : Int32))] [(.int ((v2 + (3 : Int32)) - (1 : Int32))), (.ref b17)]))
    refine Ends.via (fun _ k => XS.iload X155.here hx rfl (hb hby at_279) rfl k) ?_
    show Ends p e below s 16 128 (Q0 Z p0 p1 p2 p3  h0 n0) (T155.setTop (mkF m 281 #[.val (.int p0), .val (.int p1), .val (.int p2), .val (.int p3), .val (.int v1), .val (.int v2), .val (.int v3), .val (.ref b4), .val (.ref b17), .val (.int (4 : Int32)), .unset, .val (.int (3 : Int32))] [(.int v1), (.int ((v2 + (3 : Int32)) - (1 : Int32))), (.ref b17)]))
    refine Ends.via (fun _ k => XS.bipush X155.here hx rfl (hb hby at_281) k) ?_
    show Ends p e below s 16 128 (Q0 Z p0 p1 p2 p3  h0 n0) (T155.setTop (mkF m 283 #[.val (.int p0), .val (.int p1), .val (.int p2), .val (.int p3), .val (.int v1), .val (.int v2), .val (.int v3), .val (.ref b4), .val (.ref b17), .val (.int (4 : Int32)), .unset, .val (.int (3 : Int32))] [(.int (8 : Int32)), (.int v1), (.int ((v2 + (3 : Int32)) - (1 : Int32))), (.ref b17)]))
    refine Ends.via (fun _ k => XS.iushr X155.here hx rfl (hb hby at_283) rfl k) ?_
    show Ends p e below s 16 128 (Q0 Z p0 p1 p2 p3  h0 n0) (T155.setTop (mkF m 284 #[.val (.int p0), .val (.int p1), .val (.int p2), .val (.int p3), .val (.int v1), .val (.int v2), .val (.int v3), .val (.ref b4), .val (.ref b17), .val (.int (4 : Int32)), .unset, .val (.int (3 : Int32))] [(.int ((v1.toUInt32 >>> ((8 : Int32) &&& 31).toUInt32).toInt32)), (.int ((v2 + (3 : Int32)) - (1 : Int32))), (.ref b17)]))
    refine Ends.via (fun _ k => XS.i2b X155.here hx rfl (hb hby at_284) rfl k) ?_
    show Ends p e below s 16 128 (Q0 Z p0 p1 p2 p3  h0 n0) (T155.setTop (mkF m 285 #[.val (.int p0), .val (.int p1), .val (.int p2), .val (.int p3), .val (.int v1), .val (.int v2), .val (.int v3), .val (.ref b4), .val (.ref b17), .val (.int (4 : Int32)), .unset, .val (.int (3 : Int32))] [(.int (((v1.toUInt32 >>> ((8 : Int32) &&& 31).toUInt32).toInt32).toInt8.toInt32)), (.int ((v2 + (3 : Int32)) - (1 : Int32))), (.ref b17)]))
    obtain ⟨T157, h157, X157, e157, W157, B157, st157⟩ := own_stB X155 hx hZ e155 B155 (j := ((v2 + (3 : Int32)) - (1 : Int32))) (own_in2 v2 (own_at p2 v2 hv2) (3 : Int32) (1 : Int32) 3 1 rfl rfl (by decide) (by decide)) (g := (mkF m 285 #[.val (.int p0), .val (.int p1), .val (.int p2), .val (.int p3), .val (.int v1), .val (.int v2), .val (.int v3), .val (.ref b4), .val (.ref b17), .val (.int (4 : Int32)), .unset, .val (.int (3 : Int32))] [(.int (((v1.toUInt32 >>> ((8 : Int32) &&& 31).toUInt32).toInt32).toInt8.toInt32)), (.int ((v2 + (3 : Int32)) - (1 : Int32))), (.ref b17)])) rfl rfl (hb hby at_285)
    have f157_1 := f155_1.other W157 ne_b4_b17
    have Z157 : n0 ≤ h157.size := Nat.le_trans Z155 (Keep.of_wr W157).1
    have N157 := Fr.snoc X157 N155 g_b17
    refine Ends.via st157 ?_
    show Ends p e below s 16 128 (Q0 Z p0 p1 p2 p3  h0 n0) (T157.setTop (mkF m 286 #[.val (.int p0), .val (.int p1), .val (.int p2), .val (.int p3), .val (.int v1), .val (.int v2), .val (.int v3), .val (.ref b4), .val (.ref b17), .val (.int (4 : Int32)), .unset, .val (.int (3 : Int32))] []))
    refine Ends.via (fun _ k => XS.iload X157.here hx rfl (hb hby at_286) rfl k) ?_
    show Ends p e below s 16 128 (Q0 Z p0 p1 p2 p3  h0 n0) (T157.setTop (mkF m 288 #[.val (.int p0), .val (.int p1), .val (.int p2), .val (.int p3), .val (.int v1), .val (.int v2), .val (.int v3), .val (.ref b4), .val (.ref b17), .val (.int (4 : Int32)), .unset, .val (.int (3 : Int32))] [(.int (3 : Int32))]))
    refine Ends.via (fun _ k => XS.iconst X157.here hx rfl (hb hby at_288) k) ?_
    show Ends p e below s 16 128 (Q0 Z p0 p1 p2 p3  h0 n0) (T157.setTop (mkF m 289 #[.val (.int p0), .val (.int p1), .val (.int p2), .val (.int p3), .val (.int v1), .val (.int v2), .val (.int v3), .val (.ref b4), .val (.ref b17), .val (.int (4 : Int32)), .unset, .val (.int (3 : Int32))] [(.int (3 : Int32)), (.int (3 : Int32))]))
    have hf158 : ¬ ((3 : Int32) < (3 : Int32)) := by decide
    refine Ends.via (fun _ k => XS.icmpNo X157.here hx rfl (hb hby at_289) rfl (flt hf158).1 k) ?_
    show Ends p e below s 16 128 (Q0 Z p0 p1 p2 p3  h0 n0) (T157.setTop (mkF m 292 #[.val (.int p0), .val (.int p1), .val (.int p2), .val (.int p3), .val (.int v1), .val (.int v2), .val (.int v3), .val (.ref b4), .val (.ref b17), .val (.int (4 : Int32)), .unset, .val (.int (3 : Int32))] []))
    refine Ends.via (fun _ k => XS.aload X157.here hx rfl (hb hby at_292) rfl rfl k) ?_
    show Ends p e below s 16 128 (Q0 Z p0 p1 p2 p3  h0 n0) (T157.setTop (mkF m 294 #[.val (.int p0), .val (.int p1), .val (.int p2), .val (.int p3), .val (.int v1), .val (.int v2), .val (.int v3), .val (.ref b4), .val (.ref b17), .val (.int (4 : Int32)), .unset, .val (.int (3 : Int32))] [(.ref b17)]))
    refine Ends.via (fun _ k => XS.iload X157.here hx rfl (hb hby at_294) rfl k) ?_
    show Ends p e below s 16 128 (Q0 Z p0 p1 p2 p3  h0 n0) (T157.setTop (mkF m 296 #[.val (.int p0), .val (.int p1), .val (.int p2), .val (.int p3), .val (.int v1), .val (.int v2), .val (.int v3), .val (.ref b4), .val (.ref b17), .val (.int (4 : Int32)), .unset, .val (.int (3 : Int32))] [(.int v2), (.ref b17)]))
    refine Ends.via (fun _ k => XS.iload X157.here hx rfl (hb hby at_296) rfl k) ?_
    show Ends p e below s 16 128 (Q0 Z p0 p1 p2 p3  h0 n0) (T157.setTop (mkF m 298 #[.val (.int p0), .val (.int p1), .val (.int p2), .val (.int p3), .val (.int v1), .val (.int v2), .val (.int v3), .val (.ref b4), .val (.ref b17), .val (.int (4 : Int32)), .unset, .val (.int (3 : Int32))] [(.int (3 : Int32)), (.int v2), (.ref b17)]))
    refine Ends.via (fun _ k => XS.iadd X157.here hx rfl (hb hby at_298) rfl k) ?_
    show Ends p e below s 16 128 (Q0 Z p0 p1 p2 p3  h0 n0) (T157.setTop (mkF m 299 #[.val (.int p0), .val (.int p1), .val (.int p2), .val (.int p3), .val (.int v1), .val (.int v2), .val (.int v3), .val (.ref b4), .val (.ref b17), .val (.int (4 : Int32)), .unset, .val (.int (3 : Int32))] [(.int (v2 + (3 : Int32))), (.ref b17)]))
    refine Ends.via (fun _ k => XS.iconst X157.here hx rfl (hb hby at_299) k) ?_
    show Ends p e below s 16 128 (Q0 Z p0 p1 p2 p3  h0 n0) (T157.setTop (mkF m 300 #[.val (.int p0), .val (.int p1), .val (.int p2), .val (.int p3), .val (.int v1), .val (.int v2), .val (.int v3), .val (.ref b4), .val (.ref b17), .val (.int (4 : Int32)), .unset, .val (.int (3 : Int32))] [(.int (2 : Int32)), (.int (v2 + (3 : Int32))), (.ref b17)]))
    refine Ends.via (fun _ k => XS.isub X157.here hx rfl (hb hby at_300) rfl k) ?_
    show Ends p e below s 16 128 (Q0 Z p0 p1 p2 p3  h0 n0) (T157.setTop (mkF m 301 #[.val (.int p0), .val (.int p1), .val (.int p2), .val (.int p3), .val (.int v1), .val (.int v2), .val (.int v3), .val (.ref b4), .val (.ref b17), .val (.int (4 : Int32)), .unset, .val (.int (3 : Int32))] [(.int ((v2 + (3 : Int32)) - (2 : Int32))), (.ref b17)]))
    refine Ends.via (fun _ k => XS.iload X157.here hx rfl (hb hby at_301) rfl k) ?_
    show Ends p e below s 16 128 (Q0 Z p0 p1 p2 p3  h0 n0) (T157.setTop (mkF m 303 #[.val (.int p0), .val (.int p1), .val (.int p2), .val (.int p3), .val (.int v1), .val (.int v2), .val (.int v3), .val (.ref b4), .val (.ref b17), .val (.int (4 : Int32)), .unset, .val (.int (3 : Int32))] [(.int v1), (.int ((v2 + (3 : Int32)) - (2 : Int32))), (.ref b17)]))
    refine Ends.via (fun _ k => XS.bipush X157.here hx rfl (hb hby at_303) k) ?_
    show Ends p e below s 16 128 (Q0 Z p0 p1 p2 p3  h0 n0) (T157.setTop (mkF m 305 #[.val (.int p0), .val (.int p1), .val (.int p2), .val (.int p3), .val (.int v1), .val (.int v2), .val (.int v3), .val (.ref b4), .val (.ref b17), .val (.int (4 : Int32)), .unset, .val (.int (3 : Int32))] [(.int (16 : Int32)), (.int v1), (.int ((v2 + (3 : Int32)) - (2 : Int32))), (.ref b17)]))
    refine Ends.via (fun _ k => XS.iushr X157.here hx rfl (hb hby at_305) rfl k) ?_
    show Ends p e below s 16 128 (Q0 Z p0 p1 p2 p3  h0 n0) (T157.setTop (mkF m 306 #[.val (.int p0), .val (.int p1), .val (.int p2), .val (.int p3), .val (.int v1), .val (.int v2), .val (.int v3), .val (.ref b4), .val (.ref b17), .val (.int (4 : Int32)), .unset, .val (.int (3 : Int32))] [(.int ((v1.toUInt32 >>> ((16 : Int32) &&& 31).toUInt32).toInt32)), (.int ((v2 + (3 : Int32)) - (2 : Int32))), (.ref b17)]))
    refine Ends.via (fun _ k => XS.i2b X157.here hx rfl (hb hby at_306) rfl k) ?_
    show Ends p e below s 16 128 (Q0 Z p0 p1 p2 p3  h0 n0) (T157.setTop (mkF m 307 #[.val (.int p0), .val (.int p1), .val (.int p2), .val (.int p3), .val (.int v1), .val (.int v2), .val (.int v3), .val (.ref b4), .val (.ref b17), .val (.int (4 : Int32)), .unset, .val (.int (3 : Int32))] [(.int (((v1.toUInt32 >>> ((16 : Int32) &&& 31).toUInt32).toInt32).toInt8.toInt32)), (.int ((v2 + (3 : Int32)) - (2 : Int32))), (.ref b17)]))
    obtain ⟨T159, h159, X159, e159, W159, B159, st159⟩ := own_stB X157 hx hZ e157 B157 (j := ((v2 + (3 : Int32)) - (2 : Int32))) (own_in2 v2 (own_at p2 v2 hv2) (3 : Int32) (2 : Int32) 3 2 rfl rfl (by decide) (by decide)) (g := (mkF m 307 #[.val (.int p0), .val (.int p1), .val (.int p2), .val (.int p3), .val (.int v1), .val (.int v2), .val (.int v3), .val (.ref b4), .val (.ref b17), .val (.int (4 : Int32)), .unset, .val (.int (3 : Int32))] [(.int (((v1.toUInt32 >>> ((16 : Int32) &&& 31).toUInt32).toInt32).toInt8.toInt32)), (.int ((v2 + (3 : Int32)) - (2 : Int32))), (.ref b17)])) rfl rfl (hb hby at_307)
    have f159_1 := f157_1.other W159 ne_b4_b17
    have Z159 : n0 ≤ h159.size := Nat.le_trans Z157 (Keep.of_wr W159).1
    have N159 := Fr.snoc X159 N157 g_b17
    refine Ends.via st159 ?_
    show Ends p e below s 16 128 (Q0 Z p0 p1 p2 p3  h0 n0) (T159.setTop (mkF m 308 #[.val (.int p0), .val (.int p1), .val (.int p2), .val (.int p3), .val (.int v1), .val (.int v2), .val (.int v3), .val (.ref b4), .val (.ref b17), .val (.int (4 : Int32)), .unset, .val (.int (3 : Int32))] []))
    refine Ends.via (fun _ k => XS.iload X159.here hx rfl (hb hby at_308) rfl k) ?_
    show Ends p e below s 16 128 (Q0 Z p0 p1 p2 p3  h0 n0) (T159.setTop (mkF m 310 #[.val (.int p0), .val (.int p1), .val (.int p2), .val (.int p3), .val (.int v1), .val (.int v2), .val (.int v3), .val (.ref b4), .val (.ref b17), .val (.int (4 : Int32)), .unset, .val (.int (3 : Int32))] [(.int (3 : Int32))]))
    refine Ends.via (fun _ k => XS.iconst X159.here hx rfl (hb hby at_310) k) ?_
    show Ends p e below s 16 128 (Q0 Z p0 p1 p2 p3  h0 n0) (T159.setTop (mkF m 311 #[.val (.int p0), .val (.int p1), .val (.int p2), .val (.int p3), .val (.int v1), .val (.int v2), .val (.int v3), .val (.ref b4), .val (.ref b17), .val (.int (4 : Int32)), .unset, .val (.int (3 : Int32))] [(.int (4 : Int32)), (.int (3 : Int32))]))
    have hf160 : (3 : Int32) < (4 : Int32) := by decide
    refine Ends.via (fun _ k => XS.icmpYes X159.here hx rfl (pc0 := 311) (pc' := 327) rfl (hb hby at_311) rfl (tlt hf160).1 (by decide) (by decide) k) ?_
    show Ends p e below s 16 128 (Q0 Z p0 p1 p2 p3  h0 n0) (T159.setTop (mkF m 327 #[.val (.int p0), .val (.int p1), .val (.int p2), .val (.int p3), .val (.int v1), .val (.int v2), .val (.int v3), .val (.ref b4), .val (.ref b17), .val (.int (4 : Int32)), .unset, .val (.int (3 : Int32))] []))
    refine Ends.via (fun _ k => XS.iconst X159.here hx rfl (hb hby at_327) k) ?_
    show Ends p e below s 16 128 (Q0 Z p0 p1 p2 p3  h0 n0) (T159.setTop (mkF m 328 #[.val (.int p0), .val (.int p1), .val (.int p2), .val (.int p3), .val (.int v1), .val (.int v2), .val (.int v3), .val (.ref b4), .val (.ref b17), .val (.int (4 : Int32)), .unset, .val (.int (3 : Int32))] [(.int (1 : Int32))]))
    refine Ends.via (fun _ k => XS.iload X159.here hx rfl (hb hby at_328) rfl k) ?_
    show Ends p e below s 16 128 (Q0 Z p0 p1 p2 p3  h0 n0) (T159.setTop (mkF m 330 #[.val (.int p0), .val (.int p1), .val (.int p2), .val (.int p3), .val (.int v1), .val (.int v2), .val (.int v3), .val (.ref b4), .val (.ref b17), .val (.int (4 : Int32)), .unset, .val (.int (3 : Int32))] [(.int (3 : Int32)), (.int (1 : Int32))]))
    refine Ends.via (fun _ k => XS.iadd X159.here hx rfl (hb hby at_330) rfl k) ?_
    show Ends p e below s 16 128 (Q0 Z p0 p1 p2 p3  h0 n0) (T159.setTop (mkF m 331 #[.val (.int p0), .val (.int p1), .val (.int p2), .val (.int p3), .val (.int v1), .val (.int v2), .val (.int v3), .val (.ref b4), .val (.ref b17), .val (.int (4 : Int32)), .unset, .val (.int (3 : Int32))] [(.int (4 : Int32))]))
    refine Ends.via (fun _ k => XS.istore X159.here hx rfl (hb hby at_331) rfl (l' := #[.val (.int p0), .val (.int p1), .val (.int p2), .val (.int p3), .val (.int v1), .val (.int v2), .val (.int v3), .val (.ref b4), .val (.ref b17), .val (.int (4 : Int32)), .val (.int (4 : Int32)), .val (.int (3 : Int32))]) rfl k) ?_
    show Ends p e below s 16 128 (Q0 Z p0 p1 p2 p3  h0 n0) (T159.setTop (mkF m 333 #[.val (.int p0), .val (.int p1), .val (.int p2), .val (.int p3), .val (.int v1), .val (.int v2), .val (.int v3), .val (.ref b4), .val (.ref b17), .val (.int (4 : Int32)), .val (.int (4 : Int32)), .val (.int (3 : Int32))] []))
    refine Ends.via (fun _ k => XS.iload X159.here hx rfl (hb hby at_333) rfl k) ?_
    show Ends p e below s 16 128 (Q0 Z p0 p1 p2 p3  h0 n0) (T159.setTop (mkF m 335 #[.val (.int p0), .val (.int p1), .val (.int p2), .val (.int p3), .val (.int v1), .val (.int v2), .val (.int v3), .val (.ref b4), .val (.ref b17), .val (.int (4 : Int32)), .val (.int (4 : Int32)), .val (.int (3 : Int32))] [(.int (4 : Int32))]))
    refine Ends.via (fun _ k => XS.iload X159.here hx rfl (hb hby at_335) rfl k) ?_
    show Ends p e below s 16 128 (Q0 Z p0 p1 p2 p3  h0 n0) (T159.setTop (mkF m 337 #[.val (.int p0), .val (.int p1), .val (.int p2), .val (.int p3), .val (.int v1), .val (.int v2), .val (.int v3), .val (.ref b4), .val (.ref b17), .val (.int (4 : Int32)), .val (.int (4 : Int32)), .val (.int (3 : Int32))] [(.int (4 : Int32)), (.int (4 : Int32))]))
    have hf161 : (4 : Int32) = (4 : Int32) := by decide
    refine Ends.via (fun _ k => XS.icmpNo X159.here hx rfl (hb hby at_337) rfl (teq hf161).2 k) ?_
    show Ends p e below s 16 128 (Q0 Z p0 p1 p2 p3  h0 n0) (T159.setTop (mkF m 340 #[.val (.int p0), .val (.int p1), .val (.int p2), .val (.int p3), .val (.int v1), .val (.int v2), .val (.int v3), .val (.ref b4), .val (.ref b17), .val (.int (4 : Int32)), .val (.int (4 : Int32)), .val (.int (3 : Int32))] []))
    refine Ends.via (fun _ k => XS.aload X159.here hx rfl (hb hby at_340) rfl rfl k) ?_
    show Ends p e below s 16 128 (Q0 Z p0 p1 p2 p3  h0 n0) (T159.setTop (mkF m 342 #[.val (.int p0), .val (.int p1), .val (.int p2), .val (.int p3), .val (.int v1), .val (.int v2), .val (.int v3), .val (.ref b4), .val (.ref b17), .val (.int (4 : Int32)), .val (.int (4 : Int32)), .val (.int (3 : Int32))] [(.ref b4)]))
    refine Ends.via (fun _ k => XS.aload X159.here hx rfl (hb hby at_342) rfl rfl k) ?_
    show Ends p e below s 16 128 (Q0 Z p0 p1 p2 p3  h0 n0) (T159.setTop (mkF m 344 #[.val (.int p0), .val (.int p1), .val (.int p2), .val (.int p3), .val (.int v1), .val (.int v2), .val (.int v3), .val (.ref b4), .val (.ref b17), .val (.int (4 : Int32)), .val (.int (4 : Int32)), .val (.int (3 : Int32))] [(.ref b17), (.ref b4)]))
    have Beq : own_B Z h159 b4 k4 (List.set (List.set (List.set (List.set (own_base v3) (v2).toNatClampNeg (nar .byte ((131 : Int32).toInt8.toInt32))) ((v2 + (3 : Int32))).toNatClampNeg (nar .byte (v1.toInt8.toInt32))) (((v2 + (3 : Int32)) - (1 : Int32))).toNatClampNeg (nar .byte (((v1.toUInt32 >>> ((8 : Int32) &&& 31).toUInt32).toInt32).toInt8.toInt32))) (((v2 + (3 : Int32)) - (2 : Int32))).toNatClampNeg (nar .byte (((v1.toUInt32 >>> ((16 : Int32) &&& 31).toUInt32).toInt32).toInt8.toInt32))) := by rw [← own_same3 (own_base v3) v2 v1 (own_at p2 v2 hv2) hk]; exact f159_1
    obtain ⟨_, _, ⟨T162, L162, k162, n162⟩, -, X162, ⟨Lc162, hQ162, l162, y162, z162⟩, st162⟩ := Jvm.LawKit.callS X159 hx (y := (⟨"com/example/sextant/sextant/ber/BerEncoderPutLengthPinLaw", "same", "([B[B)Z"⟩ : MethodName)) hown (mvT hZ (hw _ (List.mem_of_getElem? (i := 6) rfl))) (mvT hZ (hw _ (List.mem_of_getElem? (i := 7) rfl))) (mvT hZ (hw _ (List.mem_of_getElem? (i := 8) rfl))) (mvT hZ (hw _ (List.mem_of_getElem? (i := 9) rfl))) (by decide) (backOf (W := 0) (rm2 l Z _ hw [] b4 b17 k4 k17 (List.set (List.set (List.set (List.set (own_base v3) (v2).toNatClampNeg (nar .byte ((131 : Int32).toInt8.toInt32))) ((v2 + (3 : Int32))).toNatClampNeg (nar .byte (v1.toInt8.toInt32))) (((v2 + (3 : Int32)) - (1 : Int32))).toNatClampNeg (nar .byte (((v1.toUInt32 >>> ((8 : Int32) &&& 31).toUInt32).toInt32).toInt8.toInt32))) (((v2 + (3 : Int32)) - (2 : Int32))).toNatClampNeg (nar .byte (((v1.toUInt32 >>> ((16 : Int32) &&& 31).toUInt32).toInt32).toInt8.toInt32))) h159 n0 Z159 Beq B159) hZ (hw _ (List.mem_of_getElem? (i := 9) rfl)) (hw _ (List.mem_of_getElem? (i := 8) rfl)) (by decide) (by decide)) (g := (mkF m 344 #[.val (.int p0), .val (.int p1), .val (.int p2), .val (.int p3), .val (.int v1), .val (.int v2), .val (.int v3), .val (.ref b4), .val (.ref b17), .val (.int (4 : Int32)), .val (.int (4 : Int32)), .val (.int (3 : Int32))] [(.ref b17), (.ref b4)])) rfl (by rw [hml]; rfl) (argsL := [(.ref b4), (.ref b17)]) (rest := []) (lenOf own_pd1 rfl) rfl (by show 2 * 0 + _ ≤ _; exact Nat.le_of_eq rfl) (hb hby at_344) (fun _ _ => ⟨rfl, e159, (by decide : 2 + 0 ≤ _), (by decide : 24 + 0 ≤ _)⟩)
    dsimp only [Pt.U, Pt.locs, Pt.cells, Pt.slots] at X162 l162 y162 z162 st162 hQ162
    subst l162 y162 z162
    obtain ⟨rfl, Nq162, e162⟩ := hQ162
    have N162 := Fr.app N159 Nq162
    refine Ends.via st162 ?_
    show Ends p e below s 16 128 (Q0 Z p0 p1 p2 p3  h0 n0) (T162.setTop (mkF m 347 #[.val (.int p0), .val (.int p1), .val (.int p2), .val (.int p3), .val (.int v1), .val (.int v2), .val (.int v3), .val (.ref b4), .val (.ref b17), .val (.int (4 : Int32)), .val (.int (4 : Int32)), .val (.int (3 : Int32))] [(.int (1 : Int32))]))
    have hf163 : ¬ ((1 : Int32) = (0 : Int32)) := by decide
    refine Ends.via (fun _ k => XS.ifNo X162.here hx rfl (hb hby at_347) rfl ((if0 _ _).trans (feq hf163).1) k) ?_
    show Ends p e below s 16 128 (Q0 Z p0 p1 p2 p3  h0 n0) (T162.setTop (mkF m 350 #[.val (.int p0), .val (.int p1), .val (.int p2), .val (.int p3), .val (.int v1), .val (.int v2), .val (.int v3), .val (.ref b4), .val (.ref b17), .val (.int (4 : Int32)), .val (.int (4 : Int32)), .val (.int (3 : Int32))] []))
    refine Ends.via (fun _ k => XS.iconst X162.here hx rfl (hb hby at_350) k) ?_
    show Ends p e below s 16 128 (Q0 Z p0 p1 p2 p3  h0 n0) (T162.setTop (mkF m 351 #[.val (.int p0), .val (.int p1), .val (.int p2), .val (.int p3), .val (.int v1), .val (.int v2), .val (.int v3), .val (.ref b4), .val (.ref b17), .val (.int (4 : Int32)), .val (.int (4 : Int32)), .val (.int (3 : Int32))] [(.int (1 : Int32))]))
    refine Ends.via (fun _ k => XS.goto X162.here hx rfl (pc0 := 351) (pc' := 355) rfl (hb hby at_351) (by decide) (by decide) k) ?_
    show Ends p e below s 16 128 (Q0 Z p0 p1 p2 p3  h0 n0) (T162.setTop (mkF m 355 #[.val (.int p0), .val (.int p1), .val (.int p2), .val (.int p3), .val (.int v1), .val (.int v2), .val (.int v3), .val (.ref b4), .val (.ref b17), .val (.int (4 : Int32)), .val (.int (4 : Int32)), .val (.int (3 : Int32))] [(.int (1 : Int32))]))
    refine Ends.ret X162 (v := some (.int (nar .boolean (1 : Int32)))) (fun h => by rw [Bd.returns] at h; cases h) Bd.notSynchronized (fun fs hr => retN X162 hx (t := .boolean) Bd.returns (by simp) (hb hby at_355) hr) ?_ (by decide) (by decide)
    exact ⟨rfl, N162⟩
  · show Ends p e below s 16 128 (Q0 Z p0 p1 p2 p3  h0 n0) (T29.setTop (mkF m 165 #[.val (.int p0), .val (.int p1), .val (.int p2), .val (.int p3), .val (.int v1), .val (.int v2), .val (.int v3), .val (.ref b4), .val (.ref b17), .unset, .unset, .unset] []))
    refine Ends.via (fun _ k => XS.aload Xl.here hx rfl (hb hby at_165) rfl rfl k) ?_
    show Ends p e below s 16 128 (Q0 Z p0 p1 p2 p3  h0 n0) (T29.setTop (mkF m 167 #[.val (.int p0), .val (.int p1), .val (.int p2), .val (.int p3), .val (.int v1), .val (.int v2), .val (.int v3), .val (.ref b4), .val (.ref b17), .unset, .unset, .unset] [(.ref b4)]))
    refine Ends.via (fun _ k => XS.iload Xl.here hx rfl (hb hby at_167) rfl k) ?_
    show Ends p e below s 16 128 (Q0 Z p0 p1 p2 p3  h0 n0) (T29.setTop (mkF m 169 #[.val (.int p0), .val (.int p1), .val (.int p2), .val (.int p3), .val (.int v1), .val (.int v2), .val (.int v3), .val (.ref b4), .val (.ref b17), .unset, .unset, .unset] [(.int v2), (.ref b4)]))
    refine Ends.via (fun _ k => XS.iload Xl.here hx rfl (hb hby at_169) rfl k) ?_
    show Ends p e below s 16 128 (Q0 Z p0 p1 p2 p3  h0 n0) (T29.setTop (mkF m 171 #[.val (.int p0), .val (.int p1), .val (.int p2), .val (.int p3), .val (.int v1), .val (.int v2), .val (.int v3), .val (.ref b4), .val (.ref b17), .unset, .unset, .unset] [(.int v1), (.int v2), (.ref b4)]))
    obtain ⟨_, _, ⟨T164, L164, k164, n164⟩, -, X164, ⟨Lc164, hQ164, l164, y164, z164⟩, st164⟩ := Jvm.LawKit.callS Xl hx (y := (⟨"com/example/sextant/sextant/ber/BerEncoder", "putLength", "([BII)I"⟩ : MethodName)) hown (mvT hZ (hw _ (List.mem_of_getElem? (i := 2) rfl))) (mvT hZ (hw _ (List.mem_of_getElem? (i := 3) rfl))) (mvT hZ (hw _ (List.mem_of_getElem? (i := 4) rfl))) (mvT hZ (hw _ (List.mem_of_getElem? (i := 5) rfl))) (by decide) (backOf (W := 0) (rm1 l Z _ hw [] b4 v2 v1 k4 (own_base v3) h29 n0 Z29 Bbb4 g_b4 (own_at p2 v2 hv2) (own_len p0 p1 v1 hv1)) hZ (hw _ (List.mem_of_getElem? (i := 5) rfl)) (hw _ (List.mem_of_getElem? (i := 4) rfl)) (by decide) (by decide)) (g := (mkF m 171 #[.val (.int p0), .val (.int p1), .val (.int p2), .val (.int p3), .val (.int v1), .val (.int v2), .val (.int v3), .val (.ref b4), .val (.ref b17), .unset, .unset, .unset] [(.int v1), (.int v2), (.ref b4)])) rfl (by rw [hml]; rfl) (argsL := [(.ref b4), (.int v2), (.int v1)]) (rest := []) (lenOf own_pd0 rfl) rfl (by show 2 * 0 + _ ≤ _; exact Nat.le_of_eq rfl) (hb hby at_171) (fun _ _ => ⟨rfl, e29, (by decide : 2 + 0 ≤ _), (by decide : 24 + 0 ≤ _)⟩)
    dsimp only [Pt.U, Pt.locs, Pt.cells, Pt.slots] at X164 l164 y164 z164 st164 hQ164
    subst l164 y164 z164
    obtain ⟨rfl, Nq164, Kq164, Bq164⟩ := hQ164
    have N164 := Fr.app Nl Nq164
    have f164_1 := Bbb17.keep Kq164 (ninS (Ne.symm ne_b4_b17) nin0)
    have Z164 : n0 ≤ T164.heap.size := Nat.le_trans Z29 Kq164.1
    rw [own_cn4 v1 hk] at st164
    refine Ends.via st164 ?_
    show Ends p e below s 16 128 (Q0 Z p0 p1 p2 p3  h0 n0) (T164.setTop (mkF m 174 #[.val (.int p0), .val (.int p1), .val (.int p2), .val (.int p3), .val (.int v1), .val (.int v2), .val (.int v3), .val (.ref b4), .val (.ref b17), .unset, .unset, .unset] [(.int (5 : Int32))]))
    refine Ends.via (fun _ k => XS.istore X164.here hx rfl (hb hby at_174) rfl (l' := #[.val (.int p0), .val (.int p1), .val (.int p2), .val (.int p3), .val (.int v1), .val (.int v2), .val (.int v3), .val (.ref b4), .val (.ref b17), .val (.int (5 : Int32)), .unset, .unset]) rfl k) ?_
    show Ends p e below s 16 128 (Q0 Z p0 p1 p2 p3  h0 n0) (T164.setTop (mkF m 176 #[.val (.int p0), .val (.int p1), .val (.int p2), .val (.int p3), .val (.int v1), .val (.int v2), .val (.int v3), .val (.ref b4), .val (.ref b17), .val (.int (5 : Int32)), .unset, .unset] []))
    refine Ends.via (fun _ k => XS.iload X164.here hx rfl (hb hby at_176) rfl k) ?_
    show Ends p e below s 16 128 (Q0 Z p0 p1 p2 p3  h0 n0) (T164.setTop (mkF m 178 #[.val (.int p0), .val (.int p1), .val (.int p2), .val (.int p3), .val (.int v1), .val (.int v2), .val (.int v3), .val (.ref b4), .val (.ref b17), .val (.int (5 : Int32)), .unset, .unset] [(.int v1)]))
    refine Ends.via (fun _ k => XS.sipush X164.here hx rfl (hb hby at_178) k) ?_
    show Ends p e below s 16 128 (Q0 Z p0 p1 p2 p3  h0 n0) (T164.setTop (mkF m 181 #[.val (.int p0), .val (.int p1), .val (.int p2), .val (.int p3), .val (.int v1), .val (.int v2), .val (.int v3), .val (.ref b4), .val (.ref b17), .val (.int (5 : Int32)), .unset, .unset] [(.int (128 : Int32)), (.int v1)]))
    have hf165 : ¬ (v1 < (128 : Int32)) := own_b0_4 hk
    refine Ends.via (fun _ k => XS.icmpYes X164.here hx rfl (pc0 := 181) (pc' := 198) rfl (hb hby at_181) rfl (flt hf165).2.1 (by decide) (by decide) k) ?_
    show Ends p e below s 16 128 (Q0 Z p0 p1 p2 p3  h0 n0) (T164.setTop (mkF m 198 #[.val (.int p0), .val (.int p1), .val (.int p2), .val (.int p3), .val (.int v1), .val (.int v2), .val (.int v3), .val (.ref b4), .val (.ref b17), .val (.int (5 : Int32)), .unset, .unset] []))
    refine Ends.via (fun _ k => XS.iload X164.here hx rfl (hb hby at_198) rfl k) ?_
    show Ends p e below s 16 128 (Q0 Z p0 p1 p2 p3  h0 n0) (T164.setTop (mkF m 200 #[.val (.int p0), .val (.int p1), .val (.int p2), .val (.int p3), .val (.int v1), .val (.int v2), .val (.int v3), .val (.ref b4), .val (.ref b17), .val (.int (5 : Int32)), .unset, .unset] [(.int v1)]))
    refine Ends.via (fun _ k => XS.sipush X164.here hx rfl (hb hby at_200) k) ?_
    show Ends p e below s 16 128 (Q0 Z p0 p1 p2 p3  h0 n0) (T164.setTop (mkF m 203 #[.val (.int p0), .val (.int p1), .val (.int p2), .val (.int p3), .val (.int v1), .val (.int v2), .val (.int v3), .val (.ref b4), .val (.ref b17), .val (.int (5 : Int32)), .unset, .unset] [(.int (256 : Int32)), (.int v1)]))
    have hf166 : ¬ (v1 < (256 : Int32)) := own_b1_4 hk
    refine Ends.via (fun _ k => XS.icmpYes X164.here hx rfl (pc0 := 203) (pc' := 212) rfl (hb hby at_203) rfl (flt hf166).2.1 (by decide) (by decide) k) ?_
    show Ends p e below s 16 128 (Q0 Z p0 p1 p2 p3  h0 n0) (T164.setTop (mkF m 212 #[.val (.int p0), .val (.int p1), .val (.int p2), .val (.int p3), .val (.int v1), .val (.int v2), .val (.int v3), .val (.ref b4), .val (.ref b17), .val (.int (5 : Int32)), .unset, .unset] []))
    refine Ends.via (fun _ k => XS.iload X164.here hx rfl (hb hby at_212) rfl k) ?_
    show Ends p e below s 16 128 (Q0 Z p0 p1 p2 p3  h0 n0) (T164.setTop (mkF m 214 #[.val (.int p0), .val (.int p1), .val (.int p2), .val (.int p3), .val (.int v1), .val (.int v2), .val (.int v3), .val (.ref b4), .val (.ref b17), .val (.int (5 : Int32)), .unset, .unset] [(.int v1)]))
    refine Ends.via (X164.ldcInt hx hown (mvT hZ (hw _ (List.mem_of_getElem? (i := 10) rfl))) (g := (mkF m 214 #[.val (.int p0), .val (.int p1), .val (.int p2), .val (.int p3), .val (.int v1), .val (.int v2), .val (.int v3), .val (.ref b4), .val (.ref b17), .val (.int (5 : Int32)), .unset, .unset] [(.int v1)])) rfl (hb hby at_214)) ?_
    show Ends p e below s 16 128 (Q0 Z p0 p1 p2 p3  h0 n0) (T164.setTop (mkF m 216 #[.val (.int p0), .val (.int p1), .val (.int p2), .val (.int p3), .val (.int v1), .val (.int v2), .val (.int v3), .val (.ref b4), .val (.ref b17), .val (.int (5 : Int32)), .unset, .unset] [(.int (65536 : Int32)), (.int v1)]))
    have hf167 : ¬ (v1 < (65536 : Int32)) := own_b2_4 hk
    refine Ends.via (fun _ k => XS.icmpYes X164.here hx rfl (pc0 := 216) (pc' := 225) rfl (hb hby at_216) rfl (flt hf167).2.1 (by decide) (by decide) k) ?_
    show Ends p e below s 16 128 (Q0 Z p0 p1 p2 p3  h0 n0) (T164.setTop (mkF m 225 #[.val (.int p0), .val (.int p1), .val (.int p2), .val (.int p3), .val (.int v1), .val (.int v2), .val (.int v3), .val (.ref b4), .val (.ref b17), .val (.int (5 : Int32)), .unset, .unset] []))
    refine Ends.via (fun _ k => XS.iload X164.here hx rfl (hb hby at_225) rfl k) ?_
    show Ends p e below s 16 128 (Q0 Z p0 p1 p2 p3  h0 n0) (T164.setTop (mkF m 227 #[.val (.int p0), .val (.int p1), .val (.int p2), .val (.int p3), .val (.int v1), .val (.int v2), .val (.int v3), .val (.ref b4), .val (.ref b17), .val (.int (5 : Int32)), .unset, .unset] [(.int v1)]))
    refine Ends.via (X164.ldcInt hx hown (mvT hZ (hw _ (List.mem_of_getElem? (i := 11) rfl))) (g := (mkF m 227 #[.val (.int p0), .val (.int p1), .val (.int p2), .val (.int p3), .val (.int v1), .val (.int v2), .val (.int v3), .val (.ref b4), .val (.ref b17), .val (.int (5 : Int32)), .unset, .unset] [(.int v1)])) rfl (hb hby at_227)) ?_
    show Ends p e below s 16 128 (Q0 Z p0 p1 p2 p3  h0 n0) (T164.setTop (mkF m 229 #[.val (.int p0), .val (.int p1), .val (.int p2), .val (.int p3), .val (.int v1), .val (.int v2), .val (.int v3), .val (.ref b4), .val (.ref b17), .val (.int (5 : Int32)), .unset, .unset] [(.int (16777216 : Int32)), (.int v1)]))
    have hf168 : ¬ (v1 < (16777216 : Int32)) := own_b3_4 hk
    refine Ends.via (fun _ k => XS.icmpYes X164.here hx rfl (pc0 := 229) (pc' := 238) rfl (hb hby at_229) rfl (flt hf168).2.1 (by decide) (by decide) k) ?_
    show Ends p e below s 16 128 (Q0 Z p0 p1 p2 p3  h0 n0) (T164.setTop (mkF m 238 #[.val (.int p0), .val (.int p1), .val (.int p2), .val (.int p3), .val (.int v1), .val (.int v2), .val (.int v3), .val (.ref b4), .val (.ref b17), .val (.int (5 : Int32)), .unset, .unset] []))
    refine Ends.via (fun _ k => XS.iconst X164.here hx rfl (hb hby at_238) k) ?_
    show Ends p e below s 16 128 (Q0 Z p0 p1 p2 p3  h0 n0) (T164.setTop (mkF m 239 #[.val (.int p0), .val (.int p1), .val (.int p2), .val (.int p3), .val (.int v1), .val (.int v2), .val (.int v3), .val (.ref b4), .val (.ref b17), .val (.int (5 : Int32)), .unset, .unset] [(.int (4 : Int32))]))
    refine Ends.via (fun _ k => XS.istore X164.here hx rfl (hb hby at_239) rfl (l' := #[.val (.int p0), .val (.int p1), .val (.int p2), .val (.int p3), .val (.int v1), .val (.int v2), .val (.int v3), .val (.ref b4), .val (.ref b17), .val (.int (5 : Int32)), .unset, .val (.int (4 : Int32))]) rfl k) ?_
    show Ends p e below s 16 128 (Q0 Z p0 p1 p2 p3  h0 n0) (T164.setTop (mkF m 241 #[.val (.int p0), .val (.int p1), .val (.int p2), .val (.int p3), .val (.int v1), .val (.int v2), .val (.int v3), .val (.ref b4), .val (.ref b17), .val (.int (5 : Int32)), .unset, .val (.int (4 : Int32))] []))
    refine Ends.via (fun _ k => XS.aload X164.here hx rfl (hb hby at_241) rfl rfl k) ?_
    show Ends p e below s 16 128 (Q0 Z p0 p1 p2 p3  h0 n0) (T164.setTop (mkF m 243 #[.val (.int p0), .val (.int p1), .val (.int p2), .val (.int p3), .val (.int v1), .val (.int v2), .val (.int v3), .val (.ref b4), .val (.ref b17), .val (.int (5 : Int32)), .unset, .val (.int (4 : Int32))] [(.ref b17)]))
    refine Ends.via (fun _ k => XS.iload X164.here hx rfl (hb hby at_243) rfl k) ?_
    show Ends p e below s 16 128 (Q0 Z p0 p1 p2 p3  h0 n0) (T164.setTop (mkF m 245 #[.val (.int p0), .val (.int p1), .val (.int p2), .val (.int p3), .val (.int v1), .val (.int v2), .val (.int v3), .val (.ref b4), .val (.ref b17), .val (.int (5 : Int32)), .unset, .val (.int (4 : Int32))] [(.int v2), (.ref b17)]))
    refine Ends.via (fun _ k => XS.sipush X164.here hx rfl (hb hby at_245) k) ?_
    show Ends p e below s 16 128 (Q0 Z p0 p1 p2 p3  h0 n0) (T164.setTop (mkF m 248 #[.val (.int p0), .val (.int p1), .val (.int p2), .val (.int p3), .val (.int v1), .val (.int v2), .val (.int v3), .val (.ref b4), .val (.ref b17), .val (.int (5 : Int32)), .unset, .val (.int (4 : Int32))] [(.int (128 : Int32)), (.int v2), (.ref b17)]))
    refine Ends.via (fun _ k => XS.iload X164.here hx rfl (hb hby at_248) rfl k) ?_
    show Ends p e below s 16 128 (Q0 Z p0 p1 p2 p3  h0 n0) (T164.setTop (mkF m 250 #[.val (.int p0), .val (.int p1), .val (.int p2), .val (.int p3), .val (.int v1), .val (.int v2), .val (.int v3), .val (.ref b4), .val (.ref b17), .val (.int (5 : Int32)), .unset, .val (.int (4 : Int32))] [(.int (4 : Int32)), (.int (128 : Int32)), (.int v2), (.ref b17)]))
    refine Ends.via (fun _ k => XS.ior X164.here hx rfl (hb hby at_250) rfl k) ?_
    show Ends p e below s 16 128 (Q0 Z p0 p1 p2 p3  h0 n0) (T164.setTop (mkF m 251 #[.val (.int p0), .val (.int p1), .val (.int p2), .val (.int p3), .val (.int v1), .val (.int v2), .val (.int v3), .val (.ref b4), .val (.ref b17), .val (.int (5 : Int32)), .unset, .val (.int (4 : Int32))] [(.int (132 : Int32)), (.int v2), (.ref b17)]))
    refine Ends.via (fun _ k => XS.i2b X164.here hx rfl (hb hby at_251) rfl k) ?_
    show Ends p e below s 16 128 (Q0 Z p0 p1 p2 p3  h0 n0) (T164.setTop (mkF m 252 #[.val (.int p0), .val (.int p1), .val (.int p2), .val (.int p3), .val (.int v1), .val (.int v2), .val (.int v3), .val (.ref b4), .val (.ref b17), .val (.int (5 : Int32)), .unset, .val (.int (4 : Int32))] [(.int ((132 : Int32).toInt8.toInt32)), (.int v2), (.ref b17)]))
    obtain ⟨T169, h169, X169, e169, W169, B169, st169⟩ := own_stB X164 hx hZ rfl f164_1 (j := v2) (own_in0 v2 (own_at p2 v2 hv2)) (g := (mkF m 252 #[.val (.int p0), .val (.int p1), .val (.int p2), .val (.int p3), .val (.int v1), .val (.int v2), .val (.int v3), .val (.ref b4), .val (.ref b17), .val (.int (5 : Int32)), .unset, .val (.int (4 : Int32))] [(.int ((132 : Int32).toInt8.toInt32)), (.int v2), (.ref b17)])) rfl rfl (hb hby at_252)
    have f169_1 := Bq164.other W169 ne_b4_b17
    have Z169 : n0 ≤ h169.size := Nat.le_trans Z164 (Keep.of_wr W169).1
    have N169 := Fr.snoc X169 N164 g_b17
    refine Ends.via st169 ?_
    show Ends p e below s 16 128 (Q0 Z p0 p1 p2 p3  h0 n0) (T169.setTop (mkF m 253 #[.val (.int p0), .val (.int p1), .val (.int p2), .val (.int p3), .val (.int v1), .val (.int v2), .val (.int v3), .val (.ref b4), .val (.ref b17), .val (.int (5 : Int32)), .unset, .val (.int (4 : Int32))] []))
    refine Ends.via (fun _ k => XS.aload X169.here hx rfl (hb hby at_253) rfl rfl k) ?_
    show Ends p e below s 16 128 (Q0 Z p0 p1 p2 p3  h0 n0) (T169.setTop (mkF m 255 #[.val (.int p0), .val (.int p1), .val (.int p2), .val (.int p3), .val (.int v1), .val (.int v2), .val (.int v3), .val (.ref b4), .val (.ref b17), .val (.int (5 : Int32)), .unset, .val (.int (4 : Int32))] [(.ref b17)]))
    refine Ends.via (fun _ k => XS.iload X169.here hx rfl (hb hby at_255) rfl k) ?_
    show Ends p e below s 16 128 (Q0 Z p0 p1 p2 p3  h0 n0) (T169.setTop (mkF m 257 #[.val (.int p0), .val (.int p1), .val (.int p2), .val (.int p3), .val (.int v1), .val (.int v2), .val (.int v3), .val (.ref b4), .val (.ref b17), .val (.int (5 : Int32)), .unset, .val (.int (4 : Int32))] [(.int v2), (.ref b17)]))
    refine Ends.via (fun _ k => XS.iload X169.here hx rfl (hb hby at_257) rfl k) ?_
    show Ends p e below s 16 128 (Q0 Z p0 p1 p2 p3  h0 n0) (T169.setTop (mkF m 259 #[.val (.int p0), .val (.int p1), .val (.int p2), .val (.int p3), .val (.int v1), .val (.int v2), .val (.int v3), .val (.ref b4), .val (.ref b17), .val (.int (5 : Int32)), .unset, .val (.int (4 : Int32))] [(.int (4 : Int32)), (.int v2), (.ref b17)]))
    refine Ends.via (fun _ k => XS.iadd X169.here hx rfl (hb hby at_259) rfl k) ?_
    show Ends p e below s 16 128 (Q0 Z p0 p1 p2 p3  h0 n0) (T169.setTop (mkF m 260 #[.val (.int p0), .val (.int p1), .val (.int p2), .val (.int p3), .val (.int v1), .val (.int v2), .val (.int v3), .val (.ref b4), .val (.ref b17), .val (.int (5 : Int32)), .unset, .val (.int (4 : Int32))] [(.int (v2 + (4 : Int32))), (.ref b17)]))
    refine Ends.via (fun _ k => XS.iload X169.here hx rfl (hb hby at_260) rfl k) ?_
    show Ends p e below s 16 128 (Q0 Z p0 p1 p2 p3  h0 n0) (T169.setTop (mkF m 262 #[.val (.int p0), .val (.int p1), .val (.int p2), .val (.int p3), .val (.int v1), .val (.int v2), .val (.int v3), .val (.ref b4), .val (.ref b17), .val (.int (5 : Int32)), .unset, .val (.int (4 : Int32))] [(.int v1), (.int (v2 + (4 : Int32))), (.ref b17)]))
    refine Ends.via (fun _ k => XS.i2b X169.here hx rfl (hb hby at_262) rfl k) ?_
    show Ends p e below s 16 128 (Q0 Z p0 p1 p2 p3  h0 n0) (T169.setTop (mkF m 263 #[.val (.int p0), .val (.int p1), .val (.int p2), .val (.int p3), .val (.int v1), .val (.int v2), .val (.int v3), .val (.ref b4), .val (.ref b17), .val (.int (5 : Int32)), .unset, .val (.int (4 : Int32))] [(.int (v1.toInt8.toInt32)), (.int (v2 + (4 : Int32))), (.ref b17)]))
    obtain ⟨T170, h170, X170, e170, W170, B170, st170⟩ := own_stB X169 hx hZ e169 B169 (j := (v2 + (4 : Int32))) (own_in v2 (own_at p2 v2 hv2) (4 : Int32) 4 rfl (by decide)) (g := (mkF m 263 #[.val (.int p0), .val (.int p1), .val (.int p2), .val (.int p3), .val (.int v1), .val (.int v2), .val (.int v3), .val (.ref b4), .val (.ref b17), .val (.int (5 : Int32)), .unset, .val (.int (4 : Int32))] [(.int (v1.toInt8.toInt32)), (.int (v2 + (4 : Int32))), (.ref b17)])) rfl rfl (hb hby at_263)
    have f170_1 := f169_1.other W170 ne_b4_b17
    have Z170 : n0 ≤ h170.size := Nat.le_trans Z169 (Keep.of_wr W170).1
    have N170 := Fr.snoc X170 N169 g_b17
    refine Ends.via st170 ?_
    show Ends p e below s 16 128 (Q0 Z p0 p1 p2 p3  h0 n0) (T170.setTop (mkF m 264 #[.val (.int p0), .val (.int p1), .val (.int p2), .val (.int p3), .val (.int v1), .val (.int v2), .val (.int v3), .val (.ref b4), .val (.ref b17), .val (.int (5 : Int32)), .unset, .val (.int (4 : Int32))] []))
    refine Ends.via (fun _ k => XS.iload X170.here hx rfl (hb hby at_264) rfl k) ?_
    show Ends p e below s 16 128 (Q0 Z p0 p1 p2 p3  h0 n0) (T170.setTop (mkF m 266 #[.val (.int p0), .val (.int p1), .val (.int p2), .val (.int p3), .val (.int v1), .val (.int v2), .val (.int v3), .val (.ref b4), .val (.ref b17), .val (.int (5 : Int32)), .unset, .val (.int (4 : Int32))] [(.int (4 : Int32))]))
    refine Ends.via (fun _ k => XS.iconst X170.here hx rfl (hb hby at_266) k) ?_
    show Ends p e below s 16 128 (Q0 Z p0 p1 p2 p3  h0 n0) (T170.setTop (mkF m 267 #[.val (.int p0), .val (.int p1), .val (.int p2), .val (.int p3), .val (.int v1), .val (.int v2), .val (.int v3), .val (.ref b4), .val (.ref b17), .val (.int (5 : Int32)), .unset, .val (.int (4 : Int32))] [(.int (2 : Int32)), (.int (4 : Int32))]))
    have hf171 : ¬ ((4 : Int32) < (2 : Int32)) := by decide
    refine Ends.via (fun _ k => XS.icmpNo X170.here hx rfl (hb hby at_267) rfl (flt hf171).1 k) ?_
    show Ends p e below s 16 128 (Q0 Z p0 p1 p2 p3  h0 n0) (T170.setTop (mkF m 270 #[.val (.int p0), .val (.int p1), .val (.int p2), .val (.int p3), .val (.int v1), .val (.int v2), .val (.int v3), .val (.ref b4), .val (.ref b17), .val (.int (5 : Int32)), .unset, .val (.int (4 : Int32))] []))
    refine Ends.via (fun _ k => XS.aload X170.here hx rfl (hb hby at_270) rfl rfl k) ?_
    show Ends p e below s 16 128 (Q0 Z p0 p1 p2 p3  h0 n0) (T170.setTop (mkF m 272 #[.val (.int p0), .val (.int p1), .val (.int p2), .val (.int p3), .val (.int v1), .val (.int v2), .val (.int v3), .val (.ref b4), .val (.ref b17), .val (.int (5 : Int32)), .unset, .val (.int (4 : Int32))] [(.ref b17)]))
    refine Ends.via (fun _ k => XS.iload X170.here hx rfl (hb hby at_272) rfl k) ?_
    show Ends p e below s 16 128 (Q0 Z p0 p1 p2 p3  h0 n0) (T170.setTop (mkF m 274 #[.val (.int p0), .val (.int p1), .val (.int p2), .val (.int p3), .val (.int v1), .val (.int v2), .val (.int v3), .val (.ref b4), .val (.ref b17), .val (.int (5 : Int32)), .unset, .val (.int (4 : Int32))] [(.int v2), (.ref b17)]))
    refine Ends.via (fun _ k => XS.iload X170.here hx rfl (hb hby at_274) rfl k) ?_
    show Ends p e below s 16 128 (Q0 Z p0 p1 p2 p3  h0 n0) (T170.setTop (mkF m 276 #[.val (.int p0), .val (.int p1), .val (.int p2), .val (.int p3), .val (.int v1), .val (.int v2), .val (.int v3), .val (.ref b4), .val (.ref b17), .val (.int (5 : Int32)), .unset, .val (.int (4 : Int32))] [(.int (4 : Int32)), (.int v2), (.ref b17)]))
    refine Ends.via (fun _ k => XS.iadd X170.here hx rfl (hb hby at_276) rfl k) ?_
    show Ends p e below s 16 128 (Q0 Z p0 p1 p2 p3  h0 n0) (T170.setTop (mkF m 277 #[.val (.int p0), .val (.int p1), .val (.int p2), .val (.int p3), .val (.int v1), .val (.int v2), .val (.int v3), .val (.ref b4), .val (.ref b17), .val (.int (5 : Int32)), .unset, .val (.int (4 : Int32))] [(.int (v2 + (4 : Int32))), (.ref b17)]))
    refine Ends.via (fun _ k => XS.iconst X170.here hx rfl (hb hby at_277) k) ?_
    show Ends p e below s 16 128 (Q0 Z p0 p1 p2 p3  h0 n0) (T170.setTop (mkF m 278 #[.val (.int p0), .val (.int p1), .val (.int p2), .val (.int p3), .val (.int v1), .val (.int v2), .val (.int v3), .val (.ref b4), .val (.ref b17), .val (.int (5 : Int32)), .unset, .val (.int (4 : Int32))] [(.int (1 : Int32)), (.int (v2 + (4 : Int32))), (.ref b17)]))
    refine Ends.via (fun _ k => XS.isub X170.here hx rfl (hb hby at_278) rfl k) ?_
    show Ends p e below s 16 128 (Q0 Z p0 p1 p2 p3  h0 n0) (T170.setTop (mkF m 279 #[.val (.int p0), .val (.int p1), .val (.int p2), .val (.int p3), .val (.int v1), .val (.int v2), .val (.int v3), .val (.ref b4), .val (.ref b17), .val (.int (5 : Int32)), .unset, .val (.int (4 : Int32))] [(.int ((v2 + (4 : Int32)) - (1 : Int32))), (.ref b17)]))
    refine Ends.via (fun _ k => XS.iload X170.here hx rfl (hb hby at_279) rfl k) ?_
    show Ends p e below s 16 128 (Q0 Z p0 p1 p2 p3  h0 n0) (T170.setTop (mkF m 281 #[.val (.int p0), .val (.int p1), .val (.int p2), .val (.int p3), .val (.int v1), .val (.int v2), .val (.int v3), .val (.ref b4), .val (.ref b17), .val (.int (5 : Int32)), .unset, .val (.int (4 : Int32))] [(.int v1), (.int ((v2 + (4 : Int32)) - (1 : Int32))), (.ref b17)]))
    refine Ends.via (fun _ k => XS.bipush X170.here hx rfl (hb hby at_281) k) ?_
    show Ends p e below s 16 128 (Q0 Z p0 p1 p2 p3  h0 n0) (T170.setTop (mkF m 283 #[.val (.int p0), .val (.int p1), .val (.int p2), .val (.int p3), .val (.int v1), .val (.int v2), .val (.int v3), .val (.ref b4), .val (.ref b17), .val (.int (5 : Int32)), .unset, .val (.int (4 : Int32))] [(.int (8 : Int32)), (.int v1), (.int ((v2 + (4 : Int32)) - (1 : Int32))), (.ref b17)]))
    refine Ends.via (fun _ k => XS.iushr X170.here hx rfl (hb hby at_283) rfl k) ?_
    show Ends p e below s 16 128 (Q0 Z p0 p1 p2 p3  h0 n0) (T170.setTop (mkF m 284 #[.val (.int p0), .val (.int p1), .val (.int p2), .val (.int p3), .val (.int v1), .val (.int v2), .val (.int v3), .val (.ref b4), .val (.ref b17), .val (.int (5 : Int32)), .unset, .val (.int (4 : Int32))] [(.int ((v1.toUInt32 >>> ((8 : Int32) &&& 31).toUInt32).toInt32)), (.int ((v2 + (4 : Int32)) - (1 : Int32))), (.ref b17)]))
    refine Ends.via (fun _ k => XS.i2b X170.here hx rfl (hb hby at_284) rfl k) ?_
    show Ends p e below s 16 128 (Q0 Z p0 p1 p2 p3  h0 n0) (T170.setTop (mkF m 285 #[.val (.int p0), .val (.int p1), .val (.int p2), .val (.int p3), .val (.int v1), .val (.int v2), .val (.int v3), .val (.ref b4), .val (.ref b17), .val (.int (5 : Int32)), .unset, .val (.int (4 : Int32))] [(.int (((v1.toUInt32 >>> ((8 : Int32) &&& 31).toUInt32).toInt32).toInt8.toInt32)), (.int ((v2 + (4 : Int32)) - (1 : Int32))), (.ref b17)]))
    obtain ⟨T172, h172, X172, e172, W172, B172, st172⟩ := own_stB X170 hx hZ e170 B170 (j := ((v2 + (4 : Int32)) - (1 : Int32))) (own_in2 v2 (own_at p2 v2 hv2) (4 : Int32) (1 : Int32) 4 1 rfl rfl (by decide) (by decide)) (g := (mkF m 285 #[.val (.int p0), .val (.int p1), .val (.int p2), .val (.int p3), .val (.int v1), .val (.int v2), .val (.int v3), .val (.ref b4), .val (.ref b17), .val (.int (5 : Int32)), .unset, .val (.int (4 : Int32))] [(.int (((v1.toUInt32 >>> ((8 : Int32) &&& 31).toUInt32).toInt32).toInt8.toInt32)), (.int ((v2 + (4 : Int32)) - (1 : Int32))), (.ref b17)])) rfl rfl (hb hby at_285)
    have f172_1 := f170_1.other W172 ne_b4_b17
    have Z172 : n0 ≤ h172.size := Nat.le_trans Z170 (Keep.of_wr W172).1
    have N172 := Fr.snoc X172 N170 g_b17
    refine Ends.via st172 ?_
    show Ends p e below s 16 128 (Q0 Z p0 p1 p2 p3  h0 n0) (T172.setTop (mkF m 286 #[.val (.int p0), .val (.int p1), .val (.int p2), .val (.int p3), .val (.int v1), .val (.int v2), .val (.int v3), .val (.ref b4), .val (.ref b17), .val (.int (5 : Int32)), .unset, .val (.int (4 : Int32))] []))
    refine Ends.via (fun _ k => XS.iload X172.here hx rfl (hb hby at_286) rfl k) ?_
    show Ends p e below s 16 128 (Q0 Z p0 p1 p2 p3  h0 n0) (T172.setTop (mkF m 288 #[.val (.int p0), .val (.int p1), .val (.int p2), .val (.int p3), .val (.int v1), .val (.int v2), .val (.int v3), .val (.ref b4), .val (.ref b17), .val (.int (5 : Int32)), .unset, .val (.int (4 : Int32))] [(.int (4 : Int32))]))
    refine Ends.via (fun _ k => XS.iconst X172.here hx rfl (hb hby at_288) k) ?_
    show Ends p e below s 16 128 (Q0 Z p0 p1 p2 p3  h0 n0) (T172.setTop (mkF m 289 #[.val (.int p0), .val (.int p1), .val (.int p2), .val (.int p3), .val (.int v1), .val (.int v2), .val (.int v3), .val (.ref b4), .val (.ref b17), .val (.int (5 : Int32)), .unset, .val (.int (4 : Int32))] [(.int (3 : Int32)), (.int (4 : Int32))]))
    have hf173 : ¬ ((4 : Int32) < (3 : Int32)) := by decide
    refine Ends.via (fun _ k => XS.icmpNo X172.here hx rfl (hb hby at_289) rfl (flt hf173).1 k) ?_
    show Ends p e below s 16 128 (Q0 Z p0 p1 p2 p3  h0 n0) (T172.setTop (mkF m 292 #[.val (.int p0), .val (.int p1), .val (.int p2), .val (.int p3), .val (.int v1), .val (.int v2), .val (.int v3), .val (.ref b4), .val (.ref b17), .val (.int (5 : Int32)), .unset, .val (.int (4 : Int32))] []))
    refine Ends.via (fun _ k => XS.aload X172.here hx rfl (hb hby at_292) rfl rfl k) ?_
    show Ends p e below s 16 128 (Q0 Z p0 p1 p2 p3  h0 n0) (T172.setTop (mkF m 294 #[.val (.int p0), .val (.int p1), .val (.int p2), .val (.int p3), .val (.int v1), .val (.int v2), .val (.int v3), .val (.ref b4), .val (.ref b17), .val (.int (5 : Int32)), .unset, .val (.int (4 : Int32))] [(.ref b17)]))
    refine Ends.via (fun _ k => XS.iload X172.here hx rfl (hb hby at_294) rfl k) ?_
    show Ends p e below s 16 128 (Q0 Z p0 p1 p2 p3  h0 n0) (T172.setTop (mkF m 296 #[.val (.int p0), .val (.int p1), .val (.int p2), .val (.int p3), .val (.int v1), .val (.int v2), .val (.int v3), .val (.ref b4), .val (.ref b17), .val (.int (5 : Int32)), .unset, .val (.int (4 : Int32))] [(.int v2), (.ref b17)]))
    refine Ends.via (fun _ k => XS.iload X172.here hx rfl (hb hby at_296) rfl k) ?_
    show Ends p e below s 16 128 (Q0 Z p0 p1 p2 p3  h0 n0) (T172.setTop (mkF m 298 #[.val (.int p0), .val (.int p1), .val (.int p2), .val (.int p3), .val (.int v1), .val (.int v2), .val (.int v3), .val (.ref b4), .val (.ref b17), .val (.int (5 : Int32)), .unset, .val (.int (4 : Int32))] [(.int (4 : Int32)), (.int v2), (.ref b17)]))
    refine Ends.via (fun _ k => XS.iadd X172.here hx rfl (hb hby at_298) rfl k) ?_
    show Ends p e below s 16 128 (Q0 Z p0 p1 p2 p3  h0 n0) (T172.setTop (mkF m 299 #[.val (.int p0), .val (.int p1), .val (.int p2), .val (.int p3), .val (.int v1), .val (.int v2), .val (.int v3), .val (.ref b4), .val (.ref b17), .val (.int (5 : Int32)), .unset, .val (.int (4 : Int32))] [(.int (v2 + (4 : Int32))), (.ref b17)]))
    refine Ends.via (fun _ k => XS.iconst X172.here hx rfl (hb hby at_299) k) ?_
    show Ends p e below s 16 128 (Q0 Z p0 p1 p2 p3  h0 n0) (T172.setTop (mkF m 300 #[.val (.int p0), .val (.int p1), .val (.int p2), .val (.int p3), .val (.int v1), .val (.int v2), .val (.int v3), .val (.ref b4), .val (.ref b17), .val (.int (5 : Int32)), .unset, .val (.int (4 : Int32))] [(.int (2 : Int32)), (.int (v2 + (4 : Int32))), (.ref b17)]))
    refine Ends.via (fun _ k => XS.isub X172.here hx rfl (hb hby at_300) rfl k) ?_
    show Ends p e below s 16 128 (Q0 Z p0 p1 p2 p3  h0 n0) (T172.setTop (mkF m 301 #[.val (.int p0), .val (.int p1), .val (.int p2), .val (.int p3), .val (.int v1), .val (.int v2), .val (.int v3), .val (.ref b4), .val (.ref b17), .val (.int (5 : Int32)), .unset, .val (.int (4 : Int32))] [(.int ((v2 + (4 : Int32)) - (2 : Int32))), (.ref b17)]))
    refine Ends.via (fun _ k => XS.iload X172.here hx rfl (hb hby at_301) rfl k) ?_
    show Ends p e below s 16 128 (Q0 Z p0 p1 p2 p3  h0 n0) (T172.setTop (mkF m 303 #[.val (.int p0), .val (.int p1), .val (.int p2), .val (.int p3), .val (.int v1), .val (.int v2), .val (.int v3), .val (.ref b4), .val (.ref b17), .val (.int (5 : Int32)), .unset, .val (.int (4 : Int32))] [(.int v1), (.int ((v2 + (4 : Int32)) - (2 : Int32))), (.ref b17)]))
    refine Ends.via (fun _ k => XS.bipush X172.here hx rfl (hb hby at_303) k) ?_
    show Ends p e below s 16 128 (Q0 Z p0 p1 p2 p3  h0 n0) (T172.setTop (mkF m 305 #[.val (.int p0), .val (.int p1), .val (.int p2), .val (.int p3), .val (.int v1), .val (.int v2), .val (.int v3), .val (.ref b4), .val (.ref b17), .val (.int (5 : Int32)), .unset, .val (.int (4 : Int32))] [(.int (16 : Int32)), (.int v1), (.int ((v2 + (4 : Int32)) - (2 : Int32))), (.ref b17)]))
    refine Ends.via (fun _ k => XS.iushr X172.here hx rfl (hb hby at_305) rfl k) ?_
    show Ends p e below s 16 128 (Q0 Z p0 p1 p2 p3  h0 n0) (T172.setTop (mkF m 306 #[.val (.int p0), .val (.int p1), .val (.int p2), .val (.int p3), .val (.int v1), .val (.int v2), .val (.int v3), .val (.ref b4), .val (.ref b17), .val (.int (5 : Int32)), .unset, .val (.int (4 : Int32))] [(.int ((v1.toUInt32 >>> ((16 : Int32) &&& 31).toUInt32).toInt32)), (.int ((v2 + (4 : Int32)) - (2 : Int32))), (.ref b17)]))
    refine Ends.via (fun _ k => XS.i2b X172.here hx rfl (hb hby at_306) rfl k) ?_
    show Ends p e below s 16 128 (Q0 Z p0 p1 p2 p3  h0 n0) (T172.setTop (mkF m 307 #[.val (.int p0), .val (.int p1), .val (.int p2), .val (.int p3), .val (.int v1), .val (.int v2), .val (.int v3), .val (.ref b4), .val (.ref b17), .val (.int (5 : Int32)), .unset, .val (.int (4 : Int32))] [(.int (((v1.toUInt32 >>> ((16 : Int32) &&& 31).toUInt32).toInt32).toInt8.toInt32)), (.int ((v2 + (4 : Int32)) - (2 : Int32))), (.ref b17)]))
    obtain ⟨T174, h174, X174, e174, W174, B174, st174⟩ := own_stB X172 hx hZ e172 B172 (j := ((v2 + (4 : Int32)) - (2 : Int32))) (own_in2 v2 (own_at p2 v2 hv2) (4 : Int32) (2 : Int32) 4 2 rfl rfl (by decide) (by decide)) (g := (mkF m 307 #[.val (.int p0), .val (.int p1), .val (.int p2), .val (.int p3), .val (.int v1), .val (.int v2), .val (.int v3), .val (.ref b4), .val (.ref b17), .val (.int (5 : Int32)), .unset, .val (.int (4 : Int32))] [(.int (((v1.toUInt32 >>> ((16 : Int32) &&& 31).toUInt32).toInt32).toInt8.toInt32)), (.int ((v2 + (4 : Int32)) - (2 : Int32))), (.ref b17)])) rfl rfl (hb hby at_307)
    have f174_1 := f172_1.other W174 ne_b4_b17
    have Z174 : n0 ≤ h174.size := Nat.le_trans Z172 (Keep.of_wr W174).1
    have N174 := Fr.snoc X174 N172 g_b17
    refine Ends.via st174 ?_
    show Ends p e below s 16 128 (Q0 Z p0 p1 p2 p3  h0 n0) (T174.setTop (mkF m 308 #[.val (.int p0), .val (.int p1), .val (.int p2), .val (.int p3), .val (.int v1), .val (.int v2), .val (.int v3), .val (.ref b4), .val (.ref b17), .val (.int (5 : Int32)), .unset, .val (.int (4 : Int32))] []))
    refine Ends.via (fun _ k => XS.iload X174.here hx rfl (hb hby at_308) rfl k) ?_
    show Ends p e below s 16 128 (Q0 Z p0 p1 p2 p3  h0 n0) (T174.setTop (mkF m 310 #[.val (.int p0), .val (.int p1), .val (.int p2), .val (.int p3), .val (.int v1), .val (.int v2), .val (.int v3), .val (.ref b4), .val (.ref b17), .val (.int (5 : Int32)), .unset, .val (.int (4 : Int32))] [(.int (4 : Int32))]))
    refine Ends.via (fun _ k => XS.iconst X174.here hx rfl (hb hby at_310) k) ?_
    show Ends p e below s 16 128 (Q0 Z p0 p1 p2 p3  h0 n0) (T174.setTop (mkF m 311 #[.val (.int p0), .val (.int p1), .val (.int p2), .val (.int p3), .val (.int v1), .val (.int v2), .val (.int v3), .val (.ref b4), .val (.ref b17), .val (.int (5 : Int32)), .unset, .val (.int (4 : Int32))] [(.int (4 : Int32)), (.int (4 : Int32))]))
    have hf175 : ¬ ((4 : Int32) < (4 : Int32)) := by decide
    refine Ends.via (fun _ k => XS.icmpNo X174.here hx rfl (hb hby at_311) rfl (flt hf175).1 k) ?_
    show Ends p e below s 16 128 (Q0 Z p0 p1 p2 p3  h0 n0) (T174.setTop (mkF m 314 #[.val (.int p0), .val (.int p1), .val (.int p2), .val (.int p3), .val (.int v1), .val (.int v2), .val (.int v3), .val (.ref b4), .val (.ref b17), .val (.int (5 : Int32)), .unset, .val (.int (4 : Int32))] []))
    refine Ends.via (fun _ k => XS.aload X174.here hx rfl (hb hby at_314) rfl rfl k) ?_
    show Ends p e below s 16 128 (Q0 Z p0 p1 p2 p3  h0 n0) (T174.setTop (mkF m 316 #[.val (.int p0), .val (.int p1), .val (.int p2), .val (.int p3), .val (.int v1), .val (.int v2), .val (.int v3), .val (.ref b4), .val (.ref b17), .val (.int (5 : Int32)), .unset, .val (.int (4 : Int32))] [(.ref b17)]))
    refine Ends.via (fun _ k => XS.iload X174.here hx rfl (hb hby at_316) rfl k) ?_
    show Ends p e below s 16 128 (Q0 Z p0 p1 p2 p3  h0 n0) (T174.setTop (mkF m 318 #[.val (.int p0), .val (.int p1), .val (.int p2), .val (.int p3), .val (.int v1), .val (.int v2), .val (.int v3), .val (.ref b4), .val (.ref b17), .val (.int (5 : Int32)), .unset, .val (.int (4 : Int32))] [(.int v2), (.ref b17)]))
    refine Ends.via (fun _ k => XS.iconst X174.here hx rfl (hb hby at_318) k) ?_
    show Ends p e below s 16 128 (Q0 Z p0 p1 p2 p3  h0 n0) (T174.setTop (mkF m 319 #[.val (.int p0), .val (.int p1), .val (.int p2), .val (.int p3), .val (.int v1), .val (.int v2), .val (.int v3), .val (.ref b4), .val (.ref b17), .val (.int (5 : Int32)), .unset, .val (.int (4 : Int32))] [(.int (1 : Int32)), (.int v2), (.ref b17)]))
    refine Ends.via (fun _ k => XS.iadd X174.here hx rfl (hb hby at_319) rfl k) ?_
    show Ends p e below s 16 128 (Q0 Z p0 p1 p2 p3  h0 n0) (T174.setTop (mkF m 320 #[.val (.int p0), .val (.int p1), .val (.int p2), .val (.int p3), .val (.int v1), .val (.int v2), .val (.int v3), .val (.ref b4), .val (.ref b17), .val (.int (5 : Int32)), .unset, .val (.int (4 : Int32))] [(.int (v2 + (1 : Int32))), (.ref b17)]))
    refine Ends.via (fun _ k => XS.iload X174.here hx rfl (hb hby at_320) rfl k) ?_
    show Ends p e below s 16 128 (Q0 Z p0 p1 p2 p3  h0 n0) (T174.setTop (mkF m 322 #[.val (.int p0), .val (.int p1), .val (.int p2), .val (.int p3), .val (.int v1), .val (.int v2), .val (.int v3), .val (.ref b4), .val (.ref b17), .val (.int (5 : Int32)), .unset, .val (.int (4 : Int32))] [(.int v1), (.int (v2 + (1 : Int32))), (.ref b17)]))
    refine Ends.via (fun _ k => XS.bipush X174.here hx rfl (hb hby at_322) k) ?_
    show Ends p e below s 16 128 (Q0 Z p0 p1 p2 p3  h0 n0) (T174.setTop (mkF m 324 #[.val (.int p0), .val (.int p1), .val (.int p2), .val (.int p3), .val (.int v1), .val (.int v2), .val (.int v3), .val (.ref b4), .val (.ref b17), .val (.int (5 : Int32)), .unset, .val (.int (4 : Int32))] [(.int (24 : Int32)), (.int v1), (.int (v2 + (1 : Int32))), (.ref b17)]))
    refine Ends.via (fun _ k => XS.iushr X174.here hx rfl (hb hby at_324) rfl k) ?_
    show Ends p e below s 16 128 (Q0 Z p0 p1 p2 p3  h0 n0) (T174.setTop (mkF m 325 #[.val (.int p0), .val (.int p1), .val (.int p2), .val (.int p3), .val (.int v1), .val (.int v2), .val (.int v3), .val (.ref b4), .val (.ref b17), .val (.int (5 : Int32)), .unset, .val (.int (4 : Int32))] [(.int ((v1.toUInt32 >>> ((24 : Int32) &&& 31).toUInt32).toInt32)), (.int (v2 + (1 : Int32))), (.ref b17)]))
    refine Ends.via (fun _ k => XS.i2b X174.here hx rfl (hb hby at_325) rfl k) ?_
    show Ends p e below s 16 128 (Q0 Z p0 p1 p2 p3  h0 n0) (T174.setTop (mkF m 326 #[.val (.int p0), .val (.int p1), .val (.int p2), .val (.int p3), .val (.int v1), .val (.int v2), .val (.int v3), .val (.ref b4), .val (.ref b17), .val (.int (5 : Int32)), .unset, .val (.int (4 : Int32))] [(.int (((v1.toUInt32 >>> ((24 : Int32) &&& 31).toUInt32).toInt32).toInt8.toInt32)), (.int (v2 + (1 : Int32))), (.ref b17)]))
    obtain ⟨T176, h176, X176, e176, W176, B176, st176⟩ := own_stB X174 hx hZ e174 B174 (j := (v2 + (1 : Int32))) (own_in v2 (own_at p2 v2 hv2) (1 : Int32) 1 rfl (by decide)) (g := (mkF m 326 #[.val (.int p0), .val (.int p1), .val (.int p2), .val (.int p3), .val (.int v1), .val (.int v2), .val (.int v3), .val (.ref b4), .val (.ref b17), .val (.int (5 : Int32)), .unset, .val (.int (4 : Int32))] [(.int (((v1.toUInt32 >>> ((24 : Int32) &&& 31).toUInt32).toInt32).toInt8.toInt32)), (.int (v2 + (1 : Int32))), (.ref b17)])) rfl rfl (hb hby at_326)
    have f176_1 := f174_1.other W176 ne_b4_b17
    have Z176 : n0 ≤ h176.size := Nat.le_trans Z174 (Keep.of_wr W176).1
    have N176 := Fr.snoc X176 N174 g_b17
    refine Ends.via st176 ?_
    show Ends p e below s 16 128 (Q0 Z p0 p1 p2 p3  h0 n0) (T176.setTop (mkF m 327 #[.val (.int p0), .val (.int p1), .val (.int p2), .val (.int p3), .val (.int v1), .val (.int v2), .val (.int v3), .val (.ref b4), .val (.ref b17), .val (.int (5 : Int32)), .unset, .val (.int (4 : Int32))] []))
    refine Ends.via (fun _ k => XS.iconst X176.here hx rfl (hb hby at_327) k) ?_
    show Ends p e below s 16 128 (Q0 Z p0 p1 p2 p3  h0 n0) (T176.setTop (mkF m 328 #[.val (.int p0), .val (.int p1), .val (.int p2), .val (.int p3), .val (.int v1), .val (.int v2), .val (.int v3), .val (.ref b4), .val (.ref b17), .val (.int (5 : Int32)), .unset, .val (.int (4 : Int32))] [(.int (1 : Int32))]))
    refine Ends.via (fun _ k => XS.iload X176.here hx rfl (hb hby at_328) rfl k) ?_
    show Ends p e below s 16 128 (Q0 Z p0 p1 p2 p3  h0 n0) (T176.setTop (mkF m 330 #[.val (.int p0), .val (.int p1), .val (.int p2), .val (.int p3), .val (.int v1), .val (.int v2), .val (.int v3), .val (.ref b4), .val (.ref b17), .val (.int (5 : Int32)), .unset, .val (.int (4 : Int32))] [(.int (4 : Int32)), (.int (1 : Int32))]))
    refine Ends.via (fun _ k => XS.iadd X176.here hx rfl (hb hby at_330) rfl k) ?_
    show Ends p e below s 16 128 (Q0 Z p0 p1 p2 p3  h0 n0) (T176.setTop (mkF m 331 #[.val (.int p0), .val (.int p1), .val (.int p2), .val (.int p3), .val (.int v1), .val (.int v2), .val (.int v3), .val (.ref b4), .val (.ref b17), .val (.int (5 : Int32)), .unset, .val (.int (4 : Int32))] [(.int (5 : Int32))]))
    refine Ends.via (fun _ k => XS.istore X176.here hx rfl (hb hby at_331) rfl (l' := #[.val (.int p0), .val (.int p1), .val (.int p2), .val (.int p3), .val (.int v1), .val (.int v2), .val (.int v3), .val (.ref b4), .val (.ref b17), .val (.int (5 : Int32)), .val (.int (5 : Int32)), .val (.int (4 : Int32))]) rfl k) ?_
    show Ends p e below s 16 128 (Q0 Z p0 p1 p2 p3  h0 n0) (T176.setTop (mkF m 333 #[.val (.int p0), .val (.int p1), .val (.int p2), .val (.int p3), .val (.int v1), .val (.int v2), .val (.int v3), .val (.ref b4), .val (.ref b17), .val (.int (5 : Int32)), .val (.int (5 : Int32)), .val (.int (4 : Int32))] []))
    refine Ends.via (fun _ k => XS.iload X176.here hx rfl (hb hby at_333) rfl k) ?_
    show Ends p e below s 16 128 (Q0 Z p0 p1 p2 p3  h0 n0) (T176.setTop (mkF m 335 #[.val (.int p0), .val (.int p1), .val (.int p2), .val (.int p3), .val (.int v1), .val (.int v2), .val (.int v3), .val (.ref b4), .val (.ref b17), .val (.int (5 : Int32)), .val (.int (5 : Int32)), .val (.int (4 : Int32))] [(.int (5 : Int32))]))
    refine Ends.via (fun _ k => XS.iload X176.here hx rfl (hb hby at_335) rfl k) ?_
    show Ends p e below s 16 128 (Q0 Z p0 p1 p2 p3  h0 n0) (T176.setTop (mkF m 337 #[.val (.int p0), .val (.int p1), .val (.int p2), .val (.int p3), .val (.int v1), .val (.int v2), .val (.int v3), .val (.ref b4), .val (.ref b17), .val (.int (5 : Int32)), .val (.int (5 : Int32)), .val (.int (4 : Int32))] [(.int (5 : Int32)), (.int (5 : Int32))]))
    have hf177 : (5 : Int32) = (5 : Int32) := by decide
    refine Ends.via (fun _ k => XS.icmpNo X176.here hx rfl (hb hby at_337) rfl (teq hf177).2 k) ?_
    show Ends p e below s 16 128 (Q0 Z p0 p1 p2 p3  h0 n0) (T176.setTop (mkF m 340 #[.val (.int p0), .val (.int p1), .val (.int p2), .val (.int p3), .val (.int v1), .val (.int v2), .val (.int v3), .val (.ref b4), .val (.ref b17), .val (.int (5 : Int32)), .val (.int (5 : Int32)), .val (.int (4 : Int32))] []))
    refine Ends.via (fun _ k => XS.aload X176.here hx rfl (hb hby at_340) rfl rfl k) ?_
    show Ends p e below s 16 128 (Q0 Z p0 p1 p2 p3  h0 n0) (T176.setTop (mkF m 342 #[.val (.int p0), .val (.int p1), .val (.int p2), .val (.int p3), .val (.int v1), .val (.int v2), .val (.int v3), .val (.ref b4), .val (.ref b17), .val (.int (5 : Int32)), .val (.int (5 : Int32)), .val (.int (4 : Int32))] [(.ref b4)]))
    refine Ends.via (fun _ k => XS.aload X176.here hx rfl (hb hby at_342) rfl rfl k) ?_
    show Ends p e below s 16 128 (Q0 Z p0 p1 p2 p3  h0 n0) (T176.setTop (mkF m 344 #[.val (.int p0), .val (.int p1), .val (.int p2), .val (.int p3), .val (.int v1), .val (.int v2), .val (.int v3), .val (.ref b4), .val (.ref b17), .val (.int (5 : Int32)), .val (.int (5 : Int32)), .val (.int (4 : Int32))] [(.ref b17), (.ref b4)]))
    have Beq : own_B Z h176 b4 k4 (List.set (List.set (List.set (List.set (List.set (own_base v3) (v2).toNatClampNeg (nar .byte ((132 : Int32).toInt8.toInt32))) ((v2 + (4 : Int32))).toNatClampNeg (nar .byte (v1.toInt8.toInt32))) (((v2 + (4 : Int32)) - (1 : Int32))).toNatClampNeg (nar .byte (((v1.toUInt32 >>> ((8 : Int32) &&& 31).toUInt32).toInt32).toInt8.toInt32))) (((v2 + (4 : Int32)) - (2 : Int32))).toNatClampNeg (nar .byte (((v1.toUInt32 >>> ((16 : Int32) &&& 31).toUInt32).toInt32).toInt8.toInt32))) ((v2 + (1 : Int32))).toNatClampNeg (nar .byte (((v1.toUInt32 >>> ((24 : Int32) &&& 31).toUInt32).toInt32).toInt8.toInt32))) := by rw [← own_same4 (own_base v3) v2 v1 (own_at p2 v2 hv2) hk]; exact f176_1
    obtain ⟨_, _, ⟨T178, L178, k178, n178⟩, -, X178, ⟨Lc178, hQ178, l178, y178, z178⟩, st178⟩ := Jvm.LawKit.callS X176 hx (y := (⟨"com/example/sextant/sextant/ber/BerEncoderPutLengthPinLaw", "same", "([B[B)Z"⟩ : MethodName)) hown (mvT hZ (hw _ (List.mem_of_getElem? (i := 6) rfl))) (mvT hZ (hw _ (List.mem_of_getElem? (i := 7) rfl))) (mvT hZ (hw _ (List.mem_of_getElem? (i := 8) rfl))) (mvT hZ (hw _ (List.mem_of_getElem? (i := 9) rfl))) (by decide) (backOf (W := 0) (rm2 l Z _ hw [] b4 b17 k4 k17 (List.set (List.set (List.set (List.set (List.set (own_base v3) (v2).toNatClampNeg (nar .byte ((132 : Int32).toInt8.toInt32))) ((v2 + (4 : Int32))).toNatClampNeg (nar .byte (v1.toInt8.toInt32))) (((v2 + (4 : Int32)) - (1 : Int32))).toNatClampNeg (nar .byte (((v1.toUInt32 >>> ((8 : Int32) &&& 31).toUInt32).toInt32).toInt8.toInt32))) (((v2 + (4 : Int32)) - (2 : Int32))).toNatClampNeg (nar .byte (((v1.toUInt32 >>> ((16 : Int32) &&& 31).toUInt32).toInt32).toInt8.toInt32))) ((v2 + (1 : Int32))).toNatClampNeg (nar .byte (((v1.toUInt32 >>> ((24 : Int32) &&& 31).toUInt32).toInt32).toInt8.toInt32))) h176 n0 Z176 Beq B176) hZ (hw _ (List.mem_of_getElem? (i := 9) rfl)) (hw _ (List.mem_of_getElem? (i := 8) rfl)) (by decide) (by decide)) (g := (mkF m 344 #[.val (.int p0), .val (.int p1), .val (.int p2), .val (.int p3), .val (.int v1), .val (.int v2), .val (.int v3), .val (.ref b4), .val (.ref b17), .val (.int (5 : Int32)), .val (.int (5 : Int32)), .val (.int (4 : Int32))] [(.ref b17), (.ref b4)])) rfl (by rw [hml]; rfl) (argsL := [(.ref b4), (.ref b17)]) (rest := []) (lenOf own_pd1 rfl) rfl (by show 2 * 0 + _ ≤ _; exact Nat.le_of_eq rfl) (hb hby at_344) (fun _ _ => ⟨rfl, e176, (by decide : 2 + 0 ≤ _), (by decide : 24 + 0 ≤ _)⟩)
    dsimp only [Pt.U, Pt.locs, Pt.cells, Pt.slots] at X178 l178 y178 z178 st178 hQ178
    subst l178 y178 z178
    obtain ⟨rfl, Nq178, e178⟩ := hQ178
    have N178 := Fr.app N176 Nq178
    refine Ends.via st178 ?_
    show Ends p e below s 16 128 (Q0 Z p0 p1 p2 p3  h0 n0) (T178.setTop (mkF m 347 #[.val (.int p0), .val (.int p1), .val (.int p2), .val (.int p3), .val (.int v1), .val (.int v2), .val (.int v3), .val (.ref b4), .val (.ref b17), .val (.int (5 : Int32)), .val (.int (5 : Int32)), .val (.int (4 : Int32))] [(.int (1 : Int32))]))
    have hf179 : ¬ ((1 : Int32) = (0 : Int32)) := by decide
    refine Ends.via (fun _ k => XS.ifNo X178.here hx rfl (hb hby at_347) rfl ((if0 _ _).trans (feq hf179).1) k) ?_
    show Ends p e below s 16 128 (Q0 Z p0 p1 p2 p3  h0 n0) (T178.setTop (mkF m 350 #[.val (.int p0), .val (.int p1), .val (.int p2), .val (.int p3), .val (.int v1), .val (.int v2), .val (.int v3), .val (.ref b4), .val (.ref b17), .val (.int (5 : Int32)), .val (.int (5 : Int32)), .val (.int (4 : Int32))] []))
    refine Ends.via (fun _ k => XS.iconst X178.here hx rfl (hb hby at_350) k) ?_
    show Ends p e below s 16 128 (Q0 Z p0 p1 p2 p3  h0 n0) (T178.setTop (mkF m 351 #[.val (.int p0), .val (.int p1), .val (.int p2), .val (.int p3), .val (.int v1), .val (.int v2), .val (.int v3), .val (.ref b4), .val (.ref b17), .val (.int (5 : Int32)), .val (.int (5 : Int32)), .val (.int (4 : Int32))] [(.int (1 : Int32))]))
    refine Ends.via (fun _ k => XS.goto X178.here hx rfl (pc0 := 351) (pc' := 355) rfl (hb hby at_351) (by decide) (by decide) k) ?_
    show Ends p e below s 16 128 (Q0 Z p0 p1 p2 p3  h0 n0) (T178.setTop (mkF m 355 #[.val (.int p0), .val (.int p1), .val (.int p2), .val (.int p3), .val (.int v1), .val (.int v2), .val (.int v3), .val (.ref b4), .val (.ref b17), .val (.int (5 : Int32)), .val (.int (5 : Int32)), .val (.int (4 : Int32))] [(.int (1 : Int32))]))
    refine Ends.ret X178 (v := some (.int (nar .boolean (1 : Int32)))) (fun h => by rw [Bd.returns] at h; cases h) Bd.notSynchronized (fun fs hr => retN X178 hx (t := .boolean) Bd.returns (by simp) (hb hby at_355) hr) ?_ (by decide) (by decide)
    exact ⟨rfl, N178⟩
set_option maxRecDepth 65536 in
set_option maxHeartbeats 40000000 in
theorem comes_1 {Post : Tables → Env → Array Value → State → Outcome → State → Prop} (hpost : ∀ tb e args s v u, (limb_1_1.after args s (.returned v) u = true ∧ limb_1_2.after args s (.returned v) u = true ∧ True) → FrameEnd s (.returned v) u (Jvm.fieldLocs frame_1_writes args s ++ Jvm.arrayLocs frame_1_arrays args s ++ Jvm.staticLocs frame_1_statics s) 16 128 → Post tb e args s (.returned v) u) :
    ArmFor flags0 classFile x code maxLocals ret World_1 tables_1 room_1 Calls_1 rest_1 Pre_1 Post := by
  intro l hfl _ _ p e ha hc hk s m args below hf hA hF happ hP
  obtain ⟨hcalls, hrest, hpre⟩ := hP
  obtain ⟨-, -, -, hnamed, -, -, -, hat⟩ := (Spec.applies_iff hf).mp happ
  obtain ⟨hg, hn⟩ := and_e (Cond.before_iff.mp (show (Jvm.Cond.and given_1 narrow_1).before args s = true from hpre))
  obtain ⟨hcnt, g0⟩ := and_e hg
  obtain ⟨t0, g1⟩ := and_e g0
  obtain ⟨t1, g2⟩ := and_e g1
  obtain ⟨t2, g3⟩ := and_e g2
  obtain ⟨w0, w1, w2, w3, rfl⟩ : ∃ w0 w1 w2 w3 : Value, args = #[w0, w1, w2, w3] := by
    have hs : args.size = 4 := by simpa [Cond.value, given_1] using hcnt
    obtain ⟨L⟩ := args
    match L, hs with
    | [w0, w1, w2, w3], _ => exact ⟨w0, w1, w2, w3, rfl⟩
  have hw := fun d (hd : d ∈ tables_1) => atoms_spec (ws := Jvm.Cond.code x code maxLocals ret :: tables_1) hat d (List.mem_cons_of_mem _ hd)
  obtain ⟨i0, ei0⟩ := is_v t0
  obtain rfl : w0 = (.int i0) := Option.some.inj ei0
  obtain ⟨i1, ei1⟩ := is_v t1
  obtain rfl : w1 = (.int i1) := Option.some.inj ei1
  obtain ⟨i2, ei2⟩ := is_v t2
  obtain rfl : w2 = (.int i2) := Option.some.inj ei2
  obtain ⟨i3, ei3⟩ := is_v g3
  obtain rfl : w3 = (.int i3) := Option.some.inj ei3
  obtain ⟨n, o, h1, h2, h3, _, L, rfl, ⟨rfl, N⟩, hq⟩ := rm0 l s _ hw tables_1 i0 i1 i2 i3 s.heap s.heap.size (Nat.le_refl _) p e ha hc hk s m _ below hf ((Spec.applies_iff_loose hf).mp happ).1 ⟨rfl, State.Warmed39.refl s, rfl⟩ trivial
  refine ⟨n, _, h1, h2, h3, hpost _ _ _ _ _ _ ⟨Cond.after_iff.mpr rfl, Cond.after_iff.mpr (eq_i res_at (Term.int_eval (1)) rfl), trivial⟩ ⟨hq.1, hq.2.1, (hq.2.2.sift fun y hy => Or.inr (N y hy)).mono (by decide) (by decide)⟩⟩
theorem main_1_1 : Claimed_1_1 := comes_1 fun _ _ _ _ _ _ h hF => ⟨h.1, hF⟩
theorem main_1_2 : Claimed_1_2 := comes_1 fun _ _ _ _ _ _ h hF => ⟨h.2.1, hF⟩
end Jvm.Pilot.@@N@@
namespace Jvm.Pilot.@@N@@
open Jvm Jvm.ClassFile Sem Op Lib Jvm.Free Jvm.Stand Jvm.Pilot.@@N@@.Jvm.D
/-! MADE BY PROGRAM (witnessworld.py) out of the Statement's table words and the real class files: 9 classes; the members and pool entries that the words name. The judged class is class 1, her method 1. -/
namespace start1
open Jvm.ClassFile
def u (s : String) : CpInfo := .utf8 (stringToUtf16 s)
/-- a pool by its gaps: so many unusable entries, then the entry; so many at the end -/
def gap : Nat → List CpInfo → List CpInfo
  | 0, r => r
  | n + 1, r => .unusable :: gap n r
def poolList (es : List (Nat × CpInfo)) (last : Nat) : List CpInfo := es.foldr (fun e r => gap e.1 (e.2 :: r)) (gap last [])
def pool (es : List (Nat × CpInfo)) (last : Nat) : Array CpInfo := ⟨poolList es last⟩
def fileOf (pool : Array CpInfo) (this : Nat) (attrs : Array Attribute := #[]) (ms : Array MethodInfo := #[]) (fl : Nat := 33) (sup : Nat := 0) (ifs : Array Nat := #[]) (fds : Array FieldInfo := #[]) : ClassFile where
  minorVersion := 0
  majorVersion := 65
  constantPool := pool
  accessFlags := fl
  thisClass := this
  superClass := sup
  interfaces := ifs
  fields := fds
  methods := ms
  attributes := attrs
def plain (name : String) (sup : Option ClassId) : Class where
  name := name
  kind := .ordinary
  loader := none
  accessFlags := 33
  super := sup
  interfaces := #[]
  cf := none
  fields := #[]
  methods := #[]
  instanceTypes := #[]
  staticTypes := #[]
  resolved := #[]
  callSites := []
  init := .initialized
  statics := none
  mirror := none

def pool0 : Array CpInfo := pool [(5, u "<init>"), (0, u "()V"), (1, .class_ 10), (1, u "java/lang/Object")] 113

def k0m0 : Method := { name := "<init>", desc := "()V", sig := { parameters := [], returnType := none }, accessFlags := 1, code := none }
/-- java/lang/Object -/
def k0 : Class := { plain "java/lang/Object" none with
  accessFlags := 33
  interfaces := #[]
  cf := some (fileOf pool0 8 #[] #[{ accessFlags := 1, nameIndex := 5, descriptorIndex := 6, attributes := #[] }] 33 0 #[] #[])
  fields := #[]
  methods := #[k0m0]
  instanceTypes := #[]
  staticTypes := #[]
  resolved := Array.replicate 124 none
  statics := none }

def pool1 : Array CpInfo := pool [(2, .class_ 4), (1, u "java/lang/Object"), (0, u "<init>"), (0, u "()V"), (0, .integer 2147483647), (0, .methodref 9 10), (0, .class_ 11), (0, .nameAndType 12 13), (0, u "com/example/sextant/sextant/ber/BerEncoder"), (0, u "putLength"), (0, u "([BII)I"), (0, .integer 65536), (0, .integer 16777216), (0, .methodref 17 18), (0, .class_ 19), (0, .nameAndType 20 21), (0, u "com/example/sextant/sextant/ber/BerEncoderPutLengthPinLaw"), (0, u "same"), (0, u "([B[B)Z"), (2, u "law"), (0, u "(IIII)Z")] 5

def k1m0 : Method := { name := "<init>", desc := "()V", sig := { parameters := [], returnType := none }, accessFlags := 2, code := none }
def k1c1 : Code := { maxStack := 4, maxLocals := 12, code := code, exceptionTable := #[], attributes := #[] }
def k1m1 : Method := { name := "law", desc := "(IIII)Z", sig := { parameters := [.int, .int, .int, .int], returnType := some .boolean }, accessFlags := 9, code := some k1c1 }
def k1c2 : Code := { maxStack := 3, maxLocals := 2, code := method_3_code, exceptionTable := #[], attributes := #[] }
def k1m2 : Method := { name := "same", desc := "([B[B)Z", sig := { parameters := [(.array .byte), (.array .byte)], returnType := some .boolean }, accessFlags := 10, code := some k1c2 }
/-- com/example/sextant/sextant/ber/BerEncoderPutLengthPinLaw -/
def k1 : Class := { plain "com/example/sextant/sextant/ber/BerEncoderPutLengthPinLaw" (some 0) with
  accessFlags := 49
  interfaces := #[]
  cf := some (fileOf pool1 17 #[] #[{ accessFlags := 2, nameIndex := 5, descriptorIndex := 6, attributes := #[] }, { accessFlags := 9, nameIndex := 24, descriptorIndex := 25, attributes := #[] }, { accessFlags := 10, nameIndex := 20, descriptorIndex := 21, attributes := #[] }] 49 2 #[] #[])
  fields := #[]
  methods := #[k1m0, k1m1, k1m2]
  instanceTypes := #[]
  staticTypes := #[]
  resolved := Array.replicate 31 none
  statics := none }

def pool2 : Array CpInfo := pool [(2, .class_ 4), (1, u "java/lang/Object"), (0, u "<init>"), (0, u "()V"), (10, .class_ 19), (1, u "com/example/sextant/sextant/ber/BerEncoder"), (3, .class_ 25), (1, u "com/example/sextant/sextant/ber/BerEncoder$LengthForm"), (39, u "putLength"), (0, u "([BII)I"), (17, u "TRANSFER_SYNTAX"), (0, u "Lcom/example/sextant/sextant/ber/ObjectIdentifier;"), (0, u "INTEGER"), (0, u "I"), (2, u "OBJECT_IDENTIFIER"), (1, u "MAX_LENGTH_OCTETS")] 38

def k2m0 : Method := { name := "<init>", desc := "()V", sig := { parameters := [], returnType := none }, accessFlags := 2, code := none }
def k2c1 : Code := { maxStack := 6, maxLocals := 5, code := prog_51_method_8_code, exceptionTable := #[], attributes := #[] }
def k2m1 : Method := { name := "putLength", desc := "([BII)I", sig := { parameters := [(.array .byte), .int, .int], returnType := some .int }, accessFlags := 8, code := some k2c1 }
/-- com/example/sextant/sextant/ber/BerEncoder -/
def k2 : Class := { plain "com/example/sextant/sextant/ber/BerEncoder" (some 0) with
  accessFlags := 49
  interfaces := #[]
  cf := some (fileOf pool2 17 #[.nestMembers #[23]] #[{ accessFlags := 2, nameIndex := 5, descriptorIndex := 6, attributes := #[] }, { accessFlags := 8, nameIndex := 65, descriptorIndex := 66, attributes := #[] }] 49 2 #[] #[{ accessFlags := 25, nameIndex := 84, descriptorIndex := 85, attributes := #[] }, { accessFlags := 25, nameIndex := 86, descriptorIndex := 87, attributes := #[] }, { accessFlags := 25, nameIndex := 90, descriptorIndex := 87, attributes := #[] }, { accessFlags := 24, nameIndex := 92, descriptorIndex := 87, attributes := #[] }])
  fields := #[{ name := "TRANSFER_SYNTAX", type := (.object "com/example/sextant/sextant/ber/ObjectIdentifier"), accessFlags := 25, slot := 0, constantValue := 0 }, { name := "INTEGER", type := .int, accessFlags := 25, slot := 1, constantValue := 0 }, { name := "OBJECT_IDENTIFIER", type := .int, accessFlags := 25, slot := 2, constantValue := 0 }, { name := "MAX_LENGTH_OCTETS", type := .int, accessFlags := 24, slot := 3, constantValue := 0 }]
  methods := #[k2m0, k2m1]
  instanceTypes := #[]
  staticTypes := #[(.object "com/example/sextant/sextant/ber/ObjectIdentifier"), .int, .int, .int]
  resolved := Array.replicate 131 none
  statics := none }

def pool3 : Array CpInfo := pool [(1, u "java/lang/Cloneable"), (0, .class_ 1), (0, u "java/lang/Object"), (0, .class_ 3)] 3

/-- java/lang/Cloneable -/
def k3 : Class := { plain "java/lang/Cloneable" (some 0) with
  accessFlags := 1537
  interfaces := #[]
  cf := some (fileOf pool3 2 #[] #[] 1537 4 #[] #[])
  fields := #[]
  methods := #[]
  instanceTypes := #[]
  staticTypes := #[]
  resolved := Array.replicate 8 none
  statics := none }

def pool4 : Array CpInfo := pool [(1, u "java/io/Serializable"), (0, .class_ 1), (0, u "java/lang/Object"), (0, .class_ 3)] 3

/-- java/io/Serializable -/
def k4 : Class := { plain "java/io/Serializable" (some 0) with
  accessFlags := 1537
  interfaces := #[]
  cf := some (fileOf pool4 2 #[] #[] 1537 4 #[] #[])
  fields := #[]
  methods := #[]
  instanceTypes := #[]
  staticTypes := #[]
  resolved := Array.replicate 8 none
  statics := none }

/-- the primitive byte -/
def k5 : Class := { plain "byte" none with kind := .primitive 'B', accessFlags := 0x411 }
/-- [B -/
def k6 : Class := { plain "[B" (some 0) with kind := .array 5 .byte, interfaces := #[3, 4], accessFlags := 1041 }

/-- the primitive int -/
def k7 : Class := { plain "int" none with kind := .primitive 'I', accessFlags := 0x411 }
/-- [I -/
def k8 : Class := { plain "[I" (some 0) with kind := .array 7 .int, interfaces := #[3, 4], accessFlags := 1041 }

def heap : Heap := #[]
def classes : Array Class := #[k0, k1, k2, k3, k4, k5, k6, k7, k8]
def interned : List (Array UInt16 × Addr) := []
def slotsUsed : Nat := 0
def theMethod : MethodId := ⟨1, 1⟩
def args0 : Array Value := #[.int 5, .int 5, .int 5, .int 5]
def aboutOver (below : List Frame) : State where
  vm := { classes := classes, interned := interned.toArray }
  heap := heap
  slotsUsed := slotsUsed
  threads := #[{ frames := .invoking theMethod args0 :: below }]
def below0 : List Frame := [.native { method := ⟨0, 0⟩, args := #[] }]
def about1 : State := aboutOver below0
def p0 : Program := .bare "" "" ""
def e0 : Env := launch0.env 0 0 0
theorem w_frames : about1.frames = Frame.invoking theMethod args0 :: below0 := rfl
set_option maxRecDepth 65536 in
theorem w_args : argsFit about1.vm theMethod args0 = true := by decide +kernel
set_option maxRecDepth 65536 in
theorem w_heap : heapFits about1 = true := by decide +kernel
set_option maxRecDepth 65536 in
theorem w_runnable : about1.curStatus? = some .runnable := by decide +kernel
set_option maxRecDepth 65536 in
theorem w_alone : about1.alone = true := by decide +kernel
set_option maxRecDepth 65536 in
theorem w_named : about1.methodNamed? x = some theMethod := by decide +kernel
set_option maxRecDepth 65536 in
theorem w_hears : about1.hears theMethod below0 = true := by decide +kernel
set_option maxRecDepth 65536 in
theorem w_ripe : about1.ripe theMethod args0 below0 = true := by decide +kernel
theorem w_running : about1.status = .running := rfl
set_option maxRecDepth 65536 in
theorem w_room : about1.hasRoom e0.platform room_1 = true :=
  launch0.hasRoom_least _ room_1 (by decide +kernel) (by decide +kernel) (by decide +kernel) (by decide +kernel) (by decide +kernel) (by decide +kernel)
theorem allAtoms_all (ts : List Jvm.Cond) (a : Array Jvm.Value) (st : Jvm.State) : (allAtoms ts).before a st = ts.all (fun c => c.before a st) := by
  induction ts with
  | nil => rfl
  | cons c t ih =>
    show (Jvm.Cond.and c (allAtoms t)).before a st = _
    rw [Jvm.Cond.before_and, ih, List.all_cons]
def words1 : List Jvm.Cond := Jvm.Cond.code x code maxLocals ret :: tables_1
/-- a 'code' word, met by the world's own term for the bytes: nothing is compared byte by byte -/
theorem code_word {y : MethodName} {bytes : ByteArray} {mx : Nat} {rt : Option FieldType} {a : Array Value} {s : State} {m : MethodId} {meth : Method} {c : Code} (h1 : s.methodNamed? y = some m) (h2 : s.vm.method? m = some meth) (h3 : meth.code = some c) (h4 : c.code = bytes)
    (h5 : (c.maxLocals == mx && c.exceptionTable.isEmpty && decide (c.maxStack ≤ mostOperands) && decide (meth.sig.returnType = rt) && !meth.locks && decide (parseMethodDescriptor y.desc = some meth.sig)) = true) : (Jvm.Cond.code y bytes mx rt).before a s = true := by
  simp only [Bool.and_eq_true, beq_iff_eq, Bool.not_eq_true', decide_eq_true_eq] at h5
  obtain ⟨⟨⟨⟨⟨g1, g2⟩, g3⟩, g4⟩, g5⟩, g6⟩ := h5
  simp [Cond.before, Cond.holds, Cond.value, h1, h2, h3, h4, g1, g2, g3, g4, g5, g6]
def isCode : Jvm.Cond → Bool
  | .code _ _ _ _ => true
  | _ => false
theorem all_split {L : List Jvm.Cond} {P : Jvm.Cond → Bool} (h1 : L.all (fun c => isCode c || P c) = true) (h2 : ∀ c ∈ L.filter isCode, P c = true) : L.all P = true := by
  refine List.all_eq_true.mpr fun c hc => ?_
  have h := List.all_eq_true.mp h1 c hc
  rcases Bool.eq_false_or_eq_true (isCode c) with hi | hi
  · exact h2 c (List.mem_filter.mpr ⟨hc, hi⟩)
  · simpa [hi] using h
set_option maxRecDepth 65536 in
theorem w_c0 : (Jvm.Cond.code x code maxLocals ret).before args0 about1 = true := code_word (m := ⟨1, 1⟩) (meth := k1m1) (c := k1c1) (by decide +kernel) rfl rfl rfl (by decide +kernel)
set_option maxRecDepth 65536 in
theorem w_c1 : (Jvm.Cond.code ({ cls := "com/example/sextant/sextant/ber/BerEncoder", name := "putLength", desc := "([BII)I" } : Jvm.MethodName) prog_51_method_8_code (5 : Nat) (Option.some Jvm.ClassFile.FieldType.int)).before args0 about1 = true := code_word (m := ⟨2, 1⟩) (meth := k2m1) (c := k2c1) (by decide +kernel) rfl rfl rfl (by decide +kernel)
set_option maxRecDepth 65536 in
theorem w_c2 : (Jvm.Cond.code ({ cls := "com/example/sextant/sextant/ber/BerEncoderPutLengthPinLaw", name := "same", desc := "([B[B)Z" } : Jvm.MethodName) method_3_code (2 : Nat) (Option.some Jvm.ClassFile.FieldType.boolean)).before args0 about1 = true := code_word (m := ⟨1, 2⟩) (meth := k1m2) (c := k1c2) (by decide +kernel) rfl rfl rfl (by decide +kernel)
def codes1 : List Jvm.Cond := [Jvm.Cond.code x code maxLocals ret, Jvm.Cond.code ({ cls := "com/example/sextant/sextant/ber/BerEncoder", name := "putLength", desc := "([BII)I" } : Jvm.MethodName) prog_51_method_8_code (5 : Nat) (Option.some Jvm.ClassFile.FieldType.int), Jvm.Cond.code ({ cls := "com/example/sextant/sextant/ber/BerEncoderPutLengthPinLaw", name := "same", desc := "([B[B)Z" } : Jvm.MethodName) method_3_code (2 : Nat) (Option.some Jvm.ClassFile.FieldType.boolean)]
set_option maxRecDepth 65536 in
theorem codes_eq : words1.filter isCode = codes1 := rfl
theorem w_codes : ∀ c ∈ words1.filter isCode, c.before args0 about1 = true := by
  rw [codes_eq]
  intro c hc
  simp only [codes1, List.mem_cons, List.not_mem_nil, or_false] at hc
  rcases hc with rfl | rfl | rfl
  · exact w_c0
  · exact w_c1
  · exact w_c2
set_option maxRecDepth 65536 in
theorem w_t1 : words1.all (fun c => isCode c || c.before args0 about1) = true := by decide +kernel
theorem w_tables : (allAtoms (Jvm.Cond.code x code maxLocals ret :: tables_1)).before args0 about1 = true := by
  rw [allAtoms_all]
  show words1.all (fun c => c.before args0 about1) = true
  refine all_split ?_ w_codes
  rw [w_t1]
set_option maxRecDepth 65536 in
theorem w_case : (Jvm.Cond.and given_1 narrow_1).before args0 about1 = true := by decide +kernel
theorem w_applies : (headSpec (Jvm.Cond.code x code maxLocals ret :: tables_1) room_1).applies x e0.platform about1 = true :=
  (Spec.applies_iff w_frames).mpr ⟨w_running, w_runnable, w_alone, w_named, w_hears, w_ripe, w_room, w_tables⟩
theorem atStart : AtStart classFile x code maxLocals ret World_1 tables_1 room_1 Calls_1 rest_1 Pre_1 launch0 p0 e0 about1 theMethod args0 below0 :=
  ⟨lists_1, trivial, launch0.admits_env _ _ _, launch0.least_env, fairChoices_fair.cas, fairChoices_fair.clock, w_frames, w_args, w_heap, w_applies, trivial, trivial, w_case⟩
end start1
theorem witness_1 : WitnessClaimed_1 := ⟨start1.p0, start1.e0, start1.about1, start1.theMethod, start1.args0, start1.below0, start1.atStart⟩
end Jvm.Pilot.@@N@@
