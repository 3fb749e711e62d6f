import JvmDerived
import JvmDerived.Pilot.@@N@@Statement
import JvmDerived.Pilot.@@N@@Code
set_option linter.unusedVariables false
set_option linter.unusedSimpArgs false
namespace Jvm.RoadKit
open Sem ClassFile Op Lib Jvm.Stand Jvm.Free Jvm.LawKit
section New
variable {p : Program} {l : Launch} {e : Env} {R : Room} {s : State} {m : MethodId} {args : Array Value} {below : List Frame} {meth : Method} {c : Code} {T : State} {locs : List Loc} {cells slots : Nat}
theorem retI (X : Stand p l e R s m args below meth c T locs cells slots) (hx : p.tables.exec = Jvm.exec) {pc : Nat} {Ls : Array Slot} {z : Int32} {rest : List Value} (hret : meth.sig.returnType = some .int) (hd : decode c.code pc = .ok (.ireturn, 1)) {fs : List Frame}
    (hl : ∀ (f : JFrame) (acts : List Action), f.method = m → f.locked = none → f.entered = [] → (doReturn e (T.setTop f) acts (some (.int z))).1 = T.setFrames fs) : Steps p.tables e below (T.setTop (mkF m pc Ls (.int z :: rest))) (T.setFrames fs) := by
  have hm' : T.vm.method? m = some meth := X.method'
  have hn : narrow .int (.int z) = .int z := rfl
  show Steps p.tables e below (T.setTop { method := m, pc := pc, locals := Ls, stack := _ :: rest, locked := none }) _
  jvm_step X.here [X.here.top, hx, hd, hm', hret, hn]
  first | (intro acts; rw [hl _ acts rfl rfl rfl]) | rw [hl _ _ rfl rfl rfl]
  exact Steps.refl _
end New
end Jvm.RoadKit
namespace Jvm.Pilot.@@N@@
open Jvm Jvm.ClassFile Sem Op Lib Jvm.Free Jvm.Stand Jvm.LawKit Jvm.RoadKit Bundle Jvm.Pilot.@@N@@.Jvm.D
/-- from u the invocation ends, and what it returns and leaves is as Q says -/
def Ends (p : Program) (e : Env) (below : List Frame) (s : State) (kc ks : Nat) (Q : Option Value → Heap → List Loc → Prop) (u : State) : Prop :=
  ∃ s₂ o, Steps p.tables e below u s₂ ∧ s₂.status = .running ∧ Ended s₂ below o ∧ ∃ v L, o = .returned v ∧ Q v s₂.heap L ∧ FrameEnd s o s₂ L kc ks
theorem Ends.via {p : Program} {e : Env} {below : List Frame} {s : State} {kc ks : Nat} {Q : Option Value → Heap → List Loc → Prop} {A B : State} (h : ∀ t, Steps p.tables e below A t → Steps p.tables e below B t) (k : Ends p e below s kc ks Q A) : Ends p e below s kc ks Q B := by
  obtain ⟨s₂, o, h1, r⟩ := k
  exact ⟨s₂, o, h _ h1, r⟩
theorem Ends.ret {p : Program} {l : Launch} {e : Env} {R : Room} {s : State} {m : MethodId} {args : Array Value} {below : List Frame} {meth : Method} {c : Code} {T : State} {locs : List Loc} {cells slots kc ks : Nat} {Q : Option Value → Heap → List Loc → Prop} {u : State}
    (X : Stand p l e R s m args below meth c T locs cells slots) {v : Option Value} (hv : meth.sig.returnType = none → v = none) (hlocks : meth.locks = false)
    (hst : ∀ fs, (∀ (f : JFrame) (acts : List Action), f.method = m → f.locked = none → f.entered = [] → (doReturn e (T.setTop f) acts v).1 = T.setFrames fs) → Steps p.tables e below u (T.setFrames fs))
    (hQ : Q v T.heap locs) (h1 : cells ≤ kc) (h2 : slots ≤ ks) : Ends p e below s kc ks Q u := by
  obtain ⟨fs, hr, hrun, hended, hW, hsame⟩ := X.leave (v := v) hv hlocks
  exact ⟨_, _, hst fs hr, hrun, hended, _, _, rfl, hQ, ⟨_, rfl⟩, hW, hsame.mono h1 h2⟩

def own_sel (w : Int64) (p1 i : Int32) : Int64 := if ((p1.toUInt32 >>> ((6 : Int32) &&& 31).toUInt32).toInt32) = i then (w ||| ((1 : Int64) <<< (p1 &&& 0x3f).toInt64)) else w
theorem own_pd0 : parseMethodDescriptor "([JI)V" = some ⟨[(.array .long), .int], none⟩ := by decide +kernel
theorem own_pd1 : parseMethodDescriptor "(JIIJ)J" = some ⟨[.long, .int, .int, .long], some .long⟩ := by decide +kernel
theorem d1_0 : decode prog_56_method_4_code 0 = .ok (.aload_n 0, 1) := by decide +kernel
theorem d1_1 : decode prog_56_method_4_code 1 = .ok (.iload_n 1, 1) := by decide +kernel
theorem d1_2 : decode prog_56_method_4_code 2 = .ok (.bipush 6, 2) := by decide +kernel
theorem d1_4 : decode prog_56_method_4_code 4 = .ok (.iushr, 1) := by decide +kernel
theorem d1_5 : decode prog_56_method_4_code 5 = .ok (.dup2, 1) := by decide +kernel
theorem d1_6 : decode prog_56_method_4_code 6 = .ok (.laload, 1) := by decide +kernel
theorem d1_7 : decode prog_56_method_4_code 7 = .ok (.lconst 1, 1) := by decide +kernel
theorem d1_8 : decode prog_56_method_4_code 8 = .ok (.iload_n 1, 1) := by decide +kernel
theorem d1_9 : decode prog_56_method_4_code 9 = .ok (.lshl, 1) := by decide +kernel
theorem d1_10 : decode prog_56_method_4_code 10 = .ok (.lor, 1) := by decide +kernel
theorem d1_11 : decode prog_56_method_4_code 11 = .ok (.lastore, 1) := by decide +kernel
theorem d1_12 : decode prog_56_method_4_code 12 = .ok (.return_, 1) := by decide +kernel
theorem pn_1 : plainName "org/graphstride/VertexBits" = true := by first | (simp [plainName, overriddenIn]; done) | decide +kernel
theorem ef_1 (m : MethodId) (a0 : Addr) (p1 : Int32) : entryFrame m #[(.ref a0), (.int p1)] 2 = mkF m 0 #[.val (.ref a0), .val (.int p1)] [] := by first | (simp [entryFrame, mkF, argsToLocals, Value.category]; done) | rfl
abbrev ROOM1 : Room := { frames := 0, cells := 0, slots := 0, locals := 0 }
def Q1 (Z : State) (a0 : Addr) (p1 : Int32) (k : ClassId) (w0 w1 w2 w3 : Int64) (h0 : Heap) (n0 : Nat) (v : Option Value) (h : Heap) (L : List Loc) : Prop := v = none ∧ Fr n0 L ∧ Keep h0 h [a0] ∧ Arv Z h a0 k .long (4 : Int32) [(.long (own_sel w0 p1 (0 : Int32))), (.long (own_sel w1 p1 (1 : Int32))), (.long (own_sel w2 p1 (2 : Int32))), (.long (own_sel w3 p1 (3 : Int32)))] (.long (0 : Int64))
set_option maxRecDepth 65536 in
set_option maxHeartbeats 40000000 in
theorem rm1 (l : Launch) (Z : State) (a0 : Array Value) (hw : ∀ d ∈ tables_1, d.before a0 Z = true) (ws : List Jvm.Cond) (a0 : Addr) (p1 : Int32) (k : ClassId) (w0 w1 w2 w3 : Int64) (h0 : Heap) (n0 : Nat) (Z0 : n0 ≤ h0.size) (Va : Arv Z h0 a0 k .long (4 : Int32) [(.long w0), (.long w1), (.long w2), (.long w3)] (.long (0 : Int64))) (g_a0 : n0 ≤ a0) (hj : ((p1.toUInt32 >>> ((6 : Int32) &&& 31).toUInt32).toInt32) = 0 ∨ ((p1.toUInt32 >>> ((6 : Int32) &&& 31).toUInt32).toInt32) = 1 ∨ ((p1.toUInt32 >>> ((6 : Int32) &&& 31).toUInt32).toInt32) = 2 ∨ ((p1.toUInt32 >>> ((6 : Int32) &&& 31).toUInt32).toInt32) = 3) :
    MetFree l (⟨"org/graphstride/VertexBits", "set", "([JI)V"⟩ : MethodName) (head1 (Jvm.Cond.code (⟨"org/graphstride/VertexBits", "set", "([JI)V"⟩ : MethodName) prog_56_method_4_code 2 none :: ws) ROOM1) (fun a U => a = #[(.ref a0), (.int p1)] ∧ Z.Warmed39 U.vm ∧ U.heap = h0) (fun _ _ _ _ _ => True) (fun _ U o U' => ∃ v L, o = .returned v ∧ Q1 Z a0 p1 k w0 w1 w2 w3 h0 n0 v U'.heap L ∧ FrameEnd U o U' L ROOM1.cells ROOM1.slots) := by
  refine MetFree.of_bodySF (plainFor_of_name pn_1) hisR ?_
  intro p e s m args below meth c s₁ Bd hml0 hP hK
  obtain ⟨rfl, hZ, hh⟩ := hP
  have hx := Bd.exec
  have hby := Bd.bytes
  have hml : c.maxLocals = 2 := hml0
  have hown : s.vm.findClass "org/graphstride/VertexBits" = some m.cls := findClass_of_methodNamed Bd.named
  have hnm := (name_of_methodNamed Bd.named Bd.method).1
  have X0 : Stand p l e ROOM1 s m #[(.ref a0), (.int p1)] below meth c s₁ [] 0 0 := Stand.of_body Bd
  have e0 : s₁.heap = h0 := by rw [← hh, Bd.state]; rfl
  have N0 := Fr.nil n0
  refine Ends.via (A := s₁.setTop (mkF m 0 #[.val (.ref a0), .val (.int p1)] [])) (kc := ROOM1.cells) (ks := ROOM1.slots) (Q := (Q1 Z a0 p1 k w0 w1 w2 w3 h0 n0)) (fun t k => castTop (ef_1 m a0 p1) k) ?_
  show Ends p e below s ROOM1.cells ROOM1.slots (Q1 Z a0 p1 k w0 w1 w2 w3 h0 n0) (s₁.setTop (mkF m 0 #[.val (.ref a0), .val (.int p1)] []))
  refine Ends.via (fun _ k => XS.aloadN X0.here hx rfl (hb hby d1_0) rfl rfl k) ?_
  show Ends p e below s ROOM1.cells ROOM1.slots (Q1 Z a0 p1 k w0 w1 w2 w3 h0 n0) (s₁.setTop (mkF m 1 #[.val (.ref a0), .val (.int p1)] [(.ref a0)]))
  refine Ends.via (fun _ k => XS.iloadN X0.here hx rfl (hb hby d1_1) rfl k) ?_
  show Ends p e below s ROOM1.cells ROOM1.slots (Q1 Z a0 p1 k w0 w1 w2 w3 h0 n0) (s₁.setTop (mkF m 2 #[.val (.ref a0), .val (.int p1)] [(.int p1), (.ref a0)]))
  refine Ends.via (fun _ k => XS.bipush X0.here hx rfl (hb hby d1_2) k) ?_
  show Ends p e below s ROOM1.cells ROOM1.slots (Q1 Z a0 p1 k w0 w1 w2 w3 h0 n0) (s₁.setTop (mkF m 4 #[.val (.ref a0), .val (.int p1)] [(.int (6 : Int32)), (.int p1), (.ref a0)]))
  refine Ends.via (fun _ k => XS.iushr X0.here hx rfl (hb hby d1_4) rfl k) ?_
  show Ends p e below s ROOM1.cells ROOM1.slots (Q1 Z a0 p1 k w0 w1 w2 w3 h0 n0) (s₁.setTop (mkF m 5 #[.val (.ref a0), .val (.int p1)] [(.int ((p1.toUInt32 >>> ((6 : Int32) &&& 31).toUInt32).toInt32)), (.ref a0)]))
  rcases hj with hj | hj | hj | hj
  · rw [hj]
    show Ends p e below s ROOM1.cells ROOM1.slots (Q1 Z a0 p1 k w0 w1 w2 w3 h0 n0) (s₁.setTop (mkF m 5 #[.val (.ref a0), .val (.int p1)] [(.int (0 : Int32)), (.ref a0)]))
    refine Ends.via (fun _ k => XT.dup2 X0.here hx rfl (hb hby d1_5) rfl rfl rfl k) ?_
    show Ends p e below s ROOM1.cells ROOM1.slots (Q1 Z a0 p1 k w0 w1 w2 w3 h0 n0) (s₁.setTop (mkF m 6 #[.val (.ref a0), .val (.int p1)] [(.int (0 : Int32)), (.ref a0), (.int (0 : Int32)), (.ref a0)]))
    obtain ⟨cl7, Ar7, qk7, S7, Ng7, Hs7, Gf7⟩ := id Va
    have hin7 : ¬ ((0 : Int32) < 0 ∨ cl7.slots.size ≤ ((0 : Int32)).toNatClampNeg) := inb_of S7 ⟨by decide, by decide⟩
    have hat7 : cl7.slots[((0 : Int32)).toNatClampNeg]? = some (.long w0) := Hs7.at hin7 rfl
    refine Ends.via (X0.laload hx (j := (0 : Int32)) (v := (.long w0)) (by rw [e0]; exact Ar7.1) (State.isArrayOf_alike hZ.alike Ar7.2.1) Ar7.2.2 hin7 hat7 (g := (mkF m 6 #[.val (.ref a0), .val (.int p1)] [(.int (0 : Int32)), (.ref a0), (.int (0 : Int32)), (.ref a0)])) rfl rfl (hb hby d1_6)) ?_
    show Ends p e below s ROOM1.cells ROOM1.slots (Q1 Z a0 p1 k w0 w1 w2 w3 h0 n0) (s₁.setTop (mkF m 7 #[.val (.ref a0), .val (.int p1)] [(.long w0), (.int (0 : Int32)), (.ref a0)]))
    refine Ends.via (fun _ k => XS.lconst X0.here hx rfl (hb hby d1_7) k) ?_
    show Ends p e below s ROOM1.cells ROOM1.slots (Q1 Z a0 p1 k w0 w1 w2 w3 h0 n0) (s₁.setTop (mkF m 8 #[.val (.ref a0), .val (.int p1)] [(.long (1 : Int64)), (.long w0), (.int (0 : Int32)), (.ref a0)]))
    refine Ends.via (fun _ k => XS.iloadN X0.here hx rfl (hb hby d1_8) rfl k) ?_
    show Ends p e below s ROOM1.cells ROOM1.slots (Q1 Z a0 p1 k w0 w1 w2 w3 h0 n0) (s₁.setTop (mkF m 9 #[.val (.ref a0), .val (.int p1)] [(.int p1), (.long (1 : Int64)), (.long w0), (.int (0 : Int32)), (.ref a0)]))
    refine Ends.via (fun _ k => XS.lshl X0.here hx rfl (hb hby d1_9) rfl k) ?_
    show Ends p e below s ROOM1.cells ROOM1.slots (Q1 Z a0 p1 k w0 w1 w2 w3 h0 n0) (s₁.setTop (mkF m 10 #[.val (.ref a0), .val (.int p1)] [(.long ((1 : Int64) <<< (p1 &&& 0x3f).toInt64)), (.long w0), (.int (0 : Int32)), (.ref a0)]))
    refine Ends.via (fun _ k => XS.lor X0.here hx rfl (hb hby d1_10) rfl k) ?_
    show Ends p e below s ROOM1.cells ROOM1.slots (Q1 Z a0 p1 k w0 w1 w2 w3 h0 n0) (s₁.setTop (mkF m 11 #[.val (.ref a0), .val (.int p1)] [(.long (w0 ||| ((1 : Int64) <<< (p1 &&& 0x3f).toInt64))), (.int (0 : Int32)), (.ref a0)]))
    obtain ⟨cl8, Ar8, qk8, S8, Ng8, Hs8, Gf8⟩ := id Va
    have hin8 : ¬ ((0 : Int32) < 0 ∨ cl8.slots.size ≤ ((0 : Int32)).toNatClampNeg) := inb_of S8 ⟨by decide, by decide⟩
    obtain ⟨T8, h8, X8, e8, W8, st8⟩ := stJ X0 hx hZ e0 Ar8 (j := (0 : Int32)) hin8 (g := (mkF m 11 #[.val (.ref a0), .val (.int p1)] [(.long (w0 ||| ((1 : Int64) <<< (p1 &&& 0x3f).toInt64))), (.int (0 : Int32)), (.ref a0)])) rfl rfl (hb hby d1_11)
    have V8 : Arv Z h8 a0 k .long (4 : Int32) [(.long (w0 ||| ((1 : Int64) <<< (p1 &&& 0x3f).toInt64))), (.long w1), (.long w2), (.long w3)] (.long (0 : Int64)) := Arv.set Ar8 qk8 S8 Ng8 Hs8 Gf8 rfl W8 0 rfl (Nat.le_of_ble_eq_true rfl)
    have Z8 : n0 ≤ h8.size := Nat.le_trans Z0 (Keep.of_wr W8).1
    have K8 := Keep.wr (Keep.refl h0 [a0]) W8 (Or.inl (List.mem_of_getElem? (i := 0) rfl))
    have N8 := Fr.snoc X8 N0 g_a0
    refine Ends.via st8 ?_
    show Ends p e below s ROOM1.cells ROOM1.slots (Q1 Z a0 p1 k w0 w1 w2 w3 h0 n0) (T8.setTop (mkF m 12 #[.val (.ref a0), .val (.int p1)] []))
    refine Ends.ret X8 (v := none) (fun _ => rfl) Bd.notSynchronized (fun fs hr => X8.returnOut hx Bd.returns (hb hby d1_12) hr) ?_ (by decide) (by decide)
    rw [e8]
    have s0 : own_sel w0 p1 (0 : Int32) = (w0 ||| ((1 : Int64) <<< (p1 &&& 0x3f).toInt64)) := by rw [own_sel, hj, if_pos rfl]
    have s1 : own_sel w1 p1 (1 : Int32) = w1 := by rw [own_sel, hj, if_neg (by decide)]
    have s2 : own_sel w2 p1 (2 : Int32) = w2 := by rw [own_sel, hj, if_neg (by decide)]
    have s3 : own_sel w3 p1 (3 : Int32) = w3 := by rw [own_sel, hj, if_neg (by decide)]
    exact ⟨rfl, N8, K8, by rw [s0, s1, s2, s3]; exact V8⟩
  · rw [hj]
    show Ends p e below s ROOM1.cells ROOM1.slots (Q1 Z a0 p1 k w0 w1 w2 w3 h0 n0) (s₁.setTop (mkF m 5 #[.val (.ref a0), .val (.int p1)] [(.int (1 : Int32)), (.ref a0)]))
    refine Ends.via (fun _ k => XT.dup2 X0.here hx rfl (hb hby d1_5) rfl rfl rfl k) ?_
    show Ends p e below s ROOM1.cells ROOM1.slots (Q1 Z a0 p1 k w0 w1 w2 w3 h0 n0) (s₁.setTop (mkF m 6 #[.val (.ref a0), .val (.int p1)] [(.int (1 : Int32)), (.ref a0), (.int (1 : Int32)), (.ref a0)]))
    obtain ⟨cl9, Ar9, qk9, S9, Ng9, Hs9, Gf9⟩ := id Va
    have hin9 : ¬ ((1 : Int32) < 0 ∨ cl9.slots.size ≤ ((1 : Int32)).toNatClampNeg) := inb_of S9 ⟨by decide, by decide⟩
    have hat9 : cl9.slots[((1 : Int32)).toNatClampNeg]? = some (.long w1) := Hs9.at hin9 rfl
    refine Ends.via (X0.laload hx (j := (1 : Int32)) (v := (.long w1)) (by rw [e0]; exact Ar9.1) (State.isArrayOf_alike hZ.alike Ar9.2.1) Ar9.2.2 hin9 hat9 (g := (mkF m 6 #[.val (.ref a0), .val (.int p1)] [(.int (1 : Int32)), (.ref a0), (.int (1 : Int32)), (.ref a0)])) rfl rfl (hb hby d1_6)) ?_
    show Ends p e below s ROOM1.cells ROOM1.slots (Q1 Z a0 p1 k w0 w1 w2 w3 h0 n0) (s₁.setTop (mkF m 7 #[.val (.ref a0), .val (.int p1)] [(.long w1), (.int (1 : Int32)), (.ref a0)]))
    refine Ends.via (fun _ k => XS.lconst X0.here hx rfl (hb hby d1_7) k) ?_
    show Ends p e below s ROOM1.cells ROOM1.slots (Q1 Z a0 p1 k w0 w1 w2 w3 h0 n0) (s₁.setTop (mkF m 8 #[.val (.ref a0), .val (.int p1)] [(.long (1 : Int64)), (.long w1), (.int (1 : Int32)), (.ref a0)]))
    refine Ends.via (fun _ k => XS.iloadN X0.here hx rfl (hb hby d1_8) rfl k) ?_
    show Ends p e below s ROOM1.cells ROOM1.slots (Q1 Z a0 p1 k w0 w1 w2 w3 h0 n0) (s₁.setTop (mkF m 9 #[.val (.ref a0), .val (.int p1)] [(.int p1), (.long (1 : Int64)), (.long w1), (.int (1 : Int32)), (.ref a0)]))
    refine Ends.via (fun _ k => XS.lshl X0.here hx rfl (hb hby d1_9) rfl k) ?_
    show Ends p e below s ROOM1.cells ROOM1.slots (Q1 Z a0 p1 k w0 w1 w2 w3 h0 n0) (s₁.setTop (mkF m 10 #[.val (.ref a0), .val (.int p1)] [(.long ((1 : Int64) <<< (p1 &&& 0x3f).toInt64)), (.long w1), (.int (1 : Int32)), (.ref a0)]))
    refine Ends.via (fun _ k => XS.lor X0.here hx rfl (hb hby d1_10) rfl k) ?_
    show Ends p e below s ROOM1.cells ROOM1.slots (Q1 Z a0 p1 k w0 w1 w2 w3 h0 n0) (s₁.setTop (mkF m 11 #[.val (.ref a0), .val (.int p1)] [(.long (w1 ||| ((1 : Int64) <<< (p1 &&& 0x3f).toInt64))), (.int (1 : Int32)), (.ref a0)]))
    obtain ⟨cl10, Ar10, qk10, S10, Ng10, Hs10, Gf10⟩ := id Va
    have hin10 : ¬ ((1 : Int32) < 0 ∨ cl10.slots.size ≤ ((1 : Int32)).toNatClampNeg) := inb_of S10 ⟨by decide, by decide⟩
    obtain ⟨T10, h10, X10, e10, W10, st10⟩ := stJ X0 hx hZ e0 Ar10 (j := (1 : Int32)) hin10 (g := (mkF m 11 #[.val (.ref a0), .val (.int p1)] [(.long (w1 ||| ((1 : Int64) <<< (p1 &&& 0x3f).toInt64))), (.int (1 : Int32)), (.ref a0)])) rfl rfl (hb hby d1_11)
    have V10 : Arv Z h10 a0 k .long (4 : Int32) [(.long w0), (.long (w1 ||| ((1 : Int64) <<< (p1 &&& 0x3f).toInt64))), (.long w2), (.long w3)] (.long (0 : Int64)) := Arv.set Ar10 qk10 S10 Ng10 Hs10 Gf10 rfl W10 1 rfl (Nat.le_of_ble_eq_true rfl)
    have Z10 : n0 ≤ h10.size := Nat.le_trans Z0 (Keep.of_wr W10).1
    have K10 := Keep.wr (Keep.refl h0 [a0]) W10 (Or.inl (List.mem_of_getElem? (i := 0) rfl))
    have N10 := Fr.snoc X10 N0 g_a0
    refine Ends.via st10 ?_
    show Ends p e below s ROOM1.cells ROOM1.slots (Q1 Z a0 p1 k w0 w1 w2 w3 h0 n0) (T10.setTop (mkF m 12 #[.val (.ref a0), .val (.int p1)] []))
    refine Ends.ret X10 (v := none) (fun _ => rfl) Bd.notSynchronized (fun fs hr => X10.returnOut hx Bd.returns (hb hby d1_12) hr) ?_ (by decide) (by decide)
    rw [e10]
    have s0 : own_sel w0 p1 (0 : Int32) = w0 := by rw [own_sel, hj, if_neg (by decide)]
    have s1 : own_sel w1 p1 (1 : Int32) = (w1 ||| ((1 : Int64) <<< (p1 &&& 0x3f).toInt64)) := by rw [own_sel, hj, if_pos rfl]
    have s2 : own_sel w2 p1 (2 : Int32) = w2 := by rw [own_sel, hj, if_neg (by decide)]
    have s3 : own_sel w3 p1 (3 : Int32) = w3 := by rw [own_sel, hj, if_neg (by decide)]
    exact ⟨rfl, N10, K10, by rw [s0, s1, s2, s3]; exact V10⟩
  · rw [hj]
    show Ends p e below s ROOM1.cells ROOM1.slots (Q1 Z a0 p1 k w0 w1 w2 w3 h0 n0) (s₁.setTop (mkF m 5 #[.val (.ref a0), .val (.int p1)] [(.int (2 : Int32)), (.ref a0)]))
    refine Ends.via (fun _ k => XT.dup2 X0.here hx rfl (hb hby d1_5) rfl rfl rfl k) ?_
    show Ends p e below s ROOM1.cells ROOM1.slots (Q1 Z a0 p1 k w0 w1 w2 w3 h0 n0) (s₁.setTop (mkF m 6 #[.val (.ref a0), .val (.int p1)] [(.int (2 : Int32)), (.ref a0), (.int (2 : Int32)), (.ref a0)]))
    obtain ⟨cl11, Ar11, qk11, S11, Ng11, Hs11, Gf11⟩ := id Va
    have hin11 : ¬ ((2 : Int32) < 0 ∨ cl11.slots.size ≤ ((2 : Int32)).toNatClampNeg) := inb_of S11 ⟨by decide, by decide⟩
    have hat11 : cl11.slots[((2 : Int32)).toNatClampNeg]? = some (.long w2) := Hs11.at hin11 rfl
    refine Ends.via (X0.laload hx (j := (2 : Int32)) (v := (.long w2)) (by rw [e0]; exact Ar11.1) (State.isArrayOf_alike hZ.alike Ar11.2.1) Ar11.2.2 hin11 hat11 (g := (mkF m 6 #[.val (.ref a0), .val (.int p1)] [(.int (2 : Int32)), (.ref a0), (.int (2 : Int32)), (.ref a0)])) rfl rfl (hb hby d1_6)) ?_
    show Ends p e below s ROOM1.cells ROOM1.slots (Q1 Z a0 p1 k w0 w1 w2 w3 h0 n0) (s₁.setTop (mkF m 7 #[.val (.ref a0), .val (.int p1)] [(.long w2), (.int (2 : Int32)), (.ref a0)]))
    refine Ends.via (fun _ k => XS.lconst X0.here hx rfl (hb hby d1_7) k) ?_
    show Ends p e below s ROOM1.cells ROOM1.slots (Q1 Z a0 p1 k w0 w1 w2 w3 h0 n0) (s₁.setTop (mkF m 8 #[.val (.ref a0), .val (.int p1)] [(.long (1 : Int64)), (.long w2), (.int (2 : Int32)), (.ref a0)]))
    refine Ends.via (fun _ k => XS.iloadN X0.here hx rfl (hb hby d1_8) rfl k) ?_
    show Ends p e below s ROOM1.cells ROOM1.slots (Q1 Z a0 p1 k w0 w1 w2 w3 h0 n0) (s₁.setTop (mkF m 9 #[.val (.ref a0), .val (.int p1)] [(.int p1), (.long (1 : Int64)), (.long w2), (.int (2 : Int32)), (.ref a0)]))
    refine Ends.via (fun _ k => XS.lshl X0.here hx rfl (hb hby d1_9) rfl k) ?_
    show Ends p e below s ROOM1.cells ROOM1.slots (Q1 Z a0 p1 k w0 w1 w2 w3 h0 n0) (s₁.setTop (mkF m 10 #[.val (.ref a0), .val (.int p1)] [(.long ((1 : Int64) <<< (p1 &&& 0x3f).toInt64)), (.long w2), (.int (2 : Int32)), (.ref a0)]))
    refine Ends.via (fun _ k => XS.lor X0.here hx rfl (hb hby d1_10) rfl k) ?_
    show Ends p e below s ROOM1.cells ROOM1.slots (Q1 Z a0 p1 k w0 w1 w2 w3 h0 n0) (s₁.setTop (mkF m 11 #[.val (.ref a0), .val (.int p1)] [(.long (w2 ||| ((1 : Int64) <<< (p1 &&& 0x3f).toInt64))), (.int (2 : Int32)), (.ref a0)]))
    obtain ⟨cl12, Ar12, qk12, S12, Ng12, Hs12, Gf12⟩ := id Va
    have hin12 : ¬ ((2 : Int32) < 0 ∨ cl12.slots.size ≤ ((2 : Int32)).toNatClampNeg) := inb_of S12 ⟨by decide, by decide⟩
    obtain ⟨T12, h12, X12, e12, W12, st12⟩ := stJ X0 hx hZ e0 Ar12 (j := (2 : Int32)) hin12 (g := (mkF m 11 #[.val (.ref a0), .val (.int p1)] [(.long (w2 ||| ((1 : Int64) <<< (p1 &&& 0x3f).toInt64))), (.int (2 : Int32)), (.ref a0)])) rfl rfl (hb hby d1_11)
    have V12 : Arv Z h12 a0 k .long (4 : Int32) [(.long w0), (.long w1), (.long (w2 ||| ((1 : Int64) <<< (p1 &&& 0x3f).toInt64))), (.long w3)] (.long (0 : Int64)) := Arv.set Ar12 qk12 S12 Ng12 Hs12 Gf12 rfl W12 2 rfl (Nat.le_of_ble_eq_true rfl)
    have Z12 : n0 ≤ h12.size := Nat.le_trans Z0 (Keep.of_wr W12).1
    have K12 := Keep.wr (Keep.refl h0 [a0]) W12 (Or.inl (List.mem_of_getElem? (i := 0) rfl))
    have N12 := Fr.snoc X12 N0 g_a0
    refine Ends.via st12 ?_
    show Ends p e below s ROOM1.cells ROOM1.slots (Q1 Z a0 p1 k w0 w1 w2 w3 h0 n0) (T12.setTop (mkF m 12 #[.val (.ref a0), .val (.int p1)] []))
    refine Ends.ret X12 (v := none) (fun _ => rfl) Bd.notSynchronized (fun fs hr => X12.returnOut hx Bd.returns (hb hby d1_12) hr) ?_ (by decide) (by decide)
    rw [e12]
    have s0 : own_sel w0 p1 (0 : Int32) = w0 := by rw [own_sel, hj, if_neg (by decide)]
    have s1 : own_sel w1 p1 (1 : Int32) = w1 := by rw [own_sel, hj, if_neg (by decide)]
    have s2 : own_sel w2 p1 (2 : Int32) = (w2 ||| ((1 : Int64) <<< (p1 &&& 0x3f).toInt64)) := by rw [own_sel, hj, if_pos rfl]
    have s3 : own_sel w3 p1 (3 : Int32) = w3 := by rw [own_sel, hj, if_neg (by decide)]
    exact ⟨rfl, N12, K12, by rw [s0, s1, s2, s3]; exact V12⟩
  · rw [hj]
    show Ends p e below s ROOM1.cells ROOM1.slots (Q1 Z a0 p1 k w0 w1 w2 w3 h0 n0) (s₁.setTop (mkF m 5 #[.val (.ref a0), .val (.int p1)] [(.int (3 : Int32)), (.ref a0)]))
    refine Ends.via (fun _ k => XT.dup2 X0.here hx rfl (hb hby d1_5) rfl rfl rfl k) ?_
    show Ends p e below s ROOM1.cells ROOM1.slots (Q1 Z a0 p1 k w0 w1 w2 w3 h0 n0) (s₁.setTop (mkF m 6 #[.val (.ref a0), .val (.int p1)] [(.int (3 : Int32)), (.ref a0), (.int (3 : Int32)), (.ref a0)]))
    obtain ⟨cl13, Ar13, qk13, S13, Ng13, Hs13, Gf13⟩ := id Va
    have hin13 : ¬ ((3 : Int32) < 0 ∨ cl13.slots.size ≤ ((3 : Int32)).toNatClampNeg) := inb_of S13 ⟨by decide, by decide⟩
    have hat13 : cl13.slots[((3 : Int32)).toNatClampNeg]? = some (.long w3) := Hs13.at hin13 rfl
    refine Ends.via (X0.laload hx (j := (3 : Int32)) (v := (.long w3)) (by rw [e0]; exact Ar13.1) (State.isArrayOf_alike hZ.alike Ar13.2.1) Ar13.2.2 hin13 hat13 (g := (mkF m 6 #[.val (.ref a0), .val (.int p1)] [(.int (3 : Int32)), (.ref a0), (.int (3 : Int32)), (.ref a0)])) rfl rfl (hb hby d1_6)) ?_
    show Ends p e below s ROOM1.cells ROOM1.slots (Q1 Z a0 p1 k w0 w1 w2 w3 h0 n0) (s₁.setTop (mkF m 7 #[.val (.ref a0), .val (.int p1)] [(.long w3), (.int (3 : Int32)), (.ref a0)]))
    refine Ends.via (fun _ k => XS.lconst X0.here hx rfl (hb hby d1_7) k) ?_
    show Ends p e below s ROOM1.cells ROOM1.slots (Q1 Z a0 p1 k w0 w1 w2 w3 h0 n0) (s₁.setTop (mkF m 8 #[.val (.ref a0), .val (.int p1)] [(.long (1 : Int64)), (.long w3), (.int (3 : Int32)), (.ref a0)]))
    refine Ends.via (fun _ k => XS.iloadN X0.here hx rfl (hb hby d1_8) rfl k) ?_
    show Ends p e below s ROOM1.cells ROOM1.slots (Q1 Z a0 p1 k w0 w1 w2 w3 h0 n0) (s₁.setTop (mkF m 9 #[.val (.ref a0), .val (.int p1)] [(.int p1), (.long (1 : Int64)), (.long w3), (.int (3 : Int32)), (.ref a0)]))
    refine Ends.via (fun _ k => XS.lshl X0.here hx rfl (hb hby d1_9) rfl k) ?_
    show Ends p e below s ROOM1.cells ROOM1.slots (Q1 Z a0 p1 k w0 w1 w2 w3 h0 n0) (s₁.setTop (mkF m 10 #[.val (.ref a0), .val (.int p1)] [(.long ((1 : Int64) <<< (p1 &&& 0x3f).toInt64)), (.long w3), (.int (3 : Int32)), (.ref a0)]))
    refine Ends.via (fun _ k => XS.lor X0.here hx rfl (hb hby d1_10) rfl k) ?_
    show Ends p e below s ROOM1.cells ROOM1.slots (Q1 Z a0 p1 k w0 w1 w2 w3 h0 n0) (s₁.setTop (mkF m 11 #[.val (.ref a0), .val (.int p1)] [(.long (w3 ||| ((1 : Int64) <<< (p1 &&& 0x3f).toInt64))), (.int (3 : Int32)), (.ref a0)]))
    obtain ⟨cl14, Ar14, qk14, S14, Ng14, Hs14, Gf14⟩ := id Va
    have hin14 : ¬ ((3 : Int32) < 0 ∨ cl14.slots.size ≤ ((3 : Int32)).toNatClampNeg) := inb_of S14 ⟨by decide, by decide⟩
    obtain ⟨T14, h14, X14, e14, W14, st14⟩ := stJ X0 hx hZ e0 Ar14 (j := (3 : Int32)) hin14 (g := (mkF m 11 #[.val (.ref a0), .val (.int p1)] [(.long (w3 ||| ((1 : Int64) <<< (p1 &&& 0x3f).toInt64))), (.int (3 : Int32)), (.ref a0)])) rfl rfl (hb hby d1_11)
    have V14 : Arv Z h14 a0 k .long (4 : Int32) [(.long w0), (.long w1), (.long w2), (.long (w3 ||| ((1 : Int64) <<< (p1 &&& 0x3f).toInt64)))] (.long (0 : Int64)) := Arv.set Ar14 qk14 S14 Ng14 Hs14 Gf14 rfl W14 3 rfl (Nat.le_of_ble_eq_true rfl)
    have Z14 : n0 ≤ h14.size := Nat.le_trans Z0 (Keep.of_wr W14).1
    have K14 := Keep.wr (Keep.refl h0 [a0]) W14 (Or.inl (List.mem_of_getElem? (i := 0) rfl))
    have N14 := Fr.snoc X14 N0 g_a0
    refine Ends.via st14 ?_
    show Ends p e below s ROOM1.cells ROOM1.slots (Q1 Z a0 p1 k w0 w1 w2 w3 h0 n0) (T14.setTop (mkF m 12 #[.val (.ref a0), .val (.int p1)] []))
    refine Ends.ret X14 (v := none) (fun _ => rfl) Bd.notSynchronized (fun fs hr => X14.returnOut hx Bd.returns (hb hby d1_12) hr) ?_ (by decide) (by decide)
    rw [e14]
    have s0 : own_sel w0 p1 (0 : Int32) = w0 := by rw [own_sel, hj, if_neg (by decide)]
    have s1 : own_sel w1 p1 (1 : Int32) = w1 := by rw [own_sel, hj, if_neg (by decide)]
    have s2 : own_sel w2 p1 (2 : Int32) = w2 := by rw [own_sel, hj, if_neg (by decide)]
    have s3 : own_sel w3 p1 (3 : Int32) = (w3 ||| ((1 : Int64) <<< (p1 &&& 0x3f).toInt64)) := by rw [own_sel, hj, if_pos rfl]
    exact ⟨rfl, N14, K14, by rw [s0, s1, s2, s3]; exact V14⟩
theorem d2_0 : decode method_2_code 0 = .ok (.iload_n 2, 1) := by decide +kernel
theorem d2_1 : decode method_2_code 1 = .ok (.iload_n 3, 1) := by decide +kernel
theorem d2_2 : decode method_2_code 2 = .ok (.if_icmp .ne 8, 3) := by decide +kernel
theorem d2_5 : decode method_2_code 5 = .ok (.lload_n 0, 1) := by decide +kernel
theorem d2_6 : decode method_2_code 6 = .ok (.lload 4, 2) := by decide +kernel
theorem d2_8 : decode method_2_code 8 = .ok (.lor, 1) := by decide +kernel
theorem d2_9 : decode method_2_code 9 = .ok (.lreturn, 1) := by decide +kernel
theorem d2_10 : decode method_2_code 10 = .ok (.lload_n 0, 1) := by decide +kernel
theorem d2_11 : decode method_2_code 11 = .ok (.lreturn, 1) := by decide +kernel
theorem pn_2 : plainName "org/graphstride/VertexBitsSetPinLaw" = true := by first | (simp [plainName, overriddenIn]; done) | decide +kernel
theorem ef_2 (m : MethodId) (q0 : Int64) (p1 : Int32) (p2 : Int32) (q3 : Int64) : entryFrame m #[(.long q0), (.int p1), (.int p2), (.long q3)] 6 = mkF m 0 #[.val (.long q0), .second, .val (.int p1), .val (.int p2), .val (.long q3), .second] [] := by first | (simp [entryFrame, mkF, argsToLocals, Value.category]; done) | rfl
def fn2 (q0 : Int64) (p1 : Int32) (p2 : Int32) (q3 : Int64) : Int64 := (if p1 = p2 then (q0 ||| q3) else q0)
abbrev ROOM2 : Room := { frames := 0, cells := 0, slots := 0, locals := 0 }
def Q2 (Z : State) (q0 : Int64) (p1 : Int32) (p2 : Int32) (q3 : Int64)  (h0 : Heap) (n0 : Nat) (v : Option Value) (h : Heap) (L : List Loc) : Prop := v = some (.long (fn2 q0 p1 p2 q3)) ∧ Fr n0 L ∧ h = h0
set_option maxRecDepth 65536 in
set_option maxHeartbeats 40000000 in
theorem rm2 (l : Launch) (Z : State) (a0 : Array Value) (hw : ∀ d ∈ tables_1, d.before a0 Z = true) (ws : List Jvm.Cond) (q0 : Int64) (p1 : Int32) (p2 : Int32) (q3 : Int64)  (h0 : Heap) (n0 : Nat) (Z0 : n0 ≤ h0.size)  :
    MetFree l (⟨"org/graphstride/VertexBitsSetPinLaw", "expect", "(JIIJ)J"⟩ : MethodName) (head1 (Jvm.Cond.code (⟨"org/graphstride/VertexBitsSetPinLaw", "expect", "(JIIJ)J"⟩ : MethodName) method_2_code 6 (some .long) :: ws) ROOM2) (fun a U => a = #[(.long q0), (.int p1), (.int p2), (.long q3)] ∧ Z.Warmed39 U.vm ∧ U.heap = h0) (fun _ _ _ _ _ => True) (fun _ U o U' => ∃ v L, o = .returned v ∧ Q2 Z q0 p1 p2 q3  h0 n0 v U'.heap L ∧ FrameEnd U o U' L ROOM2.cells ROOM2.slots) := by
  refine MetFree.of_bodySF (plainFor_of_name pn_2) hisR ?_
  intro p e s m args below meth c s₁ Bd hml0 hP hK
  obtain ⟨rfl, hZ, hh⟩ := hP
  have hx := Bd.exec
  have hby := Bd.bytes
  have hml : c.maxLocals = 6 := hml0
  have hown : s.vm.findClass "org/graphstride/VertexBitsSetPinLaw" = some m.cls := findClass_of_methodNamed Bd.named
  have hnm := (name_of_methodNamed Bd.named Bd.method).1
  have X0 : Stand p l e ROOM2 s m #[(.long q0), (.int p1), (.int p2), (.long q3)] below meth c s₁ [] 0 0 := Stand.of_body Bd
  have e0 : s₁.heap = h0 := by rw [← hh, Bd.state]; rfl
  have N0 := Fr.nil n0
  refine Ends.via (A := s₁.setTop (mkF m 0 #[.val (.long q0), .second, .val (.int p1), .val (.int p2), .val (.long q3), .second] [])) (kc := ROOM2.cells) (ks := ROOM2.slots) (Q := (Q2 Z q0 p1 p2 q3  h0 n0)) (fun t k => castTop (ef_2 m q0 p1 p2 q3) k) ?_
  show Ends p e below s ROOM2.cells ROOM2.slots (Q2 Z q0 p1 p2 q3  h0 n0) (s₁.setTop (mkF m 0 #[.val (.long q0), .second, .val (.int p1), .val (.int p2), .val (.long q3), .second] []))
  refine Ends.via (fun _ k => XS.iloadN X0.here hx rfl (hb hby d2_0) rfl k) ?_
  show Ends p e below s ROOM2.cells ROOM2.slots (Q2 Z q0 p1 p2 q3  h0 n0) (s₁.setTop (mkF m 1 #[.val (.long q0), .second, .val (.int p1), .val (.int p2), .val (.long q3), .second] [(.int p1)]))
  refine Ends.via (fun _ k => XS.iloadN X0.here hx rfl (hb hby d2_1) rfl k) ?_
  show Ends p e below s ROOM2.cells ROOM2.slots (Q2 Z q0 p1 p2 q3  h0 n0) (s₁.setTop (mkF m 2 #[.val (.long q0), .second, .val (.int p1), .val (.int p2), .val (.long q3), .second] [(.int p2), (.int p1)]))
  by_cases hc22 : p1 = p2
  · refine Ends.via (fun _ k => XS.icmpNo X0.here hx rfl (hb hby d2_2) rfl (teq hc22).2 k) ?_
    show Ends p e below s ROOM2.cells ROOM2.slots (Q2 Z q0 p1 p2 q3  h0 n0) (s₁.setTop (mkF m 5 #[.val (.long q0), .second, .val (.int p1), .val (.int p2), .val (.long q3), .second] []))
    refine Ends.via (fun _ k => XS.lloadN X0.here hx rfl (hb hby d2_5) rfl k) ?_
    show Ends p e below s ROOM2.cells ROOM2.slots (Q2 Z q0 p1 p2 q3  h0 n0) (s₁.setTop (mkF m 6 #[.val (.long q0), .second, .val (.int p1), .val (.int p2), .val (.long q3), .second] [(.long q0)]))
    refine Ends.via (fun _ k => XS.lload X0.here hx rfl (hb hby d2_6) rfl k) ?_
    show Ends p e below s ROOM2.cells ROOM2.slots (Q2 Z q0 p1 p2 q3  h0 n0) (s₁.setTop (mkF m 8 #[.val (.long q0), .second, .val (.int p1), .val (.int p2), .val (.long q3), .second] [(.long q3), (.long q0)]))
    refine Ends.via (fun _ k => XS.lor X0.here hx rfl (hb hby d2_8) rfl k) ?_
    show Ends p e below s ROOM2.cells ROOM2.slots (Q2 Z q0 p1 p2 q3  h0 n0) (s₁.setTop (mkF m 9 #[.val (.long q0), .second, .val (.int p1), .val (.int p2), .val (.long q3), .second] [(.long (q0 ||| q3))]))
    refine Ends.ret X0 (v := some (.long (q0 ||| q3))) (fun h => by rw [Bd.returns] at h; cases h) Bd.notSynchronized (fun fs hr => retOut X0 hx Bd.returns rfl (Or.inr (Or.inl ⟨rfl, rfl, _, rfl⟩)) (hb hby d2_9) hr) ?_ (by decide) (by decide)
    have hfn : fn2 q0 p1 p2 q3 = (q0 ||| q3) := by simp only [fn2, if_pos hc22]
    exact ⟨by rw [hfn], N0, e0⟩
  · refine Ends.via (fun _ k => XS.icmpYes X0.here hx rfl (pc0 := 2) (pc' := 10) rfl (hb hby d2_2) rfl (feq hc22).2 (by decide) (by decide) k) ?_
    show Ends p e below s ROOM2.cells ROOM2.slots (Q2 Z q0 p1 p2 q3  h0 n0) (s₁.setTop (mkF m 10 #[.val (.long q0), .second, .val (.int p1), .val (.int p2), .val (.long q3), .second] []))
    refine Ends.via (fun _ k => XS.lloadN X0.here hx rfl (hb hby d2_10) rfl k) ?_
    show Ends p e below s ROOM2.cells ROOM2.slots (Q2 Z q0 p1 p2 q3  h0 n0) (s₁.setTop (mkF m 11 #[.val (.long q0), .second, .val (.int p1), .val (.int p2), .val (.long q3), .second] [(.long q0)]))
    refine Ends.ret X0 (v := some (.long q0)) (fun h => by rw [Bd.returns] at h; cases h) Bd.notSynchronized (fun fs hr => retOut X0 hx Bd.returns rfl (Or.inr (Or.inl ⟨rfl, rfl, _, rfl⟩)) (hb hby d2_11) hr) ?_ (by decide) (by decide)
    have hfn : fn2 q0 p1 p2 q3 = q0 := by simp only [fn2, if_neg hc22]
    exact ⟨by rw [hfn], N0, e0⟩
def own_n (x : Int64) : Nat := x.toBitVec.toNat
theorem own_n_and (x y : Int64) : own_n (x &&& y) = own_n x &&& own_n y := by simp only [own_n, Int64.toBitVec_and, BitVec.toNat_and]
theorem own_n_lt (x : Int64) : own_n x < 2 ^ 64 := x.toBitVec.isLt
theorem own_n_shr (x : Int64) (s : UInt64) : own_n ((x.toUInt64 >>> s).toInt64) = own_n x / 2 ^ (s.toNat % 64) := by
  show (x.toUInt64 >>> s).toNat = _
  rw [UInt64.toNat_shiftRight, Nat.shiftRight_eq_div_pow]; rfl
theorem own_n_inj {x y : Int64} (h : own_n x = own_n y) : x = y := Int64.toBitVec_inj.mp (BitVec.eq_of_toNat_eq h)
theorem own_n_int (x : Int64) : (own_n x : Int) = x.toInt % 18446744073709551616 := by
  have e : x.toInt = x.toBitVec.toInt := rfl
  have h := x.toBitVec.isLt
  rw [e, BitVec.toInt_eq_toNat_cond]
  show ((x.toBitVec.toNat : Nat) : Int) = _
  split <;> omega
theorem own_one (p : Int32) : own_n ((1 : Int64) <<< (p &&& 0x3f).toInt64) = 2 ^ (p.toBitVec.toNat % 64) := by
  have h := c_lshl 1 p _ rfl
  have e := own_n_int ((1 : Int64) <<< (p &&& 0x3f).toInt64)
  have e1 : (1 : Int64).toInt = 1 := rfl
  rw [e1, Int.one_mul] at h
  have hk : 2 ^ (p.toBitVec.toNat % 64) < 2 ^ 64 := Nat.pow_lt_pow_right (by decide) (Nat.mod_lt _ (by decide))
  generalize 2 ^ (p.toBitVec.toNat % 64) = z at *
  omega
theorem own_pn (p : Int32) (h : 0 ≤ p.toInt) : (p.toBitVec.toNat : Int) = p.toInt := by
  have e : p.toInt = p.toBitVec.toInt := rfl
  have hl := p.toBitVec.isLt
  have e2 := BitVec.toInt_eq_toNat_cond p.toBitVec
  split at e2 <;> omega
theorem own_and2 (n i : Nat) : n &&& 2 ^ i = if n / 2 ^ i % 2 = 1 then 2 ^ i else 0 := by
  have hb : n.testBit i = decide (n / 2 ^ i % 2 = 1) := Nat.testBit_eq_decide_div_mod_eq
  apply Nat.eq_of_testBit_eq
  intro j
  rw [Nat.testBit_and, Nat.testBit_two_pow]
  by_cases c : n / 2 ^ i % 2 = 1
  · rw [if_pos c, Nat.testBit_two_pow]
    by_cases e : i = j
    · subst e; simp [hb, c]
    · simp [e]
  · rw [if_neg c, Nat.zero_testBit]
    by_cases e : i = j
    · subst e; simp [hb, c]
    · simp [e]
/-- the shift that lushr takes of r -/
theorem own_sh (r : Int32) : ((r &&& 0x3f).toInt64.toUInt64).toNat % 64 = r.toBitVec.toNat % 64 := by
  have h := c_mask r 0x3f 6 (by decide) (by decide)
  have h1 : (((r &&& 0x3f).toInt64.toUInt64).toNat : Int) = own_n (r &&& 0x3f).toInt64 := rfl
  rw [own_n_int, Int32.toInt_toInt64] at h1
  have e : r.toInt = r.toBitVec.toInt := rfl
  rw [e, BitVec.toInt_eq_toNat_cond] at h
  split at h <;> omega
theorem own_bit (w : Int64) (p r : Int32) (h : p.toBitVec.toNat % 64 = r.toBitVec.toNat % 64) : (((w.toUInt64 >>> (r &&& 0x3f).toInt64.toUInt64).toInt64) &&& (1 : Int64)) = (1 : Int64) ↔ ¬ (w &&& ((1 : Int64) <<< (p &&& 0x3f).toInt64)) = (0 : Int64) := by
  have e1 : own_n (1 : Int64) = 1 := rfl
  have e0 : own_n (0 : Int64) = 0 := rfl
  have a1 : own_n (((w.toUInt64 >>> (r &&& 0x3f).toInt64.toUInt64).toInt64) &&& (1 : Int64)) = own_n w / 2 ^ (p.toBitVec.toNat % 64) % 2 := by
    rw [own_n_and, own_n_shr, own_sh, e1, Nat.and_one_is_mod, h]
  have a2 : own_n (w &&& ((1 : Int64) <<< (p &&& 0x3f).toInt64)) = if own_n w / 2 ^ (p.toBitVec.toNat % 64) % 2 = 1 then 2 ^ (p.toBitVec.toNat % 64) else 0 := by
    rw [own_n_and, own_one, own_and2]
  have hp : 0 < 2 ^ (p.toBitVec.toNat % 64) := Nat.pow_pos (by decide)
  constructor
  · intro q z
    have q' := congrArg own_n q
    have z' := congrArg own_n z
    rw [a1, e1] at q'
    rw [a2, if_pos q', e0] at z'
    omega
  · intro q
    apply own_n_inj
    rw [a1, e1]
    by_cases c : own_n w / 2 ^ (p.toBitVec.toNat % 64) % 2 = 1
    · exact c
    · exact absurd (own_n_inj (by rw [a2, if_neg c, e0])) q
theorem own_v (p v : Int32) (h : (p &&& (255 : Int32)) = v) : 0 ≤ v.toInt ∧ v.toInt < 256 ∧ ((v.toUInt32 >>> ((6 : Int32) &&& 31).toUInt32).toInt32).toInt = v.toInt / 64 := by
  have h1 := c_mask p 255 8 (by decide) (by decide)
  have h2 := c_iushr v 6 6 (by decide) (by decide)
  rw [h] at h1; omega
theorem own_idx (p v : Int32) (h : (p &&& (255 : Int32)) = v) : ((v.toUInt32 >>> ((6 : Int32) &&& 31).toUInt32).toInt32) = 0 ∨ ((v.toUInt32 >>> ((6 : Int32) &&& 31).toUInt32).toInt32) = 1 ∨ ((v.toUInt32 >>> ((6 : Int32) &&& 31).toUInt32).toInt32) = 2 ∨ ((v.toUInt32 >>> ((6 : Int32) &&& 31).toUInt32).toInt32) = 3 := by
  obtain ⟨h1, h2, h3⟩ := own_v p v h
  generalize ((v.toUInt32 >>> ((6 : Int32) &&& 31).toUInt32).toInt32) = j at *
  have e0 : (0 : Int32).toInt = 0 := rfl
  have e1 : (1 : Int32).toInt = 1 := rfl
  have e2 : (2 : Int32).toInt = 2 := rfl
  have e3 : (3 : Int32).toInt = 3 := rfl
  simp only [← Int32.toInt_inj, e0, e1, e2, e3]; omega
theorem own_eq (w : Int64) (p v1 v16 v17 : Int32) (v18 : Int64) (i : Int32) (hv1 : (p &&& (255 : Int32)) = v1) (hv16 : (v1 / (64 : Int32)) = v16) (hv17 : (v1 % (64 : Int32)) = v17) (hv18 : ((1 : Int64) <<< (v17 &&& 0x3f).toInt64) = v18) : own_sel w v1 i = fn2 w i v16 v18 := by
  obtain ⟨h1, h2, h3⟩ := own_v p v1 hv1
  have hd := (c_idiv v1 64 64 rfl (by decide)).1 h1
  have hr := (c_irem v1 64 64 rfl).1 h1
  rw [hv16] at hd
  rw [hv17] at hr
  have ej : ((v1.toUInt32 >>> ((6 : Int32) &&& 31).toUInt32).toInt32) = v16 := Int32.toInt_inj.mp (h3.trans hd.symm)
  have a1 := own_pn v1 h1
  have a2 := own_pn v17 (by omega)
  have em : ((1 : Int64) <<< (v1 &&& 0x3f).toInt64) = v18 := by
    rw [← hv18]; apply own_n_inj; rw [own_one, own_one]
    have : v1.toBitVec.toNat % 64 = v17.toBitVec.toNat % 64 := by omega
    rw [this]
  rw [own_sel, fn2, ej, em]
  by_cases c : v16 = i
  · rw [if_pos c, if_pos c.symm]
  · rw [if_neg c, if_neg (fun q => c q.symm)]
theorem own_leaf1 (q0 : Int64) (q1 : Int64) (q2 : Int64) (q3 : Int64) (p4 : Int32) (v1 : Int32) (v16 : Int32) (v17 : Int32) (v18 : Int64) (hv1 : (p4 &&& (255 : Int32)) = v1) (hv16 : (v1 / (64 : Int32)) = v16) (hv17 : (v1 % (64 : Int32)) = v17) (hv18 : ((1 : Int64) <<< (v17 &&& 0x3f).toInt64) = v18) (hc24 : (own_sel q0 v1 (0 : Int32)) = (fn2 q0 (0 : Int32) v16 v18)) (hc27 : (own_sel q1 v1 (1 : Int32)) = (fn2 q1 (1 : Int32) v16 v18)) (hc30 : (own_sel q2 v1 (2 : Int32)) = (fn2 q2 (2 : Int32) v16 v18)) (hc33 : ¬ ((own_sel q3 v1 (3 : Int32)) = (fn2 q3 (3 : Int32) v16 v18))) : False := by
    exact hc33 (own_eq _ p4 v1 v16 v17 v18 _ hv1 hv16 hv17 hv18)
theorem own_leaf2 (q0 : Int64) (q1 : Int64) (q2 : Int64) (q3 : Int64) (p4 : Int32) (v1 : Int32) (v16 : Int32) (v17 : Int32) (v18 : Int64) (hv1 : (p4 &&& (255 : Int32)) = v1) (hv16 : (v1 / (64 : Int32)) = v16) (hv17 : (v1 % (64 : Int32)) = v17) (hv18 : ((1 : Int64) <<< (v17 &&& 0x3f).toInt64) = v18) (hc24 : (own_sel q0 v1 (0 : Int32)) = (fn2 q0 (0 : Int32) v16 v18)) (hc27 : (own_sel q1 v1 (1 : Int32)) = (fn2 q1 (1 : Int32) v16 v18)) (hc30 : ¬ ((own_sel q2 v1 (2 : Int32)) = (fn2 q2 (2 : Int32) v16 v18))) : False := by
    exact hc30 (own_eq _ p4 v1 v16 v17 v18 _ hv1 hv16 hv17 hv18)
theorem own_leaf3 (q0 : Int64) (q1 : Int64) (q2 : Int64) (q3 : Int64) (p4 : Int32) (v1 : Int32) (v16 : Int32) (v17 : Int32) (v18 : Int64) (hv1 : (p4 &&& (255 : Int32)) = v1) (hv16 : (v1 / (64 : Int32)) = v16) (hv17 : (v1 % (64 : Int32)) = v17) (hv18 : ((1 : Int64) <<< (v17 &&& 0x3f).toInt64) = v18) (hc24 : (own_sel q0 v1 (0 : Int32)) = (fn2 q0 (0 : Int32) v16 v18)) (hc27 : ¬ ((own_sel q1 v1 (1 : Int32)) = (fn2 q1 (1 : Int32) v16 v18))) : False := by
    exact hc27 (own_eq _ p4 v1 v16 v17 v18 _ hv1 hv16 hv17 hv18)
theorem own_leaf4 (q0 : Int64) (q1 : Int64) (q2 : Int64) (q3 : Int64) (p4 : Int32) (v1 : Int32) (v16 : Int32) (v17 : Int32) (v18 : Int64) (hv1 : (p4 &&& (255 : Int32)) = v1) (hv16 : (v1 / (64 : Int32)) = v16) (hv17 : (v1 % (64 : Int32)) = v17) (hv18 : ((1 : Int64) <<< (v17 &&& 0x3f).toInt64) = v18) (hc24 : ¬ ((own_sel q0 v1 (0 : Int32)) = (fn2 q0 (0 : Int32) v16 v18))) : False := by
    exact hc24 (own_eq _ p4 v1 v16 v17 v18 _ hv1 hv16 hv17 hv18)
theorem pn_0 : plainName "org/graphstride/VertexBitsSetPinLaw" = true := by first | (simp [plainName, overriddenIn]; done) | decide +kernel
theorem ef_0 (m : MethodId) (q0 : Int64) (q1 : Int64) (q2 : Int64) (q3 : Int64) (p4 : Int32) : entryFrame m #[(.long q0), (.long q1), (.long q2), (.long q3), (.int p4)] maxLocals = mkF m 0 #[.val (.long q0), .second, .val (.long q1), .second, .val (.long q2), .second, .val (.long q3), .second, .val (.int p4), .unset, .unset, .unset, .unset, .unset, .unset] [] := by first | (simp [entryFrame, mkF, argsToLocals, Value.category, maxLocals]; done) | rfl
def Q0 (Z : State) (q0 : Int64) (q1 : Int64) (q2 : Int64) (q3 : Int64) (p4 : Int32)  (h0 : Heap) (n0 : Nat) (v : Option Value) (h : Heap) (L : List Loc) : Prop := v = some (.int 1) ∧ Fr n0 L
set_option maxRecDepth 65536 in
set_option maxHeartbeats 40000000 in
theorem rm0 (l : Launch) (Z : State) (a0 : Array Value) (hw : ∀ d ∈ tables_1, d.before a0 Z = true) (ws : List Jvm.Cond) (q0 : Int64) (q1 : Int64) (q2 : Int64) (q3 : Int64) (p4 : Int32)  (h0 : Heap) (n0 : Nat) (Z0 : n0 ≤ h0.size)  :
    MetFree l x (head1 (Jvm.Cond.code x code maxLocals ret :: ws) room_1) (fun a U => a = #[(.long q0), (.long q1), (.long q2), (.long q3), (.int p4)] ∧ Z.Warmed39 U.vm ∧ U.heap = h0) (fun _ _ _ _ _ => True) (fun _ U o U' => ∃ v L, o = .returned v ∧ Q0 Z q0 q1 q2 q3 p4  h0 n0 v U'.heap L ∧ FrameEnd U o U' L 16 128) := by
  refine MetFree.of_bodySF (plainFor_of_name pn_0) hisR ?_
  intro p e s m args below meth c s₁ Bd hml0 hP hK
  obtain ⟨rfl, hZ, hh⟩ := hP
  have hx := Bd.exec
  have hby := Bd.bytes
  have hml : c.maxLocals = 15 := hml0
  have hown : s.vm.findClass "org/graphstride/VertexBitsSetPinLaw" = some m.cls := findClass_of_methodNamed Bd.named
  have hnm := (name_of_methodNamed Bd.named Bd.method).1
  have X0 : Stand p l e room_1 s m #[(.long q0), (.long q1), (.long q2), (.long q3), (.int p4)] below meth c s₁ [] 0 0 := Stand.of_body Bd
  have e0 : s₁.heap = h0 := by rw [← hh, Bd.state]; rfl
  have N0 := Fr.nil n0
  refine Ends.via (A := s₁.setTop (mkF m 0 #[.val (.long q0), .second, .val (.long q1), .second, .val (.long q2), .second, .val (.long q3), .second, .val (.int p4), .unset, .unset, .unset, .unset, .unset, .unset] [])) (kc := 16) (ks := 128) (Q := (Q0 Z q0 q1 q2 q3 p4  h0 n0)) (fun t k => castTop (ef_0 m q0 q1 q2 q3 p4) k) ?_
  show Ends p e below s 16 128 (Q0 Z q0 q1 q2 q3 p4  h0 n0) (s₁.setTop (mkF m 0 #[.val (.long q0), .second, .val (.long q1), .second, .val (.long q2), .second, .val (.long q3), .second, .val (.int p4), .unset, .unset, .unset, .unset, .unset, .unset] []))
  refine Ends.via (fun _ k => XS.iload X0.here hx rfl (hb hby at_0) rfl k) ?_
  show Ends p e below s 16 128 (Q0 Z q0 q1 q2 q3 p4  h0 n0) (s₁.setTop (mkF m 2 #[.val (.long q0), .second, .val (.long q1), .second, .val (.long q2), .second, .val (.long q3), .second, .val (.int p4), .unset, .unset, .unset, .unset, .unset, .unset] [(.int p4)]))
  refine Ends.via (fun _ k => XS.sipush X0.here hx rfl (hb hby at_2) k) ?_
  show Ends p e below s 16 128 (Q0 Z q0 q1 q2 q3 p4  h0 n0) (s₁.setTop (mkF m 5 #[.val (.long q0), .second, .val (.long q1), .second, .val (.long q2), .second, .val (.long q3), .second, .val (.int p4), .unset, .unset, .unset, .unset, .unset, .unset] [(.int (255 : Int32)), (.int p4)]))
  refine Ends.via (fun _ k => XS.iand X0.here hx rfl (hb hby at_5) rfl k) ?_
  show Ends p e below s 16 128 (Q0 Z q0 q1 q2 q3 p4  h0 n0) (s₁.setTop (mkF m 6 #[.val (.long q0), .second, .val (.long q1), .second, .val (.long q2), .second, .val (.long q3), .second, .val (.int p4), .unset, .unset, .unset, .unset, .unset, .unset] [(.int (p4 &&& (255 : Int32)))]))
  refine Ends.via (fun _ k => XS.istore X0.here hx rfl (hb hby at_6) rfl (l' := #[.val (.long q0), .second, .val (.long q1), .second, .val (.long q2), .second, .val (.long q3), .second, .val (.int p4), .val (.int (p4 &&& (255 : Int32))), .unset, .unset, .unset, .unset, .unset]) rfl k) ?_
  show Ends p e below s 16 128 (Q0 Z q0 q1 q2 q3 p4  h0 n0) (s₁.setTop (mkF m 8 #[.val (.long q0), .second, .val (.long q1), .second, .val (.long q2), .second, .val (.long q3), .second, .val (.int p4), .val (.int (p4 &&& (255 : Int32))), .unset, .unset, .unset, .unset, .unset] []))
  generalize hv1 : (p4 &&& (255 : Int32)) = v1
  refine Ends.via (fun _ k => XS.iconst X0.here hx rfl (hb hby at_8) k) ?_
  show Ends p e below s 16 128 (Q0 Z q0 q1 q2 q3 p4  h0 n0) (s₁.setTop (mkF m 9 #[.val (.long q0), .second, .val (.long q1), .second, .val (.long q2), .second, .val (.long q3), .second, .val (.int p4), .val (.int v1), .unset, .unset, .unset, .unset, .unset] [(.int (4 : Int32))]))
  obtain ⟨T2, h2, k2, X2, e2, E2, A2, st2⟩ := newP X0 hx hZ (hw _ (List.mem_of_getElem? (i := 0) rfl)) e0 (g := (mkF m 9 #[.val (.long q0), .second, .val (.long q1), .second, .val (.long q2), .second, .val (.long q3), .second, .val (.int p4), .val (.int v1), .unset, .unset, .unset, .unset, .unset] [(.int (4 : Int32))])) rfl (hb hby at_9) rfl (by decide) (cap := 4) (by decide) (by decide) (by decide) (by decide)
  obtain ⟨b2, g2⟩ : ∃ z, z = h0.size := ⟨_, rfl⟩
  rw [← g2] at A2 st2
  have g_b2 : n0 ≤ b2 := Nat.le_trans Z0 (Nat.le_of_eq g2.symm)
  have Z2 : n0 ≤ h2.size := Nat.le_trans Z0 E2.1
  have V2 : Arv Z h2 b2 k2 .long (4 : Int32) [(.long (0 : Int64)), (.long (0 : Int64)), (.long (0 : Int64)), (.long (0 : Int64))] (.long (0 : Int64)) := (Arv.new A2 (by decide)).pad (pad_rep [] (.long (0 : Int64)) 4)
  refine Ends.via st2 ?_
  show Ends p e below s 16 128 (Q0 Z q0 q1 q2 q3 p4  h0 n0) (T2.setTop (mkF m 11 #[.val (.long q0), .second, .val (.long q1), .second, .val (.long q2), .second, .val (.long q3), .second, .val (.int p4), .val (.int v1), .unset, .unset, .unset, .unset, .unset] [(.ref b2)]))
  refine Ends.via (fun _ k => XS.astore X2.here hx rfl (hb hby at_11) rfl rfl (l' := #[.val (.long q0), .second, .val (.long q1), .second, .val (.long q2), .second, .val (.long q3), .second, .val (.int p4), .val (.int v1), .val (.ref b2), .unset, .unset, .unset, .unset]) rfl k) ?_
  show Ends p e below s 16 128 (Q0 Z q0 q1 q2 q3 p4  h0 n0) (T2.setTop (mkF m 13 #[.val (.long q0), .second, .val (.long q1), .second, .val (.long q2), .second, .val (.long q3), .second, .val (.int p4), .val (.int v1), .val (.ref b2), .unset, .unset, .unset, .unset] []))
  refine Ends.via (fun _ k => XS.aload X2.here hx rfl (hb hby at_13) rfl rfl k) ?_
  show Ends p e below s 16 128 (Q0 Z q0 q1 q2 q3 p4  h0 n0) (T2.setTop (mkF m 15 #[.val (.long q0), .second, .val (.long q1), .second, .val (.long q2), .second, .val (.long q3), .second, .val (.int p4), .val (.int v1), .val (.ref b2), .unset, .unset, .unset, .unset] [(.ref b2)]))
  refine Ends.via (fun _ k => XS.iconst X2.here hx rfl (hb hby at_15) k) ?_
  show Ends p e below s 16 128 (Q0 Z q0 q1 q2 q3 p4  h0 n0) (T2.setTop (mkF m 16 #[.val (.long q0), .second, .val (.long q1), .second, .val (.long q2), .second, .val (.long q3), .second, .val (.int p4), .val (.int v1), .val (.ref b2), .unset, .unset, .unset, .unset] [(.int (0 : Int32)), (.ref b2)]))
  refine Ends.via (fun _ k => XS.lloadN X2.here hx rfl (hb hby at_16) rfl k) ?_
  show Ends p e below s 16 128 (Q0 Z q0 q1 q2 q3 p4  h0 n0) (T2.setTop (mkF m 17 #[.val (.long q0), .second, .val (.long q1), .second, .val (.long q2), .second, .val (.long q3), .second, .val (.int p4), .val (.int v1), .val (.ref b2), .unset, .unset, .unset, .unset] [(.long q0), (.int (0 : Int32)), (.ref b2)]))
  obtain ⟨cl3, Ar3, qk3, S3, Ng3, Hs3, Gf3⟩ := id V2
  have hin3 : ¬ ((0 : Int32) < 0 ∨ cl3.slots.size ≤ ((0 : Int32)).toNatClampNeg) := inb_of S3 ⟨by decide, by decide⟩
  obtain ⟨T3, h3, X3, e3, W3, st3⟩ := stJ X2 hx hZ e2 Ar3 (j := (0 : Int32)) hin3 (g := (mkF m 17 #[.val (.long q0), .second, .val (.long q1), .second, .val (.long q2), .second, .val (.long q3), .second, .val (.int p4), .val (.int v1), .val (.ref b2), .unset, .unset, .unset, .unset] [(.long q0), (.int (0 : Int32)), (.ref b2)])) rfl rfl (hb hby at_17)
  have V3 : Arv Z h3 b2 k2 .long (4 : Int32) [(.long q0), (.long (0 : Int64)), (.long (0 : Int64)), (.long (0 : Int64))] (.long (0 : Int64)) := Arv.set Ar3 qk3 S3 Ng3 Hs3 Gf3 rfl W3 0 rfl (Nat.le_of_ble_eq_true rfl)
  have Z3 : n0 ≤ h3.size := Nat.le_trans Z2 (Keep.of_wr W3).1
  have N3 := Fr.snoc X3 N0 g_b2
  refine Ends.via st3 ?_
  show Ends p e below s 16 128 (Q0 Z q0 q1 q2 q3 p4  h0 n0) (T3.setTop (mkF m 18 #[.val (.long q0), .second, .val (.long q1), .second, .val (.long q2), .second, .val (.long q3), .second, .val (.int p4), .val (.int v1), .val (.ref b2), .unset, .unset, .unset, .unset] []))
  refine Ends.via (fun _ k => XS.aload X3.here hx rfl (hb hby at_18) rfl rfl k) ?_
  show Ends p e below s 16 128 (Q0 Z q0 q1 q2 q3 p4  h0 n0) (T3.setTop (mkF m 20 #[.val (.long q0), .second, .val (.long q1), .second, .val (.long q2), .second, .val (.long q3), .second, .val (.int p4), .val (.int v1), .val (.ref b2), .unset, .unset, .unset, .unset] [(.ref b2)]))
  refine Ends.via (fun _ k => XS.iconst X3.here hx rfl (hb hby at_20) k) ?_
  show Ends p e below s 16 128 (Q0 Z q0 q1 q2 q3 p4  h0 n0) (T3.setTop (mkF m 21 #[.val (.long q0), .second, .val (.long q1), .second, .val (.long q2), .second, .val (.long q3), .second, .val (.int p4), .val (.int v1), .val (.ref b2), .unset, .unset, .unset, .unset] [(.int (1 : Int32)), (.ref b2)]))
  refine Ends.via (fun _ k => XS.lloadN X3.here hx rfl (hb hby at_21) rfl k) ?_
  show Ends p e below s 16 128 (Q0 Z q0 q1 q2 q3 p4  h0 n0) (T3.setTop (mkF m 22 #[.val (.long q0), .second, .val (.long q1), .second, .val (.long q2), .second, .val (.long q3), .second, .val (.int p4), .val (.int v1), .val (.ref b2), .unset, .unset, .unset, .unset] [(.long q1), (.int (1 : Int32)), (.ref b2)]))
  obtain ⟨cl4, Ar4, qk4, S4, Ng4, Hs4, Gf4⟩ := id V3
  have hin4 : ¬ ((1 : Int32) < 0 ∨ cl4.slots.size ≤ ((1 : Int32)).toNatClampNeg) := inb_of S4 ⟨by decide, by decide⟩
  obtain ⟨T4, h4, X4, e4, W4, st4⟩ := stJ X3 hx hZ e3 Ar4 (j := (1 : Int32)) hin4 (g := (mkF m 22 #[.val (.long q0), .second, .val (.long q1), .second, .val (.long q2), .second, .val (.long q3), .second, .val (.int p4), .val (.int v1), .val (.ref b2), .unset, .unset, .unset, .unset] [(.long q1), (.int (1 : Int32)), (.ref b2)])) rfl rfl (hb hby at_22)
  have V4 : Arv Z h4 b2 k2 .long (4 : Int32) [(.long q0), (.long q1), (.long (0 : Int64)), (.long (0 : Int64))] (.long (0 : Int64)) := Arv.set Ar4 qk4 S4 Ng4 Hs4 Gf4 rfl W4 1 rfl (Nat.le_of_ble_eq_true rfl)
  have Z4 : n0 ≤ h4.size := Nat.le_trans Z3 (Keep.of_wr W4).1
  have N4 := Fr.snoc X4 N3 g_b2
  refine Ends.via st4 ?_
  show Ends p e below s 16 128 (Q0 Z q0 q1 q2 q3 p4  h0 n0) (T4.setTop (mkF m 23 #[.val (.long q0), .second, .val (.long q1), .second, .val (.long q2), .second, .val (.long q3), .second, .val (.int p4), .val (.int v1), .val (.ref b2), .unset, .unset, .unset, .unset] []))
  refine Ends.via (fun _ k => XS.aload X4.here hx rfl (hb hby at_23) rfl rfl k) ?_
  show Ends p e below s 16 128 (Q0 Z q0 q1 q2 q3 p4  h0 n0) (T4.setTop (mkF m 25 #[.val (.long q0), .second, .val (.long q1), .second, .val (.long q2), .second, .val (.long q3), .second, .val (.int p4), .val (.int v1), .val (.ref b2), .unset, .unset, .unset, .unset] [(.ref b2)]))
  refine Ends.via (fun _ k => XS.iconst X4.here hx rfl (hb hby at_25) k) ?_
  show Ends p e below s 16 128 (Q0 Z q0 q1 q2 q3 p4  h0 n0) (T4.setTop (mkF m 26 #[.val (.long q0), .second, .val (.long q1), .second, .val (.long q2), .second, .val (.long q3), .second, .val (.int p4), .val (.int v1), .val (.ref b2), .unset, .unset, .unset, .unset] [(.int (2 : Int32)), (.ref b2)]))
  refine Ends.via (fun _ k => XS.lload X4.here hx rfl (hb hby at_26) rfl k) ?_
  show Ends p e below s 16 128 (Q0 Z q0 q1 q2 q3 p4  h0 n0) (T4.setTop (mkF m 28 #[.val (.long q0), .second, .val (.long q1), .second, .val (.long q2), .second, .val (.long q3), .second, .val (.int p4), .val (.int v1), .val (.ref b2), .unset, .unset, .unset, .unset] [(.long q2), (.int (2 : Int32)), (.ref b2)]))
  obtain ⟨cl5, Ar5, qk5, S5, Ng5, Hs5, Gf5⟩ := id V4
  have hin5 : ¬ ((2 : Int32) < 0 ∨ cl5.slots.size ≤ ((2 : Int32)).toNatClampNeg) := inb_of S5 ⟨by decide, by decide⟩
  obtain ⟨T5, h5, X5, e5, W5, st5⟩ := stJ X4 hx hZ e4 Ar5 (j := (2 : Int32)) hin5 (g := (mkF m 28 #[.val (.long q0), .second, .val (.long q1), .second, .val (.long q2), .second, .val (.long q3), .second, .val (.int p4), .val (.int v1), .val (.ref b2), .unset, .unset, .unset, .unset] [(.long q2), (.int (2 : Int32)), (.ref b2)])) rfl rfl (hb hby at_28)
  have V5 : Arv Z h5 b2 k2 .long (4 : Int32) [(.long q0), (.long q1), (.long q2), (.long (0 : Int64))] (.long (0 : Int64)) := Arv.set Ar5 qk5 S5 Ng5 Hs5 Gf5 rfl W5 2 rfl (Nat.le_of_ble_eq_true rfl)
  have Z5 : n0 ≤ h5.size := Nat.le_trans Z4 (Keep.of_wr W5).1
  have N5 := Fr.snoc X5 N4 g_b2
  refine Ends.via st5 ?_
  show Ends p e below s 16 128 (Q0 Z q0 q1 q2 q3 p4  h0 n0) (T5.setTop (mkF m 29 #[.val (.long q0), .second, .val (.long q1), .second, .val (.long q2), .second, .val (.long q3), .second, .val (.int p4), .val (.int v1), .val (.ref b2), .unset, .unset, .unset, .unset] []))
  refine Ends.via (fun _ k => XS.aload X5.here hx rfl (hb hby at_29) rfl rfl k) ?_
  show Ends p e below s 16 128 (Q0 Z q0 q1 q2 q3 p4  h0 n0) (T5.setTop (mkF m 31 #[.val (.long q0), .second, .val (.long q1), .second, .val (.long q2), .second, .val (.long q3), .second, .val (.int p4), .val (.int v1), .val (.ref b2), .unset, .unset, .unset, .unset] [(.ref b2)]))
  refine Ends.via (fun _ k => XS.iconst X5.here hx rfl (hb hby at_31) k) ?_
  show Ends p e below s 16 128 (Q0 Z q0 q1 q2 q3 p4  h0 n0) (T5.setTop (mkF m 32 #[.val (.long q0), .second, .val (.long q1), .second, .val (.long q2), .second, .val (.long q3), .second, .val (.int p4), .val (.int v1), .val (.ref b2), .unset, .unset, .unset, .unset] [(.int (3 : Int32)), (.ref b2)]))
  refine Ends.via (fun _ k => XS.lload X5.here hx rfl (hb hby at_32) rfl k) ?_
  show Ends p e below s 16 128 (Q0 Z q0 q1 q2 q3 p4  h0 n0) (T5.setTop (mkF m 34 #[.val (.long q0), .second, .val (.long q1), .second, .val (.long q2), .second, .val (.long q3), .second, .val (.int p4), .val (.int v1), .val (.ref b2), .unset, .unset, .unset, .unset] [(.long q3), (.int (3 : Int32)), (.ref b2)]))
  obtain ⟨cl6, Ar6, qk6, S6, Ng6, Hs6, Gf6⟩ := id V5
  have hin6 : ¬ ((3 : Int32) < 0 ∨ cl6.slots.size ≤ ((3 : Int32)).toNatClampNeg) := inb_of S6 ⟨by decide, by decide⟩
  obtain ⟨T6, h6, X6, e6, W6, st6⟩ := stJ X5 hx hZ e5 Ar6 (j := (3 : Int32)) hin6 (g := (mkF m 34 #[.val (.long q0), .second, .val (.long q1), .second, .val (.long q2), .second, .val (.long q3), .second, .val (.int p4), .val (.int v1), .val (.ref b2), .unset, .unset, .unset, .unset] [(.long q3), (.int (3 : Int32)), (.ref b2)])) rfl rfl (hb hby at_34)
  have V6 : Arv Z h6 b2 k2 .long (4 : Int32) [(.long q0), (.long q1), (.long q2), (.long q3)] (.long (0 : Int64)) := Arv.set Ar6 qk6 S6 Ng6 Hs6 Gf6 rfl W6 3 rfl (Nat.le_of_ble_eq_true rfl)
  have Z6 : n0 ≤ h6.size := Nat.le_trans Z5 (Keep.of_wr W6).1
  have N6 := Fr.snoc X6 N5 g_b2
  refine Ends.via st6 ?_
  show Ends p e below s 16 128 (Q0 Z q0 q1 q2 q3 p4  h0 n0) (T6.setTop (mkF m 35 #[.val (.long q0), .second, .val (.long q1), .second, .val (.long q2), .second, .val (.long q3), .second, .val (.int p4), .val (.int v1), .val (.ref b2), .unset, .unset, .unset, .unset] []))
  refine Ends.via (fun _ k => XS.aload X6.here hx rfl (hb hby at_35) rfl rfl k) ?_
  show Ends p e below s 16 128 (Q0 Z q0 q1 q2 q3 p4  h0 n0) (T6.setTop (mkF m 37 #[.val (.long q0), .second, .val (.long q1), .second, .val (.long q2), .second, .val (.long q3), .second, .val (.int p4), .val (.int v1), .val (.ref b2), .unset, .unset, .unset, .unset] [(.ref b2)]))
  refine Ends.via (fun _ k => XS.iload X6.here hx rfl (hb hby at_37) rfl k) ?_
  show Ends p e below s 16 128 (Q0 Z q0 q1 q2 q3 p4  h0 n0) (T6.setTop (mkF m 39 #[.val (.long q0), .second, .val (.long q1), .second, .val (.long q2), .second, .val (.long q3), .second, .val (.int p4), .val (.int v1), .val (.ref b2), .unset, .unset, .unset, .unset] [(.int v1), (.ref b2)]))
  obtain ⟨_, _, ⟨T15, L15, k15, n15⟩, -, X15, ⟨Lc15, hQ15, l15, y15, z15⟩, st15⟩ := Jvm.LawKit.callS X6 hx (y := (⟨"org/graphstride/VertexBits", "set", "([JI)V"⟩ : MethodName)) hown (mvT hZ (hw _ (List.mem_of_getElem? (i := 1) rfl))) (mvT hZ (hw _ (List.mem_of_getElem? (i := 2) rfl))) (mvT hZ (hw _ (List.mem_of_getElem? (i := 3) rfl))) (mvT hZ (hw _ (List.mem_of_getElem? (i := 4) rfl))) (by decide) (backOf (W := 0) (rm1 l Z _ hw [] b2 v1 k2 q0 q1 q2 q3 h6 n0 Z6 V6 g_b2 (own_idx p4 v1 hv1)) hZ (hw _ (List.mem_of_getElem? (i := 4) rfl)) (hw _ (List.mem_of_getElem? (i := 3) rfl)) (by decide) (by decide)) (g := (mkF m 39 #[.val (.long q0), .second, .val (.long q1), .second, .val (.long q2), .second, .val (.long q3), .second, .val (.int p4), .val (.int v1), .val (.ref b2), .unset, .unset, .unset, .unset] [(.int v1), (.ref b2)])) rfl (by rw [hml]; rfl) (argsL := [(.ref b2), (.int v1)]) (rest := []) (lenOf own_pd0 rfl) rfl (by show 2 * 0 + _ ≤ _; exact Nat.le_of_eq rfl) (hb hby at_39) (fun _ _ => ⟨rfl, e6, (by decide : 1 + 0 ≤ _), (by decide : 4 + 0 ≤ _)⟩)
  dsimp only [Pt.U, Pt.locs, Pt.cells, Pt.slots] at X15 l15 y15 z15 st15 hQ15
  subst l15 y15 z15
  obtain ⟨rfl, Nq15, Kq15, Vq15⟩ := hQ15
  have N15 := Fr.app N6 Nq15
  have Z15 : n0 ≤ T15.heap.size := Nat.le_trans Z6 Kq15.1
  refine Ends.via st15 ?_
  show Ends p e below s 16 128 (Q0 Z q0 q1 q2 q3 p4  h0 n0) (T15.setTop (mkF m 42 #[.val (.long q0), .second, .val (.long q1), .second, .val (.long q2), .second, .val (.long q3), .second, .val (.int p4), .val (.int v1), .val (.ref b2), .unset, .unset, .unset, .unset] []))
  refine Ends.via (fun _ k => XS.iload X15.here hx rfl (hb hby at_42) rfl k) ?_
  show Ends p e below s 16 128 (Q0 Z q0 q1 q2 q3 p4  h0 n0) (T15.setTop (mkF m 44 #[.val (.long q0), .second, .val (.long q1), .second, .val (.long q2), .second, .val (.long q3), .second, .val (.int p4), .val (.int v1), .val (.ref b2), .unset, .unset, .unset, .unset] [(.int v1)]))
  refine Ends.via (fun _ k => XS.bipush X15.here hx rfl (hb hby at_44) k) ?_
  show Ends p e below s 16 128 (Q0 Z q0 q1 q2 q3 p4  h0 n0) (T15.setTop (mkF m 46 #[.val (.long q0), .second, .val (.long q1), .second, .val (.long q2), .second, .val (.long q3), .second, .val (.int p4), .val (.int v1), .val (.ref b2), .unset, .unset, .unset, .unset] [(.int (64 : Int32)), (.int v1)]))
  refine Ends.via (fun _ k => XS.idiv X15.here hx rfl (hb hby at_46) rfl (by decide) k) ?_
  show Ends p e below s 16 128 (Q0 Z q0 q1 q2 q3 p4  h0 n0) (T15.setTop (mkF m 47 #[.val (.long q0), .second, .val (.long q1), .second, .val (.long q2), .second, .val (.long q3), .second, .val (.int p4), .val (.int v1), .val (.ref b2), .unset, .unset, .unset, .unset] [(.int (v1 / (64 : Int32)))]))
  refine Ends.via (fun _ k => XS.istore X15.here hx rfl (hb hby at_47) rfl (l' := #[.val (.long q0), .second, .val (.long q1), .second, .val (.long q2), .second, .val (.long q3), .second, .val (.int p4), .val (.int v1), .val (.ref b2), .val (.int (v1 / (64 : Int32))), .unset, .unset, .unset]) rfl k) ?_
  show Ends p e below s 16 128 (Q0 Z q0 q1 q2 q3 p4  h0 n0) (T15.setTop (mkF m 49 #[.val (.long q0), .second, .val (.long q1), .second, .val (.long q2), .second, .val (.long q3), .second, .val (.int p4), .val (.int v1), .val (.ref b2), .val (.int (v1 / (64 : Int32))), .unset, .unset, .unset] []))
  generalize hv16 : (v1 / (64 : Int32)) = v16
  refine Ends.via (fun _ k => XS.iload X15.here hx rfl (hb hby at_49) rfl k) ?_
  show Ends p e below s 16 128 (Q0 Z q0 q1 q2 q3 p4  h0 n0) (T15.setTop (mkF m 51 #[.val (.long q0), .second, .val (.long q1), .second, .val (.long q2), .second, .val (.long q3), .second, .val (.int p4), .val (.int v1), .val (.ref b2), .val (.int v16), .unset, .unset, .unset] [(.int v1)]))
  refine Ends.via (fun _ k => XS.bipush X15.here hx rfl (hb hby at_51) k) ?_
  show Ends p e below s 16 128 (Q0 Z q0 q1 q2 q3 p4  h0 n0) (T15.setTop (mkF m 53 #[.val (.long q0), .second, .val (.long q1), .second, .val (.long q2), .second, .val (.long q3), .second, .val (.int p4), .val (.int v1), .val (.ref b2), .val (.int v16), .unset, .unset, .unset] [(.int (64 : Int32)), (.int v1)]))
  refine Ends.via (fun _ k => iremM X15 hx rfl (hb hby at_53) rfl (by decide) k) ?_
  show Ends p e below s 16 128 (Q0 Z q0 q1 q2 q3 p4  h0 n0) (T15.setTop (mkF m 54 #[.val (.long q0), .second, .val (.long q1), .second, .val (.long q2), .second, .val (.long q3), .second, .val (.int p4), .val (.int v1), .val (.ref b2), .val (.int v16), .unset, .unset, .unset] [(.int (v1 % (64 : Int32)))]))
  refine Ends.via (fun _ k => XS.istore X15.here hx rfl (hb hby at_54) rfl (l' := #[.val (.long q0), .second, .val (.long q1), .second, .val (.long q2), .second, .val (.long q3), .second, .val (.int p4), .val (.int v1), .val (.ref b2), .val (.int v16), .val (.int (v1 % (64 : Int32))), .unset, .unset]) rfl k) ?_
  show Ends p e below s 16 128 (Q0 Z q0 q1 q2 q3 p4  h0 n0) (T15.setTop (mkF m 56 #[.val (.long q0), .second, .val (.long q1), .second, .val (.long q2), .second, .val (.long q3), .second, .val (.int p4), .val (.int v1), .val (.ref b2), .val (.int v16), .val (.int (v1 % (64 : Int32))), .unset, .unset] []))
  generalize hv17 : (v1 % (64 : Int32)) = v17
  refine Ends.via (fun _ k => XS.lconst X15.here hx rfl (hb hby at_56) k) ?_
  show Ends p e below s 16 128 (Q0 Z q0 q1 q2 q3 p4  h0 n0) (T15.setTop (mkF m 57 #[.val (.long q0), .second, .val (.long q1), .second, .val (.long q2), .second, .val (.long q3), .second, .val (.int p4), .val (.int v1), .val (.ref b2), .val (.int v16), .val (.int v17), .unset, .unset] [(.long (1 : Int64))]))
  refine Ends.via (fun _ k => XS.iload X15.here hx rfl (hb hby at_57) rfl k) ?_
  show Ends p e below s 16 128 (Q0 Z q0 q1 q2 q3 p4  h0 n0) (T15.setTop (mkF m 59 #[.val (.long q0), .second, .val (.long q1), .second, .val (.long q2), .second, .val (.long q3), .second, .val (.int p4), .val (.int v1), .val (.ref b2), .val (.int v16), .val (.int v17), .unset, .unset] [(.int v17), (.long (1 : Int64))]))
  refine Ends.via (fun _ k => XS.lshl X15.here hx rfl (hb hby at_59) rfl k) ?_
  show Ends p e below s 16 128 (Q0 Z q0 q1 q2 q3 p4  h0 n0) (T15.setTop (mkF m 60 #[.val (.long q0), .second, .val (.long q1), .second, .val (.long q2), .second, .val (.long q3), .second, .val (.int p4), .val (.int v1), .val (.ref b2), .val (.int v16), .val (.int v17), .unset, .unset] [(.long ((1 : Int64) <<< (v17 &&& 0x3f).toInt64))]))
  refine Ends.via (fun _ k => XS.lstore X15.here hx rfl (hb hby at_60) rfl (l' := #[.val (.long q0), .second, .val (.long q1), .second, .val (.long q2), .second, .val (.long q3), .second, .val (.int p4), .val (.int v1), .val (.ref b2), .val (.int v16), .val (.int v17), .val (.long ((1 : Int64) <<< (v17 &&& 0x3f).toInt64)), .second]) rfl k) ?_
  show Ends p e below s 16 128 (Q0 Z q0 q1 q2 q3 p4  h0 n0) (T15.setTop (mkF m 62 #[.val (.long q0), .second, .val (.long q1), .second, .val (.long q2), .second, .val (.long q3), .second, .val (.int p4), .val (.int v1), .val (.ref b2), .val (.int v16), .val (.int v17), .val (.long ((1 : Int64) <<< (v17 &&& 0x3f).toInt64)), .second] []))
  generalize hv18 : ((1 : Int64) <<< (v17 &&& 0x3f).toInt64) = v18
  refine Ends.via (fun _ k => XS.aload X15.here hx rfl (hb hby at_62) rfl rfl k) ?_
  show Ends p e below s 16 128 (Q0 Z q0 q1 q2 q3 p4  h0 n0) (T15.setTop (mkF m 64 #[.val (.long q0), .second, .val (.long q1), .second, .val (.long q2), .second, .val (.long q3), .second, .val (.int p4), .val (.int v1), .val (.ref b2), .val (.int v16), .val (.int v17), .val (.long v18), .second] [(.ref b2)]))
  obtain ⟨cl19, Ar19, qk19, S19, Ng19, Hs19, Gf19⟩ := id Vq15
  refine Ends.via (by have q := X15.arraylength hx Ar19.1 (State.isArrayOf_alike hZ.alike Ar19.2.1) (g := (mkF m 64 #[.val (.long q0), .second, .val (.long q1), .second, .val (.long q2), .second, .val (.long q3), .second, .val (.int p4), .val (.int v1), .val (.ref b2), .val (.int v16), .val (.int v17), .val (.long v18), .second] [(.ref b2)])) rfl rfl (hb hby at_64); rw [len_of S19 Ng19] at q; exact q) ?_
  show Ends p e below s 16 128 (Q0 Z q0 q1 q2 q3 p4  h0 n0) (T15.setTop (mkF m 65 #[.val (.long q0), .second, .val (.long q1), .second, .val (.long q2), .second, .val (.long q3), .second, .val (.int p4), .val (.int v1), .val (.ref b2), .val (.int v16), .val (.int v17), .val (.long v18), .second] [(.int (4 : Int32))]))
  refine Ends.via (fun _ k => XS.iconst X15.here hx rfl (hb hby at_65) k) ?_
  show Ends p e below s 16 128 (Q0 Z q0 q1 q2 q3 p4  h0 n0) (T15.setTop (mkF m 66 #[.val (.long q0), .second, .val (.long q1), .second, .val (.long q2), .second, .val (.long q3), .second, .val (.int p4), .val (.int v1), .val (.ref b2), .val (.int v16), .val (.int v17), .val (.long v18), .second] [(.int (4 : Int32)), (.int (4 : Int32))]))
  have hf20 : (4 : Int32) = (4 : Int32) := by decide
  refine Ends.via (fun _ k => XS.icmpNo X15.here hx rfl (hb hby at_66) rfl (teq hf20).2 k) ?_
  show Ends p e below s 16 128 (Q0 Z q0 q1 q2 q3 p4  h0 n0) (T15.setTop (mkF m 69 #[.val (.long q0), .second, .val (.long q1), .second, .val (.long q2), .second, .val (.long q3), .second, .val (.int p4), .val (.int v1), .val (.ref b2), .val (.int v16), .val (.int v17), .val (.long v18), .second] []))
  refine Ends.via (fun _ k => XS.aload X15.here hx rfl (hb hby at_69) rfl rfl k) ?_
  show Ends p e below s 16 128 (Q0 Z q0 q1 q2 q3 p4  h0 n0) (T15.setTop (mkF m 71 #[.val (.long q0), .second, .val (.long q1), .second, .val (.long q2), .second, .val (.long q3), .second, .val (.int p4), .val (.int v1), .val (.ref b2), .val (.int v16), .val (.int v17), .val (.long v18), .second] [(.ref b2)]))
  refine Ends.via (fun _ k => XS.iconst X15.here hx rfl (hb hby at_71) k) ?_
  show Ends p e below s 16 128 (Q0 Z q0 q1 q2 q3 p4  h0 n0) (T15.setTop (mkF m 72 #[.val (.long q0), .second, .val (.long q1), .second, .val (.long q2), .second, .val (.long q3), .second, .val (.int p4), .val (.int v1), .val (.ref b2), .val (.int v16), .val (.int v17), .val (.long v18), .second] [(.int (0 : Int32)), (.ref b2)]))
  obtain ⟨cl21, Ar21, qk21, S21, Ng21, Hs21, Gf21⟩ := id Vq15
  have hin21 : ¬ ((0 : Int32) < 0 ∨ cl21.slots.size ≤ ((0 : Int32)).toNatClampNeg) := inb_of S21 ⟨by decide, by decide⟩
  have hat21 : cl21.slots[((0 : Int32)).toNatClampNeg]? = some (.long (own_sel q0 v1 (0 : Int32))) := Hs21.at hin21 rfl
  refine Ends.via (X15.laload hx (j := (0 : Int32)) (v := (.long (own_sel q0 v1 (0 : Int32)))) Ar21.1 (State.isArrayOf_alike hZ.alike Ar21.2.1) Ar21.2.2 hin21 hat21 (g := (mkF m 72 #[.val (.long q0), .second, .val (.long q1), .second, .val (.long q2), .second, .val (.long q3), .second, .val (.int p4), .val (.int v1), .val (.ref b2), .val (.int v16), .val (.int v17), .val (.long v18), .second] [(.int (0 : Int32)), (.ref b2)])) rfl rfl (hb hby at_72)) ?_
  show Ends p e below s 16 128 (Q0 Z q0 q1 q2 q3 p4  h0 n0) (T15.setTop (mkF m 73 #[.val (.long q0), .second, .val (.long q1), .second, .val (.long q2), .second, .val (.long q3), .second, .val (.int p4), .val (.int v1), .val (.ref b2), .val (.int v16), .val (.int v17), .val (.long v18), .second] [(.long (own_sel q0 v1 (0 : Int32)))]))
  refine Ends.via (fun _ k => XS.lloadN X15.here hx rfl (hb hby at_73) rfl k) ?_
  show Ends p e below s 16 128 (Q0 Z q0 q1 q2 q3 p4  h0 n0) (T15.setTop (mkF m 74 #[.val (.long q0), .second, .val (.long q1), .second, .val (.long q2), .second, .val (.long q3), .second, .val (.int p4), .val (.int v1), .val (.ref b2), .val (.int v16), .val (.int v17), .val (.long v18), .second] [(.long q0), (.long (own_sel q0 v1 (0 : Int32)))]))
  refine Ends.via (fun _ k => XS.iconst X15.here hx rfl (hb hby at_74) k) ?_
  show Ends p e below s 16 128 (Q0 Z q0 q1 q2 q3 p4  h0 n0) (T15.setTop (mkF m 75 #[.val (.long q0), .second, .val (.long q1), .second, .val (.long q2), .second, .val (.long q3), .second, .val (.int p4), .val (.int v1), .val (.ref b2), .val (.int v16), .val (.int v17), .val (.long v18), .second] [(.int (0 : Int32)), (.long q0), (.long (own_sel q0 v1 (0 : Int32)))]))
  refine Ends.via (fun _ k => XS.iload X15.here hx rfl (hb hby at_75) rfl k) ?_
  show Ends p e below s 16 128 (Q0 Z q0 q1 q2 q3 p4  h0 n0) (T15.setTop (mkF m 77 #[.val (.long q0), .second, .val (.long q1), .second, .val (.long q2), .second, .val (.long q3), .second, .val (.int p4), .val (.int v1), .val (.ref b2), .val (.int v16), .val (.int v17), .val (.long v18), .second] [(.int v16), (.int (0 : Int32)), (.long q0), (.long (own_sel q0 v1 (0 : Int32)))]))
  refine Ends.via (fun _ k => XS.lload X15.here hx rfl (hb hby at_77) rfl k) ?_
  show Ends p e below s 16 128 (Q0 Z q0 q1 q2 q3 p4  h0 n0) (T15.setTop (mkF m 79 #[.val (.long q0), .second, .val (.long q1), .second, .val (.long q2), .second, .val (.long q3), .second, .val (.int p4), .val (.int v1), .val (.ref b2), .val (.int v16), .val (.int v17), .val (.long v18), .second] [(.long v18), (.int v16), (.int (0 : Int32)), (.long q0), (.long (own_sel q0 v1 (0 : Int32)))]))
  obtain ⟨_, _, ⟨T23, L23, k23, n23⟩, -, X23, ⟨Lc23, hQ23, l23, y23, z23⟩, st23⟩ := Jvm.LawKit.callS X15 hx (y := (⟨"org/graphstride/VertexBitsSetPinLaw", "expect", "(JIIJ)J"⟩ : MethodName)) hown (mvT hZ (hw _ (List.mem_of_getElem? (i := 5) rfl))) (mvT hZ (hw _ (List.mem_of_getElem? (i := 6) rfl))) (mvT hZ (hw _ (List.mem_of_getElem? (i := 7) rfl))) (mvT hZ (hw _ (List.mem_of_getElem? (i := 8) rfl))) (by decide) (backOf (W := 2) (rm2 l Z _ hw [] q0 (0 : Int32) v16 v18 T15.heap n0 Z15) hZ (hw _ (List.mem_of_getElem? (i := 8) rfl)) (hw _ (List.mem_of_getElem? (i := 7) rfl)) (by decide) (by decide)) (g := (mkF m 79 #[.val (.long q0), .second, .val (.long q1), .second, .val (.long q2), .second, .val (.long q3), .second, .val (.int p4), .val (.int v1), .val (.ref b2), .val (.int v16), .val (.int v17), .val (.long v18), .second] [(.long v18), (.int v16), (.int (0 : Int32)), (.long q0), (.long (own_sel q0 v1 (0 : Int32)))])) rfl (by rw [hml]; rfl) (argsL := [(.long q0), (.int (0 : Int32)), (.int v16), (.long v18)]) (rest := [(.long (own_sel q0 v1 (0 : Int32)))]) (lenOf own_pd1 rfl) rfl (by show 2 * 0 + _ ≤ _; exact Nat.le_of_eq rfl) (hb hby at_79) (fun _ _ => ⟨rfl, rfl, (by decide : 1 + 0 ≤ _), (by decide : 4 + 0 ≤ _)⟩)
  dsimp only [Pt.U, Pt.locs, Pt.cells, Pt.slots] at X23 l23 y23 z23 st23 hQ23
  subst l23 y23 z23
  obtain ⟨rfl, Nq23, e23⟩ := hQ23
  have N23 := Fr.app N15 Nq23
  refine Ends.via st23 ?_
  show Ends p e below s 16 128 (Q0 Z q0 q1 q2 q3 p4  h0 n0) (T23.setTop (mkF m 82 #[.val (.long q0), .second, .val (.long q1), .second, .val (.long q2), .second, .val (.long q3), .second, .val (.int p4), .val (.int v1), .val (.ref b2), .val (.int v16), .val (.int v17), .val (.long v18), .second] [(.long (fn2 q0 (0 : Int32) v16 v18)), (.long (own_sel q0 v1 (0 : Int32)))]))
  refine Ends.via (fun _ k => XS.lcmp X23.here hx rfl (hb hby at_82) rfl k) ?_
  show Ends p e below s 16 128 (Q0 Z q0 q1 q2 q3 p4  h0 n0) (T23.setTop (mkF m 83 #[.val (.long q0), .second, .val (.long q1), .second, .val (.long q2), .second, .val (.long q3), .second, .val (.int p4), .val (.int v1), .val (.ref b2), .val (.int v16), .val (.int v17), .val (.long v18), .second] [(.int (lcmpW (own_sel q0 v1 (0 : Int32)) (fn2 q0 (0 : Int32) v16 v18)))]))
  by_cases hc24 : (own_sel q0 v1 (0 : Int32)) = (fn2 q0 (0 : Int32) v16 v18)
  · refine Ends.via (fun _ k => XS.ifNo X23.here hx rfl (hb hby at_83) rfl ((if0 _ _).trans (teq ((lw_eq _ _).mpr hc24)).2) k) ?_
    show Ends p e below s 16 128 (Q0 Z q0 q1 q2 q3 p4  h0 n0) (T23.setTop (mkF m 86 #[.val (.long q0), .second, .val (.long q1), .second, .val (.long q2), .second, .val (.long q3), .second, .val (.int p4), .val (.int v1), .val (.ref b2), .val (.int v16), .val (.int v17), .val (.long v18), .second] []))
    refine Ends.via (fun _ k => XS.aload X23.here hx rfl (hb hby at_86) rfl rfl k) ?_
    show Ends p e below s 16 128 (Q0 Z q0 q1 q2 q3 p4  h0 n0) (T23.setTop (mkF m 88 #[.val (.long q0), .second, .val (.long q1), .second, .val (.long q2), .second, .val (.long q3), .second, .val (.int p4), .val (.int v1), .val (.ref b2), .val (.int v16), .val (.int v17), .val (.long v18), .second] [(.ref b2)]))
    refine Ends.via (fun _ k => XS.iconst X23.here hx rfl (hb hby at_88) k) ?_
    show Ends p e below s 16 128 (Q0 Z q0 q1 q2 q3 p4  h0 n0) (T23.setTop (mkF m 89 #[.val (.long q0), .second, .val (.long q1), .second, .val (.long q2), .second, .val (.long q3), .second, .val (.int p4), .val (.int v1), .val (.ref b2), .val (.int v16), .val (.int v17), .val (.long v18), .second] [(.int (1 : Int32)), (.ref b2)]))
    obtain ⟨cl25, Ar25, qk25, S25, Ng25, Hs25, Gf25⟩ := id Vq15
    have hin25 : ¬ ((1 : Int32) < 0 ∨ cl25.slots.size ≤ ((1 : Int32)).toNatClampNeg) := inb_of S25 ⟨by decide, by decide⟩
    have hat25 : cl25.slots[((1 : Int32)).toNatClampNeg]? = some (.long (own_sel q1 v1 (1 : Int32))) := Hs25.at hin25 rfl
    refine Ends.via (X23.laload hx (j := (1 : Int32)) (v := (.long (own_sel q1 v1 (1 : Int32)))) (by rw [e23]; exact Ar25.1) (State.isArrayOf_alike hZ.alike Ar25.2.1) Ar25.2.2 hin25 hat25 (g := (mkF m 89 #[.val (.long q0), .second, .val (.long q1), .second, .val (.long q2), .second, .val (.long q3), .second, .val (.int p4), .val (.int v1), .val (.ref b2), .val (.int v16), .val (.int v17), .val (.long v18), .second] [(.int (1 : Int32)), (.ref b2)])) rfl rfl (hb hby at_89)) ?_
    show Ends p e below s 16 128 (Q0 Z q0 q1 q2 q3 p4  h0 n0) (T23.setTop (mkF m 90 #[.val (.long q0), .second, .val (.long q1), .second, .val (.long q2), .second, .val (.long q3), .second, .val (.int p4), .val (.int v1), .val (.ref b2), .val (.int v16), .val (.int v17), .val (.long v18), .second] [(.long (own_sel q1 v1 (1 : Int32)))]))
    refine Ends.via (fun _ k => XS.lloadN X23.here hx rfl (hb hby at_90) rfl k) ?_
    show Ends p e below s 16 128 (Q0 Z q0 q1 q2 q3 p4  h0 n0) (T23.setTop (mkF m 91 #[.val (.long q0), .second, .val (.long q1), .second, .val (.long q2), .second, .val (.long q3), .second, .val (.int p4), .val (.int v1), .val (.ref b2), .val (.int v16), .val (.int v17), .val (.long v18), .second] [(.long q1), (.long (own_sel q1 v1 (1 : Int32)))]))
    refine Ends.via (fun _ k => XS.iconst X23.here hx rfl (hb hby at_91) k) ?_
    show Ends p e below s 16 128 (Q0 Z q0 q1 q2 q3 p4  h0 n0) (T23.setTop (mkF m 92 #[.val (.long q0), .second, .val (.long q1), .second, .val (.long q2), .second, .val (.long q3), .second, .val (.int p4), .val (.int v1), .val (.ref b2), .val (.int v16), .val (.int v17), .val (.long v18), .second] [(.int (1 : Int32)), (.long q1), (.long (own_sel q1 v1 (1 : Int32)))]))
    refine Ends.via (fun _ k => XS.iload X23.here hx rfl (hb hby at_92) rfl k) ?_
    show Ends p e below s 16 128 (Q0 Z q0 q1 q2 q3 p4  h0 n0) (T23.setTop (mkF m 94 #[.val (.long q0), .second, .val (.long q1), .second, .val (.long q2), .second, .val (.long q3), .second, .val (.int p4), .val (.int v1), .val (.ref b2), .val (.int v16), .val (.int v17), .val (.long v18), .second] [(.int v16), (.int (1 : Int32)), (.long q1), (.long (own_sel q1 v1 (1 : Int32)))]))
    refine Ends.via (fun _ k => XS.lload X23.here hx rfl (hb hby at_94) rfl k) ?_
    show Ends p e below s 16 128 (Q0 Z q0 q1 q2 q3 p4  h0 n0) (T23.setTop (mkF m 96 #[.val (.long q0), .second, .val (.long q1), .second, .val (.long q2), .second, .val (.long q3), .second, .val (.int p4), .val (.int v1), .val (.ref b2), .val (.int v16), .val (.int v17), .val (.long v18), .second] [(.long v18), (.int v16), (.int (1 : Int32)), (.long q1), (.long (own_sel q1 v1 (1 : Int32)))]))
    obtain ⟨_, _, ⟨T26, L26, k26, n26⟩, -, X26, ⟨Lc26, hQ26, l26, y26, z26⟩, st26⟩ := Jvm.LawKit.callS X23 hx (y := (⟨"org/graphstride/VertexBitsSetPinLaw", "expect", "(JIIJ)J"⟩ : MethodName)) hown (mvT hZ (hw _ (List.mem_of_getElem? (i := 5) rfl))) (mvT hZ (hw _ (List.mem_of_getElem? (i := 6) rfl))) (mvT hZ (hw _ (List.mem_of_getElem? (i := 7) rfl))) (mvT hZ (hw _ (List.mem_of_getElem? (i := 8) rfl))) (by decide) (backOf (W := 2) (rm2 l Z _ hw [] q1 (1 : Int32) v16 v18 T15.heap n0 Z15) hZ (hw _ (List.mem_of_getElem? (i := 8) rfl)) (hw _ (List.mem_of_getElem? (i := 7) rfl)) (by decide) (by decide)) (g := (mkF m 96 #[.val (.long q0), .second, .val (.long q1), .second, .val (.long q2), .second, .val (.long q3), .second, .val (.int p4), .val (.int v1), .val (.ref b2), .val (.int v16), .val (.int v17), .val (.long v18), .second] [(.long v18), (.int v16), (.int (1 : Int32)), (.long q1), (.long (own_sel q1 v1 (1 : Int32)))])) rfl (by rw [hml]; rfl) (argsL := [(.long q1), (.int (1 : Int32)), (.int v16), (.long v18)]) (rest := [(.long (own_sel q1 v1 (1 : Int32)))]) (lenOf own_pd1 rfl) rfl (by show 2 * 0 + _ ≤ _; exact Nat.le_of_eq rfl) (hb hby at_96) (fun _ _ => ⟨rfl, e23, (by decide : 1 + 0 ≤ _), (by decide : 4 + 0 ≤ _)⟩)
    dsimp only [Pt.U, Pt.locs, Pt.cells, Pt.slots] at X26 l26 y26 z26 st26 hQ26
    subst l26 y26 z26
    obtain ⟨rfl, Nq26, e26⟩ := hQ26
    have N26 := Fr.app N23 Nq26
    refine Ends.via st26 ?_
    show Ends p e below s 16 128 (Q0 Z q0 q1 q2 q3 p4  h0 n0) (T26.setTop (mkF m 99 #[.val (.long q0), .second, .val (.long q1), .second, .val (.long q2), .second, .val (.long q3), .second, .val (.int p4), .val (.int v1), .val (.ref b2), .val (.int v16), .val (.int v17), .val (.long v18), .second] [(.long (fn2 q1 (1 : Int32) v16 v18)), (.long (own_sel q1 v1 (1 : Int32)))]))
    refine Ends.via (fun _ k => XS.lcmp X26.here hx rfl (hb hby at_99) rfl k) ?_
    show Ends p e below s 16 128 (Q0 Z q0 q1 q2 q3 p4  h0 n0) (T26.setTop (mkF m 100 #[.val (.long q0), .second, .val (.long q1), .second, .val (.long q2), .second, .val (.long q3), .second, .val (.int p4), .val (.int v1), .val (.ref b2), .val (.int v16), .val (.int v17), .val (.long v18), .second] [(.int (lcmpW (own_sel q1 v1 (1 : Int32)) (fn2 q1 (1 : Int32) v16 v18)))]))
    by_cases hc27 : (own_sel q1 v1 (1 : Int32)) = (fn2 q1 (1 : Int32) v16 v18)
    · refine Ends.via (fun _ k => XS.ifNo X26.here hx rfl (hb hby at_100) rfl ((if0 _ _).trans (teq ((lw_eq _ _).mpr hc27)).2) k) ?_
      show Ends p e below s 16 128 (Q0 Z q0 q1 q2 q3 p4  h0 n0) (T26.setTop (mkF m 103 #[.val (.long q0), .second, .val (.long q1), .second, .val (.long q2), .second, .val (.long q3), .second, .val (.int p4), .val (.int v1), .val (.ref b2), .val (.int v16), .val (.int v17), .val (.long v18), .second] []))
      refine Ends.via (fun _ k => XS.aload X26.here hx rfl (hb hby at_103) rfl rfl k) ?_
      show Ends p e below s 16 128 (Q0 Z q0 q1 q2 q3 p4  h0 n0) (T26.setTop (mkF m 105 #[.val (.long q0), .second, .val (.long q1), .second, .val (.long q2), .second, .val (.long q3), .second, .val (.int p4), .val (.int v1), .val (.ref b2), .val (.int v16), .val (.int v17), .val (.long v18), .second] [(.ref b2)]))
      refine Ends.via (fun _ k => XS.iconst X26.here hx rfl (hb hby at_105) k) ?_
      show Ends p e below s 16 128 (Q0 Z q0 q1 q2 q3 p4  h0 n0) (T26.setTop (mkF m 106 #[.val (.long q0), .second, .val (.long q1), .second, .val (.long q2), .second, .val (.long q3), .second, .val (.int p4), .val (.int v1), .val (.ref b2), .val (.int v16), .val (.int v17), .val (.long v18), .second] [(.int (2 : Int32)), (.ref b2)]))
      obtain ⟨cl28, Ar28, qk28, S28, Ng28, Hs28, Gf28⟩ := id Vq15
      have hin28 : ¬ ((2 : Int32) < 0 ∨ cl28.slots.size ≤ ((2 : Int32)).toNatClampNeg) := inb_of S28 ⟨by decide, by decide⟩
      have hat28 : cl28.slots[((2 : Int32)).toNatClampNeg]? = some (.long (own_sel q2 v1 (2 : Int32))) := Hs28.at hin28 rfl
      refine Ends.via (X26.laload hx (j := (2 : Int32)) (v := (.long (own_sel q2 v1 (2 : Int32)))) (by rw [e26]; exact Ar28.1) (State.isArrayOf_alike hZ.alike Ar28.2.1) Ar28.2.2 hin28 hat28 (g := (mkF m 106 #[.val (.long q0), .second, .val (.long q1), .second, .val (.long q2), .second, .val (.long q3), .second, .val (.int p4), .val (.int v1), .val (.ref b2), .val (.int v16), .val (.int v17), .val (.long v18), .second] [(.int (2 : Int32)), (.ref b2)])) rfl rfl (hb hby at_106)) ?_
      show Ends p e below s 16 128 (Q0 Z q0 q1 q2 q3 p4  h0 n0) (T26.setTop (mkF m 107 #[.val (.long q0), .second, .val (.long q1), .second, .val (.long q2), .second, .val (.long q3), .second, .val (.int p4), .val (.int v1), .val (.ref b2), .val (.int v16), .val (.int v17), .val (.long v18), .second] [(.long (own_sel q2 v1 (2 : Int32)))]))
      refine Ends.via (fun _ k => XS.lload X26.here hx rfl (hb hby at_107) rfl k) ?_
      show Ends p e below s 16 128 (Q0 Z q0 q1 q2 q3 p4  h0 n0) (T26.setTop (mkF m 109 #[.val (.long q0), .second, .val (.long q1), .second, .val (.long q2), .second, .val (.long q3), .second, .val (.int p4), .val (.int v1), .val (.ref b2), .val (.int v16), .val (.int v17), .val (.long v18), .second] [(.long q2), (.long (own_sel q2 v1 (2 : Int32)))]))
      refine Ends.via (fun _ k => XS.iconst X26.here hx rfl (hb hby at_109) k) ?_
      show Ends p e below s 16 128 (Q0 Z q0 q1 q2 q3 p4  h0 n0) (T26.setTop (mkF m 110 #[.val (.long q0), .second, .val (.long q1), .second, .val (.long q2), .second, .val (.long q3), .second, .val (.int p4), .val (.int v1), .val (.ref b2), .val (.int v16), .val (.int v17), .val (.long v18), .second] [(.int (2 : Int32)), (.long q2), (.long (own_sel q2 v1 (2 : Int32)))]))
      refine Ends.via (fun _ k => XS.iload X26.here hx rfl (hb hby at_110) rfl k) ?_
      show Ends p e below s 16 128 (Q0 Z q0 q1 q2 q3 p4  h0 n0) (T26.setTop (mkF m 112 #[.val (.long q0), .second, .val (.long q1), .second, .val (.long q2), .second, .val (.long q3), .second, .val (.int p4), .val (.int v1), .val (.ref b2), .val (.int v16), .val (.int v17), .val (.long v18), .second] [(.int v16), (.int (2 : Int32)), (.long q2), (.long (own_sel q2 v1 (2 : Int32)))]))
      refine Ends.via (fun _ k => XS.lload X26.here hx rfl (hb hby at_112) rfl k) ?_
      show Ends p e below s 16 128 (Q0 Z q0 q1 q2 q3 p4  h0 n0) (T26.setTop (mkF m 114 #[.val (.long q0), .second, .val (.long q1), .second, .val (.long q2), .second, .val (.long q3), .second, .val (.int p4), .val (.int v1), .val (.ref b2), .val (.int v16), .val (.int v17), .val (.long v18), .second] [(.long v18), (.int v16), (.int (2 : Int32)), (.long q2), (.long (own_sel q2 v1 (2 : Int32)))]))
      obtain ⟨_, _, ⟨T29, L29, k29, n29⟩, -, X29, ⟨Lc29, hQ29, l29, y29, z29⟩, st29⟩ := Jvm.LawKit.callS X26 hx (y := (⟨"org/graphstride/VertexBitsSetPinLaw", "expect", "(JIIJ)J"⟩ : MethodName)) hown (mvT hZ (hw _ (List.mem_of_getElem? (i := 5) rfl))) (mvT hZ (hw _ (List.mem_of_getElem? (i := 6) rfl))) (mvT hZ (hw _ (List.mem_of_getElem? (i := 7) rfl))) (mvT hZ (hw _ (List.mem_of_getElem? (i := 8) rfl))) (by decide) (backOf (W := 2) (rm2 l Z _ hw [] q2 (2 : Int32) v16 v18 T15.heap n0 Z15) hZ (hw _ (List.mem_of_getElem? (i := 8) rfl)) (hw _ (List.mem_of_getElem? (i := 7) rfl)) (by decide) (by decide)) (g := (mkF m 114 #[.val (.long q0), .second, .val (.long q1), .second, .val (.long q2), .second, .val (.long q3), .second, .val (.int p4), .val (.int v1), .val (.ref b2), .val (.int v16), .val (.int v17), .val (.long v18), .second] [(.long v18), (.int v16), (.int (2 : Int32)), (.long q2), (.long (own_sel q2 v1 (2 : Int32)))])) rfl (by rw [hml]; rfl) (argsL := [(.long q2), (.int (2 : Int32)), (.int v16), (.long v18)]) (rest := [(.long (own_sel q2 v1 (2 : Int32)))]) (lenOf own_pd1 rfl) rfl (by show 2 * 0 + _ ≤ _; exact Nat.le_of_eq rfl) (hb hby at_114) (fun _ _ => ⟨rfl, e26, (by decide : 1 + 0 ≤ _), (by decide : 4 + 0 ≤ _)⟩)
      dsimp only [Pt.U, Pt.locs, Pt.cells, Pt.slots] at X29 l29 y29 z29 st29 hQ29
      subst l29 y29 z29
      obtain ⟨rfl, Nq29, e29⟩ := hQ29
      have N29 := Fr.app N26 Nq29
      refine Ends.via st29 ?_
      show Ends p e below s 16 128 (Q0 Z q0 q1 q2 q3 p4  h0 n0) (T29.setTop (mkF m 117 #[.val (.long q0), .second, .val (.long q1), .second, .val (.long q2), .second, .val (.long q3), .second, .val (.int p4), .val (.int v1), .val (.ref b2), .val (.int v16), .val (.int v17), .val (.long v18), .second] [(.long (fn2 q2 (2 : Int32) v16 v18)), (.long (own_sel q2 v1 (2 : Int32)))]))
      refine Ends.via (fun _ k => XS.lcmp X29.here hx rfl (hb hby at_117) rfl k) ?_
      show Ends p e below s 16 128 (Q0 Z q0 q1 q2 q3 p4  h0 n0) (T29.setTop (mkF m 118 #[.val (.long q0), .second, .val (.long q1), .second, .val (.long q2), .second, .val (.long q3), .second, .val (.int p4), .val (.int v1), .val (.ref b2), .val (.int v16), .val (.int v17), .val (.long v18), .second] [(.int (lcmpW (own_sel q2 v1 (2 : Int32)) (fn2 q2 (2 : Int32) v16 v18)))]))
      by_cases hc30 : (own_sel q2 v1 (2 : Int32)) = (fn2 q2 (2 : Int32) v16 v18)
      · refine Ends.via (fun _ k => XS.ifNo X29.here hx rfl (hb hby at_118) rfl ((if0 _ _).trans (teq ((lw_eq _ _).mpr hc30)).2) k) ?_
        show Ends p e below s 16 128 (Q0 Z q0 q1 q2 q3 p4  h0 n0) (T29.setTop (mkF m 121 #[.val (.long q0), .second, .val (.long q1), .second, .val (.long q2), .second, .val (.long q3), .second, .val (.int p4), .val (.int v1), .val (.ref b2), .val (.int v16), .val (.int v17), .val (.long v18), .second] []))
        refine Ends.via (fun _ k => XS.aload X29.here hx rfl (hb hby at_121) rfl rfl k) ?_
        show Ends p e below s 16 128 (Q0 Z q0 q1 q2 q3 p4  h0 n0) (T29.setTop (mkF m 123 #[.val (.long q0), .second, .val (.long q1), .second, .val (.long q2), .second, .val (.long q3), .second, .val (.int p4), .val (.int v1), .val (.ref b2), .val (.int v16), .val (.int v17), .val (.long v18), .second] [(.ref b2)]))
        refine Ends.via (fun _ k => XS.iconst X29.here hx rfl (hb hby at_123) k) ?_
        show Ends p e below s 16 128 (Q0 Z q0 q1 q2 q3 p4  h0 n0) (T29.setTop (mkF m 124 #[.val (.long q0), .second, .val (.long q1), .second, .val (.long q2), .second, .val (.long q3), .second, .val (.int p4), .val (.int v1), .val (.ref b2), .val (.int v16), .val (.int v17), .val (.long v18), .second] [(.int (3 : Int32)), (.ref b2)]))
        obtain ⟨cl31, Ar31, qk31, S31, Ng31, Hs31, Gf31⟩ := id Vq15
        have hin31 : ¬ ((3 : Int32) < 0 ∨ cl31.slots.size ≤ ((3 : Int32)).toNatClampNeg) := inb_of S31 ⟨by decide, by decide⟩
        have hat31 : cl31.slots[((3 : Int32)).toNatClampNeg]? = some (.long (own_sel q3 v1 (3 : Int32))) := Hs31.at hin31 rfl
        refine Ends.via (X29.laload hx (j := (3 : Int32)) (v := (.long (own_sel q3 v1 (3 : Int32)))) (by rw [e29]; exact Ar31.1) (State.isArrayOf_alike hZ.alike Ar31.2.1) Ar31.2.2 hin31 hat31 (g := (mkF m 124 #[.val (.long q0), .second, .val (.long q1), .second, .val (.long q2), .second, .val (.long q3), .second, .val (.int p4), .val (.int v1), .val (.ref b2), .val (.int v16), .val (.int v17), .val (.long v18), .second] [(.int (3 : Int32)), (.ref b2)])) rfl rfl (hb hby at_124)) ?_
        show Ends p e below s 16 128 (Q0 Z q0 q1 q2 q3 p4  h0 n0) (T29.setTop (mkF m 125 #[.val (.long q0), .second, .val (.long q1), .second, .val (.long q2), .second, .val (.long q3), .second, .val (.int p4), .val (.int v1), .val (.ref b2), .val (.int v16), .val (.int v17), .val (.long v18), .second] [(.long (own_sel q3 v1 (3 : Int32)))]))
        refine Ends.via (fun _ k => XS.lload X29.here hx rfl (hb hby at_125) rfl k) ?_
        show Ends p e below s 16 128 (Q0 Z q0 q1 q2 q3 p4  h0 n0) (T29.setTop (mkF m 127 #[.val (.long q0), .second, .val (.long q1), .second, .val (.long q2), .second, .val (.long q3), .second, .val (.int p4), .val (.int v1), .val (.ref b2), .val (.int v16), .val (.int v17), .val (.long v18), .second] [(.long q3), (.long (own_sel q3 v1 (3 : Int32)))]))
        refine Ends.via (fun _ k => XS.iconst X29.here hx rfl (hb hby at_127) k) ?_
        show Ends p e below s 16 128 (Q0 Z q0 q1 q2 q3 p4  h0 n0) (T29.setTop (mkF m 128 #[.val (.long q0), .second, .val (.long q1), .second, .val (.long q2), .second, .val (.long q3), .second, .val (.int p4), .val (.int v1), .val (.ref b2), .val (.int v16), .val (.int v17), .val (.long v18), .second] [(.int (3 : Int32)), (.long q3), (.long (own_sel q3 v1 (3 : Int32)))]))
        refine Ends.via (fun _ k => XS.iload X29.here hx rfl (hb hby at_128) rfl k) ?_
        show Ends p e below s 16 128 (Q0 Z q0 q1 q2 q3 p4  h0 n0) (T29.setTop (mkF m 130 #[.val (.long q0), .second, .val (.long q1), .second, .val (.long q2), .second, .val (.long q3), .second, .val (.int p4), .val (.int v1), .val (.ref b2), .val (.int v16), .val (.int v17), .val (.long v18), .second] [(.int v16), (.int (3 : Int32)), (.long q3), (.long (own_sel q3 v1 (3 : Int32)))]))
        refine Ends.via (fun _ k => XS.lload X29.here hx rfl (hb hby at_130) rfl k) ?_
        show Ends p e below s 16 128 (Q0 Z q0 q1 q2 q3 p4  h0 n0) (T29.setTop (mkF m 132 #[.val (.long q0), .second, .val (.long q1), .second, .val (.long q2), .second, .val (.long q3), .second, .val (.int p4), .val (.int v1), .val (.ref b2), .val (.int v16), .val (.int v17), .val (.long v18), .second] [(.long v18), (.int v16), (.int (3 : Int32)), (.long q3), (.long (own_sel q3 v1 (3 : Int32)))]))
        obtain ⟨_, _, ⟨T32, L32, k32, n32⟩, -, X32, ⟨Lc32, hQ32, l32, y32, z32⟩, st32⟩ := Jvm.LawKit.callS X29 hx (y := (⟨"org/graphstride/VertexBitsSetPinLaw", "expect", "(JIIJ)J"⟩ : MethodName)) hown (mvT hZ (hw _ (List.mem_of_getElem? (i := 5) rfl))) (mvT hZ (hw _ (List.mem_of_getElem? (i := 6) rfl))) (mvT hZ (hw _ (List.mem_of_getElem? (i := 7) rfl))) (mvT hZ (hw _ (List.mem_of_getElem? (i := 8) rfl))) (by decide) (backOf (W := 2) (rm2 l Z _ hw [] q3 (3 : Int32) v16 v18 T15.heap n0 Z15) hZ (hw _ (List.mem_of_getElem? (i := 8) rfl)) (hw _ (List.mem_of_getElem? (i := 7) rfl)) (by decide) (by decide)) (g := (mkF m 132 #[.val (.long q0), .second, .val (.long q1), .second, .val (.long q2), .second, .val (.long q3), .second, .val (.int p4), .val (.int v1), .val (.ref b2), .val (.int v16), .val (.int v17), .val (.long v18), .second] [(.long v18), (.int v16), (.int (3 : Int32)), (.long q3), (.long (own_sel q3 v1 (3 : Int32)))])) rfl (by rw [hml]; rfl) (argsL := [(.long q3), (.int (3 : Int32)), (.int v16), (.long v18)]) (rest := [(.long (own_sel q3 v1 (3 : Int32)))]) (lenOf own_pd1 rfl) rfl (by show 2 * 0 + _ ≤ _; exact Nat.le_of_eq rfl) (hb hby at_132) (fun _ _ => ⟨rfl, e29, (by decide : 1 + 0 ≤ _), (by decide : 4 + 0 ≤ _)⟩)
        dsimp only [Pt.U, Pt.locs, Pt.cells, Pt.slots] at X32 l32 y32 z32 st32 hQ32
        subst l32 y32 z32
        obtain ⟨rfl, Nq32, e32⟩ := hQ32
        have N32 := Fr.app N29 Nq32
        refine Ends.via st32 ?_
        show Ends p e below s 16 128 (Q0 Z q0 q1 q2 q3 p4  h0 n0) (T32.setTop (mkF m 135 #[.val (.long q0), .second, .val (.long q1), .second, .val (.long q2), .second, .val (.long q3), .second, .val (.int p4), .val (.int v1), .val (.ref b2), .val (.int v16), .val (.int v17), .val (.long v18), .second] [(.long (fn2 q3 (3 : Int32) v16 v18)), (.long (own_sel q3 v1 (3 : Int32)))]))
        refine Ends.via (fun _ k => XS.lcmp X32.here hx rfl (hb hby at_135) rfl k) ?_
        show Ends p e below s 16 128 (Q0 Z q0 q1 q2 q3 p4  h0 n0) (T32.setTop (mkF m 136 #[.val (.long q0), .second, .val (.long q1), .second, .val (.long q2), .second, .val (.long q3), .second, .val (.int p4), .val (.int v1), .val (.ref b2), .val (.int v16), .val (.int v17), .val (.long v18), .second] [(.int (lcmpW (own_sel q3 v1 (3 : Int32)) (fn2 q3 (3 : Int32) v16 v18)))]))
        by_cases hc33 : (own_sel q3 v1 (3 : Int32)) = (fn2 q3 (3 : Int32) v16 v18)
        · refine Ends.via (fun _ k => XS.ifNo X32.here hx rfl (hb hby at_136) rfl ((if0 _ _).trans (teq ((lw_eq _ _).mpr hc33)).2) k) ?_
          show Ends p e below s 16 128 (Q0 Z q0 q1 q2 q3 p4  h0 n0) (T32.setTop (mkF m 139 #[.val (.long q0), .second, .val (.long q1), .second, .val (.long q2), .second, .val (.long q3), .second, .val (.int p4), .val (.int v1), .val (.ref b2), .val (.int v16), .val (.int v17), .val (.long v18), .second] []))
          refine Ends.via (fun _ k => XS.iconst X32.here hx rfl (hb hby at_139) k) ?_
          show Ends p e below s 16 128 (Q0 Z q0 q1 q2 q3 p4  h0 n0) (T32.setTop (mkF m 140 #[.val (.long q0), .second, .val (.long q1), .second, .val (.long q2), .second, .val (.long q3), .second, .val (.int p4), .val (.int v1), .val (.ref b2), .val (.int v16), .val (.int v17), .val (.long v18), .second] [(.int (1 : Int32))]))
          refine Ends.via (fun _ k => XS.goto X32.here hx rfl (pc0 := 140) (pc' := 144) rfl (hb hby at_140) (by decide) (by decide) k) ?_
          show Ends p e below s 16 128 (Q0 Z q0 q1 q2 q3 p4  h0 n0) (T32.setTop (mkF m 144 #[.val (.long q0), .second, .val (.long q1), .second, .val (.long q2), .second, .val (.long q3), .second, .val (.int p4), .val (.int v1), .val (.ref b2), .val (.int v16), .val (.int v17), .val (.long v18), .second] [(.int (1 : Int32))]))
          refine Ends.ret X32 (v := some (.int (nar .boolean (1 : Int32)))) (fun h => by rw [Bd.returns] at h; cases h) Bd.notSynchronized (fun fs hr => retN X32 hx (t := .boolean) Bd.returns (by simp) (hb hby at_144) hr) ?_ (by decide) (by decide)
          exact ⟨rfl, N32⟩
        · refine Ends.via (fun _ k => XS.ifYes X32.here hx rfl (pc0 := 136) (pc' := 143) rfl (hb hby at_136) rfl ((if0 _ _).trans (feq (mt (lw_eq _ _).mp hc33)).2) (by decide) (by decide) k) ?_
          show Ends p e below s 16 128 (Q0 Z q0 q1 q2 q3 p4  h0 n0) (T32.setTop (mkF m 143 #[.val (.long q0), .second, .val (.long q1), .second, .val (.long q2), .second, .val (.long q3), .second, .val (.int p4), .val (.int v1), .val (.ref b2), .val (.int v16), .val (.int v17), .val (.long v18), .second] []))
          refine Ends.via (fun _ k => XS.iconst X32.here hx rfl (hb hby at_143) k) ?_
          show Ends p e below s 16 128 (Q0 Z q0 q1 q2 q3 p4  h0 n0) (T32.setTop (mkF m 144 #[.val (.long q0), .second, .val (.long q1), .second, .val (.long q2), .second, .val (.long q3), .second, .val (.int p4), .val (.int v1), .val (.ref b2), .val (.int v16), .val (.int v17), .val (.long v18), .second] [(.int (0 : Int32))]))
          refine Ends.ret X32 (v := some (.int (nar .boolean (0 : Int32)))) (fun h => by rw [Bd.returns] at h; cases h) Bd.notSynchronized (fun fs hr => retN X32 hx (t := .boolean) Bd.returns (by simp) (hb hby at_144) hr) ?_ (by decide) (by decide)
          exact absurd (own_leaf1 q0 q1 q2 q3 p4 v1 v16 v17 v18 hv1 hv16 hv17 hv18 hc24 hc27 hc30 hc33) id
      · refine Ends.via (fun _ k => XS.ifYes X29.here hx rfl (pc0 := 118) (pc' := 143) rfl (hb hby at_118) rfl ((if0 _ _).trans (feq (mt (lw_eq _ _).mp hc30)).2) (by decide) (by decide) k) ?_
        show Ends p e below s 16 128 (Q0 Z q0 q1 q2 q3 p4  h0 n0) (T29.setTop (mkF m 143 #[.val (.long q0), .second, .val (.long q1), .second, .val (.long q2), .second, .val (.long q3), .second, .val (.int p4), .val (.int v1), .val (.ref b2), .val (.int v16), .val (.int v17), .val (.long v18), .second] []))
        refine Ends.via (fun _ k => XS.iconst X29.here hx rfl (hb hby at_143) k) ?_
        show Ends p e below s 16 128 (Q0 Z q0 q1 q2 q3 p4  h0 n0) (T29.setTop (mkF m 144 #[.val (.long q0), .second, .val (.long q1), .second, .val (.long q2), .second, .val (.long q3), .second, .val (.int p4), .val (.int v1), .val (.ref b2), .val (.int v16), .val (.int v17), .val (.long v18), .second] [(.int (0 : Int32))]))
        refine Ends.ret X29 (v := some (.int (nar .boolean (0 : Int32)))) (fun h => by rw [Bd.returns] at h; cases h) Bd.notSynchronized (fun fs hr => retN X29 hx (t := .boolean) Bd.returns (by simp) (hb hby at_144) hr) ?_ (by decide) (by decide)
        exact absurd (own_leaf2 q0 q1 q2 q3 p4 v1 v16 v17 v18 hv1 hv16 hv17 hv18 hc24 hc27 hc30) id
    · refine Ends.via (fun _ k => XS.ifYes X26.here hx rfl (pc0 := 100) (pc' := 143) rfl (hb hby at_100) rfl ((if0 _ _).trans (feq (mt (lw_eq _ _).mp hc27)).2) (by decide) (by decide) k) ?_
      show Ends p e below s 16 128 (Q0 Z q0 q1 q2 q3 p4  h0 n0) (T26.setTop (mkF m 143 #[.val (.long q0), .second, .val (.long q1), .second, .val (.long q2), .second, .val (.long q3), .second, .val (.int p4), .val (.int v1), .val (.ref b2), .val (.int v16), .val (.int v17), .val (.long v18), .second] []))
      refine Ends.via (fun _ k => XS.iconst X26.here hx rfl (hb hby at_143) k) ?_
      show Ends p e below s 16 128 (Q0 Z q0 q1 q2 q3 p4  h0 n0) (T26.setTop (mkF m 144 #[.val (.long q0), .second, .val (.long q1), .second, .val (.long q2), .second, .val (.long q3), .second, .val (.int p4), .val (.int v1), .val (.ref b2), .val (.int v16), .val (.int v17), .val (.long v18), .second] [(.int (0 : Int32))]))
      refine Ends.ret X26 (v := some (.int (nar .boolean (0 : Int32)))) (fun h => by rw [Bd.returns] at h; cases h) Bd.notSynchronized (fun fs hr => retN X26 hx (t := .boolean) Bd.returns (by simp) (hb hby at_144) hr) ?_ (by decide) (by decide)
      exact absurd (own_leaf3 q0 q1 q2 q3 p4 v1 v16 v17 v18 hv1 hv16 hv17 hv18 hc24 hc27) id
  · refine Ends.via (fun _ k => XS.ifYes X23.here hx rfl (pc0 := 83) (pc' := 143) rfl (hb hby at_83) rfl ((if0 _ _).trans (feq (mt (lw_eq _ _).mp hc24)).2) (by decide) (by decide) k) ?_
    show Ends p e below s 16 128 (Q0 Z q0 q1 q2 q3 p4  h0 n0) (T23.setTop (mkF m 143 #[.val (.long q0), .second, .val (.long q1), .second, .val (.long q2), .second, .val (.long q3), .second, .val (.int p4), .val (.int v1), .val (.ref b2), .val (.int v16), .val (.int v17), .val (.long v18), .second] []))
    refine Ends.via (fun _ k => XS.iconst X23.here hx rfl (hb hby at_143) k) ?_
    show Ends p e below s 16 128 (Q0 Z q0 q1 q2 q3 p4  h0 n0) (T23.setTop (mkF m 144 #[.val (.long q0), .second, .val (.long q1), .second, .val (.long q2), .second, .val (.long q3), .second, .val (.int p4), .val (.int v1), .val (.ref b2), .val (.int v16), .val (.int v17), .val (.long v18), .second] [(.int (0 : Int32))]))
    refine Ends.ret X23 (v := some (.int (nar .boolean (0 : Int32)))) (fun h => by rw [Bd.returns] at h; cases h) Bd.notSynchronized (fun fs hr => retN X23 hx (t := .boolean) Bd.returns (by simp) (hb hby at_144) hr) ?_ (by decide) (by decide)
    exact absurd (own_leaf4 q0 q1 q2 q3 p4 v1 v16 v17 v18 hv1 hv16 hv17 hv18 hc24) id
set_option maxRecDepth 65536 in
set_option maxHeartbeats 40000000 in
theorem comes_1 {Post : Tables → Env → Array Value → State → Outcome → State → Prop} (hpost : ∀ tb e args s v u, (limb_1_1.after args s (.returned v) u = true ∧ limb_1_2.after args s (.returned v) u = true ∧ True) → FrameEnd s (.returned v) u (Jvm.fieldLocs frame_1_writes args s ++ Jvm.arrayLocs frame_1_arrays args s ++ Jvm.staticLocs frame_1_statics s) 16 128 → Post tb e args s (.returned v) u) :
    ArmFor flags0 classFile x code maxLocals ret World_1 tables_1 room_1 Calls_1 rest_1 Pre_1 Post := by
  intro l hfl _ _ p e ha hc hk s m args below hf hA hF happ hP
  obtain ⟨hcalls, hrest, hpre⟩ := hP
  obtain ⟨-, -, -, hnamed, -, -, -, hat⟩ := (Spec.applies_iff hf).mp happ
  obtain ⟨hg, hn⟩ := and_e (Cond.before_iff.mp (show (Jvm.Cond.and given_1 narrow_1).before args s = true from hpre))
  obtain ⟨hcnt, g0⟩ := and_e hg
  obtain ⟨t0, g1⟩ := and_e g0
  obtain ⟨t1, g2⟩ := and_e g1
  obtain ⟨t2, g3⟩ := and_e g2
  obtain ⟨t3, g4⟩ := and_e g3
  obtain ⟨w0, w1, w2, w3, w4, rfl⟩ : ∃ w0 w1 w2 w3 w4 : Value, args = #[w0, w1, w2, w3, w4] := by
    have hs : args.size = 5 := by simpa [Cond.value, given_1] using hcnt
    obtain ⟨L⟩ := args
    match L, hs with
    | [w0, w1, w2, w3, w4], _ => exact ⟨w0, w1, w2, w3, w4, rfl⟩
  have hw := fun d (hd : d ∈ tables_1) => atoms_spec (ws := Jvm.Cond.code x code maxLocals ret :: tables_1) hat d (List.mem_cons_of_mem _ hd)
  obtain ⟨i0, ei0⟩ := isL_v t0
  obtain rfl : w0 = (.long i0) := Option.some.inj ei0
  obtain ⟨i1, ei1⟩ := isL_v t1
  obtain rfl : w1 = (.long i1) := Option.some.inj ei1
  obtain ⟨i2, ei2⟩ := isL_v t2
  obtain rfl : w2 = (.long i2) := Option.some.inj ei2
  obtain ⟨i3, ei3⟩ := isL_v t3
  obtain rfl : w3 = (.long i3) := Option.some.inj ei3
  obtain ⟨i4, ei4⟩ := is_v g4
  obtain rfl : w4 = (.int i4) := Option.some.inj ei4
  obtain ⟨n, o, h1, h2, h3, _, L, rfl, ⟨rfl, N⟩, hq⟩ := rm0 l s _ hw tables_1 i0 i1 i2 i3 i4 s.heap s.heap.size (Nat.le_refl _) p e ha hc hk s m _ below hf ((Spec.applies_iff_loose hf).mp happ).1 ⟨rfl, State.Warmed39.refl s, rfl⟩ trivial
  refine ⟨n, _, h1, h2, h3, hpost _ _ _ _ _ _ ⟨Cond.after_iff.mpr rfl, Cond.after_iff.mpr (eq_i res_at (Term.int_eval (1)) rfl), trivial⟩ ⟨hq.1, hq.2.1, (hq.2.2.sift fun y hy => Or.inr (N y hy)).mono (by decide) (by decide)⟩⟩
theorem main_1_1 : Claimed_1_1 := comes_1 fun _ _ _ _ _ _ h hF => ⟨h.1, hF⟩
theorem main_1_2 : Claimed_1_2 := comes_1 fun _ _ _ _ _ _ h hF => ⟨h.2.1, hF⟩
end Jvm.Pilot.@@N@@
namespace Jvm.Pilot.@@N@@
open Jvm Jvm.ClassFile Sem Op Lib Jvm.Free Jvm.Stand Jvm.Pilot.@@N@@.Jvm.D
/-! MADE BY PROGRAM (witnessworld.py) out of the Statement's table words and the real class files: 11 classes; the members and pool entries that the words name. The judged class is class 1, her method 2. -/
namespace start1
open Jvm.ClassFile
def u (s : String) : CpInfo := .utf8 (stringToUtf16 s)
/-- a pool by its gaps: so many unusable entries, then the entry; so many at the end -/
def gap : Nat → List CpInfo → List CpInfo
  | 0, r => r
  | n + 1, r => .unusable :: gap n r
def poolList (es : List (Nat × CpInfo)) (last : Nat) : List CpInfo := es.foldr (fun e r => gap e.1 (e.2 :: r)) (gap last [])
def pool (es : List (Nat × CpInfo)) (last : Nat) : Array CpInfo := ⟨poolList es last⟩
def fileOf (pool : Array CpInfo) (this : Nat) (attrs : Array Attribute := #[]) (ms : Array MethodInfo := #[]) (fl : Nat := 33) (sup : Nat := 0) (ifs : Array Nat := #[]) (fds : Array FieldInfo := #[]) : ClassFile where
  minorVersion := 0
  majorVersion := 65
  constantPool := pool
  accessFlags := fl
  thisClass := this
  superClass := sup
  interfaces := ifs
  fields := fds
  methods := ms
  attributes := attrs
def plain (name : String) (sup : Option ClassId) : Class where
  name := name
  kind := .ordinary
  loader := none
  accessFlags := 33
  super := sup
  interfaces := #[]
  cf := none
  fields := #[]
  methods := #[]
  instanceTypes := #[]
  staticTypes := #[]
  resolved := #[]
  callSites := []
  init := .initialized
  statics := none
  mirror := none

def pool0 : Array CpInfo := pool [(5, u "<init>"), (0, u "()V"), (1, .class_ 10), (1, u "java/lang/Object")] 113

def k0m0 : Method := { name := "<init>", desc := "()V", sig := { parameters := [], returnType := none }, accessFlags := 1, code := none }
/-- java/lang/Object -/
def k0 : Class := { plain "java/lang/Object" none with
  accessFlags := 33
  interfaces := #[]
  cf := some (fileOf pool0 8 #[] #[{ accessFlags := 1, nameIndex := 5, descriptorIndex := 6, attributes := #[] }] 33 0 #[] #[])
  fields := #[]
  methods := #[k0m0]
  instanceTypes := #[]
  staticTypes := #[]
  resolved := Array.replicate 124 none
  statics := none }

def pool1 : Array CpInfo := pool [(2, .class_ 4), (1, u "java/lang/Object"), (0, u "<init>"), (0, u "()V"), (0, .methodref 8 9), (0, .class_ 10), (0, .nameAndType 11 12), (0, u "org/graphstride/VertexBits"), (0, u "set"), (0, u "([JI)V"), (0, .methodref 14 15), (0, .class_ 16), (0, .nameAndType 17 18), (0, u "org/graphstride/VertexBitsSetPinLaw"), (0, u "expect"), (0, u "(JIIJ)J"), (3, u "law"), (0, u "(JJJJI)Z")] 4

def k1m0 : Method := { name := "<init>", desc := "()V", sig := { parameters := [], returnType := none }, accessFlags := 1, code := none }
def k1c1 : Code := { maxStack := 4, maxLocals := 6, code := method_2_code, exceptionTable := #[], attributes := #[] }
def k1m1 : Method := { name := "expect", desc := "(JIIJ)J", sig := { parameters := [.long, .int, .int, .long], returnType := some .long }, accessFlags := 10, code := some k1c1 }
def k1c2 : Code := { maxStack := 8, maxLocals := 15, code := code, exceptionTable := #[], attributes := #[] }
def k1m2 : Method := { name := "law", desc := "(JJJJI)Z", sig := { parameters := [.long, .long, .long, .long, .int], returnType := some .boolean }, accessFlags := 9, code := some k1c2 }
/-- org/graphstride/VertexBitsSetPinLaw -/
def k1 : Class := { plain "org/graphstride/VertexBitsSetPinLaw" (some 0) with
  accessFlags := 49
  interfaces := #[]
  cf := some (fileOf pool1 14 #[] #[{ accessFlags := 1, nameIndex := 5, descriptorIndex := 6, attributes := #[] }, { accessFlags := 10, nameIndex := 17, descriptorIndex := 18, attributes := #[] }, { accessFlags := 9, nameIndex := 22, descriptorIndex := 23, attributes := #[] }] 49 2 #[] #[])
  fields := #[]
  methods := #[k1m0, k1m1, k1m2]
  instanceTypes := #[]
  staticTypes := #[]
  resolved := Array.replicate 28 none
  statics := none }

def pool2 : Array CpInfo := pool [(2, .class_ 4), (1, u "java/lang/Object"), (0, u "<init>"), (0, u "()V"), (4, .class_ 12), (0, u "org/graphstride/VertexBits"), (7, u "set"), (0, u "([JI)V")] 2

def k2m0 : Method := { name := "<init>", desc := "()V", sig := { parameters := [], returnType := none }, accessFlags := 2, code := none }
def k2c1 : Code := { maxStack := 7, maxLocals := 2, code := prog_56_method_4_code, exceptionTable := #[], attributes := #[] }
def k2m1 : Method := { name := "set", desc := "([JI)V", sig := { parameters := [(.array .long), .int], returnType := none }, accessFlags := 8, code := some k2c1 }
/-- org/graphstride/VertexBits -/
def k2 : Class := { plain "org/graphstride/VertexBits" (some 0) with
  accessFlags := 48
  interfaces := #[]
  cf := some (fileOf pool2 11 #[] #[{ accessFlags := 2, nameIndex := 5, descriptorIndex := 6, attributes := #[] }, { accessFlags := 8, nameIndex := 20, descriptorIndex := 21, attributes := #[] }] 48 2 #[] #[])
  fields := #[]
  methods := #[k2m0, k2m1]
  instanceTypes := #[]
  staticTypes := #[]
  resolved := Array.replicate 24 none
  statics := none }

def pool3 : Array CpInfo := pool [(1, u "java/lang/Cloneable"), (0, .class_ 1), (0, u "java/lang/Object"), (0, .class_ 3)] 3

/-- java/lang/Cloneable -/
def k3 : Class := { plain "java/lang/Cloneable" (some 0) with
  accessFlags := 1537
  interfaces := #[]
  cf := some (fileOf pool3 2 #[] #[] 1537 4 #[] #[])
  fields := #[]
  methods := #[]
  instanceTypes := #[]
  staticTypes := #[]
  resolved := Array.replicate 8 none
  statics := none }

def pool4 : Array CpInfo := pool [(1, u "java/io/Serializable"), (0, .class_ 1), (0, u "java/lang/Object"), (0, .class_ 3)] 3

/-- java/io/Serializable -/
def k4 : Class := { plain "java/io/Serializable" (some 0) with
  accessFlags := 1537
  interfaces := #[]
  cf := some (fileOf pool4 2 #[] #[] 1537 4 #[] #[])
  fields := #[]
  methods := #[]
  instanceTypes := #[]
  staticTypes := #[]
  resolved := Array.replicate 8 none
  statics := none }

/-- the primitive byte -/
def k5 : Class := { plain "byte" none with kind := .primitive 'B', accessFlags := 0x411 }
/-- [B -/
def k6 : Class := { plain "[B" (some 0) with kind := .array 5 .byte, interfaces := #[3, 4], accessFlags := 1041 }

/-- the primitive int -/
def k7 : Class := { plain "int" none with kind := .primitive 'I', accessFlags := 0x411 }
/-- [I -/
def k8 : Class := { plain "[I" (some 0) with kind := .array 7 .int, interfaces := #[3, 4], accessFlags := 1041 }

/-- the primitive long -/
def k9 : Class := { plain "long" none with kind := .primitive 'J', accessFlags := 0x411 }
/-- [J -/
def k10 : Class := { plain "[J" (some 0) with kind := .array 9 .long, interfaces := #[3, 4], accessFlags := 1041 }

def heap : Heap := #[]
def classes : Array Class := #[k0, k1, k2, k3, k4, k5, k6, k7, k8, k9, k10]
def interned : List (Array UInt16 × Addr) := []
def slotsUsed : Nat := 0
def theMethod : MethodId := ⟨1, 2⟩
def args0 : Array Value := #[.long 5, .long 5, .long 5, .long 5, .int 5]
def aboutOver (below : List Frame) : State where
  vm := { classes := classes, interned := interned.toArray }
  heap := heap
  slotsUsed := slotsUsed
  threads := #[{ frames := .invoking theMethod args0 :: below }]
def below0 : List Frame := [.native { method := ⟨0, 0⟩, args := #[] }]
def about1 : State := aboutOver below0
def p0 : Program := .bare "" "" ""
def e0 : Env := launch0.env 0 0 0
theorem w_frames : about1.frames = Frame.invoking theMethod args0 :: below0 := rfl
set_option maxRecDepth 65536 in
theorem w_args : argsFit about1.vm theMethod args0 = true := by decide +kernel
set_option maxRecDepth 65536 in
theorem w_heap : heapFits about1 = true := by decide +kernel
set_option maxRecDepth 65536 in
theorem w_runnable : about1.curStatus? = some .runnable := by decide +kernel
set_option maxRecDepth 65536 in
theorem w_alone : about1.alone = true := by decide +kernel
set_option maxRecDepth 65536 in
theorem w_named : about1.methodNamed? x = some theMethod := by decide +kernel
set_option maxRecDepth 65536 in
theorem w_hears : about1.hears theMethod below0 = true := by decide +kernel
set_option maxRecDepth 65536 in
theorem w_ripe : about1.ripe theMethod args0 below0 = true := by decide +kernel
theorem w_running : about1.status = .running := rfl
set_option maxRecDepth 65536 in
theorem w_room : about1.hasRoom e0.platform room_1 = true :=
  launch0.hasRoom_least _ room_1 (by decide +kernel) (by decide +kernel) (by decide +kernel) (by decide +kernel) (by decide +kernel) (by decide +kernel)
theorem allAtoms_all (ts : List Jvm.Cond) (a : Array Jvm.Value) (st : Jvm.State) : (allAtoms ts).before a st = ts.all (fun c => c.before a st) := by
  induction ts with
  | nil => rfl
  | cons c t ih =>
    show (Jvm.Cond.and c (allAtoms t)).before a st = _
    rw [Jvm.Cond.before_and, ih, List.all_cons]
def words1 : List Jvm.Cond := Jvm.Cond.code x code maxLocals ret :: tables_1
/-- a 'code' word, met by the world's own term for the bytes: nothing is compared byte by byte -/
theorem code_word {y : MethodName} {bytes : ByteArray} {mx : Nat} {rt : Option FieldType} {a : Array Value} {s : State} {m : MethodId} {meth : Method} {c : Code} (h1 : s.methodNamed? y = some m) (h2 : s.vm.method? m = some meth) (h3 : meth.code = some c) (h4 : c.code = bytes)
    (h5 : (c.maxLocals == mx && c.exceptionTable.isEmpty && decide (c.maxStack ≤ mostOperands) && decide (meth.sig.returnType = rt) && !meth.locks && decide (parseMethodDescriptor y.desc = some meth.sig)) = true) : (Jvm.Cond.code y bytes mx rt).before a s = true := by
  simp only [Bool.and_eq_true, beq_iff_eq, Bool.not_eq_true', decide_eq_true_eq] at h5
  obtain ⟨⟨⟨⟨⟨g1, g2⟩, g3⟩, g4⟩, g5⟩, g6⟩ := h5
  simp [Cond.before, Cond.holds, Cond.value, h1, h2, h3, h4, g1, g2, g3, g4, g5, g6]
def isCode : Jvm.Cond → Bool
  | .code _ _ _ _ => true
  | _ => false
theorem all_split {L : List Jvm.Cond} {P : Jvm.Cond → Bool} (h1 : L.all (fun c => isCode c || P c) = true) (h2 : ∀ c ∈ L.filter isCode, P c = true) : L.all P = true := by
  refine List.all_eq_true.mpr fun c hc => ?_
  have h := List.all_eq_true.mp h1 c hc
  rcases Bool.eq_false_or_eq_true (isCode c) with hi | hi
  · exact h2 c (List.mem_filter.mpr ⟨hc, hi⟩)
  · simpa [hi] using h
set_option maxRecDepth 65536 in
theorem w_c0 : (Jvm.Cond.code x code maxLocals ret).before args0 about1 = true := code_word (m := ⟨1, 2⟩) (meth := k1m2) (c := k1c2) (by decide +kernel) rfl rfl rfl (by decide +kernel)
set_option maxRecDepth 65536 in
theorem w_c1 : (Jvm.Cond.code ({ cls := "org/graphstride/VertexBits", name := "set", desc := "([JI)V" } : Jvm.MethodName) prog_56_method_4_code (2 : Nat) (Option.none : Option Jvm.ClassFile.FieldType)).before args0 about1 = true := code_word (m := ⟨2, 1⟩) (meth := k2m1) (c := k2c1) (by decide +kernel) rfl rfl rfl (by decide +kernel)
set_option maxRecDepth 65536 in
theorem w_c2 : (Jvm.Cond.code ({ cls := "org/graphstride/VertexBitsSetPinLaw", name := "expect", desc := "(JIIJ)J" } : Jvm.MethodName) method_2_code (6 : Nat) (Option.some Jvm.ClassFile.FieldType.long)).before args0 about1 = true := code_word (m := ⟨1, 1⟩) (meth := k1m1) (c := k1c1) (by decide +kernel) rfl rfl rfl (by decide +kernel)
def codes1 : List Jvm.Cond := [Jvm.Cond.code x code maxLocals ret, Jvm.Cond.code ({ cls := "org/graphstride/VertexBits", name := "set", desc := "([JI)V" } : Jvm.MethodName) prog_56_method_4_code (2 : Nat) (Option.none : Option Jvm.ClassFile.FieldType), Jvm.Cond.code ({ cls := "org/graphstride/VertexBitsSetPinLaw", name := "expect", desc := "(JIIJ)J" } : Jvm.MethodName) method_2_code (6 : Nat) (Option.some Jvm.ClassFile.FieldType.long)]
set_option maxRecDepth 65536 in
theorem codes_eq : words1.filter isCode = codes1 := rfl
theorem w_codes : ∀ c ∈ words1.filter isCode, c.before args0 about1 = true := by
  rw [codes_eq]
  intro c hc
  simp only [codes1, List.mem_cons, List.not_mem_nil, or_false] at hc
  rcases hc with rfl | rfl | rfl
  · exact w_c0
  · exact w_c1
  · exact w_c2
set_option maxRecDepth 65536 in
theorem w_t1 : words1.all (fun c => isCode c || c.before args0 about1) = true := by decide +kernel
theorem w_tables : (allAtoms (Jvm.Cond.code x code maxLocals ret :: tables_1)).before args0 about1 = true := by
  rw [allAtoms_all]
  show words1.all (fun c => c.before args0 about1) = true
  refine all_split ?_ w_codes
  rw [w_t1]
set_option maxRecDepth 65536 in
theorem w_case : (Jvm.Cond.and given_1 narrow_1).before args0 about1 = true := by decide +kernel
theorem w_applies : (headSpec (Jvm.Cond.code x code maxLocals ret :: tables_1) room_1).applies x e0.platform about1 = true :=
  (Spec.applies_iff w_frames).mpr ⟨w_running, w_runnable, w_alone, w_named, w_hears, w_ripe, w_room, w_tables⟩
theorem atStart : AtStart classFile x code maxLocals ret World_1 tables_1 room_1 Calls_1 rest_1 Pre_1 launch0 p0 e0 about1 theMethod args0 below0 :=
  ⟨lists_1, trivial, launch0.admits_env _ _ _, launch0.least_env, fairChoices_fair.cas, fairChoices_fair.clock, w_frames, w_args, w_heap, w_applies, trivial, trivial, w_case⟩
end start1
theorem witness_1 : WitnessClaimed_1 := ⟨start1.p0, start1.e0, start1.about1, start1.theMethod, start1.args0, start1.below0, start1.atStart⟩
end Jvm.Pilot.@@N@@
